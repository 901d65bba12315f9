import JvmDerived
import JvmDerived.Pilot.@@N@@Statement
import JvmDerived.Pilot.@@N@@Code
set_option linter.unusedVariables false
set_option linter.unusedSimpArgs false
namespace Jvm.RoadKit
open Sem ClassFile Op Lib Jvm.Stand Jvm.Free Jvm.LawKit
section New
variable {p : Program} {l : Launch} {e : Env} {R : Room} {s : State} {m : MethodId} {args : Array Value} {below : List Frame} {meth : Method} {c : Code} {T : State} {locs : List Loc} {cells slots : Nat}
theorem retI (X : Stand p l e R s m args below meth c T locs cells slots) (hx : p.tables.exec = Jvm.exec) {pc : Nat} {Ls : Array Slot} {z : Int32} {rest : List Value} (hret : meth.sig.returnType = some .int) (hd : decode c.code pc = .ok (.ireturn, 1)) {fs : List Frame}
    (hl : ∀ (f : JFrame) (acts : List Action), f.method = m → f.locked = none → f.entered = [] → (doReturn e (T.setTop f) acts (some (.int z))).1 = T.setFrames fs) : Steps p.tables e below (T.setTop (mkF m pc Ls (.int z :: rest))) (T.setFrames fs) := by
  have hm' : T.vm.method? m = some meth := X.method'
  have hn : narrow .int (.int z) = .int z := rfl
  show Steps p.tables e below (T.setTop { method := m, pc := pc, locals := Ls, stack := _ :: rest, locked := none }) _
  jvm_step X.here [X.here.top, hx, hd, hm', hret, hn]
  first | (intro acts; rw [hl _ acts rfl rfl rfl]) | rw [hl _ _ rfl rfl rfl]
  exact Steps.refl _
end New
end Jvm.RoadKit
namespace Jvm.Pilot.@@N@@
open Jvm Jvm.ClassFile Sem Op Lib Jvm.Free Jvm.Stand Jvm.LawKit Jvm.RoadKit Bundle Jvm.Pilot.@@N@@.Jvm.D
theorem own_eqI {args : Array Value} {s : State} {t : Term} {k : Int32} (h : (Jvm.Cond.eq t (.int k)).value args s none s [] = some true) : t.eval args s none [] s = some (.int k) := by
  obtain ⟨x, y, hx, hy, -, k2⟩ := cmp_v (Or.inl h)
  obtain rfl : y = .int k := (Option.some.inj ((Term.int_eval k).symm.trans hy)).symm
  obtain ⟨z, rfl⟩ := k2
  have := gotT (Cond.eq_ints hx (Term.int_eval k)) h
  rw [hx, this]
def Q0 (n0 : Nat) (v : Option Value) (L : List Loc) : Prop := v = some (.int 1) ∧ Fr n0 L
theorem own_len {s : State} {args : Array Value} {t : Term} {a : Addr} {c : Cell} {z : Int32} (ev : t.eval args s none [] s = some (.ref a)) (fl : s.arrayAt? a = some c) (el : (Term.length t).eval args s none [] s = some (.int z)) : c.slots.size < 2 ^ 31 ∧ c.slots.size.toInt32 = z := by
  simp only [Term.eval, ev] at el
  by_cases q : c.slots.size < 2 ^ 31
  · simp [fl, q] at el; exact ⟨q, el⟩
  · simp [fl, q] at el
theorem own_arr0 {s : State} {args : Array Value} {t : Term} {a : Addr} {K : String} (hf : Fit s) (ev : t.eval args s none [] s = some (.ref a)) (ha : (Jvm.Cond.arrayOf t (.object K)).value args s none s [] = some true) (hl : (Jvm.Cond.eq (.length t) (.int 0)).value args s none s [] = some true) :
    ∃ k, Arv s s.heap a k (.object K) (0 : Int32) [] .null := by
  obtain ⟨c, A⟩ := Arr.start ev ha
  have hq := own_len ev (A.fin (Vm.Alike.refl _)) (own_eqI hl)
  exact ⟨_, Arv.start hf A hq.1 hq.2 (by decide) rfl trivial⟩
set_option maxRecDepth 65536
set_option maxHeartbeats 40000000
abbrev HW (a0 : Array Value) (Z : State) : Prop := ∀ d ∈ tables_1, d.before a0 Z = true
abbrev s0 : String := "DEFAULTCAPACITY_EMPTY_ELEMENTDATA"
abbrev s1 : String := "EMPTY_LIST"
abbrev s2 : String := "Ljava/lang/Object;"
abbrev s3 : String := "Ljava/lang/String;"
abbrev s4 : String := "Ljava/util/ArrayList;"
abbrev s5 : String := "Ljava/util/ImmutableCollections$ListN;"
abbrev s6 : String := "Ljava/util/List;"
abbrev s7 : String := "Ljava/util/Optional;"
abbrev s8 : String := "[Ljava/lang/Object;"
abbrev s9 : String := "arraycopy"
abbrev s11 : String := "decision"
abbrev s12 : String := "elementData"
abbrev s13 : String := "elements"
abbrev s14 : String := "expectedModCount"
abbrev s15 : String := "fieldCount"
abbrev s16 : String := "getClass"
abbrev s17 : String := "isListIterator"
abbrev s18 : String := "iterator"
abbrev s20 : String := "java/lang/Object"
abbrev s21 : String := "java/lang/Record"
abbrev s22 : String := "java/lang/String"
abbrev s23 : String := "java/lang/System"
abbrev s24 : String := "java/util/AbstractCollection"
abbrev s25 : String := "java/util/AbstractList"
abbrev s26 : String := "java/util/ArrayList"
abbrev s27 : String := "java/util/ArrayList$Itr"
abbrev s28 : String := "java/util/Arrays"
abbrev s29 : String := "java/util/Collection"
abbrev s30 : String := "java/util/ImmutableCollections"
abbrev s31 : String := "java/util/ImmutableCollections$AbstractImmutableCollection"
abbrev s32 : String := "java/util/ImmutableCollections$AbstractImmutableList"
abbrev s33 : String := "java/util/ImmutableCollections$List12"
abbrev s34 : String := "java/util/ImmutableCollections$ListItr"
abbrev s35 : String := "java/util/ImmutableCollections$ListN"
abbrev s36 : String := "java/util/Iterator"
abbrev s37 : String := "java/util/List"
abbrev s39 : String := "java/util/Optional"
abbrev s41 : String := "modCount"
abbrev s43 : String := "shadowsift/core/Bounds"
abbrev s44 : String := "shadowsift/core/BoundsMeetPinLaw"
abbrev s45 : String := "shadowsift/core/Box"
abbrev s46 : String := "shadowsift/core/Decision"
abbrev s47 : String := "shadowsift/core/Rule"
abbrev s48 : String := "shadowsift/core/ValueSet"
abbrev jv (x : Int64) : Slot := .val (.long x)
abbrev uu : Slot := .unset
abbrev sc : Slot := .second
abbrev SS (p : Program) (e : Env) (b : List Frame) (T : State) (m : MethodId) (pc : Nat) (L : Array Slot) (S : List Value) (t : State) : Prop := Steps p.tables e b (T.setTop (mkF m pc L S)) t
abbrev mn1 : MethodName := (⟨"shadowsift/core/BoundsMeetPinLaw", "low", "(JI)J"⟩ : MethodName)
abbrev mn2 : MethodName := (⟨"java/lang/Math", "min", "(JJ)J"⟩ : MethodName)
abbrev mn3 : MethodName := (⟨"shadowsift/core/BoundsMeetPinLaw", "high", "(JI)J"⟩ : MethodName)
abbrev mn4 : MethodName := (⟨"java/lang/Math", "max", "(JJ)J"⟩ : MethodName)
abbrev mn5 : MethodName := (⟨"shadowsift/core/Decision", "<init>", "(Ljava/lang/String;)V"⟩ : MethodName)
abbrev mn6 : MethodName := (⟨"java/lang/Record", "<init>", "()V"⟩ : MethodName)
abbrev mn7 : MethodName := (⟨"java/lang/Object", "<init>", "()V"⟩ : MethodName)
abbrev mn8 : MethodName := (⟨"java/util/Objects", "requireNonNull", "(Ljava/lang/Object;Ljava/lang/String;)Ljava/lang/Object;"⟩ : MethodName)
abbrev mn9 : MethodName := (⟨"java/util/ArrayList", "<init>", "()V"⟩ : MethodName)
abbrev mn10 : MethodName := (⟨"java/util/AbstractList", "<init>", "()V"⟩ : MethodName)
abbrev mn11 : MethodName := (⟨"java/util/AbstractCollection", "<init>", "()V"⟩ : MethodName)
abbrev mn12 : MethodName := (⟨"shadowsift/core/ValueSet", "range", "(JJ)Lshadowsift/core/ValueSet;"⟩ : MethodName)
abbrev mn13 : MethodName := (⟨"shadowsift/core/ValueSet", "<init>", "([J[J)V"⟩ : MethodName)
abbrev mn14 : MethodName := (⟨"java/util/ArrayList", "add", "(Ljava/lang/Object;)Z"⟩ : MethodName)
abbrev mn15 : MethodName := (⟨"java/util/ArrayList", "add", "(Ljava/lang/Object;[Ljava/lang/Object;I)V"⟩ : MethodName)
abbrev mn16 : MethodName := (⟨"java/util/ArrayList", "grow", "()[Ljava/lang/Object;"⟩ : MethodName)
abbrev mn17 : MethodName := (⟨"java/util/ArrayList", "grow", "(I)[Ljava/lang/Object;"⟩ : MethodName)
abbrev mn18 : MethodName := (⟨"java/lang/Math", "max", "(II)I"⟩ : MethodName)
abbrev mn19 : MethodName := (⟨"shadowsift/core/Box", "<init>", "(Ljava/util/List;)V"⟩ : MethodName)
abbrev mn20 : MethodName := (⟨"java/util/List", "copyOf", "(Ljava/util/Collection;)Ljava/util/List;"⟩ : MethodName)
abbrev mn21 : MethodName := (⟨"java/util/ImmutableCollections", "listCopy", "(Ljava/util/Collection;)Ljava/util/List;"⟩ : MethodName)
abbrev mn22 : MethodName := (⟨"java/util/ArrayList", "isEmpty", "()Z"⟩ : MethodName)
abbrev mn23 : MethodName := (⟨"java/util/ArrayList", "toArray", "()[Ljava/lang/Object;"⟩ : MethodName)
abbrev mn24 : MethodName := (⟨"java/util/Arrays", "copyOf", "([Ljava/lang/Object;I)[Ljava/lang/Object;"⟩ : MethodName)
abbrev mn25 : MethodName := (⟨"java/util/Arrays", "copyOf", "([Ljava/lang/Object;ILjava/lang/Class;)[Ljava/lang/Object;"⟩ : MethodName)
abbrev mn26 : MethodName := (⟨"java/lang/Math", "min", "(II)I"⟩ : MethodName)
abbrev mn27 : MethodName := (⟨"java/util/List", "of", "([Ljava/lang/Object;)Ljava/util/List;"⟩ : MethodName)
abbrev mn28 : MethodName := (⟨"java/util/ImmutableCollections$List12", "<init>", "(Ljava/lang/Object;Ljava/lang/Object;)V"⟩ : MethodName)
abbrev mn29 : MethodName := (⟨"java/util/ImmutableCollections$AbstractImmutableList", "<init>", "()V"⟩ : MethodName)
abbrev mn30 : MethodName := (⟨"java/util/ImmutableCollections$AbstractImmutableCollection", "<init>", "()V"⟩ : MethodName)
abbrev mn31 : MethodName := (⟨"java/util/Objects", "requireNonNull", "(Ljava/lang/Object;)Ljava/lang/Object;"⟩ : MethodName)
abbrev mn32 : MethodName := (⟨"shadowsift/core/Rule", "<init>", "(Lshadowsift/core/Decision;Ljava/util/List;)V"⟩ : MethodName)
abbrev mn33 : MethodName := (⟨"java/util/Optional", "of", "(Ljava/lang/Object;)Ljava/util/Optional;"⟩ : MethodName)
abbrev mn34 : MethodName := (⟨"java/util/Optional", "<init>", "(Ljava/lang/Object;)V"⟩ : MethodName)
abbrev mn35 : MethodName := (⟨"shadowsift/core/Rule", "<init>", "(Ljava/util/Optional;Ljava/util/List;Z)V"⟩ : MethodName)
abbrev mn36 : MethodName := (⟨"java/util/ImmutableCollections$List12", "<init>", "(Ljava/lang/Object;)V"⟩ : MethodName)
abbrev mn37 : MethodName := (⟨"shadowsift/core/Bounds", "<init>", "(ILjava/util/List;)V"⟩ : MethodName)
abbrev mn38 : MethodName := (⟨"java/util/ArrayList", "size", "()I"⟩ : MethodName)
abbrev mn39 : MethodName := (⟨"java/util/ArrayList", "iterator", "()Ljava/util/Iterator;"⟩ : MethodName)
abbrev mn40 : MethodName := (⟨"java/util/ArrayList$Itr", "<init>", "(Ljava/util/ArrayList;)V"⟩ : MethodName)
abbrev mn41 : MethodName := (⟨"java/util/ArrayList$Itr", "hasNext", "()Z"⟩ : MethodName)
abbrev mn42 : MethodName := (⟨"java/util/ArrayList$Itr", "next", "()Ljava/lang/Object;"⟩ : MethodName)
abbrev mn43 : MethodName := (⟨"java/util/ArrayList$Itr", "checkForComodification", "()V"⟩ : MethodName)
abbrev mn44 : MethodName := (⟨"shadowsift/core/Rule", "match", "()Ljava/util/List;"⟩ : MethodName)
abbrev mn45 : MethodName := (⟨"java/util/ImmutableCollections$AbstractImmutableList", "iterator", "()Ljava/util/Iterator;"⟩ : MethodName)
abbrev mn46 : MethodName := (⟨"java/util/ImmutableCollections$List12", "size", "()I"⟩ : MethodName)
abbrev mn47 : MethodName := (⟨"java/util/ImmutableCollections$ListItr", "<init>", "(Ljava/util/List;I)V"⟩ : MethodName)
abbrev mn48 : MethodName := (⟨"java/util/ImmutableCollections$ListItr", "hasNext", "()Z"⟩ : MethodName)
abbrev mn49 : MethodName := (⟨"java/util/ImmutableCollections$ListItr", "next", "()Ljava/lang/Object;"⟩ : MethodName)
abbrev mn50 : MethodName := (⟨"java/util/ImmutableCollections$List12", "get", "(I)Ljava/lang/Object;"⟩ : MethodName)
abbrev mn51 : MethodName := (⟨"shadowsift/core/Box", "sets", "()Ljava/util/List;"⟩ : MethodName)
abbrev mn52 : MethodName := (⟨"shadowsift/core/ValueSet", "min", "()J"⟩ : MethodName)
abbrev mn53 : MethodName := (⟨"shadowsift/core/ValueSet", "max", "()J"⟩ : MethodName)
abbrev mn54 : MethodName := (⟨"shadowsift/core/BoundsMeetPinLaw", "overlap", "(JJJJ)Z"⟩ : MethodName)
abbrev mn55 : MethodName := (⟨"shadowsift/core/Bounds", "meet", "(II)Z"⟩ : MethodName)
abbrev mn56 : MethodName := (⟨"java/util/List", "of", "()Ljava/util/List;"⟩ : MethodName)
abbrev mn57 : MethodName := (⟨"java/util/ImmutableCollections$ListN", "size", "()I"⟩ : MethodName)
def MF (l : Launch) (Z : State) (y : MethodName) (bytes : ByteArray) (maxL : Nat) (ret : Option FieldType) (R : Room) (A : Array Value) (h0 : Heap) (Q : Option Value → Heap → List Loc → Prop) : Prop :=
  MetFree l y (head1 [Jvm.Cond.code y bytes maxL ret] R) (fun a U => a = A ∧ Z.Warmed39 U.vm ∧ U.heap = h0) (fun _ _ _ _ _ => True) (fun _ U o U' => ∃ v L, o = .returned v ∧ Q v U'.heap L ∧ FrameEnd U o U' L R.cells R.slots)
def MW (l : Launch) (Z : State) (y : MethodName) (bytes : ByteArray) (maxL : Nat) (ret : Option FieldType) (hs : List (Nat × Nat × Nat × Nat)) (R : Room) (A : Array Value) (h0 : Heap) (Q : Option Value → Heap → List Loc → Prop) : Prop :=
  MetFree l y (head1 [Jvm.Cond.codeWith y bytes maxL ret hs] R) (fun a U => a = A ∧ Z.Warmed39 U.vm ∧ U.heap = h0) (fun _ _ _ _ _ => True) (fun _ U o U' => ∃ v L, o = .returned v ∧ Q v U'.heap L ∧ FrameEnd U o U' L R.cells R.slots)
abbrev QR (n0 : Nat) (h0 : Heap) (r : Option Value) (v : Option Value) (h : Heap) (L : List Loc) : Prop := v = r ∧ Fr n0 L ∧ h = h0
abbrev RT (T : State) (e : Env) (m : MethodId) (v : Option Value) (fs : List Frame) : Prop := ∀ (f : JFrame) (acts : List Action), f.method = m → f.locked = none → f.entered = [] → (doReturn e (T.setTop f) acts v).1 = T.setFrames fs
abbrev EN (p : Program) (l : Launch) (e : Env) (R : Room) (s : State) (m : MethodId) (A : Array Value) (below : List Frame) (meth : Method) (c : Code) (s₁ : State) (L0 : Array Slot) (ret : Option FieldType) (Q : Option Value → Heap → List Loc → Prop) : Prop :=
  ∃ v T h L k j, Stand p l e R s m A below meth c T L k j ∧ T.heap = h ∧ (k ≤ R.cells ∧ j ≤ R.slots) ∧ (ret = none → v = none) ∧ (∀ fs, RT T e m v fs → Steps p.tables e below (s₁.setTop (mkF m 0 L0 [])) (T.setFrames fs)) ∧ Q v h L
theorem hst0 {s s₁ : State} {fs : List Frame} {h0 : Heap} (h : s₁ = s.setFrames fs) (hh : s.heap = h0) : s₁.heap = h0 := by subst h; exact hh
theorem own_start {l : Launch} {Z : State} {y : MethodName} {bytes : ByteArray} {maxL : Nat} {ret : Option FieldType} {R : Room} {A : Array Value} {h0 : Heap} {Q : Option Value → Heap → List Loc → Prop} {L0 : Array Slot}
    (hp : plainFor y = true) (hef : ∀ m, entryFrame m A maxL = mkF m 0 L0 [])
    (body : ∀ p e s m below meth c s₁, Z.Warmed39 s.vm → p.tables.exec = Jvm.exec → c.code = bytes → c.maxLocals = maxL → s.vm.findClass y.cls = some m.cls → meth.name = y.name → meth.sig.returnType = ret → Stand p l e R s m A below meth c s₁ [] 0 0 → s₁.heap = h0 → EN p l e R s m A below meth c s₁ L0 ret Q) :
    MF l Z y bytes maxL ret R A h0 Q := by
  refine MetFree.of_bodySF hp hisR ?_
  intro p e s m args below meth c s₁ Bd hml0 hP hK
  obtain ⟨rfl, hZ, hh⟩ := hP
  obtain ⟨v, T, h, L, k, j, X, rfl, hkj, hv, hst, hQ⟩ := body p e s m below meth c s₁ hZ Bd.exec Bd.bytes hml0 (findClass_of_methodNamed Bd.named) (name_of_methodNamed Bd.named Bd.method).1 Bd.returns (Stand.of_body Bd) (hst0 Bd.state hh)
  obtain ⟨fs, hr, hrun, hended, hW, hsame⟩ := X.leave (v := v) (fun h => hv (Bd.returns ▸ h))
  exact ⟨_, _, castTop (hef m) (hst fs hr), hrun, hended, _, _, rfl, hQ, ⟨_, rfl⟩, hW, hsame.mono hkj.1 hkj.2⟩
theorem own_startW {l : Launch} {Z : State} {y : MethodName} {bytes : ByteArray} {maxL : Nat} {ret : Option FieldType} {hs : List (Nat × Nat × Nat × Nat)} {R : Room} {A : Array Value} {h0 : Heap} {Q : Option Value → Heap → List Loc → Prop} {L0 : Array Slot}
    (hp : plainFor y = true) (hef : ∀ m, entryFrame m A maxL = mkF m 0 L0 [])
    (body : ∀ p e s m below meth c s₁, Z.Warmed39 s.vm → p.tables.exec = Jvm.exec → c.code = bytes → c.maxLocals = maxL → s.vm.findClass y.cls = some m.cls → meth.name = y.name → meth.sig.returnType = ret → Stand p l e R s m A below meth c s₁ [] 0 0 → s₁.heap = h0 → EN p l e R s m A below meth c s₁ L0 ret Q) :
    MW l Z y bytes maxL ret hs R A h0 Q := by
  refine MetFree.of_bodySF hp hisWith ?_
  intro p e s m args below meth c s₁ Bd hml0 hP hK
  obtain ⟨rfl, hZ, hh⟩ := hP
  obtain ⟨v, T, h, L, k, j, X, rfl, hkj, hv, hst, hQ⟩ := body p e s m below meth c s₁ hZ Bd.exec Bd.bytes hml0 (findClass_of_methodNamed Bd.named) (name_of_methodNamed Bd.named Bd.method).1 Bd.returns (Stand.of_body Bd) (hst0 Bd.state hh)
  obtain ⟨fs, hr, hrun, hended, hW, hsame⟩ := X.leave (v := v) (fun h => hv (Bd.returns ▸ h))
  exact ⟨_, _, castTop (hef m) (hst fs hr), hrun, hended, _, _, rfl, hQ, ⟨_, rfl⟩, hW, hsame.mono hkj.1 hkj.2⟩
section Calls
variable {p : Program} {l : Launch} {e : Env} {R : Room} {s : State} {m : MethodId} {args : Array Value} {below : List Frame} {meth : Method} {c : Code} {T : State} {locs : List Loc} {cells slots : Nat} {Z : State} {a0 : Array Value} {y xi : MethodName} {own C : String} {index na maxL : Nat} {bytes : ByteArray} {ret : Option FieldType} {rm : Room} {A : Array Value} {h : Heap} {Q : Option Value → Heap → List Loc → Prop} {ml pc : Nat} {Ls : Array Slot}
abbrev B4 (a0 : Array Value) (Z : State) (d : Jvm.Cond) : Prop := d.before a0 Z = true
abbrev BT (a0 : Array Value) (Z : State) (d : Jvm.Cond) : Prop := d.before a0 Z = true ∧ (d.onTables && d.keepsFace) = true
abbrev NH (C : String) : Prop := C ≠ "java/lang/invoke/MethodHandle" ∧ C ≠ "java/lang/invoke/VarHandle"
abbrev AR (d : String) (na : Nat) : Prop := ∃ ps r, parseMethodDescriptor d = some ⟨ps, r⟩ ∧ ps.length = na
theorem own_ar {d : String} {na : Nat} (h : AR d na) {L : List Value} (hl : L.length = na) : ∀ sig, parseMethodDescriptor d = some sig → L.length = sig.parameters.length := by
  obtain ⟨ps, r, h1, rfl⟩ := h; exact lenOf h1 hl
def CI (a0 : Array Value) (Z : State) (own : String) (index : Nat) (xi y : MethodName) (C : String) (na : Nat) (k : Jvm.Cond) : Prop :=
  B4 a0 Z (.methodLink own index xi) ∧ B4 a0 Z (.declares xi) ∧ BT a0 Z (.interfaceMethod xi.cls xi.cls xi.name xi.desc) ∧ B4 a0 Z (.selects C xi y) ∧ B4 a0 Z (.instanceMethod y) ∧ B4 a0 Z (.publicMethod y) ∧ B4 a0 Z (.unhidden C xi.name xi.desc) ∧ B4 a0 Z (.castable C xi.cls) ∧ B4 a0 Z k ∧ B4 a0 Z (.initialized y.cls) ∧ NH xi.cls ∧ AR xi.desc na
def CV (a0 : Array Value) (Z : State) (own : String) (index : Nat) (xi y : MethodName) (C : String) (na : Nat) (k : Jvm.Cond) : Prop :=
  B4 a0 Z (.methodLink own index xi) ∧ B4 a0 Z (.declares xi) ∧ (∀ s : State, Z.Warmed39 s.vm → NotFace s xi) ∧ B4 a0 Z (.selects C xi y) ∧ B4 a0 Z (.instanceMethod y) ∧ B4 a0 Z k ∧ B4 a0 Z (.initialized y.cls) ∧ NH xi.cls ∧ AR xi.desc na
def CS (a0 : Array Value) (Z : State) (own : String) (index : Nat) (y : MethodName) (na : Nat) (k : Jvm.Cond) : Prop :=
  B4 a0 Z (.methodLink own index y) ∧ B4 a0 Z (.static y) ∧ B4 a0 Z k ∧ B4 a0 Z (.initialized y.cls) ∧ NH y.cls ∧ AR y.desc na
def CN (a0 : Array Value) (Z : State) (own : String) (index : Nat) (y : MethodName) (na : Nat) (k : Jvm.Cond) : Prop :=
  y.name = "<init>" ∧ B4 a0 Z (.methodLink own index y) ∧ B4 a0 Z (.instanceMethod y) ∧ B4 a0 Z k ∧ B4 a0 Z (.initialized y.cls) ∧ NH y.cls ∧ AR y.desc na
/-- what stands behind a call -/
abbrev AF (p : Program) (l : Launch) (e : Env) (R : Room) (s : State) (m : MethodId) (args : Array Value) (below : List Frame) (meth : Method) (c : Code) (T : State) (locs : List Loc) (cells slots : Nat) (pc len : Nat) (Ls : Array Slot) (S rest : List Value) (rm : Room) (Q : Option Value → Heap → List Loc → Prop) : Prop :=
  ∃ v T' L, Stand p l e R s m args below meth c T' (locs ++ L) (cells + rm.cells) (slots + rm.slots) ∧ Q v T'.heap L ∧ ∀ t, Steps p.tables e below (T'.setTop (mkF m (pc + len) Ls (v.toList ++ rest))) t → Steps p.tables e below (T.setTop (mkF m pc Ls S)) t
abbrev RM (W maxL cells slots : Nat) (rm R : Room) : Prop := rm.frames + 1 ≤ R.frames ∧ W + (maxL + 11) + rm.locals ≤ R.locals ∧ cells + rm.cells ≤ R.cells ∧ slots + rm.slots ≤ R.slots
abbrev cats (r : List Value) : Nat := (r.map fun v => v.category).sum
theorem own_cI (X : Stand p l e R s m args below meth c T locs cells slots) (hx : p.tables.exec = Jvm.exec) (hZ : Z.Warmed39 s.vm) (hown : s.vm.findClass own = some m.cls) (hml : c.maxLocals = ml)
    (w : CI a0 Z own index xi y C na (.code y bytes maxL ret)) (hM : MF l Z y bytes maxL ret rm A h Q) (hE : T.heap = h) {b : Addr} (E : Exa Z h b C) (pc : Nat) (Ls : Array Slot) (argsL rest : List Value) (W : Nat) {count : Nat}
    (hs : Ls.size = ml) (hd : decode c.code pc = .ok (.invokeinterface index count, 5)) (hr : RM W maxL cells slots rm R) (hn : argsL.length = na := by rfl) (hA : (Value.ref b :: argsL).toArray = A := by rfl) (hc : cats rest = W := by rfl) :
    AF p l e R s m args below meth c T locs cells slots pc 5 Ls (argsL.reverse ++ .ref b :: rest) rest rm Q := by
  obtain ⟨w1, w2, w3, w4, w5, w6, w7, w8, w9, w10, w11, w12⟩ := w
  obtain ⟨cq, kq, qa, qb, qc⟩ := isOf hZ hE E
  obtain ⟨v, _, ⟨T', L', k', n'⟩, -, X', ⟨Lc, hQ, hl, hy, hz⟩, st⟩ := X.interfaceBack hx hown (mvT hZ w1 rfl) (mvT hZ w2 rfl) (mvT hZ w3.1 w3.2) (mvT hZ w4 rfl) (mvT hZ w5 rfl) (mvT hZ w6 rfl) (mvT hZ w7 rfl) (mvT hZ w8 rfl) w11 (backOf (W := W) hM hZ w9 w10 hr.1 hr.2.1) qa qb qc (g := mkF m pc Ls (argsL.reverse ++ .ref b :: rest)) rfl (by rw [hml]; exact hs) (Steps.refl _) (argsL := argsL) (rest := rest) (own_ar w12 hn) rfl (by show 2 * 0 + cats rest ≤ W; omega) hd (fun _ _ => ⟨hA, hE, hr.2.2.1, hr.2.2.2⟩)
  dsimp only [Pt.U, Pt.locs, Pt.cells, Pt.slots] at X' hl hy hz st hQ
  subst hl hy hz
  exact ⟨v, T', Lc, X', hQ, fun t k => st.trans k⟩
theorem own_cIW {hs' : List (Nat × Nat × Nat × Nat)} (X : Stand p l e R s m args below meth c T locs cells slots) (hx : p.tables.exec = Jvm.exec) (hZ : Z.Warmed39 s.vm) (hown : s.vm.findClass own = some m.cls) (hml : c.maxLocals = ml)
    (w : CI a0 Z own index xi y C na (.codeWith y bytes maxL ret hs')) (hM : MW l Z y bytes maxL ret hs' rm A h Q) (hE : T.heap = h) {b : Addr} (E : Exa Z h b C) (pc : Nat) (Ls : Array Slot) (argsL rest : List Value) (W : Nat) {count : Nat}
    (hs : Ls.size = ml) (hd : decode c.code pc = .ok (.invokeinterface index count, 5)) (hr : RM W maxL cells slots rm R) (hn : argsL.length = na := by rfl) (hA : (Value.ref b :: argsL).toArray = A := by rfl) (hc : cats rest = W := by rfl) :
    AF p l e R s m args below meth c T locs cells slots pc 5 Ls (argsL.reverse ++ .ref b :: rest) rest rm Q := by
  obtain ⟨w1, w2, w3, w4, w5, w6, w7, w8, w9, w10, w11, w12⟩ := w
  obtain ⟨cq, kq, qa, qb, qc⟩ := isOf hZ hE E
  obtain ⟨v, _, ⟨T', L', k', n'⟩, -, X', ⟨Lc, hQ, hl, hy, hz⟩, st⟩ := X.interfaceBack hx hown (mvT hZ w1 rfl) (mvT hZ w2 rfl) (mvT hZ w3.1 w3.2) (mvT hZ w4 rfl) (mvT hZ w5 rfl) (mvT hZ w6 rfl) (mvT hZ w7 rfl) (mvT hZ w8 rfl) w11 (backOfWith (W := W) hM hZ w9 w10 hr.1 hr.2.1) qa qb qc (g := mkF m pc Ls (argsL.reverse ++ .ref b :: rest)) rfl (by rw [hml]; exact hs) (Steps.refl _) (argsL := argsL) (rest := rest) (own_ar w12 hn) rfl (by show 2 * 0 + cats rest ≤ W; omega) hd (fun _ _ => ⟨hA, hE, hr.2.2.1, hr.2.2.2⟩)
  dsimp only [Pt.U, Pt.locs, Pt.cells, Pt.slots] at X' hl hy hz st hQ
  subst hl hy hz
  exact ⟨v, T', Lc, X', hQ, fun t k => st.trans k⟩
theorem own_cV (X : Stand p l e R s m args below meth c T locs cells slots) (hx : p.tables.exec = Jvm.exec) (hZ : Z.Warmed39 s.vm) (hown : s.vm.findClass own = some m.cls) (hml : c.maxLocals = ml)
    (w : CV a0 Z own index xi y C na (.code y bytes maxL ret)) (hM : MF l Z y bytes maxL ret rm A h Q) (hE : T.heap = h) {b : Addr} (E : Exa Z h b C) (pc : Nat) (Ls : Array Slot) (argsL rest : List Value) (W : Nat)
    (hs : Ls.size = ml) (hd : decode c.code pc = .ok (.invokevirtual index, 3)) (hr : RM W maxL cells slots rm R) (hn : argsL.length = na := by rfl) (hA : (Value.ref b :: argsL).toArray = A := by rfl) (hc : cats rest = W := by rfl) :
    AF p l e R s m args below meth c T locs cells slots pc 3 Ls (argsL.reverse ++ .ref b :: rest) rest rm Q := by
  obtain ⟨w1, w2, w3, w4, w5, w9, w10, w11, w12⟩ := w
  obtain ⟨cq, kq, qa, qb, qc⟩ := isOf hZ hE E
  obtain ⟨v, _, ⟨T', L', k', n'⟩, -, X', ⟨Lc, hQ, hl, hy, hz⟩, st⟩ := X.virtualBack hx hown (mvT hZ w1 rfl) (mvT hZ w2 rfl) (w3 s hZ) (mvT hZ w4 rfl) (mvT hZ w5 rfl) w11 (backOf (W := W) hM hZ w9 w10 hr.1 hr.2.1) qa qc (g := mkF m pc Ls (argsL.reverse ++ .ref b :: rest)) rfl (by rw [hml]; exact hs) (Steps.refl _) (argsL := argsL) (rest := rest) (own_ar w12 hn) rfl (by show 2 * 0 + cats rest ≤ W; omega) hd (fun _ _ => ⟨hA, hE, hr.2.2.1, hr.2.2.2⟩)
  dsimp only [Pt.U, Pt.locs, Pt.cells, Pt.slots] at X' hl hy hz st hQ
  subst hl hy hz
  exact ⟨v, T', Lc, X', hQ, fun t k => st.trans k⟩
theorem own_cS (X : Stand p l e R s m args below meth c T locs cells slots) (hx : p.tables.exec = Jvm.exec) (hZ : Z.Warmed39 s.vm) (hown : s.vm.findClass own = some m.cls) (hml : c.maxLocals = ml)
    (w : CS a0 Z own index y na (.code y bytes maxL ret)) (hM : MF l Z y bytes maxL ret rm A h Q) (hE : T.heap = h) (pc : Nat) (Ls : Array Slot) (argsL rest : List Value) (W : Nat)
    (hs : Ls.size = ml) (hd : decode c.code pc = .ok (.invokestatic index, 3)) (hr : RM W maxL cells slots rm R) (hn : argsL.length = na := by rfl) (hA : argsL.toArray = A := by rfl) (hc : cats rest = W := by rfl) :
    AF p l e R s m args below meth c T locs cells slots pc 3 Ls (argsL.reverse ++ rest) rest rm Q := by
  obtain ⟨w1, w2, w9, w10, w11, w12⟩ := w
  obtain ⟨v, _, ⟨T', L', k', n'⟩, -, X', ⟨Lc, hQ, hl, hy, hz⟩, st⟩ := Jvm.LawKit.callS X hx hown (mvT hZ w1 rfl) (mvT hZ w2 rfl) (mvT hZ w10 rfl) (mvT hZ w9 rfl) w11 (backOf (W := W) hM hZ w9 w10 hr.1 hr.2.1) (g := mkF m pc Ls (argsL.reverse ++ rest)) rfl (by rw [hml]; exact hs) (argsL := argsL) (rest := rest) (own_ar w12 hn) rfl (by show 2 * 0 + cats rest ≤ W; omega) hd (fun _ _ => ⟨hA, hE, hr.2.2.1, hr.2.2.2⟩)
  dsimp only [Pt.U, Pt.locs, Pt.cells, Pt.slots] at X' hl hy hz st hQ
  subst hl hy hz
  exact ⟨v, T', Lc, X', hQ, fun t k => st t k⟩
theorem own_cN (X : Stand p l e R s m args below meth c T locs cells slots) (hx : p.tables.exec = Jvm.exec) (hZ : Z.Warmed39 s.vm) (hown : s.vm.findClass own = some m.cls) (hml : c.maxLocals = ml)
    (w : CN a0 Z own index y na (.code y bytes maxL none)) (hM : MF l Z y bytes maxL none rm A h Q) (hE : T.heap = h) (b : Addr) (pc : Nat) (Ls : Array Slot) (argsL rest : List Value) (W : Nat)
    (hs : Ls.size = ml) (hd : decode c.code pc = .ok (.invokespecial index, 3)) (hr : RM W maxL cells slots rm R) (hn : argsL.length = na := by rfl) (hA : (Value.ref b :: argsL).toArray = A := by rfl) (hc : cats rest = W := by rfl) :
    AF p l e R s m args below meth c T locs cells slots pc 3 Ls (argsL.reverse ++ .ref b :: rest) rest rm Q := by
  obtain ⟨w0, w1, w2, w9, w10, w11, w12⟩ := w
  obtain ⟨v, _, ⟨T', L', k', n'⟩, -, X', ⟨Lc, hQ, hl, hy, hz⟩, st⟩ := X.specialBack hx w0 hown (mvT hZ w1 rfl) (mvT hZ w2 rfl) (mvT hZ w9 rfl) w11 (backOf (W := W) hM hZ w9 w10 hr.1 hr.2.1) (g := mkF m pc Ls (argsL.reverse ++ .ref b :: rest)) rfl (by rw [hml]; exact hs) (Steps.refl _) (argsL := argsL) (rest := rest) (own_ar w12 hn) rfl (by show 2 * 0 + cats rest ≤ W; omega) hd (fun _ _ => ⟨hA, hE, hr.2.2.1, hr.2.2.2⟩)
  dsimp only [Pt.U, Pt.locs, Pt.cells, Pt.slots] at X' hl hy hz st hQ
  subst hl hy hz
  exact ⟨v, T', Lc, X', hQ, fun t k => st.trans k⟩
def CP (a0 : Array Value) (Z : State) (own : String) (index : Nat) (y : MethodName) (na : Nat) (k : Jvm.Cond) : Prop :=
  B4 a0 Z (.methodLink own index y) ∧ B4 a0 Z (.instanceMethod y) ∧ B4 a0 Z (.selects y.cls y y) ∧ (∀ s : State, Z.Warmed39 s.vm → s.PrivateAt y) ∧ B4 a0 Z k ∧ B4 a0 Z (.initialized y.cls) ∧ NH y.cls ∧ AR y.desc na
theorem own_cP (X : Stand p l e R s m args below meth c T locs cells slots) (hx : p.tables.exec = Jvm.exec) (hZ : Z.Warmed39 s.vm) (hown : s.vm.findClass own = some m.cls) (hml : c.maxLocals = ml)
    (w : CP a0 Z own index y na (.code y bytes maxL ret)) (hM : MF l Z y bytes maxL ret rm A h Q) (hE : T.heap = h) {b : Addr} {C : String} (E : Exa Z h b C) (pc : Nat) (Ls : Array Slot) (argsL rest : List Value) (W : Nat)
    (hs : Ls.size = ml) (hd : decode c.code pc = .ok (.invokevirtual index, 3)) (hr : RM W maxL cells slots rm R) (hn : argsL.length = na := by rfl) (hA : (Value.ref b :: argsL).toArray = A := by rfl) (hc : cats rest = W := by rfl) :
    AF p l e R s m args below meth c T locs cells slots pc 3 Ls (argsL.reverse ++ .ref b :: rest) rest rm Q := by
  obtain ⟨w1, w2, w3, w4, w9, w10, w11, w12⟩ := w
  obtain ⟨cq, qq, qr⟩ := E.cell
  obtain ⟨v, _, ⟨T', L', k', n'⟩, -, X', ⟨Lc, hQ, hl, hy, hz⟩, st⟩ := X.privateBack hx hown (mvT hZ w1 rfl) (mvT hZ w2 rfl) (mvT hZ w3 rfl) (w4 s hZ) (mvT hZ w9 rfl) w11 (backOf (W := W) hM hZ w9 w10 hr.1 hr.2.1) (g := mkF m pc Ls (argsL.reverse ++ .ref b :: rest)) rfl (by rw [hml]; exact hs) (Steps.refl _) (by rw [hE]; exact qq) qr (argsL := argsL) (rest := rest) (own_ar w12 hn) rfl (by show 2 * 0 + cats rest ≤ W; omega) hd (fun _ _ => ⟨hA, hE, hr.2.2.1, hr.2.2.2⟩)
  dsimp only [Pt.U, Pt.locs, Pt.cells, Pt.slots] at X' hl hy hz st hQ
  subst hl hy hz
  exact ⟨v, T', Lc, X', hQ, fun t k => st.trans k⟩
def CU (a0 : Array Value) (Z : State) (own : String) (index : Nat) (xi y : MethodName) (C owner : String) (na : Nat) (k : Jvm.Cond) : Prop :=
  B4 a0 Z (.methodLink own index xi) ∧ B4 a0 Z (.sameMethod xi.cls owner xi.name xi.desc) ∧ B4 a0 Z (.declares ⟨owner, xi.name, xi.desc⟩) ∧ B4 a0 Z (.selects C xi y) ∧ B4 a0 Z (.instanceMethod y) ∧ B4 a0 Z k ∧ B4 a0 Z (.initialized y.cls) ∧ NH owner ∧ AR xi.desc na
theorem own_cU {owner : String} (X : Stand p l e R s m args below meth c T locs cells slots) (hx : p.tables.exec = Jvm.exec) (hZ : Z.Warmed39 s.vm) (hown : s.vm.findClass own = some m.cls) (hml : c.maxLocals = ml)
    (w : CU a0 Z own index xi y C owner na (.code y bytes maxL ret)) (hM : MF l Z y bytes maxL ret rm A h Q) (hE : T.heap = h) {b : Addr} (E : Exa Z h b C) (pc : Nat) (Ls : Array Slot) (argsL rest : List Value) (W : Nat)
    (hs : Ls.size = ml) (hd : decode c.code pc = .ok (.invokevirtual index, 3)) (hr : RM W maxL cells slots rm R) (hn : argsL.length = na := by rfl) (hA : (Value.ref b :: argsL).toArray = A := by rfl) (hc : cats rest = W := by rfl) :
    AF p l e R s m args below meth c T locs cells slots pc 3 Ls (argsL.reverse ++ .ref b :: rest) rest rm Q := by
  obtain ⟨w1, w2, w3, w4, w5, w9, w10, w11, w12⟩ := w
  obtain ⟨cq, kq, qa, qb, qc⟩ := isOf hZ hE E
  obtain ⟨v, _, ⟨T', L', k', n'⟩, -, X', ⟨Lc, hQ, hl, hy, hz⟩, st⟩ := X.virtualBackUp hx hown (mvT hZ w1 rfl) (mvT hZ w2 rfl) (mvT hZ w3 rfl) w11 (mvT hZ w4 rfl) (mvT hZ w5 rfl) (backOf (W := W) hM hZ w9 w10 hr.1 hr.2.1) qa qc (g := mkF m pc Ls (argsL.reverse ++ .ref b :: rest)) rfl (by rw [hml]; exact hs) (Steps.refl _) (argsL := argsL) (rest := rest) (own_ar w12 hn) rfl (by show 2 * 0 + cats rest ≤ W; omega) hd (fun _ _ => ⟨hA, hE, hr.2.2.1, hr.2.2.2⟩)
  dsimp only [Pt.U, Pt.locs, Pt.cells, Pt.slots] at X' hl hy hz st hQ
  subst hl hy hz
  exact ⟨v, T', Lc, X', hQ, fun t k => st.trans k⟩
theorem own_laJ (X : Stand p l e R s m args below meth c T locs cells slots) (hx : p.tables.exec = Jvm.exec) (hZ : Z.Warmed39 s.vm) (hE : T.heap = h) {a : Addr} {k : ClassId} {n : Int32} {vs : List Value} {d : Value} (F : Arv Z h a k .long n vs d) {j : Int32} (hj : ¬ j < 0 ∧ j < n) {v : Value} (hv : vs.getD j.toNatClampNeg d = v) {rest : List Value} {t : State}
    (hd : decode c.code pc = .ok (.laload, 1)) (K : Steps p.tables e below (T.setTop (mkF m (pc + 1) Ls (v :: rest))) t) : Steps p.tables e below (T.setTop (mkF m pc Ls (.int j :: .ref a :: rest))) t := by
  obtain ⟨cl, Ar, -, S, -, Hs, -⟩ := F
  exact X.laload hx (by rw [hE]; exact Ar.1) (State.isArrayOf_alike hZ.alike Ar.2.1) Ar.2.2 (inb_of S hj) (Hs.at (inb_of S hj) hv) (g := mkF m pc Ls (.int j :: .ref a :: rest)) rfl rfl hd _ K
theorem own_laR (X : Stand p l e R s m args below meth c T locs cells slots) (hx : p.tables.exec = Jvm.exec) (hZ : Z.Warmed39 s.vm) (hE : T.heap = h) {a : Addr} {k : ClassId} {n : Int32} {vs : List Value} {d : Value} {ty : FieldType} (F : Arv Z h a k ty n vs d) {j : Int32} (hj : ¬ j < 0 ∧ j < n) {v : Value} (hv : vs.getD j.toNatClampNeg d = v) {rest : List Value} {t : State} (hty : ty.isReference = true)
    (hd : decode c.code pc = .ok (.aaload, 1)) (K : Steps p.tables e below (T.setTop (mkF m (pc + 1) Ls (v :: rest))) t) : Steps p.tables e below (T.setTop (mkF m pc Ls (.int j :: .ref a :: rest))) t := by
  obtain ⟨cl, Ar, -, S, -, Hs, -⟩ := F
  exact X.aaload hx (by rw [hE]; exact Ar.1) (State.isArrayOf_alike hZ.alike Ar.2.1) hty Ar.2.2 (inb_of S hj) (Hs.at (inb_of S hj) hv) (g := mkF m pc Ls (.int j :: .ref a :: rest)) rfl rfl hd _ K
theorem own_sJ (X : Stand p l e R s m args below meth c T locs cells slots) (hx : p.tables.exec = Jvm.exec) (hZ : Z.Warmed39 s.vm) (hE : T.heap = h) {a : Addr} {k : ClassId} {n : Int32} {vs : List Value} {d : Value} (F : Arv Z h a k .long n vs d) (j : Int32) (hj : ¬ j < 0 ∧ j < n) (i : Nat) (x : Int64) (rest : List Value) (pc : Nat) (Ls : Array Slot)
    (hd : decode c.code pc = .ok (.lastore, 1)) (hi : j.toNatClampNeg = i) (hl : i < vs.length) :
    ∃ T' h', Stand p l e R s m args below meth c T' (locs ++ [⟨a, j.toNatClampNeg⟩]) cells slots ∧ T'.heap = h' ∧ Wr h h' a j.toNatClampNeg (.long x) ∧ Arv Z h' a k .long n (vs.set i (.long x)) d ∧ ∀ t, Steps p.tables e below (T'.setTop (mkF m (pc + 1) Ls rest)) t → Steps p.tables e below (T.setTop (mkF m pc Ls (.long x :: .int j :: .ref a :: rest))) t := by
  obtain ⟨cl, Ar, q, S, M, Hs, G⟩ := F
  obtain ⟨T', h', X', e', W, st⟩ := stJ X hx hZ hE Ar (j := j) (inb_of S hj) (g := mkF m pc Ls (.long x :: .int j :: .ref a :: rest)) rfl rfl hd
  exact ⟨T', h', X', e', W, Arv.set Ar q S M Hs G rfl W i hi hl, st⟩
theorem own_retJ (X : Stand p l e R s m args below meth c T locs cells slots) (hx : p.tables.exec = Jvm.exec) {x : Int64} {rest : List Value} (hret : meth.sig.returnType = some .long) (hd : decode c.code pc = .ok (.lreturn, 1)) {fs : List Frame} (hl : RT T e m (some (.long x)) fs) :
    Steps p.tables e below (T.setTop (mkF m pc Ls (.long x :: rest))) (T.setFrames fs) := retOut X hx hret rfl (Or.inr (Or.inl ⟨rfl, rfl, x, rfl⟩)) hd hl
theorem own_retR (X : Stand p l e R s m args below meth c T locs cells slots) (hx : p.tables.exec = Jvm.exec) {w : Value} {t : FieldType} {rest : List Value} (hret : meth.sig.returnType = some t) (hn : narrow t w = w) (ht : t.isReference = true) (hw : w.isRef = true) (hd : decode c.code pc = .ok (.areturn, 1)) {fs : List Frame} (hl : RT T e m (some w) fs) :
    Steps p.tables e below (T.setTop (mkF m pc Ls (w :: rest))) (T.setFrames fs) := retOut X hx hret hn (Or.inr (Or.inr (Or.inr (Or.inr ⟨rfl, ht, hw⟩)))) hd hl
theorem wx {a0 : Array Value} {Z : State} (hw : HW a0 Z) (i : Nat) {d : Jvm.Cond} (h : tables_1[i]? = some d) : d.before a0 Z = true := hw _ (List.mem_of_getElem? h)
theorem gF {n d R0 O : String} (X : Stand p l e R s m args below meth c T locs cells slots) (hx : p.tables.exec = Jvm.exec) (hZ : Z.Warmed39 s.vm) (hown : s.vm.findClass own = some m.cls) (w : (Cond.fieldLink own index R0 n d).before a0 Z = true) (via : Via Z R0 O n d)
    (eT : T.heap = h) {a : Addr} {v : Value} (F : Fld Z h a O n d v) (pc : Nat) (Ls : Array Slot) (rest : List Value) (hd : decode c.code pc = .ok (.getfield index, 3)) : ∃ T', Stand p l e R s m args below meth c T' locs cells slots ∧ T'.heap = h ∧ ∀ t, Steps p.tables e below (T'.setTop (mkF m (pc + 3) Ls (v :: rest))) t → Steps p.tables e below (T.setTop (mkF m pc Ls (.ref a :: rest))) t :=
  getF X hx hZ hown (host := "") (Or.inl w) via eT F (g := mkF m pc Ls (.ref a :: rest)) rfl rfl hd
theorem own_sub {L L' : List Loc} {k k' n n' : Nat} (X : Stand p l e R s m args below meth c T L k n) (hl : L = L') (hy : k = k') (hz : n = n') : Stand p l e R s m args below meth c T L' k' n' := by
  subst hl hy hz; exact X
end Calls
theorem nl {x y n : Nat} (h : x < n) (k : n ≤ y) : x ≠ y := Nat.ne_of_lt (Nat.lt_of_lt_of_le h k)
theorem lq {x y z : Nat} (h : x < y) (k : y ≤ z) : x < z := Nat.lt_of_lt_of_le h k
abbrev DC (b : ByteArray) (pc : Nat) (i : Instr) (n : Nat) : Prop := decode b pc = .ok (i, n)
abbrev cb1 := method_2_code
abbrev cb2 := jdk_29_method_70_code
abbrev cb3 := method_3_code
abbrev cb4 := jdk_29_method_66_code
abbrev cb5 := prog_36_method_1_code
abbrev cb6 := jdk_30_method_1_code
abbrev cb8 := jdk_31_method_11_code
abbrev cb9 := jdk_38_method_2_code
abbrev cb10 := jdk_39_method_1_code
abbrev cb11 := jdk_22_method_1_code
abbrev cb12 := prog_64_method_2_code
abbrev cb13 := prog_64_method_1_code
abbrev cb14 := jdk_38_method_25_code
abbrev cb15 := jdk_38_method_24_code
abbrev cb16 := jdk_38_method_7_code
abbrev cb17 := jdk_38_method_6_code
abbrev cb18 := jdk_29_method_65_code
abbrev cb19 := prog_26_method_1_code
abbrev cb20 := jdk_40_method_48_code
abbrev cb21 := jdk_56_method_3_code
abbrev cb22 := jdk_38_method_9_code
abbrev cb23 := jdk_38_method_16_code
abbrev cb24 := jdk_65_method_119_code
abbrev cb25 := jdk_65_method_120_code
abbrev cb26 := jdk_29_method_69_code
abbrev cb27 := jdk_40_method_47_code
abbrev cb28 := jdk_44_method_2_code
abbrev cb29 := jdk_46_method_1_code
abbrev cb30 := jdk_47_method_1_code
abbrev cb31 := jdk_31_method_10_code
abbrev cb32 := prog_52_method_2_code
abbrev cb33 := jdk_32_method_3_code
abbrev cb34 := jdk_32_method_2_code
abbrev cb35 := prog_52_method_1_code
abbrev cb36 := jdk_44_method_1_code
abbrev cb37 := prog_24_method_1_code
abbrev cb38 := jdk_38_method_8_code
abbrev cb39 := jdk_38_method_55_code
abbrev cb40 := jdk_49_method_1_code
abbrev cb41 := jdk_49_method_2_code
abbrev cb42 := jdk_49_method_3_code
abbrev cb43 := jdk_49_method_6_code
abbrev cb44 := prog_52_method_10_code
abbrev cb45 := jdk_46_method_10_code
abbrev cb46 := jdk_44_method_3_code
abbrev cb47 := jdk_53_method_1_code
abbrev cb48 := jdk_53_method_3_code
abbrev cb49 := jdk_53_method_4_code
abbrev cb50 := jdk_44_method_5_code
abbrev cb51 := prog_26_method_9_code
abbrev cb52 := prog_64_method_10_code
abbrev cb53 := prog_64_method_11_code
abbrev cb54 := method_4_code
abbrev cb55 := prog_24_method_2_code
abbrev cb56 := jdk_40_method_36_code
abbrev cb57 := jdk_45_method_3_code

section Xs
variable {p : Program} {l : Launch} {e : Env} {R : Room} {s : State} {m : MethodId} {args : Array Value} {below : List Frame} {meth : Method} {c : Code} {T : State} {locs : List Loc} {cells slots : Nat} {bs : ByteArray} {pc : Nat} {Ls : Array Slot} {S : List Value} {t : State}
theorem xaloadN (X : Stand p l e R s m args below meth c T locs cells slots) (hx : p.tables.exec = Jvm.exec) (hby : c.code = bs) {k : Fin 4} {v : Value} (hd : decode bs pc = .ok (.aload_n k, 1)) (hl : Ls[k.val]? = some (.val v)) (hv : v.isRef = true) (hr : Steps p.tables e below (T.setTop (mkF m (pc + 1) Ls (v :: S))) t) : Steps p.tables e below (T.setTop (mkF m pc Ls S)) t := XS.aloadN X.here hx rfl (hb hby hd) hl hv hr
theorem xiloadN (X : Stand p l e R s m args below meth c T locs cells slots) (hx : p.tables.exec = Jvm.exec) (hby : c.code = bs) {k : Fin 4} {v : Int32} (hd : decode bs pc = .ok (.iload_n k, 1)) (hl : Ls[k.val]? = some (.val (.int v))) (hr : Steps p.tables e below (T.setTop (mkF m (pc + 1) Ls (.int v :: S))) t) : Steps p.tables e below (T.setTop (mkF m pc Ls S)) t := XS.iloadN X.here hx rfl (hb hby hd) hl hr
theorem xlloadN (X : Stand p l e R s m args below meth c T locs cells slots) (hx : p.tables.exec = Jvm.exec) (hby : c.code = bs) {k : Fin 4} {v : Int64} (hd : decode bs pc = .ok (.lload_n k, 1)) (hl : Ls[k.val]? = some (.val (.long v))) (hr : Steps p.tables e below (T.setTop (mkF m (pc + 1) Ls (.long v :: S))) t) : Steps p.tables e below (T.setTop (mkF m pc Ls S)) t := XS.lloadN X.here hx rfl (hb hby hd) hl hr
theorem xaload (X : Stand p l e R s m args below meth c T locs cells slots) (hx : p.tables.exec = Jvm.exec) (hby : c.code = bs) {k : Nat} {v : Value} (hd : decode bs pc = .ok (.aload k, 2)) (hl : Ls[k]? = some (.val v)) (hv : v.isRef = true) (hr : Steps p.tables e below (T.setTop (mkF m (pc + 2) Ls (v :: S))) t) : Steps p.tables e below (T.setTop (mkF m pc Ls S)) t := XS.aload X.here hx rfl (hb hby hd) hl hv hr
theorem xiload (X : Stand p l e R s m args below meth c T locs cells slots) (hx : p.tables.exec = Jvm.exec) (hby : c.code = bs) {k : Nat} {v : Int32} (hd : decode bs pc = .ok (.iload k, 2)) (hl : Ls[k]? = some (.val (.int v))) (hr : Steps p.tables e below (T.setTop (mkF m (pc + 2) Ls (.int v :: S))) t) : Steps p.tables e below (T.setTop (mkF m pc Ls S)) t := XS.iload X.here hx rfl (hb hby hd) hl hr
theorem xlload (X : Stand p l e R s m args below meth c T locs cells slots) (hx : p.tables.exec = Jvm.exec) (hby : c.code = bs) {k : Nat} {v : Int64} (hd : decode bs pc = .ok (.lload k, 2)) (hl : Ls[k]? = some (.val (.long v))) (hr : Steps p.tables e below (T.setTop (mkF m (pc + 2) Ls (.long v :: S))) t) : Steps p.tables e below (T.setTop (mkF m pc Ls S)) t := XS.lload X.here hx rfl (hb hby hd) hl hr
end Xs
def own_jmin (x y : Int64) : Int64 := if y < x then y else x
def own_jmax (x y : Int64) : Int64 := if x < y then y else x
theorem own_m24 (x : Int64) : 0 ≤ (x &&& (16777215 : Int64)).toInt ∧ (x &&& (16777215 : Int64)).toInt ≤ 16777215 := by
  have h := c_maskL x 16777215 24 (by decide) (by decide)
  rw [h]; omega
theorem own_mm {a b : Int64} (ha : 0 ≤ a.toInt ∧ a.toInt ≤ 16777215) (hb : 0 ≤ b.toInt ∧ b.toInt ≤ 16777215) : (0 ≤ (own_jmin a b).toInt ∧ (own_jmin a b).toInt ≤ (own_jmax a b).toInt ∧ (own_jmax a b).toInt ≤ 16777215) := by
  unfold own_jmin own_jmax
  by_cases h1 : b < a
  · rw [if_pos h1]
    by_cases h2 : a < b
    · rw [if_pos h2]; rw [Int64.lt_iff_toInt_lt] at h1 h2; omega
    · rw [if_neg h2]; rw [Int64.lt_iff_toInt_lt] at h1 h2; omega
  · rw [if_neg h1]
    by_cases h2 : a < b
    · rw [if_pos h2]; rw [Int64.lt_iff_toInt_lt] at h1 h2; omega
    · rw [if_neg h2]; rw [Int64.lt_iff_toInt_lt] at h1 h2; omega
theorem own_sft (s : Int32) : ∃ k : Nat, k ≤ 24 ∧ ((s &&& (31 : Int32)) % (25 : Int32)).toBitVec.toNat % 64 = k := by
  have h1 := c_mask s 31 5 (by decide) (by decide)
  have h2 := (c_irem (s &&& (31 : Int32)) 25 25 (by decide)).1 (by rw [h1]; omega)
  refine ⟨_, ?_, rfl⟩
  have h3 : ((s &&& (31 : Int32)) % (25 : Int32)).toInt = ((s &&& (31 : Int32)) % (25 : Int32)).toBitVec.toInt := rfl
  rw [h3, BitVec.toInt_eq_toNat_cond] at h2
  have h4 := ((s &&& (31 : Int32)) % (25 : Int32)).toBitVec.isLt
  rw [h1] at h2
  split at h2 <;> omega
theorem own_shl (x : Int64) (s : Int32) (hx : 0 ≤ x.toInt ∧ x.toInt ≤ 16777215) : ∃ k : Nat, k ≤ 24 ∧ ((s &&& (31 : Int32)) % (25 : Int32)).toBitVec.toNat % 64 = k ∧ (x <<< (((s &&& (31 : Int32)) % (25 : Int32)) &&& 0x3f).toInt64).toInt = x.toInt * (2 ^ k : Nat) ∧ 0 < 2 ^ k ∧ 2 ^ k ≤ 16777216 := by
  obtain ⟨k, hk, e⟩ := own_sft s
  have h := c_lshl x ((s &&& (31 : Int32)) % (25 : Int32)) k e
  have p1 : 0 < 2 ^ k := Nat.pow_pos (by decide)
  have p2 : 2 ^ k ≤ 2 ^ 24 := Nat.pow_le_pow_right (by decide) hk
  have r := rng64 (x <<< (((s &&& (31 : Int32)) % (25 : Int32)) &&& 0x3f).toInt64)
  have b1 : 0 ≤ x.toInt * ((2 ^ k : Nat) : Int) := Int.mul_nonneg hx.1 (by omega)
  have b2 : x.toInt * ((2 ^ k : Nat) : Int) ≤ 16777215 * 16777216 := Int.mul_le_mul hx.2 (by omega) (by omega) (by omega)
  exact ⟨k, hk, e, by omega, p1, p2⟩
theorem own_lh {u v : Int64} (s : Int32) (hu : 0 ≤ u.toInt ∧ u.toInt ≤ 16777215) (hv : 0 ≤ v.toInt ∧ v.toInt ≤ 16777215) :
    0 ≤ (own_jmin u v <<< (((s &&& (31 : Int32)) % (25 : Int32)) &&& 0x3f).toInt64).toInt ∧ (own_jmin u v <<< (((s &&& (31 : Int32)) % (25 : Int32)) &&& 0x3f).toInt64).toInt ≤ (own_jmax u v <<< (((s &&& (31 : Int32)) % (25 : Int32)) &&& 0x3f).toInt64).toInt ∧ (own_jmax u v <<< (((s &&& (31 : Int32)) % (25 : Int32)) &&& 0x3f).toInt64).toInt ≤ 281474976710656 := by
  obtain ⟨m1, m2, m3⟩ := own_mm hu hv
  obtain ⟨k, hk, e, h1, p1, p2⟩ := own_shl (own_jmin u v) s ⟨m1, by omega⟩
  obtain ⟨k', hk', e', h2, -, -⟩ := own_shl (own_jmax u v) s ⟨by omega, m3⟩
  obtain rfl : k = k' := e.symm.trans e'
  rw [h1, h2]
  exact ⟨Int.mul_nonneg m1 (by omega), Int.mul_le_mul_of_nonneg_right m2 (by omega), Int.le_trans (Int.mul_le_mul m3 (Int.ofNat_le.mpr p2) (by omega) (by omega)) (by decide)⟩
theorem own_nlo {x : Int64} (h : 0 ≤ x.toInt) : ¬ (x < (0 : Int64)) := by rw [Int64.lt_iff_toInt_lt]; show ¬ (_ < (0 : Int)); omega
theorem own_nhl {x y : Int64} (h : x.toInt ≤ y.toInt) : ¬ (y < x) := by rw [Int64.lt_iff_toInt_lt]; omega
theorem own_nhi {x : Int64} (h : x.toInt ≤ 281474976710656) : ¬ ((281474976710656 : Int64) < x) := by rw [Int64.lt_iff_toInt_lt]; show ¬ ((281474976710656 : Int) < _); omega
theorem own_jmin_id {x : Int64} : own_jmin (9223372036854775807 : Int64) x = x := by
  unfold own_jmin
  by_cases h : x < (9223372036854775807 : Int64)
  · rw [if_pos h]
  · rw [if_neg h]
    rw [Int64.lt_iff_toInt_lt] at h
    have r := rng64 x
    have e : x.toInt = (9223372036854775807 : Int64).toInt := by
      have : (9223372036854775807 : Int64).toInt = 9223372036854775807 := by decide
      omega
    exact (Int64.toInt_inj.mp e).symm
theorem own_jmax_id {x : Int64} (hx : ¬ (x < (0 : Int64))) : own_jmax (-1 : Int64) x = x := by
  unfold own_jmax
  have h : (-1 : Int64) < x := by
    rw [Int64.lt_iff_toInt_lt] at hx ⊢
    have e1 : (0 : Int64).toInt = 0 := by decide
    have e2 : (-1 : Int64).toInt = -1 := by decide
    omega
  rw [if_pos h]
theorem wd0 {a0 Z} (hw : HW a0 Z) : B4 a0 Z (.arrayClass Jvm.ClassFile.FieldType.long) := wx hw 0 rfl
theorem wd5 {a0 Z} (hw : HW a0 Z) : B4 a0 Z (.constantLong s44 (7 : Nat) (16777215 : Int64)) := wx hw 5 rfl
theorem wd16 {a0 Z} (hw : HW a0 Z) : B4 a0 Z (.classLink s44 (27 : Nat) s46) := wx hw 16 rfl
theorem wd17 {a0 Z} (hw : HW a0 Z) : B4 a0 Z (.instantiable s46 (1 : Nat)) := wx hw 17 rfl
theorem wd18 {a0 Z} (hw : HW a0 Z) : B4 a0 Z (.initialized s46) := wx hw 18 rfl
theorem wd19 {a0 Z} (hw : HW a0 Z) : B4 a0 Z (.stringLink s44 (29 : Nat) "d") := wx hw 19 rfl
theorem wd20 {a0 Z} (hw : HW a0 Z) : B4 a0 Z (.initialized s22) := wx hw 20 rfl
theorem wd21 {a0 Z} (hw : HW a0 Z) : B4 a0 Z (.instantiable s22 (4 : Nat)) := wx hw 21 rfl
theorem wd22 {a0 Z} (hw : HW a0 Z) : B4 a0 Z (.arrayClass Jvm.ClassFile.FieldType.byte) := wx hw 22 rfl
theorem wd23 {a0 Z} (hw : HW a0 Z) : B4 a0 Z (.laysFinal s22 s22 "value" "[B") := wx hw 23 rfl
theorem wd24 {a0 Z} (hw : HW a0 Z) : B4 a0 Z (.laysFinal s22 s22 "coder" "B") := wx hw 24 rfl
theorem wd25 {a0 Z} (hw : HW a0 Z) : B4 a0 Z (.soleField s22 "value") := wx hw 25 rfl
theorem wd26 {a0 Z} (hw : HW a0 Z) : B4 a0 Z (.soleField s22 "coder") := wx hw 26 rfl
theorem wd27 {a0 Z} (hw : HW a0 Z) : B4 a0 Z (.methodLink s44 (31 : Nat) mn5) := wx hw 27 rfl
theorem wd28 {a0 Z} (hw : HW a0 Z) : B4 a0 Z (.instanceMethod mn5) := wx hw 28 rfl
theorem wd29 {a0 Z} (hw : HW a0 Z) : B4 a0 Z (.code mn5 prog_36_method_1_code (2 : Nat) (Option.none : Option Jvm.ClassFile.FieldType)) := wx hw 29 rfl
theorem wd35 {a0 Z} (hw : HW a0 Z) : B4 a0 Z (.methodLink s21 (1 : Nat) mn7) := wx hw 35 rfl
theorem wd36 {a0 Z} (hw : HW a0 Z) : B4 a0 Z (.instanceMethod mn7) := wx hw 36 rfl
theorem wd37 {a0 Z} (hw : HW a0 Z) : B4 a0 Z (.code mn7 object_method_1_code (1 : Nat) (Option.none : Option Jvm.ClassFile.FieldType)) := wx hw 37 rfl
theorem wd38 {a0 Z} (hw : HW a0 Z) : B4 a0 Z (.stringLink s46 (7 : Nat) "name") := wx hw 38 rfl
theorem wd43 {a0 Z} (hw : HW a0 Z) : B4 a0 Z (.fieldLink s46 (15 : Nat) s46 "name" s3) := wx hw 43 rfl
theorem wd44 {a0 Z} (hw : HW a0 Z) : B4 a0 Z (.laysFinal s46 s46 "name" s3) := wx hw 44 rfl
theorem wd45 {a0 Z} (hw : HW a0 Z) : B4 a0 Z (.classLink s44 (34 : Nat) s26) := wx hw 45 rfl
theorem wd46 {a0 Z} (hw : HW a0 Z) : B4 a0 Z (.instantiable s26 (3 : Nat)) := wx hw 46 rfl
theorem wd47 {a0 Z} (hw : HW a0 Z) : B4 a0 Z (.initialized s26) := wx hw 47 rfl
theorem wd63 {a0 Z} (hw : HW a0 Z) : B4 a0 Z (.methodLink s24 (1 : Nat) mn7) := wx hw 63 rfl
theorem wd64 {a0 Z} (hw : HW a0 Z) : B4 a0 Z (.fieldLink s25 (7 : Nat) s25 s41 "I") := wx hw 64 rfl
theorem wd65 {a0 Z} (hw : HW a0 Z) : B4 a0 Z (.lays s26 s25 s41 "I") := wx hw 65 rfl
theorem wd66 {a0 Z} (hw : HW a0 Z) : B4 a0 Z (.fieldLink s26 (39 : Nat) s26 s0 s8) := wx hw 66 rfl
theorem wd67 {a0 Z} (hw : HW a0 Z) : B4 a0 Z (.fieldLink s26 (9 : Nat) s26 s12 s8) := wx hw 67 rfl
theorem wd68 {a0 Z} (hw : HW a0 Z) : B4 a0 Z (.lays s26 s26 s12 s8) := wx hw 68 rfl
theorem wd71 {a0 Z} (hw : HW a0 Z) : B4 a0 Z (.initialized s48) := wx hw 71 rfl
theorem wd73 {a0 Z} (hw : HW a0 Z) : B4 a0 Z (.constantLong s48 (18 : Nat) (281474976710656 : Int64)) := wx hw 73 rfl
theorem wd74 {a0 Z} (hw : HW a0 Z) : B4 a0 Z (.classLink s48 (8 : Nat) s48) := wx hw 74 rfl
theorem wd75 {a0 Z} (hw : HW a0 Z) : B4 a0 Z (.instantiable s48 (2 : Nat)) := wx hw 75 rfl
theorem wd79 {a0 Z} (hw : HW a0 Z) : B4 a0 Z (.methodLink s48 (1 : Nat) mn7) := wx hw 79 rfl
theorem wd80 {a0 Z} (hw : HW a0 Z) : B4 a0 Z (.fieldLink s48 (7 : Nat) s48 "lows" "[J") := wx hw 80 rfl
theorem wd81 {a0 Z} (hw : HW a0 Z) : B4 a0 Z (.laysFinal s48 s48 "lows" "[J") := wx hw 81 rfl
theorem wd82 {a0 Z} (hw : HW a0 Z) : B4 a0 Z (.fieldLink s48 (13 : Nat) s48 "highs" "[J") := wx hw 82 rfl
theorem wd83 {a0 Z} (hw : HW a0 Z) : B4 a0 Z (.laysFinal s48 s48 "highs" "[J") := wx hw 83 rfl
theorem wd87 {a0 Z} (hw : HW a0 Z) : B4 a0 Z (.selects s26 mn14 mn14) := wx hw 87 rfl
theorem wd89 {a0 Z} (hw : HW a0 Z) : B4 a0 Z (.fieldLink s26 (63 : Nat) s26 s41 "I") := wx hw 89 rfl
theorem wd90 {a0 Z} (hw : HW a0 Z) : B4 a0 Z (.sameField s26 s25 s41 "I") := wx hw 90 rfl
theorem wd91 {a0 Z} (hw : HW a0 Z) : B4 a0 Z (.fieldLink s26 (48 : Nat) s26 "size" "I") := wx hw 91 rfl
theorem wd92 {a0 Z} (hw : HW a0 Z) : B4 a0 Z (.lays s26 s26 "size" "I") := wx hw 92 rfl
theorem wd95 {a0 Z} (hw : HW a0 Z) : B4 a0 Z (.privateMethod mn15) := wx hw 95 rfl
theorem wd100 {a0 Z} (hw : HW a0 Z) : B4 a0 Z (.privateMethod mn16) := wx hw 100 rfl
theorem wd105 {a0 Z} (hw : HW a0 Z) : B4 a0 Z (.privateMethod mn17) := wx hw 105 rfl
theorem wd111 {a0 Z} (hw : HW a0 Z) : B4 a0 Z (.classLink s26 (7 : Nat) s20) := wx hw 111 rfl
theorem wd112 {a0 Z} (hw : HW a0 Z) : B4 a0 Z (.arrayOver (Jvm.ClassFile.FieldType.object s20)) := wx hw 112 rfl
theorem wd113 {a0 Z} (hw : HW a0 Z) : B4 a0 Z (.castable s48 s20) := wx hw 113 rfl
theorem wd114 {a0 Z} (hw : HW a0 Z) : B4 a0 Z (.classLink s44 (47 : Nat) s45) := wx hw 114 rfl
theorem wd115 {a0 Z} (hw : HW a0 Z) : B4 a0 Z (.instantiable s45 (1 : Nat)) := wx hw 115 rfl
theorem wd116 {a0 Z} (hw : HW a0 Z) : B4 a0 Z (.initialized s45) := wx hw 116 rfl
theorem wd129 {a0 Z} (hw : HW a0 Z) : B4 a0 Z (.classLink s30 (10 : Nat) s33) := wx hw 129 rfl
theorem wd130 {a0 Z} (hw : HW a0 Z) : B4 a0 Z (.superclass s26 s25) := wx hw 130 rfl
theorem wd131 {a0 Z} (hw : HW a0 Z) : B4 a0 Z (.superclass s25 s24) := wx hw 131 rfl
theorem wd132 {a0 Z} (hw : HW a0 Z) : B4 a0 Z (.superclass s24 s20) := wx hw 132 rfl
theorem wd133 {a0 Z} (hw : HW a0 Z) : B4 a0 Z (.noSuperclass s20) := wx hw 133 rfl
theorem wd134 {a0 Z} (hw : HW a0 Z) : B4 a0 Z (.classLink s30 (12 : Nat) s35) := wx hw 134 rfl
theorem wd156 {a0 Z} (hw : HW a0 Z) : B4 a0 Z (.methodLink s28 (86 : Nat) ({ cls := s20, name := s16, desc := "()Ljava/lang/Class;" } : Jvm.MethodName)) := wx hw 156 rfl
theorem wd157 {a0 Z} (hw : HW a0 Z) : B4 a0 Z (.declares ({ cls := s20, name := s16, desc := "()Ljava/lang/Class;" } : Jvm.MethodName)) := wx hw 157 rfl
theorem wd158 {a0 Z} (hw : HW a0 Z) : B4 a0 Z (.instanceMethod ({ cls := s20, name := s16, desc := "()Ljava/lang/Class;" } : Jvm.MethodName)) := wx hw 158 rfl
theorem wd159 {a0 Z} (hw : HW a0 Z) : B4 a0 Z (.selects s8 ({ cls := s20, name := s16, desc := "()Ljava/lang/Class;" } : Jvm.MethodName) ({ cls := s20, name := s16, desc := "()Ljava/lang/Class;" } : Jvm.MethodName)) := wx hw 159 rfl
theorem wd160 {a0 Z} (hw : HW a0 Z) : B4 a0 Z (.native ({ cls := s20, name := s16, desc := "()Ljava/lang/Class;" } : Jvm.MethodName)) := wx hw 160 rfl
theorem wd165 {a0 Z} (hw : HW a0 Z) : B4 a0 Z (.classLink s28 (110 : Nat) s8) := wx hw 165 rfl
theorem wd166 {a0 Z} (hw : HW a0 Z) : B4 a0 Z (.classLink s28 (2 : Nat) s20) := wx hw 166 rfl
theorem wd170 {a0 Z} (hw : HW a0 Z) : B4 a0 Z (.methodLink s28 (150 : Nat) ({ cls := s23, name := s9, desc := "(Ljava/lang/Object;ILjava/lang/Object;II)V" } : Jvm.MethodName)) := wx hw 170 rfl
theorem wd171 {a0 Z} (hw : HW a0 Z) : B4 a0 Z (.static ({ cls := s23, name := s9, desc := "(Ljava/lang/Object;ILjava/lang/Object;II)V" } : Jvm.MethodName)) := wx hw 171 rfl
theorem wd172 {a0 Z} (hw : HW a0 Z) : B4 a0 Z (.initialized s23) := wx hw 172 rfl
theorem wd173 {a0 Z} (hw : HW a0 Z) : B4 a0 Z (.native ({ cls := s23, name := s9, desc := "(Ljava/lang/Object;ILjava/lang/Object;II)V" } : Jvm.MethodName)) := wx hw 173 rfl
theorem wd177 {a0 Z} (hw : HW a0 Z) : B4 a0 Z (.classLink s37 (96 : Nat) s33) := wx hw 177 rfl
theorem wd178 {a0 Z} (hw : HW a0 Z) : B4 a0 Z (.instantiable s33 (2 : Nat)) := wx hw 178 rfl
theorem wd179 {a0 Z} (hw : HW a0 Z) : B4 a0 Z (.initialized s33) := wx hw 179 rfl
theorem wd201 {a0 Z} (hw : HW a0 Z) : B4 a0 Z (.fieldLink s33 (13 : Nat) s33 "e0" s2) := wx hw 201 rfl
theorem wd202 {a0 Z} (hw : HW a0 Z) : B4 a0 Z (.laysFinal s33 s33 "e0" s2) := wx hw 202 rfl
theorem wd203 {a0 Z} (hw : HW a0 Z) : B4 a0 Z (.fieldLink s33 (24 : Nat) s33 "e1" s2) := wx hw 203 rfl
theorem wd204 {a0 Z} (hw : HW a0 Z) : B4 a0 Z (.laysFinal s33 s33 "e1" s2) := wx hw 204 rfl
theorem wd205 {a0 Z} (hw : HW a0 Z) : B4 a0 Z (.fieldLink s45 (13 : Nat) s45 "sets" s6) := wx hw 205 rfl
theorem wd206 {a0 Z} (hw : HW a0 Z) : B4 a0 Z (.laysFinal s45 s45 "sets" s6) := wx hw 206 rfl
theorem wd207 {a0 Z} (hw : HW a0 Z) : B4 a0 Z (.castable s45 s20) := wx hw 207 rfl
theorem wd208 {a0 Z} (hw : HW a0 Z) : B4 a0 Z (.classLink s44 (52 : Nat) s47) := wx hw 208 rfl
theorem wd209 {a0 Z} (hw : HW a0 Z) : B4 a0 Z (.instantiable s47 (3 : Nat)) := wx hw 209 rfl
theorem wd210 {a0 Z} (hw : HW a0 Z) : B4 a0 Z (.initialized s47) := wx hw 210 rfl
theorem wd211 {a0 Z} (hw : HW a0 Z) : B4 a0 Z (.methodLink s44 (54 : Nat) mn32) := wx hw 211 rfl
theorem wd212 {a0 Z} (hw : HW a0 Z) : B4 a0 Z (.instanceMethod mn32) := wx hw 212 rfl
theorem wd213 {a0 Z} (hw : HW a0 Z) : B4 a0 Z (.code mn32 prog_52_method_2_code (3 : Nat) (Option.none : Option Jvm.ClassFile.FieldType)) := wx hw 213 rfl
theorem wd216 {a0 Z} (hw : HW a0 Z) : B4 a0 Z (.initialized s39) := wx hw 216 rfl
theorem wd218 {a0 Z} (hw : HW a0 Z) : B4 a0 Z (.classLink s39 (2 : Nat) s39) := wx hw 218 rfl
theorem wd219 {a0 Z} (hw : HW a0 Z) : B4 a0 Z (.instantiable s39 (1 : Nat)) := wx hw 219 rfl
theorem wd225 {a0 Z} (hw : HW a0 Z) : B4 a0 Z (.methodLink s39 (7 : Nat) mn7) := wx hw 225 rfl
theorem wd226 {a0 Z} (hw : HW a0 Z) : B4 a0 Z (.fieldLink s39 (13 : Nat) s39 "value" s2) := wx hw 226 rfl
theorem wd227 {a0 Z} (hw : HW a0 Z) : B4 a0 Z (.laysFinal s39 s39 "value" s2) := wx hw 227 rfl
theorem wd228 {a0 Z} (hw : HW a0 Z) : B4 a0 Z (.methodLink s47 (40 : Nat) mn35) := wx hw 228 rfl
theorem wd229 {a0 Z} (hw : HW a0 Z) : B4 a0 Z (.instanceMethod mn35) := wx hw 229 rfl
theorem wd230 {a0 Z} (hw : HW a0 Z) : B4 a0 Z (.code mn35 prog_52_method_1_code (4 : Nat) (Option.none : Option Jvm.ClassFile.FieldType)) := wx hw 230 rfl
theorem wd232 {a0 Z} (hw : HW a0 Z) : B4 a0 Z (.stringLink s47 (7 : Nat) s11) := wx hw 232 rfl
theorem wd238 {a0 Z} (hw : HW a0 Z) : B4 a0 Z (.fieldLinkNest s33 (19 : Nat) s30 "EMPTY" s2 s30) := wx hw 238 rfl
theorem wd239 {a0 Z} (hw : HW a0 Z) : B4 a0 Z (.fieldLink s47 (21 : Nat) s47 s11 s7) := wx hw 239 rfl
theorem wd240 {a0 Z} (hw : HW a0 Z) : B4 a0 Z (.laysFinal s47 s47 s11 s7) := wx hw 240 rfl
theorem wd241 {a0 Z} (hw : HW a0 Z) : B4 a0 Z (.fieldLink s47 (26 : Nat) s47 "match" s6) := wx hw 241 rfl
theorem wd242 {a0 Z} (hw : HW a0 Z) : B4 a0 Z (.laysFinal s47 s47 "match" s6) := wx hw 242 rfl
theorem wd243 {a0 Z} (hw : HW a0 Z) : B4 a0 Z (.fieldLink s47 (30 : Nat) s47 "exact" "Z") := wx hw 243 rfl
theorem wd244 {a0 Z} (hw : HW a0 Z) : B4 a0 Z (.laysFinal s47 s47 "exact" "Z") := wx hw 244 rfl
theorem wd245 {a0 Z} (hw : HW a0 Z) : B4 a0 Z (.castable s47 s20) := wx hw 245 rfl
theorem wd246 {a0 Z} (hw : HW a0 Z) : B4 a0 Z (.classLink s44 (57 : Nat) s43) := wx hw 246 rfl
theorem wd247 {a0 Z} (hw : HW a0 Z) : B4 a0 Z (.instantiable s43 (2 : Nat)) := wx hw 247 rfl
theorem wd248 {a0 Z} (hw : HW a0 Z) : B4 a0 Z (.initialized s43) := wx hw 248 rfl
theorem wd252 {a0 Z} (hw : HW a0 Z) : B4 a0 Z (.methodLink s43 (1 : Nat) mn7) := wx hw 252 rfl
theorem wd253 {a0 Z} (hw : HW a0 Z) : B4 a0 Z (.fieldLink s43 (7 : Nat) s43 s15 "I") := wx hw 253 rfl
theorem wd254 {a0 Z} (hw : HW a0 Z) : B4 a0 Z (.laysFinal s43 s43 s15 "I") := wx hw 254 rfl
theorem wd264 {a0 Z} (hw : HW a0 Z) : B4 a0 Z (.fieldLink s43 (19 : Nat) s43 "values" "[J") := wx hw 264 rfl
theorem wd265 {a0 Z} (hw : HW a0 Z) : B4 a0 Z (.laysFinal s43 s43 "values" "[J") := wx hw 265 rfl
theorem wd274 {a0 Z} (hw : HW a0 Z) : B4 a0 Z (.classLink s26 (267 : Nat) s27) := wx hw 274 rfl
theorem wd275 {a0 Z} (hw : HW a0 Z) : B4 a0 Z (.instantiable s27 (4 : Nat)) := wx hw 275 rfl
theorem wd276 {a0 Z} (hw : HW a0 Z) : B4 a0 Z (.initialized s27) := wx hw 276 rfl
theorem wd281 {a0 Z} (hw : HW a0 Z) : B4 a0 Z (.fieldLink s27 (1 : Nat) s27 "this$0" s4) := wx hw 281 rfl
theorem wd282 {a0 Z} (hw : HW a0 Z) : B4 a0 Z (.laysFinal s27 s27 "this$0" s4) := wx hw 282 rfl
theorem wd283 {a0 Z} (hw : HW a0 Z) : B4 a0 Z (.methodLink s27 (7 : Nat) mn7) := wx hw 283 rfl
theorem wd284 {a0 Z} (hw : HW a0 Z) : B4 a0 Z (.fieldLink s27 (13 : Nat) s27 "lastRet" "I") := wx hw 284 rfl
theorem wd285 {a0 Z} (hw : HW a0 Z) : B4 a0 Z (.lays s27 s27 "lastRet" "I") := wx hw 285 rfl
theorem wd286 {a0 Z} (hw : HW a0 Z) : B4 a0 Z (.fieldLink s27 (17 : Nat) s26 s41 "I") := wx hw 286 rfl
theorem wd287 {a0 Z} (hw : HW a0 Z) : B4 a0 Z (.fieldLink s27 (22 : Nat) s27 s14 "I") := wx hw 287 rfl
theorem wd288 {a0 Z} (hw : HW a0 Z) : B4 a0 Z (.lays s27 s27 s14 "I") := wx hw 288 rfl
theorem wd298 {a0 Z} (hw : HW a0 Z) : B4 a0 Z (.fieldLink s27 (25 : Nat) s27 "cursor" "I") := wx hw 298 rfl
theorem wd299 {a0 Z} (hw : HW a0 Z) : B4 a0 Z (.lays s27 s27 "cursor" "I") := wx hw 299 rfl
theorem wd300 {a0 Z} (hw : HW a0 Z) : B4 a0 Z (.fieldLinkNest s27 (28 : Nat) s26 "size" "I" s26) := wx hw 300 rfl
theorem wd312 {a0 Z} (hw : HW a0 Z) : B4 a0 Z (.selects s27 mn43 mn43) := wx hw 312 rfl
theorem wd314 {a0 Z} (hw : HW a0 Z) : B4 a0 Z (.fieldLink s27 (37 : Nat) s26 s12 s8) := wx hw 314 rfl
theorem wd315 {a0 Z} (hw : HW a0 Z) : B4 a0 Z (.classLink s43 (37 : Nat) s47) := wx hw 315 rfl
theorem wd317 {a0 Z} (hw : HW a0 Z) : B4 a0 Z (.constantLong s43 (41 : Nat) (9223372036854775807 : Int64)) := wx hw 317 rfl
theorem wd318 {a0 Z} (hw : HW a0 Z) : B4 a0 Z (.constantLong s43 (43 : Nat) (-1 : Int64)) := wx hw 318 rfl
theorem wd322 {a0 Z} (hw : HW a0 Z) : B4 a0 Z (.selects s47 mn44 mn44) := wx hw 322 rfl
theorem wd330 {a0 Z} (hw : HW a0 Z) : B4 a0 Z (.classLink s32 (61 : Nat) s34) := wx hw 330 rfl
theorem wd331 {a0 Z} (hw : HW a0 Z) : B4 a0 Z (.instantiable s34 (4 : Nat)) := wx hw 331 rfl
theorem wd332 {a0 Z} (hw : HW a0 Z) : B4 a0 Z (.initialized s34) := wx hw 332 rfl
theorem wd343 {a0 Z} (hw : HW a0 Z) : B4 a0 Z (.methodLink s34 (1 : Nat) mn7) := wx hw 343 rfl
theorem wd344 {a0 Z} (hw : HW a0 Z) : B4 a0 Z (.fieldLink s34 (7 : Nat) s34 "list" s6) := wx hw 344 rfl
theorem wd345 {a0 Z} (hw : HW a0 Z) : B4 a0 Z (.laysFinal s34 s34 "list" s6) := wx hw 345 rfl
theorem wd346 {a0 Z} (hw : HW a0 Z) : B4 a0 Z (.fieldLink s34 (13 : Nat) s34 "size" "I") := wx hw 346 rfl
theorem wd347 {a0 Z} (hw : HW a0 Z) : B4 a0 Z (.laysFinal s34 s34 "size" "I") := wx hw 347 rfl
theorem wd348 {a0 Z} (hw : HW a0 Z) : B4 a0 Z (.fieldLink s34 (17 : Nat) s34 "cursor" "I") := wx hw 348 rfl
theorem wd349 {a0 Z} (hw : HW a0 Z) : B4 a0 Z (.lays s34 s34 "cursor" "I") := wx hw 349 rfl
theorem wd350 {a0 Z} (hw : HW a0 Z) : B4 a0 Z (.fieldLink s34 (20 : Nat) s34 s17 "Z") := wx hw 350 rfl
theorem wd351 {a0 Z} (hw : HW a0 Z) : B4 a0 Z (.laysFinal s34 s34 s17 "Z") := wx hw 351 rfl
theorem wd371 {a0 Z} (hw : HW a0 Z) : B4 a0 Z (.classLink s43 (49 : Nat) s45) := wx hw 371 rfl
theorem wd376 {a0 Z} (hw : HW a0 Z) : B4 a0 Z (.selects s45 mn51 mn51) := wx hw 376 rfl
theorem wd379 {a0 Z} (hw : HW a0 Z) : B4 a0 Z (.classLink s43 (58 : Nat) s48) := wx hw 379 rfl
theorem wd384 {a0 Z} (hw : HW a0 Z) : B4 a0 Z (.selects s48 mn52 mn52) := wx hw 384 rfl
theorem wd390 {a0 Z} (hw : HW a0 Z) : B4 a0 Z (.selects s48 mn53 mn53) := wx hw 390 rfl
theorem wd399 {a0 Z} (hw : HW a0 Z) : B4 a0 Z (.selects s43 mn55 mn55) := wx hw 399 rfl
theorem wd404 {a0 Z} (hw : HW a0 Z) : B4 a0 Z (.fieldLink s37 (90 : Nat) s30 s1 s5) := wx hw 404 rfl
theorem wd408 {a0 Z} (hw : HW a0 Z) : B4 a0 Z (.selects s35 ({ cls := s32, name := "size", desc := "()I" } : Jvm.MethodName) mn57) := wx hw 408 rfl
theorem wd412 {a0 Z} (hw : HW a0 Z) : B4 a0 Z (.fieldLink s35 (7 : Nat) s35 s13 s8) := wx hw 412 rfl
theorem d1_0 : DC cb1 0 (.lload_n 0) 1 := by decide +kernel
theorem d1_1 : DC cb1 1 (.bipush 24) 2 := by decide +kernel
theorem d1_3 : DC cb1 3 (.lushr) 1 := by decide +kernel
theorem d1_4 : DC cb1 4 (.ldc2_w 7) 3 := by decide +kernel
theorem d1_7 : DC cb1 7 (.land) 1 := by decide +kernel
theorem d1_8 : DC cb1 8 (.lstore_n 3) 1 := by decide +kernel
theorem d1_9 : DC cb1 9 (.lload_n 0) 1 := by decide +kernel
theorem d1_10 : DC cb1 10 (.ldc2_w 7) 3 := by decide +kernel
theorem d1_13 : DC cb1 13 (.land) 1 := by decide +kernel
theorem d1_14 : DC cb1 14 (.lstore 5) 2 := by decide +kernel
theorem d1_16 : DC cb1 16 (.lload_n 3) 1 := by decide +kernel
theorem d1_17 : DC cb1 17 (.lload 5) 2 := by decide +kernel
theorem d1_19 : DC cb1 19 (.invokestatic 9) 3 := by decide +kernel
theorem d2_0 : DC cb2 0 (.lload_n 0) 1 := by decide +kernel
theorem d2_1 : DC cb2 1 (.lload_n 2) 1 := by decide +kernel
theorem d2_2 : DC cb2 2 (.lcmp) 1 := by decide +kernel
theorem d2_3 : DC cb2 3 (.ifCond .gt 7) 3 := by decide +kernel
theorem d2_10 : DC cb2 10 (.lload_n 2) 1 := by decide +kernel
theorem d2_11 : DC cb2 11 (.lreturn) 1 := by decide +kernel
theorem ef_2_0 (m : MethodId) (x0 : Int64) (x1 : Int64) : entryFrame m #[(.long x0), (.long x1)] 4 = mkF m 0 #[.val (.long x0), .second, .val (.long x1), .second] [] := by first | (simp [entryFrame, mkF, argsToLocals, Value.category]; done) | rfl
theorem rm2_0 (l : Launch) (Z : State) (a0 : Array Value) (hw : HW a0 Z) (q1 q2 : Int64) (h0 : Heap) (n0 : Nat) (OL0 : Old Z n0 h0) (pr1 : q2 < q1) :
    MF l Z mn2 jdk_29_method_70_code 4 (some .long) ⟨0, 0, 0, 0⟩ #[(.long q1), (.long q2)] h0 (QR n0 h0 (some (.long q2))) := by
  refine own_start (Jvm.Free.JP.mathPlain rfl (by decide +kernel)) (fun m => (ef_2_0 m q1 q2)) ?_
  intro p e s m below meth c s₁ hZ hx hby hml hown hnm hret X0 e0
  have N0 := Fr.nil n0
  refine ⟨some (.long q2), _, _, _, _, _, X0, e0, by decide, nofun, fun fs hr => ?_, ?_⟩
  · refine xlloadN X0 hx hby d2_0 rfl ?_
    show SS p e below s₁ m 1 #[jv q1, sc, jv q2, sc] [(.long q1)] _
    refine xlloadN X0 hx hby d2_1 rfl ?_
    refine XS.lcmp X0.here hx rfl (hb hby d2_2) rfl ?_
    refine XS.ifYes X0.here hx rfl (pc0 := 3) (pc' := 10) rfl (hb hby d2_3) rfl ((if0 _ _).trans (tlt (((lw_gt q1 q2).mpr pr1) : (0 : Int32) < (lcmpW q1 q2))).2.2.1) (by decide) (by decide) ?_
    refine xlloadN X0 hx hby d2_10 rfl ?_
    show SS p e below s₁ m 11 #[jv q1, sc, jv q2, sc] [(.long q2)] _
    exact own_retJ X0 hx hret (hb hby d2_11) hr
  · exact ⟨rfl, N0, rfl⟩
theorem d2_6 : DC cb2 6 (.lload_n 0) 1 := by decide +kernel
theorem d2_7 : DC cb2 7 (.goto 4) 3 := by decide +kernel
theorem rm2_1 (l : Launch) (Z : State) (a0 : Array Value) (hw : HW a0 Z) (q1 q2 : Int64) (h0 : Heap) (n0 : Nat) (OL0 : Old Z n0 h0) (pr1 : ¬ (q2 < q1)) :
    MF l Z mn2 jdk_29_method_70_code 4 (some .long) ⟨0, 0, 0, 0⟩ #[(.long q1), (.long q2)] h0 (QR n0 h0 (some (.long q1))) := by
  refine own_start (Jvm.Free.JP.mathPlain rfl (by decide +kernel)) (fun m => (ef_2_0 m q1 q2)) ?_
  intro p e s m below meth c s₁ hZ hx hby hml hown hnm hret X0 e0
  have N0 := Fr.nil n0
  refine ⟨some (.long q1), _, _, _, _, _, X0, e0, by decide, nofun, fun fs hr => ?_, ?_⟩
  · refine xlloadN X0 hx hby d2_0 rfl ?_
    show SS p e below s₁ m 1 #[jv q1, sc, jv q2, sc] [(.long q1)] _
    refine xlloadN X0 hx hby d2_1 rfl ?_
    refine XS.lcmp X0.here hx rfl (hb hby d2_2) rfl ?_
    refine XS.ifNo X0.here hx rfl (hb hby d2_3) rfl ((if0 _ _).trans (flt ((fun z => pr1 ((lw_gt q1 q2).mp z)) : ¬ ((0 : Int32) < (lcmpW q1 q2)))).2.2.1) ?_
    refine xlloadN X0 hx hby d2_6 rfl ?_
    refine XS.goto X0.here hx rfl (pc0 := 7) (pc' := 11) rfl (hb hby d2_7) (by decide) (by decide) ?_
    show SS p e below s₁ m 11 #[jv q1, sc, jv q2, sc] [(.long q1)] _
    exact own_retJ X0 hx hret (hb hby d2_11) hr
  · exact ⟨rfl, N0, rfl⟩
theorem mg_own_jmin (l : Launch) (Z : State) (a0 : Array Value) (hw : HW a0 Z) (x y : Int64) (h0 : Heap) (n0 : Nat) (OL0 : Old Z n0 h0) :
    MF l Z mn2 jdk_29_method_70_code 4 (some .long) ⟨0, 0, 0, 0⟩ #[(.long x), (.long y)] h0 (QR n0 h0 (some (.long (own_jmin x y)))) := by
  by_cases hc : y < x
  · rw [show own_jmin x y = _ from if_pos hc]
    exact rm2_0 l Z a0 hw x y h0 n0 OL0 hc
  · rw [show own_jmin x y = _ from if_neg hc]
    exact rm2_1 l Z a0 hw x y h0 n0 OL0 hc
theorem pd_0 : parseMethodDescriptor "(JJ)J" = some ⟨[.long, .long], some .long⟩ := by decide +kernel
theorem cw0 {a0 Z} (hw : HW a0 Z) : CS a0 Z s44 9 mn2 2 (.code mn2 jdk_29_method_70_code 4 (some .long)) :=
  ⟨wx hw 6 rfl, wx hw 7 rfl, wx hw 9 rfl, wx hw 8 rfl, by decide, _, _, pd_0, rfl⟩
theorem d1_22 : DC cb1 22 (.iload_n 2) 1 := by decide +kernel
theorem d1_23 : DC cb1 23 (.lshl) 1 := by decide +kernel
theorem d1_24 : DC cb1 24 (.lreturn) 1 := by decide +kernel
theorem ef_1_1 (m : MethodId) (x0 : Int64) (x1 : Int32) : entryFrame m #[(.long x0), (.int x1)] 7 = mkF m 0 #[.val (.long x0), .second, .val (.int x1), .unset, .unset, .unset, .unset] [] := by first | (simp [entryFrame, mkF, argsToLocals, Value.category]; done) | rfl
theorem pn_0 : plainName "shadowsift/core/BoundsMeetPinLaw" = true := by first | (simp [plainName, overriddenIn]; done) | decide +kernel
theorem rm1_0 (l : Launch) (Z : State) (a0 : Array Value) (hw : HW a0 Z) (q1 : Int64) (p2 : Int32) (h0 : Heap) (n0 : Nat) (OL0 : Old Z n0 h0)  :
    MF l Z mn1 method_2_code 7 (some .long) ⟨1, 0, 0, 15⟩ #[(.long q1), (.int p2)] h0 (QR n0 h0 (some (.long ((own_jmin (((q1.toUInt64 >>> ((24 : Int32) &&& 0x3f).toInt64.toUInt64).toInt64) &&& (16777215 : Int64)) (q1 &&& (16777215 : Int64))) <<< (p2 &&& 0x3f).toInt64)))) := by
  refine own_start (plainFor_of_name pn_0) (fun m => (ef_1_1 m q1 p2)) ?_
  intro p e s m below meth c s₁ hZ hx hby hml hown hnm hret X0 e0
  have N0 := Fr.nil n0
  obtain ⟨_, T3, L3, X3, hQ3, st3⟩ := own_cS X0 hx hZ hown hml (cw0 hw) (mg_own_jmin l Z a0 hw (((q1.toUInt64 >>> ((24 : Int32) &&& 0x3f).toInt64.toUInt64).toInt64) &&& (16777215 : Int64)) (q1 &&& (16777215 : Int64)) h0 n0 OL0 ) e0 19 #[jv q1, sc, iv p2, .val (.long (((q1.toUInt64 >>> ((24 : Int32) &&& 0x3f).toInt64.toUInt64).toInt64) &&& (16777215 : Int64))), sc, .val (.long (q1 &&& (16777215 : Int64))), sc] [(.long (((q1.toUInt64 >>> ((24 : Int32) &&& 0x3f).toInt64.toUInt64).toInt64) &&& (16777215 : Int64))), (.long (q1 &&& (16777215 : Int64)))] [] 0 rfl (hb hby d1_19) (by decide)
  obtain ⟨rfl, Nq3, ec3⟩ := hQ3
  have N3 := Fr.app N0 Nq3
  refine ⟨some (.long ((own_jmin (((q1.toUInt64 >>> ((24 : Int32) &&& 0x3f).toInt64.toUInt64).toInt64) &&& (16777215 : Int64)) (q1 &&& (16777215 : Int64))) <<< (p2 &&& 0x3f).toInt64)), _, _, _, _, _, X3, ec3, by decide, nofun, fun fs hr => ?_, ?_⟩
  · refine xlloadN X0 hx hby d1_0 rfl ?_
    show SS p e below s₁ m 1 #[jv q1, sc, iv p2, uu, uu, uu, uu] [(.long q1)] _
    refine XS.bipush X0.here hx rfl (hb hby d1_1) ?_
    refine XS.lushr X0.here hx rfl (hb hby d1_3) rfl ?_
    refine X0.ldc2Long hx hown (mvT hZ (wd5 hw)) (g := (mkF m 4 #[jv q1, sc, iv p2, uu, uu, uu, uu] [(.long ((q1.toUInt64 >>> ((24 : Int32) &&& 0x3f).toInt64.toUInt64).toInt64))])) rfl (hb hby d1_4) _ ?_
    refine XS.land X0.here hx rfl (hb hby d1_7) rfl ?_
    refine XS.lstoreN X0.here hx rfl (hb hby d1_8) rfl (l' := #[jv q1, sc, iv p2, .val (.long (((q1.toUInt64 >>> ((24 : Int32) &&& 0x3f).toInt64.toUInt64).toInt64) &&& (16777215 : Int64))), sc, uu, uu]) rfl ?_
    refine xlloadN X0 hx hby d1_9 rfl ?_
    refine X0.ldc2Long hx hown (mvT hZ (wd5 hw)) (g := (mkF m 10 #[jv q1, sc, iv p2, .val (.long (((q1.toUInt64 >>> ((24 : Int32) &&& 0x3f).toInt64.toUInt64).toInt64) &&& (16777215 : Int64))), sc, uu, uu] [(.long q1)])) rfl (hb hby d1_10) _ ?_
    refine XS.land X0.here hx rfl (hb hby d1_13) rfl ?_
    refine XS.lstore X0.here hx rfl (hb hby d1_14) rfl (l' := #[jv q1, sc, iv p2, .val (.long (((q1.toUInt64 >>> ((24 : Int32) &&& 0x3f).toInt64.toUInt64).toInt64) &&& (16777215 : Int64))), sc, .val (.long (q1 &&& (16777215 : Int64))), sc]) rfl ?_
    refine xlloadN X0 hx hby d1_16 rfl ?_
    show SS p e below s₁ m 17 #[jv q1, sc, iv p2, .val (.long (((q1.toUInt64 >>> ((24 : Int32) &&& 0x3f).toInt64.toUInt64).toInt64) &&& (16777215 : Int64))), sc, .val (.long (q1 &&& (16777215 : Int64))), sc] [(.long (((q1.toUInt64 >>> ((24 : Int32) &&& 0x3f).toInt64.toUInt64).toInt64) &&& (16777215 : Int64)))] _
    refine xlload X0 hx hby d1_17 rfl ?_
    refine st3 _ ?_
    refine xiloadN X3 hx hby d1_22 rfl ?_
    refine XS.lshl X3.here hx rfl (hb hby d1_23) rfl ?_
    show SS p e below T3 m 24 #[jv q1, sc, iv p2, .val (.long (((q1.toUInt64 >>> ((24 : Int32) &&& 0x3f).toInt64.toUInt64).toInt64) &&& (16777215 : Int64))), sc, .val (.long (q1 &&& (16777215 : Int64))), sc] [(.long ((own_jmin (((q1.toUInt64 >>> ((24 : Int32) &&& 0x3f).toInt64.toUInt64).toInt64) &&& (16777215 : Int64)) (q1 &&& (16777215 : Int64))) <<< (p2 &&& 0x3f).toInt64))] _
    exact own_retJ X3 hx hret (hb hby d1_24) hr
  · exact ⟨rfl, N3, rfl⟩
theorem pd_1 : parseMethodDescriptor "(JI)J" = some ⟨[.long, .int], some .long⟩ := by decide +kernel
theorem cw1 {a0 Z} (hw : HW a0 Z) : CS a0 Z s44 18 mn1 2 (.code mn1 method_2_code 7 (some .long)) :=
  ⟨wx hw 1 rfl, wx hw 2 rfl, wx hw 4 rfl, wx hw 3 rfl, by decide, _, _, pd_1, rfl⟩
theorem d3_0 : DC cb3 0 (.lload_n 0) 1 := by decide +kernel
theorem d3_1 : DC cb3 1 (.bipush 24) 2 := by decide +kernel
theorem d3_3 : DC cb3 3 (.lushr) 1 := by decide +kernel
theorem d3_4 : DC cb3 4 (.ldc2_w 7) 3 := by decide +kernel
theorem d3_7 : DC cb3 7 (.land) 1 := by decide +kernel
theorem d3_8 : DC cb3 8 (.lstore_n 3) 1 := by decide +kernel
theorem d3_9 : DC cb3 9 (.lload_n 0) 1 := by decide +kernel
theorem d3_10 : DC cb3 10 (.ldc2_w 7) 3 := by decide +kernel
theorem d3_13 : DC cb3 13 (.land) 1 := by decide +kernel
theorem d3_14 : DC cb3 14 (.lstore 5) 2 := by decide +kernel
theorem d3_16 : DC cb3 16 (.lload_n 3) 1 := by decide +kernel
theorem d3_17 : DC cb3 17 (.lload 5) 2 := by decide +kernel
theorem d3_19 : DC cb3 19 (.invokestatic 15) 3 := by decide +kernel
theorem d4_0 : DC cb4 0 (.lload_n 0) 1 := by decide +kernel
theorem d4_1 : DC cb4 1 (.lload_n 2) 1 := by decide +kernel
theorem d4_2 : DC cb4 2 (.lcmp) 1 := by decide +kernel
theorem d4_3 : DC cb4 3 (.ifCond .lt 7) 3 := by decide +kernel
theorem d4_10 : DC cb4 10 (.lload_n 2) 1 := by decide +kernel
theorem d4_11 : DC cb4 11 (.lreturn) 1 := by decide +kernel
theorem ef_4_2 (m : MethodId) (x0 : Int64) (x1 : Int64) : entryFrame m #[(.long x0), (.long x1)] 4 = mkF m 0 #[.val (.long x0), .second, .val (.long x1), .second] [] := by first | (simp [entryFrame, mkF, argsToLocals, Value.category]; done) | rfl
theorem rm4_0 (l : Launch) (Z : State) (a0 : Array Value) (hw : HW a0 Z) (q1 q2 : Int64) (h0 : Heap) (n0 : Nat) (OL0 : Old Z n0 h0) (pr1 : q1 < q2) :
    MF l Z mn4 jdk_29_method_66_code 4 (some .long) ⟨0, 0, 0, 0⟩ #[(.long q1), (.long q2)] h0 (QR n0 h0 (some (.long q2))) := by
  refine own_start (Jvm.Free.JP.mathPlain rfl (by decide +kernel)) (fun m => (ef_4_2 m q1 q2)) ?_
  intro p e s m below meth c s₁ hZ hx hby hml hown hnm hret X0 e0
  have N0 := Fr.nil n0
  refine ⟨some (.long q2), _, _, _, _, _, X0, e0, by decide, nofun, fun fs hr => ?_, ?_⟩
  · refine xlloadN X0 hx hby d4_0 rfl ?_
    show SS p e below s₁ m 1 #[jv q1, sc, jv q2, sc] [(.long q1)] _
    refine xlloadN X0 hx hby d4_1 rfl ?_
    refine XS.lcmp X0.here hx rfl (hb hby d4_2) rfl ?_
    refine XS.ifYes X0.here hx rfl (pc0 := 3) (pc' := 10) rfl (hb hby d4_3) rfl ((if0 _ _).trans (tlt (((lw_lt q1 q2).mpr pr1) : (lcmpW q1 q2) < (0 : Int32))).1) (by decide) (by decide) ?_
    refine xlloadN X0 hx hby d4_10 rfl ?_
    show SS p e below s₁ m 11 #[jv q1, sc, jv q2, sc] [(.long q2)] _
    exact own_retJ X0 hx hret (hb hby d4_11) hr
  · exact ⟨rfl, N0, rfl⟩
theorem d4_6 : DC cb4 6 (.lload_n 0) 1 := by decide +kernel
theorem d4_7 : DC cb4 7 (.goto 4) 3 := by decide +kernel
theorem rm4_1 (l : Launch) (Z : State) (a0 : Array Value) (hw : HW a0 Z) (q1 q2 : Int64) (h0 : Heap) (n0 : Nat) (OL0 : Old Z n0 h0) (pr1 : ¬ (q1 < q2)) :
    MF l Z mn4 jdk_29_method_66_code 4 (some .long) ⟨0, 0, 0, 0⟩ #[(.long q1), (.long q2)] h0 (QR n0 h0 (some (.long q1))) := by
  refine own_start (Jvm.Free.JP.mathPlain rfl (by decide +kernel)) (fun m => (ef_4_2 m q1 q2)) ?_
  intro p e s m below meth c s₁ hZ hx hby hml hown hnm hret X0 e0
  have N0 := Fr.nil n0
  refine ⟨some (.long q1), _, _, _, _, _, X0, e0, by decide, nofun, fun fs hr => ?_, ?_⟩
  · refine xlloadN X0 hx hby d4_0 rfl ?_
    show SS p e below s₁ m 1 #[jv q1, sc, jv q2, sc] [(.long q1)] _
    refine xlloadN X0 hx hby d4_1 rfl ?_
    refine XS.lcmp X0.here hx rfl (hb hby d4_2) rfl ?_
    refine XS.ifNo X0.here hx rfl (hb hby d4_3) rfl ((if0 _ _).trans (flt ((fun z => pr1 ((lw_lt q1 q2).mp z)) : ¬ ((lcmpW q1 q2) < (0 : Int32)))).1) ?_
    refine xlloadN X0 hx hby d4_6 rfl ?_
    refine XS.goto X0.here hx rfl (pc0 := 7) (pc' := 11) rfl (hb hby d4_7) (by decide) (by decide) ?_
    show SS p e below s₁ m 11 #[jv q1, sc, jv q2, sc] [(.long q1)] _
    exact own_retJ X0 hx hret (hb hby d4_11) hr
  · exact ⟨rfl, N0, rfl⟩
theorem mg_own_jmax (l : Launch) (Z : State) (a0 : Array Value) (hw : HW a0 Z) (x y : Int64) (h0 : Heap) (n0 : Nat) (OL0 : Old Z n0 h0) :
    MF l Z mn4 jdk_29_method_66_code 4 (some .long) ⟨0, 0, 0, 0⟩ #[(.long x), (.long y)] h0 (QR n0 h0 (some (.long (own_jmax x y)))) := by
  by_cases hc : x < y
  · rw [show own_jmax x y = _ from if_pos hc]
    exact rm4_0 l Z a0 hw x y h0 n0 OL0 hc
  · rw [show own_jmax x y = _ from if_neg hc]
    exact rm4_1 l Z a0 hw x y h0 n0 OL0 hc
theorem cw2 {a0 Z} (hw : HW a0 Z) : CS a0 Z s44 15 mn4 2 (.code mn4 jdk_29_method_66_code 4 (some .long)) :=
  ⟨wx hw 13 rfl, wx hw 14 rfl, wx hw 15 rfl, wx hw 8 rfl, by decide, _, _, pd_0, rfl⟩
theorem d3_22 : DC cb3 22 (.iload_n 2) 1 := by decide +kernel
theorem d3_23 : DC cb3 23 (.lshl) 1 := by decide +kernel
theorem d3_24 : DC cb3 24 (.lreturn) 1 := by decide +kernel
theorem ef_3_3 (m : MethodId) (x0 : Int64) (x1 : Int32) : entryFrame m #[(.long x0), (.int x1)] 7 = mkF m 0 #[.val (.long x0), .second, .val (.int x1), .unset, .unset, .unset, .unset] [] := by first | (simp [entryFrame, mkF, argsToLocals, Value.category]; done) | rfl
theorem rm3_0 (l : Launch) (Z : State) (a0 : Array Value) (hw : HW a0 Z) (q1 : Int64) (p2 : Int32) (h0 : Heap) (n0 : Nat) (OL0 : Old Z n0 h0)  :
    MF l Z mn3 method_3_code 7 (some .long) ⟨1, 0, 0, 15⟩ #[(.long q1), (.int p2)] h0 (QR n0 h0 (some (.long ((own_jmax (((q1.toUInt64 >>> ((24 : Int32) &&& 0x3f).toInt64.toUInt64).toInt64) &&& (16777215 : Int64)) (q1 &&& (16777215 : Int64))) <<< (p2 &&& 0x3f).toInt64)))) := by
  refine own_start (plainFor_of_name pn_0) (fun m => (ef_3_3 m q1 p2)) ?_
  intro p e s m below meth c s₁ hZ hx hby hml hown hnm hret X0 e0
  have N0 := Fr.nil n0
  obtain ⟨_, T3, L3, X3, hQ3, st3⟩ := own_cS X0 hx hZ hown hml (cw2 hw) (mg_own_jmax l Z a0 hw (((q1.toUInt64 >>> ((24 : Int32) &&& 0x3f).toInt64.toUInt64).toInt64) &&& (16777215 : Int64)) (q1 &&& (16777215 : Int64)) h0 n0 OL0 ) e0 19 #[jv q1, sc, iv p2, .val (.long (((q1.toUInt64 >>> ((24 : Int32) &&& 0x3f).toInt64.toUInt64).toInt64) &&& (16777215 : Int64))), sc, .val (.long (q1 &&& (16777215 : Int64))), sc] [(.long (((q1.toUInt64 >>> ((24 : Int32) &&& 0x3f).toInt64.toUInt64).toInt64) &&& (16777215 : Int64))), (.long (q1 &&& (16777215 : Int64)))] [] 0 rfl (hb hby d3_19) (by decide)
  obtain ⟨rfl, Nq3, ec3⟩ := hQ3
  have N3 := Fr.app N0 Nq3
  refine ⟨some (.long ((own_jmax (((q1.toUInt64 >>> ((24 : Int32) &&& 0x3f).toInt64.toUInt64).toInt64) &&& (16777215 : Int64)) (q1 &&& (16777215 : Int64))) <<< (p2 &&& 0x3f).toInt64)), _, _, _, _, _, X3, ec3, by decide, nofun, fun fs hr => ?_, ?_⟩
  · refine xlloadN X0 hx hby d3_0 rfl ?_
    show SS p e below s₁ m 1 #[jv q1, sc, iv p2, uu, uu, uu, uu] [(.long q1)] _
    refine XS.bipush X0.here hx rfl (hb hby d3_1) ?_
    refine XS.lushr X0.here hx rfl (hb hby d3_3) rfl ?_
    refine X0.ldc2Long hx hown (mvT hZ (wd5 hw)) (g := (mkF m 4 #[jv q1, sc, iv p2, uu, uu, uu, uu] [(.long ((q1.toUInt64 >>> ((24 : Int32) &&& 0x3f).toInt64.toUInt64).toInt64))])) rfl (hb hby d3_4) _ ?_
    refine XS.land X0.here hx rfl (hb hby d3_7) rfl ?_
    refine XS.lstoreN X0.here hx rfl (hb hby d3_8) rfl (l' := #[jv q1, sc, iv p2, .val (.long (((q1.toUInt64 >>> ((24 : Int32) &&& 0x3f).toInt64.toUInt64).toInt64) &&& (16777215 : Int64))), sc, uu, uu]) rfl ?_
    refine xlloadN X0 hx hby d3_9 rfl ?_
    refine X0.ldc2Long hx hown (mvT hZ (wd5 hw)) (g := (mkF m 10 #[jv q1, sc, iv p2, .val (.long (((q1.toUInt64 >>> ((24 : Int32) &&& 0x3f).toInt64.toUInt64).toInt64) &&& (16777215 : Int64))), sc, uu, uu] [(.long q1)])) rfl (hb hby d3_10) _ ?_
    refine XS.land X0.here hx rfl (hb hby d3_13) rfl ?_
    refine XS.lstore X0.here hx rfl (hb hby d3_14) rfl (l' := #[jv q1, sc, iv p2, .val (.long (((q1.toUInt64 >>> ((24 : Int32) &&& 0x3f).toInt64.toUInt64).toInt64) &&& (16777215 : Int64))), sc, .val (.long (q1 &&& (16777215 : Int64))), sc]) rfl ?_
    refine xlloadN X0 hx hby d3_16 rfl ?_
    show SS p e below s₁ m 17 #[jv q1, sc, iv p2, .val (.long (((q1.toUInt64 >>> ((24 : Int32) &&& 0x3f).toInt64.toUInt64).toInt64) &&& (16777215 : Int64))), sc, .val (.long (q1 &&& (16777215 : Int64))), sc] [(.long (((q1.toUInt64 >>> ((24 : Int32) &&& 0x3f).toInt64.toUInt64).toInt64) &&& (16777215 : Int64)))] _
    refine xlload X0 hx hby d3_17 rfl ?_
    refine st3 _ ?_
    refine xiloadN X3 hx hby d3_22 rfl ?_
    refine XS.lshl X3.here hx rfl (hb hby d3_23) rfl ?_
    show SS p e below T3 m 24 #[jv q1, sc, iv p2, .val (.long (((q1.toUInt64 >>> ((24 : Int32) &&& 0x3f).toInt64.toUInt64).toInt64) &&& (16777215 : Int64))), sc, .val (.long (q1 &&& (16777215 : Int64))), sc] [(.long ((own_jmax (((q1.toUInt64 >>> ((24 : Int32) &&& 0x3f).toInt64.toUInt64).toInt64) &&& (16777215 : Int64)) (q1 &&& (16777215 : Int64))) <<< (p2 &&& 0x3f).toInt64))] _
    exact own_retJ X3 hx hret (hb hby d3_24) hr
  · exact ⟨rfl, N3, rfl⟩
theorem cw3 {a0 Z} (hw : HW a0 Z) : CS a0 Z s44 24 mn3 2 (.code mn3 method_3_code 7 (some .long)) :=
  ⟨wx hw 10 rfl, wx hw 11 rfl, wx hw 12 rfl, wx hw 3 rfl, by decide, _, _, pd_1, rfl⟩
def own_bl (x : Int32) : Int32 := if x = 0 then (0 : Int32) else (1 : Int32)
theorem own_wS {a0 : Array Value} {Z : State} (hw : ∀ d ∈ tables_1, d.before a0 Z = true) : ∀ a ∈ Bundle.stringAtoms, a.before a0 Z = true := by
  intro d hd
  simp only [Bundle.stringAtoms, List.mem_cons, List.not_mem_nil, or_false] at hd
  rcases hd with rfl | rfl | rfl | rfl | rfl | rfl | rfl
  · exact (wd20 hw)
  · exact (wd21 hw)
  · exact (wd22 hw)
  · exact (wd23 hw)
  · exact (wd24 hw)
  · exact (wd25 hw)
  · exact (wd26 hw)
theorem d5_0 : DC cb5 0 (.aload_n 0) 1 := by decide +kernel
theorem d5_1 : DC cb5 1 (.invokespecial 1) 3 := by decide +kernel
theorem d6_0 : DC cb6 0 (.aload_n 0) 1 := by decide +kernel
theorem d6_1 : DC cb6 1 (.invokespecial 1) 3 := by decide +kernel
theorem d6_4 : DC cb6 4 (.return_) 1 := by decide +kernel
theorem ef_6_4 (m : MethodId) (x0 : Addr) : entryFrame m #[(.ref x0)] 1 = mkF m 0 #[.val (.ref x0)] [] := by first | (simp [entryFrame, mkF, argsToLocals, Value.category]; done) | rfl
theorem pn_1 : plainName "java/lang/Record" = true := by first | (simp [plainName, overriddenIn]; done) | decide +kernel
theorem rm6_0 (l : Launch) (Z : State) (a0 : Array Value) (hw : HW a0 Z) (a1 : Addr) (h0 : Heap) (n0 : Nat) (OL0 : Old Z n0 h0)  :
    MF l Z mn6 jdk_30_method_1_code 1 none ⟨1, 0, 0, 12⟩ #[(.ref a1)] h0 (QR n0 h0 (none)) := by
  refine own_start (plainFor_of_name pn_1) (fun m => (ef_6_4 m a1)) ?_
  intro p e s m below meth c s₁ hZ hx hby hml hown hnm hret X0 e0
  have N0 := Fr.nil n0
  obtain ⟨T2, X2, e2, st2⟩ := initO X0 hx hZ hown (wd35 hw) (wd36 hw) (wd37 hw) e0 (g := (mkF m 1 #[rv a1] [(.ref a1)])) rfl (by rw [hml]; rfl) rfl (hb hby d6_1) (by decide) (W := 0) (by show 2 * 0 + _ ≤ _; exact Nat.le_of_eq rfl) (by decide)
  refine ⟨none, _, _, _, _, _, X2, e2, by decide, fun _ => rfl, fun fs hr => ?_, ?_⟩
  · refine xaloadN X0 hx hby d6_0 rfl rfl ?_
    show SS p e below s₁ m 1 #[rv a1] [(.ref a1)] _
    refine st2 _ ?_
    show SS p e below T2 m 4 #[rv a1] [] _
    exact X2.returnOut hx hret (hb hby d6_4) hr
  · exact ⟨rfl, N0, rfl⟩
theorem pd_2 : parseMethodDescriptor "()V" = some ⟨[], none⟩ := by decide +kernel
theorem cw4 {a0 Z} (hw : HW a0 Z) : CN a0 Z s46 1 mn6 0 (.code mn6 jdk_30_method_1_code 1 none) :=
  ⟨rfl, wx hw 30 rfl, wx hw 31 rfl, wx hw 34 rfl, wx hw 33 rfl, by decide, _, _, pd_2, rfl⟩
theorem d5_4 : DC cb5 4 (.aload_n 1) 1 := by decide +kernel
theorem d5_5 : DC cb5 5 (.ldc 7) 2 := by decide +kernel
theorem d5_7 : DC cb5 7 (.invokestatic 9) 3 := by decide +kernel
theorem d8_0 : DC cb8 0 (.aload_n 0) 1 := by decide +kernel
theorem d8_1 : DC cb8 1 (.ifnonnull 12) 3 := by decide +kernel
theorem d8_13 : DC cb8 13 (.aload_n 0) 1 := by decide +kernel
theorem d8_14 : DC cb8 14 (.areturn) 1 := by decide +kernel
theorem ef_8_5 (m : MethodId) (x0 : Addr) (x1 : Addr) : entryFrame m #[(.ref x0), (.ref x1)] 2 = mkF m 0 #[.val (.ref x0), .val (.ref x1)] [] := by first | (simp [entryFrame, mkF, argsToLocals, Value.category]; done) | rfl
theorem pn_2 : plainName "java/util/Objects" = true := by first | (simp [plainName, overriddenIn]; done) | decide +kernel
theorem rm8_0 (l : Launch) (Z : State) (a0 : Array Value) (hw : HW a0 Z) (a1 a2 : Addr) (h0 : Heap) (n0 : Nat) (OL0 : Old Z n0 h0)  :
    MF l Z mn8 jdk_31_method_11_code 2 (some (.object s20)) ⟨0, 0, 0, 0⟩ #[(.ref a1), (.ref a2)] h0 (QR n0 h0 (some (.ref a1))) := by
  refine own_start (plainFor_of_name pn_2) (fun m => (ef_8_5 m a1 a2)) ?_
  intro p e s m below meth c s₁ hZ hx hby hml hown hnm hret X0 e0
  have N0 := Fr.nil n0
  refine ⟨some (.ref a1), _, _, _, _, _, X0, e0, by decide, nofun, fun fs hr => ?_, ?_⟩
  · refine xaloadN X0 hx hby d8_0 rfl rfl ?_
    show SS p e below s₁ m 1 #[rv a1, rv a2] [(.ref a1)] _
    refine XS.ifnonnullYes X0.here hx rfl (pc0 := 1) (pc' := 13) rfl (hb hby d8_1) rfl (by decide) (by decide) ?_
    refine xaloadN X0 hx hby d8_13 rfl rfl ?_
    show SS p e below s₁ m 14 #[rv a1, rv a2] [(.ref a1)] _
    exact own_retR X0 hx hret rfl rfl rfl (hb hby d8_14) hr
  · exact ⟨rfl, N0, rfl⟩
theorem pd_3 : parseMethodDescriptor "(Ljava/lang/Object;Ljava/lang/String;)Ljava/lang/Object;" = some ⟨[(.object "java/lang/Object"), (.object "java/lang/String")], some (.object "java/lang/Object")⟩ := by decide +kernel
theorem cw5 {a0 Z} (hw : HW a0 Z) : CS a0 Z s46 9 mn8 2 (.code mn8 jdk_31_method_11_code 2 (some (.object s20))) :=
  ⟨wx hw 39 rfl, wx hw 40 rfl, wx hw 42 rfl, wx hw 41 rfl, by decide, _, _, pd_3, rfl⟩
theorem d5_10 : DC cb5 10 (.pop) 1 := by decide +kernel
theorem d5_11 : DC cb5 11 (.aload_n 0) 1 := by decide +kernel
theorem d5_12 : DC cb5 12 (.aload_n 1) 1 := by decide +kernel
theorem d5_13 : DC cb5 13 (.putfield 15) 3 := by decide +kernel
theorem d5_16 : DC cb5 16 (.return_) 1 := by decide +kernel
theorem ef_5_6 (m : MethodId) (x0 : Addr) (x1 : Addr) : entryFrame m #[(.ref x0), (.ref x1)] 2 = mkF m 0 #[.val (.ref x0), .val (.ref x1)] [] := by first | (simp [entryFrame, mkF, argsToLocals, Value.category]; done) | rfl
theorem pn_3 : plainName "shadowsift/core/Decision" = true := by first | (simp [plainName, overriddenIn]; done) | decide +kernel
def Q_rm5_0 (Z : State) (a1 : Addr) (a2 : Addr) (h0 : Heap) (n0 : Nat) (v : Option Value) (h : Heap) (L : List Loc) : Prop := v = none ∧ Fr n0 L ∧ Keep h0 h [a1] ∧ Fld Z h a1 s46 "name" s3 (.ref a2)
set_option maxRecDepth 65536 in
set_option maxHeartbeats 40000000 in
theorem rm5_0 (l : Launch) (Z : State) (a0 : Array Value) (hw : HW a0 Z) (ws : List Jvm.Cond) (a1 : Addr) (a2 : Addr) (h0 : Heap) (n0 : Nat) (OL0 : Old Z n0 h0) (pr1 : Exa Z h0 a1 s46) (pr2 : Fld Z h0 a1 s46 "name" s3 .null) (pr3 : n0 ≤ a1) :
    MetFree l mn5 (head1 (Jvm.Cond.code mn5 prog_36_method_1_code 2 none :: ws) ({ frames := 2, cells := 2, slots := 20, locals := 24 } : Room)) (fun a U => a = #[(.ref a1), (.ref a2)] ∧ Z.Warmed39 U.vm ∧ U.heap = h0) (fun _ _ _ _ _ => True) (fun _ U o U' => ∃ v L, o = .returned v ∧ Q_rm5_0 Z a1 a2 h0 n0 v U'.heap L ∧ ReturnedEndW U o U' L ({ frames := 2, cells := 2, slots := 20, locals := 24 } : Room).cells ({ frames := 2, cells := 2, slots := 20, locals := 24 } : Room).slots) := by
  refine MetFree.of_bodySF (plainFor_of_name pn_3) hisR ?_
  intro p e s m args below meth c s₁ Bd hml0 hP hK
  obtain ⟨rfl, hZ, hh⟩ := hP
  have hx := Bd.exec
  have hby := Bd.bytes
  have hml : c.maxLocals = 2 := hml0
  have hown : s.vm.findClass s46 = some m.cls := findClass_of_methodNamed Bd.named
  have hnm := (name_of_methodNamed Bd.named Bd.method).1
  have X0 : Stand p l e ({ frames := 2, cells := 2, slots := 20, locals := 24 } : Room) s m #[(.ref a1), (.ref a2)] below meth c s₁ [] 0 0 := Stand.of_body Bd
  have e0 : s₁.heap = h0 := by rw [← hh, Bd.state]; rfl
  have N0 := Fr.nil n0
  have pre0 : ∀ t, SS p e below s₁ m 0 #[rv a1, rv a2] [] t → Steps p.tables e below (s₁.setTop (entryFrame m #[(.ref a1), (.ref a2)] 2)) t := fun t k => castTop (ef_5_6 m a1 a2) k
  obtain ⟨_, T3, L3, X3, hQ3, st3⟩ := own_cN X0 hx hZ hown hml (cw4 hw) (rm6_0 l Z a0 hw a1 h0 n0 OL0 ) e0 a1 1 #[rv a1, rv a2] [] [] 0 rfl (hb hby d5_1) (by decide)
  obtain ⟨rfl, Nq3, ec3⟩ := hQ3
  have N3 := Fr.app N0 Nq3
  obtain ⟨b4, T4, h4, k4, X4, e4, E4, hS4, hk4, hZ4, hown4, st4⟩ := ldcS (s := s) (vm0 := s.vm) X3 hx hZ hown (wd38 hw) (own_wS hw) ec3 ((State.WarmedH.refl s).since 0) (Nat.zero_le _) (g := (mkF m 5 #[rv a1, rv a2] [(.ref a2)])) rfl (hb hby d5_5) (n := 16) (by decide) (by decide) (by decide) (by decide)
  have KK4 : Keep h0 h4 [a1] := (Keep.refl h0 [a1]).ext E4
  have OL4 := OL0.ext E4
  obtain ⟨_, T5, L5, X5, hQ5, st5⟩ := own_cS X4 hx hZ4 hown4 hml (cw5 hw) (rm8_0 l Z a0 hw a2 b4 h4 n0 OL4 ) e4 7 #[rv a1, rv a2] [(.ref a2), (.ref b4)] [] 0 rfl (hb hby d5_7) (by decide)
  obtain ⟨rfl, Nq5, ec5⟩ := hQ5
  have N5 := Fr.app N3 Nq5
  have fc6 := (pr1.ext E4)
  have fc7 := (pr2.ext E4)
  obtain ⟨T8, h8, X8, e8, W8, st8⟩ := putF X5 hx hZ4 hown4 (host := "") (Or.inl (wd43 hw)) Via.refl ec5 fc7 fc6 (Or.inr ⟨(wd44 hw), rfl, hnm⟩) (wd17 hw) (ty := (.object s22)) (by decide) rfl rfl (g := (mkF m 13 #[rv a1, rv a2] [(.ref a2), (.ref a1)])) rfl rfl (hb hby d5_13)
  have Fw8 := fc7.same W8
  have KK8 : Keep h0 h8 [a1] := KK4.wr W8 (Or.inl (List.mem_of_getElem? (i := 0) rfl))
  have N8 := Fr.snoc X8 N5 pr3
  obtain ⟨fs, hr, hrun, hended, hRW⟩ := X8.leaveW (s := s) hS4 (by rw [e8]; exact (Nat.le_trans hk4 (Nat.le_of_eq W8.size.symm))) (v := none) (fun _ => rfl)
  refine ⟨_, _, pre0 _ ?_, hrun, hended, _, _, rfl, ?_, hRW.1, hRW.2.1, hRW.2.2.1, hRW.2.2.2.mono (by decide) (by decide)⟩
  · refine xaloadN X0 hx hby d5_0 rfl rfl ?_
    show SS p e below s₁ m 1 #[rv a1, rv a2] [(.ref a1)] _
    refine st3 _ ?_
    refine xaloadN X3 hx hby d5_4 rfl rfl ?_
    refine st4 _ ?_
    refine st5 _ ?_
    refine XS.pop X5.here hx rfl (hb hby d5_10) rfl rfl ?_
    refine xaloadN X5 hx hby d5_11 rfl rfl ?_
    refine xaloadN X5 hx hby d5_12 rfl rfl ?_
    refine st8 _ ?_
    show SS p e below T8 m 16 #[rv a1, rv a2] [] _
    exact X8.returnOut hx Bd.returns (hb hby d5_16) hr
  · show Q_rm5_0 Z a1 a2 h0 n0 _ T8.heap _
    rw [e8]
    exact ⟨rfl, N8, KK8, Fw8⟩
theorem pd_4 : parseMethodDescriptor "(Ljava/lang/String;)V" = some ⟨[(.object "java/lang/String")], none⟩ := by decide +kernel
theorem d9_0 : DC cb9 0 (.aload_n 0) 1 := by decide +kernel
theorem d9_1 : DC cb9 1 (.invokespecial 1) 3 := by decide +kernel
theorem d10_0 : DC cb10 0 (.aload_n 0) 1 := by decide +kernel
theorem d10_1 : DC cb10 1 (.invokespecial 1) 3 := by decide +kernel
theorem d11_0 : DC cb11 0 (.aload_n 0) 1 := by decide +kernel
theorem d11_1 : DC cb11 1 (.invokespecial 1) 3 := by decide +kernel
theorem d11_4 : DC cb11 4 (.return_) 1 := by decide +kernel
theorem ef_11_7 (m : MethodId) (x0 : Addr) : entryFrame m #[(.ref x0)] 1 = mkF m 0 #[.val (.ref x0)] [] := by first | (simp [entryFrame, mkF, argsToLocals, Value.category]; done) | rfl
theorem pn_4 : plainName "java/util/AbstractCollection" = true := by first | (simp [plainName, overriddenIn]; done) | decide +kernel
theorem rm11_0 (l : Launch) (Z : State) (a0 : Array Value) (hw : HW a0 Z) (a1 : Addr) (h0 : Heap) (n0 : Nat) (OL0 : Old Z n0 h0)  :
    MF l Z mn11 jdk_22_method_1_code 1 none ⟨1, 0, 0, 12⟩ #[(.ref a1)] h0 (QR n0 h0 (none)) := by
  refine own_start (plainFor_of_name pn_4) (fun m => (ef_11_7 m a1)) ?_
  intro p e s m below meth c s₁ hZ hx hby hml hown hnm hret X0 e0
  have N0 := Fr.nil n0
  obtain ⟨T2, X2, e2, st2⟩ := initO X0 hx hZ hown (wd63 hw) (wd36 hw) (wd37 hw) e0 (g := (mkF m 1 #[rv a1] [(.ref a1)])) rfl (by rw [hml]; rfl) rfl (hb hby d11_1) (by decide) (W := 0) (by show 2 * 0 + _ ≤ _; exact Nat.le_of_eq rfl) (by decide)
  refine ⟨none, _, _, _, _, _, X2, e2, by decide, fun _ => rfl, fun fs hr => ?_, ?_⟩
  · refine xaloadN X0 hx hby d11_0 rfl rfl ?_
    show SS p e below s₁ m 1 #[rv a1] [(.ref a1)] _
    refine st2 _ ?_
    show SS p e below T2 m 4 #[rv a1] [] _
    exact X2.returnOut hx hret (hb hby d11_4) hr
  · exact ⟨rfl, N0, rfl⟩
theorem cw6 {a0 Z} (hw : HW a0 Z) : CN a0 Z s25 1 mn11 0 (.code mn11 jdk_22_method_1_code 1 none) :=
  ⟨rfl, wx hw 57 rfl, wx hw 58 rfl, wx hw 62 rfl, wx hw 61 rfl, by decide, _, _, pd_2, rfl⟩
theorem d10_4 : DC cb10 4 (.aload_n 0) 1 := by decide +kernel
theorem d10_5 : DC cb10 5 (.iconst 0) 1 := by decide +kernel
theorem d10_6 : DC cb10 6 (.putfield 7) 3 := by decide +kernel
theorem d10_9 : DC cb10 9 (.return_) 1 := by decide +kernel
theorem ef_10_8 (m : MethodId) (x0 : Addr) : entryFrame m #[(.ref x0)] 1 = mkF m 0 #[.val (.ref x0)] [] := by first | (simp [entryFrame, mkF, argsToLocals, Value.category]; done) | rfl
theorem pn_5 : plainName "java/util/AbstractList" = true := by first | (simp [plainName, overriddenIn]; done) | decide +kernel
theorem rm10_0 (l : Launch) (Z : State) (a0 : Array Value) (hw : HW a0 Z) (a1 : Addr) (h0 : Heap) (n0 : Nat) (OL0 : Old Z n0 h0) (pr1 : Exa Z h0 a1 s26) (pr2 : Fld Z h0 a1 s25 s41 "I" (.int (0 : Int32))) (pr3 : n0 ≤ a1) (pr4 : Fld Z h0 a1 s26 s12 s8 .null) (pr5 : Fld Z h0 a1 s26 "size" "I" (.int (0 : Int32))) :
    MF l Z mn10 jdk_39_method_1_code 1 none ⟨2, 0, 0, 24⟩ #[(.ref a1)] h0 (fun v h L => v = none ∧ Fr n0 L ∧ Keep h0 h [a1] ∧ Fld Z h a1 s25 s41 "I" (.int (0 : Int32)) ∧ Fld Z h a1 s26 s12 s8 .null ∧ Fld Z h a1 s26 "size" "I" (.int (0 : Int32))) := by
  refine own_start (plainFor_of_name pn_5) (fun m => (ef_10_8 m a1)) ?_
  intro p e s m below meth c s₁ hZ hx hby hml hown hnm hret X0 e0
  have N0 := Fr.nil n0
  obtain ⟨_, T2, L2, X2, hQ2, st2⟩ := own_cN X0 hx hZ hown hml (cw6 hw) (rm11_0 l Z a0 hw a1 h0 n0 OL0 ) e0 a1 1 #[rv a1] [] [] 0 rfl (hb hby d10_1) (by decide)
  obtain ⟨rfl, Nq2, ec2⟩ := hQ2
  have N2 := Fr.app N0 Nq2
  obtain ⟨T3, h3, X3, e3, W3, st3⟩ := putF X2 hx hZ hown (host := "") (Or.inl (wd64 hw)) Via.refl ec2 pr2 pr1 (Or.inl (wd65 hw)) (wd46 hw) (ty := .int) (by decide) rfl rfl (g := (mkF m 6 #[rv a1] [(.int (0 : Int32)), (.ref a1)])) rfl rfl (hb hby d10_6)
  have Fw3 := pr2.same W3
  have KK3 : Keep h0 h3 [a1] := (Keep.refl h0 [a1]).wr W3 (Or.inl (List.mem_of_getElem? (i := 0) rfl))
  have N3 := Fr.snoc X3 N2 pr3
  have fc4 := (pr4.other W3 (Or.inr (slot_ne (Or.inl (wd68 hw)) (Or.inl (wd65 hw)) (by decide) (t := (.array (.object s20))) (t' := .int) (by decide) (by decide))))
  have fc5 := (pr5.other W3 (Or.inr (slot_ne (Or.inl (wd92 hw)) (Or.inl (wd65 hw)) (by decide) (t := .int) (t' := .int) (by decide) (by decide))))
  refine ⟨none, _, _, _, _, _, X3, e3, by decide, fun _ => rfl, fun fs hr => ?_, ?_⟩
  · refine xaloadN X0 hx hby d10_0 rfl rfl ?_
    show SS p e below s₁ m 1 #[rv a1] [(.ref a1)] _
    refine st2 _ ?_
    refine xaloadN X2 hx hby d10_4 rfl rfl ?_
    refine XS.iconst X2.here hx rfl (hb hby d10_5) ?_
    refine st3 _ ?_
    show SS p e below T3 m 9 #[rv a1] [] _
    exact X3.returnOut hx hret (hb hby d10_9) hr
  · exact ⟨rfl, N3, KK3, Fw3, fc4, fc5⟩
theorem cw7 {a0 Z} (hw : HW a0 Z) : CN a0 Z s26 1 mn10 0 (.code mn10 jdk_39_method_1_code 1 none) :=
  ⟨rfl, wx hw 51 rfl, wx hw 52 rfl, wx hw 56 rfl, wx hw 55 rfl, by decide, _, _, pd_2, rfl⟩
theorem d9_4 : DC cb9 4 (.aload_n 0) 1 := by decide +kernel
theorem d9_5 : DC cb9 5 (.getstatic 39) 3 := by decide +kernel
theorem d9_8 : DC cb9 8 (.putfield 9) 3 := by decide +kernel
theorem d9_11 : DC cb9 11 (.return_) 1 := by decide +kernel
theorem ef_9_9 (m : MethodId) (x0 : Addr) : entryFrame m #[(.ref x0)] 1 = mkF m 0 #[.val (.ref x0)] [] := by first | (simp [entryFrame, mkF, argsToLocals, Value.category]; done) | rfl
theorem pn_6 : plainName "java/util/ArrayList" = true := by first | (simp [plainName, overriddenIn]; done) | decide +kernel
theorem rm9_0 (l : Launch) (Z : State) (a0 : Array Value) (hw : HW a0 Z) (a1 w3 : Addr) (h0 : Heap) (n0 : Nat) (OL0 : Old Z n0 h0) (pr1 : Exa Z h0 a1 s26) (pr2 : Fld Z h0 a1 s25 s41 "I" (.int (0 : Int32))) (pr3 : n0 ≤ a1) (pr4 : Fld Z h0 a1 s26 s12 s8 .null) (pr5 : Fld Z h0 a1 s26 "size" "I" (.int (0 : Int32))) (pr6 : Sta Z Z.heap s26 s0 s8 (.ref w3)) :
    MF l Z mn9 jdk_38_method_2_code 1 none ⟨3, 0, 0, 36⟩ #[(.ref a1)] h0 (fun v h L => v = none ∧ Fr n0 L ∧ Keep h0 h [a1] ∧ Fld Z h a1 s25 s41 "I" (.int (0 : Int32)) ∧ Fld Z h a1 s26 s12 s8 (.ref w3) ∧ Fld Z h a1 s26 "size" "I" (.int (0 : Int32))) := by
  refine own_start (plainFor_of_name pn_6) (fun m => (ef_9_9 m a1)) ?_
  intro p e s m below meth c s₁ hZ hx hby hml hown hnm hret X0 e0
  have N0 := Fr.nil n0
  obtain ⟨_, T2, L2, X2, hQ2, st2⟩ := own_cN X0 hx hZ hown hml (cw7 hw) (rm10_0 l Z a0 hw a1 h0 n0 OL0 pr1 pr2 pr3 pr4 pr5) e0 a1 1 #[rv a1] [] [] 0 rfl (hb hby d9_1) (by decide)
  obtain ⟨rfl, Nq2, K2, u2_0, u2_1, u2_2⟩ := hQ2
  have KK2 : Keep h0 T2.heap [a1] := (Keep.refl h0 [a1]).trans K2 (allS (Or.inl (List.mem_of_getElem? (i := 0) rfl)) all0)
  have OL2 := OL0.keep K2 (allS pr3 all0)
  have N2 := Fr.app N0 Nq2
  obtain ⟨T4, X4, e4, st4⟩ := getS2 X2 hx hZ hown (host := "") (Or.inl (wd66 hw)) Via.refl rfl (pr6.ext OL2.2) (g := (mkF m 5 #[rv a1] [(.ref a1)])) rfl (hb hby d9_5)
  have fc5 := (pr1.keep K2)
  obtain ⟨T6, h6, X6, e6, W6, st6⟩ := putF X4 hx hZ hown (host := "") (Or.inl (wd67 hw)) Via.refl e4 u2_1 fc5 (Or.inl (wd68 hw)) (wd46 hw) (ty := (.array (.object s20))) (by decide) rfl rfl (g := (mkF m 8 #[rv a1] [(.ref w3), (.ref a1)])) rfl rfl (hb hby d9_8)
  have Fw6 := u2_1.same W6
  have KK6 : Keep h0 h6 [a1] := KK2.wr W6 (Or.inl (List.mem_of_getElem? (i := 0) rfl))
  have N6 := Fr.snoc X6 N2 pr3
  have fc7 := (u2_0.other W6 (Or.inr (slot_ne (Or.inl (wd65 hw)) (Or.inl (wd68 hw)) (by decide) (t := .int) (t' := (.array (.object s20))) (by decide) (by decide))))
  have fc8 := (u2_2.other W6 (Or.inr (slot_ne (Or.inl (wd92 hw)) (Or.inl (wd68 hw)) (by decide) (t := .int) (t' := (.array (.object s20))) (by decide) (by decide))))
  refine ⟨none, _, _, _, _, _, X6, e6, by decide, fun _ => rfl, fun fs hr => ?_, ?_⟩
  · refine xaloadN X0 hx hby d9_0 rfl rfl ?_
    show SS p e below s₁ m 1 #[rv a1] [(.ref a1)] _
    refine st2 _ ?_
    refine xaloadN X2 hx hby d9_4 rfl rfl ?_
    refine st4 _ ?_
    refine st6 _ ?_
    show SS p e below T6 m 11 #[rv a1] [] _
    exact X6.returnOut hx hret (hb hby d9_11) hr
  · exact ⟨rfl, N6, KK6, fc7, Fw6, fc8⟩
theorem cw8 {a0 Z} (hw : HW a0 Z) : CN a0 Z s44 36 mn9 0 (.code mn9 jdk_38_method_2_code 1 none) :=
  ⟨rfl, wx hw 48 rfl, wx hw 49 rfl, wx hw 50 rfl, wx hw 47 rfl, by decide, _, _, pd_2, rfl⟩
theorem d12_0 : DC cb12 0 (.lload_n 0) 1 := by decide +kernel
theorem d12_1 : DC cb12 1 (.lconst 0) 1 := by decide +kernel
theorem d12_2 : DC cb12 2 (.lcmp) 1 := by decide +kernel
theorem d12_3 : DC cb12 3 (.ifCond .lt 17) 3 := by decide +kernel
theorem d12_6 : DC cb12 6 (.lload_n 0) 1 := by decide +kernel
theorem d12_7 : DC cb12 7 (.lload_n 2) 1 := by decide +kernel
theorem d12_8 : DC cb12 8 (.lcmp) 1 := by decide +kernel
theorem d12_9 : DC cb12 9 (.ifCond .gt 11) 3 := by decide +kernel
theorem d12_12 : DC cb12 12 (.lload_n 2) 1 := by decide +kernel
theorem d12_13 : DC cb12 13 (.ldc2_w 18) 3 := by decide +kernel
theorem d12_16 : DC cb12 16 (.lcmp) 1 := by decide +kernel
theorem d12_17 : DC cb12 17 (.ifCond .le 18) 3 := by decide +kernel
theorem d12_35 : DC cb12 35 (.new 8) 3 := by decide +kernel
theorem d12_38 : DC cb12 38 (.dup) 1 := by decide +kernel
theorem d12_39 : DC cb12 39 (.iconst 1) 1 := by decide +kernel
theorem d12_40 : DC cb12 40 (.newarray .long) 2 := by decide +kernel
theorem d12_42 : DC cb12 42 (.dup) 1 := by decide +kernel
theorem d12_43 : DC cb12 43 (.iconst 0) 1 := by decide +kernel
theorem d12_44 : DC cb12 44 (.lload_n 0) 1 := by decide +kernel
theorem d12_45 : DC cb12 45 (.lastore) 1 := by decide +kernel
theorem d12_46 : DC cb12 46 (.iconst 1) 1 := by decide +kernel
theorem d12_47 : DC cb12 47 (.newarray .long) 2 := by decide +kernel
theorem d12_49 : DC cb12 49 (.dup) 1 := by decide +kernel
theorem d12_50 : DC cb12 50 (.iconst 0) 1 := by decide +kernel
theorem d12_51 : DC cb12 51 (.lload_n 2) 1 := by decide +kernel
theorem d12_52 : DC cb12 52 (.lastore) 1 := by decide +kernel
theorem d12_53 : DC cb12 53 (.invokespecial 29) 3 := by decide +kernel
theorem d13_0 : DC cb13 0 (.aload_n 0) 1 := by decide +kernel
theorem d13_1 : DC cb13 1 (.invokespecial 1) 3 := by decide +kernel
theorem d13_4 : DC cb13 4 (.aload_n 0) 1 := by decide +kernel
theorem d13_5 : DC cb13 5 (.aload_n 1) 1 := by decide +kernel
theorem d13_6 : DC cb13 6 (.putfield 7) 3 := by decide +kernel
theorem d13_9 : DC cb13 9 (.aload_n 0) 1 := by decide +kernel
theorem d13_10 : DC cb13 10 (.aload_n 2) 1 := by decide +kernel
theorem d13_11 : DC cb13 11 (.putfield 13) 3 := by decide +kernel
theorem d13_14 : DC cb13 14 (.return_) 1 := by decide +kernel
theorem ef_13_10 (m : MethodId) (x0 : Addr) (x1 : Addr) (x2 : Addr) : entryFrame m #[(.ref x0), (.ref x1), (.ref x2)] 3 = mkF m 0 #[.val (.ref x0), .val (.ref x1), .val (.ref x2)] [] := by first | (simp [entryFrame, mkF, argsToLocals, Value.category]; done) | rfl
theorem pn_7 : plainName "shadowsift/core/ValueSet" = true := by first | (simp [plainName, overriddenIn]; done) | decide +kernel
theorem rm13_0 (l : Launch) (Z : State) (a0 : Array Value) (hw : HW a0 Z) (a1 a2 a3 : Addr) (h0 : Heap) (n0 : Nat) (OL0 : Old Z n0 h0) (pr1 : Exa Z h0 a1 s48) (pr2 : Fld Z h0 a1 s48 "lows" "[J" .null) (pr3 : n0 ≤ a1) (pr4 : Fld Z h0 a1 s48 "highs" "[J" .null) :
    MF l Z mn13 prog_64_method_1_code 3 none ⟨1, 0, 0, 12⟩ #[(.ref a1), (.ref a2), (.ref a3)] h0 (fun v h L => v = none ∧ Fr n0 L ∧ Keep h0 h [a1] ∧ Fld Z h a1 s48 "lows" "[J" (.ref a2) ∧ Fld Z h a1 s48 "highs" "[J" (.ref a3)) := by
  refine own_start (plainFor_of_name pn_7) (fun m => (ef_13_10 m a1 a2 a3)) ?_
  intro p e s m below meth c s₁ hZ hx hby hml hown hnm hret X0 e0
  have N0 := Fr.nil n0
  obtain ⟨T4, X4, e4, st4⟩ := initO X0 hx hZ hown (wd79 hw) (wd36 hw) (wd37 hw) e0 (g := (mkF m 1 #[rv a1, rv a2, rv a3] [(.ref a1)])) rfl (by rw [hml]; rfl) rfl (hb hby d13_1) (by decide) (W := 0) (by show 2 * 0 + _ ≤ _; exact Nat.le_of_eq rfl) (by decide)
  obtain ⟨T5, h5, X5, e5, W5, st5⟩ := putF X4 hx hZ hown (host := "") (Or.inl (wd80 hw)) Via.refl e4 pr2 pr1 (Or.inr ⟨(wd81 hw), rfl, hnm⟩) (wd75 hw) (ty := (.array .long)) (by decide) rfl rfl (g := (mkF m 6 #[rv a1, rv a2, rv a3] [(.ref a2), (.ref a1)])) rfl rfl (hb hby d13_6)
  have Fw5 := pr2.same W5
  have KK5 : Keep h0 h5 [a1] := (Keep.refl h0 [a1]).wr W5 (Or.inl (List.mem_of_getElem? (i := 0) rfl))
  have N5 := Fr.snoc X5 N0 pr3
  have fc6 := (pr1.wr W5)
  have fc7 := (pr4.other W5 (Or.inr (slot_ne (Or.inr (wd83 hw)) (Or.inr (wd81 hw)) (by decide) (t := (.array .long)) (t' := (.array .long)) (by decide) (by decide))))
  obtain ⟨T8, h8, X8, e8, W8, st8⟩ := putF X5 hx hZ hown (host := "") (Or.inl (wd82 hw)) Via.refl e5 fc7 fc6 (Or.inr ⟨(wd83 hw), rfl, hnm⟩) (wd75 hw) (ty := (.array .long)) (by decide) rfl rfl (g := (mkF m 11 #[rv a1, rv a2, rv a3] [(.ref a3), (.ref a1)])) rfl rfl (hb hby d13_11)
  have Fw8 := fc7.same W8
  have KK8 : Keep h0 h8 [a1] := KK5.wr W8 (Or.inl (List.mem_of_getElem? (i := 0) rfl))
  have N8 := Fr.snoc X8 N5 pr3
  have fc9 := (Fw5.other W8 (Or.inr (slot_ne (Or.inr (wd81 hw)) (Or.inr (wd83 hw)) (by decide) (t := (.array .long)) (t' := (.array .long)) (by decide) (by decide))))
  refine ⟨none, _, _, _, _, _, X8, e8, by decide, fun _ => rfl, fun fs hr => ?_, ?_⟩
  · refine xaloadN X0 hx hby d13_0 rfl rfl ?_
    show SS p e below s₁ m 1 #[rv a1, rv a2, rv a3] [(.ref a1)] _
    refine st4 _ ?_
    refine xaloadN X4 hx hby d13_4 rfl rfl ?_
    refine xaloadN X4 hx hby d13_5 rfl rfl ?_
    refine st5 _ ?_
    refine xaloadN X5 hx hby d13_9 rfl rfl ?_
    refine xaloadN X5 hx hby d13_10 rfl rfl ?_
    refine st8 _ ?_
    show SS p e below T8 m 14 #[rv a1, rv a2, rv a3] [] _
    exact X8.returnOut hx hret (hb hby d13_14) hr
  · exact ⟨rfl, N8, KK8, fc9, Fw8⟩
theorem pd_5 : parseMethodDescriptor "([J[J)V" = some ⟨[(.array .long), (.array .long)], none⟩ := by decide +kernel
theorem cw9 {a0 Z} (hw : HW a0 Z) : CN a0 Z s48 29 mn13 2 (.code mn13 prog_64_method_1_code 3 none) :=
  ⟨rfl, wx hw 76 rfl, wx hw 77 rfl, wx hw 78 rfl, wx hw 71 rfl, by decide, _, _, pd_5, rfl⟩
theorem d12_56 : DC cb12 56 (.areturn) 1 := by decide +kernel
theorem ef_12_11 (m : MethodId) (x0 : Int64) (x1 : Int64) : entryFrame m #[(.long x0), (.long x1)] 4 = mkF m 0 #[.val (.long x0), .second, .val (.long x1), .second] [] := by first | (simp [entryFrame, mkF, argsToLocals, Value.category]; done) | rfl
theorem rm12_0 (l : Launch) (Z : State) (a0 : Array Value) (hw : HW a0 Z) (q1 q2 : Int64) (h0 : Heap) (n0 : Nat) (OL0 : Old Z n0 h0) (pr1 : ¬ (q1 < (0 : Int64))) (pr2 : ¬ (q2 < q1)) (pr3 : ¬ ((281474976710656 : Int64) < q2)) :
    MF l Z mn12 prog_64_method_2_code 4 (some (.object s48)) ⟨2, 3, 4, 27⟩ #[(.long q1), (.long q2)] h0 (fun v h L => ∃ b3 : Addr, ∃ b4 : Addr, ∃ b7 : Addr, ∃ k4 : ClassId, ∃ k7 : ClassId, v = some (.ref b3) ∧ Fr n0 L ∧ Keep h0 h [] ∧ h0.size ≤ b3 ∧ h0.size ≤ b4 ∧ h0.size ≤ b7 ∧ b3 ≠ b4 ∧ b3 ≠ b7 ∧ b4 ≠ b7 ∧ Exa Z h b3 s48 ∧ Fld Z h b3 s48 "lows" "[J" (.ref b4) ∧ Fld Z h b3 s48 "highs" "[J" (.ref b7) ∧ Arv Z h b4 k4 .long (1 : Int32) [(.long q1)] (.long (0 : Int64)) ∧ Arv Z h b7 k7 .long (1 : Int32) [(.long q2)] (.long (0 : Int64))) := by
  refine own_start (plainFor_of_name pn_7) (fun m => (ef_12_11 m q1 q2)) ?_
  intro p e s m below meth c s₁ hZ hx hby hml hown hnm hret X0 e0
  have N0 := Fr.nil n0
  obtain ⟨T3, h3, X3, e3, E3, A3, D3, -, st3⟩ := newO X0 hx hZ hown (wd74 hw) (wd75 hw) (wd71 hw) e0 (g := (mkF m 35 #[jv q1, sc, jv q2, sc] [])) rfl (hb hby d12_35) (by decide) (by decide)
  obtain ⟨b3, g3⟩ : ∃ z, z = h0.size := ⟨_, rfl⟩
  rw [← g3] at A3 D3 st3
  have g_b3 : n0 ≤ b3 := (Nat.le_trans (Nat.le_trans (Nat.le_of_eq OL0.1.symm) OL0.2.1) (Nat.le_of_eq g3.symm))
  have sz_b3 : h0.size ≤ b3 := (Nat.le_trans (Keep.refl h0 []).1 (Nat.le_of_eq g3.symm))
  have KK3 : Keep h0 h3 [] := (Keep.refl h0 []).ext E3
  have OL3 := OL0.ext E3
  have F_lows_b3 : Fld Z h3 b3 s48 "lows" "[J" .null := D3 (Or.inr (wd81 hw)) (ty := (.array .long)) (by decide)
  have F_highs_b3 : Fld Z h3 b3 s48 "highs" "[J" .null := D3 (Or.inr (wd83 hw)) (ty := (.array .long)) (by decide)
  obtain ⟨T4, h4, k4, X4, e4, E4, A4, st4⟩ := newP (aty := .long) X3 hx hZ (wd0 hw) e3 (g := (mkF m 40 #[jv q1, sc, jv q2, sc] [(.int (1 : Int32)), (.ref b3), (.ref b3)])) rfl (hb hby d12_40) rfl (by decide) (cap := 1) (by decide) (by decide) (by decide) (by decide)
  obtain ⟨b4, g4⟩ : ∃ z, z = h3.size := ⟨_, rfl⟩
  rw [← g4] at A4 st4
  have V4 : Arv Z h4 b4 k4 .long (1 : Int32) [(.long (0 : Int64))] (.long (0 : Int64)) := (Arv.new A4 (by decide)).pad (pad_rep [] (.long (0 : Int64)) 1)
  have g_b4 : n0 ≤ b4 := (Nat.le_trans (Nat.le_trans (Nat.le_of_eq OL3.1.symm) OL3.2.1) (Nat.le_of_eq g4.symm))
  have sz_b4 : h0.size ≤ b4 := (Nat.le_trans KK3.1 (Nat.le_of_eq g4.symm))
  have KK4 : Keep h0 h4 [] := KK3.ext E4
  have OL4 := OL3.ext E4
  obtain ⟨T6, h6, X6, e6, W6, VV6, st6⟩ := own_sJ X4 hx hZ e4 V4 (0 : Int32) (by decide) 0 q1 [(.ref b4), (.ref b3), (.ref b3)] 45 #[jv q1, sc, jv q2, sc] (hb hby d12_45) rfl (Nat.le_of_ble_eq_true rfl)
  have V6 : Arv Z h6 b4 k4 .long (1 : Int32) [(.long q1)] (.long (0 : Int64)) := VV6
  have KK6 : Keep h0 h6 [] := KK4.wr W6 (Or.inr sz_b4)
  have OL6 := OL4.wr W6 g_b4
  have N6 := Fr.snoc X6 N0 g_b4
  obtain ⟨T7, h7, k7, X7, e7, E7, A7, st7⟩ := newP (aty := .long) X6 hx hZ (wd0 hw) e6 (g := (mkF m 47 #[jv q1, sc, jv q2, sc] [(.int (1 : Int32)), (.ref b4), (.ref b3), (.ref b3)])) rfl (hb hby d12_47) rfl (by decide) (cap := 1) (by decide) (by decide) (by decide) (by decide)
  obtain ⟨b7, g7⟩ : ∃ z, z = h6.size := ⟨_, rfl⟩
  rw [← g7] at A7 st7
  have V7 : Arv Z h7 b7 k7 .long (1 : Int32) [(.long (0 : Int64))] (.long (0 : Int64)) := (Arv.new A7 (by decide)).pad (pad_rep [] (.long (0 : Int64)) 1)
  have g_b7 : n0 ≤ b7 := (Nat.le_trans (Nat.le_trans (Nat.le_of_eq OL6.1.symm) OL6.2.1) (Nat.le_of_eq g7.symm))
  have sz_b7 : h0.size ≤ b7 := (Nat.le_trans KK6.1 (Nat.le_of_eq g7.symm))
  have KK7 : Keep h0 h7 [] := KK6.ext E7
  have OL7 := OL6.ext E7
  obtain ⟨T9, h9, X9, e9, W9, VV9, st9⟩ := own_sJ X7 hx hZ e7 V7 (0 : Int32) (by decide) 0 q2 [(.ref b7), (.ref b4), (.ref b3), (.ref b3)] 52 #[jv q1, sc, jv q2, sc] (hb hby d12_52) rfl (Nat.le_of_ble_eq_true rfl)
  have V9 : Arv Z h9 b7 k7 .long (1 : Int32) [(.long q2)] (.long (0 : Int64)) := VV9
  have KK9 : Keep h0 h9 [] := KK7.wr W9 (Or.inr sz_b7)
  have OL9 := OL7.wr W9 g_b7
  have N9 := Fr.snoc X9 N6 g_b7
  have fc11 := ((((A3.ext E4).wr W6).ext E7).wr W9)
  have nz12 := (nl F_lows_b3.lt (Nat.le_of_eq g4.symm))
  have lz13 := (lq (lq F_lows_b3.lt E4.1) (Nat.le_of_eq W6.size.symm))
  have nz14 := (nl lz13 (Nat.le_of_eq g7.symm))
  have fc15 := ((((F_lows_b3.ext E4).other W6 (Or.inl nz12)).ext E7).other W9 (Or.inl nz14))
  have fc16 := ((((F_highs_b3.ext E4).other W6 (Or.inl nz12)).ext E7).other W9 (Or.inl nz14))
  obtain ⟨_, T10, L10, X10, hQ10, st10⟩ := own_cN X9 hx hZ hown hml (cw9 hw) (rm13_0 l Z a0 hw b3 b4 b7 h9 n0 OL9 fc11 fc15 g_b3 fc16) e9 b3 53 #[jv q1, sc, jv q2, sc] [(.ref b4), (.ref b7)] [(.ref b3)] 1 rfl (hb hby d12_53) (by decide)
  obtain ⟨rfl, Nq10, K10, u10_0, u10_1⟩ := hQ10
  have KK10 : Keep h0 T10.heap [] := KK9.trans K10 (allS (Or.inr sz_b3) all0)
  have N10 := Fr.app N9 Nq10
  have nz17 := (nl V6.lt (Nat.le_of_eq g7.symm))
  have fc18 := (fc11.keep K10)
  have fc19 := (((V6.ext E7).other W9 nz17).keep K10 (ninS (Ne.symm nz12) nin0))
  have fc20 := (V9.keep K10 (ninS (Ne.symm nz14) nin0))
  refine ⟨some (.ref b3), _, _, _, _, _, X10, rfl, by decide, nofun, fun fs hr => ?_, ?_⟩
  · refine xlloadN X0 hx hby d12_0 rfl ?_
    show SS p e below s₁ m 1 #[jv q1, sc, jv q2, sc] [(.long q1)] _
    refine XS.lconst X0.here hx rfl (hb hby d12_1) ?_
    refine XS.lcmp X0.here hx rfl (hb hby d12_2) rfl ?_
    refine XS.ifNo X0.here hx rfl (hb hby d12_3) rfl ((if0 _ _).trans (flt ((fun z => pr1 ((lw_lt q1 (0 : Int64)).mp z)) : ¬ ((lcmpW q1 (0 : Int64)) < (0 : Int32)))).1) ?_
    refine xlloadN X0 hx hby d12_6 rfl ?_
    refine xlloadN X0 hx hby d12_7 rfl ?_
    refine XS.lcmp X0.here hx rfl (hb hby d12_8) rfl ?_
    refine XS.ifNo X0.here hx rfl (hb hby d12_9) rfl ((if0 _ _).trans (flt ((fun z => pr2 ((lw_gt q1 q2).mp z)) : ¬ ((0 : Int32) < (lcmpW q1 q2)))).2.2.1) ?_
    refine xlloadN X0 hx hby d12_12 rfl ?_
    refine X0.ldc2Long hx hown (mvT hZ (wd73 hw)) (g := (mkF m 13 #[jv q1, sc, jv q2, sc] [(.long q2)])) rfl (hb hby d12_13) _ ?_
    refine XS.lcmp X0.here hx rfl (hb hby d12_16) rfl ?_
    show SS p e below s₁ m 17 #[jv q1, sc, jv q2, sc] [(.int (lcmpW q2 (281474976710656 : Int64)))] _
    refine XS.ifYes X0.here hx rfl (pc0 := 17) (pc' := 35) rfl (hb hby d12_17) rfl ((if0 _ _).trans (flt ((fun z => pr3 ((lw_gt q2 (281474976710656 : Int64)).mp z)) : ¬ ((0 : Int32) < (lcmpW q2 (281474976710656 : Int64))))).2.2.2) (by decide) (by decide) ?_
    refine st3 _ ?_
    refine XS.dup X3.here hx rfl (hb hby d12_38) rfl rfl ?_
    refine XS.iconst X3.here hx rfl (hb hby d12_39) ?_
    refine st4 _ ?_
    refine XS.dup X4.here hx rfl (hb hby d12_42) rfl rfl ?_
    refine XS.iconst X4.here hx rfl (hb hby d12_43) ?_
    refine xlloadN X4 hx hby d12_44 rfl ?_
    refine st6 _ ?_
    refine XS.iconst X6.here hx rfl (hb hby d12_46) ?_
    show SS p e below T6 m 47 #[jv q1, sc, jv q2, sc] [(.int (1 : Int32)), (.ref b4), (.ref b3), (.ref b3)] _
    refine st7 _ ?_
    refine XS.dup X7.here hx rfl (hb hby d12_49) rfl rfl ?_
    refine XS.iconst X7.here hx rfl (hb hby d12_50) ?_
    refine xlloadN X7 hx hby d12_51 rfl ?_
    refine st9 _ ?_
    refine st10 _ ?_
    show SS p e below T10 m 56 #[jv q1, sc, jv q2, sc] [(.ref b3)] _
    exact own_retR X10 hx hret rfl rfl rfl (hb hby d12_56) hr
  · exact ⟨b3, b4, b7, k4, k7, rfl, N10, KK10, sz_b3, sz_b4, sz_b7, nz12, nz14, nz17, fc18, u10_0, u10_1, fc19, fc20⟩
theorem pd_6 : parseMethodDescriptor "(JJ)Lshadowsift/core/ValueSet;" = some ⟨[.long, .long], some (.object "shadowsift/core/ValueSet")⟩ := by decide +kernel
theorem cw10 {a0 Z} (hw : HW a0 Z) : CS a0 Z s44 37 mn12 2 (.code mn12 prog_64_method_2_code 4 (some (.object s48))) :=
  ⟨wx hw 69 rfl, wx hw 70 rfl, wx hw 72 rfl, wx hw 71 rfl, by decide, _, _, pd_6, rfl⟩
theorem d14_0 : DC cb14 0 (.aload_n 0) 1 := by decide +kernel
theorem d14_1 : DC cb14 1 (.dup) 1 := by decide +kernel
theorem d14_2 : DC cb14 2 (.getfield 63) 3 := by decide +kernel
theorem d14_5 : DC cb14 5 (.iconst 1) 1 := by decide +kernel
theorem d14_6 : DC cb14 6 (.iadd) 1 := by decide +kernel
theorem d14_7 : DC cb14 7 (.putfield 63) 3 := by decide +kernel
theorem d14_10 : DC cb14 10 (.aload_n 0) 1 := by decide +kernel
theorem d14_11 : DC cb14 11 (.aload_n 1) 1 := by decide +kernel
theorem d14_12 : DC cb14 12 (.aload_n 0) 1 := by decide +kernel
theorem d14_13 : DC cb14 13 (.getfield 9) 3 := by decide +kernel
theorem d14_16 : DC cb14 16 (.aload_n 0) 1 := by decide +kernel
theorem d14_17 : DC cb14 17 (.getfield 48) 3 := by decide +kernel
theorem d14_20 : DC cb14 20 (.invokevirtual 131) 3 := by decide +kernel
theorem d15_0 : DC cb15 0 (.iload_n 3) 1 := by decide +kernel
theorem d15_1 : DC cb15 1 (.aload_n 2) 1 := by decide +kernel
theorem d15_2 : DC cb15 2 (.arraylength) 1 := by decide +kernel
theorem d15_3 : DC cb15 3 (.if_icmp .ne 8) 3 := by decide +kernel
theorem d15_6 : DC cb15 6 (.aload_n 0) 1 := by decide +kernel
theorem d15_7 : DC cb15 7 (.invokevirtual 129) 3 := by decide +kernel
theorem d16_0 : DC cb16 0 (.aload_n 0) 1 := by decide +kernel
theorem d16_1 : DC cb16 1 (.aload_n 0) 1 := by decide +kernel
theorem d16_2 : DC cb16 2 (.getfield 48) 3 := by decide +kernel
theorem d16_5 : DC cb16 5 (.iconst 1) 1 := by decide +kernel
theorem d16_6 : DC cb16 6 (.iadd) 1 := by decide +kernel
theorem d16_7 : DC cb16 7 (.invokevirtual 69) 3 := by decide +kernel
theorem d17_0 : DC cb17 0 (.aload_n 0) 1 := by decide +kernel
theorem d17_1 : DC cb17 1 (.getfield 9) 3 := by decide +kernel
theorem d17_4 : DC cb17 4 (.arraylength) 1 := by decide +kernel
theorem d17_5 : DC cb17 5 (.istore_n 2) 1 := by decide +kernel
theorem d17_6 : DC cb17 6 (.iload_n 2) 1 := by decide +kernel
theorem d17_7 : DC cb17 7 (.ifCond .gt 13) 3 := by decide +kernel
theorem d17_10 : DC cb17 10 (.aload_n 0) 1 := by decide +kernel
theorem d17_11 : DC cb17 11 (.getfield 9) 3 := by decide +kernel
theorem d17_14 : DC cb17 14 (.getstatic 39) 3 := by decide +kernel
theorem d17_17 : DC cb17 17 (.if_acmp .eq 28) 3 := by decide +kernel
theorem d17_45 : DC cb17 45 (.aload_n 0) 1 := by decide +kernel
theorem d17_46 : DC cb17 46 (.bipush 10) 2 := by decide +kernel
theorem d17_48 : DC cb17 48 (.iload_n 1) 1 := by decide +kernel
theorem d17_49 : DC cb17 49 (.invokestatic 79) 3 := by decide +kernel
theorem d18_0 : DC cb18 0 (.iload_n 0) 1 := by decide +kernel
theorem d18_1 : DC cb18 1 (.iload_n 1) 1 := by decide +kernel
theorem d18_2 : DC cb18 2 (.if_icmp .lt 7) 3 := by decide +kernel
theorem d18_5 : DC cb18 5 (.iload_n 0) 1 := by decide +kernel
theorem d18_6 : DC cb18 6 (.goto 4) 3 := by decide +kernel
theorem d18_10 : DC cb18 10 (.ireturn) 1 := by decide +kernel
theorem ef_18_12 (m : MethodId)  : entryFrame m #[(.int (10 : Int32)), (.int (1 : Int32))] 2 = mkF m 0 #[.val (.int (10 : Int32)), .val (.int (1 : Int32))] [] := by first | (simp [entryFrame, mkF, argsToLocals, Value.category]; done) | rfl
theorem rm18_0 (l : Launch) (Z : State) (a0 : Array Value) (hw : HW a0 Z)  (h0 : Heap) (n0 : Nat) (OL0 : Old Z n0 h0)  :
    MF l Z mn18 jdk_29_method_65_code 2 (some .int) ⟨0, 0, 0, 0⟩ #[(.int (10 : Int32)), (.int (1 : Int32))] h0 (QR n0 h0 (some (.int (10 : Int32)))) := by
  refine own_start (Jvm.Free.JP.mathPlain rfl (by decide +kernel)) (fun m => (ef_18_12 m )) ?_
  intro p e s m below meth c s₁ hZ hx hby hml hown hnm hret X0 e0
  have N0 := Fr.nil n0
  refine ⟨some (.int (10 : Int32)), _, _, _, _, _, X0, e0, by decide, nofun, fun fs hr => ?_, ?_⟩
  · refine xiloadN X0 hx hby d18_0 rfl ?_
    show SS p e below s₁ m 1 #[iv (10 : Int32), iv (1 : Int32)] [(.int (10 : Int32))] _
    refine xiloadN X0 hx hby d18_1 rfl ?_
    refine XS.icmpNo X0.here hx rfl (hb hby d18_2) rfl (flt (by decide : ¬ ((10 : Int32) < (1 : Int32)))).1 ?_
    refine xiloadN X0 hx hby d18_5 rfl ?_
    refine XS.goto X0.here hx rfl (pc0 := 6) (pc' := 10) rfl (hb hby d18_6) (by decide) (by decide) ?_
    show SS p e below s₁ m 10 #[iv (10 : Int32), iv (1 : Int32)] [(.int (10 : Int32))] _
    exact retI X0 hx hret (hb hby d18_10) hr
  · exact ⟨rfl, N0, rfl⟩
theorem pd_7 : parseMethodDescriptor "(II)I" = some ⟨[.int, .int], some .int⟩ := by decide +kernel
theorem cw11 {a0 Z} (hw : HW a0 Z) : CS a0 Z s26 79 mn18 2 (.code mn18 jdk_29_method_65_code 2 (some .int)) :=
  ⟨wx hw 108 rfl, wx hw 109 rfl, wx hw 110 rfl, wx hw 8 rfl, by decide, _, _, pd_7, rfl⟩
theorem d17_52 : DC cb17 52 (.anewarray 7) 3 := by decide +kernel
theorem d17_55 : DC cb17 55 (.dup_x1) 1 := by decide +kernel
theorem d17_56 : DC cb17 56 (.putfield 9) 3 := by decide +kernel
theorem d17_59 : DC cb17 59 (.areturn) 1 := by decide +kernel
theorem ef_17_13 (m : MethodId) (x0 : Addr) : entryFrame m #[(.ref x0), (.int (1 : Int32))] 4 = mkF m 0 #[.val (.ref x0), .val (.int (1 : Int32)), .unset, .unset] [] := by first | (simp [entryFrame, mkF, argsToLocals, Value.category]; done) | rfl
theorem rm17_0 (l : Launch) (Z : State) (a0 : Array Value) (hw : HW a0 Z) (a1 w2 : Addr) (k4 : ClassId) (h0 : Heap) (n0 : Nat) (OL0 : Old Z n0 h0) (pr1 : Fld Z h0 a1 s26 s12 s8 (.ref w2)) (pr2 : Arv Z Z.heap w2 k4 (.object s20) (0 : Int32) [] .null) (pr3 : Sta Z Z.heap s26 s0 s8 (.ref w2)) (pr4 : Exa Z h0 a1 s26) (pr5 : n0 ≤ a1) (pr6 : Fld Z h0 a1 s26 "size" "I" (.int (0 : Int32))) (pr7 : Fld Z h0 a1 s25 s41 "I" (.int (1 : Int32))) :
    MF l Z mn17 jdk_38_method_6_code 4 (some (.array (.object s20))) ⟨1, 1, 10, 14⟩ #[(.ref a1), (.int (1 : Int32))] h0 (fun v h L => ∃ b9 : Addr, ∃ k9 : ClassId, v = some (.ref b9) ∧ Fr n0 L ∧ Keep h0 h [a1] ∧ h0.size ≤ b9 ∧ Fld Z h a1 s26 s12 s8 (.ref b9) ∧ Fld Z h a1 s26 "size" "I" (.int (0 : Int32)) ∧ Fld Z h a1 s25 s41 "I" (.int (1 : Int32)) ∧ Arv Z h b9 k9 (.object s20) (10 : Int32) [.null, .null, .null, .null, .null, .null, .null, .null, .null, .null] .null ∧ Ovr Z k9 s20 ∧ Exa Z h b9 s8) := by
  refine own_start (plainFor_of_name pn_6) (fun m => (ef_17_13 m a1)) ?_
  intro p e s m below meth c s₁ hZ hx hby hml hown hnm hret X0 e0
  have N0 := Fr.nil n0
  obtain ⟨T3, X3, e3, st3⟩ := gF X0 hx hZ hown (wd67 hw) Via.refl e0 pr1 1 #[rv a1, iv (1 : Int32), uu, uu] [] (hb hby d17_1)
  obtain ⟨cl5, Ar5, -, Sz5, Nn5, -, -⟩ := id (pr2.ext OL0.2)
  obtain ⟨T6, X6, e6, st6⟩ := gF X3 hx hZ hown (wd67 hw) Via.refl e3 pr1 11 #[rv a1, iv (1 : Int32), iv (0 : Int32), uu] [] (hb hby d17_11)
  obtain ⟨T7, X7, e7, st7⟩ := getS2 X6 hx hZ hown (host := "") (Or.inl (wd66 hw)) Via.refl e6 (pr3.ext OL0.2) (g := (mkF m 14 #[rv a1, iv (1 : Int32), iv (0 : Int32), uu] [(.ref w2)])) rfl (hb hby d17_14)
  obtain ⟨_, T8, L8, X8, hQ8, st8⟩ := own_cS X7 hx hZ hown hml (cw11 hw) (rm18_0 l Z a0 hw  h0 n0 OL0 ) e7 49 #[rv a1, iv (1 : Int32), iv (0 : Int32), uu] [(.int (10 : Int32)), (.int (1 : Int32))] [(.ref a1)] 1 rfl (hb hby d17_49) (by decide)
  obtain ⟨rfl, Nq8, ec8⟩ := hQ8
  have N8 := Fr.app N0 Nq8
  obtain ⟨T9, h9, k9, X9, e9, E9, A9, AE9, O9, st9⟩ := newRE (ad := s8) X8 hx hZ hown (wd111 hw) (wd112 hw) ec8 (g := (mkF m 52 #[rv a1, iv (1 : Int32), iv (0 : Int32), uu] [(.int (10 : Int32)), (.ref a1)])) rfl (hb hby d17_52) rfl (by decide) (cap := 10) (by decide) (by decide) (by decide) (by decide) (by decide)
  obtain ⟨b9, g9⟩ : ∃ z, z = h0.size := ⟨_, rfl⟩
  rw [← g9] at A9 AE9 st9
  have V9 : Arv Z h9 b9 k9 (.object s20) (10 : Int32) [.null, .null, .null, .null, .null, .null, .null, .null, .null, .null] .null := (Arv.new A9 (by decide)).pad (pad_rep [] .null 10)
  have sz_b9 : h0.size ≤ b9 := (Nat.le_trans (Keep.refl h0 [a1]).1 (Nat.le_of_eq g9.symm))
  have KK9 : Keep h0 h9 [a1] := (Keep.refl h0 [a1]).ext E9
  have fc10 := (pr4.ext E9)
  have fc11 := (pr1.ext E9)
  obtain ⟨T12, h12, X12, e12, W12, st12⟩ := putF X9 hx hZ hown (host := "") (Or.inl (wd67 hw)) Via.refl e9 fc11 fc10 (Or.inl (wd68 hw)) (wd46 hw) (ty := (.array (.object s20))) (by decide) rfl rfl (g := (mkF m 56 #[rv a1, iv (1 : Int32), iv (0 : Int32), uu] [(.ref b9), (.ref a1), (.ref b9)])) rfl rfl (hb hby d17_56)
  have Fw12 := fc11.same W12
  have KK12 : Keep h0 h12 [a1] := KK9.wr W12 (Or.inl (List.mem_of_getElem? (i := 0) rfl))
  have N12 := Fr.snoc X12 N8 pr5
  have fc13 := ((pr6.ext E9).other W12 (Or.inr (slot_ne (Or.inl (wd92 hw)) (Or.inl (wd68 hw)) (by decide) (t := .int) (t' := (.array (.object s20))) (by decide) (by decide))))
  have fc14 := ((pr7.ext E9).other W12 (Or.inr (slot_ne (Or.inl (wd65 hw)) (Or.inl (wd68 hw)) (by decide) (t := .int) (t' := (.array (.object s20))) (by decide) (by decide))))
  have nz15 := nl pr7.lt sz_b9
  have fc16 := (V9.other W12 (Ne.symm nz15))
  have fc17 := (AE9.wr W12)
  refine ⟨some (.ref b9), _, _, _, _, _, X12, e12, by decide, nofun, fun fs hr => ?_, ?_⟩
  · refine xaloadN X0 hx hby d17_0 rfl rfl ?_
    show SS p e below s₁ m 1 #[rv a1, iv (1 : Int32), uu, uu] [(.ref a1)] _
    refine st3 _ ?_
    refine X3.arraylength hx (by rw [e3]; exact Ar5.1) (State.isArrayOf_alike hZ.alike Ar5.2.1) (g := (mkF m 4 #[rv a1, iv (1 : Int32), uu, uu] [(.ref w2)])) rfl rfl (hb hby d17_4) _ ?_
    rw [len_of Sz5 Nn5]
    refine XS.istoreN X3.here hx rfl (hb hby d17_5) rfl (l' := #[rv a1, iv (1 : Int32), iv (0 : Int32), uu]) rfl ?_
    refine xiloadN X3 hx hby d17_6 rfl ?_
    refine XS.ifNo X3.here hx rfl (hb hby d17_7) rfl ((if0 _ _).trans (flt (by decide : ¬ ((0 : Int32) < (0 : Int32)))).2.2.1) ?_
    refine xaloadN X3 hx hby d17_10 rfl rfl ?_
    refine st6 _ ?_
    refine st7 _ ?_
    refine Jvm.RoadKit.acmp (g := (mkF m 17 #[rv a1, iv (1 : Int32), iv (0 : Int32), uu] [(.ref w2), (.ref w2)])) X7 hx rfl rfl rfl (pc0 := 17) (pc' := 45) (same := true) rfl (hb hby d17_17) rfl (decide_eq_true rfl) (by decide) (by decide) ?_
    refine xaloadN X7 hx hby d17_45 rfl rfl ?_
    show SS p e below T7 m 46 #[rv a1, iv (1 : Int32), iv (0 : Int32), uu] [(.ref a1)] _
    refine XS.bipush X7.here hx rfl (hb hby d17_46) ?_
    refine xiloadN X7 hx hby d17_48 rfl ?_
    refine st8 _ ?_
    refine st9 _ ?_
    refine XS.dupX1 X9.here hx rfl (hb hby d17_55) rfl rfl rfl ?_
    refine st12 _ ?_
    show SS p e below T12 m 59 #[rv a1, iv (1 : Int32), iv (0 : Int32), uu] [(.ref b9)] _
    exact own_retR X12 hx hret rfl rfl rfl (hb hby d17_59) hr
  · exact ⟨b9, k9, rfl, N12, KK12, sz_b9, Fw12, fc13, fc14, fc16, O9, fc17⟩
theorem pd_8 : parseMethodDescriptor "(I)[Ljava/lang/Object;" = some ⟨[.int], some (.array (.object "java/lang/Object"))⟩ := by decide +kernel
theorem cw12 {a0 Z} (hw : HW a0 Z) : CP a0 Z s26 69 mn17 1 (.code mn17 jdk_38_method_6_code 4 (some (.array (.object s20)))) :=
  ⟨wx hw 103 rfl, wx hw 104 rfl, wx hw 106 rfl, fun _ hZ => Cond.privateMethod_at (mvP hZ (wd105 hw) (args := #[])), wx hw 107 rfl, wx hw 47 rfl, by decide, _, _, pd_8, rfl⟩
theorem d16_10 : DC cb16 10 (.areturn) 1 := by decide +kernel
theorem ef_16_14 (m : MethodId) (x0 : Addr) : entryFrame m #[(.ref x0)] 1 = mkF m 0 #[.val (.ref x0)] [] := by first | (simp [entryFrame, mkF, argsToLocals, Value.category]; done) | rfl
theorem rm16_0 (l : Launch) (Z : State) (a0 : Array Value) (hw : HW a0 Z) (a1 w3 : Addr) (k4 : ClassId) (h0 : Heap) (n0 : Nat) (OL0 : Old Z n0 h0) (pr1 : Fld Z h0 a1 s26 "size" "I" (.int (0 : Int32))) (pr2 : Fld Z h0 a1 s26 s12 s8 (.ref w3)) (pr3 : Arv Z Z.heap w3 k4 (.object s20) (0 : Int32) [] .null) (pr4 : Sta Z Z.heap s26 s0 s8 (.ref w3)) (pr5 : Exa Z h0 a1 s26) (pr6 : n0 ≤ a1) (pr7 : Fld Z h0 a1 s25 s41 "I" (.int (1 : Int32))) :
    MF l Z mn16 jdk_38_method_7_code 1 (some (.array (.object s20))) ⟨2, 1, 10, 29⟩ #[(.ref a1)] h0 (fun v h L => ∃ b5_0 : Addr, ∃ kx5_0 : ClassId, v = some (.ref b5_0) ∧ Fr n0 L ∧ Keep h0 h [a1] ∧ h0.size ≤ b5_0 ∧ Fld Z h a1 s26 "size" "I" (.int (0 : Int32)) ∧ Fld Z h a1 s26 s12 s8 (.ref b5_0) ∧ Fld Z h a1 s25 s41 "I" (.int (1 : Int32)) ∧ Arv Z h b5_0 kx5_0 (.object s20) (10 : Int32) [.null, .null, .null, .null, .null, .null, .null, .null, .null, .null] .null ∧ Ovr Z kx5_0 s20 ∧ Exa Z h b5_0 s8) := by
  refine own_start (plainFor_of_name pn_6) (fun m => (ef_16_14 m a1)) ?_
  intro p e s m below meth c s₁ hZ hx hby hml hown hnm hret X0 e0
  have N0 := Fr.nil n0
  obtain ⟨T2, X2, e2, st2⟩ := gF X0 hx hZ hown (wd91 hw) Via.refl e0 pr1 2 #[rv a1] [(.ref a1)] (hb hby d16_2)
  obtain ⟨_, T5, L5, X5, hQ5, st5⟩ := own_cP X2 hx hZ hown hml (cw12 hw) (rm17_0 l Z a0 hw a1 w3 k4 h0 n0 OL0 pr2 pr3 pr4 pr5 pr6 pr1 pr7) e2 pr5 7 #[rv a1] [(.int (1 : Int32))] [] 0 rfl (hb hby d16_7) (by decide)
  obtain ⟨b5_0, kx5_0, rfl, Nq5, K5, u5_0, u5_1, u5_2, u5_3, u5_4, u5_5, u5_6⟩ := hQ5
  have KK5 : Keep h0 T5.heap [a1] := (Keep.refl h0 [a1]).trans K5 (allS (Or.inl (List.mem_of_getElem? (i := 0) rfl)) all0)
  have sz_b5_0 : h0.size ≤ b5_0 := Nat.le_trans (Keep.refl h0 [a1]).1 u5_0
  have N5 := Fr.app N0 Nq5
  refine ⟨some (.ref b5_0), _, _, _, _, _, X5, rfl, by decide, nofun, fun fs hr => ?_, ?_⟩
  · refine xaloadN X0 hx hby d16_0 rfl rfl ?_
    show SS p e below s₁ m 1 #[rv a1] [(.ref a1)] _
    refine xaloadN X0 hx hby d16_1 rfl rfl ?_
    refine st2 _ ?_
    refine XS.iconst X2.here hx rfl (hb hby d16_5) ?_
    refine XS.iadd X2.here hx rfl (hb hby d16_6) rfl ?_
    refine st5 _ ?_
    show SS p e below T5 m 10 #[rv a1] [(.ref b5_0)] _
    exact own_retR X5 hx hret rfl rfl rfl (hb hby d16_10) hr
  · exact ⟨b5_0, kx5_0, rfl, N5, KK5, sz_b5_0, u5_2, u5_1, u5_3, u5_4, u5_5, u5_6⟩
theorem pd_9 : parseMethodDescriptor "()[Ljava/lang/Object;" = some ⟨[], some (.array (.object "java/lang/Object"))⟩ := by decide +kernel
theorem cw13 {a0 Z} (hw : HW a0 Z) : CP a0 Z s26 129 mn16 0 (.code mn16 jdk_38_method_7_code 1 (some (.array (.object s20)))) :=
  ⟨wx hw 98 rfl, wx hw 99 rfl, wx hw 101 rfl, fun _ hZ => Cond.privateMethod_at (mvP hZ (wd100 hw) (args := #[])), wx hw 102 rfl, wx hw 47 rfl, by decide, _, _, pd_9, rfl⟩
theorem d15_10 : DC cb15 10 (.astore_n 2) 1 := by decide +kernel
theorem d15_11 : DC cb15 11 (.aload_n 2) 1 := by decide +kernel
theorem d15_12 : DC cb15 12 (.iload_n 3) 1 := by decide +kernel
theorem d15_13 : DC cb15 13 (.aload_n 1) 1 := by decide +kernel
theorem d15_14 : DC cb15 14 (.aastore) 1 := by decide +kernel
theorem d15_15 : DC cb15 15 (.aload_n 0) 1 := by decide +kernel
theorem d15_16 : DC cb15 16 (.iload_n 3) 1 := by decide +kernel
theorem d15_17 : DC cb15 17 (.iconst 1) 1 := by decide +kernel
theorem d15_18 : DC cb15 18 (.iadd) 1 := by decide +kernel
theorem d15_19 : DC cb15 19 (.putfield 48) 3 := by decide +kernel
theorem d15_22 : DC cb15 22 (.return_) 1 := by decide +kernel
theorem ef_15_15 (m : MethodId) (x0 : Addr) (x1 : Addr) (x2 : Addr) : entryFrame m #[(.ref x0), (.ref x1), (.ref x2), (.int (0 : Int32))] 4 = mkF m 0 #[.val (.ref x0), .val (.ref x1), .val (.ref x2), .val (.int (0 : Int32))] [] := by first | (simp [entryFrame, mkF, argsToLocals, Value.category]; done) | rfl
theorem rm15_0 (l : Launch) (Z : State) (a0 : Array Value) (hw : HW a0 Z) (a1 a2 w3 : Addr) (k4 : ClassId) (h0 : Heap) (n0 : Nat) (OL0 : Old Z n0 h0) (pr1 : Arv Z Z.heap w3 k4 (.object s20) (0 : Int32) [] .null) (pr2 : Fld Z h0 a1 s26 "size" "I" (.int (0 : Int32))) (pr3 : Fld Z h0 a1 s26 s12 s8 (.ref w3)) (pr4 : Sta Z Z.heap s26 s0 s8 (.ref w3)) (pr5 : Exa Z h0 a1 s26) (pr6 : n0 ≤ a1) (pr7 : Fld Z h0 a1 s25 s41 "I" (.int (1 : Int32))) (pr8 : Exa Z h0 a2 s48) :
    MF l Z mn15 jdk_38_method_24_code 4 none ⟨3, 1, 10, 41⟩ #[(.ref a1), (.ref a2), (.ref w3), (.int (0 : Int32))] h0 (fun v h L => ∃ b6_0 : Addr, ∃ kx6_0 : ClassId, v = none ∧ Fr n0 L ∧ Keep h0 h [a1] ∧ h0.size ≤ b6_0 ∧ Fld Z h a1 s26 "size" "I" (.int (1 : Int32)) ∧ Fld Z h a1 s26 s12 s8 (.ref b6_0) ∧ Fld Z h a1 s25 s41 "I" (.int (1 : Int32)) ∧ Arv Z h b6_0 kx6_0 (.object s20) (10 : Int32) [(.ref a2), .null, .null, .null, .null, .null, .null, .null, .null, .null] .null ∧ Ovr Z kx6_0 s20 ∧ Exa Z h b6_0 s8) := by
  refine own_start (plainFor_of_name pn_6) (fun m => (ef_15_15 m a1 a2 w3)) ?_
  intro p e s m below meth c s₁ hZ hx hby hml hown hnm hret X0 e0
  have N0 := Fr.nil n0
  obtain ⟨cl5, Ar5, -, Sz5, Nn5, -, -⟩ := id (pr1.ext OL0.2)
  obtain ⟨_, T6, L6, X6, hQ6, st6⟩ := own_cP X0 hx hZ hown hml (cw13 hw) (rm16_0 l Z a0 hw a1 w3 k4 h0 n0 OL0 pr2 pr3 pr1 pr4 pr5 pr6 pr7) e0 pr5 7 #[rv a1, rv a2, rv w3, iv (0 : Int32)] [] [] 0 rfl (hb hby d15_7) (by decide)
  obtain ⟨b6_0, kx6_0, rfl, Nq6, K6, u6_0, u6_1, u6_2, u6_3, u6_4, u6_5, u6_6⟩ := hQ6
  have KK6 : Keep h0 T6.heap [a1] := (Keep.refl h0 [a1]).trans K6 (allS (Or.inl (List.mem_of_getElem? (i := 0) rfl)) all0)
  have g_b6_0 : n0 ≤ b6_0 := Nat.le_trans (Nat.le_trans (Nat.le_of_eq OL0.1.symm) OL0.2.1) u6_0
  have sz_b6_0 : h0.size ≤ b6_0 := Nat.le_trans (Keep.refl h0 [a1]).1 u6_0
  have N6 := Fr.app N0 Nq6
  obtain ⟨cl7, Ar7, q7, S7, M7, Hs7, G7⟩ := id u6_4
  have hin7 : ¬ ((0 : Int32) < 0 ∨ cl7.slots.size ≤ ((0 : Int32)).toNatClampNeg) := inb_of S7 ⟨by decide, by decide⟩
  have fc8 := (pr8.keep K6)
  obtain ⟨T9, h9, X9, e9, W9, st9⟩ := stR X6 hx hZ rfl Ar7 (j := (0 : Int32)) hin7 rfl (Sto.ofV Ar7 q7 u6_5 (Ins.of_exa fc8 (wd113 hw))) (g := (mkF m 14 #[rv a1, rv a2, rv b6_0, iv (0 : Int32)] [(.ref a2), (.int (0 : Int32)), (.ref b6_0)])) rfl rfl (hb hby d15_14)
  have V9 : Arv Z h9 b6_0 kx6_0 (.object s20) (10 : Int32) [(.ref a2), .null, .null, .null, .null, .null, .null, .null, .null, .null] .null := Arv.set Ar7 q7 S7 M7 Hs7 G7 rfl W9 0 rfl (Nat.le_of_ble_eq_true rfl)
  have KK9 : Keep h0 h9 [a1] := KK6.wr W9 (Or.inr sz_b6_0)
  have N9 := Fr.snoc X9 N6 g_b6_0
  have fc10 := ((pr5.keep K6).wr W9)
  have nz11 := nl pr7.lt sz_b6_0
  have fc12 := (u6_1.other W9 (Or.inl nz11))
  obtain ⟨T13, h13, X13, e13, W13, st13⟩ := putF X9 hx hZ hown (host := "") (Or.inl (wd91 hw)) Via.refl e9 fc12 fc10 (Or.inl (wd92 hw)) (wd46 hw) (ty := .int) (by decide) rfl rfl (g := (mkF m 19 #[rv a1, rv a2, rv b6_0, iv (0 : Int32)] [(.int (1 : Int32)), (.ref a1)])) rfl rfl (hb hby d15_19)
  have Fw13 := fc12.same W13
  have KK13 : Keep h0 h13 [a1] := KK9.wr W13 (Or.inl (List.mem_of_getElem? (i := 0) rfl))
  have N13 := Fr.snoc X13 N9 pr6
  have fc14 := ((u6_2.other W9 (Or.inl nz11)).other W13 (Or.inr (slot_ne (Or.inl (wd68 hw)) (Or.inl (wd92 hw)) (by decide) (t := (.array (.object s20))) (t' := .int) (by decide) (by decide))))
  have fc15 := ((u6_3.other W9 (Or.inl nz11)).other W13 (Or.inr (slot_ne (Or.inl (wd65 hw)) (Or.inl (wd92 hw)) (by decide) (t := .int) (t' := .int) (by decide) (by decide))))
  have fc16 := (V9.other W13 (Ne.symm nz11))
  have fc17 := ((u6_6.wr W9).wr W13)
  refine ⟨none, _, _, _, _, _, X13, e13, by decide, fun _ => rfl, fun fs hr => ?_, ?_⟩
  · refine xiloadN X0 hx hby d15_0 rfl ?_
    show SS p e below s₁ m 1 #[rv a1, rv a2, rv w3, iv (0 : Int32)] [(.int (0 : Int32))] _
    refine xaloadN X0 hx hby d15_1 rfl rfl ?_
    refine X0.arraylength hx (by rw [e0]; exact Ar5.1) (State.isArrayOf_alike hZ.alike Ar5.2.1) (g := (mkF m 2 #[rv a1, rv a2, rv w3, iv (0 : Int32)] [(.ref w3), (.int (0 : Int32))])) rfl rfl (hb hby d15_2) _ ?_
    rw [len_of Sz5 Nn5]
    refine XS.icmpNo X0.here hx rfl (hb hby d15_3) rfl (teq (rfl : (0 : Int32) = (0 : Int32))).2 ?_
    refine xaloadN X0 hx hby d15_6 rfl rfl ?_
    refine st6 _ ?_
    refine XS.astoreN X6.here hx rfl (hb hby d15_10) rfl rfl (l' := #[rv a1, rv a2, rv b6_0, iv (0 : Int32)]) rfl ?_
    refine xaloadN X6 hx hby d15_11 rfl rfl ?_
    refine xiloadN X6 hx hby d15_12 rfl ?_
    refine xaloadN X6 hx hby d15_13 rfl rfl ?_
    refine st9 _ ?_
    show SS p e below T9 m 15 #[rv a1, rv a2, rv b6_0, iv (0 : Int32)] [] _
    refine xaloadN X9 hx hby d15_15 rfl rfl ?_
    refine xiloadN X9 hx hby d15_16 rfl ?_
    refine XS.iconst X9.here hx rfl (hb hby d15_17) ?_
    refine XS.iadd X9.here hx rfl (hb hby d15_18) rfl ?_
    refine st13 _ ?_
    show SS p e below T13 m 22 #[rv a1, rv a2, rv b6_0, iv (0 : Int32)] [] _
    exact X13.returnOut hx hret (hb hby d15_22) hr
  · exact ⟨b6_0, kx6_0, rfl, N13, KK13, sz_b6_0, Fw13, fc14, fc15, fc16, u6_5, fc17⟩
theorem pd_10 : parseMethodDescriptor "(Ljava/lang/Object;[Ljava/lang/Object;I)V" = some ⟨[(.object "java/lang/Object"), (.array (.object "java/lang/Object")), .int], none⟩ := by decide +kernel
theorem cw14 {a0 Z} (hw : HW a0 Z) : CP a0 Z s26 131 mn15 3 (.code mn15 jdk_38_method_24_code 4 none) :=
  ⟨wx hw 93 rfl, wx hw 94 rfl, wx hw 96 rfl, fun _ hZ => Cond.privateMethod_at (mvP hZ (wd95 hw) (args := #[])), wx hw 97 rfl, wx hw 47 rfl, by decide, _, _, pd_10, rfl⟩
theorem d14_23 : DC cb14 23 (.iconst 1) 1 := by decide +kernel
theorem d14_24 : DC cb14 24 (.ireturn) 1 := by decide +kernel
theorem ef_14_16 (m : MethodId) (x0 : Addr) (x1 : Addr) : entryFrame m #[(.ref x0), (.ref x1)] 2 = mkF m 0 #[.val (.ref x0), .val (.ref x1)] [] := by first | (simp [entryFrame, mkF, argsToLocals, Value.category]; done) | rfl
theorem rm14_0 (l : Launch) (Z : State) (a0 : Array Value) (hw : HW a0 Z) (a1 a2 w5 : Addr) (k10 : ClassId) (h0 : Heap) (n0 : Nat) (OL0 : Old Z n0 h0) (pr1 : Fld Z h0 a1 s25 s41 "I" (.int (0 : Int32))) (pr2 : Exa Z h0 a1 s26) (pr3 : n0 ≤ a1) (pr4 : Fld Z h0 a1 s26 s12 s8 (.ref w5)) (pr5 : Fld Z h0 a1 s26 "size" "I" (.int (0 : Int32))) (pr6 : Arv Z Z.heap w5 k10 (.object s20) (0 : Int32) [] .null) (pr7 : Sta Z Z.heap s26 s0 s8 (.ref w5)) (pr8 : Exa Z h0 a2 s48) :
    MF l Z mn14 jdk_38_method_25_code 2 (some .boolean) ⟨4, 1, 10, 56⟩ #[(.ref a1), (.ref a2)] h0 (fun v h L => ∃ b11_0 : Addr, ∃ kx11_0 : ClassId, v = some (.int (1 : Int32)) ∧ Fr n0 L ∧ Keep h0 h [a1] ∧ h0.size ≤ b11_0 ∧ Fld Z h a1 s25 s41 "I" (.int (1 : Int32)) ∧ Fld Z h a1 s26 s12 s8 (.ref b11_0) ∧ Fld Z h a1 s26 "size" "I" (.int (1 : Int32)) ∧ Arv Z h b11_0 kx11_0 (.object s20) (10 : Int32) [(.ref a2), .null, .null, .null, .null, .null, .null, .null, .null, .null] .null ∧ Ovr Z kx11_0 s20 ∧ Exa Z h b11_0 s8) := by
  refine own_start (plainFor_of_name pn_6) (fun m => (ef_14_16 m a1 a2)) ?_
  intro p e s m below meth c s₁ hZ hx hby hml hown hnm hret X0 e0
  have N0 := Fr.nil n0
  obtain ⟨T3, X3, e3, st3⟩ := gF X0 hx hZ hown (wd89 hw) (Via.of (wd90 hw)) e0 pr1 2 #[rv a1, rv a2] [(.ref a1)] (hb hby d14_2)
  obtain ⟨T4, h4, X4, e4, W4, st4⟩ := putF X3 hx hZ hown (host := "") (Or.inl (wd89 hw)) (Via.of (wd90 hw)) e3 pr1 pr2 (Or.inl (wd65 hw)) (wd46 hw) (ty := .int) (by decide) rfl rfl (g := (mkF m 7 #[rv a1, rv a2] [(.int (1 : Int32)), (.ref a1)])) rfl rfl (hb hby d14_7)
  have Fw4 := pr1.same W4
  have KK4 : Keep h0 h4 [a1] := (Keep.refl h0 [a1]).wr W4 (Or.inl (List.mem_of_getElem? (i := 0) rfl))
  have OL4 := OL0.wr W4 pr3
  have N4 := Fr.snoc X4 N0 pr3
  have fc6 := (pr4.other W4 (Or.inr (slot_ne (Or.inl (wd68 hw)) (Or.inl (wd65 hw)) (by decide) (t := (.array (.object s20))) (t' := .int) (by decide) (by decide))))
  obtain ⟨T7, X7, e7, st7⟩ := gF X4 hx hZ hown (wd67 hw) Via.refl e4 fc6 13 #[rv a1, rv a2] [(.ref a2), (.ref a1)] (hb hby d14_13)
  have fc8 := (pr5.other W4 (Or.inr (slot_ne (Or.inl (wd92 hw)) (Or.inl (wd65 hw)) (by decide) (t := .int) (t' := .int) (by decide) (by decide))))
  obtain ⟨T9, X9, e9, st9⟩ := gF X7 hx hZ hown (wd91 hw) Via.refl e7 fc8 17 #[rv a1, rv a2] [(.ref w5), (.ref a2), (.ref a1)] (hb hby d14_17)
  have fc12 := (pr2.wr W4)
  have fc13 := (pr8.wr W4)
  obtain ⟨_, T11, L11, X11, hQ11, st11⟩ := own_cP X9 hx hZ hown hml (cw14 hw) (rm15_0 l Z a0 hw a1 a2 w5 k10 h4 n0 OL4 pr6 fc8 fc6 pr7 fc12 pr3 Fw4 fc13) e9 fc12 20 #[rv a1, rv a2] [(.ref a2), (.ref w5), (.int (0 : Int32))] [] 0 rfl (hb hby d14_20) (by decide)
  obtain ⟨b11_0, kx11_0, rfl, Nq11, K11, u11_0, u11_1, u11_2, u11_3, u11_4, u11_5, u11_6⟩ := hQ11
  have KK11 : Keep h0 T11.heap [a1] := KK4.trans K11 (allS (Or.inl (List.mem_of_getElem? (i := 0) rfl)) all0)
  have sz_b11_0 : h0.size ≤ b11_0 := Nat.le_trans KK4.1 u11_0
  have N11 := Fr.app N4 Nq11
  refine ⟨some (.int (1 : Int32)), _, _, _, _, _, X11, rfl, by decide, nofun, fun fs hr => ?_, ?_⟩
  · refine xaloadN X0 hx hby d14_0 rfl rfl ?_
    show SS p e below s₁ m 1 #[rv a1, rv a2] [(.ref a1)] _
    refine XS.dup X0.here hx rfl (hb hby d14_1) rfl rfl ?_
    refine st3 _ ?_
    refine XS.iconst X3.here hx rfl (hb hby d14_5) ?_
    refine XS.iadd X3.here hx rfl (hb hby d14_6) rfl ?_
    refine st4 _ ?_
    refine xaloadN X4 hx hby d14_10 rfl rfl ?_
    refine xaloadN X4 hx hby d14_11 rfl rfl ?_
    refine xaloadN X4 hx hby d14_12 rfl rfl ?_
    refine st7 _ ?_
    refine xaloadN X7 hx hby d14_16 rfl rfl ?_
    show SS p e below T7 m 17 #[rv a1, rv a2] [(.ref a1), (.ref w5), (.ref a2), (.ref a1)] _
    refine st9 _ ?_
    refine st11 _ ?_
    refine XS.iconst X11.here hx rfl (hb hby d14_23) ?_
    show SS p e below T11 m 24 #[rv a1, rv a2] [(.int (1 : Int32))] _
    exact retN X11 hx (t := .boolean) hret (by simp) (hb hby d14_24) hr
  · exact ⟨b11_0, kx11_0, rfl, N11, KK11, sz_b11_0, u11_3, u11_2, u11_1, u11_4, u11_5, u11_6⟩
theorem pd_11 : parseMethodDescriptor "(Ljava/lang/Object;)Z" = some ⟨[(.object "java/lang/Object")], some .boolean⟩ := by decide +kernel
theorem cw15 {a0 Z} (hw : HW a0 Z) : CV a0 Z s44 43 mn14 mn14 s26 1 (.code mn14 jdk_38_method_25_code 2 (some .boolean)) :=
  ⟨wx hw 84 rfl, wx hw 85 rfl, (fun _ hZ => notFace_of_selects (args := #[]) (mvT hZ (wd87 hw))), wx hw 87 rfl, wx hw 86 rfl, wx hw 88 rfl, wx hw 47 rfl, by decide, _, _, pd_11, rfl⟩
theorem ef_15_17 (m : MethodId) (x0 : Addr) (x1 : Addr) (x2 : Addr) : entryFrame m #[(.ref x0), (.ref x1), (.ref x2), (.int (1 : Int32))] 4 = mkF m 0 #[.val (.ref x0), .val (.ref x1), .val (.ref x2), .val (.int (1 : Int32))] [] := by first | (simp [entryFrame, mkF, argsToLocals, Value.category]; done) | rfl
theorem rm15_1 (l : Launch) (Z : State) (a0 : Array Value) (hw : HW a0 Z) (a1 a2 a3 a4 : Addr) (k5 : ClassId) (h0 : Heap) (n0 : Nat) (OL0 : Old Z n0 h0) (pr1 : Arv Z h0 a3 k5 (.object s20) (10 : Int32) [(.ref a4), .null, .null, .null, .null, .null, .null, .null, .null, .null] .null) (pr2 : n0 ≤ a3) (pr3 : Ovr Z k5 s20) (pr4 : Exa Z h0 a2 s48) (pr5 : Exa Z h0 a1 s26) (pr6 : Fld Z h0 a1 s26 "size" "I" (.int (1 : Int32))) (pr7 : a1 ≠ a3) (pr8 : n0 ≤ a1) (pr9 : Fld Z h0 a1 s25 s41 "I" (.int (2 : Int32))) (pr10 : Fld Z h0 a1 s26 s12 s8 (.ref a3)) (pr11 : a3 ≠ a1) :
    MF l Z mn15 jdk_38_method_24_code 4 none ⟨0, 0, 0, 0⟩ #[(.ref a1), (.ref a2), (.ref a3), (.int (1 : Int32))] h0 (fun v h L => v = none ∧ Fr n0 L ∧ Keep h0 h [a3, a1] ∧ Arv Z h a3 k5 (.object s20) (10 : Int32) [(.ref a4), (.ref a2), .null, .null, .null, .null, .null, .null, .null, .null] .null ∧ Fld Z h a1 s26 "size" "I" (.int (2 : Int32)) ∧ Fld Z h a1 s25 s41 "I" (.int (2 : Int32)) ∧ Fld Z h a1 s26 s12 s8 (.ref a3)) := by
  refine own_start (plainFor_of_name pn_6) (fun m => (ef_15_17 m a1 a2 a3)) ?_
  intro p e s m below meth c s₁ hZ hx hby hml hown hnm hret X0 e0
  have N0 := Fr.nil n0
  obtain ⟨cl6, Ar6, -, Sz6, Nn6, -, -⟩ := id pr1
  obtain ⟨cl7, Ar7, q7, S7, M7, Hs7, G7⟩ := id pr1
  have hin7 : ¬ ((1 : Int32) < 0 ∨ cl7.slots.size ≤ ((1 : Int32)).toNatClampNeg) := inb_of S7 ⟨by decide, by decide⟩
  obtain ⟨T8, h8, X8, e8, W8, st8⟩ := stR X0 hx hZ e0 Ar7 (j := (1 : Int32)) hin7 rfl (Sto.ofV Ar7 q7 pr3 (Ins.of_exa pr4 (wd113 hw))) (g := (mkF m 14 #[rv a1, rv a2, rv a3, iv (1 : Int32)] [(.ref a2), (.int (1 : Int32)), (.ref a3)])) rfl rfl (hb hby d15_14)
  have V8 : Arv Z h8 a3 k5 (.object s20) (10 : Int32) [(.ref a4), (.ref a2), .null, .null, .null, .null, .null, .null, .null, .null] .null := Arv.set Ar7 q7 S7 M7 Hs7 G7 rfl W8 1 rfl (Nat.le_of_ble_eq_true rfl)
  have KK8 : Keep h0 h8 [a3, a1] := (Keep.refl h0 [a3, a1]).wr W8 (Or.inl (List.mem_of_getElem? (i := 0) rfl))
  have N8 := Fr.snoc X8 N0 pr2
  have fc9 := (pr5.wr W8)
  have fc10 := (pr6.other W8 (Or.inl pr7))
  obtain ⟨T11, h11, X11, e11, W11, st11⟩ := putF X8 hx hZ hown (host := "") (Or.inl (wd91 hw)) Via.refl e8 fc10 fc9 (Or.inl (wd92 hw)) (wd46 hw) (ty := .int) (by decide) rfl rfl (g := (mkF m 19 #[rv a1, rv a2, rv a3, iv (1 : Int32)] [(.int (2 : Int32)), (.ref a1)])) rfl rfl (hb hby d15_19)
  have Fw11 := fc10.same W11
  have KK11 : Keep h0 h11 [a3, a1] := KK8.wr W11 (Or.inl (List.mem_of_getElem? (i := 1) rfl))
  have N11 := Fr.snoc X11 N8 pr8
  have fc12 := ((pr9.other W8 (Or.inl pr7)).other W11 (Or.inr (slot_ne (Or.inl (wd65 hw)) (Or.inl (wd92 hw)) (by decide) (t := .int) (t' := .int) (by decide) (by decide))))
  have fc13 := ((pr10.other W8 (Or.inl pr7)).other W11 (Or.inr (slot_ne (Or.inl (wd68 hw)) (Or.inl (wd92 hw)) (by decide) (t := (.array (.object s20))) (t' := .int) (by decide) (by decide))))
  have fc14 := (V8.other W11 pr11)
  refine ⟨none, _, _, _, _, _, X11, e11, by decide, fun _ => rfl, fun fs hr => ?_, ?_⟩
  · refine xiloadN X0 hx hby d15_0 rfl ?_
    show SS p e below s₁ m 1 #[rv a1, rv a2, rv a3, iv (1 : Int32)] [(.int (1 : Int32))] _
    refine xaloadN X0 hx hby d15_1 rfl rfl ?_
    refine X0.arraylength hx (by rw [e0]; exact Ar6.1) (State.isArrayOf_alike hZ.alike Ar6.2.1) (g := (mkF m 2 #[rv a1, rv a2, rv a3, iv (1 : Int32)] [(.ref a3), (.int (1 : Int32))])) rfl rfl (hb hby d15_2) _ ?_
    rw [len_of Sz6 Nn6]
    refine XS.icmpYes X0.here hx rfl (pc0 := 3) (pc' := 11) rfl (hb hby d15_3) rfl (feq (by decide : ¬ ((1 : Int32) = (10 : Int32)))).2 (by decide) (by decide) ?_
    refine xaloadN X0 hx hby d15_11 rfl rfl ?_
    refine xiloadN X0 hx hby d15_12 rfl ?_
    refine xaloadN X0 hx hby d15_13 rfl rfl ?_
    refine st8 _ ?_
    refine xaloadN X8 hx hby d15_15 rfl rfl ?_
    refine xiloadN X8 hx hby d15_16 rfl ?_
    refine XS.iconst X8.here hx rfl (hb hby d15_17) ?_
    show SS p e below T8 m 18 #[rv a1, rv a2, rv a3, iv (1 : Int32)] [(.int (1 : Int32)), (.int (1 : Int32)), (.ref a1)] _
    refine XS.iadd X8.here hx rfl (hb hby d15_18) rfl ?_
    refine st11 _ ?_
    show SS p e below T11 m 22 #[rv a1, rv a2, rv a3, iv (1 : Int32)] [] _
    exact X11.returnOut hx hret (hb hby d15_22) hr
  · exact ⟨rfl, N11, KK11, fc14, Fw11, fc12, fc13⟩
theorem rm14_1 (l : Launch) (Z : State) (a0 : Array Value) (hw : HW a0 Z) (a1 a2 a5 a10 : Addr) (k11 : ClassId) (h0 : Heap) (n0 : Nat) (OL0 : Old Z n0 h0) (pr1 : Fld Z h0 a1 s25 s41 "I" (.int (1 : Int32))) (pr2 : Exa Z h0 a1 s26) (pr3 : n0 ≤ a1) (pr4 : Fld Z h0 a1 s26 s12 s8 (.ref a5)) (pr5 : Fld Z h0 a1 s26 "size" "I" (.int (1 : Int32))) (pr6 : Arv Z h0 a5 k11 (.object s20) (10 : Int32) [(.ref a10), .null, .null, .null, .null, .null, .null, .null, .null, .null] .null) (pr7 : a5 ≠ a1) (pr8 : n0 ≤ a5) (pr9 : Ovr Z k11 s20) (pr10 : Exa Z h0 a2 s48) (pr11 : a1 ≠ a5) :
    MF l Z mn14 jdk_38_method_25_code 2 (some .boolean) ⟨1, 0, 0, 15⟩ #[(.ref a1), (.ref a2)] h0 (fun v h L => v = some (.int (1 : Int32)) ∧ Fr n0 L ∧ Keep h0 h [a1, a5] ∧ Fld Z h a1 s25 s41 "I" (.int (2 : Int32)) ∧ Fld Z h a1 s26 s12 s8 (.ref a5) ∧ Fld Z h a1 s26 "size" "I" (.int (2 : Int32)) ∧ Arv Z h a5 k11 (.object s20) (10 : Int32) [(.ref a10), (.ref a2), .null, .null, .null, .null, .null, .null, .null, .null] .null) := by
  refine own_start (plainFor_of_name pn_6) (fun m => (ef_14_16 m a1 a2)) ?_
  intro p e s m below meth c s₁ hZ hx hby hml hown hnm hret X0 e0
  have N0 := Fr.nil n0
  obtain ⟨T3, X3, e3, st3⟩ := gF X0 hx hZ hown (wd89 hw) (Via.of (wd90 hw)) e0 pr1 2 #[rv a1, rv a2] [(.ref a1)] (hb hby d14_2)
  obtain ⟨T4, h4, X4, e4, W4, st4⟩ := putF X3 hx hZ hown (host := "") (Or.inl (wd89 hw)) (Via.of (wd90 hw)) e3 pr1 pr2 (Or.inl (wd65 hw)) (wd46 hw) (ty := .int) (by decide) rfl rfl (g := (mkF m 7 #[rv a1, rv a2] [(.int (2 : Int32)), (.ref a1)])) rfl rfl (hb hby d14_7)
  have Fw4 := pr1.same W4
  have KK4 : Keep h0 h4 [a1, a5] := (Keep.refl h0 [a1, a5]).wr W4 (Or.inl (List.mem_of_getElem? (i := 0) rfl))
  have OL4 := OL0.wr W4 pr3
  have N4 := Fr.snoc X4 N0 pr3
  have fc6 := (pr4.other W4 (Or.inr (slot_ne (Or.inl (wd68 hw)) (Or.inl (wd65 hw)) (by decide) (t := (.array (.object s20))) (t' := .int) (by decide) (by decide))))
  obtain ⟨T7, X7, e7, st7⟩ := gF X4 hx hZ hown (wd67 hw) Via.refl e4 fc6 13 #[rv a1, rv a2] [(.ref a2), (.ref a1)] (hb hby d14_13)
  have fc8 := (pr5.other W4 (Or.inr (slot_ne (Or.inl (wd92 hw)) (Or.inl (wd65 hw)) (by decide) (t := .int) (t' := .int) (by decide) (by decide))))
  obtain ⟨T9, X9, e9, st9⟩ := gF X7 hx hZ hown (wd91 hw) Via.refl e7 fc8 17 #[rv a1, rv a2] [(.ref a5), (.ref a2), (.ref a1)] (hb hby d14_17)
  have fc13 := (pr6.other W4 pr7)
  have fc14 := (pr10.wr W4)
  have fc15 := (pr2.wr W4)
  obtain ⟨_, T12, L12, X12, hQ12, st12⟩ := own_cP X9 hx hZ hown hml (cw14 hw) (rm15_1 l Z a0 hw a1 a2 a5 a10 k11 h4 n0 OL4 fc13 pr8 pr9 fc14 fc15 fc8 pr11 pr3 Fw4 fc6 pr7) e9 fc15 20 #[rv a1, rv a2] [(.ref a2), (.ref a5), (.int (1 : Int32))] [] 0 rfl (hb hby d14_20) (by decide)
  obtain ⟨rfl, Nq12, K12, u12_0, u12_1, u12_2, u12_3⟩ := hQ12
  have KK12 : Keep h0 T12.heap [a1, a5] := KK4.trans K12 (allS (Or.inl (List.mem_of_getElem? (i := 1) rfl)) (allS (Or.inl (List.mem_of_getElem? (i := 0) rfl)) all0))
  have N12 := Fr.app N4 Nq12
  refine ⟨some (.int (1 : Int32)), _, _, _, _, _, X12, rfl, by decide, nofun, fun fs hr => ?_, ?_⟩
  · refine xaloadN X0 hx hby d14_0 rfl rfl ?_
    show SS p e below s₁ m 1 #[rv a1, rv a2] [(.ref a1)] _
    refine XS.dup X0.here hx rfl (hb hby d14_1) rfl rfl ?_
    refine st3 _ ?_
    refine XS.iconst X3.here hx rfl (hb hby d14_5) ?_
    refine XS.iadd X3.here hx rfl (hb hby d14_6) rfl ?_
    refine st4 _ ?_
    refine xaloadN X4 hx hby d14_10 rfl rfl ?_
    refine xaloadN X4 hx hby d14_11 rfl rfl ?_
    refine xaloadN X4 hx hby d14_12 rfl rfl ?_
    refine st7 _ ?_
    refine xaloadN X7 hx hby d14_16 rfl rfl ?_
    show SS p e below T7 m 17 #[rv a1, rv a2] [(.ref a1), (.ref a5), (.ref a2), (.ref a1)] _
    refine st9 _ ?_
    refine st12 _ ?_
    refine XS.iconst X12.here hx rfl (hb hby d14_23) ?_
    show SS p e below T12 m 24 #[rv a1, rv a2] [(.int (1 : Int32))] _
    exact retN X12 hx (t := .boolean) hret (by simp) (hb hby d14_24) hr
  · exact ⟨rfl, N12, KK12, u12_2, u12_3, u12_1, u12_0⟩
theorem d19_0 : DC cb19 0 (.aload_n 0) 1 := by decide +kernel
theorem d19_1 : DC cb19 1 (.invokespecial 1) 3 := by decide +kernel
theorem cw16 {a0 Z} (hw : HW a0 Z) : CN a0 Z s45 1 mn6 0 (.code mn6 jdk_30_method_1_code 1 none) :=
  ⟨rfl, wx hw 120 rfl, wx hw 31 rfl, wx hw 34 rfl, wx hw 33 rfl, by decide, _, _, pd_2, rfl⟩
theorem d19_4 : DC cb19 4 (.aload_n 1) 1 := by decide +kernel
theorem d19_5 : DC cb19 5 (.invokestatic 7) 3 := by decide +kernel
theorem d20_0 : DC cb20 0 (.aload_n 0) 1 := by decide +kernel
theorem d20_1 : DC cb20 1 (.invokestatic 112) 3 := by decide +kernel
theorem d21_0 : DC cb21 0 (.aload_n 0) 1 := by decide +kernel
theorem d21_1 : DC cb21 1 (.instanceof 10) 3 := by decide +kernel
def NI (Z : State) (K : String) : Prop := ∃ t k, Z.vm.findClass K = some t ∧ Z.vm.classes[t]? = some k ∧ k.isInterface = false
theorem NI.inst {Z : State} {a0 : Array Value} {K : String} {n : Nat} (wk : (Jvm.Cond.instantiable K n).before a0 Z = true) : NI Z K := by
  obtain ⟨t', k', g1, g2, g5, g7, -⟩ := Cond.instantiable_spec wk
  refine ⟨t', k', g1, g2, ?_⟩
  cases q : k'.isInterface with
  | false => rfl
  | true => simp [q] at g7
theorem NI.sel {Z : State} {a0 : Array Value} {C : String} {x y : MethodName} (w : (Jvm.Cond.selects C x y).before a0 Z = true) : NI Z y.cls := by
  obtain ⟨c2, r2, m2, q1, q2, q3, q4, kP, hkP, hkPi⟩ := Cond.selects_spec w
  exact ⟨_, kP, findClass_of_methodNamed q3, hkP, hkPi⟩
theorem own_root {Z : State} {a0 : Array Value} {O K : String} (w : (Jvm.Cond.noSuperclass O).before a0 Z = true) (wk : NI Z K) (hn : O ≠ K) : NS Z O K := by
  obtain ⟨c, k, h1, h2, h3, -, -⟩ := Cond.noSuperclass_spec w
  obtain ⟨t, -, g1, -⟩ := wk
  have ne := ids_ne h1 g1 hn
  refine ⟨c, t, h1, g1, fun fuel => ?_⟩
  cases fuel with
  | zero => rfl
  | succ f => simp [Vm.isSubclassAux, ne, h2, h3]
theorem own_no {Z : State} {a0 : Array Value} {C S K : String} (w : (Jvm.Cond.superclass C S).before a0 Z = true) (wk : NI Z K) (n : NS Z C K) (hn : C ≠ K) : ∃ c t, Z.vm.findClass C = some c ∧ Z.vm.findClass K = some t ∧ Z.vm.assignable c t = false := by
  obtain ⟨c, t, h0, g0, n3⟩ := n
  obtain ⟨p, k, kp, h1, h2, h3, h4, h5, -, h7⟩ := Cond.superclass_spec h0 w
  obtain ⟨t', k', g1, g2, g8⟩ := wk
  cases g0.symm.trans g1
  have ne := ids_ne h0 g0 hn
  refine ⟨c, t, h0, g0, ?_⟩
  show Z.vm.assignableAux (255 + 1) c t = false
  cases hk : k'.kind <;> simp [Vm.assignableAux, ne, h2, g2, h5, hk, g8, Vm.isSubclass, n3]
theorem d21_4 : DC cb21 4 (.ifCond .ne 22) 3 := by decide +kernel
theorem d21_7 : DC cb21 7 (.aload_n 0) 1 := by decide +kernel
theorem d21_8 : DC cb21 8 (.instanceof 12) 3 := by decide +kernel
theorem d21_11 : DC cb21 11 (.ifCond .eq 20) 3 := by decide +kernel
theorem d21_31 : DC cb21 31 (.aload_n 0) 1 := by decide +kernel
theorem d21_32 : DC cb21 32 (.invokeinterface 20 1) 5 := by decide +kernel
theorem d22_0 : DC cb22 0 (.aload_n 0) 1 := by decide +kernel
theorem d22_1 : DC cb22 1 (.getfield 48) 3 := by decide +kernel
theorem d22_4 : DC cb22 4 (.ifCond .ne 7) 3 := by decide +kernel
theorem d22_11 : DC cb22 11 (.iconst 0) 1 := by decide +kernel
theorem d22_12 : DC cb22 12 (.ireturn) 1 := by decide +kernel
theorem ef_22_18 (m : MethodId) (x0 : Addr) : entryFrame m #[(.ref x0)] 1 = mkF m 0 #[.val (.ref x0)] [] := by first | (simp [entryFrame, mkF, argsToLocals, Value.category]; done) | rfl
theorem rm22_0 (l : Launch) (Z : State) (a0 : Array Value) (hw : HW a0 Z) (a1 : Addr) (h0 : Heap) (n0 : Nat) (OL0 : Old Z n0 h0) (pr1 : Fld Z h0 a1 s26 "size" "I" (.int (2 : Int32))) :
    MF l Z mn22 jdk_38_method_9_code 1 (some .boolean) ⟨0, 0, 0, 0⟩ #[(.ref a1)] h0 (QR n0 h0 (some (.int (0 : Int32)))) := by
  refine own_start (plainFor_of_name pn_6) (fun m => (ef_22_18 m a1)) ?_
  intro p e s m below meth c s₁ hZ hx hby hml hown hnm hret X0 e0
  have N0 := Fr.nil n0
  obtain ⟨T2, X2, e2, st2⟩ := gF X0 hx hZ hown (wd91 hw) Via.refl e0 pr1 1 #[rv a1] [] (hb hby d22_1)
  refine ⟨some (.int (0 : Int32)), _, _, _, _, _, X2, e2, by decide, nofun, fun fs hr => ?_, ?_⟩
  · refine xaloadN X0 hx hby d22_0 rfl rfl ?_
    show SS p e below s₁ m 1 #[rv a1] [(.ref a1)] _
    refine st2 _ ?_
    refine XS.ifYes X2.here hx rfl (pc0 := 4) (pc' := 11) rfl (hb hby d22_4) rfl ((if0 _ _).trans (feq (by decide : ¬ ((2 : Int32) = (0 : Int32)))).2) (by decide) (by decide) ?_
    refine XS.iconst X2.here hx rfl (hb hby d22_11) ?_
    show SS p e below T2 m 12 #[rv a1] [(.int (0 : Int32))] _
    exact retN X2 hx (t := .boolean) hret (by simp) (hb hby d22_12) hr
  · exact ⟨rfl, N0, rfl⟩
theorem pd_12 : parseMethodDescriptor "()Z" = some ⟨[], some .boolean⟩ := by decide +kernel
theorem cw17 {a0 Z} (hw : HW a0 Z) : CI a0 Z s30 20 (⟨s29, "isEmpty", "()Z"⟩ : MethodName) mn22 s26 0 (.code mn22 jdk_38_method_9_code 1 (some .boolean)) :=
  ⟨wx hw 135 rfl, wx hw 136 rfl, ⟨wx hw 137 rfl, by first | rfl | simp [Cond.onTables, Cond.keepsFace, Cond.keeps, Cond.steady]⟩, wx hw 138 rfl, wx hw 139 rfl, wx hw 140 rfl, wx hw 141 rfl, wx hw 142 rfl, wx hw 143 rfl, wx hw 47 rfl, by decide, _, _, pd_12, rfl⟩
theorem d21_37 : DC cb21 37 (.ifCond .eq 7) 3 := by decide +kernel
theorem d21_44 : DC cb21 44 (.aload_n 0) 1 := by decide +kernel
theorem d21_45 : DC cb21 45 (.invokeinterface 30 1) 5 := by decide +kernel
theorem d23_0 : DC cb23 0 (.aload_n 0) 1 := by decide +kernel
theorem d23_1 : DC cb23 1 (.getfield 9) 3 := by decide +kernel
theorem d23_4 : DC cb23 4 (.aload_n 0) 1 := by decide +kernel
theorem d23_5 : DC cb23 5 (.getfield 48) 3 := by decide +kernel
theorem d23_8 : DC cb23 8 (.invokestatic 66) 3 := by decide +kernel
theorem d24_0 : DC cb24 0 (.aload_n 0) 1 := by decide +kernel
theorem d24_1 : DC cb24 1 (.iload_n 1) 1 := by decide +kernel
theorem d24_2 : DC cb24 2 (.aload_n 0) 1 := by decide +kernel
theorem d24_3 : DC cb24 3 (.invokevirtual 86) 3 := by decide +kernel
def MirM (Z : State) (C : String) (a : Addr) : Prop := ∃ (c : ClassId) (k : Class), Z.vm.findClass C = some c ∧ Z.vm.classes[c]? = some k ∧ k.mirror = some a
theorem own_gcls {p : Program} {l : Launch} {e : Env} {R : Room} {s : State} {m : MethodId} {args : Array Value} {below : List Frame} {meth : Method} {c : Code} {T : State} {locs : List Loc} {cells slots : Nat} {Z : State} {a0 : Array Value} {h : Heap} {a mr : Addr} {own C : String} {index : Nat}
    (X : Stand p l e R s m args below meth c T locs cells slots) (hx : p.tables.exec = Jvm.exec) (hZ : Z.Warmed39 s.vm) (hown : s.vm.findClass own = some m.cls)
    (w1 : (Jvm.Cond.methodLink own index ⟨"java/lang/Object", "getClass", "()Ljava/lang/Class;"⟩).before a0 Z = true) (w2 : (Jvm.Cond.declares ⟨"java/lang/Object", "getClass", "()Ljava/lang/Class;"⟩).before a0 Z = true) (w3 : (Jvm.Cond.noSuperclass "java/lang/Object").before a0 Z = true) (w4 : (Jvm.Cond.selects C ⟨"java/lang/Object", "getClass", "()Ljava/lang/Class;"⟩ ⟨"java/lang/Object", "getClass", "()Ljava/lang/Class;"⟩).before a0 Z = true)
    (w5 : (Jvm.Cond.instanceMethod ⟨"java/lang/Object", "getClass", "()Ljava/lang/Class;"⟩).before a0 Z = true) (w6 : (Jvm.Cond.native ⟨"java/lang/Object", "getClass", "()Ljava/lang/Class;"⟩).before a0 Z = true) (eT : T.heap = h) (E : Exa Z h a C) (M : MirM Z C mr)
    {g : JFrame} (hg : g.method = m) (hsize : g.locals.size = c.maxLocals) {rest : List Value} (hs : g.stack = .ref a :: rest) (hd : decode c.code g.pc = .ok (.invokevirtual index, 3)) (hf : 1 ≤ R.frames) {W : Nat} (hW : 2 * g.monitorRoom + (rest.map fun v => v.category).sum ≤ W) (hl : W + 14 ≤ R.locals) :
    ∃ T', Stand p l e R s m args below meth c T' locs cells slots ∧ T'.heap = h ∧ ∀ target, Steps p.tables e below (T'.setTop { g with pc := g.pc + 3, stack := .ref mr :: rest }) target → Steps p.tables e below (T.setTop g) target := by
  obtain ⟨ca, ka, f1, f2, f3⟩ := M
  obtain ⟨cB, kB, i1, -, i3⟩ := isOf hZ eT E
  have f1' : s.vm.findClass C = some ca := by rw [hZ.alike.findClass]; exact f1
  obtain rfl : cB = ca := Option.some.inj (i1.symm.trans f1')
  obtain ⟨kb, g1, g2⟩ := hZ.alike.2.2 _ _ f2
  have gm : kb.mirror = some mr := by rw [g2]; exact f3
  have hn : nativeFrameWords "java/lang/Object" "getClass" 1 + 11 = 14 := by decide
  obtain ⟨vm', X', st⟩ := X.getClassOf hx hown (mvT hZ w1) (mvT hZ w2) (nf_top (args := #[]) (mvT hZ w3)) (mvT hZ w4) (mvT hZ w5) (mvT hZ w6) f1' i3 g1 gm hg hsize hs hd hf (by rw [hn]; omega)
  exact ⟨_, X', eT, st⟩
theorem own_ldcM {p : Program} {l : Launch} {e : Env} {R : Room} {s : State} {m : MethodId} {args : Array Value} {below : List Frame} {meth : Method} {c : Code} {T : State} {locs : List Loc} {cells slots : Nat} {Z : State} {a0 : Array Value} {h : Heap} {mr : Addr} {own C : String} {index : Nat}
    (X : Stand p l e R s m args below meth c T locs cells slots) (hx : p.tables.exec = Jvm.exec) (hZ : Z.Warmed39 s.vm) (hown : s.vm.findClass own = some m.cls) (w : (Jvm.Cond.classLink own index C).before a0 Z = true) (eT : T.heap = h) (M : MirM Z C mr)
    {g : JFrame} (hg : g.method = m) (hd : decode c.code g.pc = .ok (.ldc index, 2)) :
    ∃ T', Stand p l e R s m args below meth c T' locs cells slots ∧ T'.heap = h ∧ ∀ target, Steps p.tables e below (T'.setTop { g with pc := g.pc + 2, stack := .ref mr :: g.stack }) target → Steps p.tables e below (T.setTop g) target := by
  obtain ⟨ca, ka, f1, f2, f3⟩ := M
  have f1' : s.vm.findClass C = some ca := by rw [hZ.alike.findClass]; exact f1
  obtain ⟨kb, g1, g2⟩ := hZ.alike.2.2 _ _ f2
  have gm : kb.mirror = some mr := by rw [g2]; exact f3
  obtain ⟨vm', X', st⟩ := X.ldcMirror hx hown (mvT hZ w) (a := mr) (by simp [Term.eval, f1', g1, gm]) hg hd
  exact ⟨_, X', eT, st⟩
theorem d24_6 : DC cb24 6 (.invokestatic 300) 3 := by decide +kernel
theorem d25_0 : DC cb25 0 (.aload_n 2) 1 := by decide +kernel
theorem d25_1 : DC cb25 1 (.ldc 110) 2 := by decide +kernel
theorem d25_3 : DC cb25 3 (.if_acmp .ne 10) 3 := by decide +kernel
theorem d25_6 : DC cb25 6 (.iload_n 1) 1 := by decide +kernel
theorem d25_7 : DC cb25 7 (.anewarray 2) 3 := by decide +kernel
theorem d25_10 : DC cb25 10 (.goto 14) 3 := by decide +kernel
theorem d25_24 : DC cb25 24 (.astore_n 3) 1 := by decide +kernel
theorem d25_25 : DC cb25 25 (.aload_n 0) 1 := by decide +kernel
theorem d25_26 : DC cb25 26 (.iconst 0) 1 := by decide +kernel
theorem d25_27 : DC cb25 27 (.aload_n 3) 1 := by decide +kernel
theorem d25_28 : DC cb25 28 (.iconst 0) 1 := by decide +kernel
theorem d25_29 : DC cb25 29 (.aload_n 0) 1 := by decide +kernel
theorem d25_30 : DC cb25 30 (.arraylength) 1 := by decide +kernel
theorem d25_31 : DC cb25 31 (.iload_n 1) 1 := by decide +kernel
theorem d25_32 : DC cb25 32 (.invokestatic 304) 3 := by decide +kernel
theorem d26_0 : DC cb26 0 (.iload_n 0) 1 := by decide +kernel
theorem d26_1 : DC cb26 1 (.iload_n 1) 1 := by decide +kernel
theorem d26_2 : DC cb26 2 (.if_icmp .gt 7) 3 := by decide +kernel
theorem d26_9 : DC cb26 9 (.iload_n 1) 1 := by decide +kernel
theorem d26_10 : DC cb26 10 (.ireturn) 1 := by decide +kernel
theorem ef_26_19 (m : MethodId)  : entryFrame m #[(.int (10 : Int32)), (.int (2 : Int32))] 2 = mkF m 0 #[.val (.int (10 : Int32)), .val (.int (2 : Int32))] [] := by first | (simp [entryFrame, mkF, argsToLocals, Value.category]; done) | rfl
theorem rm26_0 (l : Launch) (Z : State) (a0 : Array Value) (hw : HW a0 Z)  (h0 : Heap) (n0 : Nat) (OL0 : Old Z n0 h0)  :
    MF l Z mn26 jdk_29_method_69_code 2 (some .int) ⟨0, 0, 0, 0⟩ #[(.int (10 : Int32)), (.int (2 : Int32))] h0 (QR n0 h0 (some (.int (2 : Int32)))) := by
  refine own_start (Jvm.Free.JP.mathPlain rfl (by decide +kernel)) (fun m => (ef_26_19 m )) ?_
  intro p e s m below meth c s₁ hZ hx hby hml hown hnm hret X0 e0
  have N0 := Fr.nil n0
  refine ⟨some (.int (2 : Int32)), _, _, _, _, _, X0, e0, by decide, nofun, fun fs hr => ?_, ?_⟩
  · refine xiloadN X0 hx hby d26_0 rfl ?_
    show SS p e below s₁ m 1 #[iv (10 : Int32), iv (2 : Int32)] [(.int (10 : Int32))] _
    refine xiloadN X0 hx hby d26_1 rfl ?_
    refine XS.icmpYes X0.here hx rfl (pc0 := 2) (pc' := 9) rfl (hb hby d26_2) rfl (tlt (by decide : (2 : Int32) < (10 : Int32))).2.2.1 (by decide) (by decide) ?_
    refine xiloadN X0 hx hby d26_9 rfl ?_
    show SS p e below s₁ m 10 #[iv (10 : Int32), iv (2 : Int32)] [(.int (2 : Int32))] _
    exact retI X0 hx hret (hb hby d26_10) hr
  · exact ⟨rfl, N0, rfl⟩
theorem cw18 {a0 Z} (hw : HW a0 Z) : CS a0 Z s28 304 mn26 2 (.code mn26 jdk_29_method_69_code 2 (some .int)) :=
  ⟨wx hw 167 rfl, wx hw 168 rfl, wx hw 169 rfl, wx hw 8 rfl, by decide, _, _, pd_7, rfl⟩
theorem d25_35 : DC cb25 35 (.invokestatic 150) 3 := by decide +kernel
theorem d25_38 : DC cb25 38 (.aload_n 3) 1 := by decide +kernel
theorem d25_39 : DC cb25 39 (.areturn) 1 := by decide +kernel
theorem ef_25_20 (m : MethodId) (x0 : Addr) (x2 : Addr) : entryFrame m #[(.ref x0), (.int (2 : Int32)), (.ref x2)] 4 = mkF m 0 #[.val (.ref x0), .val (.int (2 : Int32)), .val (.ref x2), .unset] [] := by first | (simp [entryFrame, mkF, argsToLocals, Value.category]; done) | rfl
theorem pn_8 : plainName "java/util/Arrays" = true := by first | (simp [plainName, overriddenIn]; done) | decide +kernel
theorem rm25_0 (l : Launch) (Z : State) (a0 : Array Value) (hw : HW a0 Z) (a1 w2 a5 a6 : Addr) (k7 : ClassId) (h0 : Heap) (n0 : Nat) (OL0 : Old Z n0 h0) (pr1 : MirM Z s8 w2) (pr2 : Arv Z h0 a1 k7 (.object s20) (10 : Int32) [(.ref a5), (.ref a6), .null, .null, .null, .null, .null, .null, .null, .null] .null) (pr3 : Exa Z h0 a6 s48) (pr4 : Exa Z h0 a5 s48) :
    MF l Z mn25 jdk_65_method_120_code 4 (some (.array (.object s20))) ⟨1, 1, 2, 18⟩ #[(.ref a1), (.int (2 : Int32)), (.ref w2)] h0 (fun v h L => ∃ b4 : Addr, ∃ k4 : ClassId, v = some (.ref b4) ∧ Fr n0 L ∧ Keep h0 h [] ∧ h0.size ≤ b4 ∧ Arv Z h b4 k4 (.object s20) (2 : Int32) [(.ref a5), (.ref a6)] .null ∧ Ovr Z k4 s20 ∧ Exa Z h b4 s8) := by
  refine own_start (plainFor_of_name pn_8) (fun m => (ef_25_20 m a1 w2)) ?_
  intro p e s m below meth c s₁ hZ hx hby hml hown hnm hret X0 e0
  have N0 := Fr.nil n0
  obtain ⟨T3, X3, e3, st3⟩ := own_ldcM X0 hx hZ hown (wd165 hw) e0 pr1 (g := (mkF m 1 #[rv a1, iv (2 : Int32), rv w2, uu] [(.ref w2)])) rfl (hb hby d25_1)
  obtain ⟨T4, h4, k4, X4, e4, E4, A4, AE4, O4, st4⟩ := newRE (ad := s8) X3 hx hZ hown (wd166 hw) (wd112 hw) e3 (g := (mkF m 7 #[rv a1, iv (2 : Int32), rv w2, uu] [(.int (2 : Int32))])) rfl (hb hby d25_7) rfl (by decide) (cap := 2) (by decide) (by decide) (by decide) (by decide) (by decide)
  obtain ⟨b4, g4⟩ : ∃ z, z = h0.size := ⟨_, rfl⟩
  rw [← g4] at A4 AE4 st4
  have V4 : Arv Z h4 b4 k4 (.object s20) (2 : Int32) [.null, .null] .null := (Arv.new A4 (by decide)).pad (pad_rep [] .null 2)
  have g_b4 : n0 ≤ b4 := (Nat.le_trans (Nat.le_trans (Nat.le_of_eq OL0.1.symm) OL0.2.1) (Nat.le_of_eq g4.symm))
  have sz_b4 : h0.size ≤ b4 := (Nat.le_trans (Keep.refl h0 []).1 (Nat.le_of_eq g4.symm))
  have KK4 : Keep h0 h4 [] := (Keep.refl h0 []).ext E4
  have OL4 := OL0.ext E4
  have fc8 := (pr2.ext E4)
  obtain ⟨cl9, Ar9, -, Sz9, Nn9, -, -⟩ := id fc8
  obtain ⟨_, T10, L10, X10, hQ10, st10⟩ := own_cS X4 hx hZ hown hml (cw18 hw) (rm26_0 l Z a0 hw  h4 n0 OL4 ) e4 32 #[rv a1, iv (2 : Int32), rv w2, rv b4] [(.int (10 : Int32)), (.int (2 : Int32))] [(.int (0 : Int32)), (.ref b4), (.int (0 : Int32)), (.ref a1)] 4 rfl (hb hby d25_32) (by decide)
  obtain ⟨rfl, Nq10, ec10⟩ := hQ10
  have N10 := Fr.app N0 Nq10
  obtain ⟨cl11, Ar11, q11, -, -, -, -⟩ := id V4
  have fc12 := (pr3.ext E4)
  have fc13 := (pr4.ext E4)
  obtain ⟨T14, h14, L14, X14, e14, N14, K14, VV14, st14⟩ := cpA X10 hx hZ hown (wd170 hw) (wd173 hw) (wd171 hw) (wd172 hw) ec10 (us := [(.ref a5), (.ref a6)]) fc8 V4 (Or.inr ⟨rfl, rfl, ⟨(Sto.ofV Ar11 q11 O4 (Ins.of_exa fc13 (wd113 hw))), ⟨(Sto.ofV Ar11 q11 O4 (Ins.of_exa fc12 (wd113 hw))), trivial⟩⟩⟩) (by decide) (by decide) (by decide) (by decide) (by decide) rfl (by decide) N10 g_b4 (g := (mkF m 35 #[rv a1, iv (2 : Int32), rv w2, rv b4] [(.int (2 : Int32)), (.int (0 : Int32)), (.ref b4), (.int (0 : Int32)), (.ref a1)])) rfl (by rw [hml]; rfl) rfl (hb hby d25_35) (by decide) (W := 0) (by show 2 * 0 + _ ≤ _; exact Nat.le_of_eq rfl) (by decide)
  have V14 : Arv Z h14 b4 k4 (.object s20) (2 : Int32) [(.ref a5), (.ref a6)] .null := VV14
  have KK14 : Keep h0 h14 [] := KK4.trans K14 (allS (Or.inr sz_b4) all0)
  have fc15 := (AE4.keep K14)
  refine ⟨some (.ref b4), _, _, _, _, _, X14, e14, by decide, nofun, fun fs hr => ?_, ?_⟩
  · refine xaloadN X0 hx hby d25_0 rfl rfl ?_
    show SS p e below s₁ m 1 #[rv a1, iv (2 : Int32), rv w2, uu] [(.ref w2)] _
    refine st3 _ ?_
    refine Jvm.RoadKit.acmp (g := (mkF m 3 #[rv a1, iv (2 : Int32), rv w2, uu] [(.ref w2), (.ref w2)])) X3 hx rfl rfl rfl (pc0 := 3) (pc' := 6) (same := true) rfl (hb hby d25_3) rfl (decide_eq_true rfl) (by decide) (by decide) ?_
    refine xiloadN X3 hx hby d25_6 rfl ?_
    refine st4 _ ?_
    refine XS.goto X4.here hx rfl (pc0 := 10) (pc' := 24) rfl (hb hby d25_10) (by decide) (by decide) ?_
    refine XS.astoreN X4.here hx rfl (hb hby d25_24) rfl rfl (l' := #[rv a1, iv (2 : Int32), rv w2, rv b4]) rfl ?_
    refine xaloadN X4 hx hby d25_25 rfl rfl ?_
    refine XS.iconst X4.here hx rfl (hb hby d25_26) ?_
    refine xaloadN X4 hx hby d25_27 rfl rfl ?_
    refine XS.iconst X4.here hx rfl (hb hby d25_28) ?_
    show SS p e below T4 m 29 #[rv a1, iv (2 : Int32), rv w2, rv b4] [(.int (0 : Int32)), (.ref b4), (.int (0 : Int32)), (.ref a1)] _
    refine xaloadN X4 hx hby d25_29 rfl rfl ?_
    refine X4.arraylength hx (by rw [e4]; exact Ar9.1) (State.isArrayOf_alike hZ.alike Ar9.2.1) (g := (mkF m 30 #[rv a1, iv (2 : Int32), rv w2, rv b4] [(.ref a1), (.int (0 : Int32)), (.ref b4), (.int (0 : Int32)), (.ref a1)])) rfl rfl (hb hby d25_30) _ ?_
    rw [len_of Sz9 Nn9]
    refine xiloadN X4 hx hby d25_31 rfl ?_
    refine st10 _ ?_
    refine st14 _ ?_
    refine xaloadN X14 hx hby d25_38 rfl rfl ?_
    show SS p e below T14 m 39 #[rv a1, iv (2 : Int32), rv w2, rv b4] [(.ref b4)] _
    exact own_retR X14 hx hret rfl rfl rfl (hb hby d25_39) hr
  · exact ⟨b4, k4, rfl, N14, KK14, sz_b4, V14, O4, fc15⟩
theorem pd_13 : parseMethodDescriptor "([Ljava/lang/Object;ILjava/lang/Class;)[Ljava/lang/Object;" = some ⟨[(.array (.object "java/lang/Object")), .int, (.object "java/lang/Class")], some (.array (.object "java/lang/Object"))⟩ := by decide +kernel
theorem cw19 {a0 Z} (hw : HW a0 Z) : CS a0 Z s28 300 mn25 3 (.code mn25 jdk_65_method_120_code 4 (some (.array (.object s20)))) :=
  ⟨wx hw 162 rfl, wx hw 163 rfl, wx hw 164 rfl, wx hw 154 rfl, by decide, _, _, pd_13, rfl⟩
theorem d24_9 : DC cb24 9 (.areturn) 1 := by decide +kernel
theorem ef_24_21 (m : MethodId) (x0 : Addr) : entryFrame m #[(.ref x0), (.int (2 : Int32))] 2 = mkF m 0 #[.val (.ref x0), .val (.int (2 : Int32))] [] := by first | (simp [entryFrame, mkF, argsToLocals, Value.category]; done) | rfl
theorem rm24_0 (l : Launch) (Z : State) (a0 : Array Value) (hw : HW a0 Z) (a1 w2 a4 a5 : Addr) (k6 : ClassId) (h0 : Heap) (n0 : Nat) (OL0 : Old Z n0 h0) (pr1 : MirM Z s8 w2) (pr2 : Exa Z h0 a1 s8) (pr3 : Arv Z h0 a1 k6 (.object s20) (10 : Int32) [(.ref a4), (.ref a5), .null, .null, .null, .null, .null, .null, .null, .null] .null) (pr4 : Exa Z h0 a5 s48) (pr5 : Exa Z h0 a4 s48) :
    MF l Z mn24 jdk_65_method_119_code 2 (some (.array (.object s20))) ⟨2, 1, 2, 33⟩ #[(.ref a1), (.int (2 : Int32))] h0 (fun v h L => ∃ b7_0 : Addr, ∃ kx7_0 : ClassId, v = some (.ref b7_0) ∧ Fr n0 L ∧ Keep h0 h [] ∧ h0.size ≤ b7_0 ∧ Arv Z h b7_0 kx7_0 (.object s20) (2 : Int32) [(.ref a4), (.ref a5)] .null ∧ Ovr Z kx7_0 s20 ∧ Exa Z h b7_0 s8) := by
  refine own_start (plainFor_of_name pn_8) (fun m => (ef_24_21 m a1)) ?_
  intro p e s m below meth c s₁ hZ hx hby hml hown hnm hret X0 e0
  have N0 := Fr.nil n0
  obtain ⟨T3, X3, e3, st3⟩ := own_gcls X0 hx hZ hown (wd156 hw) (wd157 hw) (wd133 hw) (wd159 hw) (wd158 hw) (wd160 hw) e0 pr2 pr1 (g := (mkF m 3 #[rv a1, iv (2 : Int32)] [(.ref a1), (.int (2 : Int32)), (.ref a1)])) rfl (by rw [hml]; rfl) rfl (hb hby d24_3) (by decide) (W := 2) (by show 2 * 0 + _ ≤ _; exact Nat.le_of_eq rfl) (by decide)
  obtain ⟨_, T7, L7, X7, hQ7, st7⟩ := own_cS X3 hx hZ hown hml (cw19 hw) (rm25_0 l Z a0 hw a1 w2 a4 a5 k6 h0 n0 OL0 pr1 pr3 pr4 pr5) e3 6 #[rv a1, iv (2 : Int32)] [(.ref a1), (.int (2 : Int32)), (.ref w2)] [] 0 rfl (hb hby d24_6) (by decide)
  obtain ⟨b7_0, kx7_0, rfl, Nq7, K7, u7_0, u7_1, u7_2, u7_3⟩ := hQ7
  have KK7 : Keep h0 T7.heap [] := (Keep.refl h0 []).trans K7 all0
  have sz_b7_0 : h0.size ≤ b7_0 := Nat.le_trans (Keep.refl h0 []).1 u7_0
  have N7 := Fr.app N0 Nq7
  refine ⟨some (.ref b7_0), _, _, _, _, _, X7, rfl, by decide, nofun, fun fs hr => ?_, ?_⟩
  · refine xaloadN X0 hx hby d24_0 rfl rfl ?_
    show SS p e below s₁ m 1 #[rv a1, iv (2 : Int32)] [(.ref a1)] _
    refine xiloadN X0 hx hby d24_1 rfl ?_
    refine xaloadN X0 hx hby d24_2 rfl rfl ?_
    refine st3 _ ?_
    refine st7 _ ?_
    show SS p e below T7 m 9 #[rv a1, iv (2 : Int32)] [(.ref b7_0)] _
    exact own_retR X7 hx hret rfl rfl rfl (hb hby d24_9) hr
  · exact ⟨b7_0, kx7_0, rfl, N7, KK7, sz_b7_0, u7_1, u7_2, u7_3⟩
theorem pd_14 : parseMethodDescriptor "([Ljava/lang/Object;I)[Ljava/lang/Object;" = some ⟨[(.array (.object "java/lang/Object")), .int], some (.array (.object "java/lang/Object"))⟩ := by decide +kernel
theorem cw20 {a0 Z} (hw : HW a0 Z) : CS a0 Z s26 66 mn24 2 (.code mn24 jdk_65_method_119_code 2 (some (.array (.object s20)))) :=
  ⟨wx hw 152 rfl, wx hw 153 rfl, wx hw 155 rfl, wx hw 154 rfl, by decide, _, _, pd_14, rfl⟩
theorem d23_11 : DC cb23 11 (.areturn) 1 := by decide +kernel
theorem ef_23_22 (m : MethodId) (x0 : Addr) : entryFrame m #[(.ref x0)] 1 = mkF m 0 #[.val (.ref x0)] [] := by first | (simp [entryFrame, mkF, argsToLocals, Value.category]; done) | rfl
theorem rm23_0 (l : Launch) (Z : State) (a0 : Array Value) (hw : HW a0 Z) (a1 a2 w5 a6 a7 : Addr) (k8 : ClassId) (h0 : Heap) (n0 : Nat) (OL0 : Old Z n0 h0) (pr1 : Fld Z h0 a1 s26 s12 s8 (.ref a2)) (pr2 : Fld Z h0 a1 s26 "size" "I" (.int (2 : Int32))) (pr3 : MirM Z s8 w5) (pr4 : Exa Z h0 a2 s8) (pr5 : Arv Z h0 a2 k8 (.object s20) (10 : Int32) [(.ref a6), (.ref a7), .null, .null, .null, .null, .null, .null, .null, .null] .null) (pr6 : Exa Z h0 a7 s48) (pr7 : Exa Z h0 a6 s48) :
    MF l Z mn23 jdk_38_method_16_code 1 (some (.array (.object s20))) ⟨3, 1, 2, 46⟩ #[(.ref a1)] h0 (fun v h L => ∃ b9_0 : Addr, ∃ kx9_0 : ClassId, v = some (.ref b9_0) ∧ Fr n0 L ∧ Keep h0 h [] ∧ h0.size ≤ b9_0 ∧ Arv Z h b9_0 kx9_0 (.object s20) (2 : Int32) [(.ref a6), (.ref a7)] .null ∧ Ovr Z kx9_0 s20 ∧ Exa Z h b9_0 s8) := by
  refine own_start (plainFor_of_name pn_6) (fun m => (ef_23_22 m a1)) ?_
  intro p e s m below meth c s₁ hZ hx hby hml hown hnm hret X0 e0
  have N0 := Fr.nil n0
  obtain ⟨T3, X3, e3, st3⟩ := gF X0 hx hZ hown (wd67 hw) Via.refl e0 pr1 1 #[rv a1] [] (hb hby d23_1)
  obtain ⟨T4, X4, e4, st4⟩ := gF X3 hx hZ hown (wd91 hw) Via.refl e3 pr2 5 #[rv a1] [(.ref a2)] (hb hby d23_5)
  obtain ⟨_, T9, L9, X9, hQ9, st9⟩ := own_cS X4 hx hZ hown hml (cw20 hw) (rm24_0 l Z a0 hw a2 w5 a6 a7 k8 h0 n0 OL0 pr3 pr4 pr5 pr6 pr7) e4 8 #[rv a1] [(.ref a2), (.int (2 : Int32))] [] 0 rfl (hb hby d23_8) (by decide)
  obtain ⟨b9_0, kx9_0, rfl, Nq9, K9, u9_0, u9_1, u9_2, u9_3⟩ := hQ9
  have KK9 : Keep h0 T9.heap [] := (Keep.refl h0 []).trans K9 all0
  have sz_b9_0 : h0.size ≤ b9_0 := Nat.le_trans (Keep.refl h0 []).1 u9_0
  have N9 := Fr.app N0 Nq9
  refine ⟨some (.ref b9_0), _, _, _, _, _, X9, rfl, by decide, nofun, fun fs hr => ?_, ?_⟩
  · refine xaloadN X0 hx hby d23_0 rfl rfl ?_
    show SS p e below s₁ m 1 #[rv a1] [(.ref a1)] _
    refine st3 _ ?_
    refine xaloadN X3 hx hby d23_4 rfl rfl ?_
    refine st4 _ ?_
    refine st9 _ ?_
    show SS p e below T9 m 11 #[rv a1] [(.ref b9_0)] _
    exact own_retR X9 hx hret rfl rfl rfl (hb hby d23_11) hr
  · exact ⟨b9_0, kx9_0, rfl, N9, KK9, sz_b9_0, u9_1, u9_2, u9_3⟩
theorem cw21 {a0 Z} (hw : HW a0 Z) : CI a0 Z s30 30 (⟨s29, "toArray", "()[Ljava/lang/Object;"⟩ : MethodName) mn23 s26 0 (.code mn23 jdk_38_method_16_code 1 (some (.array (.object s20)))) :=
  ⟨wx hw 144 rfl, wx hw 145 rfl, ⟨wx hw 146 rfl, by first | rfl | simp [Cond.onTables, Cond.keepsFace, Cond.keeps, Cond.steady]⟩, wx hw 147 rfl, wx hw 148 rfl, wx hw 149 rfl, wx hw 150 rfl, wx hw 142 rfl, wx hw 151 rfl, wx hw 47 rfl, by decide, _, _, pd_9, rfl⟩
theorem d21_50 : DC cb21 50 (.invokestatic 34) 3 := by decide +kernel
theorem d27_0 : DC cb27 0 (.aload_n 0) 1 := by decide +kernel
theorem d27_1 : DC cb27 1 (.arraylength) 1 := by decide +kernel
theorem d27_2 : DC cb27 2 (.tableswitch 57 0 2 #[26, 32, 43]) 26 := by decide +kernel
theorem d27_45 : DC cb27 45 (.new 96) 3 := by decide +kernel
theorem d27_48 : DC cb27 48 (.dup) 1 := by decide +kernel
theorem d27_49 : DC cb27 49 (.aload_n 0) 1 := by decide +kernel
theorem d27_50 : DC cb27 50 (.iconst 0) 1 := by decide +kernel
theorem d27_51 : DC cb27 51 (.aaload) 1 := by decide +kernel
theorem d27_52 : DC cb27 52 (.aload_n 0) 1 := by decide +kernel
theorem d27_53 : DC cb27 53 (.iconst 1) 1 := by decide +kernel
theorem d27_54 : DC cb27 54 (.aaload) 1 := by decide +kernel
theorem d27_55 : DC cb27 55 (.invokespecial 100) 3 := by decide +kernel
theorem d28_0 : DC cb28 0 (.aload_n 0) 1 := by decide +kernel
theorem d28_1 : DC cb28 1 (.invokespecial 1) 3 := by decide +kernel
theorem d29_0 : DC cb29 0 (.aload_n 0) 1 := by decide +kernel
theorem d29_1 : DC cb29 1 (.invokespecial 1) 3 := by decide +kernel
theorem d30_0 : DC cb30 0 (.aload_n 0) 1 := by decide +kernel
theorem d30_1 : DC cb30 1 (.invokespecial 1) 3 := by decide +kernel
theorem cw22 {a0 Z} (hw : HW a0 Z) : CN a0 Z s31 1 mn11 0 (.code mn11 jdk_22_method_1_code 1 none) :=
  ⟨rfl, wx hw 196 rfl, wx hw 58 rfl, wx hw 62 rfl, wx hw 61 rfl, by decide, _, _, pd_2, rfl⟩
theorem d30_4 : DC cb30 4 (.return_) 1 := by decide +kernel
theorem ef_30_23 (m : MethodId) (x0 : Addr) : entryFrame m #[(.ref x0)] 1 = mkF m 0 #[.val (.ref x0)] [] := by first | (simp [entryFrame, mkF, argsToLocals, Value.category]; done) | rfl
theorem pn_9 : plainName "java/util/ImmutableCollections$AbstractImmutableCollection" = true := by first | (simp [plainName, overriddenIn]; done) | decide +kernel
theorem rm30_0 (l : Launch) (Z : State) (a0 : Array Value) (hw : HW a0 Z) (a1 : Addr) (h0 : Heap) (n0 : Nat) (OL0 : Old Z n0 h0)  :
    MF l Z mn30 jdk_47_method_1_code 1 none ⟨2, 0, 0, 24⟩ #[(.ref a1)] h0 (QR n0 h0 (none)) := by
  refine own_start (plainFor_of_name pn_9) (fun m => (ef_30_23 m a1)) ?_
  intro p e s m below meth c s₁ hZ hx hby hml hown hnm hret X0 e0
  have N0 := Fr.nil n0
  obtain ⟨_, T2, L2, X2, hQ2, st2⟩ := own_cN X0 hx hZ hown hml (cw22 hw) (rm11_0 l Z a0 hw a1 h0 n0 OL0 ) e0 a1 1 #[rv a1] [] [] 0 rfl (hb hby d30_1) (by decide)
  obtain ⟨rfl, Nq2, ec2⟩ := hQ2
  have N2 := Fr.app N0 Nq2
  refine ⟨none, _, _, _, _, _, X2, ec2, by decide, fun _ => rfl, fun fs hr => ?_, ?_⟩
  · refine xaloadN X0 hx hby d30_0 rfl rfl ?_
    show SS p e below s₁ m 1 #[rv a1] [(.ref a1)] _
    refine st2 _ ?_
    show SS p e below T2 m 4 #[rv a1] [] _
    exact X2.returnOut hx hret (hb hby d30_4) hr
  · exact ⟨rfl, N2, rfl⟩
theorem cw23 {a0 Z} (hw : HW a0 Z) : CN a0 Z s32 1 mn30 0 (.code mn30 jdk_47_method_1_code 1 none) :=
  ⟨rfl, wx hw 190 rfl, wx hw 191 rfl, wx hw 195 rfl, wx hw 194 rfl, by decide, _, _, pd_2, rfl⟩
theorem d29_4 : DC cb29 4 (.return_) 1 := by decide +kernel
theorem ef_29_24 (m : MethodId) (x0 : Addr) : entryFrame m #[(.ref x0)] 1 = mkF m 0 #[.val (.ref x0)] [] := by first | (simp [entryFrame, mkF, argsToLocals, Value.category]; done) | rfl
theorem pn_10 : plainName "java/util/ImmutableCollections$AbstractImmutableList" = true := by first | (simp [plainName, overriddenIn]; done) | decide +kernel
theorem rm29_0 (l : Launch) (Z : State) (a0 : Array Value) (hw : HW a0 Z) (a1 : Addr) (h0 : Heap) (n0 : Nat) (OL0 : Old Z n0 h0)  :
    MF l Z mn29 jdk_46_method_1_code 1 none ⟨3, 0, 0, 36⟩ #[(.ref a1)] h0 (QR n0 h0 (none)) := by
  refine own_start (plainFor_of_name pn_10) (fun m => (ef_29_24 m a1)) ?_
  intro p e s m below meth c s₁ hZ hx hby hml hown hnm hret X0 e0
  have N0 := Fr.nil n0
  obtain ⟨_, T2, L2, X2, hQ2, st2⟩ := own_cN X0 hx hZ hown hml (cw23 hw) (rm30_0 l Z a0 hw a1 h0 n0 OL0 ) e0 a1 1 #[rv a1] [] [] 0 rfl (hb hby d29_1) (by decide)
  obtain ⟨rfl, Nq2, ec2⟩ := hQ2
  have N2 := Fr.app N0 Nq2
  refine ⟨none, _, _, _, _, _, X2, ec2, by decide, fun _ => rfl, fun fs hr => ?_, ?_⟩
  · refine xaloadN X0 hx hby d29_0 rfl rfl ?_
    show SS p e below s₁ m 1 #[rv a1] [(.ref a1)] _
    refine st2 _ ?_
    show SS p e below T2 m 4 #[rv a1] [] _
    exact X2.returnOut hx hret (hb hby d29_4) hr
  · exact ⟨rfl, N2, rfl⟩
theorem cw24 {a0 Z} (hw : HW a0 Z) : CN a0 Z s33 1 mn29 0 (.code mn29 jdk_46_method_1_code 1 none) :=
  ⟨rfl, wx hw 184 rfl, wx hw 185 rfl, wx hw 189 rfl, wx hw 188 rfl, by decide, _, _, pd_2, rfl⟩
theorem d28_4 : DC cb28 4 (.aload_n 0) 1 := by decide +kernel
theorem d28_5 : DC cb28 5 (.aload_n 1) 1 := by decide +kernel
theorem d28_6 : DC cb28 6 (.invokestatic 7) 3 := by decide +kernel
theorem d31_0 : DC cb31 0 (.aload_n 0) 1 := by decide +kernel
theorem d31_1 : DC cb31 1 (.ifnonnull 11) 3 := by decide +kernel
theorem d31_12 : DC cb31 12 (.aload_n 0) 1 := by decide +kernel
theorem d31_13 : DC cb31 13 (.areturn) 1 := by decide +kernel
theorem ef_31_25 (m : MethodId) (x0 : Addr) : entryFrame m #[(.ref x0)] 1 = mkF m 0 #[.val (.ref x0)] [] := by first | (simp [entryFrame, mkF, argsToLocals, Value.category]; done) | rfl
theorem rm31_0 (l : Launch) (Z : State) (a0 : Array Value) (hw : HW a0 Z) (a1 : Addr) (h0 : Heap) (n0 : Nat) (OL0 : Old Z n0 h0)  :
    MF l Z mn31 jdk_31_method_10_code 1 (some (.object s20)) ⟨0, 0, 0, 0⟩ #[(.ref a1)] h0 (QR n0 h0 (some (.ref a1))) := by
  refine own_start (plainFor_of_name pn_2) (fun m => (ef_31_25 m a1)) ?_
  intro p e s m below meth c s₁ hZ hx hby hml hown hnm hret X0 e0
  have N0 := Fr.nil n0
  refine ⟨some (.ref a1), _, _, _, _, _, X0, e0, by decide, nofun, fun fs hr => ?_, ?_⟩
  · refine xaloadN X0 hx hby d31_0 rfl rfl ?_
    show SS p e below s₁ m 1 #[rv a1] [(.ref a1)] _
    refine XS.ifnonnullYes X0.here hx rfl (pc0 := 1) (pc' := 12) rfl (hb hby d31_1) rfl (by decide) (by decide) ?_
    refine xaloadN X0 hx hby d31_12 rfl rfl ?_
    show SS p e below s₁ m 13 #[rv a1] [(.ref a1)] _
    exact own_retR X0 hx hret rfl rfl rfl (hb hby d31_13) hr
  · exact ⟨rfl, N0, rfl⟩
theorem pd_15 : parseMethodDescriptor "(Ljava/lang/Object;)Ljava/lang/Object;" = some ⟨[(.object "java/lang/Object")], some (.object "java/lang/Object")⟩ := by decide +kernel
theorem cw25 {a0 Z} (hw : HW a0 Z) : CS a0 Z s33 7 mn31 1 (.code mn31 jdk_31_method_10_code 1 (some (.object s20))) :=
  ⟨wx hw 198 rfl, wx hw 199 rfl, wx hw 200 rfl, wx hw 41 rfl, by decide, _, _, pd_15, rfl⟩
theorem d28_9 : DC cb28 9 (.putfield 13) 3 := by decide +kernel
theorem d28_12 : DC cb28 12 (.aload_n 0) 1 := by decide +kernel
theorem d28_13 : DC cb28 13 (.aload_n 2) 1 := by decide +kernel
theorem d28_14 : DC cb28 14 (.invokestatic 7) 3 := by decide +kernel
theorem d28_17 : DC cb28 17 (.putfield 24) 3 := by decide +kernel
theorem d28_20 : DC cb28 20 (.return_) 1 := by decide +kernel
theorem ef_28_26 (m : MethodId) (x0 : Addr) (x1 : Addr) (x2 : Addr) : entryFrame m #[(.ref x0), (.ref x1), (.ref x2)] 3 = mkF m 0 #[.val (.ref x0), .val (.ref x1), .val (.ref x2)] [] := by first | (simp [entryFrame, mkF, argsToLocals, Value.category]; done) | rfl
theorem pn_11 : plainName "java/util/ImmutableCollections$List12" = true := by first | (simp [plainName, overriddenIn]; done) | decide +kernel
theorem rm28_0 (l : Launch) (Z : State) (a0 : Array Value) (hw : HW a0 Z) (a1 a2 a3 : Addr) (h0 : Heap) (n0 : Nat) (OL0 : Old Z n0 h0) (pr1 : Exa Z h0 a1 s33) (pr2 : Fld Z h0 a1 s33 "e0" s2 .null) (pr3 : n0 ≤ a1) (pr4 : Fld Z h0 a1 s33 "e1" s2 .null) :
    MF l Z mn28 jdk_44_method_2_code 3 none ⟨4, 0, 0, 48⟩ #[(.ref a1), (.ref a2), (.ref a3)] h0 (fun v h L => v = none ∧ Fr n0 L ∧ Keep h0 h [a1] ∧ Fld Z h a1 s33 "e0" s2 (.ref a2) ∧ Fld Z h a1 s33 "e1" s2 (.ref a3)) := by
  refine own_start (plainFor_of_name pn_11) (fun m => (ef_28_26 m a1 a2 a3)) ?_
  intro p e s m below meth c s₁ hZ hx hby hml hown hnm hret X0 e0
  have N0 := Fr.nil n0
  obtain ⟨_, T4, L4, X4, hQ4, st4⟩ := own_cN X0 hx hZ hown hml (cw24 hw) (rm29_0 l Z a0 hw a1 h0 n0 OL0 ) e0 a1 1 #[rv a1, rv a2, rv a3] [] [] 0 rfl (hb hby d28_1) (by decide)
  obtain ⟨rfl, Nq4, ec4⟩ := hQ4
  have N4 := Fr.app N0 Nq4
  obtain ⟨_, T5, L5, X5, hQ5, st5⟩ := own_cS X4 hx hZ hown hml (cw25 hw) (rm31_0 l Z a0 hw a2 h0 n0 OL0 ) ec4 6 #[rv a1, rv a2, rv a3] [(.ref a2)] [(.ref a1)] 1 rfl (hb hby d28_6) (by decide)
  obtain ⟨rfl, Nq5, ec5⟩ := hQ5
  have N5 := Fr.app N4 Nq5
  obtain ⟨T6, h6, X6, e6, W6, st6⟩ := putF X5 hx hZ hown (host := "") (Or.inl (wd201 hw)) Via.refl ec5 pr2 pr1 (Or.inr ⟨(wd202 hw), rfl, hnm⟩) (wd178 hw) (ty := (.object s20)) (by decide) rfl rfl (g := (mkF m 9 #[rv a1, rv a2, rv a3] [(.ref a2), (.ref a1)])) rfl rfl (hb hby d28_9)
  have Fw6 := pr2.same W6
  have KK6 : Keep h0 h6 [a1] := (Keep.refl h0 [a1]).wr W6 (Or.inl (List.mem_of_getElem? (i := 0) rfl))
  have OL6 := OL0.wr W6 pr3
  have N6 := Fr.snoc X6 N5 pr3
  obtain ⟨_, T7, L7, X7, hQ7, st7⟩ := own_cS X6 hx hZ hown hml (cw25 hw) (rm31_0 l Z a0 hw a3 h6 n0 OL6 ) e6 14 #[rv a1, rv a2, rv a3] [(.ref a3)] [(.ref a1)] 1 rfl (hb hby d28_14) (by decide)
  obtain ⟨rfl, Nq7, ec7⟩ := hQ7
  have N7 := Fr.app N6 Nq7
  have fc8 := (pr1.wr W6)
  have fc9 := (pr4.other W6 (Or.inr (slot_ne (Or.inr (wd204 hw)) (Or.inr (wd202 hw)) (by decide) (t := (.object s20)) (t' := (.object s20)) (by decide) (by decide))))
  obtain ⟨T10, h10, X10, e10, W10, st10⟩ := putF X7 hx hZ hown (host := "") (Or.inl (wd203 hw)) Via.refl ec7 fc9 fc8 (Or.inr ⟨(wd204 hw), rfl, hnm⟩) (wd178 hw) (ty := (.object s20)) (by decide) rfl rfl (g := (mkF m 17 #[rv a1, rv a2, rv a3] [(.ref a3), (.ref a1)])) rfl rfl (hb hby d28_17)
  have Fw10 := fc9.same W10
  have KK10 : Keep h0 h10 [a1] := KK6.wr W10 (Or.inl (List.mem_of_getElem? (i := 0) rfl))
  have N10 := Fr.snoc X10 N7 pr3
  have fc11 := (Fw6.other W10 (Or.inr (slot_ne (Or.inr (wd202 hw)) (Or.inr (wd204 hw)) (by decide) (t := (.object s20)) (t' := (.object s20)) (by decide) (by decide))))
  refine ⟨none, _, _, _, _, _, X10, e10, by decide, fun _ => rfl, fun fs hr => ?_, ?_⟩
  · refine xaloadN X0 hx hby d28_0 rfl rfl ?_
    show SS p e below s₁ m 1 #[rv a1, rv a2, rv a3] [(.ref a1)] _
    refine st4 _ ?_
    refine xaloadN X4 hx hby d28_4 rfl rfl ?_
    refine xaloadN X4 hx hby d28_5 rfl rfl ?_
    refine st5 _ ?_
    refine st6 _ ?_
    refine xaloadN X6 hx hby d28_12 rfl rfl ?_
    refine xaloadN X6 hx hby d28_13 rfl rfl ?_
    refine st7 _ ?_
    refine st10 _ ?_
    show SS p e below T10 m 20 #[rv a1, rv a2, rv a3] [] _
    exact X10.returnOut hx hret (hb hby d28_20) hr
  · exact ⟨rfl, N10, KK10, fc11, Fw10⟩
theorem pd_16 : parseMethodDescriptor "(Ljava/lang/Object;Ljava/lang/Object;)V" = some ⟨[(.object "java/lang/Object"), (.object "java/lang/Object")], none⟩ := by decide +kernel
theorem cw26 {a0 Z} (hw : HW a0 Z) : CN a0 Z s37 100 mn28 2 (.code mn28 jdk_44_method_2_code 3 none) :=
  ⟨rfl, wx hw 180 rfl, wx hw 181 rfl, wx hw 183 rfl, wx hw 179 rfl, by decide, _, _, pd_16, rfl⟩
theorem d27_58 : DC cb27 58 (.areturn) 1 := by decide +kernel
theorem ef_27_27 (m : MethodId) (x0 : Addr) : entryFrame m #[(.ref x0)] 2 = mkF m 0 #[.val (.ref x0), .unset] [] := by first | (simp [entryFrame, mkF, argsToLocals, Value.category]; done) | rfl
theorem pn_12 : plainName "java/util/List" = true := by first | (simp [plainName, overriddenIn]; done) | decide +kernel
theorem rm27_0 (l : Launch) (Z : State) (a0 : Array Value) (hw : HW a0 Z) (a1 a2 a3 : Addr) (k4 : ClassId) (h0 : Heap) (n0 : Nat) (OL0 : Old Z n0 h0) (pr1 : Arv Z h0 a1 k4 (.object s20) (2 : Int32) [(.ref a2), (.ref a3)] .null) :
    MF l Z mn27 jdk_40_method_47_code 2 (some (.object s37)) ⟨5, 1, 2, 63⟩ #[(.ref a1)] h0 (fun v h L => ∃ b6 : Addr, v = some (.ref b6) ∧ Fr n0 L ∧ Keep h0 h [] ∧ h0.size ≤ b6 ∧ Exa Z h b6 s33 ∧ Fld Z h b6 s33 "e0" s2 (.ref a2) ∧ Fld Z h b6 s33 "e1" s2 (.ref a3)) := by
  refine own_start (plainFor_of_name pn_12) (fun m => (ef_27_27 m a1)) ?_
  intro p e s m below meth c s₁ hZ hx hby hml hown hnm hret X0 e0
  have N0 := Fr.nil n0
  obtain ⟨cl5, Ar5, -, Sz5, Nn5, -, -⟩ := id pr1
  obtain ⟨T6, h6, X6, e6, E6, A6, D6, -, st6⟩ := newO X0 hx hZ hown (wd177 hw) (wd178 hw) (wd179 hw) e0 (g := (mkF m 45 #[rv a1, uu] [])) rfl (hb hby d27_45) (by decide) (by decide)
  obtain ⟨b6, g6⟩ : ∃ z, z = h0.size := ⟨_, rfl⟩
  rw [← g6] at A6 D6 st6
  have g_b6 : n0 ≤ b6 := (Nat.le_trans (Nat.le_trans (Nat.le_of_eq OL0.1.symm) OL0.2.1) (Nat.le_of_eq g6.symm))
  have sz_b6 : h0.size ≤ b6 := (Nat.le_trans (Keep.refl h0 []).1 (Nat.le_of_eq g6.symm))
  have KK6 : Keep h0 h6 [] := (Keep.refl h0 []).ext E6
  have OL6 := OL0.ext E6
  have F_e0_b6 : Fld Z h6 b6 s33 "e0" s2 .null := D6 (Or.inr (wd202 hw)) (ty := (.object s20)) (by decide)
  have F_e1_b6 : Fld Z h6 b6 s33 "e1" s2 .null := D6 (Or.inr (wd204 hw)) (ty := (.object s20)) (by decide)
  have fc7 := (pr1.ext E6)
  obtain ⟨_, T10, L10, X10, hQ10, st10⟩ := own_cN X6 hx hZ hown hml (cw26 hw) (rm28_0 l Z a0 hw b6 a2 a3 h6 n0 OL6 A6 F_e0_b6 g_b6 F_e1_b6) e6 b6 55 #[rv a1, uu] [(.ref a2), (.ref a3)] [(.ref b6)] 1 rfl (hb hby d27_55) (by decide)
  obtain ⟨rfl, Nq10, K10, u10_0, u10_1⟩ := hQ10
  have KK10 : Keep h0 T10.heap [] := KK6.trans K10 (allS (Or.inr sz_b6) all0)
  have N10 := Fr.app N0 Nq10
  have fc11 := (A6.keep K10)
  refine ⟨some (.ref b6), _, _, _, _, _, X10, rfl, by decide, nofun, fun fs hr => ?_, ?_⟩
  · refine xaloadN X0 hx hby d27_0 rfl rfl ?_
    show SS p e below s₁ m 1 #[rv a1, uu] [(.ref a1)] _
    refine X0.arraylength hx (by rw [e0]; exact Ar5.1) (State.isArrayOf_alike hZ.alike Ar5.2.1) (g := (mkF m 1 #[rv a1, uu] [(.ref a1)])) rfl rfl (hb hby d27_1) _ ?_
    rw [len_of Sz5 Nn5]
    refine XS.tswIn X0.here hx rfl (pc0 := 2) (pc' := 45) (o := 43) rfl (hb hby d27_2) rfl (by decide) (by decide) (by decide) (by decide) ?_
    refine st6 _ ?_
    refine XS.dup X6.here hx rfl (hb hby d27_48) rfl rfl ?_
    refine xaloadN X6 hx hby d27_49 rfl rfl ?_
    refine XS.iconst X6.here hx rfl (hb hby d27_50) ?_
    refine own_laR X6 hx hZ e6 fc7 (v := (.ref a2)) (by decide) rfl rfl (hb hby d27_51) ?_
    refine xaloadN X6 hx hby d27_52 rfl rfl ?_
    refine XS.iconst X6.here hx rfl (hb hby d27_53) ?_
    refine own_laR X6 hx hZ e6 fc7 (v := (.ref a3)) (by decide) rfl rfl (hb hby d27_54) ?_
    show SS p e below T6 m 55 #[rv a1, uu] [(.ref a3), (.ref a2), (.ref b6), (.ref b6)] _
    refine st10 _ ?_
    show SS p e below T10 m 58 #[rv a1, uu] [(.ref b6)] _
    exact own_retR X10 hx hret rfl rfl rfl (hb hby d27_58) hr
  · exact ⟨b6, rfl, N10, KK10, sz_b6, fc11, u10_0, u10_1⟩
theorem pd_17 : parseMethodDescriptor "([Ljava/lang/Object;)Ljava/util/List;" = some ⟨[(.array (.object "java/lang/Object"))], some (.object "java/util/List")⟩ := by decide +kernel
theorem cw27 {a0 Z} (hw : HW a0 Z) : CS a0 Z s30 34 mn27 1 (.code mn27 jdk_40_method_47_code 2 (some (.object s37))) :=
  ⟨wx hw 174 rfl, wx hw 175 rfl, wx hw 176 rfl, wx hw 123 rfl, by decide, _, _, pd_17, rfl⟩
theorem d21_53 : DC cb21 53 (.areturn) 1 := by decide +kernel
theorem ef_21_28 (m : MethodId) (x0 : Addr) : entryFrame m #[(.ref x0)] 2 = mkF m 0 #[.val (.ref x0), .unset] [] := by first | (simp [entryFrame, mkF, argsToLocals, Value.category]; done) | rfl
theorem pn_13 : plainName "java/util/ImmutableCollections" = true := by first | (simp [plainName, overriddenIn]; done) | decide +kernel
theorem rm21_0 (l : Launch) (Z : State) (a0 : Array Value) (hw : HW a0 Z) (a1 a5 w6 a7 a8 : Addr) (k9 : ClassId) (h0 : Heap) (n0 : Nat) (OL0 : Old Z n0 h0) (pr1 : Exa Z h0 a1 s26) (pr2 : Fld Z h0 a1 s26 "size" "I" (.int (2 : Int32))) (pr3 : Fld Z h0 a1 s26 s12 s8 (.ref a5)) (pr4 : MirM Z s8 w6) (pr5 : Exa Z h0 a5 s8) (pr6 : Arv Z h0 a5 k9 (.object s20) (10 : Int32) [(.ref a7), (.ref a8), .null, .null, .null, .null, .null, .null, .null, .null] .null) (pr7 : Exa Z h0 a8 s48) (pr8 : Exa Z h0 a7 s48) :
    MF l Z mn21 jdk_56_method_3_code 2 (some (.object s37)) ⟨6, 2, 4, 76⟩ #[(.ref a1)] h0 (fun v h L => ∃ b11_0 : Addr, v = some (.ref b11_0) ∧ Fr n0 L ∧ Keep h0 h [] ∧ h0.size ≤ b11_0 ∧ Exa Z h b11_0 s33 ∧ Fld Z h b11_0 s33 "e0" s2 (.ref a7) ∧ Fld Z h b11_0 s33 "e1" s2 (.ref a8)) := by
  refine own_start (plainFor_of_name pn_13) (fun m => (ef_21_28 m a1)) ?_
  intro p e s m below meth c s₁ hZ hx hby hml hown hnm hret X0 e0
  have N0 := Fr.nil n0
  obtain ⟨T2, X2, e2, st2⟩ := instNo X0 hx hZ hown (wd129 hw) e0 pr1 (own_no (wd130 hw) (NI.inst (wd178 hw)) (NS.step (wd130 hw) (NS.step (wd131 hw) (NS.step (wd132 hw) (own_root (wd133 hw) (NI.inst (wd178 hw)) (by decide)) (by decide)) (by decide)) (by decide)) (by decide)) (g := (mkF m 1 #[rv a1, uu] [(.ref a1)])) rfl rfl (hb hby d21_1)
  obtain ⟨T3, X3, e3, st3⟩ := instNo X2 hx hZ hown (wd134 hw) e2 pr1 (own_no (wd130 hw) (NI.sel (wd408 hw)) (NS.step (wd130 hw) (NS.step (wd131 hw) (NS.step (wd132 hw) (own_root (wd133 hw) (NI.sel (wd408 hw)) (by decide)) (by decide)) (by decide)) (by decide)) (by decide)) (g := (mkF m 8 #[rv a1, uu] [(.ref a1)])) rfl rfl (hb hby d21_8)
  obtain ⟨_, T4, L4, X4, hQ4, st4⟩ := own_cI X3 hx hZ hown hml (cw17 hw) (rm22_0 l Z a0 hw a1 h0 n0 OL0 pr2) e3 pr1 32 #[rv a1, uu] [] [] 0 rfl (hb hby d21_32) (by decide)
  obtain ⟨rfl, Nq4, ec4⟩ := hQ4
  have N4 := Fr.app N0 Nq4
  obtain ⟨_, T10, L10, X10, hQ10, st10⟩ := own_cI X4 hx hZ hown hml (cw21 hw) (rm23_0 l Z a0 hw a1 a5 w6 a7 a8 k9 h0 n0 OL0 pr3 pr2 pr4 pr5 pr6 pr7 pr8) ec4 pr1 45 #[rv a1, uu] [] [] 0 rfl (hb hby d21_45) (by decide)
  obtain ⟨b10_0, kx10_0, rfl, Nq10, K10, u10_0, u10_1, u10_2, u10_3⟩ := hQ10
  have KK10 : Keep h0 T10.heap [] := (Keep.refl h0 []).trans K10 all0
  have OL10 := OL0.keep K10 all0
  have N10 := Fr.app N4 Nq10
  obtain ⟨_, T11, L11, X11, hQ11, st11⟩ := own_cS X10 hx hZ hown hml (cw27 hw) (rm27_0 l Z a0 hw b10_0 a7 a8 kx10_0 T10.heap n0 OL10 u10_1) rfl 50 #[rv a1, uu] [(.ref b10_0)] [] 0 rfl (hb hby d21_50) (by decide)
  obtain ⟨b11_0, rfl, Nq11, K11, u11_0, u11_1, u11_2, u11_3⟩ := hQ11
  have KK11 : Keep h0 T11.heap [] := KK10.trans K11 all0
  have sz_b11_0 : h0.size ≤ b11_0 := Nat.le_trans KK10.1 u11_0
  have N11 := Fr.app N10 Nq11
  refine ⟨some (.ref b11_0), _, _, _, _, _, X11, rfl, by decide, nofun, fun fs hr => ?_, ?_⟩
  · refine xaloadN X0 hx hby d21_0 rfl rfl ?_
    show SS p e below s₁ m 1 #[rv a1, uu] [(.ref a1)] _
    refine st2 _ ?_
    refine XS.ifNo X2.here hx rfl (hb hby d21_4) rfl ((if0 _ _).trans (teq (rfl : (0 : Int32) = (0 : Int32))).2) ?_
    refine xaloadN X2 hx hby d21_7 rfl rfl ?_
    refine st3 _ ?_
    refine XS.ifYes X3.here hx rfl (pc0 := 11) (pc' := 31) rfl (hb hby d21_11) rfl ((if0 _ _).trans (teq (rfl : (0 : Int32) = (0 : Int32))).1) (by decide) (by decide) ?_
    refine xaloadN X3 hx hby d21_31 rfl rfl ?_
    refine st4 _ ?_
    refine XS.ifYes X4.here hx rfl (pc0 := 37) (pc' := 44) rfl (hb hby d21_37) rfl ((if0 _ _).trans (teq (rfl : (0 : Int32) = (0 : Int32))).1) (by decide) (by decide) ?_
    refine xaloadN X4 hx hby d21_44 rfl rfl ?_
    refine st10 _ ?_
    show SS p e below T10 m 50 #[rv a1, uu] [(.ref b10_0)] _
    refine st11 _ ?_
    show SS p e below T11 m 53 #[rv a1, uu] [(.ref b11_0)] _
    exact own_retR X11 hx hret rfl rfl rfl (hb hby d21_53) hr
  · exact ⟨b11_0, rfl, N11, KK11, sz_b11_0, u11_1, u11_2, u11_3⟩
theorem pd_18 : parseMethodDescriptor "(Ljava/util/Collection;)Ljava/util/List;" = some ⟨[(.object "java/util/Collection")], some (.object "java/util/List")⟩ := by decide +kernel
theorem cw28 {a0 Z} (hw : HW a0 Z) : CS a0 Z s37 112 mn21 1 (.code mn21 jdk_56_method_3_code 2 (some (.object s37))) :=
  ⟨wx hw 125 rfl, wx hw 126 rfl, wx hw 128 rfl, wx hw 127 rfl, by decide, _, _, pd_18, rfl⟩
theorem d20_4 : DC cb20 4 (.areturn) 1 := by decide +kernel
theorem ef_20_29 (m : MethodId) (x0 : Addr) : entryFrame m #[(.ref x0)] 1 = mkF m 0 #[.val (.ref x0)] [] := by first | (simp [entryFrame, mkF, argsToLocals, Value.category]; done) | rfl
theorem rm20_0 (l : Launch) (Z : State) (a0 : Array Value) (hw : HW a0 Z) (a1 a2 w3 a4 a5 : Addr) (k6 : ClassId) (h0 : Heap) (n0 : Nat) (OL0 : Old Z n0 h0) (pr1 : Exa Z h0 a1 s26) (pr2 : Fld Z h0 a1 s26 "size" "I" (.int (2 : Int32))) (pr3 : Fld Z h0 a1 s26 s12 s8 (.ref a2)) (pr4 : MirM Z s8 w3) (pr5 : Exa Z h0 a2 s8) (pr6 : Arv Z h0 a2 k6 (.object s20) (10 : Int32) [(.ref a4), (.ref a5), .null, .null, .null, .null, .null, .null, .null, .null] .null) (pr7 : Exa Z h0 a5 s48) (pr8 : Exa Z h0 a4 s48) :
    MF l Z mn20 jdk_40_method_48_code 1 (some (.object s37)) ⟨7, 2, 4, 89⟩ #[(.ref a1)] h0 (fun v h L => ∃ b7_0 : Addr, v = some (.ref b7_0) ∧ Fr n0 L ∧ Keep h0 h [] ∧ h0.size ≤ b7_0 ∧ Exa Z h b7_0 s33 ∧ Fld Z h b7_0 s33 "e0" s2 (.ref a4) ∧ Fld Z h b7_0 s33 "e1" s2 (.ref a5)) := by
  refine own_start (plainFor_of_name pn_12) (fun m => (ef_20_29 m a1)) ?_
  intro p e s m below meth c s₁ hZ hx hby hml hown hnm hret X0 e0
  have N0 := Fr.nil n0
  obtain ⟨_, T7, L7, X7, hQ7, st7⟩ := own_cS X0 hx hZ hown hml (cw28 hw) (rm21_0 l Z a0 hw a1 a2 w3 a4 a5 k6 h0 n0 OL0 pr1 pr2 pr3 pr4 pr5 pr6 pr7 pr8) e0 1 #[rv a1] [(.ref a1)] [] 0 rfl (hb hby d20_1) (by decide)
  obtain ⟨b7_0, rfl, Nq7, K7, u7_0, u7_1, u7_2, u7_3⟩ := hQ7
  have KK7 : Keep h0 T7.heap [] := (Keep.refl h0 []).trans K7 all0
  have sz_b7_0 : h0.size ≤ b7_0 := Nat.le_trans (Keep.refl h0 []).1 u7_0
  have N7 := Fr.app N0 Nq7
  refine ⟨some (.ref b7_0), _, _, _, _, _, X7, rfl, by decide, nofun, fun fs hr => ?_, ?_⟩
  · refine xaloadN X0 hx hby d20_0 rfl rfl ?_
    show SS p e below s₁ m 1 #[rv a1] [(.ref a1)] _
    refine st7 _ ?_
    show SS p e below T7 m 4 #[rv a1] [(.ref b7_0)] _
    exact own_retR X7 hx hret rfl rfl rfl (hb hby d20_4) hr
  · exact ⟨b7_0, rfl, N7, KK7, sz_b7_0, u7_1, u7_2, u7_3⟩
theorem cw29 {a0 Z} (hw : HW a0 Z) : CS a0 Z s45 7 mn20 1 (.code mn20 jdk_40_method_48_code 1 (some (.object s37))) :=
  ⟨wx hw 121 rfl, wx hw 122 rfl, wx hw 124 rfl, wx hw 123 rfl, by decide, _, _, pd_18, rfl⟩
theorem d19_8 : DC cb19 8 (.astore_n 1) 1 := by decide +kernel
theorem d19_9 : DC cb19 9 (.aload_n 0) 1 := by decide +kernel
theorem d19_10 : DC cb19 10 (.aload_n 1) 1 := by decide +kernel
theorem d19_11 : DC cb19 11 (.putfield 13) 3 := by decide +kernel
theorem d19_14 : DC cb19 14 (.return_) 1 := by decide +kernel
theorem ef_19_30 (m : MethodId) (x0 : Addr) (x1 : Addr) : entryFrame m #[(.ref x0), (.ref x1)] 2 = mkF m 0 #[.val (.ref x0), .val (.ref x1)] [] := by first | (simp [entryFrame, mkF, argsToLocals, Value.category]; done) | rfl
theorem pn_14 : plainName "shadowsift/core/Box" = true := by first | (simp [plainName, overriddenIn]; done) | decide +kernel
theorem rm19_0 (l : Launch) (Z : State) (a0 : Array Value) (hw : HW a0 Z) (a1 a2 a4 w5 a6 a7 : Addr) (k8 : ClassId) (h0 : Heap) (n0 : Nat) (OL0 : Old Z n0 h0) (pr1 : Exa Z h0 a2 s26) (pr2 : Fld Z h0 a2 s26 "size" "I" (.int (2 : Int32))) (pr3 : Fld Z h0 a2 s26 s12 s8 (.ref a4)) (pr4 : MirM Z s8 w5) (pr5 : Exa Z h0 a4 s8) (pr6 : Arv Z h0 a4 k8 (.object s20) (10 : Int32) [(.ref a6), (.ref a7), .null, .null, .null, .null, .null, .null, .null, .null] .null) (pr7 : Exa Z h0 a7 s48) (pr8 : Exa Z h0 a6 s48) (pr9 : Exa Z h0 a1 s45) (pr10 : Fld Z h0 a1 s45 "sets" s6 .null) (pr11 : n0 ≤ a1) :
    MF l Z mn19 prog_26_method_1_code 2 none ⟨8, 2, 4, 101⟩ #[(.ref a1), (.ref a2)] h0 (fun v h L => ∃ b9_0 : Addr, v = none ∧ Fr n0 L ∧ Keep h0 h [a1] ∧ h0.size ≤ b9_0 ∧ Fld Z h a1 s45 "sets" s6 (.ref b9_0) ∧ Exa Z h b9_0 s33 ∧ Fld Z h b9_0 s33 "e0" s2 (.ref a6) ∧ Fld Z h b9_0 s33 "e1" s2 (.ref a7)) := by
  refine own_start (plainFor_of_name pn_14) (fun m => (ef_19_30 m a1 a2)) ?_
  intro p e s m below meth c s₁ hZ hx hby hml hown hnm hret X0 e0
  have N0 := Fr.nil n0
  obtain ⟨_, T3, L3, X3, hQ3, st3⟩ := own_cN X0 hx hZ hown hml (cw16 hw) (rm6_0 l Z a0 hw a1 h0 n0 OL0 ) e0 a1 1 #[rv a1, rv a2] [] [] 0 rfl (hb hby d19_1) (by decide)
  obtain ⟨rfl, Nq3, ec3⟩ := hQ3
  have N3 := Fr.app N0 Nq3
  obtain ⟨_, T9, L9, X9, hQ9, st9⟩ := own_cS X3 hx hZ hown hml (cw29 hw) (rm20_0 l Z a0 hw a2 a4 w5 a6 a7 k8 h0 n0 OL0 pr1 pr2 pr3 pr4 pr5 pr6 pr7 pr8) ec3 5 #[rv a1, rv a2] [(.ref a2)] [] 0 rfl (hb hby d19_5) (by decide)
  obtain ⟨b9_0, rfl, Nq9, K9, u9_0, u9_1, u9_2, u9_3⟩ := hQ9
  have KK9 : Keep h0 T9.heap [a1] := (Keep.refl h0 [a1]).trans K9 all0
  have sz_b9_0 : h0.size ≤ b9_0 := Nat.le_trans (Keep.refl h0 [a1]).1 u9_0
  have N9 := Fr.app N3 Nq9
  have fc10 := (pr9.keep K9)
  have fc11 := (pr10.keep K9 nin0)
  obtain ⟨T12, h12, X12, e12, W12, st12⟩ := putF X9 hx hZ hown (host := "") (Or.inl (wd205 hw)) Via.refl rfl fc11 fc10 (Or.inr ⟨(wd206 hw), rfl, hnm⟩) (wd115 hw) (ty := (.object s37)) (by decide) rfl rfl (g := (mkF m 11 #[rv a1, rv b9_0] [(.ref b9_0), (.ref a1)])) rfl rfl (hb hby d19_11)
  have Fw12 := fc11.same W12
  have KK12 : Keep h0 h12 [a1] := KK9.wr W12 (Or.inl (List.mem_of_getElem? (i := 0) rfl))
  have N12 := Fr.snoc X12 N9 pr11
  have fc13 := (u9_1.wr W12)
  have nz14 := nl pr9.lt sz_b9_0
  have fc15 := (u9_2.other W12 (Or.inl (Ne.symm nz14)))
  have fc16 := (u9_3.other W12 (Or.inl (Ne.symm nz14)))
  refine ⟨none, _, _, _, _, _, X12, e12, by decide, fun _ => rfl, fun fs hr => ?_, ?_⟩
  · refine xaloadN X0 hx hby d19_0 rfl rfl ?_
    show SS p e below s₁ m 1 #[rv a1, rv a2] [(.ref a1)] _
    refine st3 _ ?_
    refine xaloadN X3 hx hby d19_4 rfl rfl ?_
    refine st9 _ ?_
    refine XS.astoreN X9.here hx rfl (hb hby d19_8) rfl rfl (l' := #[rv a1, rv b9_0]) rfl ?_
    refine xaloadN X9 hx hby d19_9 rfl rfl ?_
    refine xaloadN X9 hx hby d19_10 rfl rfl ?_
    refine st12 _ ?_
    show SS p e below T12 m 14 #[rv a1, rv b9_0] [] _
    exact X12.returnOut hx hret (hb hby d19_14) hr
  · exact ⟨b9_0, rfl, N12, KK12, sz_b9_0, Fw12, fc13, fc15, fc16⟩
theorem pd_19 : parseMethodDescriptor "(Ljava/util/List;)V" = some ⟨[(.object "java/util/List")], none⟩ := by decide +kernel
theorem cw30 {a0 Z} (hw : HW a0 Z) : CN a0 Z s44 49 mn19 1 (.code mn19 prog_26_method_1_code 2 none) :=
  ⟨rfl, wx hw 117 rfl, wx hw 118 rfl, wx hw 119 rfl, wx hw 116 rfl, by decide, _, _, pd_19, rfl⟩
theorem rm15_2 (l : Launch) (Z : State) (a0 : Array Value) (hw : HW a0 Z) (a1 a2 w3 : Addr) (k4 : ClassId) (h0 : Heap) (n0 : Nat) (OL0 : Old Z n0 h0) (pr1 : Arv Z Z.heap w3 k4 (.object s20) (0 : Int32) [] .null) (pr2 : Fld Z h0 a1 s26 "size" "I" (.int (0 : Int32))) (pr3 : Fld Z h0 a1 s26 s12 s8 (.ref w3)) (pr4 : Sta Z Z.heap s26 s0 s8 (.ref w3)) (pr5 : Exa Z h0 a1 s26) (pr6 : n0 ≤ a1) (pr7 : Fld Z h0 a1 s25 s41 "I" (.int (1 : Int32))) (pr8 : Exa Z h0 a2 s45) :
    MF l Z mn15 jdk_38_method_24_code 4 none ⟨3, 1, 10, 41⟩ #[(.ref a1), (.ref a2), (.ref w3), (.int (0 : Int32))] h0 (fun v h L => ∃ b6_0 : Addr, ∃ kx6_0 : ClassId, v = none ∧ Fr n0 L ∧ Keep h0 h [a1] ∧ h0.size ≤ b6_0 ∧ Fld Z h a1 s26 "size" "I" (.int (1 : Int32)) ∧ Fld Z h a1 s26 s12 s8 (.ref b6_0) ∧ Fld Z h a1 s25 s41 "I" (.int (1 : Int32)) ∧ Arv Z h b6_0 kx6_0 (.object s20) (10 : Int32) [(.ref a2), .null, .null, .null, .null, .null, .null, .null, .null, .null] .null ∧ Ovr Z kx6_0 s20 ∧ Exa Z h b6_0 s8) := by
  refine own_start (plainFor_of_name pn_6) (fun m => (ef_15_15 m a1 a2 w3)) ?_
  intro p e s m below meth c s₁ hZ hx hby hml hown hnm hret X0 e0
  have N0 := Fr.nil n0
  obtain ⟨cl5, Ar5, -, Sz5, Nn5, -, -⟩ := id (pr1.ext OL0.2)
  obtain ⟨_, T6, L6, X6, hQ6, st6⟩ := own_cP X0 hx hZ hown hml (cw13 hw) (rm16_0 l Z a0 hw a1 w3 k4 h0 n0 OL0 pr2 pr3 pr1 pr4 pr5 pr6 pr7) e0 pr5 7 #[rv a1, rv a2, rv w3, iv (0 : Int32)] [] [] 0 rfl (hb hby d15_7) (by decide)
  obtain ⟨b6_0, kx6_0, rfl, Nq6, K6, u6_0, u6_1, u6_2, u6_3, u6_4, u6_5, u6_6⟩ := hQ6
  have KK6 : Keep h0 T6.heap [a1] := (Keep.refl h0 [a1]).trans K6 (allS (Or.inl (List.mem_of_getElem? (i := 0) rfl)) all0)
  have g_b6_0 : n0 ≤ b6_0 := Nat.le_trans (Nat.le_trans (Nat.le_of_eq OL0.1.symm) OL0.2.1) u6_0
  have sz_b6_0 : h0.size ≤ b6_0 := Nat.le_trans (Keep.refl h0 [a1]).1 u6_0
  have N6 := Fr.app N0 Nq6
  obtain ⟨cl7, Ar7, q7, S7, M7, Hs7, G7⟩ := id u6_4
  have hin7 : ¬ ((0 : Int32) < 0 ∨ cl7.slots.size ≤ ((0 : Int32)).toNatClampNeg) := inb_of S7 ⟨by decide, by decide⟩
  have fc8 := (pr8.keep K6)
  obtain ⟨T9, h9, X9, e9, W9, st9⟩ := stR X6 hx hZ rfl Ar7 (j := (0 : Int32)) hin7 rfl (Sto.ofV Ar7 q7 u6_5 (Ins.of_exa fc8 (wd207 hw))) (g := (mkF m 14 #[rv a1, rv a2, rv b6_0, iv (0 : Int32)] [(.ref a2), (.int (0 : Int32)), (.ref b6_0)])) rfl rfl (hb hby d15_14)
  have V9 : Arv Z h9 b6_0 kx6_0 (.object s20) (10 : Int32) [(.ref a2), .null, .null, .null, .null, .null, .null, .null, .null, .null] .null := Arv.set Ar7 q7 S7 M7 Hs7 G7 rfl W9 0 rfl (Nat.le_of_ble_eq_true rfl)
  have KK9 : Keep h0 h9 [a1] := KK6.wr W9 (Or.inr sz_b6_0)
  have N9 := Fr.snoc X9 N6 g_b6_0
  have fc10 := ((pr5.keep K6).wr W9)
  have nz11 := nl pr7.lt sz_b6_0
  have fc12 := (u6_1.other W9 (Or.inl nz11))
  obtain ⟨T13, h13, X13, e13, W13, st13⟩ := putF X9 hx hZ hown (host := "") (Or.inl (wd91 hw)) Via.refl e9 fc12 fc10 (Or.inl (wd92 hw)) (wd46 hw) (ty := .int) (by decide) rfl rfl (g := (mkF m 19 #[rv a1, rv a2, rv b6_0, iv (0 : Int32)] [(.int (1 : Int32)), (.ref a1)])) rfl rfl (hb hby d15_19)
  have Fw13 := fc12.same W13
  have KK13 : Keep h0 h13 [a1] := KK9.wr W13 (Or.inl (List.mem_of_getElem? (i := 0) rfl))
  have N13 := Fr.snoc X13 N9 pr6
  have fc14 := ((u6_2.other W9 (Or.inl nz11)).other W13 (Or.inr (slot_ne (Or.inl (wd68 hw)) (Or.inl (wd92 hw)) (by decide) (t := (.array (.object s20))) (t' := .int) (by decide) (by decide))))
  have fc15 := ((u6_3.other W9 (Or.inl nz11)).other W13 (Or.inr (slot_ne (Or.inl (wd65 hw)) (Or.inl (wd92 hw)) (by decide) (t := .int) (t' := .int) (by decide) (by decide))))
  have fc16 := (V9.other W13 (Ne.symm nz11))
  have fc17 := ((u6_6.wr W9).wr W13)
  refine ⟨none, _, _, _, _, _, X13, e13, by decide, fun _ => rfl, fun fs hr => ?_, ?_⟩
  · refine xiloadN X0 hx hby d15_0 rfl ?_
    show SS p e below s₁ m 1 #[rv a1, rv a2, rv w3, iv (0 : Int32)] [(.int (0 : Int32))] _
    refine xaloadN X0 hx hby d15_1 rfl rfl ?_
    refine X0.arraylength hx (by rw [e0]; exact Ar5.1) (State.isArrayOf_alike hZ.alike Ar5.2.1) (g := (mkF m 2 #[rv a1, rv a2, rv w3, iv (0 : Int32)] [(.ref w3), (.int (0 : Int32))])) rfl rfl (hb hby d15_2) _ ?_
    rw [len_of Sz5 Nn5]
    refine XS.icmpNo X0.here hx rfl (hb hby d15_3) rfl (teq (rfl : (0 : Int32) = (0 : Int32))).2 ?_
    refine xaloadN X0 hx hby d15_6 rfl rfl ?_
    refine st6 _ ?_
    refine XS.astoreN X6.here hx rfl (hb hby d15_10) rfl rfl (l' := #[rv a1, rv a2, rv b6_0, iv (0 : Int32)]) rfl ?_
    refine xaloadN X6 hx hby d15_11 rfl rfl ?_
    refine xiloadN X6 hx hby d15_12 rfl ?_
    refine xaloadN X6 hx hby d15_13 rfl rfl ?_
    refine st9 _ ?_
    show SS p e below T9 m 15 #[rv a1, rv a2, rv b6_0, iv (0 : Int32)] [] _
    refine xaloadN X9 hx hby d15_15 rfl rfl ?_
    refine xiloadN X9 hx hby d15_16 rfl ?_
    refine XS.iconst X9.here hx rfl (hb hby d15_17) ?_
    refine XS.iadd X9.here hx rfl (hb hby d15_18) rfl ?_
    refine st13 _ ?_
    show SS p e below T13 m 22 #[rv a1, rv a2, rv b6_0, iv (0 : Int32)] [] _
    exact X13.returnOut hx hret (hb hby d15_22) hr
  · exact ⟨b6_0, kx6_0, rfl, N13, KK13, sz_b6_0, Fw13, fc14, fc15, fc16, u6_5, fc17⟩
theorem rm14_2 (l : Launch) (Z : State) (a0 : Array Value) (hw : HW a0 Z) (a1 a2 w5 : Addr) (k10 : ClassId) (h0 : Heap) (n0 : Nat) (OL0 : Old Z n0 h0) (pr1 : Fld Z h0 a1 s25 s41 "I" (.int (0 : Int32))) (pr2 : Exa Z h0 a1 s26) (pr3 : n0 ≤ a1) (pr4 : Fld Z h0 a1 s26 s12 s8 (.ref w5)) (pr5 : Fld Z h0 a1 s26 "size" "I" (.int (0 : Int32))) (pr6 : Arv Z Z.heap w5 k10 (.object s20) (0 : Int32) [] .null) (pr7 : Sta Z Z.heap s26 s0 s8 (.ref w5)) (pr8 : Exa Z h0 a2 s45) :
    MF l Z mn14 jdk_38_method_25_code 2 (some .boolean) ⟨4, 1, 10, 56⟩ #[(.ref a1), (.ref a2)] h0 (fun v h L => ∃ b11_0 : Addr, ∃ kx11_0 : ClassId, v = some (.int (1 : Int32)) ∧ Fr n0 L ∧ Keep h0 h [a1] ∧ h0.size ≤ b11_0 ∧ Fld Z h a1 s25 s41 "I" (.int (1 : Int32)) ∧ Fld Z h a1 s26 s12 s8 (.ref b11_0) ∧ Fld Z h a1 s26 "size" "I" (.int (1 : Int32)) ∧ Arv Z h b11_0 kx11_0 (.object s20) (10 : Int32) [(.ref a2), .null, .null, .null, .null, .null, .null, .null, .null, .null] .null ∧ Ovr Z kx11_0 s20 ∧ Exa Z h b11_0 s8) := by
  refine own_start (plainFor_of_name pn_6) (fun m => (ef_14_16 m a1 a2)) ?_
  intro p e s m below meth c s₁ hZ hx hby hml hown hnm hret X0 e0
  have N0 := Fr.nil n0
  obtain ⟨T3, X3, e3, st3⟩ := gF X0 hx hZ hown (wd89 hw) (Via.of (wd90 hw)) e0 pr1 2 #[rv a1, rv a2] [(.ref a1)] (hb hby d14_2)
  obtain ⟨T4, h4, X4, e4, W4, st4⟩ := putF X3 hx hZ hown (host := "") (Or.inl (wd89 hw)) (Via.of (wd90 hw)) e3 pr1 pr2 (Or.inl (wd65 hw)) (wd46 hw) (ty := .int) (by decide) rfl rfl (g := (mkF m 7 #[rv a1, rv a2] [(.int (1 : Int32)), (.ref a1)])) rfl rfl (hb hby d14_7)
  have Fw4 := pr1.same W4
  have KK4 : Keep h0 h4 [a1] := (Keep.refl h0 [a1]).wr W4 (Or.inl (List.mem_of_getElem? (i := 0) rfl))
  have OL4 := OL0.wr W4 pr3
  have N4 := Fr.snoc X4 N0 pr3
  have fc6 := (pr4.other W4 (Or.inr (slot_ne (Or.inl (wd68 hw)) (Or.inl (wd65 hw)) (by decide) (t := (.array (.object s20))) (t' := .int) (by decide) (by decide))))
  obtain ⟨T7, X7, e7, st7⟩ := gF X4 hx hZ hown (wd67 hw) Via.refl e4 fc6 13 #[rv a1, rv a2] [(.ref a2), (.ref a1)] (hb hby d14_13)
  have fc8 := (pr5.other W4 (Or.inr (slot_ne (Or.inl (wd92 hw)) (Or.inl (wd65 hw)) (by decide) (t := .int) (t' := .int) (by decide) (by decide))))
  obtain ⟨T9, X9, e9, st9⟩ := gF X7 hx hZ hown (wd91 hw) Via.refl e7 fc8 17 #[rv a1, rv a2] [(.ref w5), (.ref a2), (.ref a1)] (hb hby d14_17)
  have fc12 := (pr2.wr W4)
  have fc13 := (pr8.wr W4)
  obtain ⟨_, T11, L11, X11, hQ11, st11⟩ := own_cP X9 hx hZ hown hml (cw14 hw) (rm15_2 l Z a0 hw a1 a2 w5 k10 h4 n0 OL4 pr6 fc8 fc6 pr7 fc12 pr3 Fw4 fc13) e9 fc12 20 #[rv a1, rv a2] [(.ref a2), (.ref w5), (.int (0 : Int32))] [] 0 rfl (hb hby d14_20) (by decide)
  obtain ⟨b11_0, kx11_0, rfl, Nq11, K11, u11_0, u11_1, u11_2, u11_3, u11_4, u11_5, u11_6⟩ := hQ11
  have KK11 : Keep h0 T11.heap [a1] := KK4.trans K11 (allS (Or.inl (List.mem_of_getElem? (i := 0) rfl)) all0)
  have sz_b11_0 : h0.size ≤ b11_0 := Nat.le_trans KK4.1 u11_0
  have N11 := Fr.app N4 Nq11
  refine ⟨some (.int (1 : Int32)), _, _, _, _, _, X11, rfl, by decide, nofun, fun fs hr => ?_, ?_⟩
  · refine xaloadN X0 hx hby d14_0 rfl rfl ?_
    show SS p e below s₁ m 1 #[rv a1, rv a2] [(.ref a1)] _
    refine XS.dup X0.here hx rfl (hb hby d14_1) rfl rfl ?_
    refine st3 _ ?_
    refine XS.iconst X3.here hx rfl (hb hby d14_5) ?_
    refine XS.iadd X3.here hx rfl (hb hby d14_6) rfl ?_
    refine st4 _ ?_
    refine xaloadN X4 hx hby d14_10 rfl rfl ?_
    refine xaloadN X4 hx hby d14_11 rfl rfl ?_
    refine xaloadN X4 hx hby d14_12 rfl rfl ?_
    refine st7 _ ?_
    refine xaloadN X7 hx hby d14_16 rfl rfl ?_
    show SS p e below T7 m 17 #[rv a1, rv a2] [(.ref a1), (.ref w5), (.ref a2), (.ref a1)] _
    refine st9 _ ?_
    refine st11 _ ?_
    refine XS.iconst X11.here hx rfl (hb hby d14_23) ?_
    show SS p e below T11 m 24 #[rv a1, rv a2] [(.int (1 : Int32))] _
    exact retN X11 hx (t := .boolean) hret (by simp) (hb hby d14_24) hr
  · exact ⟨b11_0, kx11_0, rfl, N11, KK11, sz_b11_0, u11_3, u11_2, u11_1, u11_4, u11_5, u11_6⟩
theorem d32_0 : DC cb32 0 (.aload_n 0) 1 := by decide +kernel
theorem d32_1 : DC cb32 1 (.aload_n 1) 1 := by decide +kernel
theorem d32_2 : DC cb32 2 (.invokestatic 34) 3 := by decide +kernel
theorem d33_0 : DC cb33 0 (.new 2) 3 := by decide +kernel
theorem d33_3 : DC cb33 3 (.dup) 1 := by decide +kernel
theorem d33_4 : DC cb33 4 (.aload_n 0) 1 := by decide +kernel
theorem d33_5 : DC cb33 5 (.invokestatic 17) 3 := by decide +kernel
theorem cw31 {a0 Z} (hw : HW a0 Z) : CS a0 Z s39 17 mn31 1 (.code mn31 jdk_31_method_10_code 1 (some (.object s20))) :=
  ⟨wx hw 220 rfl, wx hw 199 rfl, wx hw 200 rfl, wx hw 41 rfl, by decide, _, _, pd_15, rfl⟩
theorem d33_8 : DC cb33 8 (.invokespecial 23) 3 := by decide +kernel
theorem d34_0 : DC cb34 0 (.aload_n 0) 1 := by decide +kernel
theorem d34_1 : DC cb34 1 (.invokespecial 7) 3 := by decide +kernel
theorem d34_4 : DC cb34 4 (.aload_n 0) 1 := by decide +kernel
theorem d34_5 : DC cb34 5 (.aload_n 1) 1 := by decide +kernel
theorem d34_6 : DC cb34 6 (.putfield 13) 3 := by decide +kernel
theorem d34_9 : DC cb34 9 (.return_) 1 := by decide +kernel
theorem ef_34_31 (m : MethodId) (x0 : Addr) (x1 : Addr) : entryFrame m #[(.ref x0), (.ref x1)] 2 = mkF m 0 #[.val (.ref x0), .val (.ref x1)] [] := by first | (simp [entryFrame, mkF, argsToLocals, Value.category]; done) | rfl
theorem pn_15 : plainName "java/util/Optional" = true := by first | (simp [plainName, overriddenIn]; done) | decide +kernel
theorem rm34_0 (l : Launch) (Z : State) (a0 : Array Value) (hw : HW a0 Z) (a1 a2 : Addr) (h0 : Heap) (n0 : Nat) (OL0 : Old Z n0 h0) (pr1 : Exa Z h0 a1 s39) (pr2 : Fld Z h0 a1 s39 "value" s2 .null) (pr3 : n0 ≤ a1) :
    MF l Z mn34 jdk_32_method_2_code 2 none ⟨1, 0, 0, 12⟩ #[(.ref a1), (.ref a2)] h0 (fun v h L => v = none ∧ Fr n0 L ∧ Keep h0 h [a1] ∧ Fld Z h a1 s39 "value" s2 (.ref a2)) := by
  refine own_start (plainFor_of_name pn_15) (fun m => (ef_34_31 m a1 a2)) ?_
  intro p e s m below meth c s₁ hZ hx hby hml hown hnm hret X0 e0
  have N0 := Fr.nil n0
  obtain ⟨T3, X3, e3, st3⟩ := initO X0 hx hZ hown (wd225 hw) (wd36 hw) (wd37 hw) e0 (g := (mkF m 1 #[rv a1, rv a2] [(.ref a1)])) rfl (by rw [hml]; rfl) rfl (hb hby d34_1) (by decide) (W := 0) (by show 2 * 0 + _ ≤ _; exact Nat.le_of_eq rfl) (by decide)
  obtain ⟨T4, h4, X4, e4, W4, st4⟩ := putF X3 hx hZ hown (host := "") (Or.inl (wd226 hw)) Via.refl e3 pr2 pr1 (Or.inr ⟨(wd227 hw), rfl, hnm⟩) (wd219 hw) (ty := (.object s20)) (by decide) rfl rfl (g := (mkF m 6 #[rv a1, rv a2] [(.ref a2), (.ref a1)])) rfl rfl (hb hby d34_6)
  have Fw4 := pr2.same W4
  have KK4 : Keep h0 h4 [a1] := (Keep.refl h0 [a1]).wr W4 (Or.inl (List.mem_of_getElem? (i := 0) rfl))
  have N4 := Fr.snoc X4 N0 pr3
  refine ⟨none, _, _, _, _, _, X4, e4, by decide, fun _ => rfl, fun fs hr => ?_, ?_⟩
  · refine xaloadN X0 hx hby d34_0 rfl rfl ?_
    show SS p e below s₁ m 1 #[rv a1, rv a2] [(.ref a1)] _
    refine st3 _ ?_
    refine xaloadN X3 hx hby d34_4 rfl rfl ?_
    refine xaloadN X3 hx hby d34_5 rfl rfl ?_
    refine st4 _ ?_
    show SS p e below T4 m 9 #[rv a1, rv a2] [] _
    exact X4.returnOut hx hret (hb hby d34_9) hr
  · exact ⟨rfl, N4, KK4, Fw4⟩
theorem pd_20 : parseMethodDescriptor "(Ljava/lang/Object;)V" = some ⟨[(.object "java/lang/Object")], none⟩ := by decide +kernel
theorem cw32 {a0 Z} (hw : HW a0 Z) : CN a0 Z s39 23 mn34 1 (.code mn34 jdk_32_method_2_code 2 none) :=
  ⟨rfl, wx hw 221 rfl, wx hw 222 rfl, wx hw 224 rfl, wx hw 216 rfl, by decide, _, _, pd_20, rfl⟩
theorem d33_11 : DC cb33 11 (.areturn) 1 := by decide +kernel
theorem ef_33_32 (m : MethodId) (x0 : Addr) : entryFrame m #[(.ref x0)] 1 = mkF m 0 #[.val (.ref x0)] [] := by first | (simp [entryFrame, mkF, argsToLocals, Value.category]; done) | rfl
theorem rm33_0 (l : Launch) (Z : State) (a0 : Array Value) (hw : HW a0 Z) (a1 : Addr) (h0 : Heap) (n0 : Nat) (OL0 : Old Z n0 h0)  :
    MF l Z mn33 jdk_32_method_3_code 1 (some (.object s39)) ⟨2, 1, 1, 26⟩ #[(.ref a1)] h0 (fun v h L => ∃ b2 : Addr, v = some (.ref b2) ∧ Fr n0 L ∧ Keep h0 h [] ∧ h0.size ≤ b2 ∧ Exa Z h b2 s39 ∧ Fld Z h b2 s39 "value" s2 (.ref a1)) := by
  refine own_start (plainFor_of_name pn_15) (fun m => (ef_33_32 m a1)) ?_
  intro p e s m below meth c s₁ hZ hx hby hml hown hnm hret X0 e0
  have N0 := Fr.nil n0
  obtain ⟨T2, h2, X2, e2, E2, A2, D2, -, st2⟩ := newO X0 hx hZ hown (wd218 hw) (wd219 hw) (wd216 hw) e0 (g := (mkF m 0 #[rv a1] [])) rfl (hb hby d33_0) (by decide) (by decide)
  obtain ⟨b2, g2⟩ : ∃ z, z = h0.size := ⟨_, rfl⟩
  rw [← g2] at A2 D2 st2
  have g_b2 : n0 ≤ b2 := (Nat.le_trans (Nat.le_trans (Nat.le_of_eq OL0.1.symm) OL0.2.1) (Nat.le_of_eq g2.symm))
  have sz_b2 : h0.size ≤ b2 := (Nat.le_trans (Keep.refl h0 []).1 (Nat.le_of_eq g2.symm))
  have KK2 : Keep h0 h2 [] := (Keep.refl h0 []).ext E2
  have OL2 := OL0.ext E2
  have F_value_b2 : Fld Z h2 b2 s39 "value" s2 .null := D2 (Or.inr (wd227 hw)) (ty := (.object s20)) (by decide)
  obtain ⟨_, T3, L3, X3, hQ3, st3⟩ := own_cS X2 hx hZ hown hml (cw31 hw) (rm31_0 l Z a0 hw a1 h2 n0 OL2 ) e2 5 #[rv a1] [(.ref a1)] [(.ref b2), (.ref b2)] 2 rfl (hb hby d33_5) (by decide)
  obtain ⟨rfl, Nq3, ec3⟩ := hQ3
  have N3 := Fr.app N0 Nq3
  obtain ⟨_, T4, L4, X4, hQ4, st4⟩ := own_cN X3 hx hZ hown hml (cw32 hw) (rm34_0 l Z a0 hw b2 a1 h2 n0 OL2 A2 F_value_b2 g_b2) ec3 b2 8 #[rv a1] [(.ref a1)] [(.ref b2)] 1 rfl (hb hby d33_8) (by decide)
  obtain ⟨rfl, Nq4, K4, u4_0⟩ := hQ4
  have KK4 : Keep h0 T4.heap [] := KK2.trans K4 (allS (Or.inr sz_b2) all0)
  have N4 := Fr.app N3 Nq4
  have fc5 := (A2.keep K4)
  refine ⟨some (.ref b2), _, _, _, _, _, X4, rfl, by decide, nofun, fun fs hr => ?_, ?_⟩
  · refine st2 _ ?_
    show SS p e below T2 m 3 #[rv a1] [(.ref b2)] _
    refine XS.dup X2.here hx rfl (hb hby d33_3) rfl rfl ?_
    refine xaloadN X2 hx hby d33_4 rfl rfl ?_
    refine st3 _ ?_
    refine st4 _ ?_
    show SS p e below T4 m 11 #[rv a1] [(.ref b2)] _
    exact own_retR X4 hx hret rfl rfl rfl (hb hby d33_11) hr
  · exact ⟨b2, rfl, N4, KK4, sz_b2, fc5, u4_0⟩
theorem pd_21 : parseMethodDescriptor "(Ljava/lang/Object;)Ljava/util/Optional;" = some ⟨[(.object "java/lang/Object")], some (.object "java/util/Optional")⟩ := by decide +kernel
theorem cw33 {a0 Z} (hw : HW a0 Z) : CS a0 Z s47 34 mn33 1 (.code mn33 jdk_32_method_3_code 1 (some (.object s39))) :=
  ⟨wx hw 214 rfl, wx hw 215 rfl, wx hw 217 rfl, wx hw 216 rfl, by decide, _, _, pd_21, rfl⟩
theorem d32_5 : DC cb32 5 (.aload_n 2) 1 := by decide +kernel
theorem d32_6 : DC cb32 6 (.iconst 1) 1 := by decide +kernel
theorem d32_7 : DC cb32 7 (.invokespecial 40) 3 := by decide +kernel
theorem d35_0 : DC cb35 0 (.aload_n 0) 1 := by decide +kernel
theorem d35_1 : DC cb35 1 (.invokespecial 1) 3 := by decide +kernel
theorem cw34 {a0 Z} (hw : HW a0 Z) : CN a0 Z s47 1 mn6 0 (.code mn6 jdk_30_method_1_code 1 none) :=
  ⟨rfl, wx hw 231 rfl, wx hw 31 rfl, wx hw 34 rfl, wx hw 33 rfl, by decide, _, _, pd_2, rfl⟩
theorem d35_4 : DC cb35 4 (.aload_n 1) 1 := by decide +kernel
theorem d35_5 : DC cb35 5 (.ldc 7) 2 := by decide +kernel
theorem d35_7 : DC cb35 7 (.invokestatic 9) 3 := by decide +kernel
theorem cw35 {a0 Z} (hw : HW a0 Z) : CS a0 Z s47 9 mn8 2 (.code mn8 jdk_31_method_11_code 2 (some (.object s20))) :=
  ⟨wx hw 233 rfl, wx hw 40 rfl, wx hw 42 rfl, wx hw 41 rfl, by decide, _, _, pd_3, rfl⟩
theorem d35_10 : DC cb35 10 (.pop) 1 := by decide +kernel
theorem d35_11 : DC cb35 11 (.aload_n 2) 1 := by decide +kernel
theorem d35_12 : DC cb35 12 (.invokestatic 15) 3 := by decide +kernel
theorem rm22_1 (l : Launch) (Z : State) (a0 : Array Value) (hw : HW a0 Z) (a1 : Addr) (h0 : Heap) (n0 : Nat) (OL0 : Old Z n0 h0) (pr1 : Fld Z h0 a1 s26 "size" "I" (.int (1 : Int32))) :
    MF l Z mn22 jdk_38_method_9_code 1 (some .boolean) ⟨0, 0, 0, 0⟩ #[(.ref a1)] h0 (QR n0 h0 (some (.int (0 : Int32)))) := by
  refine own_start (plainFor_of_name pn_6) (fun m => (ef_22_18 m a1)) ?_
  intro p e s m below meth c s₁ hZ hx hby hml hown hnm hret X0 e0
  have N0 := Fr.nil n0
  obtain ⟨T2, X2, e2, st2⟩ := gF X0 hx hZ hown (wd91 hw) Via.refl e0 pr1 1 #[rv a1] [] (hb hby d22_1)
  refine ⟨some (.int (0 : Int32)), _, _, _, _, _, X2, e2, by decide, nofun, fun fs hr => ?_, ?_⟩
  · refine xaloadN X0 hx hby d22_0 rfl rfl ?_
    show SS p e below s₁ m 1 #[rv a1] [(.ref a1)] _
    refine st2 _ ?_
    refine XS.ifYes X2.here hx rfl (pc0 := 4) (pc' := 11) rfl (hb hby d22_4) rfl ((if0 _ _).trans (feq (by decide : ¬ ((1 : Int32) = (0 : Int32)))).2) (by decide) (by decide) ?_
    refine XS.iconst X2.here hx rfl (hb hby d22_11) ?_
    show SS p e below T2 m 12 #[rv a1] [(.int (0 : Int32))] _
    exact retN X2 hx (t := .boolean) hret (by simp) (hb hby d22_12) hr
  · exact ⟨rfl, N0, rfl⟩
theorem ef_26_33 (m : MethodId)  : entryFrame m #[(.int (10 : Int32)), (.int (1 : Int32))] 2 = mkF m 0 #[.val (.int (10 : Int32)), .val (.int (1 : Int32))] [] := by first | (simp [entryFrame, mkF, argsToLocals, Value.category]; done) | rfl
theorem rm26_1 (l : Launch) (Z : State) (a0 : Array Value) (hw : HW a0 Z)  (h0 : Heap) (n0 : Nat) (OL0 : Old Z n0 h0)  :
    MF l Z mn26 jdk_29_method_69_code 2 (some .int) ⟨0, 0, 0, 0⟩ #[(.int (10 : Int32)), (.int (1 : Int32))] h0 (QR n0 h0 (some (.int (1 : Int32)))) := by
  refine own_start (Jvm.Free.JP.mathPlain rfl (by decide +kernel)) (fun m => (ef_26_33 m )) ?_
  intro p e s m below meth c s₁ hZ hx hby hml hown hnm hret X0 e0
  have N0 := Fr.nil n0
  refine ⟨some (.int (1 : Int32)), _, _, _, _, _, X0, e0, by decide, nofun, fun fs hr => ?_, ?_⟩
  · refine xiloadN X0 hx hby d26_0 rfl ?_
    show SS p e below s₁ m 1 #[iv (10 : Int32), iv (1 : Int32)] [(.int (10 : Int32))] _
    refine xiloadN X0 hx hby d26_1 rfl ?_
    refine XS.icmpYes X0.here hx rfl (pc0 := 2) (pc' := 9) rfl (hb hby d26_2) rfl (tlt (by decide : (1 : Int32) < (10 : Int32))).2.2.1 (by decide) (by decide) ?_
    refine xiloadN X0 hx hby d26_9 rfl ?_
    show SS p e below s₁ m 10 #[iv (10 : Int32), iv (1 : Int32)] [(.int (1 : Int32))] _
    exact retI X0 hx hret (hb hby d26_10) hr
  · exact ⟨rfl, N0, rfl⟩
theorem ef_25_34 (m : MethodId) (x0 : Addr) (x2 : Addr) : entryFrame m #[(.ref x0), (.int (1 : Int32)), (.ref x2)] 4 = mkF m 0 #[.val (.ref x0), .val (.int (1 : Int32)), .val (.ref x2), .unset] [] := by first | (simp [entryFrame, mkF, argsToLocals, Value.category]; done) | rfl
theorem rm25_1 (l : Launch) (Z : State) (a0 : Array Value) (hw : HW a0 Z) (a1 w2 a5 : Addr) (k6 : ClassId) (h0 : Heap) (n0 : Nat) (OL0 : Old Z n0 h0) (pr1 : MirM Z s8 w2) (pr2 : Arv Z h0 a1 k6 (.object s20) (10 : Int32) [(.ref a5), .null, .null, .null, .null, .null, .null, .null, .null, .null] .null) (pr3 : Exa Z h0 a5 s45) :
    MF l Z mn25 jdk_65_method_120_code 4 (some (.array (.object s20))) ⟨1, 1, 1, 18⟩ #[(.ref a1), (.int (1 : Int32)), (.ref w2)] h0 (fun v h L => ∃ b4 : Addr, ∃ k4 : ClassId, v = some (.ref b4) ∧ Fr n0 L ∧ Keep h0 h [] ∧ h0.size ≤ b4 ∧ Arv Z h b4 k4 (.object s20) (1 : Int32) [(.ref a5)] .null ∧ Ovr Z k4 s20 ∧ Exa Z h b4 s8) := by
  refine own_start (plainFor_of_name pn_8) (fun m => (ef_25_34 m a1 w2)) ?_
  intro p e s m below meth c s₁ hZ hx hby hml hown hnm hret X0 e0
  have N0 := Fr.nil n0
  obtain ⟨T3, X3, e3, st3⟩ := own_ldcM X0 hx hZ hown (wd165 hw) e0 pr1 (g := (mkF m 1 #[rv a1, iv (1 : Int32), rv w2, uu] [(.ref w2)])) rfl (hb hby d25_1)
  obtain ⟨T4, h4, k4, X4, e4, E4, A4, AE4, O4, st4⟩ := newRE (ad := s8) X3 hx hZ hown (wd166 hw) (wd112 hw) e3 (g := (mkF m 7 #[rv a1, iv (1 : Int32), rv w2, uu] [(.int (1 : Int32))])) rfl (hb hby d25_7) rfl (by decide) (cap := 1) (by decide) (by decide) (by decide) (by decide) (by decide)
  obtain ⟨b4, g4⟩ : ∃ z, z = h0.size := ⟨_, rfl⟩
  rw [← g4] at A4 AE4 st4
  have V4 : Arv Z h4 b4 k4 (.object s20) (1 : Int32) [.null] .null := (Arv.new A4 (by decide)).pad (pad_rep [] .null 1)
  have g_b4 : n0 ≤ b4 := (Nat.le_trans (Nat.le_trans (Nat.le_of_eq OL0.1.symm) OL0.2.1) (Nat.le_of_eq g4.symm))
  have sz_b4 : h0.size ≤ b4 := (Nat.le_trans (Keep.refl h0 []).1 (Nat.le_of_eq g4.symm))
  have KK4 : Keep h0 h4 [] := (Keep.refl h0 []).ext E4
  have OL4 := OL0.ext E4
  have fc7 := (pr2.ext E4)
  obtain ⟨cl8, Ar8, -, Sz8, Nn8, -, -⟩ := id fc7
  obtain ⟨_, T9, L9, X9, hQ9, st9⟩ := own_cS X4 hx hZ hown hml (cw18 hw) (rm26_1 l Z a0 hw  h4 n0 OL4 ) e4 32 #[rv a1, iv (1 : Int32), rv w2, rv b4] [(.int (10 : Int32)), (.int (1 : Int32))] [(.int (0 : Int32)), (.ref b4), (.int (0 : Int32)), (.ref a1)] 4 rfl (hb hby d25_32) (by decide)
  obtain ⟨rfl, Nq9, ec9⟩ := hQ9
  have N9 := Fr.app N0 Nq9
  obtain ⟨cl10, Ar10, q10, -, -, -, -⟩ := id V4
  have fc11 := (pr3.ext E4)
  obtain ⟨T12, h12, L12, X12, e12, N12, K12, VV12, st12⟩ := cpA X9 hx hZ hown (wd170 hw) (wd173 hw) (wd171 hw) (wd172 hw) ec9 (us := [(.ref a5)]) fc7 V4 (Or.inr ⟨rfl, rfl, ⟨(Sto.ofV Ar10 q10 O4 (Ins.of_exa fc11 (wd207 hw))), trivial⟩⟩) (by decide) (by decide) (by decide) (by decide) (by decide) rfl (by decide) N9 g_b4 (g := (mkF m 35 #[rv a1, iv (1 : Int32), rv w2, rv b4] [(.int (1 : Int32)), (.int (0 : Int32)), (.ref b4), (.int (0 : Int32)), (.ref a1)])) rfl (by rw [hml]; rfl) rfl (hb hby d25_35) (by decide) (W := 0) (by show 2 * 0 + _ ≤ _; exact Nat.le_of_eq rfl) (by decide)
  have V12 : Arv Z h12 b4 k4 (.object s20) (1 : Int32) [(.ref a5)] .null := VV12
  have KK12 : Keep h0 h12 [] := KK4.trans K12 (allS (Or.inr sz_b4) all0)
  have fc13 := (AE4.keep K12)
  refine ⟨some (.ref b4), _, _, _, _, _, X12, e12, by decide, nofun, fun fs hr => ?_, ?_⟩
  · refine xaloadN X0 hx hby d25_0 rfl rfl ?_
    show SS p e below s₁ m 1 #[rv a1, iv (1 : Int32), rv w2, uu] [(.ref w2)] _
    refine st3 _ ?_
    refine Jvm.RoadKit.acmp (g := (mkF m 3 #[rv a1, iv (1 : Int32), rv w2, uu] [(.ref w2), (.ref w2)])) X3 hx rfl rfl rfl (pc0 := 3) (pc' := 6) (same := true) rfl (hb hby d25_3) rfl (decide_eq_true rfl) (by decide) (by decide) ?_
    refine xiloadN X3 hx hby d25_6 rfl ?_
    refine st4 _ ?_
    refine XS.goto X4.here hx rfl (pc0 := 10) (pc' := 24) rfl (hb hby d25_10) (by decide) (by decide) ?_
    refine XS.astoreN X4.here hx rfl (hb hby d25_24) rfl rfl (l' := #[rv a1, iv (1 : Int32), rv w2, rv b4]) rfl ?_
    refine xaloadN X4 hx hby d25_25 rfl rfl ?_
    refine XS.iconst X4.here hx rfl (hb hby d25_26) ?_
    refine xaloadN X4 hx hby d25_27 rfl rfl ?_
    refine XS.iconst X4.here hx rfl (hb hby d25_28) ?_
    show SS p e below T4 m 29 #[rv a1, iv (1 : Int32), rv w2, rv b4] [(.int (0 : Int32)), (.ref b4), (.int (0 : Int32)), (.ref a1)] _
    refine xaloadN X4 hx hby d25_29 rfl rfl ?_
    refine X4.arraylength hx (by rw [e4]; exact Ar8.1) (State.isArrayOf_alike hZ.alike Ar8.2.1) (g := (mkF m 30 #[rv a1, iv (1 : Int32), rv w2, rv b4] [(.ref a1), (.int (0 : Int32)), (.ref b4), (.int (0 : Int32)), (.ref a1)])) rfl rfl (hb hby d25_30) _ ?_
    rw [len_of Sz8 Nn8]
    refine xiloadN X4 hx hby d25_31 rfl ?_
    refine st9 _ ?_
    refine st12 _ ?_
    refine xaloadN X12 hx hby d25_38 rfl rfl ?_
    show SS p e below T12 m 39 #[rv a1, iv (1 : Int32), rv w2, rv b4] [(.ref b4)] _
    exact own_retR X12 hx hret rfl rfl rfl (hb hby d25_39) hr
  · exact ⟨b4, k4, rfl, N12, KK12, sz_b4, V12, O4, fc13⟩
theorem ef_24_35 (m : MethodId) (x0 : Addr) : entryFrame m #[(.ref x0), (.int (1 : Int32))] 2 = mkF m 0 #[.val (.ref x0), .val (.int (1 : Int32))] [] := by first | (simp [entryFrame, mkF, argsToLocals, Value.category]; done) | rfl
theorem rm24_1 (l : Launch) (Z : State) (a0 : Array Value) (hw : HW a0 Z) (a1 w2 a4 : Addr) (k5 : ClassId) (h0 : Heap) (n0 : Nat) (OL0 : Old Z n0 h0) (pr1 : MirM Z s8 w2) (pr2 : Exa Z h0 a1 s8) (pr3 : Arv Z h0 a1 k5 (.object s20) (10 : Int32) [(.ref a4), .null, .null, .null, .null, .null, .null, .null, .null, .null] .null) (pr4 : Exa Z h0 a4 s45) :
    MF l Z mn24 jdk_65_method_119_code 2 (some (.array (.object s20))) ⟨2, 1, 1, 33⟩ #[(.ref a1), (.int (1 : Int32))] h0 (fun v h L => ∃ b6_0 : Addr, ∃ kx6_0 : ClassId, v = some (.ref b6_0) ∧ Fr n0 L ∧ Keep h0 h [] ∧ h0.size ≤ b6_0 ∧ Arv Z h b6_0 kx6_0 (.object s20) (1 : Int32) [(.ref a4)] .null ∧ Ovr Z kx6_0 s20 ∧ Exa Z h b6_0 s8) := by
  refine own_start (plainFor_of_name pn_8) (fun m => (ef_24_35 m a1)) ?_
  intro p e s m below meth c s₁ hZ hx hby hml hown hnm hret X0 e0
  have N0 := Fr.nil n0
  obtain ⟨T3, X3, e3, st3⟩ := own_gcls X0 hx hZ hown (wd156 hw) (wd157 hw) (wd133 hw) (wd159 hw) (wd158 hw) (wd160 hw) e0 pr2 pr1 (g := (mkF m 3 #[rv a1, iv (1 : Int32)] [(.ref a1), (.int (1 : Int32)), (.ref a1)])) rfl (by rw [hml]; rfl) rfl (hb hby d24_3) (by decide) (W := 2) (by show 2 * 0 + _ ≤ _; exact Nat.le_of_eq rfl) (by decide)
  obtain ⟨_, T6, L6, X6, hQ6, st6⟩ := own_cS X3 hx hZ hown hml (cw19 hw) (rm25_1 l Z a0 hw a1 w2 a4 k5 h0 n0 OL0 pr1 pr3 pr4) e3 6 #[rv a1, iv (1 : Int32)] [(.ref a1), (.int (1 : Int32)), (.ref w2)] [] 0 rfl (hb hby d24_6) (by decide)
  obtain ⟨b6_0, kx6_0, rfl, Nq6, K6, u6_0, u6_1, u6_2, u6_3⟩ := hQ6
  have KK6 : Keep h0 T6.heap [] := (Keep.refl h0 []).trans K6 all0
  have sz_b6_0 : h0.size ≤ b6_0 := Nat.le_trans (Keep.refl h0 []).1 u6_0
  have N6 := Fr.app N0 Nq6
  refine ⟨some (.ref b6_0), _, _, _, _, _, X6, rfl, by decide, nofun, fun fs hr => ?_, ?_⟩
  · refine xaloadN X0 hx hby d24_0 rfl rfl ?_
    show SS p e below s₁ m 1 #[rv a1, iv (1 : Int32)] [(.ref a1)] _
    refine xiloadN X0 hx hby d24_1 rfl ?_
    refine xaloadN X0 hx hby d24_2 rfl rfl ?_
    refine st3 _ ?_
    refine st6 _ ?_
    show SS p e below T6 m 9 #[rv a1, iv (1 : Int32)] [(.ref b6_0)] _
    exact own_retR X6 hx hret rfl rfl rfl (hb hby d24_9) hr
  · exact ⟨b6_0, kx6_0, rfl, N6, KK6, sz_b6_0, u6_1, u6_2, u6_3⟩
theorem rm23_1 (l : Launch) (Z : State) (a0 : Array Value) (hw : HW a0 Z) (a1 a2 w5 a6 : Addr) (k7 : ClassId) (h0 : Heap) (n0 : Nat) (OL0 : Old Z n0 h0) (pr1 : Fld Z h0 a1 s26 s12 s8 (.ref a2)) (pr2 : Fld Z h0 a1 s26 "size" "I" (.int (1 : Int32))) (pr3 : MirM Z s8 w5) (pr4 : Exa Z h0 a2 s8) (pr5 : Arv Z h0 a2 k7 (.object s20) (10 : Int32) [(.ref a6), .null, .null, .null, .null, .null, .null, .null, .null, .null] .null) (pr6 : Exa Z h0 a6 s45) :
    MF l Z mn23 jdk_38_method_16_code 1 (some (.array (.object s20))) ⟨3, 1, 1, 46⟩ #[(.ref a1)] h0 (fun v h L => ∃ b8_0 : Addr, ∃ kx8_0 : ClassId, v = some (.ref b8_0) ∧ Fr n0 L ∧ Keep h0 h [] ∧ h0.size ≤ b8_0 ∧ Arv Z h b8_0 kx8_0 (.object s20) (1 : Int32) [(.ref a6)] .null ∧ Ovr Z kx8_0 s20 ∧ Exa Z h b8_0 s8) := by
  refine own_start (plainFor_of_name pn_6) (fun m => (ef_23_22 m a1)) ?_
  intro p e s m below meth c s₁ hZ hx hby hml hown hnm hret X0 e0
  have N0 := Fr.nil n0
  obtain ⟨T3, X3, e3, st3⟩ := gF X0 hx hZ hown (wd67 hw) Via.refl e0 pr1 1 #[rv a1] [] (hb hby d23_1)
  obtain ⟨T4, X4, e4, st4⟩ := gF X3 hx hZ hown (wd91 hw) Via.refl e3 pr2 5 #[rv a1] [(.ref a2)] (hb hby d23_5)
  obtain ⟨_, T8, L8, X8, hQ8, st8⟩ := own_cS X4 hx hZ hown hml (cw20 hw) (rm24_1 l Z a0 hw a2 w5 a6 k7 h0 n0 OL0 pr3 pr4 pr5 pr6) e4 8 #[rv a1] [(.ref a2), (.int (1 : Int32))] [] 0 rfl (hb hby d23_8) (by decide)
  obtain ⟨b8_0, kx8_0, rfl, Nq8, K8, u8_0, u8_1, u8_2, u8_3⟩ := hQ8
  have KK8 : Keep h0 T8.heap [] := (Keep.refl h0 []).trans K8 all0
  have sz_b8_0 : h0.size ≤ b8_0 := Nat.le_trans (Keep.refl h0 []).1 u8_0
  have N8 := Fr.app N0 Nq8
  refine ⟨some (.ref b8_0), _, _, _, _, _, X8, rfl, by decide, nofun, fun fs hr => ?_, ?_⟩
  · refine xaloadN X0 hx hby d23_0 rfl rfl ?_
    show SS p e below s₁ m 1 #[rv a1] [(.ref a1)] _
    refine st3 _ ?_
    refine xaloadN X3 hx hby d23_4 rfl rfl ?_
    refine st4 _ ?_
    refine st8 _ ?_
    show SS p e below T8 m 11 #[rv a1] [(.ref b8_0)] _
    exact own_retR X8 hx hret rfl rfl rfl (hb hby d23_11) hr
  · exact ⟨b8_0, kx8_0, rfl, N8, KK8, sz_b8_0, u8_1, u8_2, u8_3⟩
theorem d27_34 : DC cb27 34 (.new 96) 3 := by decide +kernel
theorem d27_37 : DC cb27 37 (.dup) 1 := by decide +kernel
theorem d27_38 : DC cb27 38 (.aload_n 0) 1 := by decide +kernel
theorem d27_39 : DC cb27 39 (.iconst 0) 1 := by decide +kernel
theorem d27_40 : DC cb27 40 (.aaload) 1 := by decide +kernel
theorem d27_41 : DC cb27 41 (.invokespecial 98) 3 := by decide +kernel
theorem d36_0 : DC cb36 0 (.aload_n 0) 1 := by decide +kernel
theorem d36_1 : DC cb36 1 (.invokespecial 1) 3 := by decide +kernel
theorem d36_4 : DC cb36 4 (.aload_n 0) 1 := by decide +kernel
theorem d36_5 : DC cb36 5 (.aload_n 1) 1 := by decide +kernel
theorem d36_6 : DC cb36 6 (.invokestatic 7) 3 := by decide +kernel
theorem d36_9 : DC cb36 9 (.putfield 13) 3 := by decide +kernel
theorem d36_12 : DC cb36 12 (.aload_n 0) 1 := by decide +kernel
theorem d36_13 : DC cb36 13 (.getstatic 19) 3 := by decide +kernel
theorem d36_16 : DC cb36 16 (.putfield 24) 3 := by decide +kernel
theorem d36_19 : DC cb36 19 (.return_) 1 := by decide +kernel
theorem ef_36_36 (m : MethodId) (x0 : Addr) (x1 : Addr) : entryFrame m #[(.ref x0), (.ref x1)] 2 = mkF m 0 #[.val (.ref x0), .val (.ref x1)] [] := by first | (simp [entryFrame, mkF, argsToLocals, Value.category]; done) | rfl
theorem rm36_0 (l : Launch) (Z : State) (a0 : Array Value) (hw : HW a0 Z) (a1 a2 w6 : Addr) (h0 : Heap) (n0 : Nat) (OL0 : Old Z n0 h0) (pr1 : Exa Z h0 a1 s33) (pr2 : Fld Z h0 a1 s33 "e0" s2 .null) (pr3 : n0 ≤ a1) (pr4 : Sta Z Z.heap s30 "EMPTY" s2 (.ref w6)) (pr5 : Fld Z h0 a1 s33 "e1" s2 .null) :
    MF l Z mn36 jdk_44_method_1_code 2 none ⟨4, 0, 0, 48⟩ #[(.ref a1), (.ref a2)] h0 (fun v h L => v = none ∧ Fr n0 L ∧ Keep h0 h [a1] ∧ Fld Z h a1 s33 "e0" s2 (.ref a2) ∧ Fld Z h a1 s33 "e1" s2 (.ref w6)) := by
  refine own_start (plainFor_of_name pn_11) (fun m => (ef_36_36 m a1 a2)) ?_
  intro p e s m below meth c s₁ hZ hx hby hml hown hnm hret X0 e0
  have N0 := Fr.nil n0
  obtain ⟨_, T3, L3, X3, hQ3, st3⟩ := own_cN X0 hx hZ hown hml (cw24 hw) (rm29_0 l Z a0 hw a1 h0 n0 OL0 ) e0 a1 1 #[rv a1, rv a2] [] [] 0 rfl (hb hby d36_1) (by decide)
  obtain ⟨rfl, Nq3, ec3⟩ := hQ3
  have N3 := Fr.app N0 Nq3
  obtain ⟨_, T4, L4, X4, hQ4, st4⟩ := own_cS X3 hx hZ hown hml (cw25 hw) (rm31_0 l Z a0 hw a2 h0 n0 OL0 ) ec3 6 #[rv a1, rv a2] [(.ref a2)] [(.ref a1)] 1 rfl (hb hby d36_6) (by decide)
  obtain ⟨rfl, Nq4, ec4⟩ := hQ4
  have N4 := Fr.app N3 Nq4
  obtain ⟨T5, h5, X5, e5, W5, st5⟩ := putF X4 hx hZ hown (host := "") (Or.inl (wd201 hw)) Via.refl ec4 pr2 pr1 (Or.inr ⟨(wd202 hw), rfl, hnm⟩) (wd178 hw) (ty := (.object s20)) (by decide) rfl rfl (g := (mkF m 9 #[rv a1, rv a2] [(.ref a2), (.ref a1)])) rfl rfl (hb hby d36_9)
  have Fw5 := pr2.same W5
  have KK5 : Keep h0 h5 [a1] := (Keep.refl h0 [a1]).wr W5 (Or.inl (List.mem_of_getElem? (i := 0) rfl))
  have OL5 := OL0.wr W5 pr3
  have N5 := Fr.snoc X5 N4 pr3
  obtain ⟨T7, X7, e7, st7⟩ := getS2 X5 hx hZ hown (Or.inr (wd238 hw)) Via.refl e5 (pr4.ext OL5.2) (g := (mkF m 13 #[rv a1, rv a2] [(.ref a1)])) rfl (hb hby d36_13)
  have fc8 := (pr1.wr W5)
  have fc9 := (pr5.other W5 (Or.inr (slot_ne (Or.inr (wd204 hw)) (Or.inr (wd202 hw)) (by decide) (t := (.object s20)) (t' := (.object s20)) (by decide) (by decide))))
  obtain ⟨T10, h10, X10, e10, W10, st10⟩ := putF X7 hx hZ hown (host := "") (Or.inl (wd203 hw)) Via.refl e7 fc9 fc8 (Or.inr ⟨(wd204 hw), rfl, hnm⟩) (wd178 hw) (ty := (.object s20)) (by decide) rfl rfl (g := (mkF m 16 #[rv a1, rv a2] [(.ref w6), (.ref a1)])) rfl rfl (hb hby d36_16)
  have Fw10 := fc9.same W10
  have KK10 : Keep h0 h10 [a1] := KK5.wr W10 (Or.inl (List.mem_of_getElem? (i := 0) rfl))
  have N10 := Fr.snoc X10 N5 pr3
  have fc11 := (Fw5.other W10 (Or.inr (slot_ne (Or.inr (wd202 hw)) (Or.inr (wd204 hw)) (by decide) (t := (.object s20)) (t' := (.object s20)) (by decide) (by decide))))
  refine ⟨none, _, _, _, _, _, X10, e10, by decide, fun _ => rfl, fun fs hr => ?_, ?_⟩
  · refine xaloadN X0 hx hby d36_0 rfl rfl ?_
    show SS p e below s₁ m 1 #[rv a1, rv a2] [(.ref a1)] _
    refine st3 _ ?_
    refine xaloadN X3 hx hby d36_4 rfl rfl ?_
    refine xaloadN X3 hx hby d36_5 rfl rfl ?_
    refine st4 _ ?_
    refine st5 _ ?_
    refine xaloadN X5 hx hby d36_12 rfl rfl ?_
    refine st7 _ ?_
    refine st10 _ ?_
    show SS p e below T10 m 19 #[rv a1, rv a2] [] _
    exact X10.returnOut hx hret (hb hby d36_19) hr
  · exact ⟨rfl, N10, KK10, fc11, Fw10⟩
theorem cw36 {a0 Z} (hw : HW a0 Z) : CN a0 Z s37 98 mn36 1 (.code mn36 jdk_44_method_1_code 2 none) :=
  ⟨rfl, wx hw 235 rfl, wx hw 236 rfl, wx hw 237 rfl, wx hw 179 rfl, by decide, _, _, pd_20, rfl⟩
theorem d27_44 : DC cb27 44 (.areturn) 1 := by decide +kernel
theorem rm27_1 (l : Launch) (Z : State) (a0 : Array Value) (hw : HW a0 Z) (a1 a2 : Addr) (k3 : ClassId) (w8 : Addr) (h0 : Heap) (n0 : Nat) (OL0 : Old Z n0 h0) (pr1 : Arv Z h0 a1 k3 (.object s20) (1 : Int32) [(.ref a2)] .null) (pr2 : Sta Z Z.heap s30 "EMPTY" s2 (.ref w8)) :
    MF l Z mn27 jdk_40_method_47_code 2 (some (.object s37)) ⟨5, 1, 2, 62⟩ #[(.ref a1)] h0 (fun v h L => ∃ b5 : Addr, v = some (.ref b5) ∧ Fr n0 L ∧ Keep h0 h [] ∧ h0.size ≤ b5 ∧ Exa Z h b5 s33 ∧ Fld Z h b5 s33 "e0" s2 (.ref a2) ∧ Fld Z h b5 s33 "e1" s2 (.ref w8)) := by
  refine own_start (plainFor_of_name pn_12) (fun m => (ef_27_27 m a1)) ?_
  intro p e s m below meth c s₁ hZ hx hby hml hown hnm hret X0 e0
  have N0 := Fr.nil n0
  obtain ⟨cl4, Ar4, -, Sz4, Nn4, -, -⟩ := id pr1
  obtain ⟨T5, h5, X5, e5, E5, A5, D5, -, st5⟩ := newO X0 hx hZ hown (wd177 hw) (wd178 hw) (wd179 hw) e0 (g := (mkF m 34 #[rv a1, uu] [])) rfl (hb hby d27_34) (by decide) (by decide)
  obtain ⟨b5, g5⟩ : ∃ z, z = h0.size := ⟨_, rfl⟩
  rw [← g5] at A5 D5 st5
  have g_b5 : n0 ≤ b5 := (Nat.le_trans (Nat.le_trans (Nat.le_of_eq OL0.1.symm) OL0.2.1) (Nat.le_of_eq g5.symm))
  have sz_b5 : h0.size ≤ b5 := (Nat.le_trans (Keep.refl h0 []).1 (Nat.le_of_eq g5.symm))
  have KK5 : Keep h0 h5 [] := (Keep.refl h0 []).ext E5
  have OL5 := OL0.ext E5
  have F_e0_b5 : Fld Z h5 b5 s33 "e0" s2 .null := D5 (Or.inr (wd202 hw)) (ty := (.object s20)) (by decide)
  have F_e1_b5 : Fld Z h5 b5 s33 "e1" s2 .null := D5 (Or.inr (wd204 hw)) (ty := (.object s20)) (by decide)
  have fc6 := (pr1.ext E5)
  obtain ⟨_, T9, L9, X9, hQ9, st9⟩ := own_cN X5 hx hZ hown hml (cw36 hw) (rm36_0 l Z a0 hw b5 a2 w8 h5 n0 OL5 A5 F_e0_b5 g_b5 pr2 F_e1_b5) e5 b5 41 #[rv a1, uu] [(.ref a2)] [(.ref b5)] 1 rfl (hb hby d27_41) (by decide)
  obtain ⟨rfl, Nq9, K9, u9_0, u9_1⟩ := hQ9
  have KK9 : Keep h0 T9.heap [] := KK5.trans K9 (allS (Or.inr sz_b5) all0)
  have N9 := Fr.app N0 Nq9
  have fc10 := (A5.keep K9)
  refine ⟨some (.ref b5), _, _, _, _, _, X9, rfl, by decide, nofun, fun fs hr => ?_, ?_⟩
  · refine xaloadN X0 hx hby d27_0 rfl rfl ?_
    show SS p e below s₁ m 1 #[rv a1, uu] [(.ref a1)] _
    refine X0.arraylength hx (by rw [e0]; exact Ar4.1) (State.isArrayOf_alike hZ.alike Ar4.2.1) (g := (mkF m 1 #[rv a1, uu] [(.ref a1)])) rfl rfl (hb hby d27_1) _ ?_
    rw [len_of Sz4 Nn4]
    refine XS.tswIn X0.here hx rfl (pc0 := 2) (pc' := 34) (o := 32) rfl (hb hby d27_2) rfl (by decide) (by decide) (by decide) (by decide) ?_
    refine st5 _ ?_
    refine XS.dup X5.here hx rfl (hb hby d27_37) rfl rfl ?_
    refine xaloadN X5 hx hby d27_38 rfl rfl ?_
    refine XS.iconst X5.here hx rfl (hb hby d27_39) ?_
    refine own_laR X5 hx hZ e5 fc6 (v := (.ref a2)) (by decide) rfl rfl (hb hby d27_40) ?_
    refine st9 _ ?_
    show SS p e below T9 m 44 #[rv a1, uu] [(.ref b5)] _
    exact own_retR X9 hx hret rfl rfl rfl (hb hby d27_44) hr
  · exact ⟨b5, rfl, N9, KK9, sz_b5, fc10, u9_0, u9_1⟩
theorem rm21_1 (l : Launch) (Z : State) (a0 : Array Value) (hw : HW a0 Z) (a1 a5 w6 a7 : Addr) (k8 : ClassId) (w10 : Addr) (h0 : Heap) (n0 : Nat) (OL0 : Old Z n0 h0) (pr1 : Exa Z h0 a1 s26) (pr2 : Fld Z h0 a1 s26 "size" "I" (.int (1 : Int32))) (pr3 : Fld Z h0 a1 s26 s12 s8 (.ref a5)) (pr4 : MirM Z s8 w6) (pr5 : Exa Z h0 a5 s8) (pr6 : Arv Z h0 a5 k8 (.object s20) (10 : Int32) [(.ref a7), .null, .null, .null, .null, .null, .null, .null, .null, .null] .null) (pr7 : Exa Z h0 a7 s45) (pr8 : Sta Z Z.heap s30 "EMPTY" s2 (.ref w10)) :
    MF l Z mn21 jdk_56_method_3_code 2 (some (.object s37)) ⟨6, 2, 3, 75⟩ #[(.ref a1)] h0 (fun v h L => ∃ b11_0 : Addr, v = some (.ref b11_0) ∧ Fr n0 L ∧ Keep h0 h [] ∧ h0.size ≤ b11_0 ∧ Exa Z h b11_0 s33 ∧ Fld Z h b11_0 s33 "e0" s2 (.ref a7) ∧ Fld Z h b11_0 s33 "e1" s2 (.ref w10)) := by
  refine own_start (plainFor_of_name pn_13) (fun m => (ef_21_28 m a1)) ?_
  intro p e s m below meth c s₁ hZ hx hby hml hown hnm hret X0 e0
  have N0 := Fr.nil n0
  obtain ⟨T2, X2, e2, st2⟩ := instNo X0 hx hZ hown (wd129 hw) e0 pr1 (own_no (wd130 hw) (NI.inst (wd178 hw)) (NS.step (wd130 hw) (NS.step (wd131 hw) (NS.step (wd132 hw) (own_root (wd133 hw) (NI.inst (wd178 hw)) (by decide)) (by decide)) (by decide)) (by decide)) (by decide)) (g := (mkF m 1 #[rv a1, uu] [(.ref a1)])) rfl rfl (hb hby d21_1)
  obtain ⟨T3, X3, e3, st3⟩ := instNo X2 hx hZ hown (wd134 hw) e2 pr1 (own_no (wd130 hw) (NI.sel (wd408 hw)) (NS.step (wd130 hw) (NS.step (wd131 hw) (NS.step (wd132 hw) (own_root (wd133 hw) (NI.sel (wd408 hw)) (by decide)) (by decide)) (by decide)) (by decide)) (by decide)) (g := (mkF m 8 #[rv a1, uu] [(.ref a1)])) rfl rfl (hb hby d21_8)
  obtain ⟨_, T4, L4, X4, hQ4, st4⟩ := own_cI X3 hx hZ hown hml (cw17 hw) (rm22_1 l Z a0 hw a1 h0 n0 OL0 pr2) e3 pr1 32 #[rv a1, uu] [] [] 0 rfl (hb hby d21_32) (by decide)
  obtain ⟨rfl, Nq4, ec4⟩ := hQ4
  have N4 := Fr.app N0 Nq4
  obtain ⟨_, T9, L9, X9, hQ9, st9⟩ := own_cI X4 hx hZ hown hml (cw21 hw) (rm23_1 l Z a0 hw a1 a5 w6 a7 k8 h0 n0 OL0 pr3 pr2 pr4 pr5 pr6 pr7) ec4 pr1 45 #[rv a1, uu] [] [] 0 rfl (hb hby d21_45) (by decide)
  obtain ⟨b9_0, kx9_0, rfl, Nq9, K9, u9_0, u9_1, u9_2, u9_3⟩ := hQ9
  have KK9 : Keep h0 T9.heap [] := (Keep.refl h0 []).trans K9 all0
  have OL9 := OL0.keep K9 all0
  have N9 := Fr.app N4 Nq9
  obtain ⟨_, T11, L11, X11, hQ11, st11⟩ := own_cS X9 hx hZ hown hml (cw27 hw) (rm27_1 l Z a0 hw b9_0 a7 kx9_0 w10 T9.heap n0 OL9 u9_1 pr8) rfl 50 #[rv a1, uu] [(.ref b9_0)] [] 0 rfl (hb hby d21_50) (by decide)
  obtain ⟨b11_0, rfl, Nq11, K11, u11_0, u11_1, u11_2, u11_3⟩ := hQ11
  have KK11 : Keep h0 T11.heap [] := KK9.trans K11 all0
  have sz_b11_0 : h0.size ≤ b11_0 := Nat.le_trans KK9.1 u11_0
  have N11 := Fr.app N9 Nq11
  refine ⟨some (.ref b11_0), _, _, _, _, _, X11, rfl, by decide, nofun, fun fs hr => ?_, ?_⟩
  · refine xaloadN X0 hx hby d21_0 rfl rfl ?_
    show SS p e below s₁ m 1 #[rv a1, uu] [(.ref a1)] _
    refine st2 _ ?_
    refine XS.ifNo X2.here hx rfl (hb hby d21_4) rfl ((if0 _ _).trans (teq (rfl : (0 : Int32) = (0 : Int32))).2) ?_
    refine xaloadN X2 hx hby d21_7 rfl rfl ?_
    refine st3 _ ?_
    refine XS.ifYes X3.here hx rfl (pc0 := 11) (pc' := 31) rfl (hb hby d21_11) rfl ((if0 _ _).trans (teq (rfl : (0 : Int32) = (0 : Int32))).1) (by decide) (by decide) ?_
    refine xaloadN X3 hx hby d21_31 rfl rfl ?_
    refine st4 _ ?_
    refine XS.ifYes X4.here hx rfl (pc0 := 37) (pc' := 44) rfl (hb hby d21_37) rfl ((if0 _ _).trans (teq (rfl : (0 : Int32) = (0 : Int32))).1) (by decide) (by decide) ?_
    refine xaloadN X4 hx hby d21_44 rfl rfl ?_
    refine st9 _ ?_
    show SS p e below T9 m 50 #[rv a1, uu] [(.ref b9_0)] _
    refine st11 _ ?_
    show SS p e below T11 m 53 #[rv a1, uu] [(.ref b11_0)] _
    exact own_retR X11 hx hret rfl rfl rfl (hb hby d21_53) hr
  · exact ⟨b11_0, rfl, N11, KK11, sz_b11_0, u11_1, u11_2, u11_3⟩
theorem rm20_1 (l : Launch) (Z : State) (a0 : Array Value) (hw : HW a0 Z) (a1 a2 w3 a4 : Addr) (k5 : ClassId) (w6 : Addr) (h0 : Heap) (n0 : Nat) (OL0 : Old Z n0 h0) (pr1 : Exa Z h0 a1 s26) (pr2 : Fld Z h0 a1 s26 "size" "I" (.int (1 : Int32))) (pr3 : Fld Z h0 a1 s26 s12 s8 (.ref a2)) (pr4 : MirM Z s8 w3) (pr5 : Exa Z h0 a2 s8) (pr6 : Arv Z h0 a2 k5 (.object s20) (10 : Int32) [(.ref a4), .null, .null, .null, .null, .null, .null, .null, .null, .null] .null) (pr7 : Exa Z h0 a4 s45) (pr8 : Sta Z Z.heap s30 "EMPTY" s2 (.ref w6)) :
    MF l Z mn20 jdk_40_method_48_code 1 (some (.object s37)) ⟨7, 2, 3, 88⟩ #[(.ref a1)] h0 (fun v h L => ∃ b7_0 : Addr, v = some (.ref b7_0) ∧ Fr n0 L ∧ Keep h0 h [] ∧ h0.size ≤ b7_0 ∧ Exa Z h b7_0 s33 ∧ Fld Z h b7_0 s33 "e0" s2 (.ref a4) ∧ Fld Z h b7_0 s33 "e1" s2 (.ref w6)) := by
  refine own_start (plainFor_of_name pn_12) (fun m => (ef_20_29 m a1)) ?_
  intro p e s m below meth c s₁ hZ hx hby hml hown hnm hret X0 e0
  have N0 := Fr.nil n0
  obtain ⟨_, T7, L7, X7, hQ7, st7⟩ := own_cS X0 hx hZ hown hml (cw28 hw) (rm21_1 l Z a0 hw a1 a2 w3 a4 k5 w6 h0 n0 OL0 pr1 pr2 pr3 pr4 pr5 pr6 pr7 pr8) e0 1 #[rv a1] [(.ref a1)] [] 0 rfl (hb hby d20_1) (by decide)
  obtain ⟨b7_0, rfl, Nq7, K7, u7_0, u7_1, u7_2, u7_3⟩ := hQ7
  have KK7 : Keep h0 T7.heap [] := (Keep.refl h0 []).trans K7 all0
  have sz_b7_0 : h0.size ≤ b7_0 := Nat.le_trans (Keep.refl h0 []).1 u7_0
  have N7 := Fr.app N0 Nq7
  refine ⟨some (.ref b7_0), _, _, _, _, _, X7, rfl, by decide, nofun, fun fs hr => ?_, ?_⟩
  · refine xaloadN X0 hx hby d20_0 rfl rfl ?_
    show SS p e below s₁ m 1 #[rv a1] [(.ref a1)] _
    refine st7 _ ?_
    show SS p e below T7 m 4 #[rv a1] [(.ref b7_0)] _
    exact own_retR X7 hx hret rfl rfl rfl (hb hby d20_4) hr
  · exact ⟨b7_0, rfl, N7, KK7, sz_b7_0, u7_1, u7_2, u7_3⟩
theorem cw37 {a0 Z} (hw : HW a0 Z) : CS a0 Z s47 15 mn20 1 (.code mn20 jdk_40_method_48_code 1 (some (.object s37))) :=
  ⟨wx hw 234 rfl, wx hw 122 rfl, wx hw 124 rfl, wx hw 123 rfl, by decide, _, _, pd_18, rfl⟩
theorem d35_15 : DC cb35 15 (.astore_n 2) 1 := by decide +kernel
theorem d35_16 : DC cb35 16 (.aload_n 0) 1 := by decide +kernel
theorem d35_17 : DC cb35 17 (.aload_n 1) 1 := by decide +kernel
theorem d35_18 : DC cb35 18 (.putfield 21) 3 := by decide +kernel
theorem d35_21 : DC cb35 21 (.aload_n 0) 1 := by decide +kernel
theorem d35_22 : DC cb35 22 (.aload_n 2) 1 := by decide +kernel
theorem d35_23 : DC cb35 23 (.putfield 26) 3 := by decide +kernel
theorem d35_26 : DC cb35 26 (.aload_n 0) 1 := by decide +kernel
theorem d35_27 : DC cb35 27 (.iload_n 3) 1 := by decide +kernel
theorem d35_28 : DC cb35 28 (.putfield 30) 3 := by decide +kernel
theorem d35_31 : DC cb35 31 (.return_) 1 := by decide +kernel
theorem ef_35_37 (m : MethodId) (x0 : Addr) (x1 : Addr) (x2 : Addr) : entryFrame m #[(.ref x0), (.ref x1), (.ref x2), (.int (1 : Int32))] 4 = mkF m 0 #[.val (.ref x0), .val (.ref x1), .val (.ref x2), .val (.int (1 : Int32))] [] := by first | (simp [entryFrame, mkF, argsToLocals, Value.category]; done) | rfl
theorem pn_16 : plainName "shadowsift/core/Rule" = true := by first | (simp [plainName, overriddenIn]; done) | decide +kernel
def Q_rm35_0 (Z : State) (a1 : Addr) (a2 : Addr) (a3 : Addr) (a7 : Addr) (w8 : Addr) (a9 : Addr) (k10 : ClassId) (w11 : Addr) (h0 : Heap) (n0 : Nat) (v : Option Value) (h : Heap) (L : List Loc) : Prop := ∃ b12_0 : Addr, v = none ∧ Fr n0 L ∧ Keep h0 h [a1] ∧ h0.size ≤ b12_0 ∧ Fld Z h a1 s47 s11 s7 (.ref a2) ∧ Fld Z h a1 s47 "match" s6 (.ref b12_0) ∧ Fld Z h a1 s47 "exact" "Z" (.int (1 : Int32)) ∧ Exa Z h b12_0 s33 ∧ Fld Z h b12_0 s33 "e0" s2 (.ref a9) ∧ Fld Z h b12_0 s33 "e1" s2 (.ref w11)
set_option maxRecDepth 65536 in
set_option maxHeartbeats 40000000 in
theorem rm35_0 (l : Launch) (Z : State) (a0 : Array Value) (hw : HW a0 Z) (ws : List Jvm.Cond) (a1 : Addr) (a2 : Addr) (a3 : Addr) (a7 : Addr) (w8 : Addr) (a9 : Addr) (k10 : ClassId) (w11 : Addr) (h0 : Heap) (n0 : Nat) (OL0 : Old Z n0 h0) (pr1 : Exa Z h0 a3 s26) (pr2 : Fld Z h0 a3 s26 "size" "I" (.int (1 : Int32))) (pr3 : Fld Z h0 a3 s26 s12 s8 (.ref a7)) (pr4 : MirM Z s8 w8) (pr5 : Exa Z h0 a7 s8) (pr6 : Arv Z h0 a7 k10 (.object s20) (10 : Int32) [(.ref a9), .null, .null, .null, .null, .null, .null, .null, .null, .null] .null) (pr7 : Exa Z h0 a9 s45) (pr8 : Sta Z Z.heap s30 "EMPTY" s2 (.ref w11)) (pr9 : Exa Z h0 a1 s47) (pr10 : Fld Z h0 a1 s47 s11 s7 .null) (pr11 : n0 ≤ a1) (pr12 : Fld Z h0 a1 s47 "match" s6 .null) (pr13 : Fld Z h0 a1 s47 "exact" "Z" (.int (0 : Int32))) :
    MetFree l mn35 (head1 (Jvm.Cond.code mn35 prog_52_method_1_code 4 none :: ws) ({ frames := 8, cells := 4, slots := 39, locals := 100 } : Room)) (fun a U => a = #[(.ref a1), (.ref a2), (.ref a3), (.int (1 : Int32))] ∧ Z.Warmed39 U.vm ∧ U.heap = h0) (fun _ _ _ _ _ => True) (fun _ U o U' => ∃ v L, o = .returned v ∧ Q_rm35_0 Z a1 a2 a3 a7 w8 a9 k10 w11 h0 n0 v U'.heap L ∧ ReturnedEndW U o U' L ({ frames := 8, cells := 4, slots := 39, locals := 100 } : Room).cells ({ frames := 8, cells := 4, slots := 39, locals := 100 } : Room).slots) := by
  refine MetFree.of_bodySF (plainFor_of_name pn_16) hisR ?_
  intro p e s m args below meth c s₁ Bd hml0 hP hK
  obtain ⟨rfl, hZ, hh⟩ := hP
  have hx := Bd.exec
  have hby := Bd.bytes
  have hml : c.maxLocals = 4 := hml0
  have hown : s.vm.findClass s47 = some m.cls := findClass_of_methodNamed Bd.named
  have hnm := (name_of_methodNamed Bd.named Bd.method).1
  have X0 : Stand p l e ({ frames := 8, cells := 4, slots := 39, locals := 100 } : Room) s m #[(.ref a1), (.ref a2), (.ref a3), (.int (1 : Int32))] below meth c s₁ [] 0 0 := Stand.of_body Bd
  have e0 : s₁.heap = h0 := by rw [← hh, Bd.state]; rfl
  have N0 := Fr.nil n0
  have pre0 : ∀ t, SS p e below s₁ m 0 #[rv a1, rv a2, rv a3, iv (1 : Int32)] [] t → Steps p.tables e below (s₁.setTop (entryFrame m #[(.ref a1), (.ref a2), (.ref a3), (.int (1 : Int32))] 4)) t := fun t k => castTop (ef_35_37 m a1 a2 a3) k
  obtain ⟨_, T4, L4, X4, hQ4, st4⟩ := own_cN X0 hx hZ hown hml (cw34 hw) (rm6_0 l Z a0 hw a1 h0 n0 OL0 ) e0 a1 1 #[rv a1, rv a2, rv a3, iv (1 : Int32)] [] [] 0 rfl (hb hby d35_1) (by decide)
  obtain ⟨rfl, Nq4, ec4⟩ := hQ4
  have N4 := Fr.app N0 Nq4
  obtain ⟨b5, T5, h5, k5, X5, e5, E5, hS5, hk5, hZ5, hown5, st5⟩ := ldcS (s := s) (vm0 := s.vm) X4 hx hZ hown (wd232 hw) (own_wS hw) ec4 ((State.WarmedH.refl s).since 0) (Nat.zero_le _) (g := (mkF m 5 #[rv a1, rv a2, rv a3, iv (1 : Int32)] [(.ref a2)])) rfl (hb hby d35_5) (n := 32) (by decide) (by decide) (by decide) (by decide)
  have KK5 : Keep h0 h5 [a1] := (Keep.refl h0 [a1]).ext E5
  have OL5 := OL0.ext E5
  obtain ⟨_, T6, L6, X6, hQ6, st6⟩ := own_cS X5 hx hZ5 hown5 hml (cw35 hw) (rm8_0 l Z a0 hw a2 b5 h5 n0 OL5 ) e5 7 #[rv a1, rv a2, rv a3, iv (1 : Int32)] [(.ref a2), (.ref b5)] [] 0 rfl (hb hby d35_7) (by decide)
  obtain ⟨rfl, Nq6, ec6⟩ := hQ6
  have N6 := Fr.app N4 Nq6
  have fc13 := (pr1.ext E5)
  have fc14 := (pr2.ext E5)
  have fc15 := (pr3.ext E5)
  have fc16 := (pr5.ext E5)
  have fc17 := (pr6.ext E5)
  have fc18 := (pr7.ext E5)
  obtain ⟨_, T12, L12, X12, hQ12, st12⟩ := own_cS X6 hx hZ5 hown5 hml (cw37 hw) (rm20_1 l Z a0 hw a3 a7 w8 a9 k10 w11 h5 n0 OL5 fc13 fc14 fc15 pr4 fc16 fc17 fc18 pr8) ec6 12 #[rv a1, rv a2, rv a3, iv (1 : Int32)] [(.ref a3)] [] 0 rfl (hb hby d35_12) (by decide)
  obtain ⟨b12_0, rfl, Nq12, K12, u12_0, u12_1, u12_2, u12_3⟩ := hQ12
  have KK12 : Keep h0 T12.heap [a1] := KK5.trans K12 all0
  have sz_b12_0 : h0.size ≤ b12_0 := Nat.le_trans KK5.1 u12_0
  have N12 := Fr.app N6 Nq12
  have fc19 := ((pr9.ext E5).keep K12)
  have fc20 := ((pr10.ext E5).keep K12 nin0)
  obtain ⟨T21, h21, X21, e21, W21, st21⟩ := putF X12 hx hZ5 hown5 (host := "") (Or.inl (wd239 hw)) Via.refl rfl fc20 fc19 (Or.inr ⟨(wd240 hw), rfl, hnm⟩) (wd209 hw) (ty := (.object s39)) (by decide) rfl rfl (g := (mkF m 18 #[rv a1, rv a2, rv b12_0, iv (1 : Int32)] [(.ref a2), (.ref a1)])) rfl rfl (hb hby d35_18)
  have Fw21 := fc20.same W21
  have KK21 : Keep h0 h21 [a1] := KK12.wr W21 (Or.inl (List.mem_of_getElem? (i := 0) rfl))
  have N21 := Fr.snoc X21 N12 pr11
  have fc22 := (fc19.wr W21)
  have fc23 := (((pr12.ext E5).keep K12 nin0).other W21 (Or.inr (slot_ne (Or.inr (wd242 hw)) (Or.inr (wd240 hw)) (by decide) (t := (.object s37)) (t' := (.object s39)) (by decide) (by decide))))
  obtain ⟨T24, h24, X24, e24, W24, st24⟩ := putF X21 hx hZ5 hown5 (host := "") (Or.inl (wd241 hw)) Via.refl e21 fc23 fc22 (Or.inr ⟨(wd242 hw), rfl, hnm⟩) (wd209 hw) (ty := (.object s37)) (by decide) rfl rfl (g := (mkF m 23 #[rv a1, rv a2, rv b12_0, iv (1 : Int32)] [(.ref b12_0), (.ref a1)])) rfl rfl (hb hby d35_23)
  have Fw24 := fc23.same W24
  have KK24 : Keep h0 h24 [a1] := KK21.wr W24 (Or.inl (List.mem_of_getElem? (i := 0) rfl))
  have N24 := Fr.snoc X24 N21 pr11
  have fc25 := (fc22.wr W24)
  have fc26 := ((((pr13.ext E5).keep K12 nin0).other W21 (Or.inr (slot_ne (Or.inr (wd244 hw)) (Or.inr (wd240 hw)) (by decide) (t := .boolean) (t' := (.object s39)) (by decide) (by decide)))).other W24 (Or.inr (slot_ne (Or.inr (wd244 hw)) (Or.inr (wd242 hw)) (by decide) (t := .boolean) (t' := (.object s37)) (by decide) (by decide))))
  obtain ⟨T27, h27, X27, e27, W27, st27⟩ := putFN X24 hx hZ5 hown5 (wd243 hw) Via.refl e24 fc26 fc25 (Or.inr ⟨(wd244 hw), rfl, hnm⟩) (wd209 hw) (ty := .boolean) (v' := (.int (1 : Int32))) (by decide) rfl rfl (g := (mkF m 28 #[rv a1, rv a2, rv b12_0, iv (1 : Int32)] [(.int (1 : Int32)), (.ref a1)])) rfl rfl (hb hby d35_28)
  have Fw27 := fc26.same W27
  have KK27 : Keep h0 h27 [a1] := KK24.wr W27 (Or.inl (List.mem_of_getElem? (i := 0) rfl))
  have N27 := Fr.snoc X27 N24 pr11
  have fc28 := ((Fw21.other W24 (Or.inr (slot_ne (Or.inr (wd240 hw)) (Or.inr (wd242 hw)) (by decide) (t := (.object s39)) (t' := (.object s37)) (by decide) (by decide)))).other W27 (Or.inr (slot_ne (Or.inr (wd240 hw)) (Or.inr (wd244 hw)) (by decide) (t := (.object s39)) (t' := .boolean) (by decide) (by decide))))
  have fc29 := (Fw24.other W27 (Or.inr (slot_ne (Or.inr (wd242 hw)) (Or.inr (wd244 hw)) (by decide) (t := (.object s37)) (t' := .boolean) (by decide) (by decide))))
  have fc30 := (((u12_1.wr W21).wr W24).wr W27)
  have nz31 := nl pr9.lt sz_b12_0
  have fc32 := (((u12_2.other W21 (Or.inl (Ne.symm nz31))).other W24 (Or.inl (Ne.symm nz31))).other W27 (Or.inl (Ne.symm nz31)))
  have fc33 := (((u12_3.other W21 (Or.inl (Ne.symm nz31))).other W24 (Or.inl (Ne.symm nz31))).other W27 (Or.inl (Ne.symm nz31)))
  obtain ⟨fs, hr, hrun, hended, hRW⟩ := X27.leaveW (s := s) hS5 (by rw [e27]; exact (Nat.le_trans (Nat.le_trans (Nat.le_trans (Nat.le_trans hk5 K12.1) (Nat.le_of_eq W21.size.symm)) (Nat.le_of_eq W24.size.symm)) (Nat.le_of_eq W27.size.symm))) (v := none) (fun _ => rfl)
  refine ⟨_, _, pre0 _ ?_, hrun, hended, _, _, rfl, ?_, hRW.1, hRW.2.1, hRW.2.2.1, hRW.2.2.2.mono (by decide) (by decide)⟩
  · refine xaloadN X0 hx hby d35_0 rfl rfl ?_
    show SS p e below s₁ m 1 #[rv a1, rv a2, rv a3, iv (1 : Int32)] [(.ref a1)] _
    refine st4 _ ?_
    refine xaloadN X4 hx hby d35_4 rfl rfl ?_
    refine st5 _ ?_
    refine st6 _ ?_
    refine XS.pop X6.here hx rfl (hb hby d35_10) rfl rfl ?_
    refine xaloadN X6 hx hby d35_11 rfl rfl ?_
    refine st12 _ ?_
    refine XS.astoreN X12.here hx rfl (hb hby d35_15) rfl rfl (l' := #[rv a1, rv a2, rv b12_0, iv (1 : Int32)]) rfl ?_
    refine xaloadN X12 hx hby d35_16 rfl rfl ?_
    refine xaloadN X12 hx hby d35_17 rfl rfl ?_
    show SS p e below T12 m 18 #[rv a1, rv a2, rv b12_0, iv (1 : Int32)] [(.ref a2), (.ref a1)] _
    refine st21 _ ?_
    refine xaloadN X21 hx hby d35_21 rfl rfl ?_
    refine xaloadN X21 hx hby d35_22 rfl rfl ?_
    refine st24 _ ?_
    refine xaloadN X24 hx hby d35_26 rfl rfl ?_
    refine xiloadN X24 hx hby d35_27 rfl ?_
    refine st27 _ ?_
    show SS p e below T27 m 31 #[rv a1, rv a2, rv b12_0, iv (1 : Int32)] [] _
    exact X27.returnOut hx Bd.returns (hb hby d35_31) hr
  · show Q_rm35_0 Z a1 a2 a3 a7 w8 a9 k10 w11 h0 n0 _ T27.heap _
    rw [e27]
    exact ⟨b12_0, rfl, N27, KK27, sz_b12_0, fc28, fc29, Fw27, fc30, fc32, fc33⟩
theorem pd_22 : parseMethodDescriptor "(Ljava/util/Optional;Ljava/util/List;Z)V" = some ⟨[(.object "java/util/Optional"), (.object "java/util/List"), .boolean], none⟩ := by decide +kernel
theorem d32_10 : DC cb32 10 (.return_) 1 := by decide +kernel
theorem ef_32_38 (m : MethodId) (x0 : Addr) (x1 : Addr) (x2 : Addr) : entryFrame m #[(.ref x0), (.ref x1), (.ref x2)] 3 = mkF m 0 #[.val (.ref x0), .val (.ref x1), .val (.ref x2)] [] := by first | (simp [entryFrame, mkF, argsToLocals, Value.category]; done) | rfl
def Q_rm32_0 (Z : State) (a1 : Addr) (a2 : Addr) (a3 : Addr) (a5 : Addr) (w6 : Addr) (a7 : Addr) (k8 : ClassId) (w9 : Addr) (h0 : Heap) (n0 : Nat) (v : Option Value) (h : Heap) (L : List Loc) : Prop := ∃ b4_0 : Addr, ∃ b10_0 : Addr, v = none ∧ Fr n0 L ∧ Keep h0 h [a1] ∧ h0.size ≤ b4_0 ∧ h0.size ≤ b10_0 ∧ b4_0 ≠ b10_0 ∧ Fld Z h a1 s47 s11 s7 (.ref b4_0) ∧ Fld Z h a1 s47 "match" s6 (.ref b10_0) ∧ Fld Z h a1 s47 "exact" "Z" (.int (1 : Int32)) ∧ Exa Z h b4_0 s39 ∧ Fld Z h b4_0 s39 "value" s2 (.ref a2) ∧ Exa Z h b10_0 s33 ∧ Fld Z h b10_0 s33 "e0" s2 (.ref a7) ∧ Fld Z h b10_0 s33 "e1" s2 (.ref w9)
set_option maxRecDepth 65536 in
set_option maxHeartbeats 40000000 in
theorem rm32_0 (l : Launch) (Z : State) (a0 : Array Value) (hw : HW a0 Z) (ws : List Jvm.Cond) (a1 : Addr) (a2 : Addr) (a3 : Addr) (a5 : Addr) (w6 : Addr) (a7 : Addr) (k8 : ClassId) (w9 : Addr) (h0 : Heap) (n0 : Nat) (OL0 : Old Z n0 h0) (pr1 : Exa Z h0 a3 s26) (pr2 : Fld Z h0 a3 s26 "size" "I" (.int (1 : Int32))) (pr3 : Fld Z h0 a3 s26 s12 s8 (.ref a5)) (pr4 : MirM Z s8 w6) (pr5 : Exa Z h0 a5 s8) (pr6 : Arv Z h0 a5 k8 (.object s20) (10 : Int32) [(.ref a7), .null, .null, .null, .null, .null, .null, .null, .null, .null] .null) (pr7 : Exa Z h0 a7 s45) (pr8 : Sta Z Z.heap s30 "EMPTY" s2 (.ref w9)) (pr9 : Exa Z h0 a1 s47) (pr10 : Fld Z h0 a1 s47 s11 s7 .null) (pr11 : n0 ≤ a1) (pr12 : Fld Z h0 a1 s47 "match" s6 .null) (pr13 : Fld Z h0 a1 s47 "exact" "Z" (.int (0 : Int32))) :
    MetFree l mn32 (head1 (Jvm.Cond.code mn32 prog_52_method_2_code 3 none :: ws) ({ frames := 9, cells := 5, slots := 40, locals := 115 } : Room)) (fun a U => a = #[(.ref a1), (.ref a2), (.ref a3)] ∧ Z.Warmed39 U.vm ∧ U.heap = h0) (fun _ _ _ _ _ => True) (fun _ U o U' => ∃ v L, o = .returned v ∧ Q_rm32_0 Z a1 a2 a3 a5 w6 a7 k8 w9 h0 n0 v U'.heap L ∧ ReturnedEndW U o U' L ({ frames := 9, cells := 5, slots := 40, locals := 115 } : Room).cells ({ frames := 9, cells := 5, slots := 40, locals := 115 } : Room).slots) := by
  refine MetFree.of_bodySF (plainFor_of_name pn_16) hisR ?_
  intro p e s m args below meth c s₁ Bd hml0 hP hK
  obtain ⟨rfl, hZ, hh⟩ := hP
  have hx := Bd.exec
  have hby := Bd.bytes
  have hml : c.maxLocals = 3 := hml0
  have hown : s.vm.findClass s47 = some m.cls := findClass_of_methodNamed Bd.named
  have hnm := (name_of_methodNamed Bd.named Bd.method).1
  have X0 : Stand p l e ({ frames := 9, cells := 5, slots := 40, locals := 115 } : Room) s m #[(.ref a1), (.ref a2), (.ref a3)] below meth c s₁ [] 0 0 := Stand.of_body Bd
  have e0 : s₁.heap = h0 := by rw [← hh, Bd.state]; rfl
  have N0 := Fr.nil n0
  have pre0 : ∀ t, SS p e below s₁ m 0 #[rv a1, rv a2, rv a3] [] t → Steps p.tables e below (s₁.setTop (entryFrame m #[(.ref a1), (.ref a2), (.ref a3)] 3)) t := fun t k => castTop (ef_32_38 m a1 a2 a3) k
  obtain ⟨_, T4, L4, X4, hQ4, st4⟩ := own_cS X0 hx hZ hown hml (cw33 hw) (rm33_0 l Z a0 hw a2 h0 n0 OL0 ) e0 2 #[rv a1, rv a2, rv a3] [(.ref a2)] [(.ref a1)] 1 rfl (hb hby d32_2) (by decide)
  obtain ⟨b4_0, rfl, Nq4, K4, u4_0, u4_1, u4_2⟩ := hQ4
  have KK4 : Keep h0 T4.heap [a1] := (Keep.refl h0 [a1]).trans K4 all0
  have OL4 := OL0.keep K4 all0
  have sz_b4_0 : h0.size ≤ b4_0 := Nat.le_trans (Keep.refl h0 [a1]).1 u4_0
  have N4 := Fr.app N0 Nq4
  have fc11 := (pr1.keep K4)
  have fc12 := (pr2.keep K4 nin0)
  have fc13 := (pr3.keep K4 nin0)
  have fc14 := (pr5.keep K4)
  have fc15 := (pr6.keep K4 nin0)
  have fc16 := (pr7.keep K4)
  have fc17 := (pr9.keep K4)
  have fc18 := (pr10.keep K4 nin0)
  have fc19 := (pr12.keep K4 nin0)
  have fc20 := (pr13.keep K4 nin0)
  obtain ⟨_, _, ⟨T10, L10, k10, n10⟩, -, Xa10, hSi10, hgr10, ⟨Lc10, hQ10, l10, y10, z10⟩, st10⟩ := X4.specialBackS hx (y := mn35) rfl hown (mvT hZ (wd228 hw)) (mvT hZ (wd229 hw)) (mvT hZ (wd230 hw)) (by decide) (backOfS (W := 0) (rm35_0 l Z a0 hw [] a1 b4_0 a3 a5 w6 a7 k8 w9 T4.heap n0 OL4 fc11 fc12 fc13 pr4 fc14 fc15 fc16 pr8 fc17 fc18 pr11 fc19 fc20) hZ (wd230 hw) (wd210 hw) (by decide) (by decide)) (g := (mkF m 7 #[rv a1, rv a2, rv a3] [(.int (1 : Int32)), (.ref a3), (.ref b4_0), (.ref a1)])) rfl (by rw [hml]; rfl) (Steps.refl _) (a := a1) (argsL := [(.ref b4_0), (.ref a3), (.int (1 : Int32))]) (rest := []) (lenOf pd_22 rfl) rfl (by show 2 * 0 + _ ≤ _; exact Nat.le_of_eq rfl) (hb hby d32_7) (fun _ _ => ⟨rfl, rfl, (by decide : 1 + 4 ≤ _), (by decide : 1 + 39 ≤ _)⟩)
  dsimp only [Pt.U, Pt.locs, Pt.cells, Pt.slots] at Xa10 l10 y10 z10 st10 hQ10 hSi10 hgr10
  have Xb10 := own_sub Xa10 l10 y10 z10
  obtain ⟨X10, hS10, hZ10, hown10⟩ := rebS (s := s) (vm0 := s.vm) ((State.WarmedH.refl s).since 0) (n1 := T4.heap.size) (by exact (Nat.le_trans (Nat.zero_le _) K4.1)) Xb10 hSi10 hgr10 hZ hown
  obtain ⟨b10_0, rfl, Nq10, K10, u10_0, u10_1, u10_2, u10_3, u10_4, u10_5, u10_6⟩ := hQ10
  have KK10 : Keep h0 T10.heap [a1] := KK4.trans K10 (allS (Or.inl (List.mem_of_getElem? (i := 0) rfl)) all0)
  have sz_b10_0 : h0.size ≤ b10_0 := Nat.le_trans KK4.1 u10_0
  have N10 := Fr.app N4 Nq10
  have nz21 := nl u4_2.lt u10_0
  have fc22 := (u4_1.keep K10)
  have nz23 := nl pr9.lt sz_b4_0
  have fc24 := (u4_2.keep K10 (ninS (Ne.symm nz23) nin0))
  obtain ⟨fs, hr, hrun, hended, hRW⟩ := X10.leaveW (s := s) hS10 (by exact (Nat.le_refl _)) (v := none) (fun _ => rfl)
  refine ⟨_, _, pre0 _ ?_, hrun, hended, _, _, rfl, ?_, hRW.1, hRW.2.1, hRW.2.2.1, hRW.2.2.2.mono (by decide) (by decide)⟩
  · refine xaloadN X0 hx hby d32_0 rfl rfl ?_
    show SS p e below s₁ m 1 #[rv a1, rv a2, rv a3] [(.ref a1)] _
    refine xaloadN X0 hx hby d32_1 rfl rfl ?_
    refine st4 _ ?_
    refine xaloadN X4 hx hby d32_5 rfl rfl ?_
    refine XS.iconst X4.here hx rfl (hb hby d32_6) ?_
    refine st10.trans ?_
    show SS p e below T10 m 10 #[rv a1, rv a2, rv a3] [] _
    exact X10.returnOut hx Bd.returns (hb hby d32_10) hr
  · show Q_rm32_0 Z a1 a2 a3 a5 w6 a7 k8 w9 h0 n0 _ T10.heap _
    exact ⟨b4_0, b10_0, rfl, N10, KK10, sz_b4_0, sz_b10_0, nz21, u10_1, u10_2, u10_3, fc22, fc24, u10_4, u10_5, u10_6⟩
theorem pd_23 : parseMethodDescriptor "(Lshadowsift/core/Decision;Ljava/util/List;)V" = some ⟨[(.object "shadowsift/core/Decision"), (.object "java/util/List")], none⟩ := by decide +kernel
theorem rm15_3 (l : Launch) (Z : State) (a0 : Array Value) (hw : HW a0 Z) (a1 a2 w3 : Addr) (k4 : ClassId) (h0 : Heap) (n0 : Nat) (OL0 : Old Z n0 h0) (pr1 : Arv Z Z.heap w3 k4 (.object s20) (0 : Int32) [] .null) (pr2 : Fld Z h0 a1 s26 "size" "I" (.int (0 : Int32))) (pr3 : Fld Z h0 a1 s26 s12 s8 (.ref w3)) (pr4 : Sta Z Z.heap s26 s0 s8 (.ref w3)) (pr5 : Exa Z h0 a1 s26) (pr6 : n0 ≤ a1) (pr7 : Fld Z h0 a1 s25 s41 "I" (.int (1 : Int32))) (pr8 : Exa Z h0 a2 s47) :
    MF l Z mn15 jdk_38_method_24_code 4 none ⟨3, 1, 10, 41⟩ #[(.ref a1), (.ref a2), (.ref w3), (.int (0 : Int32))] h0 (fun v h L => ∃ b6_0 : Addr, ∃ kx6_0 : ClassId, v = none ∧ Fr n0 L ∧ Keep h0 h [a1] ∧ h0.size ≤ b6_0 ∧ Fld Z h a1 s26 "size" "I" (.int (1 : Int32)) ∧ Fld Z h a1 s26 s12 s8 (.ref b6_0) ∧ Fld Z h a1 s25 s41 "I" (.int (1 : Int32)) ∧ Arv Z h b6_0 kx6_0 (.object s20) (10 : Int32) [(.ref a2), .null, .null, .null, .null, .null, .null, .null, .null, .null] .null ∧ Ovr Z kx6_0 s20 ∧ Exa Z h b6_0 s8) := by
  refine own_start (plainFor_of_name pn_6) (fun m => (ef_15_15 m a1 a2 w3)) ?_
  intro p e s m below meth c s₁ hZ hx hby hml hown hnm hret X0 e0
  have N0 := Fr.nil n0
  obtain ⟨cl5, Ar5, -, Sz5, Nn5, -, -⟩ := id (pr1.ext OL0.2)
  obtain ⟨_, T6, L6, X6, hQ6, st6⟩ := own_cP X0 hx hZ hown hml (cw13 hw) (rm16_0 l Z a0 hw a1 w3 k4 h0 n0 OL0 pr2 pr3 pr1 pr4 pr5 pr6 pr7) e0 pr5 7 #[rv a1, rv a2, rv w3, iv (0 : Int32)] [] [] 0 rfl (hb hby d15_7) (by decide)
  obtain ⟨b6_0, kx6_0, rfl, Nq6, K6, u6_0, u6_1, u6_2, u6_3, u6_4, u6_5, u6_6⟩ := hQ6
  have KK6 : Keep h0 T6.heap [a1] := (Keep.refl h0 [a1]).trans K6 (allS (Or.inl (List.mem_of_getElem? (i := 0) rfl)) all0)
  have g_b6_0 : n0 ≤ b6_0 := Nat.le_trans (Nat.le_trans (Nat.le_of_eq OL0.1.symm) OL0.2.1) u6_0
  have sz_b6_0 : h0.size ≤ b6_0 := Nat.le_trans (Keep.refl h0 [a1]).1 u6_0
  have N6 := Fr.app N0 Nq6
  obtain ⟨cl7, Ar7, q7, S7, M7, Hs7, G7⟩ := id u6_4
  have hin7 : ¬ ((0 : Int32) < 0 ∨ cl7.slots.size ≤ ((0 : Int32)).toNatClampNeg) := inb_of S7 ⟨by decide, by decide⟩
  have fc8 := (pr8.keep K6)
  obtain ⟨T9, h9, X9, e9, W9, st9⟩ := stR X6 hx hZ rfl Ar7 (j := (0 : Int32)) hin7 rfl (Sto.ofV Ar7 q7 u6_5 (Ins.of_exa fc8 (wd245 hw))) (g := (mkF m 14 #[rv a1, rv a2, rv b6_0, iv (0 : Int32)] [(.ref a2), (.int (0 : Int32)), (.ref b6_0)])) rfl rfl (hb hby d15_14)
  have V9 : Arv Z h9 b6_0 kx6_0 (.object s20) (10 : Int32) [(.ref a2), .null, .null, .null, .null, .null, .null, .null, .null, .null] .null := Arv.set Ar7 q7 S7 M7 Hs7 G7 rfl W9 0 rfl (Nat.le_of_ble_eq_true rfl)
  have KK9 : Keep h0 h9 [a1] := KK6.wr W9 (Or.inr sz_b6_0)
  have N9 := Fr.snoc X9 N6 g_b6_0
  have fc10 := ((pr5.keep K6).wr W9)
  have nz11 := nl pr7.lt sz_b6_0
  have fc12 := (u6_1.other W9 (Or.inl nz11))
  obtain ⟨T13, h13, X13, e13, W13, st13⟩ := putF X9 hx hZ hown (host := "") (Or.inl (wd91 hw)) Via.refl e9 fc12 fc10 (Or.inl (wd92 hw)) (wd46 hw) (ty := .int) (by decide) rfl rfl (g := (mkF m 19 #[rv a1, rv a2, rv b6_0, iv (0 : Int32)] [(.int (1 : Int32)), (.ref a1)])) rfl rfl (hb hby d15_19)
  have Fw13 := fc12.same W13
  have KK13 : Keep h0 h13 [a1] := KK9.wr W13 (Or.inl (List.mem_of_getElem? (i := 0) rfl))
  have N13 := Fr.snoc X13 N9 pr6
  have fc14 := ((u6_2.other W9 (Or.inl nz11)).other W13 (Or.inr (slot_ne (Or.inl (wd68 hw)) (Or.inl (wd92 hw)) (by decide) (t := (.array (.object s20))) (t' := .int) (by decide) (by decide))))
  have fc15 := ((u6_3.other W9 (Or.inl nz11)).other W13 (Or.inr (slot_ne (Or.inl (wd65 hw)) (Or.inl (wd92 hw)) (by decide) (t := .int) (t' := .int) (by decide) (by decide))))
  have fc16 := (V9.other W13 (Ne.symm nz11))
  have fc17 := ((u6_6.wr W9).wr W13)
  refine ⟨none, _, _, _, _, _, X13, e13, by decide, fun _ => rfl, fun fs hr => ?_, ?_⟩
  · refine xiloadN X0 hx hby d15_0 rfl ?_
    show SS p e below s₁ m 1 #[rv a1, rv a2, rv w3, iv (0 : Int32)] [(.int (0 : Int32))] _
    refine xaloadN X0 hx hby d15_1 rfl rfl ?_
    refine X0.arraylength hx (by rw [e0]; exact Ar5.1) (State.isArrayOf_alike hZ.alike Ar5.2.1) (g := (mkF m 2 #[rv a1, rv a2, rv w3, iv (0 : Int32)] [(.ref w3), (.int (0 : Int32))])) rfl rfl (hb hby d15_2) _ ?_
    rw [len_of Sz5 Nn5]
    refine XS.icmpNo X0.here hx rfl (hb hby d15_3) rfl (teq (rfl : (0 : Int32) = (0 : Int32))).2 ?_
    refine xaloadN X0 hx hby d15_6 rfl rfl ?_
    refine st6 _ ?_
    refine XS.astoreN X6.here hx rfl (hb hby d15_10) rfl rfl (l' := #[rv a1, rv a2, rv b6_0, iv (0 : Int32)]) rfl ?_
    refine xaloadN X6 hx hby d15_11 rfl rfl ?_
    refine xiloadN X6 hx hby d15_12 rfl ?_
    refine xaloadN X6 hx hby d15_13 rfl rfl ?_
    refine st9 _ ?_
    show SS p e below T9 m 15 #[rv a1, rv a2, rv b6_0, iv (0 : Int32)] [] _
    refine xaloadN X9 hx hby d15_15 rfl rfl ?_
    refine xiloadN X9 hx hby d15_16 rfl ?_
    refine XS.iconst X9.here hx rfl (hb hby d15_17) ?_
    refine XS.iadd X9.here hx rfl (hb hby d15_18) rfl ?_
    refine st13 _ ?_
    show SS p e below T13 m 22 #[rv a1, rv a2, rv b6_0, iv (0 : Int32)] [] _
    exact X13.returnOut hx hret (hb hby d15_22) hr
  · exact ⟨b6_0, kx6_0, rfl, N13, KK13, sz_b6_0, Fw13, fc14, fc15, fc16, u6_5, fc17⟩
theorem rm14_3 (l : Launch) (Z : State) (a0 : Array Value) (hw : HW a0 Z) (a1 a2 w5 : Addr) (k10 : ClassId) (h0 : Heap) (n0 : Nat) (OL0 : Old Z n0 h0) (pr1 : Fld Z h0 a1 s25 s41 "I" (.int (0 : Int32))) (pr2 : Exa Z h0 a1 s26) (pr3 : n0 ≤ a1) (pr4 : Fld Z h0 a1 s26 s12 s8 (.ref w5)) (pr5 : Fld Z h0 a1 s26 "size" "I" (.int (0 : Int32))) (pr6 : Arv Z Z.heap w5 k10 (.object s20) (0 : Int32) [] .null) (pr7 : Sta Z Z.heap s26 s0 s8 (.ref w5)) (pr8 : Exa Z h0 a2 s47) :
    MF l Z mn14 jdk_38_method_25_code 2 (some .boolean) ⟨4, 1, 10, 56⟩ #[(.ref a1), (.ref a2)] h0 (fun v h L => ∃ b11_0 : Addr, ∃ kx11_0 : ClassId, v = some (.int (1 : Int32)) ∧ Fr n0 L ∧ Keep h0 h [a1] ∧ h0.size ≤ b11_0 ∧ Fld Z h a1 s25 s41 "I" (.int (1 : Int32)) ∧ Fld Z h a1 s26 s12 s8 (.ref b11_0) ∧ Fld Z h a1 s26 "size" "I" (.int (1 : Int32)) ∧ Arv Z h b11_0 kx11_0 (.object s20) (10 : Int32) [(.ref a2), .null, .null, .null, .null, .null, .null, .null, .null, .null] .null ∧ Ovr Z kx11_0 s20 ∧ Exa Z h b11_0 s8) := by
  refine own_start (plainFor_of_name pn_6) (fun m => (ef_14_16 m a1 a2)) ?_
  intro p e s m below meth c s₁ hZ hx hby hml hown hnm hret X0 e0
  have N0 := Fr.nil n0
  obtain ⟨T3, X3, e3, st3⟩ := gF X0 hx hZ hown (wd89 hw) (Via.of (wd90 hw)) e0 pr1 2 #[rv a1, rv a2] [(.ref a1)] (hb hby d14_2)
  obtain ⟨T4, h4, X4, e4, W4, st4⟩ := putF X3 hx hZ hown (host := "") (Or.inl (wd89 hw)) (Via.of (wd90 hw)) e3 pr1 pr2 (Or.inl (wd65 hw)) (wd46 hw) (ty := .int) (by decide) rfl rfl (g := (mkF m 7 #[rv a1, rv a2] [(.int (1 : Int32)), (.ref a1)])) rfl rfl (hb hby d14_7)
  have Fw4 := pr1.same W4
  have KK4 : Keep h0 h4 [a1] := (Keep.refl h0 [a1]).wr W4 (Or.inl (List.mem_of_getElem? (i := 0) rfl))
  have OL4 := OL0.wr W4 pr3
  have N4 := Fr.snoc X4 N0 pr3
  have fc6 := (pr4.other W4 (Or.inr (slot_ne (Or.inl (wd68 hw)) (Or.inl (wd65 hw)) (by decide) (t := (.array (.object s20))) (t' := .int) (by decide) (by decide))))
  obtain ⟨T7, X7, e7, st7⟩ := gF X4 hx hZ hown (wd67 hw) Via.refl e4 fc6 13 #[rv a1, rv a2] [(.ref a2), (.ref a1)] (hb hby d14_13)
  have fc8 := (pr5.other W4 (Or.inr (slot_ne (Or.inl (wd92 hw)) (Or.inl (wd65 hw)) (by decide) (t := .int) (t' := .int) (by decide) (by decide))))
  obtain ⟨T9, X9, e9, st9⟩ := gF X7 hx hZ hown (wd91 hw) Via.refl e7 fc8 17 #[rv a1, rv a2] [(.ref w5), (.ref a2), (.ref a1)] (hb hby d14_17)
  have fc12 := (pr2.wr W4)
  have fc13 := (pr8.wr W4)
  obtain ⟨_, T11, L11, X11, hQ11, st11⟩ := own_cP X9 hx hZ hown hml (cw14 hw) (rm15_3 l Z a0 hw a1 a2 w5 k10 h4 n0 OL4 pr6 fc8 fc6 pr7 fc12 pr3 Fw4 fc13) e9 fc12 20 #[rv a1, rv a2] [(.ref a2), (.ref w5), (.int (0 : Int32))] [] 0 rfl (hb hby d14_20) (by decide)
  obtain ⟨b11_0, kx11_0, rfl, Nq11, K11, u11_0, u11_1, u11_2, u11_3, u11_4, u11_5, u11_6⟩ := hQ11
  have KK11 : Keep h0 T11.heap [a1] := KK4.trans K11 (allS (Or.inl (List.mem_of_getElem? (i := 0) rfl)) all0)
  have sz_b11_0 : h0.size ≤ b11_0 := Nat.le_trans KK4.1 u11_0
  have N11 := Fr.app N4 Nq11
  refine ⟨some (.int (1 : Int32)), _, _, _, _, _, X11, rfl, by decide, nofun, fun fs hr => ?_, ?_⟩
  · refine xaloadN X0 hx hby d14_0 rfl rfl ?_
    show SS p e below s₁ m 1 #[rv a1, rv a2] [(.ref a1)] _
    refine XS.dup X0.here hx rfl (hb hby d14_1) rfl rfl ?_
    refine st3 _ ?_
    refine XS.iconst X3.here hx rfl (hb hby d14_5) ?_
    refine XS.iadd X3.here hx rfl (hb hby d14_6) rfl ?_
    refine st4 _ ?_
    refine xaloadN X4 hx hby d14_10 rfl rfl ?_
    refine xaloadN X4 hx hby d14_11 rfl rfl ?_
    refine xaloadN X4 hx hby d14_12 rfl rfl ?_
    refine st7 _ ?_
    refine xaloadN X7 hx hby d14_16 rfl rfl ?_
    show SS p e below T7 m 17 #[rv a1, rv a2] [(.ref a1), (.ref w5), (.ref a2), (.ref a1)] _
    refine st9 _ ?_
    refine st11 _ ?_
    refine XS.iconst X11.here hx rfl (hb hby d14_23) ?_
    show SS p e below T11 m 24 #[rv a1, rv a2] [(.int (1 : Int32))] _
    exact retN X11 hx (t := .boolean) hret (by simp) (hb hby d14_24) hr
  · exact ⟨b11_0, kx11_0, rfl, N11, KK11, sz_b11_0, u11_3, u11_2, u11_1, u11_4, u11_5, u11_6⟩
theorem rm15_4 (l : Launch) (Z : State) (a0 : Array Value) (hw : HW a0 Z) (a1 a2 a3 a4 : Addr) (k5 : ClassId) (h0 : Heap) (n0 : Nat) (OL0 : Old Z n0 h0) (pr1 : Arv Z h0 a3 k5 (.object s20) (10 : Int32) [(.ref a4), .null, .null, .null, .null, .null, .null, .null, .null, .null] .null) (pr2 : n0 ≤ a3) (pr3 : Ovr Z k5 s20) (pr4 : Exa Z h0 a2 s47) (pr5 : Exa Z h0 a1 s26) (pr6 : Fld Z h0 a1 s26 "size" "I" (.int (1 : Int32))) (pr7 : a1 ≠ a3) (pr8 : n0 ≤ a1) (pr9 : Fld Z h0 a1 s25 s41 "I" (.int (2 : Int32))) (pr10 : Fld Z h0 a1 s26 s12 s8 (.ref a3)) (pr11 : a3 ≠ a1) :
    MF l Z mn15 jdk_38_method_24_code 4 none ⟨0, 0, 0, 0⟩ #[(.ref a1), (.ref a2), (.ref a3), (.int (1 : Int32))] h0 (fun v h L => v = none ∧ Fr n0 L ∧ Keep h0 h [a3, a1] ∧ Arv Z h a3 k5 (.object s20) (10 : Int32) [(.ref a4), (.ref a2), .null, .null, .null, .null, .null, .null, .null, .null] .null ∧ Fld Z h a1 s26 "size" "I" (.int (2 : Int32)) ∧ Fld Z h a1 s25 s41 "I" (.int (2 : Int32)) ∧ Fld Z h a1 s26 s12 s8 (.ref a3)) := by
  refine own_start (plainFor_of_name pn_6) (fun m => (ef_15_17 m a1 a2 a3)) ?_
  intro p e s m below meth c s₁ hZ hx hby hml hown hnm hret X0 e0
  have N0 := Fr.nil n0
  obtain ⟨cl6, Ar6, -, Sz6, Nn6, -, -⟩ := id pr1
  obtain ⟨cl7, Ar7, q7, S7, M7, Hs7, G7⟩ := id pr1
  have hin7 : ¬ ((1 : Int32) < 0 ∨ cl7.slots.size ≤ ((1 : Int32)).toNatClampNeg) := inb_of S7 ⟨by decide, by decide⟩
  obtain ⟨T8, h8, X8, e8, W8, st8⟩ := stR X0 hx hZ e0 Ar7 (j := (1 : Int32)) hin7 rfl (Sto.ofV Ar7 q7 pr3 (Ins.of_exa pr4 (wd245 hw))) (g := (mkF m 14 #[rv a1, rv a2, rv a3, iv (1 : Int32)] [(.ref a2), (.int (1 : Int32)), (.ref a3)])) rfl rfl (hb hby d15_14)
  have V8 : Arv Z h8 a3 k5 (.object s20) (10 : Int32) [(.ref a4), (.ref a2), .null, .null, .null, .null, .null, .null, .null, .null] .null := Arv.set Ar7 q7 S7 M7 Hs7 G7 rfl W8 1 rfl (Nat.le_of_ble_eq_true rfl)
  have KK8 : Keep h0 h8 [a3, a1] := (Keep.refl h0 [a3, a1]).wr W8 (Or.inl (List.mem_of_getElem? (i := 0) rfl))
  have N8 := Fr.snoc X8 N0 pr2
  have fc9 := (pr5.wr W8)
  have fc10 := (pr6.other W8 (Or.inl pr7))
  obtain ⟨T11, h11, X11, e11, W11, st11⟩ := putF X8 hx hZ hown (host := "") (Or.inl (wd91 hw)) Via.refl e8 fc10 fc9 (Or.inl (wd92 hw)) (wd46 hw) (ty := .int) (by decide) rfl rfl (g := (mkF m 19 #[rv a1, rv a2, rv a3, iv (1 : Int32)] [(.int (2 : Int32)), (.ref a1)])) rfl rfl (hb hby d15_19)
  have Fw11 := fc10.same W11
  have KK11 : Keep h0 h11 [a3, a1] := KK8.wr W11 (Or.inl (List.mem_of_getElem? (i := 1) rfl))
  have N11 := Fr.snoc X11 N8 pr8
  have fc12 := ((pr9.other W8 (Or.inl pr7)).other W11 (Or.inr (slot_ne (Or.inl (wd65 hw)) (Or.inl (wd92 hw)) (by decide) (t := .int) (t' := .int) (by decide) (by decide))))
  have fc13 := ((pr10.other W8 (Or.inl pr7)).other W11 (Or.inr (slot_ne (Or.inl (wd68 hw)) (Or.inl (wd92 hw)) (by decide) (t := (.array (.object s20))) (t' := .int) (by decide) (by decide))))
  have fc14 := (V8.other W11 pr11)
  refine ⟨none, _, _, _, _, _, X11, e11, by decide, fun _ => rfl, fun fs hr => ?_, ?_⟩
  · refine xiloadN X0 hx hby d15_0 rfl ?_
    show SS p e below s₁ m 1 #[rv a1, rv a2, rv a3, iv (1 : Int32)] [(.int (1 : Int32))] _
    refine xaloadN X0 hx hby d15_1 rfl rfl ?_
    refine X0.arraylength hx (by rw [e0]; exact Ar6.1) (State.isArrayOf_alike hZ.alike Ar6.2.1) (g := (mkF m 2 #[rv a1, rv a2, rv a3, iv (1 : Int32)] [(.ref a3), (.int (1 : Int32))])) rfl rfl (hb hby d15_2) _ ?_
    rw [len_of Sz6 Nn6]
    refine XS.icmpYes X0.here hx rfl (pc0 := 3) (pc' := 11) rfl (hb hby d15_3) rfl (feq (by decide : ¬ ((1 : Int32) = (10 : Int32)))).2 (by decide) (by decide) ?_
    refine xaloadN X0 hx hby d15_11 rfl rfl ?_
    refine xiloadN X0 hx hby d15_12 rfl ?_
    refine xaloadN X0 hx hby d15_13 rfl rfl ?_
    refine st8 _ ?_
    refine xaloadN X8 hx hby d15_15 rfl rfl ?_
    refine xiloadN X8 hx hby d15_16 rfl ?_
    refine XS.iconst X8.here hx rfl (hb hby d15_17) ?_
    show SS p e below T8 m 18 #[rv a1, rv a2, rv a3, iv (1 : Int32)] [(.int (1 : Int32)), (.int (1 : Int32)), (.ref a1)] _
    refine XS.iadd X8.here hx rfl (hb hby d15_18) rfl ?_
    refine st11 _ ?_
    show SS p e below T11 m 22 #[rv a1, rv a2, rv a3, iv (1 : Int32)] [] _
    exact X11.returnOut hx hret (hb hby d15_22) hr
  · exact ⟨rfl, N11, KK11, fc14, Fw11, fc12, fc13⟩
theorem rm14_4 (l : Launch) (Z : State) (a0 : Array Value) (hw : HW a0 Z) (a1 a2 a5 a10 : Addr) (k11 : ClassId) (h0 : Heap) (n0 : Nat) (OL0 : Old Z n0 h0) (pr1 : Fld Z h0 a1 s25 s41 "I" (.int (1 : Int32))) (pr2 : Exa Z h0 a1 s26) (pr3 : n0 ≤ a1) (pr4 : Fld Z h0 a1 s26 s12 s8 (.ref a5)) (pr5 : Fld Z h0 a1 s26 "size" "I" (.int (1 : Int32))) (pr6 : Arv Z h0 a5 k11 (.object s20) (10 : Int32) [(.ref a10), .null, .null, .null, .null, .null, .null, .null, .null, .null] .null) (pr7 : a5 ≠ a1) (pr8 : n0 ≤ a5) (pr9 : Ovr Z k11 s20) (pr10 : Exa Z h0 a2 s47) (pr11 : a1 ≠ a5) :
    MF l Z mn14 jdk_38_method_25_code 2 (some .boolean) ⟨1, 0, 0, 15⟩ #[(.ref a1), (.ref a2)] h0 (fun v h L => v = some (.int (1 : Int32)) ∧ Fr n0 L ∧ Keep h0 h [a1, a5] ∧ Fld Z h a1 s25 s41 "I" (.int (2 : Int32)) ∧ Fld Z h a1 s26 s12 s8 (.ref a5) ∧ Fld Z h a1 s26 "size" "I" (.int (2 : Int32)) ∧ Arv Z h a5 k11 (.object s20) (10 : Int32) [(.ref a10), (.ref a2), .null, .null, .null, .null, .null, .null, .null, .null] .null) := by
  refine own_start (plainFor_of_name pn_6) (fun m => (ef_14_16 m a1 a2)) ?_
  intro p e s m below meth c s₁ hZ hx hby hml hown hnm hret X0 e0
  have N0 := Fr.nil n0
  obtain ⟨T3, X3, e3, st3⟩ := gF X0 hx hZ hown (wd89 hw) (Via.of (wd90 hw)) e0 pr1 2 #[rv a1, rv a2] [(.ref a1)] (hb hby d14_2)
  obtain ⟨T4, h4, X4, e4, W4, st4⟩ := putF X3 hx hZ hown (host := "") (Or.inl (wd89 hw)) (Via.of (wd90 hw)) e3 pr1 pr2 (Or.inl (wd65 hw)) (wd46 hw) (ty := .int) (by decide) rfl rfl (g := (mkF m 7 #[rv a1, rv a2] [(.int (2 : Int32)), (.ref a1)])) rfl rfl (hb hby d14_7)
  have Fw4 := pr1.same W4
  have KK4 : Keep h0 h4 [a1, a5] := (Keep.refl h0 [a1, a5]).wr W4 (Or.inl (List.mem_of_getElem? (i := 0) rfl))
  have OL4 := OL0.wr W4 pr3
  have N4 := Fr.snoc X4 N0 pr3
  have fc6 := (pr4.other W4 (Or.inr (slot_ne (Or.inl (wd68 hw)) (Or.inl (wd65 hw)) (by decide) (t := (.array (.object s20))) (t' := .int) (by decide) (by decide))))
  obtain ⟨T7, X7, e7, st7⟩ := gF X4 hx hZ hown (wd67 hw) Via.refl e4 fc6 13 #[rv a1, rv a2] [(.ref a2), (.ref a1)] (hb hby d14_13)
  have fc8 := (pr5.other W4 (Or.inr (slot_ne (Or.inl (wd92 hw)) (Or.inl (wd65 hw)) (by decide) (t := .int) (t' := .int) (by decide) (by decide))))
  obtain ⟨T9, X9, e9, st9⟩ := gF X7 hx hZ hown (wd91 hw) Via.refl e7 fc8 17 #[rv a1, rv a2] [(.ref a5), (.ref a2), (.ref a1)] (hb hby d14_17)
  have fc13 := (pr6.other W4 pr7)
  have fc14 := (pr10.wr W4)
  have fc15 := (pr2.wr W4)
  obtain ⟨_, T12, L12, X12, hQ12, st12⟩ := own_cP X9 hx hZ hown hml (cw14 hw) (rm15_4 l Z a0 hw a1 a2 a5 a10 k11 h4 n0 OL4 fc13 pr8 pr9 fc14 fc15 fc8 pr11 pr3 Fw4 fc6 pr7) e9 fc15 20 #[rv a1, rv a2] [(.ref a2), (.ref a5), (.int (1 : Int32))] [] 0 rfl (hb hby d14_20) (by decide)
  obtain ⟨rfl, Nq12, K12, u12_0, u12_1, u12_2, u12_3⟩ := hQ12
  have KK12 : Keep h0 T12.heap [a1, a5] := KK4.trans K12 (allS (Or.inl (List.mem_of_getElem? (i := 1) rfl)) (allS (Or.inl (List.mem_of_getElem? (i := 0) rfl)) all0))
  have N12 := Fr.app N4 Nq12
  refine ⟨some (.int (1 : Int32)), _, _, _, _, _, X12, rfl, by decide, nofun, fun fs hr => ?_, ?_⟩
  · refine xaloadN X0 hx hby d14_0 rfl rfl ?_
    show SS p e below s₁ m 1 #[rv a1, rv a2] [(.ref a1)] _
    refine XS.dup X0.here hx rfl (hb hby d14_1) rfl rfl ?_
    refine st3 _ ?_
    refine XS.iconst X3.here hx rfl (hb hby d14_5) ?_
    refine XS.iadd X3.here hx rfl (hb hby d14_6) rfl ?_
    refine st4 _ ?_
    refine xaloadN X4 hx hby d14_10 rfl rfl ?_
    refine xaloadN X4 hx hby d14_11 rfl rfl ?_
    refine xaloadN X4 hx hby d14_12 rfl rfl ?_
    refine st7 _ ?_
    refine xaloadN X7 hx hby d14_16 rfl rfl ?_
    show SS p e below T7 m 17 #[rv a1, rv a2] [(.ref a1), (.ref a5), (.ref a2), (.ref a1)] _
    refine st9 _ ?_
    refine st12 _ ?_
    refine XS.iconst X12.here hx rfl (hb hby d14_23) ?_
    show SS p e below T12 m 24 #[rv a1, rv a2] [(.int (1 : Int32))] _
    exact retN X12 hx (t := .boolean) hret (by simp) (hb hby d14_24) hr
  · exact ⟨rfl, N12, KK12, u12_2, u12_3, u12_1, u12_0⟩
theorem d37_0 : DC cb37 0 (.aload_n 0) 1 := by decide +kernel
theorem d37_1 : DC cb37 1 (.invokespecial 1) 3 := by decide +kernel
theorem d37_4 : DC cb37 4 (.aload_n 0) 1 := by decide +kernel
theorem d37_5 : DC cb37 5 (.iload_n 1) 1 := by decide +kernel
theorem d37_6 : DC cb37 6 (.putfield 7) 3 := by decide +kernel
theorem d37_9 : DC cb37 9 (.aload_n 0) 1 := by decide +kernel
theorem d37_10 : DC cb37 10 (.aload_n 2) 1 := by decide +kernel
theorem d37_11 : DC cb37 11 (.invokeinterface 13 1) 5 := by decide +kernel
theorem d38_0 : DC cb38 0 (.aload_n 0) 1 := by decide +kernel
theorem d38_1 : DC cb38 1 (.getfield 48) 3 := by decide +kernel
theorem d38_4 : DC cb38 4 (.ireturn) 1 := by decide +kernel
theorem ef_38_39 (m : MethodId) (x0 : Addr) : entryFrame m #[(.ref x0)] 1 = mkF m 0 #[.val (.ref x0)] [] := by first | (simp [entryFrame, mkF, argsToLocals, Value.category]; done) | rfl
theorem rm38_0 (l : Launch) (Z : State) (a0 : Array Value) (hw : HW a0 Z) (a1 : Addr) (h0 : Heap) (n0 : Nat) (OL0 : Old Z n0 h0) (pr1 : Fld Z h0 a1 s26 "size" "I" (.int (2 : Int32))) :
    MF l Z mn38 jdk_38_method_8_code 1 (some .int) ⟨0, 0, 0, 0⟩ #[(.ref a1)] h0 (QR n0 h0 (some (.int (2 : Int32)))) := by
  refine own_start (plainFor_of_name pn_6) (fun m => (ef_38_39 m a1)) ?_
  intro p e s m below meth c s₁ hZ hx hby hml hown hnm hret X0 e0
  have N0 := Fr.nil n0
  obtain ⟨T2, X2, e2, st2⟩ := gF X0 hx hZ hown (wd91 hw) Via.refl e0 pr1 1 #[rv a1] [] (hb hby d38_1)
  refine ⟨some (.int (2 : Int32)), _, _, _, _, _, X2, e2, by decide, nofun, fun fs hr => ?_, ?_⟩
  · refine xaloadN X0 hx hby d38_0 rfl rfl ?_
    show SS p e below s₁ m 1 #[rv a1] [(.ref a1)] _
    refine st2 _ ?_
    show SS p e below T2 m 4 #[rv a1] [(.int (2 : Int32))] _
    exact retI X2 hx hret (hb hby d38_4) hr
  · exact ⟨rfl, N0, rfl⟩
theorem pd_24 : parseMethodDescriptor "()I" = some ⟨[], some .int⟩ := by decide +kernel
theorem cw38 {a0 Z} (hw : HW a0 Z) : CI a0 Z s43 13 (⟨s37, "size", "()I"⟩ : MethodName) mn38 s26 0 (.code mn38 jdk_38_method_8_code 1 (some .int)) :=
  ⟨wx hw 255 rfl, wx hw 256 rfl, ⟨wx hw 257 rfl, by first | rfl | simp [Cond.onTables, Cond.keepsFace, Cond.keeps, Cond.steady]⟩, wx hw 258 rfl, wx hw 259 rfl, wx hw 260 rfl, wx hw 261 rfl, wx hw 262 rfl, wx hw 263 rfl, wx hw 47 rfl, by decide, _, _, pd_24, rfl⟩
theorem d37_16 : DC cb37 16 (.iload_n 1) 1 := by decide +kernel
theorem d37_17 : DC cb37 17 (.imul) 1 := by decide +kernel
theorem d37_18 : DC cb37 18 (.iconst 2) 1 := by decide +kernel
theorem d37_19 : DC cb37 19 (.imul) 1 := by decide +kernel
theorem d37_20 : DC cb37 20 (.newarray .long) 2 := by decide +kernel
theorem d37_22 : DC cb37 22 (.putfield 19) 3 := by decide +kernel
theorem d37_25 : DC cb37 25 (.iconst 0) 1 := by decide +kernel
theorem d37_26 : DC cb37 26 (.istore_n 3) 1 := by decide +kernel
theorem d37_27 : DC cb37 27 (.aload_n 2) 1 := by decide +kernel
theorem d37_28 : DC cb37 28 (.invokeinterface 23 1) 5 := by decide +kernel
theorem d39_0 : DC cb39 0 (.new 267) 3 := by decide +kernel
theorem d39_3 : DC cb39 3 (.dup) 1 := by decide +kernel
theorem d39_4 : DC cb39 4 (.aload_n 0) 1 := by decide +kernel
theorem d39_5 : DC cb39 5 (.invokespecial 269) 3 := by decide +kernel
theorem d40_0 : DC cb40 0 (.aload_n 0) 1 := by decide +kernel
theorem d40_1 : DC cb40 1 (.aload_n 1) 1 := by decide +kernel
theorem d40_2 : DC cb40 2 (.putfield 1) 3 := by decide +kernel
theorem d40_5 : DC cb40 5 (.aload_n 0) 1 := by decide +kernel
theorem d40_6 : DC cb40 6 (.invokespecial 7) 3 := by decide +kernel
theorem d40_9 : DC cb40 9 (.aload_n 0) 1 := by decide +kernel
theorem d40_10 : DC cb40 10 (.iconst (-1)) 1 := by decide +kernel
theorem d40_11 : DC cb40 11 (.putfield 13) 3 := by decide +kernel
theorem d40_14 : DC cb40 14 (.aload_n 0) 1 := by decide +kernel
theorem d40_15 : DC cb40 15 (.aload_n 0) 1 := by decide +kernel
theorem d40_16 : DC cb40 16 (.getfield 1) 3 := by decide +kernel
theorem d40_19 : DC cb40 19 (.getfield 17) 3 := by decide +kernel
theorem d40_22 : DC cb40 22 (.putfield 22) 3 := by decide +kernel
theorem d40_25 : DC cb40 25 (.return_) 1 := by decide +kernel
theorem ef_40_40 (m : MethodId) (x0 : Addr) (x1 : Addr) : entryFrame m #[(.ref x0), (.ref x1)] 2 = mkF m 0 #[.val (.ref x0), .val (.ref x1)] [] := by first | (simp [entryFrame, mkF, argsToLocals, Value.category]; done) | rfl
theorem pn_17 : plainName "java/util/ArrayList$Itr" = true := by first | (simp [plainName, overriddenIn]; done) | decide +kernel
theorem rm40_0 (l : Launch) (Z : State) (a0 : Array Value) (hw : HW a0 Z) (a1 a2 : Addr) (h0 : Heap) (n0 : Nat) (OL0 : Old Z n0 h0) (pr1 : Exa Z h0 a1 s27) (pr2 : Fld Z h0 a1 s27 "this$0" s4 .null) (pr3 : n0 ≤ a1) (pr4 : Fld Z h0 a1 s27 "lastRet" "I" (.int (0 : Int32))) (pr5 : Fld Z h0 a2 s25 s41 "I" (.int (2 : Int32))) (pr6 : a2 ≠ a1) (pr7 : Fld Z h0 a1 s27 s14 "I" (.int (0 : Int32))) (pr8 : Fld Z h0 a1 s27 "cursor" "I" (.int (0 : Int32))) :
    MF l Z mn40 jdk_49_method_1_code 2 none ⟨1, 0, 0, 12⟩ #[(.ref a1), (.ref a2)] h0 (fun v h L => v = none ∧ Fr n0 L ∧ Keep h0 h [a1] ∧ Fld Z h a1 s27 "this$0" s4 (.ref a2) ∧ Fld Z h a1 s27 "lastRet" "I" (.int (-1 : Int32)) ∧ Fld Z h a1 s27 s14 "I" (.int (2 : Int32)) ∧ Fld Z h a1 s27 "cursor" "I" (.int (0 : Int32))) := by
  refine own_start (plainFor_of_name pn_17) (fun m => (ef_40_40 m a1 a2)) ?_
  intro p e s m below meth c s₁ hZ hx hby hml hown hnm hret X0 e0
  have N0 := Fr.nil n0
  obtain ⟨T3, h3, X3, e3, W3, st3⟩ := putF X0 hx hZ hown (host := "") (Or.inl (wd281 hw)) Via.refl e0 pr2 pr1 (Or.inr ⟨(wd282 hw), rfl, hnm⟩) (wd275 hw) (ty := (.object s26)) (by decide) rfl rfl (g := (mkF m 2 #[rv a1, rv a2] [(.ref a2), (.ref a1)])) rfl rfl (hb hby d40_2)
  have Fw3 := pr2.same W3
  have KK3 : Keep h0 h3 [a1] := (Keep.refl h0 [a1]).wr W3 (Or.inl (List.mem_of_getElem? (i := 0) rfl))
  have N3 := Fr.snoc X3 N0 pr3
  obtain ⟨T4, X4, e4, st4⟩ := initO X3 hx hZ hown (wd283 hw) (wd36 hw) (wd37 hw) e3 (g := (mkF m 6 #[rv a1, rv a2] [(.ref a1)])) rfl (by rw [hml]; rfl) rfl (hb hby d40_6) (by decide) (W := 0) (by show 2 * 0 + _ ≤ _; exact Nat.le_of_eq rfl) (by decide)
  have fc5 := (pr1.wr W3)
  have fc6 := (pr4.other W3 (Or.inr (slot_ne (Or.inl (wd285 hw)) (Or.inr (wd282 hw)) (by decide) (t := .int) (t' := (.object s26)) (by decide) (by decide))))
  obtain ⟨T7, h7, X7, e7, W7, st7⟩ := putF X4 hx hZ hown (host := "") (Or.inl (wd284 hw)) Via.refl e4 fc6 fc5 (Or.inl (wd285 hw)) (wd275 hw) (ty := .int) (by decide) rfl rfl (g := (mkF m 11 #[rv a1, rv a2] [(.int (-1 : Int32)), (.ref a1)])) rfl rfl (hb hby d40_11)
  have Fw7 := fc6.same W7
  have KK7 : Keep h0 h7 [a1] := KK3.wr W7 (Or.inl (List.mem_of_getElem? (i := 0) rfl))
  have N7 := Fr.snoc X7 N3 pr3
  have fc8 := (Fw3.other W7 (Or.inr (slot_ne (Or.inr (wd282 hw)) (Or.inl (wd285 hw)) (by decide) (t := (.object s26)) (t' := .int) (by decide) (by decide))))
  obtain ⟨T9, X9, e9, st9⟩ := gF X7 hx hZ hown (wd281 hw) Via.refl e7 fc8 16 #[rv a1, rv a2] [(.ref a1)] (hb hby d40_16)
  have fc10 := ((pr5.other W3 (Or.inl pr6)).other W7 (Or.inl pr6))
  obtain ⟨T11, X11, e11, st11⟩ := gF X9 hx hZ hown (wd286 hw) (Via.of (wd90 hw)) e9 fc10 19 #[rv a1, rv a2] [(.ref a1)] (hb hby d40_19)
  have fc12 := (fc5.wr W7)
  have fc13 := ((pr7.other W3 (Or.inr (slot_ne (Or.inl (wd288 hw)) (Or.inr (wd282 hw)) (by decide) (t := .int) (t' := (.object s26)) (by decide) (by decide)))).other W7 (Or.inr (slot_ne (Or.inl (wd288 hw)) (Or.inl (wd285 hw)) (by decide) (t := .int) (t' := .int) (by decide) (by decide))))
  obtain ⟨T14, h14, X14, e14, W14, st14⟩ := putF X11 hx hZ hown (host := "") (Or.inl (wd287 hw)) Via.refl e11 fc13 fc12 (Or.inl (wd288 hw)) (wd275 hw) (ty := .int) (by decide) rfl rfl (g := (mkF m 22 #[rv a1, rv a2] [(.int (2 : Int32)), (.ref a1)])) rfl rfl (hb hby d40_22)
  have Fw14 := fc13.same W14
  have KK14 : Keep h0 h14 [a1] := KK7.wr W14 (Or.inl (List.mem_of_getElem? (i := 0) rfl))
  have N14 := Fr.snoc X14 N7 pr3
  have fc15 := (fc8.other W14 (Or.inr (slot_ne (Or.inr (wd282 hw)) (Or.inl (wd288 hw)) (by decide) (t := (.object s26)) (t' := .int) (by decide) (by decide))))
  have fc16 := (Fw7.other W14 (Or.inr (slot_ne (Or.inl (wd285 hw)) (Or.inl (wd288 hw)) (by decide) (t := .int) (t' := .int) (by decide) (by decide))))
  have fc17 := (((pr8.other W3 (Or.inr (slot_ne (Or.inl (wd299 hw)) (Or.inr (wd282 hw)) (by decide) (t := .int) (t' := (.object s26)) (by decide) (by decide)))).other W7 (Or.inr (slot_ne (Or.inl (wd299 hw)) (Or.inl (wd285 hw)) (by decide) (t := .int) (t' := .int) (by decide) (by decide)))).other W14 (Or.inr (slot_ne (Or.inl (wd299 hw)) (Or.inl (wd288 hw)) (by decide) (t := .int) (t' := .int) (by decide) (by decide))))
  refine ⟨none, _, _, _, _, _, X14, e14, by decide, fun _ => rfl, fun fs hr => ?_, ?_⟩
  · refine xaloadN X0 hx hby d40_0 rfl rfl ?_
    show SS p e below s₁ m 1 #[rv a1, rv a2] [(.ref a1)] _
    refine xaloadN X0 hx hby d40_1 rfl rfl ?_
    refine st3 _ ?_
    refine xaloadN X3 hx hby d40_5 rfl rfl ?_
    refine st4 _ ?_
    refine xaloadN X4 hx hby d40_9 rfl rfl ?_
    refine XS.iconst X4.here hx rfl (hb hby d40_10) ?_
    refine st7 _ ?_
    refine xaloadN X7 hx hby d40_14 rfl rfl ?_
    refine xaloadN X7 hx hby d40_15 rfl rfl ?_
    refine st9 _ ?_
    show SS p e below T9 m 19 #[rv a1, rv a2] [(.ref a2), (.ref a1)] _
    refine st11 _ ?_
    refine st14 _ ?_
    show SS p e below T14 m 25 #[rv a1, rv a2] [] _
    exact X14.returnOut hx hret (hb hby d40_25) hr
  · exact ⟨rfl, N14, KK14, fc15, fc16, Fw14, fc17⟩
theorem pd_25 : parseMethodDescriptor "(Ljava/util/ArrayList;)V" = some ⟨[(.object "java/util/ArrayList")], none⟩ := by decide +kernel
theorem cw39 {a0 Z} (hw : HW a0 Z) : CN a0 Z s26 269 mn40 1 (.code mn40 jdk_49_method_1_code 2 none) :=
  ⟨rfl, wx hw 277 rfl, wx hw 278 rfl, wx hw 280 rfl, wx hw 276 rfl, by decide, _, _, pd_25, rfl⟩
theorem d39_8 : DC cb39 8 (.areturn) 1 := by decide +kernel
theorem ef_39_41 (m : MethodId) (x0 : Addr) : entryFrame m #[(.ref x0)] 1 = mkF m 0 #[.val (.ref x0)] [] := by first | (simp [entryFrame, mkF, argsToLocals, Value.category]; done) | rfl
theorem rm39_0 (l : Launch) (Z : State) (a0 : Array Value) (hw : HW a0 Z) (a1 : Addr) (h0 : Heap) (n0 : Nat) (OL0 : Old Z n0 h0) (pr1 : Fld Z h0 a1 s25 s41 "I" (.int (2 : Int32))) :
    MF l Z mn39 jdk_38_method_55_code 1 (some (.object s36)) ⟨2, 1, 4, 26⟩ #[(.ref a1)] h0 (fun v h L => ∃ b2 : Addr, v = some (.ref b2) ∧ Fr n0 L ∧ Keep h0 h [] ∧ h0.size ≤ b2 ∧ Exa Z h b2 s27 ∧ Fld Z h b2 s27 "this$0" s4 (.ref a1) ∧ Fld Z h b2 s27 "lastRet" "I" (.int (-1 : Int32)) ∧ Fld Z h b2 s27 s14 "I" (.int (2 : Int32)) ∧ Fld Z h b2 s27 "cursor" "I" (.int (0 : Int32))) := by
  refine own_start (plainFor_of_name pn_6) (fun m => (ef_39_41 m a1)) ?_
  intro p e s m below meth c s₁ hZ hx hby hml hown hnm hret X0 e0
  have N0 := Fr.nil n0
  obtain ⟨T2, h2, X2, e2, E2, A2, D2, -, st2⟩ := newO X0 hx hZ hown (wd274 hw) (wd275 hw) (wd276 hw) e0 (g := (mkF m 0 #[rv a1] [])) rfl (hb hby d39_0) (by decide) (by decide)
  obtain ⟨b2, g2⟩ : ∃ z, z = h0.size := ⟨_, rfl⟩
  rw [← g2] at A2 D2 st2
  have g_b2 : n0 ≤ b2 := (Nat.le_trans (Nat.le_trans (Nat.le_of_eq OL0.1.symm) OL0.2.1) (Nat.le_of_eq g2.symm))
  have sz_b2 : h0.size ≤ b2 := (Nat.le_trans (Keep.refl h0 []).1 (Nat.le_of_eq g2.symm))
  have KK2 : Keep h0 h2 [] := (Keep.refl h0 []).ext E2
  have OL2 := OL0.ext E2
  have F_this_0_b2 : Fld Z h2 b2 s27 "this$0" s4 .null := D2 (Or.inr (wd282 hw)) (ty := (.object s26)) (by decide)
  have F_lastRet_b2 : Fld Z h2 b2 s27 "lastRet" "I" (.int (0 : Int32)) := D2 (Or.inl (wd285 hw)) (ty := .int) (by decide)
  have F_expectedModCount_b2 : Fld Z h2 b2 s27 s14 "I" (.int (0 : Int32)) := D2 (Or.inl (wd288 hw)) (ty := .int) (by decide)
  have F_cursor_b2 : Fld Z h2 b2 s27 "cursor" "I" (.int (0 : Int32)) := D2 (Or.inl (wd299 hw)) (ty := .int) (by decide)
  have fc4 := (pr1.ext E2)
  have nz5 := nl pr1.lt sz_b2
  obtain ⟨_, T3, L3, X3, hQ3, st3⟩ := own_cN X2 hx hZ hown hml (cw39 hw) (rm40_0 l Z a0 hw b2 a1 h2 n0 OL2 A2 F_this_0_b2 g_b2 F_lastRet_b2 fc4 nz5 F_expectedModCount_b2 F_cursor_b2) e2 b2 5 #[rv a1] [(.ref a1)] [(.ref b2)] 1 rfl (hb hby d39_5) (by decide)
  obtain ⟨rfl, Nq3, K3, u3_0, u3_1, u3_2, u3_3⟩ := hQ3
  have KK3 : Keep h0 T3.heap [] := KK2.trans K3 (allS (Or.inr sz_b2) all0)
  have N3 := Fr.app N0 Nq3
  have fc6 := (A2.keep K3)
  refine ⟨some (.ref b2), _, _, _, _, _, X3, rfl, by decide, nofun, fun fs hr => ?_, ?_⟩
  · refine st2 _ ?_
    show SS p e below T2 m 3 #[rv a1] [(.ref b2)] _
    refine XS.dup X2.here hx rfl (hb hby d39_3) rfl rfl ?_
    refine xaloadN X2 hx hby d39_4 rfl rfl ?_
    refine st3 _ ?_
    show SS p e below T3 m 8 #[rv a1] [(.ref b2)] _
    exact own_retR X3 hx hret rfl rfl rfl (hb hby d39_8) hr
  · exact ⟨b2, rfl, N3, KK3, sz_b2, fc6, u3_0, u3_1, u3_2, u3_3⟩
theorem pd_26 : parseMethodDescriptor "()Ljava/util/Iterator;" = some ⟨[], some (.object "java/util/Iterator")⟩ := by decide +kernel
theorem cw40 {a0 Z} (hw : HW a0 Z) : CI a0 Z s43 23 (⟨s37, s18, "()Ljava/util/Iterator;"⟩ : MethodName) mn39 s26 0 (.code mn39 jdk_38_method_55_code 1 (some (.object s36))) :=
  ⟨wx hw 266 rfl, wx hw 267 rfl, ⟨wx hw 268 rfl, by first | rfl | simp [Cond.onTables, Cond.keepsFace, Cond.keeps, Cond.steady]⟩, wx hw 269 rfl, wx hw 270 rfl, wx hw 271 rfl, wx hw 272 rfl, wx hw 262 rfl, wx hw 273 rfl, wx hw 47 rfl, by decide, _, _, pd_26, rfl⟩
theorem d37_33 : DC cb37 33 (.astore 4) 2 := by decide +kernel
theorem d37_35 : DC cb37 35 (.aload 4) 2 := by decide +kernel
theorem d37_37 : DC cb37 37 (.invokeinterface 27 1) 5 := by decide +kernel
theorem d41_0 : DC cb41 0 (.aload_n 0) 1 := by decide +kernel
theorem d41_1 : DC cb41 1 (.getfield 25) 3 := by decide +kernel
theorem d41_4 : DC cb41 4 (.aload_n 0) 1 := by decide +kernel
theorem d41_5 : DC cb41 5 (.getfield 1) 3 := by decide +kernel
theorem d41_8 : DC cb41 8 (.getfield 28) 3 := by decide +kernel
theorem d41_11 : DC cb41 11 (.if_icmp .eq 7) 3 := by decide +kernel
theorem d41_14 : DC cb41 14 (.iconst 1) 1 := by decide +kernel
theorem d41_15 : DC cb41 15 (.goto 4) 3 := by decide +kernel
theorem d41_19 : DC cb41 19 (.ireturn) 1 := by decide +kernel
theorem ef_41_42 (m : MethodId) (x0 : Addr) : entryFrame m #[(.ref x0)] 1 = mkF m 0 #[.val (.ref x0)] [] := by first | (simp [entryFrame, mkF, argsToLocals, Value.category]; done) | rfl
theorem rm41_0 (l : Launch) (Z : State) (a0 : Array Value) (hw : HW a0 Z) (a1 a3 : Addr) (h0 : Heap) (n0 : Nat) (OL0 : Old Z n0 h0) (pr1 : Fld Z h0 a1 s27 "cursor" "I" (.int (0 : Int32))) (pr2 : Fld Z h0 a1 s27 "this$0" s4 (.ref a3)) (pr3 : Fld Z h0 a3 s26 "size" "I" (.int (2 : Int32))) :
    MF l Z mn41 jdk_49_method_2_code 1 (some .boolean) ⟨0, 0, 0, 0⟩ #[(.ref a1)] h0 (QR n0 h0 (some (.int (1 : Int32)))) := by
  refine own_start (plainFor_of_name pn_17) (fun m => (ef_41_42 m a1)) ?_
  intro p e s m below meth c s₁ hZ hx hby hml hown hnm hret X0 e0
  have N0 := Fr.nil n0
  obtain ⟨T2, X2, e2, st2⟩ := gF X0 hx hZ hown (wd298 hw) Via.refl e0 pr1 1 #[rv a1] [] (hb hby d41_1)
  obtain ⟨T4, X4, e4, st4⟩ := gF X2 hx hZ hown (wd281 hw) Via.refl e2 pr2 5 #[rv a1] [(.int (0 : Int32))] (hb hby d41_5)
  obtain ⟨T5, X5, e5, st5⟩ := getF X4 hx hZ hown (Or.inr (wd300 hw)) Via.refl e4 pr3 (g := (mkF m 8 #[rv a1] [(.ref a3), (.int (0 : Int32))])) rfl rfl (hb hby d41_8)
  refine ⟨some (.int (1 : Int32)), _, _, _, _, _, X5, e5, by decide, nofun, fun fs hr => ?_, ?_⟩
  · refine xaloadN X0 hx hby d41_0 rfl rfl ?_
    show SS p e below s₁ m 1 #[rv a1] [(.ref a1)] _
    refine st2 _ ?_
    refine xaloadN X2 hx hby d41_4 rfl rfl ?_
    refine st4 _ ?_
    refine st5 _ ?_
    refine XS.icmpNo X5.here hx rfl (hb hby d41_11) rfl (feq (by decide : ¬ ((0 : Int32) = (2 : Int32)))).1 ?_
    refine XS.iconst X5.here hx rfl (hb hby d41_14) ?_
    refine XS.goto X5.here hx rfl (pc0 := 15) (pc' := 19) rfl (hb hby d41_15) (by decide) (by decide) ?_
    show SS p e below T5 m 19 #[rv a1] [(.int (1 : Int32))] _
    exact retN X5 hx (t := .boolean) hret (by simp) (hb hby d41_19) hr
  · exact ⟨rfl, N0, rfl⟩
theorem cw41 {a0 Z} (hw : HW a0 Z) : CI a0 Z s43 27 (⟨s36, "hasNext", "()Z"⟩ : MethodName) mn41 s27 0 (.code mn41 jdk_49_method_2_code 1 (some .boolean)) :=
  ⟨wx hw 289 rfl, wx hw 290 rfl, ⟨wx hw 291 rfl, by first | rfl | simp [Cond.onTables, Cond.keepsFace, Cond.keeps, Cond.steady]⟩, wx hw 292 rfl, wx hw 293 rfl, wx hw 294 rfl, wx hw 295 rfl, wx hw 296 rfl, wx hw 297 rfl, wx hw 276 rfl, by decide, _, _, pd_12, rfl⟩
theorem d37_42 : DC cb37 42 (.ifCond .eq 152) 3 := by decide +kernel
theorem d37_45 : DC cb37 45 (.aload 4) 2 := by decide +kernel
theorem d37_47 : DC cb37 47 (.invokeinterface 33 1) 5 := by decide +kernel
theorem d42_0 : DC cb42 0 (.aload_n 0) 1 := by decide +kernel
theorem d42_1 : DC cb42 1 (.invokevirtual 31) 3 := by decide +kernel
theorem d43_0 : DC cb43 0 (.aload_n 0) 1 := by decide +kernel
theorem d43_1 : DC cb43 1 (.getfield 1) 3 := by decide +kernel
theorem d43_4 : DC cb43 4 (.getfield 17) 3 := by decide +kernel
theorem d43_7 : DC cb43 7 (.aload_n 0) 1 := by decide +kernel
theorem d43_8 : DC cb43 8 (.getfield 22) 3 := by decide +kernel
theorem d43_11 : DC cb43 11 (.if_icmp .eq 11) 3 := by decide +kernel
theorem d43_22 : DC cb43 22 (.return_) 1 := by decide +kernel
theorem ef_43_43 (m : MethodId) (x0 : Addr) : entryFrame m #[(.ref x0)] 1 = mkF m 0 #[.val (.ref x0)] [] := by first | (simp [entryFrame, mkF, argsToLocals, Value.category]; done) | rfl
theorem rm43_0 (l : Launch) (Z : State) (a0 : Array Value) (hw : HW a0 Z) (a1 a2 : Addr) (h0 : Heap) (n0 : Nat) (OL0 : Old Z n0 h0) (pr1 : Fld Z h0 a1 s27 "this$0" s4 (.ref a2)) (pr2 : Fld Z h0 a2 s25 s41 "I" (.int (2 : Int32))) (pr3 : Fld Z h0 a1 s27 s14 "I" (.int (2 : Int32))) :
    MF l Z mn43 jdk_49_method_6_code 1 none ⟨0, 0, 0, 0⟩ #[(.ref a1)] h0 (QR n0 h0 (none)) := by
  refine own_start (plainFor_of_name pn_17) (fun m => (ef_43_43 m a1)) ?_
  intro p e s m below meth c s₁ hZ hx hby hml hown hnm hret X0 e0
  have N0 := Fr.nil n0
  obtain ⟨T3, X3, e3, st3⟩ := gF X0 hx hZ hown (wd281 hw) Via.refl e0 pr1 1 #[rv a1] [] (hb hby d43_1)
  obtain ⟨T4, X4, e4, st4⟩ := gF X3 hx hZ hown (wd286 hw) (Via.of (wd90 hw)) e3 pr2 4 #[rv a1] [] (hb hby d43_4)
  obtain ⟨T5, X5, e5, st5⟩ := gF X4 hx hZ hown (wd287 hw) Via.refl e4 pr3 8 #[rv a1] [(.int (2 : Int32))] (hb hby d43_8)
  refine ⟨none, _, _, _, _, _, X5, e5, by decide, fun _ => rfl, fun fs hr => ?_, ?_⟩
  · refine xaloadN X0 hx hby d43_0 rfl rfl ?_
    show SS p e below s₁ m 1 #[rv a1] [(.ref a1)] _
    refine st3 _ ?_
    refine st4 _ ?_
    refine xaloadN X4 hx hby d43_7 rfl rfl ?_
    refine st5 _ ?_
    refine XS.icmpYes X5.here hx rfl (pc0 := 11) (pc' := 22) rfl (hb hby d43_11) rfl (teq (rfl : (2 : Int32) = (2 : Int32))).1 (by decide) (by decide) ?_
    show SS p e below T5 m 22 #[rv a1] [] _
    exact X5.returnOut hx hret (hb hby d43_22) hr
  · exact ⟨rfl, N0, rfl⟩
theorem cw42 {a0 Z} (hw : HW a0 Z) : CV a0 Z s27 31 mn43 mn43 s27 0 (.code mn43 jdk_49_method_6_code 1 none) :=
  ⟨wx hw 309 rfl, wx hw 310 rfl, (fun _ hZ => notFace_of_selects (args := #[]) (mvT hZ (wd312 hw))), wx hw 312 rfl, wx hw 311 rfl, wx hw 313 rfl, wx hw 276 rfl, by decide, _, _, pd_2, rfl⟩
theorem d42_4 : DC cb42 4 (.aload_n 0) 1 := by decide +kernel
theorem d42_5 : DC cb42 5 (.getfield 25) 3 := by decide +kernel
theorem d42_8 : DC cb42 8 (.istore_n 1) 1 := by decide +kernel
theorem d42_9 : DC cb42 9 (.iload_n 1) 1 := by decide +kernel
theorem d42_10 : DC cb42 10 (.aload_n 0) 1 := by decide +kernel
theorem d42_11 : DC cb42 11 (.getfield 1) 3 := by decide +kernel
theorem d42_14 : DC cb42 14 (.getfield 28) 3 := by decide +kernel
theorem d42_17 : DC cb42 17 (.if_icmp .lt 11) 3 := by decide +kernel
theorem d42_28 : DC cb42 28 (.aload_n 0) 1 := by decide +kernel
theorem d42_29 : DC cb42 29 (.getfield 1) 3 := by decide +kernel
theorem d42_32 : DC cb42 32 (.getfield 37) 3 := by decide +kernel
theorem d42_35 : DC cb42 35 (.astore_n 2) 1 := by decide +kernel
theorem d42_36 : DC cb42 36 (.iload_n 1) 1 := by decide +kernel
theorem d42_37 : DC cb42 37 (.aload_n 2) 1 := by decide +kernel
theorem d42_38 : DC cb42 38 (.arraylength) 1 := by decide +kernel
theorem d42_39 : DC cb42 39 (.if_icmp .lt 11) 3 := by decide +kernel
theorem d42_50 : DC cb42 50 (.aload_n 0) 1 := by decide +kernel
theorem d42_51 : DC cb42 51 (.iload_n 1) 1 := by decide +kernel
theorem d42_52 : DC cb42 52 (.iconst 1) 1 := by decide +kernel
theorem d42_53 : DC cb42 53 (.iadd) 1 := by decide +kernel
theorem d42_54 : DC cb42 54 (.putfield 25) 3 := by decide +kernel
theorem d42_57 : DC cb42 57 (.aload_n 2) 1 := by decide +kernel
theorem d42_58 : DC cb42 58 (.aload_n 0) 1 := by decide +kernel
theorem d42_59 : DC cb42 59 (.iload_n 1) 1 := by decide +kernel
theorem d42_60 : DC cb42 60 (.dup_x1) 1 := by decide +kernel
theorem d42_61 : DC cb42 61 (.putfield 13) 3 := by decide +kernel
theorem d42_64 : DC cb42 64 (.aaload) 1 := by decide +kernel
theorem d42_65 : DC cb42 65 (.areturn) 1 := by decide +kernel
theorem ef_42_44 (m : MethodId) (x0 : Addr) : entryFrame m #[(.ref x0)] 3 = mkF m 0 #[.val (.ref x0), .unset, .unset] [] := by first | (simp [entryFrame, mkF, argsToLocals, Value.category]; done) | rfl
theorem rm42_0 (l : Launch) (Z : State) (a0 : Array Value) (hw : HW a0 Z) (a1 a2 a8 a10 a11 : Addr) (k12 : ClassId) (h0 : Heap) (n0 : Nat) (OL0 : Old Z n0 h0) (pr1 : Fld Z h0 a1 s27 "this$0" s4 (.ref a2)) (pr2 : Fld Z h0 a2 s25 s41 "I" (.int (2 : Int32))) (pr3 : Fld Z h0 a1 s27 s14 "I" (.int (2 : Int32))) (pr4 : Exa Z h0 a1 s27) (pr5 : Fld Z h0 a1 s27 "cursor" "I" (.int (0 : Int32))) (pr6 : Fld Z h0 a2 s26 "size" "I" (.int (2 : Int32))) (pr7 : Fld Z h0 a2 s26 s12 s8 (.ref a8)) (pr8 : Arv Z h0 a8 k12 (.object s20) (10 : Int32) [(.ref a10), (.ref a11), .null, .null, .null, .null, .null, .null, .null, .null] .null) (pr9 : n0 ≤ a1) (pr10 : Fld Z h0 a1 s27 "lastRet" "I" (.int (-1 : Int32))) (pr11 : a8 ≠ a1) :
    MF l Z mn42 jdk_49_method_3_code 3 (some (.object s20)) ⟨1, 0, 0, 12⟩ #[(.ref a1)] h0 (fun v h L => v = some (.ref a10) ∧ Fr n0 L ∧ Keep h0 h [a1] ∧ Fld Z h a1 s27 "this$0" s4 (.ref a2) ∧ Fld Z h a1 s27 s14 "I" (.int (2 : Int32)) ∧ Fld Z h a1 s27 "cursor" "I" (.int (1 : Int32)) ∧ Fld Z h a1 s27 "lastRet" "I" (.int (0 : Int32))) := by
  refine own_start (plainFor_of_name pn_17) (fun m => (ef_42_44 m a1)) ?_
  intro p e s m below meth c s₁ hZ hx hby hml hown hnm hret X0 e0
  have N0 := Fr.nil n0
  obtain ⟨_, T3, L3, X3, hQ3, st3⟩ := own_cV X0 hx hZ hown hml (cw42 hw) (rm43_0 l Z a0 hw a1 a2 h0 n0 OL0 pr1 pr2 pr3) e0 pr4 1 #[rv a1, uu, uu] [] [] 0 rfl (hb hby d42_1) (by decide)
  obtain ⟨rfl, Nq3, ec3⟩ := hQ3
  have N3 := Fr.app N0 Nq3
  obtain ⟨T4, X4, e4, st4⟩ := gF X3 hx hZ hown (wd298 hw) Via.refl ec3 pr5 5 #[rv a1, uu, uu] [] (hb hby d42_5)
  obtain ⟨T5, X5, e5, st5⟩ := gF X4 hx hZ hown (wd281 hw) Via.refl e4 pr1 11 #[rv a1, iv (0 : Int32), uu] [(.int (0 : Int32))] (hb hby d42_11)
  obtain ⟨T6, X6, e6, st6⟩ := getF X5 hx hZ hown (Or.inr (wd300 hw)) Via.refl e5 pr6 (g := (mkF m 14 #[rv a1, iv (0 : Int32), uu] [(.ref a2), (.int (0 : Int32))])) rfl rfl (hb hby d42_14)
  obtain ⟨T7, X7, e7, st7⟩ := gF X6 hx hZ hown (wd281 hw) Via.refl e6 pr1 29 #[rv a1, iv (0 : Int32), uu] [] (hb hby d42_29)
  obtain ⟨T9, X9, e9, st9⟩ := gF X7 hx hZ hown (wd314 hw) Via.refl e7 pr7 32 #[rv a1, iv (0 : Int32), uu] [] (hb hby d42_32)
  obtain ⟨cl13, Ar13, -, Sz13, Nn13, -, -⟩ := id pr8
  obtain ⟨T14, h14, X14, e14, W14, st14⟩ := putF X9 hx hZ hown (host := "") (Or.inl (wd298 hw)) Via.refl e9 pr5 pr4 (Or.inl (wd299 hw)) (wd275 hw) (ty := .int) (by decide) rfl rfl (g := (mkF m 54 #[rv a1, iv (0 : Int32), rv a8] [(.int (1 : Int32)), (.ref a1)])) rfl rfl (hb hby d42_54)
  have Fw14 := pr5.same W14
  have KK14 : Keep h0 h14 [a1] := (Keep.refl h0 [a1]).wr W14 (Or.inl (List.mem_of_getElem? (i := 0) rfl))
  have N14 := Fr.snoc X14 N3 pr9
  have fc15 := (pr4.wr W14)
  have fc16 := (pr10.other W14 (Or.inr (slot_ne (Or.inl (wd285 hw)) (Or.inl (wd299 hw)) (by decide) (t := .int) (t' := .int) (by decide) (by decide))))
  obtain ⟨T17, h17, X17, e17, W17, st17⟩ := putF X14 hx hZ hown (host := "") (Or.inl (wd284 hw)) Via.refl e14 fc16 fc15 (Or.inl (wd285 hw)) (wd275 hw) (ty := .int) (by decide) rfl rfl (g := (mkF m 61 #[rv a1, iv (0 : Int32), rv a8] [(.int (0 : Int32)), (.ref a1), (.int (0 : Int32)), (.ref a8)])) rfl rfl (hb hby d42_61)
  have Fw17 := fc16.same W17
  have KK17 : Keep h0 h17 [a1] := KK14.wr W17 (Or.inl (List.mem_of_getElem? (i := 0) rfl))
  have N17 := Fr.snoc X17 N14 pr9
  have fc18 := ((pr8.other W14 pr11).other W17 pr11)
  have fc20 := ((pr1.other W14 (Or.inr (slot_ne (Or.inr (wd282 hw)) (Or.inl (wd299 hw)) (by decide) (t := (.object s26)) (t' := .int) (by decide) (by decide)))).other W17 (Or.inr (slot_ne (Or.inr (wd282 hw)) (Or.inl (wd285 hw)) (by decide) (t := (.object s26)) (t' := .int) (by decide) (by decide))))
  have fc21 := ((pr3.other W14 (Or.inr (slot_ne (Or.inl (wd288 hw)) (Or.inl (wd299 hw)) (by decide) (t := .int) (t' := .int) (by decide) (by decide)))).other W17 (Or.inr (slot_ne (Or.inl (wd288 hw)) (Or.inl (wd285 hw)) (by decide) (t := .int) (t' := .int) (by decide) (by decide))))
  have fc22 := (Fw14.other W17 (Or.inr (slot_ne (Or.inl (wd299 hw)) (Or.inl (wd285 hw)) (by decide) (t := .int) (t' := .int) (by decide) (by decide))))
  refine ⟨some (.ref a10), _, _, _, _, _, X17, e17, by decide, nofun, fun fs hr => ?_, ?_⟩
  · refine xaloadN X0 hx hby d42_0 rfl rfl ?_
    show SS p e below s₁ m 1 #[rv a1, uu, uu] [(.ref a1)] _
    refine st3 _ ?_
    refine xaloadN X3 hx hby d42_4 rfl rfl ?_
    refine st4 _ ?_
    refine XS.istoreN X4.here hx rfl (hb hby d42_8) rfl (l' := #[rv a1, iv (0 : Int32), uu]) rfl ?_
    refine xiloadN X4 hx hby d42_9 rfl ?_
    refine xaloadN X4 hx hby d42_10 rfl rfl ?_
    refine st5 _ ?_
    refine st6 _ ?_
    refine XS.icmpYes X6.here hx rfl (pc0 := 17) (pc' := 28) rfl (hb hby d42_17) rfl (tlt (by decide : (0 : Int32) < (2 : Int32))).1 (by decide) (by decide) ?_
    refine xaloadN X6 hx hby d42_28 rfl rfl ?_
    show SS p e below T6 m 29 #[rv a1, iv (0 : Int32), uu] [(.ref a1)] _
    refine st7 _ ?_
    refine st9 _ ?_
    refine XS.astoreN X9.here hx rfl (hb hby d42_35) rfl rfl (l' := #[rv a1, iv (0 : Int32), rv a8]) rfl ?_
    refine xiloadN X9 hx hby d42_36 rfl ?_
    refine xaloadN X9 hx hby d42_37 rfl rfl ?_
    refine X9.arraylength hx (by rw [e9]; exact Ar13.1) (State.isArrayOf_alike hZ.alike Ar13.2.1) (g := (mkF m 38 #[rv a1, iv (0 : Int32), rv a8] [(.ref a8), (.int (0 : Int32))])) rfl rfl (hb hby d42_38) _ ?_
    rw [len_of Sz13 Nn13]
    refine XS.icmpYes X9.here hx rfl (pc0 := 39) (pc' := 50) rfl (hb hby d42_39) rfl (tlt (by decide : (0 : Int32) < (10 : Int32))).1 (by decide) (by decide) ?_
    refine xaloadN X9 hx hby d42_50 rfl rfl ?_
    refine xiloadN X9 hx hby d42_51 rfl ?_
    refine XS.iconst X9.here hx rfl (hb hby d42_52) ?_
    show SS p e below T9 m 53 #[rv a1, iv (0 : Int32), rv a8] [(.int (1 : Int32)), (.int (0 : Int32)), (.ref a1)] _
    refine XS.iadd X9.here hx rfl (hb hby d42_53) rfl ?_
    refine st14 _ ?_
    refine xaloadN X14 hx hby d42_57 rfl rfl ?_
    refine xaloadN X14 hx hby d42_58 rfl rfl ?_
    refine xiloadN X14 hx hby d42_59 rfl ?_
    refine XS.dupX1 X14.here hx rfl (hb hby d42_60) rfl rfl rfl ?_
    refine st17 _ ?_
    refine own_laR X17 hx hZ e17 fc18 (v := (.ref a10)) (by decide) rfl rfl (hb hby d42_64) ?_
    show SS p e below T17 m 65 #[rv a1, iv (0 : Int32), rv a8] [(.ref a10)] _
    exact own_retR X17 hx hret rfl rfl rfl (hb hby d42_65) hr
  · exact ⟨rfl, N17, KK17, fc20, fc21, fc22, Fw17⟩
theorem pd_27 : parseMethodDescriptor "()Ljava/lang/Object;" = some ⟨[], some (.object "java/lang/Object")⟩ := by decide +kernel
theorem cw43 {a0 Z} (hw : HW a0 Z) : CI a0 Z s43 33 (⟨s36, "next", "()Ljava/lang/Object;"⟩ : MethodName) mn42 s27 0 (.code mn42 jdk_49_method_3_code 3 (some (.object s20))) :=
  ⟨wx hw 301 rfl, wx hw 302 rfl, ⟨wx hw 303 rfl, by first | rfl | simp [Cond.onTables, Cond.keepsFace, Cond.keeps, Cond.steady]⟩, wx hw 304 rfl, wx hw 305 rfl, wx hw 306 rfl, wx hw 307 rfl, wx hw 296 rfl, wx hw 308 rfl, wx hw 276 rfl, by decide, _, _, pd_27, rfl⟩
theorem d37_52 : DC cb37 52 (.checkcast 37) 3 := by decide +kernel
theorem d37_55 : DC cb37 55 (.astore 5) 2 := by decide +kernel
theorem d37_57 : DC cb37 57 (.iconst 0) 1 := by decide +kernel
theorem d37_58 : DC cb37 58 (.istore 6) 2 := by decide +kernel
theorem d37_60 : DC cb37 60 (.iload 6) 2 := by decide +kernel
theorem d37_62 : DC cb37 62 (.iload_n 1) 1 := by decide +kernel
theorem d37_63 : DC cb37 63 (.if_icmp .ge 128) 3 := by decide +kernel
theorem d37_66 : DC cb37 66 (.ldc2_w 41) 3 := by decide +kernel
theorem d37_69 : DC cb37 69 (.lstore 7) 2 := by decide +kernel
theorem d37_71 : DC cb37 71 (.ldc2_w 43) 3 := by decide +kernel
theorem d37_74 : DC cb37 74 (.lstore 9) 2 := by decide +kernel
theorem d37_76 : DC cb37 76 (.aload 5) 2 := by decide +kernel
theorem d37_78 : DC cb37 78 (.invokevirtual 45) 3 := by decide +kernel
theorem d44_0 : DC cb44 0 (.aload_n 0) 1 := by decide +kernel
theorem d44_1 : DC cb44 1 (.getfield 26) 3 := by decide +kernel
theorem d44_4 : DC cb44 4 (.areturn) 1 := by decide +kernel
theorem ef_44_45 (m : MethodId) (x0 : Addr) : entryFrame m #[(.ref x0)] 1 = mkF m 0 #[.val (.ref x0)] [] := by first | (simp [entryFrame, mkF, argsToLocals, Value.category]; done) | rfl
theorem rm44_0 (l : Launch) (Z : State) (a0 : Array Value) (hw : HW a0 Z) (a1 a2 : Addr) (h0 : Heap) (n0 : Nat) (OL0 : Old Z n0 h0) (pr1 : Fld Z h0 a1 s47 "match" s6 (.ref a2)) :
    MF l Z mn44 prog_52_method_10_code 1 (some (.object s37)) ⟨0, 0, 0, 0⟩ #[(.ref a1)] h0 (QR n0 h0 (some (.ref a2))) := by
  refine own_start (plainFor_of_name pn_16) (fun m => (ef_44_45 m a1)) ?_
  intro p e s m below meth c s₁ hZ hx hby hml hown hnm hret X0 e0
  have N0 := Fr.nil n0
  obtain ⟨T3, X3, e3, st3⟩ := gF X0 hx hZ hown (wd241 hw) Via.refl e0 pr1 1 #[rv a1] [] (hb hby d44_1)
  refine ⟨some (.ref a2), _, _, _, _, _, X3, e3, by decide, nofun, fun fs hr => ?_, ?_⟩
  · refine xaloadN X0 hx hby d44_0 rfl rfl ?_
    show SS p e below s₁ m 1 #[rv a1] [(.ref a1)] _
    refine st3 _ ?_
    show SS p e below T3 m 4 #[rv a1] [(.ref a2)] _
    exact own_retR X3 hx hret rfl rfl rfl (hb hby d44_4) hr
  · exact ⟨rfl, N0, rfl⟩
theorem pd_28 : parseMethodDescriptor "()Ljava/util/List;" = some ⟨[], some (.object "java/util/List")⟩ := by decide +kernel
theorem cw44 {a0 Z} (hw : HW a0 Z) : CV a0 Z s43 45 mn44 mn44 s47 0 (.code mn44 prog_52_method_10_code 1 (some (.object s37))) :=
  ⟨wx hw 319 rfl, wx hw 320 rfl, (fun _ hZ => notFace_of_selects (args := #[]) (mvT hZ (wd322 hw))), wx hw 322 rfl, wx hw 321 rfl, wx hw 323 rfl, wx hw 210 rfl, by decide, _, _, pd_28, rfl⟩
theorem d37_81 : DC cb37 81 (.invokeinterface 23 1) 5 := by decide +kernel
theorem d45_0 : DC cb45 0 (.new 61) 3 := by decide +kernel
theorem d45_3 : DC cb45 3 (.dup) 1 := by decide +kernel
theorem d45_4 : DC cb45 4 (.aload_n 0) 1 := by decide +kernel
theorem d45_5 : DC cb45 5 (.aload_n 0) 1 := by decide +kernel
theorem d45_6 : DC cb45 6 (.invokevirtual 13) 3 := by decide +kernel
theorem d46_0 : DC cb46 0 (.aload_n 0) 1 := by decide +kernel
theorem d46_1 : DC cb46 1 (.getfield 24) 3 := by decide +kernel
theorem d46_4 : DC cb46 4 (.getstatic 19) 3 := by decide +kernel
theorem d46_7 : DC cb46 7 (.if_acmp .eq 7) 3 := by decide +kernel
theorem d46_14 : DC cb46 14 (.iconst 1) 1 := by decide +kernel
theorem d46_15 : DC cb46 15 (.ireturn) 1 := by decide +kernel
theorem ef_46_46 (m : MethodId) (x0 : Addr) : entryFrame m #[(.ref x0)] 1 = mkF m 0 #[.val (.ref x0)] [] := by first | (simp [entryFrame, mkF, argsToLocals, Value.category]; done) | rfl
theorem rm46_0 (l : Launch) (Z : State) (a0 : Array Value) (hw : HW a0 Z) (a1 w2 : Addr) (h0 : Heap) (n0 : Nat) (OL0 : Old Z n0 h0) (pr1 : Fld Z h0 a1 s33 "e1" s2 (.ref w2)) (pr2 : Sta Z Z.heap s30 "EMPTY" s2 (.ref w2)) :
    MF l Z mn46 jdk_44_method_3_code 1 (some .int) ⟨0, 0, 0, 0⟩ #[(.ref a1)] h0 (QR n0 h0 (some (.int (1 : Int32)))) := by
  refine own_start (plainFor_of_name pn_11) (fun m => (ef_46_46 m a1)) ?_
  intro p e s m below meth c s₁ hZ hx hby hml hown hnm hret X0 e0
  have N0 := Fr.nil n0
  obtain ⟨T3, X3, e3, st3⟩ := gF X0 hx hZ hown (wd203 hw) Via.refl e0 pr1 1 #[rv a1] [] (hb hby d46_1)
  obtain ⟨T4, X4, e4, st4⟩ := getS2 X3 hx hZ hown (Or.inr (wd238 hw)) Via.refl e3 (pr2.ext OL0.2) (g := (mkF m 4 #[rv a1] [(.ref w2)])) rfl (hb hby d46_4)
  refine ⟨some (.int (1 : Int32)), _, _, _, _, _, X4, e4, by decide, nofun, fun fs hr => ?_, ?_⟩
  · refine xaloadN X0 hx hby d46_0 rfl rfl ?_
    show SS p e below s₁ m 1 #[rv a1] [(.ref a1)] _
    refine st3 _ ?_
    refine st4 _ ?_
    refine Jvm.RoadKit.acmp (g := (mkF m 7 #[rv a1] [(.ref w2), (.ref w2)])) X4 hx rfl rfl rfl (pc0 := 7) (pc' := 14) (same := true) rfl (hb hby d46_7) rfl (decide_eq_true rfl) (by decide) (by decide) ?_
    refine XS.iconst X4.here hx rfl (hb hby d46_14) ?_
    show SS p e below T4 m 15 #[rv a1] [(.int (1 : Int32))] _
    exact retI X4 hx hret (hb hby d46_15) hr
  · exact ⟨rfl, N0, rfl⟩
theorem cw45 {a0 Z} (hw : HW a0 Z) : CU a0 Z s32 13 (⟨s32, "size", "()I"⟩ : MethodName) mn46 s33 s24 0 (.code mn46 jdk_44_method_3_code 1 (some .int)) :=
  ⟨wx hw 333 rfl, wx hw 334 rfl, wx hw 335 rfl, wx hw 336 rfl, wx hw 337 rfl, wx hw 338 rfl, wx hw 179 rfl, by decide, _, _, pd_24, rfl⟩
theorem d45_9 : DC cb45 9 (.invokespecial 63) 3 := by decide +kernel
theorem d47_0 : DC cb47 0 (.aload_n 0) 1 := by decide +kernel
theorem d47_1 : DC cb47 1 (.invokespecial 1) 3 := by decide +kernel
theorem d47_4 : DC cb47 4 (.aload_n 0) 1 := by decide +kernel
theorem d47_5 : DC cb47 5 (.aload_n 1) 1 := by decide +kernel
theorem d47_6 : DC cb47 6 (.putfield 7) 3 := by decide +kernel
theorem d47_9 : DC cb47 9 (.aload_n 0) 1 := by decide +kernel
theorem d47_10 : DC cb47 10 (.iload_n 2) 1 := by decide +kernel
theorem d47_11 : DC cb47 11 (.putfield 13) 3 := by decide +kernel
theorem d47_14 : DC cb47 14 (.aload_n 0) 1 := by decide +kernel
theorem d47_15 : DC cb47 15 (.iconst 0) 1 := by decide +kernel
theorem d47_16 : DC cb47 16 (.putfield 17) 3 := by decide +kernel
theorem d47_19 : DC cb47 19 (.aload_n 0) 1 := by decide +kernel
theorem d47_20 : DC cb47 20 (.iconst 0) 1 := by decide +kernel
theorem d47_21 : DC cb47 21 (.putfield 20) 3 := by decide +kernel
theorem d47_24 : DC cb47 24 (.return_) 1 := by decide +kernel
theorem ef_47_47 (m : MethodId) (x0 : Addr) (x1 : Addr) : entryFrame m #[(.ref x0), (.ref x1), (.int (1 : Int32))] 3 = mkF m 0 #[.val (.ref x0), .val (.ref x1), .val (.int (1 : Int32))] [] := by first | (simp [entryFrame, mkF, argsToLocals, Value.category]; done) | rfl
theorem pn_18 : plainName "java/util/ImmutableCollections$ListItr" = true := by first | (simp [plainName, overriddenIn]; done) | decide +kernel
theorem rm47_0 (l : Launch) (Z : State) (a0 : Array Value) (hw : HW a0 Z) (a1 a2 : Addr) (h0 : Heap) (n0 : Nat) (OL0 : Old Z n0 h0) (pr1 : Exa Z h0 a1 s34) (pr2 : Fld Z h0 a1 s34 "list" s6 .null) (pr3 : n0 ≤ a1) (pr4 : Fld Z h0 a1 s34 "size" "I" (.int (0 : Int32))) (pr5 : Fld Z h0 a1 s34 "cursor" "I" (.int (0 : Int32))) (pr6 : Fld Z h0 a1 s34 s17 "Z" (.int (0 : Int32))) :
    MF l Z mn47 jdk_53_method_1_code 3 none ⟨1, 0, 0, 12⟩ #[(.ref a1), (.ref a2), (.int (1 : Int32))] h0 (fun v h L => v = none ∧ Fr n0 L ∧ Keep h0 h [a1] ∧ Fld Z h a1 s34 "list" s6 (.ref a2) ∧ Fld Z h a1 s34 "size" "I" (.int (1 : Int32)) ∧ Fld Z h a1 s34 "cursor" "I" (.int (0 : Int32)) ∧ Fld Z h a1 s34 s17 "Z" (.int (0 : Int32))) := by
  refine own_start (plainFor_of_name pn_18) (fun m => (ef_47_47 m a1 a2)) ?_
  intro p e s m below meth c s₁ hZ hx hby hml hown hnm hret X0 e0
  have N0 := Fr.nil n0
  obtain ⟨T3, X3, e3, st3⟩ := initO X0 hx hZ hown (wd343 hw) (wd36 hw) (wd37 hw) e0 (g := (mkF m 1 #[rv a1, rv a2, iv (1 : Int32)] [(.ref a1)])) rfl (by rw [hml]; rfl) rfl (hb hby d47_1) (by decide) (W := 0) (by show 2 * 0 + _ ≤ _; exact Nat.le_of_eq rfl) (by decide)
  obtain ⟨T4, h4, X4, e4, W4, st4⟩ := putF X3 hx hZ hown (host := "") (Or.inl (wd344 hw)) Via.refl e3 pr2 pr1 (Or.inr ⟨(wd345 hw), rfl, hnm⟩) (wd331 hw) (ty := (.object s37)) (by decide) rfl rfl (g := (mkF m 6 #[rv a1, rv a2, iv (1 : Int32)] [(.ref a2), (.ref a1)])) rfl rfl (hb hby d47_6)
  have Fw4 := pr2.same W4
  have KK4 : Keep h0 h4 [a1] := (Keep.refl h0 [a1]).wr W4 (Or.inl (List.mem_of_getElem? (i := 0) rfl))
  have N4 := Fr.snoc X4 N0 pr3
  have fc5 := (pr1.wr W4)
  have fc6 := (pr4.other W4 (Or.inr (slot_ne (Or.inr (wd347 hw)) (Or.inr (wd345 hw)) (by decide) (t := .int) (t' := (.object s37)) (by decide) (by decide))))
  obtain ⟨T7, h7, X7, e7, W7, st7⟩ := putF X4 hx hZ hown (host := "") (Or.inl (wd346 hw)) Via.refl e4 fc6 fc5 (Or.inr ⟨(wd347 hw), rfl, hnm⟩) (wd331 hw) (ty := .int) (by decide) rfl rfl (g := (mkF m 11 #[rv a1, rv a2, iv (1 : Int32)] [(.int (1 : Int32)), (.ref a1)])) rfl rfl (hb hby d47_11)
  have Fw7 := fc6.same W7
  have KK7 : Keep h0 h7 [a1] := KK4.wr W7 (Or.inl (List.mem_of_getElem? (i := 0) rfl))
  have N7 := Fr.snoc X7 N4 pr3
  have fc8 := (fc5.wr W7)
  have fc9 := ((pr5.other W4 (Or.inr (slot_ne (Or.inl (wd349 hw)) (Or.inr (wd345 hw)) (by decide) (t := .int) (t' := (.object s37)) (by decide) (by decide)))).other W7 (Or.inr (slot_ne (Or.inl (wd349 hw)) (Or.inr (wd347 hw)) (by decide) (t := .int) (t' := .int) (by decide) (by decide))))
  obtain ⟨T10, h10, X10, e10, W10, st10⟩ := putF X7 hx hZ hown (host := "") (Or.inl (wd348 hw)) Via.refl e7 fc9 fc8 (Or.inl (wd349 hw)) (wd331 hw) (ty := .int) (by decide) rfl rfl (g := (mkF m 16 #[rv a1, rv a2, iv (1 : Int32)] [(.int (0 : Int32)), (.ref a1)])) rfl rfl (hb hby d47_16)
  have Fw10 := fc9.same W10
  have KK10 : Keep h0 h10 [a1] := KK7.wr W10 (Or.inl (List.mem_of_getElem? (i := 0) rfl))
  have N10 := Fr.snoc X10 N7 pr3
  have fc11 := (fc8.wr W10)
  have fc12 := (((pr6.other W4 (Or.inr (slot_ne (Or.inr (wd351 hw)) (Or.inr (wd345 hw)) (by decide) (t := .boolean) (t' := (.object s37)) (by decide) (by decide)))).other W7 (Or.inr (slot_ne (Or.inr (wd351 hw)) (Or.inr (wd347 hw)) (by decide) (t := .boolean) (t' := .int) (by decide) (by decide)))).other W10 (Or.inr (slot_ne (Or.inr (wd351 hw)) (Or.inl (wd349 hw)) (by decide) (t := .boolean) (t' := .int) (by decide) (by decide))))
  obtain ⟨T13, h13, X13, e13, W13, st13⟩ := putFN X10 hx hZ hown (wd350 hw) Via.refl e10 fc12 fc11 (Or.inr ⟨(wd351 hw), rfl, hnm⟩) (wd331 hw) (ty := .boolean) (v' := (.int (0 : Int32))) (by decide) rfl rfl (g := (mkF m 21 #[rv a1, rv a2, iv (1 : Int32)] [(.int (0 : Int32)), (.ref a1)])) rfl rfl (hb hby d47_21)
  have Fw13 := fc12.same W13
  have KK13 : Keep h0 h13 [a1] := KK10.wr W13 (Or.inl (List.mem_of_getElem? (i := 0) rfl))
  have N13 := Fr.snoc X13 N10 pr3
  have fc14 := (((Fw4.other W7 (Or.inr (slot_ne (Or.inr (wd345 hw)) (Or.inr (wd347 hw)) (by decide) (t := (.object s37)) (t' := .int) (by decide) (by decide)))).other W10 (Or.inr (slot_ne (Or.inr (wd345 hw)) (Or.inl (wd349 hw)) (by decide) (t := (.object s37)) (t' := .int) (by decide) (by decide)))).other W13 (Or.inr (slot_ne (Or.inr (wd345 hw)) (Or.inr (wd351 hw)) (by decide) (t := (.object s37)) (t' := .boolean) (by decide) (by decide))))
  have fc15 := ((Fw7.other W10 (Or.inr (slot_ne (Or.inr (wd347 hw)) (Or.inl (wd349 hw)) (by decide) (t := .int) (t' := .int) (by decide) (by decide)))).other W13 (Or.inr (slot_ne (Or.inr (wd347 hw)) (Or.inr (wd351 hw)) (by decide) (t := .int) (t' := .boolean) (by decide) (by decide))))
  have fc16 := (Fw10.other W13 (Or.inr (slot_ne (Or.inl (wd349 hw)) (Or.inr (wd351 hw)) (by decide) (t := .int) (t' := .boolean) (by decide) (by decide))))
  refine ⟨none, _, _, _, _, _, X13, e13, by decide, fun _ => rfl, fun fs hr => ?_, ?_⟩
  · refine xaloadN X0 hx hby d47_0 rfl rfl ?_
    show SS p e below s₁ m 1 #[rv a1, rv a2, iv (1 : Int32)] [(.ref a1)] _
    refine st3 _ ?_
    refine xaloadN X3 hx hby d47_4 rfl rfl ?_
    refine xaloadN X3 hx hby d47_5 rfl rfl ?_
    refine st4 _ ?_
    refine xaloadN X4 hx hby d47_9 rfl rfl ?_
    refine xiloadN X4 hx hby d47_10 rfl ?_
    refine st7 _ ?_
    refine xaloadN X7 hx hby d47_14 rfl rfl ?_
    refine XS.iconst X7.here hx rfl (hb hby d47_15) ?_
    refine st10 _ ?_
    show SS p e below T10 m 19 #[rv a1, rv a2, iv (1 : Int32)] [] _
    refine xaloadN X10 hx hby d47_19 rfl rfl ?_
    refine XS.iconst X10.here hx rfl (hb hby d47_20) ?_
    refine st13 _ ?_
    show SS p e below T13 m 24 #[rv a1, rv a2, iv (1 : Int32)] [] _
    exact X13.returnOut hx hret (hb hby d47_24) hr
  · exact ⟨rfl, N13, KK13, fc14, fc15, fc16, Fw13⟩
theorem pd_29 : parseMethodDescriptor "(Ljava/util/List;I)V" = some ⟨[(.object "java/util/List"), .int], none⟩ := by decide +kernel
theorem cw46 {a0 Z} (hw : HW a0 Z) : CN a0 Z s32 63 mn47 2 (.code mn47 jdk_53_method_1_code 3 none) :=
  ⟨rfl, wx hw 339 rfl, wx hw 340 rfl, wx hw 342 rfl, wx hw 332 rfl, by decide, _, _, pd_29, rfl⟩
theorem d45_12 : DC cb45 12 (.areturn) 1 := by decide +kernel
theorem ef_45_48 (m : MethodId) (x0 : Addr) : entryFrame m #[(.ref x0)] 1 = mkF m 0 #[.val (.ref x0)] [] := by first | (simp [entryFrame, mkF, argsToLocals, Value.category]; done) | rfl
theorem rm45_0 (l : Launch) (Z : State) (a0 : Array Value) (hw : HW a0 Z) (a1 w3 : Addr) (h0 : Heap) (n0 : Nat) (OL0 : Old Z n0 h0) (pr1 : Fld Z h0 a1 s33 "e1" s2 (.ref w3)) (pr2 : Sta Z Z.heap s30 "EMPTY" s2 (.ref w3)) (pr3 : Exa Z h0 a1 s33) :
    MF l Z mn45 jdk_46_method_10_code 1 (some (.object s36)) ⟨2, 1, 4, 27⟩ #[(.ref a1)] h0 (fun v h L => ∃ b2 : Addr, v = some (.ref b2) ∧ Fr n0 L ∧ Keep h0 h [] ∧ h0.size ≤ b2 ∧ Exa Z h b2 s34 ∧ Fld Z h b2 s34 "list" s6 (.ref a1) ∧ Fld Z h b2 s34 "size" "I" (.int (1 : Int32)) ∧ Fld Z h b2 s34 "cursor" "I" (.int (0 : Int32)) ∧ Fld Z h b2 s34 s17 "Z" (.int (0 : Int32))) := by
  refine own_start (plainFor_of_name pn_10) (fun m => (ef_45_48 m a1)) ?_
  intro p e s m below meth c s₁ hZ hx hby hml hown hnm hret X0 e0
  have N0 := Fr.nil n0
  obtain ⟨T2, h2, X2, e2, E2, A2, D2, -, st2⟩ := newO X0 hx hZ hown (wd330 hw) (wd331 hw) (wd332 hw) e0 (g := (mkF m 0 #[rv a1] [])) rfl (hb hby d45_0) (by decide) (by decide)
  obtain ⟨b2, g2⟩ : ∃ z, z = h0.size := ⟨_, rfl⟩
  rw [← g2] at A2 D2 st2
  have g_b2 : n0 ≤ b2 := (Nat.le_trans (Nat.le_trans (Nat.le_of_eq OL0.1.symm) OL0.2.1) (Nat.le_of_eq g2.symm))
  have sz_b2 : h0.size ≤ b2 := (Nat.le_trans (Keep.refl h0 []).1 (Nat.le_of_eq g2.symm))
  have KK2 : Keep h0 h2 [] := (Keep.refl h0 []).ext E2
  have OL2 := OL0.ext E2
  have F_list_b2 : Fld Z h2 b2 s34 "list" s6 .null := D2 (Or.inr (wd345 hw)) (ty := (.object s37)) (by decide)
  have F_size_b2 : Fld Z h2 b2 s34 "size" "I" (.int (0 : Int32)) := D2 (Or.inr (wd347 hw)) (ty := .int) (by decide)
  have F_cursor_b2 : Fld Z h2 b2 s34 "cursor" "I" (.int (0 : Int32)) := D2 (Or.inl (wd349 hw)) (ty := .int) (by decide)
  have F_isListIterator_b2 : Fld Z h2 b2 s34 s17 "Z" (.int (0 : Int32)) := D2 (Or.inr (wd351 hw)) (ty := .boolean) (by decide)
  have fc5 := (pr1.ext E2)
  have fc6 := (pr3.ext E2)
  obtain ⟨_, T4, L4, X4, hQ4, st4⟩ := own_cU X2 hx hZ hown hml (cw45 hw) (rm46_0 l Z a0 hw a1 w3 h2 n0 OL2 fc5 pr2) e2 fc6 6 #[rv a1] [] [(.ref a1), (.ref b2), (.ref b2)] 3 rfl (hb hby d45_6) (by decide)
  obtain ⟨rfl, Nq4, ec4⟩ := hQ4
  have N4 := Fr.app N0 Nq4
  obtain ⟨_, T7, L7, X7, hQ7, st7⟩ := own_cN X4 hx hZ hown hml (cw46 hw) (rm47_0 l Z a0 hw b2 a1 h2 n0 OL2 A2 F_list_b2 g_b2 F_size_b2 F_cursor_b2 F_isListIterator_b2) ec4 b2 9 #[rv a1] [(.ref a1), (.int (1 : Int32))] [(.ref b2)] 1 rfl (hb hby d45_9) (by decide)
  obtain ⟨rfl, Nq7, K7, u7_0, u7_1, u7_2, u7_3⟩ := hQ7
  have KK7 : Keep h0 T7.heap [] := KK2.trans K7 (allS (Or.inr sz_b2) all0)
  have N7 := Fr.app N4 Nq7
  have fc8 := (A2.keep K7)
  refine ⟨some (.ref b2), _, _, _, _, _, X7, rfl, by decide, nofun, fun fs hr => ?_, ?_⟩
  · refine st2 _ ?_
    show SS p e below T2 m 3 #[rv a1] [(.ref b2)] _
    refine XS.dup X2.here hx rfl (hb hby d45_3) rfl rfl ?_
    refine xaloadN X2 hx hby d45_4 rfl rfl ?_
    refine xaloadN X2 hx hby d45_5 rfl rfl ?_
    refine st4 _ ?_
    refine st7 _ ?_
    show SS p e below T7 m 12 #[rv a1] [(.ref b2)] _
    exact own_retR X7 hx hret rfl rfl rfl (hb hby d45_12) hr
  · exact ⟨b2, rfl, N7, KK7, sz_b2, fc8, u7_0, u7_1, u7_2, u7_3⟩
theorem cw47 {a0 Z} (hw : HW a0 Z) : CI a0 Z s43 23 (⟨s37, s18, "()Ljava/util/Iterator;"⟩ : MethodName) mn45 s33 0 (.code mn45 jdk_46_method_10_code 1 (some (.object s36))) :=
  ⟨wx hw 266 rfl, wx hw 267 rfl, ⟨wx hw 268 rfl, by first | rfl | simp [Cond.onTables, Cond.keepsFace, Cond.keeps, Cond.steady]⟩, wx hw 324 rfl, wx hw 325 rfl, wx hw 326 rfl, wx hw 327 rfl, wx hw 328 rfl, wx hw 329 rfl, wx hw 188 rfl, by decide, _, _, pd_26, rfl⟩
theorem d37_86 : DC cb37 86 (.astore 11) 2 := by decide +kernel
theorem d37_88 : DC cb37 88 (.aload 11) 2 := by decide +kernel
theorem d37_90 : DC cb37 90 (.invokeinterface 27 1) 5 := by decide +kernel
theorem d48_0 : DC cb48 0 (.aload_n 0) 1 := by decide +kernel
theorem d48_1 : DC cb48 1 (.getfield 17) 3 := by decide +kernel
theorem d48_4 : DC cb48 4 (.aload_n 0) 1 := by decide +kernel
theorem d48_5 : DC cb48 5 (.getfield 13) 3 := by decide +kernel
theorem d48_8 : DC cb48 8 (.if_icmp .eq 7) 3 := by decide +kernel
theorem d48_11 : DC cb48 11 (.iconst 1) 1 := by decide +kernel
theorem d48_12 : DC cb48 12 (.goto 4) 3 := by decide +kernel
theorem d48_16 : DC cb48 16 (.ireturn) 1 := by decide +kernel
theorem ef_48_49 (m : MethodId) (x0 : Addr) : entryFrame m #[(.ref x0)] 1 = mkF m 0 #[.val (.ref x0)] [] := by first | (simp [entryFrame, mkF, argsToLocals, Value.category]; done) | rfl
theorem rm48_0 (l : Launch) (Z : State) (a0 : Array Value) (hw : HW a0 Z) (a1 : Addr) (h0 : Heap) (n0 : Nat) (OL0 : Old Z n0 h0) (pr1 : Fld Z h0 a1 s34 "cursor" "I" (.int (0 : Int32))) (pr2 : Fld Z h0 a1 s34 "size" "I" (.int (1 : Int32))) :
    MF l Z mn48 jdk_53_method_3_code 1 (some .boolean) ⟨0, 0, 0, 0⟩ #[(.ref a1)] h0 (QR n0 h0 (some (.int (1 : Int32)))) := by
  refine own_start (plainFor_of_name pn_18) (fun m => (ef_48_49 m a1)) ?_
  intro p e s m below meth c s₁ hZ hx hby hml hown hnm hret X0 e0
  have N0 := Fr.nil n0
  obtain ⟨T2, X2, e2, st2⟩ := gF X0 hx hZ hown (wd348 hw) Via.refl e0 pr1 1 #[rv a1] [] (hb hby d48_1)
  obtain ⟨T3, X3, e3, st3⟩ := gF X2 hx hZ hown (wd346 hw) Via.refl e2 pr2 5 #[rv a1] [(.int (0 : Int32))] (hb hby d48_5)
  refine ⟨some (.int (1 : Int32)), _, _, _, _, _, X3, e3, by decide, nofun, fun fs hr => ?_, ?_⟩
  · refine xaloadN X0 hx hby d48_0 rfl rfl ?_
    show SS p e below s₁ m 1 #[rv a1] [(.ref a1)] _
    refine st2 _ ?_
    refine xaloadN X2 hx hby d48_4 rfl rfl ?_
    refine st3 _ ?_
    refine XS.icmpNo X3.here hx rfl (hb hby d48_8) rfl (feq (by decide : ¬ ((0 : Int32) = (1 : Int32)))).1 ?_
    refine XS.iconst X3.here hx rfl (hb hby d48_11) ?_
    refine XS.goto X3.here hx rfl (pc0 := 12) (pc' := 16) rfl (hb hby d48_12) (by decide) (by decide) ?_
    show SS p e below T3 m 16 #[rv a1] [(.int (1 : Int32))] _
    exact retN X3 hx (t := .boolean) hret (by simp) (hb hby d48_16) hr
  · exact ⟨rfl, N0, rfl⟩
theorem cw48 {a0 Z} (hw : HW a0 Z) : CI a0 Z s43 27 (⟨s36, "hasNext", "()Z"⟩ : MethodName) mn48 s34 0 (.code mn48 jdk_53_method_3_code 1 (some .boolean)) :=
  ⟨wx hw 289 rfl, wx hw 290 rfl, ⟨wx hw 291 rfl, by first | rfl | simp [Cond.onTables, Cond.keepsFace, Cond.keeps, Cond.steady]⟩, wx hw 352 rfl, wx hw 353 rfl, wx hw 354 rfl, wx hw 355 rfl, wx hw 356 rfl, wx hw 357 rfl, wx hw 332 rfl, by decide, _, _, pd_12, rfl⟩
theorem d37_95 : DC cb37 95 (.ifCond .eq 68) 3 := by decide +kernel
theorem d37_98 : DC cb37 98 (.aload 11) 2 := by decide +kernel
theorem d37_100 : DC cb37 100 (.invokeinterface 33 1) 5 := by decide +kernel
theorem d49_0 : DC cb49 0 (.aload_n 0) 1 := by decide +kernel
theorem d49_1 : DC cb49 1 (.getfield 17) 3 := by decide +kernel
theorem d49_4 : DC cb49 4 (.istore_n 1) 1 := by decide +kernel
theorem d49_5 : DC cb49 5 (.aload_n 0) 1 := by decide +kernel
theorem d49_6 : DC cb49 6 (.getfield 7) 3 := by decide +kernel
theorem d49_9 : DC cb49 9 (.iload_n 1) 1 := by decide +kernel
theorem d49_10 : DC cb49 10 (.invokeinterface 24 2) 5 := by decide +kernel
theorem d50_0 : DC cb50 0 (.iload_n 1) 1 := by decide +kernel
theorem d50_1 : DC cb50 1 (.ifCond .ne 8) 3 := by decide +kernel
theorem d50_4 : DC cb50 4 (.aload_n 0) 1 := by decide +kernel
theorem d50_5 : DC cb50 5 (.getfield 13) 3 := by decide +kernel
theorem d50_8 : DC cb50 8 (.areturn) 1 := by decide +kernel
theorem ef_50_50 (m : MethodId) (x0 : Addr) : entryFrame m #[(.ref x0), (.int (0 : Int32))] 2 = mkF m 0 #[.val (.ref x0), .val (.int (0 : Int32))] [] := by first | (simp [entryFrame, mkF, argsToLocals, Value.category]; done) | rfl
theorem rm50_0 (l : Launch) (Z : State) (a0 : Array Value) (hw : HW a0 Z) (a1 a2 : Addr) (h0 : Heap) (n0 : Nat) (OL0 : Old Z n0 h0) (pr1 : Fld Z h0 a1 s33 "e0" s2 (.ref a2)) :
    MF l Z mn50 jdk_44_method_5_code 2 (some (.object s20)) ⟨0, 0, 0, 0⟩ #[(.ref a1), (.int (0 : Int32))] h0 (QR n0 h0 (some (.ref a2))) := by
  refine own_start (plainFor_of_name pn_11) (fun m => (ef_50_50 m a1)) ?_
  intro p e s m below meth c s₁ hZ hx hby hml hown hnm hret X0 e0
  have N0 := Fr.nil n0
  obtain ⟨T3, X3, e3, st3⟩ := gF X0 hx hZ hown (wd201 hw) Via.refl e0 pr1 5 #[rv a1, iv (0 : Int32)] [] (hb hby d50_5)
  refine ⟨some (.ref a2), _, _, _, _, _, X3, e3, by decide, nofun, fun fs hr => ?_, ?_⟩
  · refine xiloadN X0 hx hby d50_0 rfl ?_
    show SS p e below s₁ m 1 #[rv a1, iv (0 : Int32)] [(.int (0 : Int32))] _
    refine XS.ifNo X0.here hx rfl (hb hby d50_1) rfl ((if0 _ _).trans (teq (rfl : (0 : Int32) = (0 : Int32))).2) ?_
    refine xaloadN X0 hx hby d50_4 rfl rfl ?_
    refine st3 _ ?_
    show SS p e below T3 m 8 #[rv a1, iv (0 : Int32)] [(.ref a2)] _
    exact own_retR X3 hx hret rfl rfl rfl (hb hby d50_8) hr
  · exact ⟨rfl, N0, rfl⟩
theorem pd_30 : parseMethodDescriptor "(I)Ljava/lang/Object;" = some ⟨[.int], some (.object "java/lang/Object")⟩ := by decide +kernel
theorem cw49 {a0 Z} (hw : HW a0 Z) : CI a0 Z s34 24 (⟨s37, "get", "(I)Ljava/lang/Object;"⟩ : MethodName) mn50 s33 1 (.code mn50 jdk_44_method_5_code 2 (some (.object s20))) :=
  ⟨wx hw 363 rfl, wx hw 364 rfl, ⟨wx hw 365 rfl, by first | rfl | simp [Cond.onTables, Cond.keepsFace, Cond.keeps, Cond.steady]⟩, wx hw 366 rfl, wx hw 367 rfl, wx hw 368 rfl, wx hw 369 rfl, wx hw 328 rfl, wx hw 370 rfl, wx hw 179 rfl, by decide, _, _, pd_30, rfl⟩
theorem d49_15 : DC cb49 15 (.astore_n 2) 1 := by decide +kernel
theorem d49_16 : DC cb49 16 (.aload_n 0) 1 := by decide +kernel
theorem d49_17 : DC cb49 17 (.iload_n 1) 1 := by decide +kernel
theorem d49_18 : DC cb49 18 (.iconst 1) 1 := by decide +kernel
theorem d49_19 : DC cb49 19 (.iadd) 1 := by decide +kernel
theorem d49_20 : DC cb49 20 (.putfield 17) 3 := by decide +kernel
theorem d49_23 : DC cb49 23 (.aload_n 2) 1 := by decide +kernel
theorem d49_24 : DC cb49 24 (.areturn) 1 := by decide +kernel
theorem ef_49_51 (m : MethodId) (x0 : Addr) : entryFrame m #[(.ref x0)] 3 = mkF m 0 #[.val (.ref x0), .unset, .unset] [] := by first | (simp [entryFrame, mkF, argsToLocals, Value.category]; done) | rfl
theorem rm49_0 (l : Launch) (Z : State) (a0 : Array Value) (hw : HW a0 Z) (a1 a3 a5 : Addr) (h0 : Heap) (n0 : Nat) (OL0 : Old Z n0 h0) (pr1 : Fld Z h0 a1 s34 "cursor" "I" (.int (0 : Int32))) (pr2 : Fld Z h0 a1 s34 "list" s6 (.ref a3)) (pr3 : Fld Z h0 a3 s33 "e0" s2 (.ref a5)) (pr4 : Exa Z h0 a3 s33) (pr5 : Exa Z h0 a1 s34) (pr6 : n0 ≤ a1) (pr7 : Fld Z h0 a1 s34 "size" "I" (.int (1 : Int32))) (pr8 : Fld Z h0 a1 s34 s17 "Z" (.int (0 : Int32))) :
    MW l Z mn49 jdk_53_method_4_code 3 (some (.object s20)) [((0 : Nat), (24 : Nat), (25 : Nat), (30 : Nat))] ⟨1, 0, 0, 13⟩ #[(.ref a1)] h0 (fun v h L => v = some (.ref a5) ∧ Fr n0 L ∧ Keep h0 h [a1] ∧ Fld Z h a1 s34 "cursor" "I" (.int (1 : Int32)) ∧ Fld Z h a1 s34 "list" s6 (.ref a3) ∧ Fld Z h a1 s34 "size" "I" (.int (1 : Int32)) ∧ Fld Z h a1 s34 s17 "Z" (.int (0 : Int32))) := by
  refine own_startW (plainFor_of_name pn_18) (fun m => (ef_49_51 m a1)) ?_
  intro p e s m below meth c s₁ hZ hx hby hml hown hnm hret X0 e0
  have N0 := Fr.nil n0
  obtain ⟨T2, X2, e2, st2⟩ := gF X0 hx hZ hown (wd348 hw) Via.refl e0 pr1 1 #[rv a1, uu, uu] [] (hb hby d49_1)
  obtain ⟨T4, X4, e4, st4⟩ := gF X2 hx hZ hown (wd344 hw) Via.refl e2 pr2 6 #[rv a1, iv (0 : Int32), uu] [] (hb hby d49_6)
  obtain ⟨_, T6, L6, X6, hQ6, st6⟩ := own_cI X4 hx hZ hown hml (cw49 hw) (rm50_0 l Z a0 hw a3 a5 h0 n0 OL0 pr3) e4 pr4 10 #[rv a1, iv (0 : Int32), uu] [(.int (0 : Int32))] [] 0 rfl (hb hby d49_10) (by decide)
  obtain ⟨rfl, Nq6, ec6⟩ := hQ6
  have N6 := Fr.app N0 Nq6
  obtain ⟨T7, h7, X7, e7, W7, st7⟩ := putF X6 hx hZ hown (host := "") (Or.inl (wd348 hw)) Via.refl ec6 pr1 pr5 (Or.inl (wd349 hw)) (wd331 hw) (ty := .int) (by decide) rfl rfl (g := (mkF m 20 #[rv a1, iv (0 : Int32), rv a5] [(.int (1 : Int32)), (.ref a1)])) rfl rfl (hb hby d49_20)
  have Fw7 := pr1.same W7
  have KK7 : Keep h0 h7 [a1] := (Keep.refl h0 [a1]).wr W7 (Or.inl (List.mem_of_getElem? (i := 0) rfl))
  have N7 := Fr.snoc X7 N6 pr6
  have fc8 := (pr2.other W7 (Or.inr (slot_ne (Or.inr (wd345 hw)) (Or.inl (wd349 hw)) (by decide) (t := (.object s37)) (t' := .int) (by decide) (by decide))))
  have fc9 := (pr7.other W7 (Or.inr (slot_ne (Or.inr (wd347 hw)) (Or.inl (wd349 hw)) (by decide) (t := .int) (t' := .int) (by decide) (by decide))))
  have fc10 := (pr8.other W7 (Or.inr (slot_ne (Or.inr (wd351 hw)) (Or.inl (wd349 hw)) (by decide) (t := .boolean) (t' := .int) (by decide) (by decide))))
  refine ⟨some (.ref a5), _, _, _, _, _, X7, e7, by decide, nofun, fun fs hr => ?_, ?_⟩
  · refine xaloadN X0 hx hby d49_0 rfl rfl ?_
    show SS p e below s₁ m 1 #[rv a1, uu, uu] [(.ref a1)] _
    refine st2 _ ?_
    refine XS.istoreN X2.here hx rfl (hb hby d49_4) rfl (l' := #[rv a1, iv (0 : Int32), uu]) rfl ?_
    refine xaloadN X2 hx hby d49_5 rfl rfl ?_
    refine st4 _ ?_
    refine xiloadN X4 hx hby d49_9 rfl ?_
    refine st6 _ ?_
    refine XS.astoreN X6.here hx rfl (hb hby d49_15) rfl rfl (l' := #[rv a1, iv (0 : Int32), rv a5]) rfl ?_
    refine xaloadN X6 hx hby d49_16 rfl rfl ?_
    refine xiloadN X6 hx hby d49_17 rfl ?_
    refine XS.iconst X6.here hx rfl (hb hby d49_18) ?_
    show SS p e below T6 m 19 #[rv a1, iv (0 : Int32), rv a5] [(.int (1 : Int32)), (.int (0 : Int32)), (.ref a1)] _
    refine XS.iadd X6.here hx rfl (hb hby d49_19) rfl ?_
    refine st7 _ ?_
    refine xaloadN X7 hx hby d49_23 rfl rfl ?_
    show SS p e below T7 m 24 #[rv a1, iv (0 : Int32), rv a5] [(.ref a5)] _
    exact own_retR X7 hx hret rfl rfl rfl (hb hby d49_24) hr
  · exact ⟨rfl, N7, KK7, Fw7, fc8, fc9, fc10⟩
theorem cw50 {a0 Z} (hw : HW a0 Z) : CI a0 Z s43 33 (⟨s36, "next", "()Ljava/lang/Object;"⟩ : MethodName) mn49 s34 0 (.codeWith mn49 jdk_53_method_4_code 3 (some (.object s20)) [((0 : Nat), (24 : Nat), (25 : Nat), (30 : Nat))]) :=
  ⟨wx hw 301 rfl, wx hw 302 rfl, ⟨wx hw 303 rfl, by first | rfl | simp [Cond.onTables, Cond.keepsFace, Cond.keeps, Cond.steady]⟩, wx hw 358 rfl, wx hw 359 rfl, wx hw 360 rfl, wx hw 361 rfl, wx hw 356 rfl, wx hw 362 rfl, wx hw 332 rfl, by decide, _, _, pd_27, rfl⟩
theorem d37_105 : DC cb37 105 (.checkcast 49) 3 := by decide +kernel
theorem d37_108 : DC cb37 108 (.astore 12) 2 := by decide +kernel
theorem d37_110 : DC cb37 110 (.lload 7) 2 := by decide +kernel
theorem d37_112 : DC cb37 112 (.aload 12) 2 := by decide +kernel
theorem d37_114 : DC cb37 114 (.invokevirtual 51) 3 := by decide +kernel
theorem d51_0 : DC cb51 0 (.aload_n 0) 1 := by decide +kernel
theorem d51_1 : DC cb51 1 (.getfield 13) 3 := by decide +kernel
theorem d51_4 : DC cb51 4 (.areturn) 1 := by decide +kernel
theorem ef_51_52 (m : MethodId) (x0 : Addr) : entryFrame m #[(.ref x0)] 1 = mkF m 0 #[.val (.ref x0)] [] := by first | (simp [entryFrame, mkF, argsToLocals, Value.category]; done) | rfl
theorem rm51_0 (l : Launch) (Z : State) (a0 : Array Value) (hw : HW a0 Z) (a1 a2 : Addr) (h0 : Heap) (n0 : Nat) (OL0 : Old Z n0 h0) (pr1 : Fld Z h0 a1 s45 "sets" s6 (.ref a2)) :
    MF l Z mn51 prog_26_method_9_code 1 (some (.object s37)) ⟨0, 0, 0, 0⟩ #[(.ref a1)] h0 (QR n0 h0 (some (.ref a2))) := by
  refine own_start (plainFor_of_name pn_14) (fun m => (ef_51_52 m a1)) ?_
  intro p e s m below meth c s₁ hZ hx hby hml hown hnm hret X0 e0
  have N0 := Fr.nil n0
  obtain ⟨T3, X3, e3, st3⟩ := gF X0 hx hZ hown (wd205 hw) Via.refl e0 pr1 1 #[rv a1] [] (hb hby d51_1)
  refine ⟨some (.ref a2), _, _, _, _, _, X3, e3, by decide, nofun, fun fs hr => ?_, ?_⟩
  · refine xaloadN X0 hx hby d51_0 rfl rfl ?_
    show SS p e below s₁ m 1 #[rv a1] [(.ref a1)] _
    refine st3 _ ?_
    show SS p e below T3 m 4 #[rv a1] [(.ref a2)] _
    exact own_retR X3 hx hret rfl rfl rfl (hb hby d51_4) hr
  · exact ⟨rfl, N0, rfl⟩
theorem cw51 {a0 Z} (hw : HW a0 Z) : CV a0 Z s43 51 mn51 mn51 s45 0 (.code mn51 prog_26_method_9_code 1 (some (.object s37))) :=
  ⟨wx hw 373 rfl, wx hw 374 rfl, (fun _ hZ => notFace_of_selects (args := #[]) (mvT hZ (wd376 hw))), wx hw 376 rfl, wx hw 375 rfl, wx hw 377 rfl, wx hw 116 rfl, by decide, _, _, pd_28, rfl⟩
theorem d37_117 : DC cb37 117 (.iload 6) 2 := by decide +kernel
theorem d37_119 : DC cb37 119 (.invokeinterface 54 2) 5 := by decide +kernel
theorem cw52 {a0 Z} (hw : HW a0 Z) : CI a0 Z s43 54 (⟨s37, "get", "(I)Ljava/lang/Object;"⟩ : MethodName) mn50 s33 1 (.code mn50 jdk_44_method_5_code 2 (some (.object s20))) :=
  ⟨wx hw 378 rfl, wx hw 364 rfl, ⟨wx hw 365 rfl, by first | rfl | simp [Cond.onTables, Cond.keepsFace, Cond.keeps, Cond.steady]⟩, wx hw 366 rfl, wx hw 367 rfl, wx hw 368 rfl, wx hw 369 rfl, wx hw 328 rfl, wx hw 370 rfl, wx hw 179 rfl, by decide, _, _, pd_30, rfl⟩
theorem d37_124 : DC cb37 124 (.checkcast 58) 3 := by decide +kernel
theorem d37_127 : DC cb37 127 (.invokevirtual 60) 3 := by decide +kernel
theorem d52_0 : DC cb52 0 (.aload_n 0) 1 := by decide +kernel
theorem d52_1 : DC cb52 1 (.getfield 7) 3 := by decide +kernel
theorem d52_4 : DC cb52 4 (.iconst 0) 1 := by decide +kernel
theorem d52_5 : DC cb52 5 (.laload) 1 := by decide +kernel
theorem d52_6 : DC cb52 6 (.lreturn) 1 := by decide +kernel
theorem ef_52_53 (m : MethodId) (x0 : Addr) : entryFrame m #[(.ref x0)] 1 = mkF m 0 #[.val (.ref x0)] [] := by first | (simp [entryFrame, mkF, argsToLocals, Value.category]; done) | rfl
theorem rm52_0 (l : Launch) (Z : State) (a0 : Array Value) (hw : HW a0 Z) (a1 a2 : Addr) (q4 : Int64) (k5 : ClassId) (h0 : Heap) (n0 : Nat) (OL0 : Old Z n0 h0) (pr1 : Fld Z h0 a1 s48 "lows" "[J" (.ref a2)) (pr2 : Arv Z h0 a2 k5 .long (1 : Int32) [(.long q4)] (.long (0 : Int64))) :
    MF l Z mn52 prog_64_method_10_code 1 (some .long) ⟨0, 0, 0, 0⟩ #[(.ref a1)] h0 (QR n0 h0 (some (.long q4))) := by
  refine own_start (plainFor_of_name pn_7) (fun m => (ef_52_53 m a1)) ?_
  intro p e s m below meth c s₁ hZ hx hby hml hown hnm hret X0 e0
  have N0 := Fr.nil n0
  obtain ⟨T3, X3, e3, st3⟩ := gF X0 hx hZ hown (wd80 hw) Via.refl e0 pr1 1 #[rv a1] [] (hb hby d52_1)
  refine ⟨some (.long q4), _, _, _, _, _, X3, e3, by decide, nofun, fun fs hr => ?_, ?_⟩
  · refine xaloadN X0 hx hby d52_0 rfl rfl ?_
    show SS p e below s₁ m 1 #[rv a1] [(.ref a1)] _
    refine st3 _ ?_
    refine XS.iconst X3.here hx rfl (hb hby d52_4) ?_
    refine own_laJ X3 hx hZ e3 pr2 (v := (.long q4)) (by decide) rfl (hb hby d52_5) ?_
    show SS p e below T3 m 6 #[rv a1] [(.long q4)] _
    exact own_retJ X3 hx hret (hb hby d52_6) hr
  · exact ⟨rfl, N0, rfl⟩
theorem pd_31 : parseMethodDescriptor "()J" = some ⟨[], some .long⟩ := by decide +kernel
theorem cw53 {a0 Z} (hw : HW a0 Z) : CV a0 Z s43 60 mn52 mn52 s48 0 (.code mn52 prog_64_method_10_code 1 (some .long)) :=
  ⟨wx hw 381 rfl, wx hw 382 rfl, (fun _ hZ => notFace_of_selects (args := #[]) (mvT hZ (wd384 hw))), wx hw 384 rfl, wx hw 383 rfl, wx hw 385 rfl, wx hw 71 rfl, by decide, _, _, pd_31, rfl⟩
theorem d37_130 : DC cb37 130 (.invokestatic 64) 3 := by decide +kernel
theorem cw54 {a0 Z} (hw : HW a0 Z) : CS a0 Z s43 64 mn2 2 (.code mn2 jdk_29_method_70_code 4 (some .long)) :=
  ⟨wx hw 386 rfl, wx hw 7 rfl, wx hw 9 rfl, wx hw 8 rfl, by decide, _, _, pd_0, rfl⟩
theorem d37_133 : DC cb37 133 (.lstore 7) 2 := by decide +kernel
theorem d37_135 : DC cb37 135 (.lload 9) 2 := by decide +kernel
theorem d37_137 : DC cb37 137 (.aload 12) 2 := by decide +kernel
theorem d37_139 : DC cb37 139 (.invokevirtual 51) 3 := by decide +kernel
theorem d37_142 : DC cb37 142 (.iload 6) 2 := by decide +kernel
theorem d37_144 : DC cb37 144 (.invokeinterface 54 2) 5 := by decide +kernel
theorem d37_149 : DC cb37 149 (.checkcast 58) 3 := by decide +kernel
theorem d37_152 : DC cb37 152 (.invokevirtual 69) 3 := by decide +kernel
theorem d53_0 : DC cb53 0 (.aload_n 0) 1 := by decide +kernel
theorem d53_1 : DC cb53 1 (.getfield 13) 3 := by decide +kernel
theorem d53_4 : DC cb53 4 (.aload_n 0) 1 := by decide +kernel
theorem d53_5 : DC cb53 5 (.getfield 13) 3 := by decide +kernel
theorem d53_8 : DC cb53 8 (.arraylength) 1 := by decide +kernel
theorem d53_9 : DC cb53 9 (.iconst 1) 1 := by decide +kernel
theorem d53_10 : DC cb53 10 (.isub) 1 := by decide +kernel
theorem d53_11 : DC cb53 11 (.laload) 1 := by decide +kernel
theorem d53_12 : DC cb53 12 (.lreturn) 1 := by decide +kernel
theorem ef_53_54 (m : MethodId) (x0 : Addr) : entryFrame m #[(.ref x0)] 1 = mkF m 0 #[.val (.ref x0)] [] := by first | (simp [entryFrame, mkF, argsToLocals, Value.category]; done) | rfl
theorem rm53_0 (l : Launch) (Z : State) (a0 : Array Value) (hw : HW a0 Z) (a1 a2 : Addr) (q5 : Int64) (k6 : ClassId) (h0 : Heap) (n0 : Nat) (OL0 : Old Z n0 h0) (pr1 : Fld Z h0 a1 s48 "highs" "[J" (.ref a2)) (pr2 : Arv Z h0 a2 k6 .long (1 : Int32) [(.long q5)] (.long (0 : Int64))) :
    MF l Z mn53 prog_64_method_11_code 1 (some .long) ⟨0, 0, 0, 0⟩ #[(.ref a1)] h0 (QR n0 h0 (some (.long q5))) := by
  refine own_start (plainFor_of_name pn_7) (fun m => (ef_53_54 m a1)) ?_
  intro p e s m below meth c s₁ hZ hx hby hml hown hnm hret X0 e0
  have N0 := Fr.nil n0
  obtain ⟨T3, X3, e3, st3⟩ := gF X0 hx hZ hown (wd82 hw) Via.refl e0 pr1 1 #[rv a1] [] (hb hby d53_1)
  obtain ⟨T4, X4, e4, st4⟩ := gF X3 hx hZ hown (wd82 hw) Via.refl e3 pr1 5 #[rv a1] [(.ref a2)] (hb hby d53_5)
  obtain ⟨cl7, Ar7, -, Sz7, Nn7, -, -⟩ := id pr2
  refine ⟨some (.long q5), _, _, _, _, _, X4, e4, by decide, nofun, fun fs hr => ?_, ?_⟩
  · refine xaloadN X0 hx hby d53_0 rfl rfl ?_
    show SS p e below s₁ m 1 #[rv a1] [(.ref a1)] _
    refine st3 _ ?_
    refine xaloadN X3 hx hby d53_4 rfl rfl ?_
    refine st4 _ ?_
    refine X4.arraylength hx (by rw [e4]; exact Ar7.1) (State.isArrayOf_alike hZ.alike Ar7.2.1) (g := (mkF m 8 #[rv a1] [(.ref a2), (.ref a2)])) rfl rfl (hb hby d53_8) _ ?_
    rw [len_of Sz7 Nn7]
    refine XS.iconst X4.here hx rfl (hb hby d53_9) ?_
    refine XS.isub X4.here hx rfl (hb hby d53_10) rfl ?_
    refine own_laJ X4 hx hZ e4 pr2 (v := (.long q5)) (by decide) rfl (hb hby d53_11) ?_
    show SS p e below T4 m 12 #[rv a1] [(.long q5)] _
    exact own_retJ X4 hx hret (hb hby d53_12) hr
  · exact ⟨rfl, N0, rfl⟩
theorem cw55 {a0 Z} (hw : HW a0 Z) : CV a0 Z s43 69 mn53 mn53 s48 0 (.code mn53 prog_64_method_11_code 1 (some .long)) :=
  ⟨wx hw 387 rfl, wx hw 388 rfl, (fun _ hZ => notFace_of_selects (args := #[]) (mvT hZ (wd390 hw))), wx hw 390 rfl, wx hw 389 rfl, wx hw 391 rfl, wx hw 71 rfl, by decide, _, _, pd_31, rfl⟩
theorem d37_155 : DC cb37 155 (.invokestatic 72) 3 := by decide +kernel
theorem cw56 {a0 Z} (hw : HW a0 Z) : CS a0 Z s43 72 mn4 2 (.code mn4 jdk_29_method_66_code 4 (some .long)) :=
  ⟨wx hw 392 rfl, wx hw 14 rfl, wx hw 15 rfl, wx hw 8 rfl, by decide, _, _, pd_0, rfl⟩
theorem d37_158 : DC cb37 158 (.lstore 9) 2 := by decide +kernel
theorem d37_160 : DC cb37 160 (.goto (-72)) 3 := by decide +kernel
theorem d48_15 : DC cb48 15 (.iconst 0) 1 := by decide +kernel
theorem rm48_1 (l : Launch) (Z : State) (a0 : Array Value) (hw : HW a0 Z) (a1 : Addr) (h0 : Heap) (n0 : Nat) (OL0 : Old Z n0 h0) (pr1 : Fld Z h0 a1 s34 "cursor" "I" (.int (1 : Int32))) (pr2 : Fld Z h0 a1 s34 "size" "I" (.int (1 : Int32))) :
    MF l Z mn48 jdk_53_method_3_code 1 (some .boolean) ⟨0, 0, 0, 0⟩ #[(.ref a1)] h0 (QR n0 h0 (some (.int (0 : Int32)))) := by
  refine own_start (plainFor_of_name pn_18) (fun m => (ef_48_49 m a1)) ?_
  intro p e s m below meth c s₁ hZ hx hby hml hown hnm hret X0 e0
  have N0 := Fr.nil n0
  obtain ⟨T2, X2, e2, st2⟩ := gF X0 hx hZ hown (wd348 hw) Via.refl e0 pr1 1 #[rv a1] [] (hb hby d48_1)
  obtain ⟨T3, X3, e3, st3⟩ := gF X2 hx hZ hown (wd346 hw) Via.refl e2 pr2 5 #[rv a1] [(.int (1 : Int32))] (hb hby d48_5)
  refine ⟨some (.int (0 : Int32)), _, _, _, _, _, X3, e3, by decide, nofun, fun fs hr => ?_, ?_⟩
  · refine xaloadN X0 hx hby d48_0 rfl rfl ?_
    show SS p e below s₁ m 1 #[rv a1] [(.ref a1)] _
    refine st2 _ ?_
    refine xaloadN X2 hx hby d48_4 rfl rfl ?_
    refine st3 _ ?_
    refine XS.icmpYes X3.here hx rfl (pc0 := 8) (pc' := 15) rfl (hb hby d48_8) rfl (teq (rfl : (1 : Int32) = (1 : Int32))).1 (by decide) (by decide) ?_
    refine XS.iconst X3.here hx rfl (hb hby d48_15) ?_
    show SS p e below T3 m 16 #[rv a1] [(.int (0 : Int32))] _
    exact retN X3 hx (t := .boolean) hret (by simp) (hb hby d48_16) hr
  · exact ⟨rfl, N0, rfl⟩
theorem d37_163 : DC cb37 163 (.aload_n 0) 1 := by decide +kernel
theorem d37_164 : DC cb37 164 (.getfield 19) 3 := by decide +kernel
theorem d37_167 : DC cb37 167 (.iload_n 3) 1 := by decide +kernel
theorem d37_168 : DC cb37 168 (.iinc 3 1) 3 := by decide +kernel
theorem d37_171 : DC cb37 171 (.lload 7) 2 := by decide +kernel
theorem d37_173 : DC cb37 173 (.lastore) 1 := by decide +kernel
theorem d37_174 : DC cb37 174 (.aload_n 0) 1 := by decide +kernel
theorem d37_175 : DC cb37 175 (.getfield 19) 3 := by decide +kernel
theorem d37_178 : DC cb37 178 (.iload_n 3) 1 := by decide +kernel
theorem d37_179 : DC cb37 179 (.iinc 3 1) 3 := by decide +kernel
theorem d37_182 : DC cb37 182 (.lload 9) 2 := by decide +kernel
theorem d37_184 : DC cb37 184 (.lastore) 1 := by decide +kernel
theorem d37_185 : DC cb37 185 (.iinc 6 1) 3 := by decide +kernel
theorem d37_188 : DC cb37 188 (.goto (-128)) 3 := by decide +kernel
theorem d50_9 : DC cb50 9 (.iload_n 1) 1 := by decide +kernel
theorem d50_10 : DC cb50 10 (.iconst 1) 1 := by decide +kernel
theorem d50_11 : DC cb50 11 (.if_icmp .ne 18) 3 := by decide +kernel
theorem d50_14 : DC cb50 14 (.aload_n 0) 1 := by decide +kernel
theorem d50_15 : DC cb50 15 (.getfield 24) 3 := by decide +kernel
theorem d50_18 : DC cb50 18 (.getstatic 19) 3 := by decide +kernel
theorem d50_21 : DC cb50 21 (.if_acmp .eq 8) 3 := by decide +kernel
theorem d50_24 : DC cb50 24 (.aload_n 0) 1 := by decide +kernel
theorem d50_25 : DC cb50 25 (.getfield 24) 3 := by decide +kernel
theorem d50_28 : DC cb50 28 (.areturn) 1 := by decide +kernel
theorem ef_50_55 (m : MethodId) (x0 : Addr) : entryFrame m #[(.ref x0), (.int (1 : Int32))] 2 = mkF m 0 #[.val (.ref x0), .val (.int (1 : Int32))] [] := by first | (simp [entryFrame, mkF, argsToLocals, Value.category]; done) | rfl
theorem rm50_1 (l : Launch) (Z : State) (a0 : Array Value) (hw : HW a0 Z) (a1 a2 w4 : Addr) (h0 : Heap) (n0 : Nat) (OL0 : Old Z n0 h0) (pr1 : Fld Z h0 a1 s33 "e1" s2 (.ref a2)) (pr2 : Sta Z Z.heap s30 "EMPTY" s2 (.ref w4)) (pr3 : Exa Z Z.heap w4 s20) (pr4 : n0 ≤ a2) :
    MF l Z mn50 jdk_44_method_5_code 2 (some (.object s20)) ⟨0, 0, 0, 0⟩ #[(.ref a1), (.int (1 : Int32))] h0 (QR n0 h0 (some (.ref a2))) := by
  refine own_start (plainFor_of_name pn_11) (fun m => (ef_50_55 m a1)) ?_
  intro p e s m below meth c s₁ hZ hx hby hml hown hnm hret X0 e0
  have N0 := Fr.nil n0
  obtain ⟨T3, X3, e3, st3⟩ := gF X0 hx hZ hown (wd203 hw) Via.refl e0 pr1 15 #[rv a1, iv (1 : Int32)] [] (hb hby d50_15)
  obtain ⟨T5, X5, e5, st5⟩ := getS2 X3 hx hZ hown (Or.inr (wd238 hw)) Via.refl e3 (pr2.ext OL0.2) (g := (mkF m 18 #[rv a1, iv (1 : Int32)] [(.ref a2)])) rfl (hb hby d50_18)
  have nz6 : w4 ≠ a2 := (OL0.ne pr3.lt pr4)
  obtain ⟨T7, X7, e7, st7⟩ := gF X5 hx hZ hown (wd203 hw) Via.refl e5 pr1 25 #[rv a1, iv (1 : Int32)] [] (hb hby d50_25)
  refine ⟨some (.ref a2), _, _, _, _, _, X7, e7, by decide, nofun, fun fs hr => ?_, ?_⟩
  · refine xiloadN X0 hx hby d50_0 rfl ?_
    show SS p e below s₁ m 1 #[rv a1, iv (1 : Int32)] [(.int (1 : Int32))] _
    refine XS.ifYes X0.here hx rfl (pc0 := 1) (pc' := 9) rfl (hb hby d50_1) rfl ((if0 _ _).trans (feq (by decide : ¬ ((1 : Int32) = (0 : Int32)))).2) (by decide) (by decide) ?_
    refine xiloadN X0 hx hby d50_9 rfl ?_
    refine XS.iconst X0.here hx rfl (hb hby d50_10) ?_
    refine XS.icmpNo X0.here hx rfl (hb hby d50_11) rfl (teq (rfl : (1 : Int32) = (1 : Int32))).2 ?_
    refine xaloadN X0 hx hby d50_14 rfl rfl ?_
    refine st3 _ ?_
    refine st5 _ ?_
    refine Jvm.RoadKit.acmp (g := (mkF m 21 #[rv a1, iv (1 : Int32)] [(.ref w4), (.ref a2)])) X5 hx rfl rfl rfl (pc0 := 21) (pc' := 24) (same := false) rfl (hb hby d50_21) rfl (decide_eq_false fun q => (Ne.symm nz6) (Value.ref.inj q)) (by decide) (by decide) ?_
    refine xaloadN X5 hx hby d50_24 rfl rfl ?_
    refine st7 _ ?_
    show SS p e below T7 m 28 #[rv a1, iv (1 : Int32)] [(.ref a2)] _
    exact own_retR X7 hx hret rfl rfl rfl (hb hby d50_28) hr
  · exact ⟨rfl, N0, rfl⟩
theorem d37_191 : DC cb37 191 (.goto (-156)) 3 := by decide +kernel
theorem rm41_1 (l : Launch) (Z : State) (a0 : Array Value) (hw : HW a0 Z) (a1 a3 : Addr) (h0 : Heap) (n0 : Nat) (OL0 : Old Z n0 h0) (pr1 : Fld Z h0 a1 s27 "cursor" "I" (.int (1 : Int32))) (pr2 : Fld Z h0 a1 s27 "this$0" s4 (.ref a3)) (pr3 : Fld Z h0 a3 s26 "size" "I" (.int (2 : Int32))) :
    MF l Z mn41 jdk_49_method_2_code 1 (some .boolean) ⟨0, 0, 0, 0⟩ #[(.ref a1)] h0 (QR n0 h0 (some (.int (1 : Int32)))) := by
  refine own_start (plainFor_of_name pn_17) (fun m => (ef_41_42 m a1)) ?_
  intro p e s m below meth c s₁ hZ hx hby hml hown hnm hret X0 e0
  have N0 := Fr.nil n0
  obtain ⟨T2, X2, e2, st2⟩ := gF X0 hx hZ hown (wd298 hw) Via.refl e0 pr1 1 #[rv a1] [] (hb hby d41_1)
  obtain ⟨T4, X4, e4, st4⟩ := gF X2 hx hZ hown (wd281 hw) Via.refl e2 pr2 5 #[rv a1] [(.int (1 : Int32))] (hb hby d41_5)
  obtain ⟨T5, X5, e5, st5⟩ := getF X4 hx hZ hown (Or.inr (wd300 hw)) Via.refl e4 pr3 (g := (mkF m 8 #[rv a1] [(.ref a3), (.int (1 : Int32))])) rfl rfl (hb hby d41_8)
  refine ⟨some (.int (1 : Int32)), _, _, _, _, _, X5, e5, by decide, nofun, fun fs hr => ?_, ?_⟩
  · refine xaloadN X0 hx hby d41_0 rfl rfl ?_
    show SS p e below s₁ m 1 #[rv a1] [(.ref a1)] _
    refine st2 _ ?_
    refine xaloadN X2 hx hby d41_4 rfl rfl ?_
    refine st4 _ ?_
    refine st5 _ ?_
    refine XS.icmpNo X5.here hx rfl (hb hby d41_11) rfl (feq (by decide : ¬ ((1 : Int32) = (2 : Int32)))).1 ?_
    refine XS.iconst X5.here hx rfl (hb hby d41_14) ?_
    refine XS.goto X5.here hx rfl (pc0 := 15) (pc' := 19) rfl (hb hby d41_15) (by decide) (by decide) ?_
    show SS p e below T5 m 19 #[rv a1] [(.int (1 : Int32))] _
    exact retN X5 hx (t := .boolean) hret (by simp) (hb hby d41_19) hr
  · exact ⟨rfl, N0, rfl⟩
theorem rm42_1 (l : Launch) (Z : State) (a0 : Array Value) (hw : HW a0 Z) (a1 a2 a8 a10 a11 : Addr) (k12 : ClassId) (h0 : Heap) (n0 : Nat) (OL0 : Old Z n0 h0) (pr1 : Fld Z h0 a1 s27 "this$0" s4 (.ref a2)) (pr2 : Fld Z h0 a2 s25 s41 "I" (.int (2 : Int32))) (pr3 : Fld Z h0 a1 s27 s14 "I" (.int (2 : Int32))) (pr4 : Exa Z h0 a1 s27) (pr5 : Fld Z h0 a1 s27 "cursor" "I" (.int (1 : Int32))) (pr6 : Fld Z h0 a2 s26 "size" "I" (.int (2 : Int32))) (pr7 : Fld Z h0 a2 s26 s12 s8 (.ref a8)) (pr8 : Arv Z h0 a8 k12 (.object s20) (10 : Int32) [(.ref a10), (.ref a11), .null, .null, .null, .null, .null, .null, .null, .null] .null) (pr9 : n0 ≤ a1) (pr10 : Fld Z h0 a1 s27 "lastRet" "I" (.int (0 : Int32))) (pr11 : a8 ≠ a1) :
    MF l Z mn42 jdk_49_method_3_code 3 (some (.object s20)) ⟨1, 0, 0, 12⟩ #[(.ref a1)] h0 (fun v h L => v = some (.ref a11) ∧ Fr n0 L ∧ Keep h0 h [a1] ∧ Fld Z h a1 s27 "this$0" s4 (.ref a2) ∧ Fld Z h a1 s27 s14 "I" (.int (2 : Int32)) ∧ Fld Z h a1 s27 "cursor" "I" (.int (2 : Int32)) ∧ Fld Z h a1 s27 "lastRet" "I" (.int (1 : Int32))) := by
  refine own_start (plainFor_of_name pn_17) (fun m => (ef_42_44 m a1)) ?_
  intro p e s m below meth c s₁ hZ hx hby hml hown hnm hret X0 e0
  have N0 := Fr.nil n0
  obtain ⟨_, T3, L3, X3, hQ3, st3⟩ := own_cV X0 hx hZ hown hml (cw42 hw) (rm43_0 l Z a0 hw a1 a2 h0 n0 OL0 pr1 pr2 pr3) e0 pr4 1 #[rv a1, uu, uu] [] [] 0 rfl (hb hby d42_1) (by decide)
  obtain ⟨rfl, Nq3, ec3⟩ := hQ3
  have N3 := Fr.app N0 Nq3
  obtain ⟨T4, X4, e4, st4⟩ := gF X3 hx hZ hown (wd298 hw) Via.refl ec3 pr5 5 #[rv a1, uu, uu] [] (hb hby d42_5)
  obtain ⟨T5, X5, e5, st5⟩ := gF X4 hx hZ hown (wd281 hw) Via.refl e4 pr1 11 #[rv a1, iv (1 : Int32), uu] [(.int (1 : Int32))] (hb hby d42_11)
  obtain ⟨T6, X6, e6, st6⟩ := getF X5 hx hZ hown (Or.inr (wd300 hw)) Via.refl e5 pr6 (g := (mkF m 14 #[rv a1, iv (1 : Int32), uu] [(.ref a2), (.int (1 : Int32))])) rfl rfl (hb hby d42_14)
  obtain ⟨T7, X7, e7, st7⟩ := gF X6 hx hZ hown (wd281 hw) Via.refl e6 pr1 29 #[rv a1, iv (1 : Int32), uu] [] (hb hby d42_29)
  obtain ⟨T9, X9, e9, st9⟩ := gF X7 hx hZ hown (wd314 hw) Via.refl e7 pr7 32 #[rv a1, iv (1 : Int32), uu] [] (hb hby d42_32)
  obtain ⟨cl13, Ar13, -, Sz13, Nn13, -, -⟩ := id pr8
  obtain ⟨T14, h14, X14, e14, W14, st14⟩ := putF X9 hx hZ hown (host := "") (Or.inl (wd298 hw)) Via.refl e9 pr5 pr4 (Or.inl (wd299 hw)) (wd275 hw) (ty := .int) (by decide) rfl rfl (g := (mkF m 54 #[rv a1, iv (1 : Int32), rv a8] [(.int (2 : Int32)), (.ref a1)])) rfl rfl (hb hby d42_54)
  have Fw14 := pr5.same W14
  have KK14 : Keep h0 h14 [a1] := (Keep.refl h0 [a1]).wr W14 (Or.inl (List.mem_of_getElem? (i := 0) rfl))
  have N14 := Fr.snoc X14 N3 pr9
  have fc15 := (pr4.wr W14)
  have fc16 := (pr10.other W14 (Or.inr (slot_ne (Or.inl (wd285 hw)) (Or.inl (wd299 hw)) (by decide) (t := .int) (t' := .int) (by decide) (by decide))))
  obtain ⟨T17, h17, X17, e17, W17, st17⟩ := putF X14 hx hZ hown (host := "") (Or.inl (wd284 hw)) Via.refl e14 fc16 fc15 (Or.inl (wd285 hw)) (wd275 hw) (ty := .int) (by decide) rfl rfl (g := (mkF m 61 #[rv a1, iv (1 : Int32), rv a8] [(.int (1 : Int32)), (.ref a1), (.int (1 : Int32)), (.ref a8)])) rfl rfl (hb hby d42_61)
  have Fw17 := fc16.same W17
  have KK17 : Keep h0 h17 [a1] := KK14.wr W17 (Or.inl (List.mem_of_getElem? (i := 0) rfl))
  have N17 := Fr.snoc X17 N14 pr9
  have fc18 := ((pr8.other W14 pr11).other W17 pr11)
  have fc20 := ((pr1.other W14 (Or.inr (slot_ne (Or.inr (wd282 hw)) (Or.inl (wd299 hw)) (by decide) (t := (.object s26)) (t' := .int) (by decide) (by decide)))).other W17 (Or.inr (slot_ne (Or.inr (wd282 hw)) (Or.inl (wd285 hw)) (by decide) (t := (.object s26)) (t' := .int) (by decide) (by decide))))
  have fc21 := ((pr3.other W14 (Or.inr (slot_ne (Or.inl (wd288 hw)) (Or.inl (wd299 hw)) (by decide) (t := .int) (t' := .int) (by decide) (by decide)))).other W17 (Or.inr (slot_ne (Or.inl (wd288 hw)) (Or.inl (wd285 hw)) (by decide) (t := .int) (t' := .int) (by decide) (by decide))))
  have fc22 := (Fw14.other W17 (Or.inr (slot_ne (Or.inl (wd299 hw)) (Or.inl (wd285 hw)) (by decide) (t := .int) (t' := .int) (by decide) (by decide))))
  refine ⟨some (.ref a11), _, _, _, _, _, X17, e17, by decide, nofun, fun fs hr => ?_, ?_⟩
  · refine xaloadN X0 hx hby d42_0 rfl rfl ?_
    show SS p e below s₁ m 1 #[rv a1, uu, uu] [(.ref a1)] _
    refine st3 _ ?_
    refine xaloadN X3 hx hby d42_4 rfl rfl ?_
    refine st4 _ ?_
    refine XS.istoreN X4.here hx rfl (hb hby d42_8) rfl (l' := #[rv a1, iv (1 : Int32), uu]) rfl ?_
    refine xiloadN X4 hx hby d42_9 rfl ?_
    refine xaloadN X4 hx hby d42_10 rfl rfl ?_
    refine st5 _ ?_
    refine st6 _ ?_
    refine XS.icmpYes X6.here hx rfl (pc0 := 17) (pc' := 28) rfl (hb hby d42_17) rfl (tlt (by decide : (1 : Int32) < (2 : Int32))).1 (by decide) (by decide) ?_
    refine xaloadN X6 hx hby d42_28 rfl rfl ?_
    show SS p e below T6 m 29 #[rv a1, iv (1 : Int32), uu] [(.ref a1)] _
    refine st7 _ ?_
    refine st9 _ ?_
    refine XS.astoreN X9.here hx rfl (hb hby d42_35) rfl rfl (l' := #[rv a1, iv (1 : Int32), rv a8]) rfl ?_
    refine xiloadN X9 hx hby d42_36 rfl ?_
    refine xaloadN X9 hx hby d42_37 rfl rfl ?_
    refine X9.arraylength hx (by rw [e9]; exact Ar13.1) (State.isArrayOf_alike hZ.alike Ar13.2.1) (g := (mkF m 38 #[rv a1, iv (1 : Int32), rv a8] [(.ref a8), (.int (1 : Int32))])) rfl rfl (hb hby d42_38) _ ?_
    rw [len_of Sz13 Nn13]
    refine XS.icmpYes X9.here hx rfl (pc0 := 39) (pc' := 50) rfl (hb hby d42_39) rfl (tlt (by decide : (1 : Int32) < (10 : Int32))).1 (by decide) (by decide) ?_
    refine xaloadN X9 hx hby d42_50 rfl rfl ?_
    refine xiloadN X9 hx hby d42_51 rfl ?_
    refine XS.iconst X9.here hx rfl (hb hby d42_52) ?_
    show SS p e below T9 m 53 #[rv a1, iv (1 : Int32), rv a8] [(.int (1 : Int32)), (.int (1 : Int32)), (.ref a1)] _
    refine XS.iadd X9.here hx rfl (hb hby d42_53) rfl ?_
    refine st14 _ ?_
    refine xaloadN X14 hx hby d42_57 rfl rfl ?_
    refine xaloadN X14 hx hby d42_58 rfl rfl ?_
    refine xiloadN X14 hx hby d42_59 rfl ?_
    refine XS.dupX1 X14.here hx rfl (hb hby d42_60) rfl rfl rfl ?_
    refine st17 _ ?_
    refine own_laR X17 hx hZ e17 fc18 (v := (.ref a11)) (by decide) rfl rfl (hb hby d42_64) ?_
    show SS p e below T17 m 65 #[rv a1, iv (1 : Int32), rv a8] [(.ref a11)] _
    exact own_retR X17 hx hret rfl rfl rfl (hb hby d42_65) hr
  · exact ⟨rfl, N17, KK17, fc20, fc21, fc22, Fw17⟩
theorem d41_18 : DC cb41 18 (.iconst 0) 1 := by decide +kernel
theorem rm41_2 (l : Launch) (Z : State) (a0 : Array Value) (hw : HW a0 Z) (a1 a3 : Addr) (h0 : Heap) (n0 : Nat) (OL0 : Old Z n0 h0) (pr1 : Fld Z h0 a1 s27 "cursor" "I" (.int (2 : Int32))) (pr2 : Fld Z h0 a1 s27 "this$0" s4 (.ref a3)) (pr3 : Fld Z h0 a3 s26 "size" "I" (.int (2 : Int32))) :
    MF l Z mn41 jdk_49_method_2_code 1 (some .boolean) ⟨0, 0, 0, 0⟩ #[(.ref a1)] h0 (QR n0 h0 (some (.int (0 : Int32)))) := by
  refine own_start (plainFor_of_name pn_17) (fun m => (ef_41_42 m a1)) ?_
  intro p e s m below meth c s₁ hZ hx hby hml hown hnm hret X0 e0
  have N0 := Fr.nil n0
  obtain ⟨T2, X2, e2, st2⟩ := gF X0 hx hZ hown (wd298 hw) Via.refl e0 pr1 1 #[rv a1] [] (hb hby d41_1)
  obtain ⟨T4, X4, e4, st4⟩ := gF X2 hx hZ hown (wd281 hw) Via.refl e2 pr2 5 #[rv a1] [(.int (2 : Int32))] (hb hby d41_5)
  obtain ⟨T5, X5, e5, st5⟩ := getF X4 hx hZ hown (Or.inr (wd300 hw)) Via.refl e4 pr3 (g := (mkF m 8 #[rv a1] [(.ref a3), (.int (2 : Int32))])) rfl rfl (hb hby d41_8)
  refine ⟨some (.int (0 : Int32)), _, _, _, _, _, X5, e5, by decide, nofun, fun fs hr => ?_, ?_⟩
  · refine xaloadN X0 hx hby d41_0 rfl rfl ?_
    show SS p e below s₁ m 1 #[rv a1] [(.ref a1)] _
    refine st2 _ ?_
    refine xaloadN X2 hx hby d41_4 rfl rfl ?_
    refine st4 _ ?_
    refine st5 _ ?_
    refine XS.icmpYes X5.here hx rfl (pc0 := 11) (pc' := 18) rfl (hb hby d41_11) rfl (teq (rfl : (2 : Int32) = (2 : Int32))).1 (by decide) (by decide) ?_
    refine XS.iconst X5.here hx rfl (hb hby d41_18) ?_
    show SS p e below T5 m 19 #[rv a1] [(.int (0 : Int32))] _
    exact retN X5 hx (t := .boolean) hret (by simp) (hb hby d41_19) hr
  · exact ⟨rfl, N0, rfl⟩
theorem d37_194 : DC cb37 194 (.return_) 1 := by decide +kernel
theorem ef_37_56 (m : MethodId) (x0 : Addr) (x2 : Addr) : entryFrame m #[(.ref x0), (.int (2 : Int32)), (.ref x2)] 13 = mkF m 0 #[.val (.ref x0), .val (.int (2 : Int32)), .val (.ref x2), .unset, .unset, .unset, .unset, .unset, .unset, .unset, .unset, .unset, .unset] [] := by first | (simp [entryFrame, mkF, argsToLocals, Value.category]; done) | rfl
theorem pn_19 : plainName "shadowsift/core/Bounds" = true := by first | (simp [plainName, overriddenIn]; done) | decide +kernel
theorem rm37_0 (l : Launch) (Z : State) (a0 : Array Value) (hw : HW a0 Z) (a1 a2 a17 a18 a19 : Addr) (k20 : ClassId) (a28 w32 a38 a44 a49 a57 : Addr) (q58 : Int64) (k59 : ClassId) (a71 : Addr) (q72 : Int64) (k73 : ClassId) (a118 a126 : Addr) (q127 : Int64) (k128 : ClassId) (a144 : Addr) (q145 : Int64) (k146 : ClassId) (a191 a206 a212 a220 a231 : Addr) (q232 : Int64) (k233 : ClassId) (a251 : Addr) (q252 : Int64) (k253 : ClassId) (a294 a301 : Addr) (q302 : Int64) (k303 : ClassId) (a323 : Addr) (q324 : Int64) (k325 : ClassId) (h0 : Heap) (n0 : Nat) (OL0 : Old Z n0 h0) (pr1 : Exa Z h0 a1 s43) (pr2 : Fld Z h0 a1 s43 s15 "I" (.int (0 : Int32))) (pr3 : n0 ≤ a1) (pr4 : Fld Z h0 a2 s26 "size" "I" (.int (2 : Int32))) (pr5 : a2 ≠ a1) (pr6 : Exa Z h0 a2 s26) (pr7 : Fld Z h0 a1 s43 "values" "[J" .null) (pr8 : Fld Z h0 a2 s25 s41 "I" (.int (2 : Int32))) (pr9 : Fld Z h0 a2 s26 s12 s8 (.ref a17)) (pr10 : Arv Z h0 a17 k20 (.object s20) (10 : Int32) [(.ref a18), (.ref a19), .null, .null, .null, .null, .null, .null, .null, .null] .null) (pr11 : a17 ≠ a1) (pr12 : Exa Z h0 a18 s47) (pr13 : Fld Z h0 a18 s47 "match" s6 (.ref a28)) (pr14 : a18 ≠ a1) (pr15 : Fld Z h0 a28 s33 "e1" s2 (.ref w32)) (pr16 : a28 ≠ a1) (pr17 : Sta Z Z.heap s30 "EMPTY" s2 (.ref w32)) (pr18 : Exa Z h0 a28 s33) (pr19 : Fld Z h0 a28 s33 "e0" s2 (.ref a38)) (pr20 : Exa Z h0 a38 s45) (pr21 : Fld Z h0 a38 s45 "sets" s6 (.ref a44)) (pr22 : a38 ≠ a1) (pr23 : Fld Z h0 a44 s33 "e0" s2 (.ref a49)) (pr24 : a44 ≠ a1) (pr25 : Exa Z h0 a44 s33) (pr26 : Exa Z h0 a49 s48) (pr27 : Fld Z h0 a49 s48 "lows" "[J" (.ref a57)) (pr28 : a49 ≠ a1) (pr29 : Arv Z h0 a57 k59 .long (1 : Int32) [(.long q58)] (.long (0 : Int64))) (pr30 : a57 ≠ a1) (pr31 : Fld Z h0 a49 s48 "highs" "[J" (.ref a71)) (pr32 : Arv Z h0 a71 k73 .long (1 : Int32) [(.long q72)] (.long (0 : Int64))) (pr33 : a71 ≠ a1) (pr34 : Fld Z h0 a44 s33 "e1" s2 (.ref a118)) (pr35 : Exa Z Z.heap w32 s20) (pr36 : n0 ≤ a118) (pr37 : Exa Z h0 a118 s48) (pr38 : Fld Z h0 a118 s48 "lows" "[J" (.ref a126)) (pr39 : a118 ≠ a1) (pr40 : Arv Z h0 a126 k128 .long (1 : Int32) [(.long q127)] (.long (0 : Int64))) (pr41 : a126 ≠ a1) (pr42 : Fld Z h0 a118 s48 "highs" "[J" (.ref a144)) (pr43 : Arv Z h0 a144 k146 .long (1 : Int32) [(.long q145)] (.long (0 : Int64))) (pr44 : a144 ≠ a1) (pr45 : Exa Z h0 a19 s47) (pr46 : Fld Z h0 a19 s47 "match" s6 (.ref a191)) (pr47 : a19 ≠ a1) (pr48 : Fld Z h0 a191 s33 "e1" s2 (.ref w32)) (pr49 : a191 ≠ a1) (pr50 : Exa Z h0 a191 s33) (pr51 : Fld Z h0 a191 s33 "e0" s2 (.ref a206)) (pr52 : Exa Z h0 a206 s45) (pr53 : Fld Z h0 a206 s45 "sets" s6 (.ref a212)) (pr54 : a206 ≠ a1) (pr55 : Fld Z h0 a212 s33 "e0" s2 (.ref a220)) (pr56 : a212 ≠ a1) (pr57 : Exa Z h0 a212 s33) (pr58 : Exa Z h0 a220 s48) (pr59 : Fld Z h0 a220 s48 "lows" "[J" (.ref a231)) (pr60 : a220 ≠ a1) (pr61 : Arv Z h0 a231 k233 .long (1 : Int32) [(.long q232)] (.long (0 : Int64))) (pr62 : a231 ≠ a1) (pr63 : Fld Z h0 a220 s48 "highs" "[J" (.ref a251)) (pr64 : Arv Z h0 a251 k253 .long (1 : Int32) [(.long q252)] (.long (0 : Int64))) (pr65 : a251 ≠ a1) (pr66 : Fld Z h0 a212 s33 "e1" s2 (.ref a294)) (pr67 : n0 ≤ a294) (pr68 : Exa Z h0 a294 s48) (pr69 : Fld Z h0 a294 s48 "lows" "[J" (.ref a301)) (pr70 : a294 ≠ a1) (pr71 : Arv Z h0 a301 k303 .long (1 : Int32) [(.long q302)] (.long (0 : Int64))) (pr72 : a301 ≠ a1) (pr73 : Fld Z h0 a294 s48 "highs" "[J" (.ref a323)) (pr74 : Arv Z h0 a323 k325 .long (1 : Int32) [(.long q324)] (.long (0 : Int64))) (pr75 : a323 ≠ a1) :
    MF l Z mn37 prog_24_method_1_code 13 none ⟨3, 6, 28, 39⟩ #[(.ref a1), (.int (2 : Int32)), (.ref a2)] h0 (fun v h L => ∃ b8 : Addr, ∃ k8 : ClassId, v = none ∧ Fr n0 L ∧ Keep h0 h [a1] ∧ h0.size ≤ b8 ∧ Fld Z h a1 s43 s15 "I" (.int (2 : Int32)) ∧ Fld Z h a1 s43 "values" "[J" (.ref b8) ∧ Arv Z h b8 k8 .long (8 : Int32) [(.long (own_jmin (9223372036854775807 : Int64) q58)), (.long (own_jmax (-1 : Int64) q72)), (.long (own_jmin (9223372036854775807 : Int64) q127)), (.long (own_jmax (-1 : Int64) q145)), (.long (own_jmin (9223372036854775807 : Int64) q232)), (.long (own_jmax (-1 : Int64) q252)), (.long (own_jmin (9223372036854775807 : Int64) q302)), (.long (own_jmax (-1 : Int64) q324))] (.long (0 : Int64))) := by
  refine own_start (plainFor_of_name pn_19) (fun m => (ef_37_56 m a1 a2)) ?_
  intro p e s m below meth c s₁ hZ hx hby hml hown hnm hret X0 e0
  have N0 := Fr.nil n0
  obtain ⟨T3, X3, e3, st3⟩ := initO X0 hx hZ hown (wd252 hw) (wd36 hw) (wd37 hw) e0 (g := (mkF m 1 #[rv a1, iv (2 : Int32), rv a2, uu, uu, uu, uu, uu, uu, uu, uu, uu, uu] [(.ref a1)])) rfl (by rw [hml]; rfl) rfl (hb hby d37_1) (by decide) (W := 0) (by show 2 * 0 + _ ≤ _; exact Nat.le_of_eq rfl) (by decide)
  obtain ⟨T4, h4, X4, e4, W4, st4⟩ := putF X3 hx hZ hown (host := "") (Or.inl (wd253 hw)) Via.refl e3 pr2 pr1 (Or.inr ⟨(wd254 hw), rfl, hnm⟩) (wd247 hw) (ty := .int) (by decide) rfl rfl (g := (mkF m 6 #[rv a1, iv (2 : Int32), rv a2, uu, uu, uu, uu, uu, uu, uu, uu, uu, uu] [(.int (2 : Int32)), (.ref a1)])) rfl rfl (hb hby d37_6)
  have Fw4 := pr2.same W4
  have KK4 : Keep h0 h4 [a1] := (Keep.refl h0 [a1]).wr W4 (Or.inl (List.mem_of_getElem? (i := 0) rfl))
  have OL4 := OL0.wr W4 pr3
  have N4 := Fr.snoc X4 N0 pr3
  have fc6 := (pr4.other W4 (Or.inl pr5))
  have fc7 := (pr6.wr W4)
  obtain ⟨_, T5, L5, X5, hQ5, st5⟩ := own_cI X4 hx hZ hown hml (cw38 hw) (rm38_0 l Z a0 hw a2 h4 n0 OL4 fc6) e4 fc7 11 #[rv a1, iv (2 : Int32), rv a2, uu, uu, uu, uu, uu, uu, uu, uu, uu, uu] [] [(.ref a1)] 1 rfl (hb hby d37_11) (by decide)
  obtain ⟨rfl, Nq5, ec5⟩ := hQ5
  have N5 := Fr.app N4 Nq5
  obtain ⟨T8, h8, k8, X8, e8, E8, A8, st8⟩ := newP (aty := .long) X5 hx hZ (wd0 hw) ec5 (g := (mkF m 20 #[rv a1, iv (2 : Int32), rv a2, uu, uu, uu, uu, uu, uu, uu, uu, uu, uu] [(.int (8 : Int32)), (.ref a1)])) rfl (hb hby d37_20) rfl (by decide) (cap := 8) (by decide) (by decide) (by decide) (by decide)
  obtain ⟨b8, g8⟩ : ∃ z, z = h4.size := ⟨_, rfl⟩
  rw [← g8] at A8 st8
  have V8 : Arv Z h8 b8 k8 .long (8 : Int32) [(.long (0 : Int64)), (.long (0 : Int64)), (.long (0 : Int64)), (.long (0 : Int64)), (.long (0 : Int64)), (.long (0 : Int64)), (.long (0 : Int64)), (.long (0 : Int64))] (.long (0 : Int64)) := (Arv.new A8 (by decide)).pad (pad_rep [] (.long (0 : Int64)) 8)
  have g_b8 : n0 ≤ b8 := (Nat.le_trans (Nat.le_trans (Nat.le_of_eq OL4.1.symm) OL4.2.1) (Nat.le_of_eq g8.symm))
  have sz_b8 : h0.size ≤ b8 := (Nat.le_trans KK4.1 (Nat.le_of_eq g8.symm))
  have KK8 : Keep h0 h8 [a1] := KK4.ext E8
  have OL8 := OL4.ext E8
  have fc9 := ((pr1.wr W4).ext E8)
  have fc10 := ((pr7.other W4 (Or.inr (slot_ne (Or.inr (wd265 hw)) (Or.inr (wd254 hw)) (by decide) (t := (.array .long)) (t' := .int) (by decide) (by decide)))).ext E8)
  obtain ⟨T11, h11, X11, e11, W11, st11⟩ := putF X8 hx hZ hown (host := "") (Or.inl (wd264 hw)) Via.refl e8 fc10 fc9 (Or.inr ⟨(wd265 hw), rfl, hnm⟩) (wd247 hw) (ty := (.array .long)) (by decide) rfl rfl (g := (mkF m 22 #[rv a1, iv (2 : Int32), rv a2, uu, uu, uu, uu, uu, uu, uu, uu, uu, uu] [(.ref b8), (.ref a1)])) rfl rfl (hb hby d37_22)
  have Fw11 := fc10.same W11
  have KK11 : Keep h0 h11 [a1] := KK8.wr W11 (Or.inl (List.mem_of_getElem? (i := 0) rfl))
  have OL11 := OL8.wr W11 pr3
  have N11 := Fr.snoc X11 N5 pr3
  have fc13 := (((pr8.other W4 (Or.inl pr5)).ext E8).other W11 (Or.inl pr5))
  have fc14 := ((fc7.ext E8).wr W11)
  obtain ⟨_, T12, L12, X12, hQ12, st12⟩ := own_cI X11 hx hZ hown hml (cw40 hw) (rm39_0 l Z a0 hw a2 h11 n0 OL11 fc13) e11 fc14 28 #[rv a1, iv (2 : Int32), rv a2, iv (0 : Int32), uu, uu, uu, uu, uu, uu, uu, uu, uu] [] [] 0 rfl (hb hby d37_28) (by decide)
  obtain ⟨b12_0, rfl, Nq12, K12, u12_0, u12_1, u12_2, u12_3, u12_4, u12_5⟩ := hQ12
  have KK12 : Keep h0 T12.heap [a1] := KK11.trans K12 all0
  have OL12 := OL11.keep K12 all0
  have g_b12_0 : n0 ≤ b12_0 := Nat.le_trans (Nat.le_trans (Nat.le_of_eq OL11.1.symm) OL11.2.1) u12_0
  have sz_b12_0 : h0.size ≤ b12_0 := Nat.le_trans KK11.1 u12_0
  have N12 := Fr.app N11 Nq12
  have fc16 := (((fc6.ext E8).other W11 (Or.inl pr5)).keep K12 nin0)
  obtain ⟨_, T15, L15, X15, hQ15, st15⟩ := own_cI X12 hx hZ hown hml (cw41 hw) (rm41_0 l Z a0 hw b12_0 a2 T12.heap n0 OL12 u12_5 u12_2 fc16) rfl u12_1 37 #[rv a1, iv (2 : Int32), rv a2, iv (0 : Int32), rv b12_0, uu, uu, uu, uu, uu, uu, uu, uu] [] [] 0 rfl (hb hby d37_37) (by decide)
  obtain ⟨rfl, Nq15, ec15⟩ := hQ15
  have N15 := Fr.app N12 Nq15
  have fc22 := (fc13.keep K12 nin0)
  have fc23 := ((((pr9.other W4 (Or.inl pr5)).ext E8).other W11 (Or.inl pr5)).keep K12 nin0)
  have fc24 := ((((pr10.other W4 pr11).ext E8).other W11 pr11).keep K12 nin0)
  have nz25 := nl pr10.lt sz_b12_0
  obtain ⟨_, T21, L21, X21, hQ21, st21⟩ := own_cI X15 hx hZ hown hml (cw43 hw) (rm42_0 l Z a0 hw b12_0 a2 a17 a18 a19 k20 T12.heap n0 OL12 u12_2 fc22 u12_4 u12_1 u12_5 fc16 fc23 fc24 g_b12_0 u12_3 nz25) ec15 u12_1 47 #[rv a1, iv (2 : Int32), rv a2, iv (0 : Int32), rv b12_0, uu, uu, uu, uu, uu, uu, uu, uu] [] [] 0 rfl (hb hby d37_47) (by decide)
  obtain ⟨rfl, Nq21, K21, u21_0, u21_1, u21_2, u21_3⟩ := hQ21
  have KK21 : Keep h0 T21.heap [a1] := KK12.trans K21 (allS (Or.inr sz_b12_0) all0)
  have OL21 := OL12.keep K21 (allS g_b12_0 all0)
  have N21 := Fr.app N15 Nq21
  have fc26 := (((((pr12.wr W4).ext E8).wr W11).keep K12).keep K21)
  obtain ⟨T27, X27, e27, st27⟩ := castY X21 hx hZ hown (wd315 hw) rfl (Ins.self fc26) (g := (mkF m 52 #[rv a1, iv (2 : Int32), rv a2, iv (0 : Int32), rv b12_0, uu, uu, uu, uu, uu, uu, uu, uu] [(.ref a18)])) rfl rfl (hb hby d37_52)
  have nz30 := nl pr13.lt sz_b12_0
  have fc31 := (((((pr13.other W4 (Or.inl pr14)).ext E8).other W11 (Or.inl pr14)).keep K12 nin0).keep K21 (ninS nz30 nin0))
  obtain ⟨_, T29, L29, X29, hQ29, st29⟩ := own_cV X27 hx hZ hown hml (cw44 hw) (rm44_0 l Z a0 hw a18 a28 T21.heap n0 OL21 fc31) e27 fc26 78 #[rv a1, iv (2 : Int32), rv a2, iv (0 : Int32), rv b12_0, rv a18, iv (0 : Int32), jv (9223372036854775807 : Int64), sc, jv (-1 : Int64), sc, uu, uu] [] [] 0 rfl (hb hby d37_78) (by decide)
  obtain ⟨rfl, Nq29, ec29⟩ := hQ29
  have N29 := Fr.app N21 Nq29
  have nz34 := nl pr15.lt sz_b12_0
  have fc35 := (((((pr15.other W4 (Or.inl pr16)).ext E8).other W11 (Or.inl pr16)).keep K12 nin0).keep K21 (ninS nz34 nin0))
  have fc36 := (((((pr18.wr W4).ext E8).wr W11).keep K12).keep K21)
  obtain ⟨_, T33, L33, X33, hQ33, st33⟩ := own_cI X29 hx hZ hown hml (cw47 hw) (rm45_0 l Z a0 hw a28 w32 T21.heap n0 OL21 fc35 pr17 fc36) ec29 fc36 81 #[rv a1, iv (2 : Int32), rv a2, iv (0 : Int32), rv b12_0, rv a18, iv (0 : Int32), jv (9223372036854775807 : Int64), sc, jv (-1 : Int64), sc, uu, uu] [] [] 0 rfl (hb hby d37_81) (by decide)
  obtain ⟨b33_0, rfl, Nq33, K33, u33_0, u33_1, u33_2, u33_3, u33_4, u33_5⟩ := hQ33
  have KK33 : Keep h0 T33.heap [a1] := KK21.trans K33 all0
  have OL33 := OL21.keep K33 all0
  have g_b33_0 : n0 ≤ b33_0 := Nat.le_trans (Nat.le_trans (Nat.le_of_eq OL21.1.symm) OL21.2.1) u33_0
  have sz_b33_0 : h0.size ≤ b33_0 := Nat.le_trans KK21.1 u33_0
  have N33 := Fr.app N29 Nq33
  obtain ⟨_, T37, L37, X37, hQ37, st37⟩ := own_cI X33 hx hZ hown hml (cw48 hw) (rm48_0 l Z a0 hw b33_0 T33.heap n0 OL33 u33_4 u33_3) rfl u33_1 90 #[rv a1, iv (2 : Int32), rv a2, iv (0 : Int32), rv b12_0, rv a18, iv (0 : Int32), jv (9223372036854775807 : Int64), sc, jv (-1 : Int64), sc, rv b33_0, uu] [] [] 0 rfl (hb hby d37_90) (by decide)
  obtain ⟨rfl, Nq37, ec37⟩ := hQ37
  have N37 := Fr.app N33 Nq37
  have fc40 := ((((((pr19.other W4 (Or.inl pr16)).ext E8).other W11 (Or.inl pr16)).keep K12 nin0).keep K21 (ninS nz34 nin0)).keep K33 nin0)
  have fc41 := (fc36.keep K33)
  obtain ⟨_, T39, L39, X39, hQ39, st39⟩ := own_cIW X37 hx hZ hown hml (cw50 hw) (rm49_0 l Z a0 hw b33_0 a28 a38 T33.heap n0 OL33 u33_4 u33_2 fc40 fc41 u33_1 g_b33_0 u33_3 u33_5) ec37 u33_1 100 #[rv a1, iv (2 : Int32), rv a2, iv (0 : Int32), rv b12_0, rv a18, iv (0 : Int32), jv (9223372036854775807 : Int64), sc, jv (-1 : Int64), sc, rv b33_0, uu] [] [] 0 rfl (hb hby d37_100) (by decide)
  obtain ⟨rfl, Nq39, K39, u39_0, u39_1, u39_2, u39_3⟩ := hQ39
  have KK39 : Keep h0 T39.heap [a1] := KK33.trans K39 (allS (Or.inr sz_b33_0) all0)
  have OL39 := OL33.keep K39 (allS g_b33_0 all0)
  have N39 := Fr.app N37 Nq39
  have fc42 := (((((((pr20.wr W4).ext E8).wr W11).keep K12).keep K21).keep K33).keep K39)
  obtain ⟨T43, X43, e43, st43⟩ := castY X39 hx hZ hown (wd371 hw) rfl (Ins.self fc42) (g := (mkF m 105 #[rv a1, iv (2 : Int32), rv a2, iv (0 : Int32), rv b12_0, rv a18, iv (0 : Int32), jv (9223372036854775807 : Int64), sc, jv (-1 : Int64), sc, rv b33_0, uu] [(.ref a38)])) rfl rfl (hb hby d37_105)
  have nz46 := nl pr21.lt sz_b12_0
  have nz47 := nl pr21.lt sz_b33_0
  have fc48 := (((((((pr21.other W4 (Or.inl pr22)).ext E8).other W11 (Or.inl pr22)).keep K12 nin0).keep K21 (ninS nz46 nin0)).keep K33 nin0).keep K39 (ninS nz47 nin0))
  obtain ⟨_, T45, L45, X45, hQ45, st45⟩ := own_cV X43 hx hZ hown hml (cw51 hw) (rm51_0 l Z a0 hw a38 a44 T39.heap n0 OL39 fc48) e43 fc42 114 #[rv a1, iv (2 : Int32), rv a2, iv (0 : Int32), rv b12_0, rv a18, iv (0 : Int32), jv (9223372036854775807 : Int64), sc, jv (-1 : Int64), sc, rv b33_0, rv a38] [] [(.long (9223372036854775807 : Int64))] 2 rfl (hb hby d37_114) (by decide)
  obtain ⟨rfl, Nq45, ec45⟩ := hQ45
  have N45 := Fr.app N39 Nq45
  have nz51 := nl pr23.lt sz_b12_0
  have nz52 := nl pr23.lt sz_b33_0
  have fc53 := (((((((pr23.other W4 (Or.inl pr24)).ext E8).other W11 (Or.inl pr24)).keep K12 nin0).keep K21 (ninS nz51 nin0)).keep K33 nin0).keep K39 (ninS nz52 nin0))
  have fc54 := (((((((pr25.wr W4).ext E8).wr W11).keep K12).keep K21).keep K33).keep K39)
  obtain ⟨_, T50, L50, X50, hQ50, st50⟩ := own_cI X45 hx hZ hown hml (cw52 hw) (rm50_0 l Z a0 hw a44 a49 T39.heap n0 OL39 fc53) ec45 fc54 119 #[rv a1, iv (2 : Int32), rv a2, iv (0 : Int32), rv b12_0, rv a18, iv (0 : Int32), jv (9223372036854775807 : Int64), sc, jv (-1 : Int64), sc, rv b33_0, rv a38] [(.int (0 : Int32))] [(.long (9223372036854775807 : Int64))] 2 rfl (hb hby d37_119) (by decide)
  obtain ⟨rfl, Nq50, ec50⟩ := hQ50
  have N50 := Fr.app N45 Nq50
  have fc55 := (((((((pr26.wr W4).ext E8).wr W11).keep K12).keep K21).keep K33).keep K39)
  obtain ⟨T56, X56, e56, st56⟩ := castY X50 hx hZ hown (wd379 hw) ec50 (Ins.self fc55) (g := (mkF m 124 #[rv a1, iv (2 : Int32), rv a2, iv (0 : Int32), rv b12_0, rv a18, iv (0 : Int32), jv (9223372036854775807 : Int64), sc, jv (-1 : Int64), sc, rv b33_0, rv a38] [(.ref a49), (.long (9223372036854775807 : Int64))])) rfl rfl (hb hby d37_124)
  have nz61 := nl pr27.lt sz_b12_0
  have nz62 := nl pr27.lt sz_b33_0
  have fc63 := (((((((pr27.other W4 (Or.inl pr28)).ext E8).other W11 (Or.inl pr28)).keep K12 nin0).keep K21 (ninS nz61 nin0)).keep K33 nin0).keep K39 (ninS nz62 nin0))
  have nz64 := nl pr29.lt sz_b12_0
  have nz65 := nl pr29.lt sz_b33_0
  have fc66 := (((((((pr29.other W4 pr30).ext E8).other W11 pr30).keep K12 nin0).keep K21 (ninS nz64 nin0)).keep K33 nin0).keep K39 (ninS nz65 nin0))
  obtain ⟨_, T60, L60, X60, hQ60, st60⟩ := own_cV X56 hx hZ hown hml (cw53 hw) (rm52_0 l Z a0 hw a49 a57 q58 k59 T39.heap n0 OL39 fc63 fc66) e56 fc55 127 #[rv a1, iv (2 : Int32), rv a2, iv (0 : Int32), rv b12_0, rv a18, iv (0 : Int32), jv (9223372036854775807 : Int64), sc, jv (-1 : Int64), sc, rv b33_0, rv a38] [] [(.long (9223372036854775807 : Int64))] 2 rfl (hb hby d37_127) (by decide)
  obtain ⟨rfl, Nq60, ec60⟩ := hQ60
  have N60 := Fr.app N50 Nq60
  obtain ⟨_, T67, L67, X67, hQ67, st67⟩ := own_cS X60 hx hZ hown hml (cw54 hw) (mg_own_jmin l Z a0 hw (9223372036854775807 : Int64) q58 T39.heap n0 OL39 ) ec60 130 #[rv a1, iv (2 : Int32), rv a2, iv (0 : Int32), rv b12_0, rv a18, iv (0 : Int32), jv (9223372036854775807 : Int64), sc, jv (-1 : Int64), sc, rv b33_0, rv a38] [(.long (9223372036854775807 : Int64)), (.long q58)] [] 0 rfl (hb hby d37_130) (by decide)
  obtain ⟨rfl, Nq67, ec67⟩ := hQ67
  have N67 := Fr.app N60 Nq67
  obtain ⟨_, T68, L68, X68, hQ68, st68⟩ := own_cV X67 hx hZ hown hml (cw51 hw) (rm51_0 l Z a0 hw a38 a44 T39.heap n0 OL39 fc48) ec67 fc42 139 #[rv a1, iv (2 : Int32), rv a2, iv (0 : Int32), rv b12_0, rv a18, iv (0 : Int32), .val (.long (own_jmin (9223372036854775807 : Int64) q58)), sc, jv (-1 : Int64), sc, rv b33_0, rv a38] [] [(.long (-1 : Int64))] 2 rfl (hb hby d37_139) (by decide)
  obtain ⟨rfl, Nq68, ec68⟩ := hQ68
  have N68 := Fr.app N67 Nq68
  obtain ⟨_, T69, L69, X69, hQ69, st69⟩ := own_cI X68 hx hZ hown hml (cw52 hw) (rm50_0 l Z a0 hw a44 a49 T39.heap n0 OL39 fc53) ec68 fc54 144 #[rv a1, iv (2 : Int32), rv a2, iv (0 : Int32), rv b12_0, rv a18, iv (0 : Int32), .val (.long (own_jmin (9223372036854775807 : Int64) q58)), sc, jv (-1 : Int64), sc, rv b33_0, rv a38] [(.int (0 : Int32))] [(.long (-1 : Int64))] 2 rfl (hb hby d37_144) (by decide)
  obtain ⟨rfl, Nq69, ec69⟩ := hQ69
  have N69 := Fr.app N68 Nq69
  obtain ⟨T70, X70, e70, st70⟩ := castY X69 hx hZ hown (wd379 hw) ec69 (Ins.self fc55) (g := (mkF m 149 #[rv a1, iv (2 : Int32), rv a2, iv (0 : Int32), rv b12_0, rv a18, iv (0 : Int32), .val (.long (own_jmin (9223372036854775807 : Int64) q58)), sc, jv (-1 : Int64), sc, rv b33_0, rv a38] [(.ref a49), (.long (-1 : Int64))])) rfl rfl (hb hby d37_149)
  have fc75 := (((((((pr31.other W4 (Or.inl pr28)).ext E8).other W11 (Or.inl pr28)).keep K12 nin0).keep K21 (ninS nz61 nin0)).keep K33 nin0).keep K39 (ninS nz62 nin0))
  have nz76 := nl pr32.lt sz_b12_0
  have nz77 := nl pr32.lt sz_b33_0
  have fc78 := (((((((pr32.other W4 pr33).ext E8).other W11 pr33).keep K12 nin0).keep K21 (ninS nz76 nin0)).keep K33 nin0).keep K39 (ninS nz77 nin0))
  obtain ⟨_, T74, L74, X74, hQ74, st74⟩ := own_cV X70 hx hZ hown hml (cw55 hw) (rm53_0 l Z a0 hw a49 a71 q72 k73 T39.heap n0 OL39 fc75 fc78) e70 fc55 152 #[rv a1, iv (2 : Int32), rv a2, iv (0 : Int32), rv b12_0, rv a18, iv (0 : Int32), .val (.long (own_jmin (9223372036854775807 : Int64) q58)), sc, jv (-1 : Int64), sc, rv b33_0, rv a38] [] [(.long (-1 : Int64))] 2 rfl (hb hby d37_152) (by decide)
  obtain ⟨rfl, Nq74, ec74⟩ := hQ74
  have N74 := Fr.app N69 Nq74
  obtain ⟨_, T79, L79, X79, hQ79, st79⟩ := own_cS X74 hx hZ hown hml (cw56 hw) (mg_own_jmax l Z a0 hw (-1 : Int64) q72 T39.heap n0 OL39 ) ec74 155 #[rv a1, iv (2 : Int32), rv a2, iv (0 : Int32), rv b12_0, rv a18, iv (0 : Int32), .val (.long (own_jmin (9223372036854775807 : Int64) q58)), sc, jv (-1 : Int64), sc, rv b33_0, rv a38] [(.long (-1 : Int64)), (.long q72)] [] 0 rfl (hb hby d37_155) (by decide)
  obtain ⟨rfl, Nq79, ec79⟩ := hQ79
  have N79 := Fr.app N74 Nq79
  have fc81 := (u33_1.keep K39)
  obtain ⟨_, T80, L80, X80, hQ80, st80⟩ := own_cI X79 hx hZ hown hml (cw48 hw) (rm48_1 l Z a0 hw b33_0 T39.heap n0 OL39 u39_0 u39_2) ec79 fc81 90 #[rv a1, iv (2 : Int32), rv a2, iv (0 : Int32), rv b12_0, rv a18, iv (0 : Int32), .val (.long (own_jmin (9223372036854775807 : Int64) q58)), sc, .val (.long (own_jmax (-1 : Int64) q72)), sc, rv b33_0, rv a38] [] [] 0 rfl (hb hby d37_90) (by decide)
  obtain ⟨rfl, Nq80, ec80⟩ := hQ80
  have N80 := Fr.app N79 Nq80
  have nz82 := nl pr7.lt sz_b12_0
  have nz83 := nl pr7.lt sz_b33_0
  have fc84 := ((((Fw11.keep K12 nin0).keep K21 (ninS nz82 nin0)).keep K33 nin0).keep K39 (ninS nz83 nin0))
  obtain ⟨T85, X85, e85, st85⟩ := gF X80 hx hZ hown (wd264 hw) Via.refl ec80 fc84 164 #[rv a1, iv (2 : Int32), rv a2, iv (0 : Int32), rv b12_0, rv a18, iv (0 : Int32), .val (.long (own_jmin (9223372036854775807 : Int64) q58)), sc, .val (.long (own_jmax (-1 : Int64) q72)), sc, rv b33_0, rv a38] [] (hb hby d37_164)
  have nz86 := nl pr7.lt sz_b8
  have lz87 := (lq V8.lt (Nat.le_of_eq W11.size.symm))
  have nz88 := nl lz87 u12_0
  have lz89 := (lq (lq lz87 K12.1) K21.1)
  have nz90 := nl lz89 u33_0
  have fc91 := (((((V8.other W11 (Ne.symm nz86)).keep K12 nin0).keep K21 (ninS nz88 nin0)).keep K33 nin0).keep K39 (ninS nz90 nin0))
  obtain ⟨T93, h93, X93, e93, W93, VV93, st93⟩ := own_sJ X85 hx hZ e85 fc91 (0 : Int32) (by decide) 0 (own_jmin (9223372036854775807 : Int64) q58) [] 173 #[rv a1, iv (2 : Int32), rv a2, iv (1 : Int32), rv b12_0, rv a18, iv (0 : Int32), .val (.long (own_jmin (9223372036854775807 : Int64) q58)), sc, .val (.long (own_jmax (-1 : Int64) q72)), sc, rv b33_0, rv a38] (hb hby d37_173) rfl (Nat.le_of_ble_eq_true rfl)
  have V93 : Arv Z h93 b8 k8 .long (8 : Int32) [(.long (own_jmin (9223372036854775807 : Int64) q58)), (.long (0 : Int64)), (.long (0 : Int64)), (.long (0 : Int64)), (.long (0 : Int64)), (.long (0 : Int64)), (.long (0 : Int64)), (.long (0 : Int64))] (.long (0 : Int64)) := VV93
  have KK93 : Keep h0 h93 [a1] := KK39.wr W93 (Or.inr sz_b8)
  have OL93 := OL39.wr W93 g_b8
  have N93 := Fr.snoc X93 N80 g_b8
  have fc94 := (fc84.other W93 (Or.inl nz86))
  obtain ⟨T95, X95, e95, st95⟩ := gF X93 hx hZ hown (wd264 hw) Via.refl e93 fc94 175 #[rv a1, iv (2 : Int32), rv a2, iv (1 : Int32), rv b12_0, rv a18, iv (0 : Int32), .val (.long (own_jmin (9223372036854775807 : Int64) q58)), sc, .val (.long (own_jmax (-1 : Int64) q72)), sc, rv b33_0, rv a38] [] (hb hby d37_175)
  obtain ⟨T97, h97, X97, e97, W97, VV97, st97⟩ := own_sJ X95 hx hZ e95 V93 (1 : Int32) (by decide) 1 (own_jmax (-1 : Int64) q72) [] 184 #[rv a1, iv (2 : Int32), rv a2, iv (2 : Int32), rv b12_0, rv a18, iv (0 : Int32), .val (.long (own_jmin (9223372036854775807 : Int64) q58)), sc, .val (.long (own_jmax (-1 : Int64) q72)), sc, rv b33_0, rv a38] (hb hby d37_184) rfl (Nat.le_of_ble_eq_true rfl)
  have V97 : Arv Z h97 b8 k8 .long (8 : Int32) [(.long (own_jmin (9223372036854775807 : Int64) q58)), (.long (own_jmax (-1 : Int64) q72)), (.long (0 : Int64)), (.long (0 : Int64)), (.long (0 : Int64)), (.long (0 : Int64)), (.long (0 : Int64)), (.long (0 : Int64))] (.long (0 : Int64)) := VV97
  have KK97 : Keep h0 h97 [a1] := KK93.wr W97 (Or.inr sz_b8)
  have OL97 := OL93.wr W97 g_b8
  have N97 := Fr.snoc X97 N93 g_b8
  have nz99 := nl pr13.lt sz_b33_0
  have nz100 := nl pr13.lt sz_b8
  have fc101 := ((((fc31.keep K33 nin0).keep K39 (ninS nz99 nin0)).other W93 (Or.inl nz100)).other W97 (Or.inl nz100))
  have fc102 := ((((fc26.keep K33).keep K39).wr W93).wr W97)
  obtain ⟨_, T98, L98, X98, hQ98, st98⟩ := own_cV X97 hx hZ hown hml (cw44 hw) (rm44_0 l Z a0 hw a18 a28 h97 n0 OL97 fc101) e97 fc102 78 #[rv a1, iv (2 : Int32), rv a2, iv (2 : Int32), rv b12_0, rv a18, iv (1 : Int32), jv (9223372036854775807 : Int64), sc, jv (-1 : Int64), sc, rv b33_0, rv a38] [] [] 0 rfl (hb hby d37_78) (by decide)
  obtain ⟨rfl, Nq98, ec98⟩ := hQ98
  have N98 := Fr.app N97 Nq98
  have nz104 := nl pr19.lt sz_b33_0
  have nz105 := nl pr19.lt sz_b8
  have fc106 := ((((fc35.keep K33 nin0).keep K39 (ninS nz104 nin0)).other W93 (Or.inl nz105)).other W97 (Or.inl nz105))
  have fc107 := (((fc41.keep K39).wr W93).wr W97)
  obtain ⟨_, T103, L103, X103, hQ103, st103⟩ := own_cI X98 hx hZ hown hml (cw47 hw) (rm45_0 l Z a0 hw a28 w32 h97 n0 OL97 fc106 pr17 fc107) ec98 fc107 81 #[rv a1, iv (2 : Int32), rv a2, iv (2 : Int32), rv b12_0, rv a18, iv (1 : Int32), jv (9223372036854775807 : Int64), sc, jv (-1 : Int64), sc, rv b33_0, rv a38] [] [] 0 rfl (hb hby d37_81) (by decide)
  obtain ⟨b103_0, rfl, Nq103, K103, u103_0, u103_1, u103_2, u103_3, u103_4, u103_5⟩ := hQ103
  have KK103 : Keep h0 T103.heap [a1] := KK97.trans K103 all0
  have OL103 := OL97.keep K103 all0
  have g_b103_0 : n0 ≤ b103_0 := Nat.le_trans (Nat.le_trans (Nat.le_of_eq OL97.1.symm) OL97.2.1) u103_0
  have sz_b103_0 : h0.size ≤ b103_0 := Nat.le_trans KK97.1 u103_0
  have N103 := Fr.app N98 Nq103
  obtain ⟨_, T108, L108, X108, hQ108, st108⟩ := own_cI X103 hx hZ hown hml (cw48 hw) (rm48_0 l Z a0 hw b103_0 T103.heap n0 OL103 u103_4 u103_3) rfl u103_1 90 #[rv a1, iv (2 : Int32), rv a2, iv (2 : Int32), rv b12_0, rv a18, iv (1 : Int32), jv (9223372036854775807 : Int64), sc, jv (-1 : Int64), sc, rv b103_0, rv a38] [] [] 0 rfl (hb hby d37_90) (by decide)
  obtain ⟨rfl, Nq108, ec108⟩ := hQ108
  have N108 := Fr.app N103 Nq108
  have fc110 := ((((fc40.keep K39 (ninS nz104 nin0)).other W93 (Or.inl nz105)).other W97 (Or.inl nz105)).keep K103 nin0)
  have fc111 := (fc107.keep K103)
  obtain ⟨_, T109, L109, X109, hQ109, st109⟩ := own_cIW X108 hx hZ hown hml (cw50 hw) (rm49_0 l Z a0 hw b103_0 a28 a38 T103.heap n0 OL103 u103_4 u103_2 fc110 fc111 u103_1 g_b103_0 u103_3 u103_5) ec108 u103_1 100 #[rv a1, iv (2 : Int32), rv a2, iv (2 : Int32), rv b12_0, rv a18, iv (1 : Int32), jv (9223372036854775807 : Int64), sc, jv (-1 : Int64), sc, rv b103_0, rv a38] [] [] 0 rfl (hb hby d37_100) (by decide)
  obtain ⟨rfl, Nq109, K109, u109_0, u109_1, u109_2, u109_3⟩ := hQ109
  have KK109 : Keep h0 T109.heap [a1] := KK103.trans K109 (allS (Or.inr sz_b103_0) all0)
  have OL109 := OL103.keep K109 (allS g_b103_0 all0)
  have N109 := Fr.app N108 Nq109
  have fc112 := ((((fc42.wr W93).wr W97).keep K103).keep K109)
  obtain ⟨T113, X113, e113, st113⟩ := castY X109 hx hZ hown (wd371 hw) rfl (Ins.self fc112) (g := (mkF m 105 #[rv a1, iv (2 : Int32), rv a2, iv (2 : Int32), rv b12_0, rv a18, iv (1 : Int32), jv (9223372036854775807 : Int64), sc, jv (-1 : Int64), sc, rv b103_0, rv a38] [(.ref a38)])) rfl rfl (hb hby d37_105)
  have nz115 := nl pr21.lt sz_b8
  have nz116 := nl pr21.lt sz_b103_0
  have fc117 := ((((fc48.other W93 (Or.inl nz115)).other W97 (Or.inl nz115)).keep K103 nin0).keep K109 (ninS nz116 nin0))
  obtain ⟨_, T114, L114, X114, hQ114, st114⟩ := own_cV X113 hx hZ hown hml (cw51 hw) (rm51_0 l Z a0 hw a38 a44 T109.heap n0 OL109 fc117) e113 fc112 114 #[rv a1, iv (2 : Int32), rv a2, iv (2 : Int32), rv b12_0, rv a18, iv (1 : Int32), jv (9223372036854775807 : Int64), sc, jv (-1 : Int64), sc, rv b103_0, rv a38] [] [(.long (9223372036854775807 : Int64))] 2 rfl (hb hby d37_114) (by decide)
  obtain ⟨rfl, Nq114, ec114⟩ := hQ114
  have N114 := Fr.app N109 Nq114
  have nz120 := nl pr34.lt sz_b8
  have nz121 := nl pr34.lt sz_b103_0
  have fc122 := (((((((((((pr34.other W4 (Or.inl pr24)).ext E8).other W11 (Or.inl pr24)).keep K12 nin0).keep K21 (ninS nz51 nin0)).keep K33 nin0).keep K39 (ninS nz52 nin0)).other W93 (Or.inl nz120)).other W97 (Or.inl nz120)).keep K103 nin0).keep K109 (ninS nz121 nin0))
  have fc123 := ((((fc54.wr W93).wr W97).keep K103).keep K109)
  obtain ⟨_, T119, L119, X119, hQ119, st119⟩ := own_cI X114 hx hZ hown hml (cw52 hw) (rm50_1 l Z a0 hw a44 a118 w32 T109.heap n0 OL109 fc122 pr17 pr35 pr36) ec114 fc123 119 #[rv a1, iv (2 : Int32), rv a2, iv (2 : Int32), rv b12_0, rv a18, iv (1 : Int32), jv (9223372036854775807 : Int64), sc, jv (-1 : Int64), sc, rv b103_0, rv a38] [(.int (1 : Int32))] [(.long (9223372036854775807 : Int64))] 2 rfl (hb hby d37_119) (by decide)
  obtain ⟨rfl, Nq119, ec119⟩ := hQ119
  have N119 := Fr.app N114 Nq119
  have fc124 := (((((((((((pr37.wr W4).ext E8).wr W11).keep K12).keep K21).keep K33).keep K39).wr W93).wr W97).keep K103).keep K109)
  obtain ⟨T125, X125, e125, st125⟩ := castY X119 hx hZ hown (wd379 hw) ec119 (Ins.self fc124) (g := (mkF m 124 #[rv a1, iv (2 : Int32), rv a2, iv (2 : Int32), rv b12_0, rv a18, iv (1 : Int32), jv (9223372036854775807 : Int64), sc, jv (-1 : Int64), sc, rv b103_0, rv a38] [(.ref a118), (.long (9223372036854775807 : Int64))])) rfl rfl (hb hby d37_124)
  have nz130 := nl pr38.lt sz_b12_0
  have nz131 := nl pr38.lt sz_b33_0
  have nz132 := nl pr38.lt sz_b8
  have nz133 := nl pr38.lt sz_b103_0
  have fc134 := (((((((((((pr38.other W4 (Or.inl pr39)).ext E8).other W11 (Or.inl pr39)).keep K12 nin0).keep K21 (ninS nz130 nin0)).keep K33 nin0).keep K39 (ninS nz131 nin0)).other W93 (Or.inl nz132)).other W97 (Or.inl nz132)).keep K103 nin0).keep K109 (ninS nz133 nin0))
  have nz135 := nl pr40.lt sz_b12_0
  have nz136 := nl pr40.lt sz_b33_0
  have nz137 := nl pr40.lt sz_b8
  have nz138 := nl pr40.lt sz_b103_0
  have fc139 := (((((((((((pr40.other W4 pr41).ext E8).other W11 pr41).keep K12 nin0).keep K21 (ninS nz135 nin0)).keep K33 nin0).keep K39 (ninS nz136 nin0)).other W93 nz137).other W97 nz137).keep K103 nin0).keep K109 (ninS nz138 nin0))
  obtain ⟨_, T129, L129, X129, hQ129, st129⟩ := own_cV X125 hx hZ hown hml (cw53 hw) (rm52_0 l Z a0 hw a118 a126 q127 k128 T109.heap n0 OL109 fc134 fc139) e125 fc124 127 #[rv a1, iv (2 : Int32), rv a2, iv (2 : Int32), rv b12_0, rv a18, iv (1 : Int32), jv (9223372036854775807 : Int64), sc, jv (-1 : Int64), sc, rv b103_0, rv a38] [] [(.long (9223372036854775807 : Int64))] 2 rfl (hb hby d37_127) (by decide)
  obtain ⟨rfl, Nq129, ec129⟩ := hQ129
  have N129 := Fr.app N119 Nq129
  obtain ⟨_, T140, L140, X140, hQ140, st140⟩ := own_cS X129 hx hZ hown hml (cw54 hw) (mg_own_jmin l Z a0 hw (9223372036854775807 : Int64) q127 T109.heap n0 OL109 ) ec129 130 #[rv a1, iv (2 : Int32), rv a2, iv (2 : Int32), rv b12_0, rv a18, iv (1 : Int32), jv (9223372036854775807 : Int64), sc, jv (-1 : Int64), sc, rv b103_0, rv a38] [(.long (9223372036854775807 : Int64)), (.long q127)] [] 0 rfl (hb hby d37_130) (by decide)
  obtain ⟨rfl, Nq140, ec140⟩ := hQ140
  have N140 := Fr.app N129 Nq140
  obtain ⟨_, T141, L141, X141, hQ141, st141⟩ := own_cV X140 hx hZ hown hml (cw51 hw) (rm51_0 l Z a0 hw a38 a44 T109.heap n0 OL109 fc117) ec140 fc112 139 #[rv a1, iv (2 : Int32), rv a2, iv (2 : Int32), rv b12_0, rv a18, iv (1 : Int32), .val (.long (own_jmin (9223372036854775807 : Int64) q127)), sc, jv (-1 : Int64), sc, rv b103_0, rv a38] [] [(.long (-1 : Int64))] 2 rfl (hb hby d37_139) (by decide)
  obtain ⟨rfl, Nq141, ec141⟩ := hQ141
  have N141 := Fr.app N140 Nq141
  obtain ⟨_, T142, L142, X142, hQ142, st142⟩ := own_cI X141 hx hZ hown hml (cw52 hw) (rm50_1 l Z a0 hw a44 a118 w32 T109.heap n0 OL109 fc122 pr17 pr35 pr36) ec141 fc123 144 #[rv a1, iv (2 : Int32), rv a2, iv (2 : Int32), rv b12_0, rv a18, iv (1 : Int32), .val (.long (own_jmin (9223372036854775807 : Int64) q127)), sc, jv (-1 : Int64), sc, rv b103_0, rv a38] [(.int (1 : Int32))] [(.long (-1 : Int64))] 2 rfl (hb hby d37_144) (by decide)
  obtain ⟨rfl, Nq142, ec142⟩ := hQ142
  have N142 := Fr.app N141 Nq142
  obtain ⟨T143, X143, e143, st143⟩ := castY X142 hx hZ hown (wd379 hw) ec142 (Ins.self fc124) (g := (mkF m 149 #[rv a1, iv (2 : Int32), rv a2, iv (2 : Int32), rv b12_0, rv a18, iv (1 : Int32), .val (.long (own_jmin (9223372036854775807 : Int64) q127)), sc, jv (-1 : Int64), sc, rv b103_0, rv a38] [(.ref a118), (.long (-1 : Int64))])) rfl rfl (hb hby d37_149)
  have fc148 := (((((((((((pr42.other W4 (Or.inl pr39)).ext E8).other W11 (Or.inl pr39)).keep K12 nin0).keep K21 (ninS nz130 nin0)).keep K33 nin0).keep K39 (ninS nz131 nin0)).other W93 (Or.inl nz132)).other W97 (Or.inl nz132)).keep K103 nin0).keep K109 (ninS nz133 nin0))
  have nz149 := nl pr43.lt sz_b12_0
  have nz150 := nl pr43.lt sz_b33_0
  have nz151 := nl pr43.lt sz_b8
  have nz152 := nl pr43.lt sz_b103_0
  have fc153 := (((((((((((pr43.other W4 pr44).ext E8).other W11 pr44).keep K12 nin0).keep K21 (ninS nz149 nin0)).keep K33 nin0).keep K39 (ninS nz150 nin0)).other W93 nz151).other W97 nz151).keep K103 nin0).keep K109 (ninS nz152 nin0))
  obtain ⟨_, T147, L147, X147, hQ147, st147⟩ := own_cV X143 hx hZ hown hml (cw55 hw) (rm53_0 l Z a0 hw a118 a144 q145 k146 T109.heap n0 OL109 fc148 fc153) e143 fc124 152 #[rv a1, iv (2 : Int32), rv a2, iv (2 : Int32), rv b12_0, rv a18, iv (1 : Int32), .val (.long (own_jmin (9223372036854775807 : Int64) q127)), sc, jv (-1 : Int64), sc, rv b103_0, rv a38] [] [(.long (-1 : Int64))] 2 rfl (hb hby d37_152) (by decide)
  obtain ⟨rfl, Nq147, ec147⟩ := hQ147
  have N147 := Fr.app N142 Nq147
  obtain ⟨_, T154, L154, X154, hQ154, st154⟩ := own_cS X147 hx hZ hown hml (cw56 hw) (mg_own_jmax l Z a0 hw (-1 : Int64) q145 T109.heap n0 OL109 ) ec147 155 #[rv a1, iv (2 : Int32), rv a2, iv (2 : Int32), rv b12_0, rv a18, iv (1 : Int32), .val (.long (own_jmin (9223372036854775807 : Int64) q127)), sc, jv (-1 : Int64), sc, rv b103_0, rv a38] [(.long (-1 : Int64)), (.long q145)] [] 0 rfl (hb hby d37_155) (by decide)
  obtain ⟨rfl, Nq154, ec154⟩ := hQ154
  have N154 := Fr.app N147 Nq154
  have fc156 := (u103_1.keep K109)
  obtain ⟨_, T155, L155, X155, hQ155, st155⟩ := own_cI X154 hx hZ hown hml (cw48 hw) (rm48_1 l Z a0 hw b103_0 T109.heap n0 OL109 u109_0 u109_2) ec154 fc156 90 #[rv a1, iv (2 : Int32), rv a2, iv (2 : Int32), rv b12_0, rv a18, iv (1 : Int32), .val (.long (own_jmin (9223372036854775807 : Int64) q127)), sc, .val (.long (own_jmax (-1 : Int64) q145)), sc, rv b103_0, rv a38] [] [] 0 rfl (hb hby d37_90) (by decide)
  obtain ⟨rfl, Nq155, ec155⟩ := hQ155
  have N155 := Fr.app N154 Nq155
  have nz157 := nl pr7.lt sz_b103_0
  have fc158 := (((fc94.other W97 (Or.inl nz86)).keep K103 nin0).keep K109 (ninS nz157 nin0))
  obtain ⟨T159, X159, e159, st159⟩ := gF X155 hx hZ hown (wd264 hw) Via.refl ec155 fc158 164 #[rv a1, iv (2 : Int32), rv a2, iv (2 : Int32), rv b12_0, rv a18, iv (1 : Int32), .val (.long (own_jmin (9223372036854775807 : Int64) q127)), sc, .val (.long (own_jmax (-1 : Int64) q145)), sc, rv b103_0, rv a38] [] (hb hby d37_164)
  have nz160 := nl V97.lt u103_0
  have fc161 := ((V97.keep K103 nin0).keep K109 (ninS nz160 nin0))
  obtain ⟨T163, h163, X163, e163, W163, VV163, st163⟩ := own_sJ X159 hx hZ e159 fc161 (2 : Int32) (by decide) 2 (own_jmin (9223372036854775807 : Int64) q127) [] 173 #[rv a1, iv (2 : Int32), rv a2, iv (3 : Int32), rv b12_0, rv a18, iv (1 : Int32), .val (.long (own_jmin (9223372036854775807 : Int64) q127)), sc, .val (.long (own_jmax (-1 : Int64) q145)), sc, rv b103_0, rv a38] (hb hby d37_173) rfl (Nat.le_of_ble_eq_true rfl)
  have V163 : Arv Z h163 b8 k8 .long (8 : Int32) [(.long (own_jmin (9223372036854775807 : Int64) q58)), (.long (own_jmax (-1 : Int64) q72)), (.long (own_jmin (9223372036854775807 : Int64) q127)), (.long (0 : Int64)), (.long (0 : Int64)), (.long (0 : Int64)), (.long (0 : Int64)), (.long (0 : Int64))] (.long (0 : Int64)) := VV163
  have KK163 : Keep h0 h163 [a1] := KK109.wr W163 (Or.inr sz_b8)
  have OL163 := OL109.wr W163 g_b8
  have N163 := Fr.snoc X163 N155 g_b8
  have fc164 := (fc158.other W163 (Or.inl nz86))
  obtain ⟨T165, X165, e165, st165⟩ := gF X163 hx hZ hown (wd264 hw) Via.refl e163 fc164 175 #[rv a1, iv (2 : Int32), rv a2, iv (3 : Int32), rv b12_0, rv a18, iv (1 : Int32), .val (.long (own_jmin (9223372036854775807 : Int64) q127)), sc, .val (.long (own_jmax (-1 : Int64) q145)), sc, rv b103_0, rv a38] [] (hb hby d37_175)
  obtain ⟨T167, h167, X167, e167, W167, VV167, st167⟩ := own_sJ X165 hx hZ e165 V163 (3 : Int32) (by decide) 3 (own_jmax (-1 : Int64) q145) [] 184 #[rv a1, iv (2 : Int32), rv a2, iv (4 : Int32), rv b12_0, rv a18, iv (1 : Int32), .val (.long (own_jmin (9223372036854775807 : Int64) q127)), sc, .val (.long (own_jmax (-1 : Int64) q145)), sc, rv b103_0, rv a38] (hb hby d37_184) rfl (Nat.le_of_ble_eq_true rfl)
  have V167 : Arv Z h167 b8 k8 .long (8 : Int32) [(.long (own_jmin (9223372036854775807 : Int64) q58)), (.long (own_jmax (-1 : Int64) q72)), (.long (own_jmin (9223372036854775807 : Int64) q127)), (.long (own_jmax (-1 : Int64) q145)), (.long (0 : Int64)), (.long (0 : Int64)), (.long (0 : Int64)), (.long (0 : Int64))] (.long (0 : Int64)) := VV167
  have KK167 : Keep h0 h167 [a1] := KK163.wr W167 (Or.inr sz_b8)
  have OL167 := OL163.wr W167 g_b8
  have N167 := Fr.snoc X167 N163 g_b8
  have nz169 := nl u21_3.lt u33_0
  have lz170 := (lq (lq (lq (lq u21_3.lt K33.1) K39.1) (Nat.le_of_eq W93.size.symm)) (Nat.le_of_eq W97.size.symm))
  have nz171 := nl lz170 u103_0
  have fc172 := ((((((((u21_2.keep K33 nin0).keep K39 (ninS nz169 nin0)).other W93 (Or.inl (Ne.symm nz88))).other W97 (Or.inl (Ne.symm nz88))).keep K103 nin0).keep K109 (ninS nz171 nin0)).other W163 (Or.inl (Ne.symm nz88))).other W167 (Or.inl (Ne.symm nz88)))
  have fc173 := ((((((((u21_0.keep K33 nin0).keep K39 (ninS nz169 nin0)).other W93 (Or.inl (Ne.symm nz88))).other W97 (Or.inl (Ne.symm nz88))).keep K103 nin0).keep K109 (ninS nz171 nin0)).other W163 (Or.inl (Ne.symm nz88))).other W167 (Or.inl (Ne.symm nz88)))
  have nz174 := nl pr9.lt sz_b12_0
  have nz175 := nl pr9.lt sz_b33_0
  have nz176 := nl pr9.lt sz_b8
  have nz177 := nl pr9.lt sz_b103_0
  have fc178 := (((((((((fc16.keep K21 (ninS nz174 nin0)).keep K33 nin0).keep K39 (ninS nz175 nin0)).other W93 (Or.inl nz176)).other W97 (Or.inl nz176)).keep K103 nin0).keep K109 (ninS nz177 nin0)).other W163 (Or.inl nz176)).other W167 (Or.inl nz176))
  have fc179 := (((((((((u12_1.keep K21).keep K33).keep K39).wr W93).wr W97).keep K103).keep K109).wr W163).wr W167)
  obtain ⟨_, T168, L168, X168, hQ168, st168⟩ := own_cI X167 hx hZ hown hml (cw41 hw) (rm41_1 l Z a0 hw b12_0 a2 h167 n0 OL167 fc172 fc173 fc178) e167 fc179 37 #[rv a1, iv (2 : Int32), rv a2, iv (4 : Int32), rv b12_0, rv a18, iv (2 : Int32), .val (.long (own_jmin (9223372036854775807 : Int64) q127)), sc, .val (.long (own_jmax (-1 : Int64) q145)), sc, rv b103_0, rv a38] [] [] 0 rfl (hb hby d37_37) (by decide)
  obtain ⟨rfl, Nq168, ec168⟩ := hQ168
  have N168 := Fr.app N167 Nq168
  have fc181 := (((((((((fc22.keep K21 (ninS nz174 nin0)).keep K33 nin0).keep K39 (ninS nz175 nin0)).other W93 (Or.inl nz176)).other W97 (Or.inl nz176)).keep K103 nin0).keep K109 (ninS nz177 nin0)).other W163 (Or.inl nz176)).other W167 (Or.inl nz176))
  have fc182 := ((((((((u21_1.keep K33 nin0).keep K39 (ninS nz169 nin0)).other W93 (Or.inl (Ne.symm nz88))).other W97 (Or.inl (Ne.symm nz88))).keep K103 nin0).keep K109 (ninS nz171 nin0)).other W163 (Or.inl (Ne.symm nz88))).other W167 (Or.inl (Ne.symm nz88)))
  have fc183 := (((((((((fc23.keep K21 (ninS nz174 nin0)).keep K33 nin0).keep K39 (ninS nz175 nin0)).other W93 (Or.inl nz176)).other W97 (Or.inl nz176)).keep K103 nin0).keep K109 (ninS nz177 nin0)).other W163 (Or.inl nz176)).other W167 (Or.inl nz176))
  have nz184 := nl pr10.lt sz_b33_0
  have nz185 := nl pr10.lt sz_b8
  have nz186 := nl pr10.lt sz_b103_0
  have fc187 := (((((((((fc24.keep K21 (ninS nz25 nin0)).keep K33 nin0).keep K39 (ninS nz184 nin0)).other W93 nz185).other W97 nz185).keep K103 nin0).keep K109 (ninS nz186 nin0)).other W163 nz185).other W167 nz185)
  have fc188 := ((((((((u21_3.keep K33 nin0).keep K39 (ninS nz169 nin0)).other W93 (Or.inl (Ne.symm nz88))).other W97 (Or.inl (Ne.symm nz88))).keep K103 nin0).keep K109 (ninS nz171 nin0)).other W163 (Or.inl (Ne.symm nz88))).other W167 (Or.inl (Ne.symm nz88)))
  obtain ⟨_, T180, L180, X180, hQ180, st180⟩ := own_cI X168 hx hZ hown hml (cw43 hw) (rm42_1 l Z a0 hw b12_0 a2 a17 a18 a19 k20 h167 n0 OL167 fc173 fc181 fc182 fc179 fc172 fc178 fc183 fc187 g_b12_0 fc188 nz25) ec168 fc179 47 #[rv a1, iv (2 : Int32), rv a2, iv (4 : Int32), rv b12_0, rv a18, iv (2 : Int32), .val (.long (own_jmin (9223372036854775807 : Int64) q127)), sc, .val (.long (own_jmax (-1 : Int64) q145)), sc, rv b103_0, rv a38] [] [] 0 rfl (hb hby d37_47) (by decide)
  obtain ⟨rfl, Nq180, K180, u180_0, u180_1, u180_2, u180_3⟩ := hQ180
  have KK180 : Keep h0 T180.heap [a1] := KK167.trans K180 (allS (Or.inr sz_b12_0) all0)
  have OL180 := OL167.keep K180 (allS g_b12_0 all0)
  have N180 := Fr.app N168 Nq180
  have fc189 := ((((((((((((((pr45.wr W4).ext E8).wr W11).keep K12).keep K21).keep K33).keep K39).wr W93).wr W97).keep K103).keep K109).wr W163).wr W167).keep K180)
  obtain ⟨T190, X190, e190, st190⟩ := castY X180 hx hZ hown (wd315 hw) rfl (Ins.self fc189) (g := (mkF m 52 #[rv a1, iv (2 : Int32), rv a2, iv (4 : Int32), rv b12_0, rv a18, iv (2 : Int32), .val (.long (own_jmin (9223372036854775807 : Int64) q127)), sc, .val (.long (own_jmax (-1 : Int64) q145)), sc, rv b103_0, rv a38] [(.ref a19)])) rfl rfl (hb hby d37_52)
  have nz193 := nl pr46.lt sz_b12_0
  have nz194 := nl pr46.lt sz_b33_0
  have nz195 := nl pr46.lt sz_b8
  have nz196 := nl pr46.lt sz_b103_0
  have fc197 := ((((((((((((((pr46.other W4 (Or.inl pr47)).ext E8).other W11 (Or.inl pr47)).keep K12 nin0).keep K21 (ninS nz193 nin0)).keep K33 nin0).keep K39 (ninS nz194 nin0)).other W93 (Or.inl nz195)).other W97 (Or.inl nz195)).keep K103 nin0).keep K109 (ninS nz196 nin0)).other W163 (Or.inl nz195)).other W167 (Or.inl nz195)).keep K180 (ninS nz193 nin0))
  obtain ⟨_, T192, L192, X192, hQ192, st192⟩ := own_cV X190 hx hZ hown hml (cw44 hw) (rm44_0 l Z a0 hw a19 a191 T180.heap n0 OL180 fc197) e190 fc189 78 #[rv a1, iv (2 : Int32), rv a2, iv (4 : Int32), rv b12_0, rv a19, iv (0 : Int32), jv (9223372036854775807 : Int64), sc, jv (-1 : Int64), sc, rv b103_0, rv a38] [] [] 0 rfl (hb hby d37_78) (by decide)
  obtain ⟨rfl, Nq192, ec192⟩ := hQ192
  have N192 := Fr.app N180 Nq192
  have nz199 := nl pr48.lt sz_b12_0
  have nz200 := nl pr48.lt sz_b33_0
  have nz201 := nl pr48.lt sz_b8
  have nz202 := nl pr48.lt sz_b103_0
  have fc203 := ((((((((((((((pr48.other W4 (Or.inl pr49)).ext E8).other W11 (Or.inl pr49)).keep K12 nin0).keep K21 (ninS nz199 nin0)).keep K33 nin0).keep K39 (ninS nz200 nin0)).other W93 (Or.inl nz201)).other W97 (Or.inl nz201)).keep K103 nin0).keep K109 (ninS nz202 nin0)).other W163 (Or.inl nz201)).other W167 (Or.inl nz201)).keep K180 (ninS nz199 nin0))
  have fc204 := ((((((((((((((pr50.wr W4).ext E8).wr W11).keep K12).keep K21).keep K33).keep K39).wr W93).wr W97).keep K103).keep K109).wr W163).wr W167).keep K180)
  obtain ⟨_, T198, L198, X198, hQ198, st198⟩ := own_cI X192 hx hZ hown hml (cw47 hw) (rm45_0 l Z a0 hw a191 w32 T180.heap n0 OL180 fc203 pr17 fc204) ec192 fc204 81 #[rv a1, iv (2 : Int32), rv a2, iv (4 : Int32), rv b12_0, rv a19, iv (0 : Int32), jv (9223372036854775807 : Int64), sc, jv (-1 : Int64), sc, rv b103_0, rv a38] [] [] 0 rfl (hb hby d37_81) (by decide)
  obtain ⟨b198_0, rfl, Nq198, K198, u198_0, u198_1, u198_2, u198_3, u198_4, u198_5⟩ := hQ198
  have KK198 : Keep h0 T198.heap [a1] := KK180.trans K198 all0
  have OL198 := OL180.keep K198 all0
  have g_b198_0 : n0 ≤ b198_0 := Nat.le_trans (Nat.le_trans (Nat.le_of_eq OL180.1.symm) OL180.2.1) u198_0
  have sz_b198_0 : h0.size ≤ b198_0 := Nat.le_trans KK180.1 u198_0
  have N198 := Fr.app N192 Nq198
  obtain ⟨_, T205, L205, X205, hQ205, st205⟩ := own_cI X198 hx hZ hown hml (cw48 hw) (rm48_0 l Z a0 hw b198_0 T198.heap n0 OL198 u198_4 u198_3) rfl u198_1 90 #[rv a1, iv (2 : Int32), rv a2, iv (4 : Int32), rv b12_0, rv a19, iv (0 : Int32), jv (9223372036854775807 : Int64), sc, jv (-1 : Int64), sc, rv b198_0, rv a38] [] [] 0 rfl (hb hby d37_90) (by decide)
  obtain ⟨rfl, Nq205, ec205⟩ := hQ205
  have N205 := Fr.app N198 Nq205
  have fc208 := (((((((((((((((pr51.other W4 (Or.inl pr49)).ext E8).other W11 (Or.inl pr49)).keep K12 nin0).keep K21 (ninS nz199 nin0)).keep K33 nin0).keep K39 (ninS nz200 nin0)).other W93 (Or.inl nz201)).other W97 (Or.inl nz201)).keep K103 nin0).keep K109 (ninS nz202 nin0)).other W163 (Or.inl nz201)).other W167 (Or.inl nz201)).keep K180 (ninS nz199 nin0)).keep K198 nin0)
  have fc209 := (fc204.keep K198)
  obtain ⟨_, T207, L207, X207, hQ207, st207⟩ := own_cIW X205 hx hZ hown hml (cw50 hw) (rm49_0 l Z a0 hw b198_0 a191 a206 T198.heap n0 OL198 u198_4 u198_2 fc208 fc209 u198_1 g_b198_0 u198_3 u198_5) ec205 u198_1 100 #[rv a1, iv (2 : Int32), rv a2, iv (4 : Int32), rv b12_0, rv a19, iv (0 : Int32), jv (9223372036854775807 : Int64), sc, jv (-1 : Int64), sc, rv b198_0, rv a38] [] [] 0 rfl (hb hby d37_100) (by decide)
  obtain ⟨rfl, Nq207, K207, u207_0, u207_1, u207_2, u207_3⟩ := hQ207
  have KK207 : Keep h0 T207.heap [a1] := KK198.trans K207 (allS (Or.inr sz_b198_0) all0)
  have OL207 := OL198.keep K207 (allS g_b198_0 all0)
  have N207 := Fr.app N205 Nq207
  have fc210 := ((((((((((((((((pr52.wr W4).ext E8).wr W11).keep K12).keep K21).keep K33).keep K39).wr W93).wr W97).keep K103).keep K109).wr W163).wr W167).keep K180).keep K198).keep K207)
  obtain ⟨T211, X211, e211, st211⟩ := castY X207 hx hZ hown (wd371 hw) rfl (Ins.self fc210) (g := (mkF m 105 #[rv a1, iv (2 : Int32), rv a2, iv (4 : Int32), rv b12_0, rv a19, iv (0 : Int32), jv (9223372036854775807 : Int64), sc, jv (-1 : Int64), sc, rv b198_0, rv a38] [(.ref a206)])) rfl rfl (hb hby d37_105)
  have nz214 := nl pr53.lt sz_b12_0
  have nz215 := nl pr53.lt sz_b33_0
  have nz216 := nl pr53.lt sz_b8
  have nz217 := nl pr53.lt sz_b103_0
  have nz218 := nl pr53.lt sz_b198_0
  have fc219 := ((((((((((((((((pr53.other W4 (Or.inl pr54)).ext E8).other W11 (Or.inl pr54)).keep K12 nin0).keep K21 (ninS nz214 nin0)).keep K33 nin0).keep K39 (ninS nz215 nin0)).other W93 (Or.inl nz216)).other W97 (Or.inl nz216)).keep K103 nin0).keep K109 (ninS nz217 nin0)).other W163 (Or.inl nz216)).other W167 (Or.inl nz216)).keep K180 (ninS nz214 nin0)).keep K198 nin0).keep K207 (ninS nz218 nin0))
  obtain ⟨_, T213, L213, X213, hQ213, st213⟩ := own_cV X211 hx hZ hown hml (cw51 hw) (rm51_0 l Z a0 hw a206 a212 T207.heap n0 OL207 fc219) e211 fc210 114 #[rv a1, iv (2 : Int32), rv a2, iv (4 : Int32), rv b12_0, rv a19, iv (0 : Int32), jv (9223372036854775807 : Int64), sc, jv (-1 : Int64), sc, rv b198_0, rv a206] [] [(.long (9223372036854775807 : Int64))] 2 rfl (hb hby d37_114) (by decide)
  obtain ⟨rfl, Nq213, ec213⟩ := hQ213
  have N213 := Fr.app N207 Nq213
  have nz222 := nl pr55.lt sz_b12_0
  have nz223 := nl pr55.lt sz_b33_0
  have nz224 := nl pr55.lt sz_b8
  have nz225 := nl pr55.lt sz_b103_0
  have nz226 := nl pr55.lt sz_b198_0
  have fc227 := ((((((((((((((((pr55.other W4 (Or.inl pr56)).ext E8).other W11 (Or.inl pr56)).keep K12 nin0).keep K21 (ninS nz222 nin0)).keep K33 nin0).keep K39 (ninS nz223 nin0)).other W93 (Or.inl nz224)).other W97 (Or.inl nz224)).keep K103 nin0).keep K109 (ninS nz225 nin0)).other W163 (Or.inl nz224)).other W167 (Or.inl nz224)).keep K180 (ninS nz222 nin0)).keep K198 nin0).keep K207 (ninS nz226 nin0))
  have fc228 := ((((((((((((((((pr57.wr W4).ext E8).wr W11).keep K12).keep K21).keep K33).keep K39).wr W93).wr W97).keep K103).keep K109).wr W163).wr W167).keep K180).keep K198).keep K207)
  obtain ⟨_, T221, L221, X221, hQ221, st221⟩ := own_cI X213 hx hZ hown hml (cw52 hw) (rm50_0 l Z a0 hw a212 a220 T207.heap n0 OL207 fc227) ec213 fc228 119 #[rv a1, iv (2 : Int32), rv a2, iv (4 : Int32), rv b12_0, rv a19, iv (0 : Int32), jv (9223372036854775807 : Int64), sc, jv (-1 : Int64), sc, rv b198_0, rv a206] [(.int (0 : Int32))] [(.long (9223372036854775807 : Int64))] 2 rfl (hb hby d37_119) (by decide)
  obtain ⟨rfl, Nq221, ec221⟩ := hQ221
  have N221 := Fr.app N213 Nq221
  have fc229 := ((((((((((((((((pr58.wr W4).ext E8).wr W11).keep K12).keep K21).keep K33).keep K39).wr W93).wr W97).keep K103).keep K109).wr W163).wr W167).keep K180).keep K198).keep K207)
  obtain ⟨T230, X230, e230, st230⟩ := castY X221 hx hZ hown (wd379 hw) ec221 (Ins.self fc229) (g := (mkF m 124 #[rv a1, iv (2 : Int32), rv a2, iv (4 : Int32), rv b12_0, rv a19, iv (0 : Int32), jv (9223372036854775807 : Int64), sc, jv (-1 : Int64), sc, rv b198_0, rv a206] [(.ref a220), (.long (9223372036854775807 : Int64))])) rfl rfl (hb hby d37_124)
  have nz235 := nl pr59.lt sz_b12_0
  have nz236 := nl pr59.lt sz_b33_0
  have nz237 := nl pr59.lt sz_b8
  have nz238 := nl pr59.lt sz_b103_0
  have nz239 := nl pr59.lt sz_b198_0
  have fc240 := ((((((((((((((((pr59.other W4 (Or.inl pr60)).ext E8).other W11 (Or.inl pr60)).keep K12 nin0).keep K21 (ninS nz235 nin0)).keep K33 nin0).keep K39 (ninS nz236 nin0)).other W93 (Or.inl nz237)).other W97 (Or.inl nz237)).keep K103 nin0).keep K109 (ninS nz238 nin0)).other W163 (Or.inl nz237)).other W167 (Or.inl nz237)).keep K180 (ninS nz235 nin0)).keep K198 nin0).keep K207 (ninS nz239 nin0))
  have nz241 := nl pr61.lt sz_b12_0
  have nz242 := nl pr61.lt sz_b33_0
  have nz243 := nl pr61.lt sz_b8
  have nz244 := nl pr61.lt sz_b103_0
  have nz245 := nl pr61.lt sz_b198_0
  have fc246 := ((((((((((((((((pr61.other W4 pr62).ext E8).other W11 pr62).keep K12 nin0).keep K21 (ninS nz241 nin0)).keep K33 nin0).keep K39 (ninS nz242 nin0)).other W93 nz243).other W97 nz243).keep K103 nin0).keep K109 (ninS nz244 nin0)).other W163 nz243).other W167 nz243).keep K180 (ninS nz241 nin0)).keep K198 nin0).keep K207 (ninS nz245 nin0))
  obtain ⟨_, T234, L234, X234, hQ234, st234⟩ := own_cV X230 hx hZ hown hml (cw53 hw) (rm52_0 l Z a0 hw a220 a231 q232 k233 T207.heap n0 OL207 fc240 fc246) e230 fc229 127 #[rv a1, iv (2 : Int32), rv a2, iv (4 : Int32), rv b12_0, rv a19, iv (0 : Int32), jv (9223372036854775807 : Int64), sc, jv (-1 : Int64), sc, rv b198_0, rv a206] [] [(.long (9223372036854775807 : Int64))] 2 rfl (hb hby d37_127) (by decide)
  obtain ⟨rfl, Nq234, ec234⟩ := hQ234
  have N234 := Fr.app N221 Nq234
  obtain ⟨_, T247, L247, X247, hQ247, st247⟩ := own_cS X234 hx hZ hown hml (cw54 hw) (mg_own_jmin l Z a0 hw (9223372036854775807 : Int64) q232 T207.heap n0 OL207 ) ec234 130 #[rv a1, iv (2 : Int32), rv a2, iv (4 : Int32), rv b12_0, rv a19, iv (0 : Int32), jv (9223372036854775807 : Int64), sc, jv (-1 : Int64), sc, rv b198_0, rv a206] [(.long (9223372036854775807 : Int64)), (.long q232)] [] 0 rfl (hb hby d37_130) (by decide)
  obtain ⟨rfl, Nq247, ec247⟩ := hQ247
  have N247 := Fr.app N234 Nq247
  obtain ⟨_, T248, L248, X248, hQ248, st248⟩ := own_cV X247 hx hZ hown hml (cw51 hw) (rm51_0 l Z a0 hw a206 a212 T207.heap n0 OL207 fc219) ec247 fc210 139 #[rv a1, iv (2 : Int32), rv a2, iv (4 : Int32), rv b12_0, rv a19, iv (0 : Int32), .val (.long (own_jmin (9223372036854775807 : Int64) q232)), sc, jv (-1 : Int64), sc, rv b198_0, rv a206] [] [(.long (-1 : Int64))] 2 rfl (hb hby d37_139) (by decide)
  obtain ⟨rfl, Nq248, ec248⟩ := hQ248
  have N248 := Fr.app N247 Nq248
  obtain ⟨_, T249, L249, X249, hQ249, st249⟩ := own_cI X248 hx hZ hown hml (cw52 hw) (rm50_0 l Z a0 hw a212 a220 T207.heap n0 OL207 fc227) ec248 fc228 144 #[rv a1, iv (2 : Int32), rv a2, iv (4 : Int32), rv b12_0, rv a19, iv (0 : Int32), .val (.long (own_jmin (9223372036854775807 : Int64) q232)), sc, jv (-1 : Int64), sc, rv b198_0, rv a206] [(.int (0 : Int32))] [(.long (-1 : Int64))] 2 rfl (hb hby d37_144) (by decide)
  obtain ⟨rfl, Nq249, ec249⟩ := hQ249
  have N249 := Fr.app N248 Nq249
  obtain ⟨T250, X250, e250, st250⟩ := castY X249 hx hZ hown (wd379 hw) ec249 (Ins.self fc229) (g := (mkF m 149 #[rv a1, iv (2 : Int32), rv a2, iv (4 : Int32), rv b12_0, rv a19, iv (0 : Int32), .val (.long (own_jmin (9223372036854775807 : Int64) q232)), sc, jv (-1 : Int64), sc, rv b198_0, rv a206] [(.ref a220), (.long (-1 : Int64))])) rfl rfl (hb hby d37_149)
  have fc255 := ((((((((((((((((pr63.other W4 (Or.inl pr60)).ext E8).other W11 (Or.inl pr60)).keep K12 nin0).keep K21 (ninS nz235 nin0)).keep K33 nin0).keep K39 (ninS nz236 nin0)).other W93 (Or.inl nz237)).other W97 (Or.inl nz237)).keep K103 nin0).keep K109 (ninS nz238 nin0)).other W163 (Or.inl nz237)).other W167 (Or.inl nz237)).keep K180 (ninS nz235 nin0)).keep K198 nin0).keep K207 (ninS nz239 nin0))
  have nz256 := nl pr64.lt sz_b12_0
  have nz257 := nl pr64.lt sz_b33_0
  have nz258 := nl pr64.lt sz_b8
  have nz259 := nl pr64.lt sz_b103_0
  have nz260 := nl pr64.lt sz_b198_0
  have fc261 := ((((((((((((((((pr64.other W4 pr65).ext E8).other W11 pr65).keep K12 nin0).keep K21 (ninS nz256 nin0)).keep K33 nin0).keep K39 (ninS nz257 nin0)).other W93 nz258).other W97 nz258).keep K103 nin0).keep K109 (ninS nz259 nin0)).other W163 nz258).other W167 nz258).keep K180 (ninS nz256 nin0)).keep K198 nin0).keep K207 (ninS nz260 nin0))
  obtain ⟨_, T254, L254, X254, hQ254, st254⟩ := own_cV X250 hx hZ hown hml (cw55 hw) (rm53_0 l Z a0 hw a220 a251 q252 k253 T207.heap n0 OL207 fc255 fc261) e250 fc229 152 #[rv a1, iv (2 : Int32), rv a2, iv (4 : Int32), rv b12_0, rv a19, iv (0 : Int32), .val (.long (own_jmin (9223372036854775807 : Int64) q232)), sc, jv (-1 : Int64), sc, rv b198_0, rv a206] [] [(.long (-1 : Int64))] 2 rfl (hb hby d37_152) (by decide)
  obtain ⟨rfl, Nq254, ec254⟩ := hQ254
  have N254 := Fr.app N249 Nq254
  obtain ⟨_, T262, L262, X262, hQ262, st262⟩ := own_cS X254 hx hZ hown hml (cw56 hw) (mg_own_jmax l Z a0 hw (-1 : Int64) q252 T207.heap n0 OL207 ) ec254 155 #[rv a1, iv (2 : Int32), rv a2, iv (4 : Int32), rv b12_0, rv a19, iv (0 : Int32), .val (.long (own_jmin (9223372036854775807 : Int64) q232)), sc, jv (-1 : Int64), sc, rv b198_0, rv a206] [(.long (-1 : Int64)), (.long q252)] [] 0 rfl (hb hby d37_155) (by decide)
  obtain ⟨rfl, Nq262, ec262⟩ := hQ262
  have N262 := Fr.app N254 Nq262
  have fc264 := (u198_1.keep K207)
  obtain ⟨_, T263, L263, X263, hQ263, st263⟩ := own_cI X262 hx hZ hown hml (cw48 hw) (rm48_1 l Z a0 hw b198_0 T207.heap n0 OL207 u207_0 u207_2) ec262 fc264 90 #[rv a1, iv (2 : Int32), rv a2, iv (4 : Int32), rv b12_0, rv a19, iv (0 : Int32), .val (.long (own_jmin (9223372036854775807 : Int64) q232)), sc, .val (.long (own_jmax (-1 : Int64) q252)), sc, rv b198_0, rv a206] [] [] 0 rfl (hb hby d37_90) (by decide)
  obtain ⟨rfl, Nq263, ec263⟩ := hQ263
  have N263 := Fr.app N262 Nq263
  have nz265 := nl pr7.lt sz_b198_0
  have fc266 := ((((fc164.other W167 (Or.inl nz86)).keep K180 (ninS nz82 nin0)).keep K198 nin0).keep K207 (ninS nz265 nin0))
  obtain ⟨T267, X267, e267, st267⟩ := gF X263 hx hZ hown (wd264 hw) Via.refl ec263 fc266 164 #[rv a1, iv (2 : Int32), rv a2, iv (4 : Int32), rv b12_0, rv a19, iv (0 : Int32), .val (.long (own_jmin (9223372036854775807 : Int64) q232)), sc, .val (.long (own_jmax (-1 : Int64) q252)), sc, rv b198_0, rv a206] [] (hb hby d37_164)
  have lz268 := (lq V167.lt K180.1)
  have nz269 := nl lz268 u198_0
  have fc270 := (((V167.keep K180 (ninS nz88 nin0)).keep K198 nin0).keep K207 (ninS nz269 nin0))
  obtain ⟨T272, h272, X272, e272, W272, VV272, st272⟩ := own_sJ X267 hx hZ e267 fc270 (4 : Int32) (by decide) 4 (own_jmin (9223372036854775807 : Int64) q232) [] 173 #[rv a1, iv (2 : Int32), rv a2, iv (5 : Int32), rv b12_0, rv a19, iv (0 : Int32), .val (.long (own_jmin (9223372036854775807 : Int64) q232)), sc, .val (.long (own_jmax (-1 : Int64) q252)), sc, rv b198_0, rv a206] (hb hby d37_173) rfl (Nat.le_of_ble_eq_true rfl)
  have V272 : Arv Z h272 b8 k8 .long (8 : Int32) [(.long (own_jmin (9223372036854775807 : Int64) q58)), (.long (own_jmax (-1 : Int64) q72)), (.long (own_jmin (9223372036854775807 : Int64) q127)), (.long (own_jmax (-1 : Int64) q145)), (.long (own_jmin (9223372036854775807 : Int64) q232)), (.long (0 : Int64)), (.long (0 : Int64)), (.long (0 : Int64))] (.long (0 : Int64)) := VV272
  have KK272 : Keep h0 h272 [a1] := KK207.wr W272 (Or.inr sz_b8)
  have OL272 := OL207.wr W272 g_b8
  have N272 := Fr.snoc X272 N263 g_b8
  have fc273 := (fc266.other W272 (Or.inl nz86))
  obtain ⟨T274, X274, e274, st274⟩ := gF X272 hx hZ hown (wd264 hw) Via.refl e272 fc273 175 #[rv a1, iv (2 : Int32), rv a2, iv (5 : Int32), rv b12_0, rv a19, iv (0 : Int32), .val (.long (own_jmin (9223372036854775807 : Int64) q232)), sc, .val (.long (own_jmax (-1 : Int64) q252)), sc, rv b198_0, rv a206] [] (hb hby d37_175)
  obtain ⟨T276, h276, X276, e276, W276, VV276, st276⟩ := own_sJ X274 hx hZ e274 V272 (5 : Int32) (by decide) 5 (own_jmax (-1 : Int64) q252) [] 184 #[rv a1, iv (2 : Int32), rv a2, iv (6 : Int32), rv b12_0, rv a19, iv (0 : Int32), .val (.long (own_jmin (9223372036854775807 : Int64) q232)), sc, .val (.long (own_jmax (-1 : Int64) q252)), sc, rv b198_0, rv a206] (hb hby d37_184) rfl (Nat.le_of_ble_eq_true rfl)
  have V276 : Arv Z h276 b8 k8 .long (8 : Int32) [(.long (own_jmin (9223372036854775807 : Int64) q58)), (.long (own_jmax (-1 : Int64) q72)), (.long (own_jmin (9223372036854775807 : Int64) q127)), (.long (own_jmax (-1 : Int64) q145)), (.long (own_jmin (9223372036854775807 : Int64) q232)), (.long (own_jmax (-1 : Int64) q252)), (.long (0 : Int64)), (.long (0 : Int64))] (.long (0 : Int64)) := VV276
  have KK276 : Keep h0 h276 [a1] := KK272.wr W276 (Or.inr sz_b8)
  have OL276 := OL272.wr W276 g_b8
  have N276 := Fr.snoc X276 N272 g_b8
  have nz278 := nl pr46.lt sz_b198_0
  have fc279 := ((((fc197.keep K198 nin0).keep K207 (ninS nz278 nin0)).other W272 (Or.inl nz195)).other W276 (Or.inl nz195))
  have fc280 := ((((fc189.keep K198).keep K207).wr W272).wr W276)
  obtain ⟨_, T277, L277, X277, hQ277, st277⟩ := own_cV X276 hx hZ hown hml (cw44 hw) (rm44_0 l Z a0 hw a19 a191 h276 n0 OL276 fc279) e276 fc280 78 #[rv a1, iv (2 : Int32), rv a2, iv (6 : Int32), rv b12_0, rv a19, iv (1 : Int32), jv (9223372036854775807 : Int64), sc, jv (-1 : Int64), sc, rv b198_0, rv a206] [] [] 0 rfl (hb hby d37_78) (by decide)
  obtain ⟨rfl, Nq277, ec277⟩ := hQ277
  have N277 := Fr.app N276 Nq277
  have nz282 := nl pr51.lt sz_b198_0
  have fc283 := ((((fc203.keep K198 nin0).keep K207 (ninS nz282 nin0)).other W272 (Or.inl nz201)).other W276 (Or.inl nz201))
  have fc284 := (((fc209.keep K207).wr W272).wr W276)
  obtain ⟨_, T281, L281, X281, hQ281, st281⟩ := own_cI X277 hx hZ hown hml (cw47 hw) (rm45_0 l Z a0 hw a191 w32 h276 n0 OL276 fc283 pr17 fc284) ec277 fc284 81 #[rv a1, iv (2 : Int32), rv a2, iv (6 : Int32), rv b12_0, rv a19, iv (1 : Int32), jv (9223372036854775807 : Int64), sc, jv (-1 : Int64), sc, rv b198_0, rv a206] [] [] 0 rfl (hb hby d37_81) (by decide)
  obtain ⟨b281_0, rfl, Nq281, K281, u281_0, u281_1, u281_2, u281_3, u281_4, u281_5⟩ := hQ281
  have KK281 : Keep h0 T281.heap [a1] := KK276.trans K281 all0
  have OL281 := OL276.keep K281 all0
  have g_b281_0 : n0 ≤ b281_0 := Nat.le_trans (Nat.le_trans (Nat.le_of_eq OL276.1.symm) OL276.2.1) u281_0
  have sz_b281_0 : h0.size ≤ b281_0 := Nat.le_trans KK276.1 u281_0
  have N281 := Fr.app N277 Nq281
  obtain ⟨_, T285, L285, X285, hQ285, st285⟩ := own_cI X281 hx hZ hown hml (cw48 hw) (rm48_0 l Z a0 hw b281_0 T281.heap n0 OL281 u281_4 u281_3) rfl u281_1 90 #[rv a1, iv (2 : Int32), rv a2, iv (6 : Int32), rv b12_0, rv a19, iv (1 : Int32), jv (9223372036854775807 : Int64), sc, jv (-1 : Int64), sc, rv b281_0, rv a206] [] [] 0 rfl (hb hby d37_90) (by decide)
  obtain ⟨rfl, Nq285, ec285⟩ := hQ285
  have N285 := Fr.app N281 Nq285
  have fc287 := ((((fc208.keep K207 (ninS nz282 nin0)).other W272 (Or.inl nz201)).other W276 (Or.inl nz201)).keep K281 nin0)
  have fc288 := (fc284.keep K281)
  obtain ⟨_, T286, L286, X286, hQ286, st286⟩ := own_cIW X285 hx hZ hown hml (cw50 hw) (rm49_0 l Z a0 hw b281_0 a191 a206 T281.heap n0 OL281 u281_4 u281_2 fc287 fc288 u281_1 g_b281_0 u281_3 u281_5) ec285 u281_1 100 #[rv a1, iv (2 : Int32), rv a2, iv (6 : Int32), rv b12_0, rv a19, iv (1 : Int32), jv (9223372036854775807 : Int64), sc, jv (-1 : Int64), sc, rv b281_0, rv a206] [] [] 0 rfl (hb hby d37_100) (by decide)
  obtain ⟨rfl, Nq286, K286, u286_0, u286_1, u286_2, u286_3⟩ := hQ286
  have KK286 : Keep h0 T286.heap [a1] := KK281.trans K286 (allS (Or.inr sz_b281_0) all0)
  have OL286 := OL281.keep K286 (allS g_b281_0 all0)
  have N286 := Fr.app N285 Nq286
  have fc289 := ((((fc210.wr W272).wr W276).keep K281).keep K286)
  obtain ⟨T290, X290, e290, st290⟩ := castY X286 hx hZ hown (wd371 hw) rfl (Ins.self fc289) (g := (mkF m 105 #[rv a1, iv (2 : Int32), rv a2, iv (6 : Int32), rv b12_0, rv a19, iv (1 : Int32), jv (9223372036854775807 : Int64), sc, jv (-1 : Int64), sc, rv b281_0, rv a206] [(.ref a206)])) rfl rfl (hb hby d37_105)
  have nz292 := nl pr53.lt sz_b281_0
  have fc293 := ((((fc219.other W272 (Or.inl nz216)).other W276 (Or.inl nz216)).keep K281 nin0).keep K286 (ninS nz292 nin0))
  obtain ⟨_, T291, L291, X291, hQ291, st291⟩ := own_cV X290 hx hZ hown hml (cw51 hw) (rm51_0 l Z a0 hw a206 a212 T286.heap n0 OL286 fc293) e290 fc289 114 #[rv a1, iv (2 : Int32), rv a2, iv (6 : Int32), rv b12_0, rv a19, iv (1 : Int32), jv (9223372036854775807 : Int64), sc, jv (-1 : Int64), sc, rv b281_0, rv a206] [] [(.long (9223372036854775807 : Int64))] 2 rfl (hb hby d37_114) (by decide)
  obtain ⟨rfl, Nq291, ec291⟩ := hQ291
  have N291 := Fr.app N286 Nq291
  have nz296 := nl pr66.lt sz_b281_0
  have fc297 := ((((((((((((((((((((pr66.other W4 (Or.inl pr56)).ext E8).other W11 (Or.inl pr56)).keep K12 nin0).keep K21 (ninS nz222 nin0)).keep K33 nin0).keep K39 (ninS nz223 nin0)).other W93 (Or.inl nz224)).other W97 (Or.inl nz224)).keep K103 nin0).keep K109 (ninS nz225 nin0)).other W163 (Or.inl nz224)).other W167 (Or.inl nz224)).keep K180 (ninS nz222 nin0)).keep K198 nin0).keep K207 (ninS nz226 nin0)).other W272 (Or.inl nz224)).other W276 (Or.inl nz224)).keep K281 nin0).keep K286 (ninS nz296 nin0))
  have fc298 := ((((fc228.wr W272).wr W276).keep K281).keep K286)
  obtain ⟨_, T295, L295, X295, hQ295, st295⟩ := own_cI X291 hx hZ hown hml (cw52 hw) (rm50_1 l Z a0 hw a212 a294 w32 T286.heap n0 OL286 fc297 pr17 pr35 pr67) ec291 fc298 119 #[rv a1, iv (2 : Int32), rv a2, iv (6 : Int32), rv b12_0, rv a19, iv (1 : Int32), jv (9223372036854775807 : Int64), sc, jv (-1 : Int64), sc, rv b281_0, rv a206] [(.int (1 : Int32))] [(.long (9223372036854775807 : Int64))] 2 rfl (hb hby d37_119) (by decide)
  obtain ⟨rfl, Nq295, ec295⟩ := hQ295
  have N295 := Fr.app N291 Nq295
  have fc299 := ((((((((((((((((((((pr68.wr W4).ext E8).wr W11).keep K12).keep K21).keep K33).keep K39).wr W93).wr W97).keep K103).keep K109).wr W163).wr W167).keep K180).keep K198).keep K207).wr W272).wr W276).keep K281).keep K286)
  obtain ⟨T300, X300, e300, st300⟩ := castY X295 hx hZ hown (wd379 hw) ec295 (Ins.self fc299) (g := (mkF m 124 #[rv a1, iv (2 : Int32), rv a2, iv (6 : Int32), rv b12_0, rv a19, iv (1 : Int32), jv (9223372036854775807 : Int64), sc, jv (-1 : Int64), sc, rv b281_0, rv a206] [(.ref a294), (.long (9223372036854775807 : Int64))])) rfl rfl (hb hby d37_124)
  have nz305 := nl pr69.lt sz_b12_0
  have nz306 := nl pr69.lt sz_b33_0
  have nz307 := nl pr69.lt sz_b8
  have nz308 := nl pr69.lt sz_b103_0
  have nz309 := nl pr69.lt sz_b198_0
  have nz310 := nl pr69.lt sz_b281_0
  have fc311 := ((((((((((((((((((((pr69.other W4 (Or.inl pr70)).ext E8).other W11 (Or.inl pr70)).keep K12 nin0).keep K21 (ninS nz305 nin0)).keep K33 nin0).keep K39 (ninS nz306 nin0)).other W93 (Or.inl nz307)).other W97 (Or.inl nz307)).keep K103 nin0).keep K109 (ninS nz308 nin0)).other W163 (Or.inl nz307)).other W167 (Or.inl nz307)).keep K180 (ninS nz305 nin0)).keep K198 nin0).keep K207 (ninS nz309 nin0)).other W272 (Or.inl nz307)).other W276 (Or.inl nz307)).keep K281 nin0).keep K286 (ninS nz310 nin0))
  have nz312 := nl pr71.lt sz_b12_0
  have nz313 := nl pr71.lt sz_b33_0
  have nz314 := nl pr71.lt sz_b8
  have nz315 := nl pr71.lt sz_b103_0
  have nz316 := nl pr71.lt sz_b198_0
  have nz317 := nl pr71.lt sz_b281_0
  have fc318 := ((((((((((((((((((((pr71.other W4 pr72).ext E8).other W11 pr72).keep K12 nin0).keep K21 (ninS nz312 nin0)).keep K33 nin0).keep K39 (ninS nz313 nin0)).other W93 nz314).other W97 nz314).keep K103 nin0).keep K109 (ninS nz315 nin0)).other W163 nz314).other W167 nz314).keep K180 (ninS nz312 nin0)).keep K198 nin0).keep K207 (ninS nz316 nin0)).other W272 nz314).other W276 nz314).keep K281 nin0).keep K286 (ninS nz317 nin0))
  obtain ⟨_, T304, L304, X304, hQ304, st304⟩ := own_cV X300 hx hZ hown hml (cw53 hw) (rm52_0 l Z a0 hw a294 a301 q302 k303 T286.heap n0 OL286 fc311 fc318) e300 fc299 127 #[rv a1, iv (2 : Int32), rv a2, iv (6 : Int32), rv b12_0, rv a19, iv (1 : Int32), jv (9223372036854775807 : Int64), sc, jv (-1 : Int64), sc, rv b281_0, rv a206] [] [(.long (9223372036854775807 : Int64))] 2 rfl (hb hby d37_127) (by decide)
  obtain ⟨rfl, Nq304, ec304⟩ := hQ304
  have N304 := Fr.app N295 Nq304
  obtain ⟨_, T319, L319, X319, hQ319, st319⟩ := own_cS X304 hx hZ hown hml (cw54 hw) (mg_own_jmin l Z a0 hw (9223372036854775807 : Int64) q302 T286.heap n0 OL286 ) ec304 130 #[rv a1, iv (2 : Int32), rv a2, iv (6 : Int32), rv b12_0, rv a19, iv (1 : Int32), jv (9223372036854775807 : Int64), sc, jv (-1 : Int64), sc, rv b281_0, rv a206] [(.long (9223372036854775807 : Int64)), (.long q302)] [] 0 rfl (hb hby d37_130) (by decide)
  obtain ⟨rfl, Nq319, ec319⟩ := hQ319
  have N319 := Fr.app N304 Nq319
  obtain ⟨_, T320, L320, X320, hQ320, st320⟩ := own_cV X319 hx hZ hown hml (cw51 hw) (rm51_0 l Z a0 hw a206 a212 T286.heap n0 OL286 fc293) ec319 fc289 139 #[rv a1, iv (2 : Int32), rv a2, iv (6 : Int32), rv b12_0, rv a19, iv (1 : Int32), .val (.long (own_jmin (9223372036854775807 : Int64) q302)), sc, jv (-1 : Int64), sc, rv b281_0, rv a206] [] [(.long (-1 : Int64))] 2 rfl (hb hby d37_139) (by decide)
  obtain ⟨rfl, Nq320, ec320⟩ := hQ320
  have N320 := Fr.app N319 Nq320
  obtain ⟨_, T321, L321, X321, hQ321, st321⟩ := own_cI X320 hx hZ hown hml (cw52 hw) (rm50_1 l Z a0 hw a212 a294 w32 T286.heap n0 OL286 fc297 pr17 pr35 pr67) ec320 fc298 144 #[rv a1, iv (2 : Int32), rv a2, iv (6 : Int32), rv b12_0, rv a19, iv (1 : Int32), .val (.long (own_jmin (9223372036854775807 : Int64) q302)), sc, jv (-1 : Int64), sc, rv b281_0, rv a206] [(.int (1 : Int32))] [(.long (-1 : Int64))] 2 rfl (hb hby d37_144) (by decide)
  obtain ⟨rfl, Nq321, ec321⟩ := hQ321
  have N321 := Fr.app N320 Nq321
  obtain ⟨T322, X322, e322, st322⟩ := castY X321 hx hZ hown (wd379 hw) ec321 (Ins.self fc299) (g := (mkF m 149 #[rv a1, iv (2 : Int32), rv a2, iv (6 : Int32), rv b12_0, rv a19, iv (1 : Int32), .val (.long (own_jmin (9223372036854775807 : Int64) q302)), sc, jv (-1 : Int64), sc, rv b281_0, rv a206] [(.ref a294), (.long (-1 : Int64))])) rfl rfl (hb hby d37_149)
  have fc327 := ((((((((((((((((((((pr73.other W4 (Or.inl pr70)).ext E8).other W11 (Or.inl pr70)).keep K12 nin0).keep K21 (ninS nz305 nin0)).keep K33 nin0).keep K39 (ninS nz306 nin0)).other W93 (Or.inl nz307)).other W97 (Or.inl nz307)).keep K103 nin0).keep K109 (ninS nz308 nin0)).other W163 (Or.inl nz307)).other W167 (Or.inl nz307)).keep K180 (ninS nz305 nin0)).keep K198 nin0).keep K207 (ninS nz309 nin0)).other W272 (Or.inl nz307)).other W276 (Or.inl nz307)).keep K281 nin0).keep K286 (ninS nz310 nin0))
  have nz328 := nl pr74.lt sz_b12_0
  have nz329 := nl pr74.lt sz_b33_0
  have nz330 := nl pr74.lt sz_b8
  have nz331 := nl pr74.lt sz_b103_0
  have nz332 := nl pr74.lt sz_b198_0
  have nz333 := nl pr74.lt sz_b281_0
  have fc334 := ((((((((((((((((((((pr74.other W4 pr75).ext E8).other W11 pr75).keep K12 nin0).keep K21 (ninS nz328 nin0)).keep K33 nin0).keep K39 (ninS nz329 nin0)).other W93 nz330).other W97 nz330).keep K103 nin0).keep K109 (ninS nz331 nin0)).other W163 nz330).other W167 nz330).keep K180 (ninS nz328 nin0)).keep K198 nin0).keep K207 (ninS nz332 nin0)).other W272 nz330).other W276 nz330).keep K281 nin0).keep K286 (ninS nz333 nin0))
  obtain ⟨_, T326, L326, X326, hQ326, st326⟩ := own_cV X322 hx hZ hown hml (cw55 hw) (rm53_0 l Z a0 hw a294 a323 q324 k325 T286.heap n0 OL286 fc327 fc334) e322 fc299 152 #[rv a1, iv (2 : Int32), rv a2, iv (6 : Int32), rv b12_0, rv a19, iv (1 : Int32), .val (.long (own_jmin (9223372036854775807 : Int64) q302)), sc, jv (-1 : Int64), sc, rv b281_0, rv a206] [] [(.long (-1 : Int64))] 2 rfl (hb hby d37_152) (by decide)
  obtain ⟨rfl, Nq326, ec326⟩ := hQ326
  have N326 := Fr.app N321 Nq326
  obtain ⟨_, T335, L335, X335, hQ335, st335⟩ := own_cS X326 hx hZ hown hml (cw56 hw) (mg_own_jmax l Z a0 hw (-1 : Int64) q324 T286.heap n0 OL286 ) ec326 155 #[rv a1, iv (2 : Int32), rv a2, iv (6 : Int32), rv b12_0, rv a19, iv (1 : Int32), .val (.long (own_jmin (9223372036854775807 : Int64) q302)), sc, jv (-1 : Int64), sc, rv b281_0, rv a206] [(.long (-1 : Int64)), (.long q324)] [] 0 rfl (hb hby d37_155) (by decide)
  obtain ⟨rfl, Nq335, ec335⟩ := hQ335
  have N335 := Fr.app N326 Nq335
  have fc337 := (u281_1.keep K286)
  obtain ⟨_, T336, L336, X336, hQ336, st336⟩ := own_cI X335 hx hZ hown hml (cw48 hw) (rm48_1 l Z a0 hw b281_0 T286.heap n0 OL286 u286_0 u286_2) ec335 fc337 90 #[rv a1, iv (2 : Int32), rv a2, iv (6 : Int32), rv b12_0, rv a19, iv (1 : Int32), .val (.long (own_jmin (9223372036854775807 : Int64) q302)), sc, .val (.long (own_jmax (-1 : Int64) q324)), sc, rv b281_0, rv a206] [] [] 0 rfl (hb hby d37_90) (by decide)
  obtain ⟨rfl, Nq336, ec336⟩ := hQ336
  have N336 := Fr.app N335 Nq336
  have nz338 := nl pr7.lt sz_b281_0
  have fc339 := (((fc273.other W276 (Or.inl nz86)).keep K281 nin0).keep K286 (ninS nz338 nin0))
  obtain ⟨T340, X340, e340, st340⟩ := gF X336 hx hZ hown (wd264 hw) Via.refl ec336 fc339 164 #[rv a1, iv (2 : Int32), rv a2, iv (6 : Int32), rv b12_0, rv a19, iv (1 : Int32), .val (.long (own_jmin (9223372036854775807 : Int64) q302)), sc, .val (.long (own_jmax (-1 : Int64) q324)), sc, rv b281_0, rv a206] [] (hb hby d37_164)
  have nz341 := nl V276.lt u281_0
  have fc342 := ((V276.keep K281 nin0).keep K286 (ninS nz341 nin0))
  obtain ⟨T344, h344, X344, e344, W344, VV344, st344⟩ := own_sJ X340 hx hZ e340 fc342 (6 : Int32) (by decide) 6 (own_jmin (9223372036854775807 : Int64) q302) [] 173 #[rv a1, iv (2 : Int32), rv a2, iv (7 : Int32), rv b12_0, rv a19, iv (1 : Int32), .val (.long (own_jmin (9223372036854775807 : Int64) q302)), sc, .val (.long (own_jmax (-1 : Int64) q324)), sc, rv b281_0, rv a206] (hb hby d37_173) rfl (Nat.le_of_ble_eq_true rfl)
  have V344 : Arv Z h344 b8 k8 .long (8 : Int32) [(.long (own_jmin (9223372036854775807 : Int64) q58)), (.long (own_jmax (-1 : Int64) q72)), (.long (own_jmin (9223372036854775807 : Int64) q127)), (.long (own_jmax (-1 : Int64) q145)), (.long (own_jmin (9223372036854775807 : Int64) q232)), (.long (own_jmax (-1 : Int64) q252)), (.long (own_jmin (9223372036854775807 : Int64) q302)), (.long (0 : Int64))] (.long (0 : Int64)) := VV344
  have KK344 : Keep h0 h344 [a1] := KK286.wr W344 (Or.inr sz_b8)
  have OL344 := OL286.wr W344 g_b8
  have N344 := Fr.snoc X344 N336 g_b8
  have fc345 := (fc339.other W344 (Or.inl nz86))
  obtain ⟨T346, X346, e346, st346⟩ := gF X344 hx hZ hown (wd264 hw) Via.refl e344 fc345 175 #[rv a1, iv (2 : Int32), rv a2, iv (7 : Int32), rv b12_0, rv a19, iv (1 : Int32), .val (.long (own_jmin (9223372036854775807 : Int64) q302)), sc, .val (.long (own_jmax (-1 : Int64) q324)), sc, rv b281_0, rv a206] [] (hb hby d37_175)
  obtain ⟨T348, h348, X348, e348, W348, VV348, st348⟩ := own_sJ X346 hx hZ e346 V344 (7 : Int32) (by decide) 7 (own_jmax (-1 : Int64) q324) [] 184 #[rv a1, iv (2 : Int32), rv a2, iv (8 : Int32), rv b12_0, rv a19, iv (1 : Int32), .val (.long (own_jmin (9223372036854775807 : Int64) q302)), sc, .val (.long (own_jmax (-1 : Int64) q324)), sc, rv b281_0, rv a206] (hb hby d37_184) rfl (Nat.le_of_ble_eq_true rfl)
  have V348 : Arv Z h348 b8 k8 .long (8 : Int32) [(.long (own_jmin (9223372036854775807 : Int64) q58)), (.long (own_jmax (-1 : Int64) q72)), (.long (own_jmin (9223372036854775807 : Int64) q127)), (.long (own_jmax (-1 : Int64) q145)), (.long (own_jmin (9223372036854775807 : Int64) q232)), (.long (own_jmax (-1 : Int64) q252)), (.long (own_jmin (9223372036854775807 : Int64) q302)), (.long (own_jmax (-1 : Int64) q324))] (.long (0 : Int64)) := VV348
  have KK348 : Keep h0 h348 [a1] := KK344.wr W348 (Or.inr sz_b8)
  have OL348 := OL344.wr W348 g_b8
  have N348 := Fr.snoc X348 N344 g_b8
  have nz350 := nl u180_3.lt u198_0
  have lz351 := (lq (lq (lq (lq u180_3.lt K198.1) K207.1) (Nat.le_of_eq W272.size.symm)) (Nat.le_of_eq W276.size.symm))
  have nz352 := nl lz351 u281_0
  have fc353 := ((((((((u180_2.keep K198 nin0).keep K207 (ninS nz350 nin0)).other W272 (Or.inl (Ne.symm nz88))).other W276 (Or.inl (Ne.symm nz88))).keep K281 nin0).keep K286 (ninS nz352 nin0)).other W344 (Or.inl (Ne.symm nz88))).other W348 (Or.inl (Ne.symm nz88)))
  have fc354 := ((((((((u180_0.keep K198 nin0).keep K207 (ninS nz350 nin0)).other W272 (Or.inl (Ne.symm nz88))).other W276 (Or.inl (Ne.symm nz88))).keep K281 nin0).keep K286 (ninS nz352 nin0)).other W344 (Or.inl (Ne.symm nz88))).other W348 (Or.inl (Ne.symm nz88)))
  have nz355 := nl pr9.lt sz_b198_0
  have nz356 := nl pr9.lt sz_b281_0
  have fc357 := (((((((((fc178.keep K180 (ninS nz174 nin0)).keep K198 nin0).keep K207 (ninS nz355 nin0)).other W272 (Or.inl nz176)).other W276 (Or.inl nz176)).keep K281 nin0).keep K286 (ninS nz356 nin0)).other W344 (Or.inl nz176)).other W348 (Or.inl nz176))
  have fc358 := (((((((((fc179.keep K180).keep K198).keep K207).wr W272).wr W276).keep K281).keep K286).wr W344).wr W348)
  obtain ⟨_, T349, L349, X349, hQ349, st349⟩ := own_cI X348 hx hZ hown hml (cw41 hw) (rm41_2 l Z a0 hw b12_0 a2 h348 n0 OL348 fc353 fc354 fc357) e348 fc358 37 #[rv a1, iv (2 : Int32), rv a2, iv (8 : Int32), rv b12_0, rv a19, iv (2 : Int32), .val (.long (own_jmin (9223372036854775807 : Int64) q302)), sc, .val (.long (own_jmax (-1 : Int64) q324)), sc, rv b281_0, rv a206] [] [] 0 rfl (hb hby d37_37) (by decide)
  obtain ⟨rfl, Nq349, ec349⟩ := hQ349
  have N349 := Fr.app N348 Nq349
  have fc359 := (((((((((((((((((((((Fw4.ext E8).other W11 (Or.inr (slot_ne (Or.inr (wd254 hw)) (Or.inr (wd265 hw)) (by decide) (t := .int) (t' := (.array .long)) (by decide) (by decide)))).keep K12 nin0).keep K21 (ninS nz82 nin0)).keep K33 nin0).keep K39 (ninS nz83 nin0)).other W93 (Or.inl nz86)).other W97 (Or.inl nz86)).keep K103 nin0).keep K109 (ninS nz157 nin0)).other W163 (Or.inl nz86)).other W167 (Or.inl nz86)).keep K180 (ninS nz82 nin0)).keep K198 nin0).keep K207 (ninS nz265 nin0)).other W272 (Or.inl nz86)).other W276 (Or.inl nz86)).keep K281 nin0).keep K286 (ninS nz338 nin0)).other W344 (Or.inl nz86)).other W348 (Or.inl nz86))
  have fc360 := (fc345.other W348 (Or.inl nz86))
  refine ⟨none, _, _, _, _, _, X349, ec349, by decide, fun _ => rfl, fun fs hr => ?_, ?_⟩
  · refine xaloadN X0 hx hby d37_0 rfl rfl ?_
    show SS p e below s₁ m 1 #[rv a1, iv (2 : Int32), rv a2, uu, uu, uu, uu, uu, uu, uu, uu, uu, uu] [(.ref a1)] _
    refine st3 _ ?_
    refine xaloadN X3 hx hby d37_4 rfl rfl ?_
    refine xiloadN X3 hx hby d37_5 rfl ?_
    refine st4 _ ?_
    refine xaloadN X4 hx hby d37_9 rfl rfl ?_
    refine xaloadN X4 hx hby d37_10 rfl rfl ?_
    refine st5 _ ?_
    refine xiloadN X5 hx hby d37_16 rfl ?_
    refine XS.imul X5.here hx rfl (hb hby d37_17) rfl ?_
    refine XS.iconst X5.here hx rfl (hb hby d37_18) ?_
    show SS p e below T5 m 19 #[rv a1, iv (2 : Int32), rv a2, uu, uu, uu, uu, uu, uu, uu, uu, uu, uu] [(.int (2 : Int32)), (.int (4 : Int32)), (.ref a1)] _
    refine XS.imul X5.here hx rfl (hb hby d37_19) rfl ?_
    refine st8 _ ?_
    refine st11 _ ?_
    refine XS.iconst X11.here hx rfl (hb hby d37_25) ?_
    refine XS.istoreN X11.here hx rfl (hb hby d37_26) rfl (l' := #[rv a1, iv (2 : Int32), rv a2, iv (0 : Int32), uu, uu, uu, uu, uu, uu, uu, uu, uu]) rfl ?_
    refine xaloadN X11 hx hby d37_27 rfl rfl ?_
    refine st12 _ ?_
    refine XS.astore X12.here hx rfl (hb hby d37_33) rfl rfl (l' := #[rv a1, iv (2 : Int32), rv a2, iv (0 : Int32), rv b12_0, uu, uu, uu, uu, uu, uu, uu, uu]) rfl ?_
    refine xaload X12 hx hby d37_35 rfl rfl ?_
    refine st15 _ ?_
    show SS p e below T15 m 42 #[rv a1, iv (2 : Int32), rv a2, iv (0 : Int32), rv b12_0, uu, uu, uu, uu, uu, uu, uu, uu] [(.int (1 : Int32))] _
    refine XS.ifNo X15.here hx rfl (hb hby d37_42) rfl ((if0 _ _).trans (feq (by decide : ¬ ((1 : Int32) = (0 : Int32)))).1) ?_
    refine xaload X15 hx hby d37_45 rfl rfl ?_
    refine st21 _ ?_
    refine st27 _ ?_
    refine XS.astore X27.here hx rfl (hb hby d37_55) rfl rfl (l' := #[rv a1, iv (2 : Int32), rv a2, iv (0 : Int32), rv b12_0, rv a18, uu, uu, uu, uu, uu, uu, uu]) rfl ?_
    refine XS.iconst X27.here hx rfl (hb hby d37_57) ?_
    refine XS.istore X27.here hx rfl (hb hby d37_58) rfl (l' := #[rv a1, iv (2 : Int32), rv a2, iv (0 : Int32), rv b12_0, rv a18, iv (0 : Int32), uu, uu, uu, uu, uu, uu]) rfl ?_
    refine xiload X27 hx hby d37_60 rfl ?_
    refine xiloadN X27 hx hby d37_62 rfl ?_
    refine XS.icmpNo X27.here hx rfl (hb hby d37_63) rfl (tlt (by decide : (0 : Int32) < (2 : Int32))).2.1 ?_
    show SS p e below T27 m 66 #[rv a1, iv (2 : Int32), rv a2, iv (0 : Int32), rv b12_0, rv a18, iv (0 : Int32), uu, uu, uu, uu, uu, uu] [] _
    refine X27.ldc2Long hx hown (mvT hZ (wd317 hw)) (g := (mkF m 66 #[rv a1, iv (2 : Int32), rv a2, iv (0 : Int32), rv b12_0, rv a18, iv (0 : Int32), uu, uu, uu, uu, uu, uu] [])) rfl (hb hby d37_66) _ ?_
    refine XS.lstore X27.here hx rfl (hb hby d37_69) rfl (l' := #[rv a1, iv (2 : Int32), rv a2, iv (0 : Int32), rv b12_0, rv a18, iv (0 : Int32), jv (9223372036854775807 : Int64), sc, uu, uu, uu, uu]) rfl ?_
    refine X27.ldc2Long hx hown (mvT hZ (wd318 hw)) (g := (mkF m 71 #[rv a1, iv (2 : Int32), rv a2, iv (0 : Int32), rv b12_0, rv a18, iv (0 : Int32), jv (9223372036854775807 : Int64), sc, uu, uu, uu, uu] [])) rfl (hb hby d37_71) _ ?_
    refine XS.lstore X27.here hx rfl (hb hby d37_74) rfl (l' := #[rv a1, iv (2 : Int32), rv a2, iv (0 : Int32), rv b12_0, rv a18, iv (0 : Int32), jv (9223372036854775807 : Int64), sc, jv (-1 : Int64), sc, uu, uu]) rfl ?_
    refine xaload X27 hx hby d37_76 rfl rfl ?_
    refine st29 _ ?_
    refine st33 _ ?_
    refine XS.astore X33.here hx rfl (hb hby d37_86) rfl rfl (l' := #[rv a1, iv (2 : Int32), rv a2, iv (0 : Int32), rv b12_0, rv a18, iv (0 : Int32), jv (9223372036854775807 : Int64), sc, jv (-1 : Int64), sc, rv b33_0, uu]) rfl ?_
    refine xaload X33 hx hby d37_88 rfl rfl ?_
    refine st37 _ ?_
    show SS p e below T37 m 95 #[rv a1, iv (2 : Int32), rv a2, iv (0 : Int32), rv b12_0, rv a18, iv (0 : Int32), jv (9223372036854775807 : Int64), sc, jv (-1 : Int64), sc, rv b33_0, uu] [(.int (1 : Int32))] _
    refine XS.ifNo X37.here hx rfl (hb hby d37_95) rfl ((if0 _ _).trans (feq (by decide : ¬ ((1 : Int32) = (0 : Int32)))).1) ?_
    refine xaload X37 hx hby d37_98 rfl rfl ?_
    refine st39 _ ?_
    refine st43 _ ?_
    refine XS.astore X43.here hx rfl (hb hby d37_108) rfl rfl (l' := #[rv a1, iv (2 : Int32), rv a2, iv (0 : Int32), rv b12_0, rv a18, iv (0 : Int32), jv (9223372036854775807 : Int64), sc, jv (-1 : Int64), sc, rv b33_0, rv a38]) rfl ?_
    refine xlload X43 hx hby d37_110 rfl ?_
    refine xaload X43 hx hby d37_112 rfl rfl ?_
    refine st45 _ ?_
    refine xiload X45 hx hby d37_117 rfl ?_
    refine st50 _ ?_
    show SS p e below T50 m 124 #[rv a1, iv (2 : Int32), rv a2, iv (0 : Int32), rv b12_0, rv a18, iv (0 : Int32), jv (9223372036854775807 : Int64), sc, jv (-1 : Int64), sc, rv b33_0, rv a38] [(.ref a49), (.long (9223372036854775807 : Int64))] _
    refine st56 _ ?_
    refine st60 _ ?_
    refine st67 _ ?_
    refine XS.lstore X67.here hx rfl (hb hby d37_133) rfl (l' := #[rv a1, iv (2 : Int32), rv a2, iv (0 : Int32), rv b12_0, rv a18, iv (0 : Int32), .val (.long (own_jmin (9223372036854775807 : Int64) q58)), sc, jv (-1 : Int64), sc, rv b33_0, rv a38]) rfl ?_
    refine xlload X67 hx hby d37_135 rfl ?_
    refine xaload X67 hx hby d37_137 rfl rfl ?_
    refine st68 _ ?_
    refine xiload X68 hx hby d37_142 rfl ?_
    refine st69 _ ?_
    refine st70 _ ?_
    show SS p e below T70 m 152 #[rv a1, iv (2 : Int32), rv a2, iv (0 : Int32), rv b12_0, rv a18, iv (0 : Int32), .val (.long (own_jmin (9223372036854775807 : Int64) q58)), sc, jv (-1 : Int64), sc, rv b33_0, rv a38] [(.ref a49), (.long (-1 : Int64))] _
    refine st74 _ ?_
    refine st79 _ ?_
    refine XS.lstore X79.here hx rfl (hb hby d37_158) rfl (l' := #[rv a1, iv (2 : Int32), rv a2, iv (0 : Int32), rv b12_0, rv a18, iv (0 : Int32), .val (.long (own_jmin (9223372036854775807 : Int64) q58)), sc, .val (.long (own_jmax (-1 : Int64) q72)), sc, rv b33_0, rv a38]) rfl ?_
    refine XS.goto X79.here hx rfl (pc0 := 160) (pc' := 88) rfl (hb hby d37_160) (by decide) (by decide) ?_
    refine xaload X79 hx hby d37_88 rfl rfl ?_
    refine st80 _ ?_
    refine XS.ifYes X80.here hx rfl (pc0 := 95) (pc' := 163) rfl (hb hby d37_95) rfl ((if0 _ _).trans (teq (rfl : (0 : Int32) = (0 : Int32))).1) (by decide) (by decide) ?_
    refine xaloadN X80 hx hby d37_163 rfl rfl ?_
    refine st85 _ ?_
    refine xiloadN X85 hx hby d37_167 rfl ?_
    show SS p e below T85 m 168 #[rv a1, iv (2 : Int32), rv a2, iv (0 : Int32), rv b12_0, rv a18, iv (0 : Int32), .val (.long (own_jmin (9223372036854775807 : Int64) q58)), sc, .val (.long (own_jmax (-1 : Int64) q72)), sc, rv b33_0, rv a38] [(.int (0 : Int32)), (.ref b8)] _
    refine XS.iinc X85.here hx rfl (hb hby d37_168) rfl (l' := #[rv a1, iv (2 : Int32), rv a2, .val (.int ((0 : Int32) + (1 : Int32))), rv b12_0, rv a18, iv (0 : Int32), .val (.long (own_jmin (9223372036854775807 : Int64) q58)), sc, .val (.long (own_jmax (-1 : Int64) q72)), sc, rv b33_0, rv a38]) rfl ?_
    refine xlload X85 hx hby d37_171 rfl ?_
    refine st93 _ ?_
    refine xaloadN X93 hx hby d37_174 rfl rfl ?_
    refine st95 _ ?_
    refine xiloadN X95 hx hby d37_178 rfl ?_
    refine XS.iinc X95.here hx rfl (hb hby d37_179) rfl (l' := #[rv a1, iv (2 : Int32), rv a2, .val (.int ((1 : Int32) + (1 : Int32))), rv b12_0, rv a18, iv (0 : Int32), .val (.long (own_jmin (9223372036854775807 : Int64) q58)), sc, .val (.long (own_jmax (-1 : Int64) q72)), sc, rv b33_0, rv a38]) rfl ?_
    refine xlload X95 hx hby d37_182 rfl ?_
    refine st97 _ ?_
    refine XS.iinc X97.here hx rfl (hb hby d37_185) rfl (l' := #[rv a1, iv (2 : Int32), rv a2, iv (2 : Int32), rv b12_0, rv a18, .val (.int ((0 : Int32) + (1 : Int32))), .val (.long (own_jmin (9223372036854775807 : Int64) q58)), sc, .val (.long (own_jmax (-1 : Int64) q72)), sc, rv b33_0, rv a38]) rfl ?_
    show SS p e below T97 m 188 #[rv a1, iv (2 : Int32), rv a2, iv (2 : Int32), rv b12_0, rv a18, iv (1 : Int32), .val (.long (own_jmin (9223372036854775807 : Int64) q58)), sc, .val (.long (own_jmax (-1 : Int64) q72)), sc, rv b33_0, rv a38] [] _
    refine XS.goto X97.here hx rfl (pc0 := 188) (pc' := 60) rfl (hb hby d37_188) (by decide) (by decide) ?_
    refine xiload X97 hx hby d37_60 rfl ?_
    refine xiloadN X97 hx hby d37_62 rfl ?_
    refine XS.icmpNo X97.here hx rfl (hb hby d37_63) rfl (tlt (by decide : (1 : Int32) < (2 : Int32))).2.1 ?_
    refine X97.ldc2Long hx hown (mvT hZ (wd317 hw)) (g := (mkF m 66 #[rv a1, iv (2 : Int32), rv a2, iv (2 : Int32), rv b12_0, rv a18, iv (1 : Int32), .val (.long (own_jmin (9223372036854775807 : Int64) q58)), sc, .val (.long (own_jmax (-1 : Int64) q72)), sc, rv b33_0, rv a38] [])) rfl (hb hby d37_66) _ ?_
    refine XS.lstore X97.here hx rfl (hb hby d37_69) rfl (l' := #[rv a1, iv (2 : Int32), rv a2, iv (2 : Int32), rv b12_0, rv a18, iv (1 : Int32), jv (9223372036854775807 : Int64), sc, .val (.long (own_jmax (-1 : Int64) q72)), sc, rv b33_0, rv a38]) rfl ?_
    refine X97.ldc2Long hx hown (mvT hZ (wd318 hw)) (g := (mkF m 71 #[rv a1, iv (2 : Int32), rv a2, iv (2 : Int32), rv b12_0, rv a18, iv (1 : Int32), jv (9223372036854775807 : Int64), sc, .val (.long (own_jmax (-1 : Int64) q72)), sc, rv b33_0, rv a38] [])) rfl (hb hby d37_71) _ ?_
    refine XS.lstore X97.here hx rfl (hb hby d37_74) rfl (l' := #[rv a1, iv (2 : Int32), rv a2, iv (2 : Int32), rv b12_0, rv a18, iv (1 : Int32), jv (9223372036854775807 : Int64), sc, jv (-1 : Int64), sc, rv b33_0, rv a38]) rfl ?_
    refine xaload X97 hx hby d37_76 rfl rfl ?_
    refine st98 _ ?_
    show SS p e below T98 m 81 #[rv a1, iv (2 : Int32), rv a2, iv (2 : Int32), rv b12_0, rv a18, iv (1 : Int32), jv (9223372036854775807 : Int64), sc, jv (-1 : Int64), sc, rv b33_0, rv a38] [(.ref a28)] _
    refine st103 _ ?_
    refine XS.astore X103.here hx rfl (hb hby d37_86) rfl rfl (l' := #[rv a1, iv (2 : Int32), rv a2, iv (2 : Int32), rv b12_0, rv a18, iv (1 : Int32), jv (9223372036854775807 : Int64), sc, jv (-1 : Int64), sc, rv b103_0, rv a38]) rfl ?_
    refine xaload X103 hx hby d37_88 rfl rfl ?_
    refine st108 _ ?_
    refine XS.ifNo X108.here hx rfl (hb hby d37_95) rfl ((if0 _ _).trans (feq (by decide : ¬ ((1 : Int32) = (0 : Int32)))).1) ?_
    refine xaload X108 hx hby d37_98 rfl rfl ?_
    refine st109 _ ?_
    refine st113 _ ?_
    refine XS.astore X113.here hx rfl (hb hby d37_108) rfl rfl (l' := #[rv a1, iv (2 : Int32), rv a2, iv (2 : Int32), rv b12_0, rv a18, iv (1 : Int32), jv (9223372036854775807 : Int64), sc, jv (-1 : Int64), sc, rv b103_0, rv a38]) rfl ?_
    refine xlload X113 hx hby d37_110 rfl ?_
    show SS p e below T113 m 112 #[rv a1, iv (2 : Int32), rv a2, iv (2 : Int32), rv b12_0, rv a18, iv (1 : Int32), jv (9223372036854775807 : Int64), sc, jv (-1 : Int64), sc, rv b103_0, rv a38] [(.long (9223372036854775807 : Int64))] _
    refine xaload X113 hx hby d37_112 rfl rfl ?_
    refine st114 _ ?_
    refine xiload X114 hx hby d37_117 rfl ?_
    refine st119 _ ?_
    refine st125 _ ?_
    refine st129 _ ?_
    refine st140 _ ?_
    refine XS.lstore X140.here hx rfl (hb hby d37_133) rfl (l' := #[rv a1, iv (2 : Int32), rv a2, iv (2 : Int32), rv b12_0, rv a18, iv (1 : Int32), .val (.long (own_jmin (9223372036854775807 : Int64) q127)), sc, jv (-1 : Int64), sc, rv b103_0, rv a38]) rfl ?_
    refine xlload X140 hx hby d37_135 rfl ?_
    refine xaload X140 hx hby d37_137 rfl rfl ?_
    show SS p e below T140 m 139 #[rv a1, iv (2 : Int32), rv a2, iv (2 : Int32), rv b12_0, rv a18, iv (1 : Int32), .val (.long (own_jmin (9223372036854775807 : Int64) q127)), sc, jv (-1 : Int64), sc, rv b103_0, rv a38] [(.ref a38), (.long (-1 : Int64))] _
    refine st141 _ ?_
    refine xiload X141 hx hby d37_142 rfl ?_
    refine st142 _ ?_
    refine st143 _ ?_
    refine st147 _ ?_
    refine st154 _ ?_
    refine XS.lstore X154.here hx rfl (hb hby d37_158) rfl (l' := #[rv a1, iv (2 : Int32), rv a2, iv (2 : Int32), rv b12_0, rv a18, iv (1 : Int32), .val (.long (own_jmin (9223372036854775807 : Int64) q127)), sc, .val (.long (own_jmax (-1 : Int64) q145)), sc, rv b103_0, rv a38]) rfl ?_
    refine XS.goto X154.here hx rfl (pc0 := 160) (pc' := 88) rfl (hb hby d37_160) (by decide) (by decide) ?_
    refine xaload X154 hx hby d37_88 rfl rfl ?_
    refine st155 _ ?_
    show SS p e below T155 m 95 #[rv a1, iv (2 : Int32), rv a2, iv (2 : Int32), rv b12_0, rv a18, iv (1 : Int32), .val (.long (own_jmin (9223372036854775807 : Int64) q127)), sc, .val (.long (own_jmax (-1 : Int64) q145)), sc, rv b103_0, rv a38] [(.int (0 : Int32))] _
    refine XS.ifYes X155.here hx rfl (pc0 := 95) (pc' := 163) rfl (hb hby d37_95) rfl ((if0 _ _).trans (teq (rfl : (0 : Int32) = (0 : Int32))).1) (by decide) (by decide) ?_
    refine xaloadN X155 hx hby d37_163 rfl rfl ?_
    refine st159 _ ?_
    refine xiloadN X159 hx hby d37_167 rfl ?_
    refine XS.iinc X159.here hx rfl (hb hby d37_168) rfl (l' := #[rv a1, iv (2 : Int32), rv a2, .val (.int ((2 : Int32) + (1 : Int32))), rv b12_0, rv a18, iv (1 : Int32), .val (.long (own_jmin (9223372036854775807 : Int64) q127)), sc, .val (.long (own_jmax (-1 : Int64) q145)), sc, rv b103_0, rv a38]) rfl ?_
    refine xlload X159 hx hby d37_171 rfl ?_
    refine st163 _ ?_
    refine xaloadN X163 hx hby d37_174 rfl rfl ?_
    refine st165 _ ?_
    refine xiloadN X165 hx hby d37_178 rfl ?_
    show SS p e below T165 m 179 #[rv a1, iv (2 : Int32), rv a2, iv (3 : Int32), rv b12_0, rv a18, iv (1 : Int32), .val (.long (own_jmin (9223372036854775807 : Int64) q127)), sc, .val (.long (own_jmax (-1 : Int64) q145)), sc, rv b103_0, rv a38] [(.int (3 : Int32)), (.ref b8)] _
    refine XS.iinc X165.here hx rfl (hb hby d37_179) rfl (l' := #[rv a1, iv (2 : Int32), rv a2, .val (.int ((3 : Int32) + (1 : Int32))), rv b12_0, rv a18, iv (1 : Int32), .val (.long (own_jmin (9223372036854775807 : Int64) q127)), sc, .val (.long (own_jmax (-1 : Int64) q145)), sc, rv b103_0, rv a38]) rfl ?_
    refine xlload X165 hx hby d37_182 rfl ?_
    refine st167 _ ?_
    refine XS.iinc X167.here hx rfl (hb hby d37_185) rfl (l' := #[rv a1, iv (2 : Int32), rv a2, iv (4 : Int32), rv b12_0, rv a18, .val (.int ((1 : Int32) + (1 : Int32))), .val (.long (own_jmin (9223372036854775807 : Int64) q127)), sc, .val (.long (own_jmax (-1 : Int64) q145)), sc, rv b103_0, rv a38]) rfl ?_
    refine XS.goto X167.here hx rfl (pc0 := 188) (pc' := 60) rfl (hb hby d37_188) (by decide) (by decide) ?_
    refine xiload X167 hx hby d37_60 rfl ?_
    refine xiloadN X167 hx hby d37_62 rfl ?_
    refine XS.icmpYes X167.here hx rfl (pc0 := 63) (pc' := 191) rfl (hb hby d37_63) rfl (flt (by decide : ¬ ((2 : Int32) < (2 : Int32)))).2.1 (by decide) (by decide) ?_
    refine XS.goto X167.here hx rfl (pc0 := 191) (pc' := 35) rfl (hb hby d37_191) (by decide) (by decide) ?_
    refine xaload X167 hx hby d37_35 rfl rfl ?_
    show SS p e below T167 m 37 #[rv a1, iv (2 : Int32), rv a2, iv (4 : Int32), rv b12_0, rv a18, iv (2 : Int32), .val (.long (own_jmin (9223372036854775807 : Int64) q127)), sc, .val (.long (own_jmax (-1 : Int64) q145)), sc, rv b103_0, rv a38] [(.ref b12_0)] _
    refine st168 _ ?_
    refine XS.ifNo X168.here hx rfl (hb hby d37_42) rfl ((if0 _ _).trans (feq (by decide : ¬ ((1 : Int32) = (0 : Int32)))).1) ?_
    refine xaload X168 hx hby d37_45 rfl rfl ?_
    refine st180 _ ?_
    refine st190 _ ?_
    refine XS.astore X190.here hx rfl (hb hby d37_55) rfl rfl (l' := #[rv a1, iv (2 : Int32), rv a2, iv (4 : Int32), rv b12_0, rv a19, iv (2 : Int32), .val (.long (own_jmin (9223372036854775807 : Int64) q127)), sc, .val (.long (own_jmax (-1 : Int64) q145)), sc, rv b103_0, rv a38]) rfl ?_
    refine XS.iconst X190.here hx rfl (hb hby d37_57) ?_
    refine XS.istore X190.here hx rfl (hb hby d37_58) rfl (l' := #[rv a1, iv (2 : Int32), rv a2, iv (4 : Int32), rv b12_0, rv a19, iv (0 : Int32), .val (.long (own_jmin (9223372036854775807 : Int64) q127)), sc, .val (.long (own_jmax (-1 : Int64) q145)), sc, rv b103_0, rv a38]) rfl ?_
    refine xiload X190 hx hby d37_60 rfl ?_
    refine xiloadN X190 hx hby d37_62 rfl ?_
    show SS p e below T190 m 63 #[rv a1, iv (2 : Int32), rv a2, iv (4 : Int32), rv b12_0, rv a19, iv (0 : Int32), .val (.long (own_jmin (9223372036854775807 : Int64) q127)), sc, .val (.long (own_jmax (-1 : Int64) q145)), sc, rv b103_0, rv a38] [(.int (2 : Int32)), (.int (0 : Int32))] _
    refine XS.icmpNo X190.here hx rfl (hb hby d37_63) rfl (tlt (by decide : (0 : Int32) < (2 : Int32))).2.1 ?_
    refine X190.ldc2Long hx hown (mvT hZ (wd317 hw)) (g := (mkF m 66 #[rv a1, iv (2 : Int32), rv a2, iv (4 : Int32), rv b12_0, rv a19, iv (0 : Int32), .val (.long (own_jmin (9223372036854775807 : Int64) q127)), sc, .val (.long (own_jmax (-1 : Int64) q145)), sc, rv b103_0, rv a38] [])) rfl (hb hby d37_66) _ ?_
    refine XS.lstore X190.here hx rfl (hb hby d37_69) rfl (l' := #[rv a1, iv (2 : Int32), rv a2, iv (4 : Int32), rv b12_0, rv a19, iv (0 : Int32), jv (9223372036854775807 : Int64), sc, .val (.long (own_jmax (-1 : Int64) q145)), sc, rv b103_0, rv a38]) rfl ?_
    refine X190.ldc2Long hx hown (mvT hZ (wd318 hw)) (g := (mkF m 71 #[rv a1, iv (2 : Int32), rv a2, iv (4 : Int32), rv b12_0, rv a19, iv (0 : Int32), jv (9223372036854775807 : Int64), sc, .val (.long (own_jmax (-1 : Int64) q145)), sc, rv b103_0, rv a38] [])) rfl (hb hby d37_71) _ ?_
    refine XS.lstore X190.here hx rfl (hb hby d37_74) rfl (l' := #[rv a1, iv (2 : Int32), rv a2, iv (4 : Int32), rv b12_0, rv a19, iv (0 : Int32), jv (9223372036854775807 : Int64), sc, jv (-1 : Int64), sc, rv b103_0, rv a38]) rfl ?_
    refine xaload X190 hx hby d37_76 rfl rfl ?_
    refine st192 _ ?_
    refine st198 _ ?_
    refine XS.astore X198.here hx rfl (hb hby d37_86) rfl rfl (l' := #[rv a1, iv (2 : Int32), rv a2, iv (4 : Int32), rv b12_0, rv a19, iv (0 : Int32), jv (9223372036854775807 : Int64), sc, jv (-1 : Int64), sc, rv b198_0, rv a38]) rfl ?_
    refine xaload X198 hx hby d37_88 rfl rfl ?_
    show SS p e below T198 m 90 #[rv a1, iv (2 : Int32), rv a2, iv (4 : Int32), rv b12_0, rv a19, iv (0 : Int32), jv (9223372036854775807 : Int64), sc, jv (-1 : Int64), sc, rv b198_0, rv a38] [(.ref b198_0)] _
    refine st205 _ ?_
    refine XS.ifNo X205.here hx rfl (hb hby d37_95) rfl ((if0 _ _).trans (feq (by decide : ¬ ((1 : Int32) = (0 : Int32)))).1) ?_
    refine xaload X205 hx hby d37_98 rfl rfl ?_
    refine st207 _ ?_
    refine st211 _ ?_
    refine XS.astore X211.here hx rfl (hb hby d37_108) rfl rfl (l' := #[rv a1, iv (2 : Int32), rv a2, iv (4 : Int32), rv b12_0, rv a19, iv (0 : Int32), jv (9223372036854775807 : Int64), sc, jv (-1 : Int64), sc, rv b198_0, rv a206]) rfl ?_
    refine xlload X211 hx hby d37_110 rfl ?_
    refine xaload X211 hx hby d37_112 rfl rfl ?_
    refine st213 _ ?_
    refine xiload X213 hx hby d37_117 rfl ?_
    show SS p e below T213 m 119 #[rv a1, iv (2 : Int32), rv a2, iv (4 : Int32), rv b12_0, rv a19, iv (0 : Int32), jv (9223372036854775807 : Int64), sc, jv (-1 : Int64), sc, rv b198_0, rv a206] [(.int (0 : Int32)), (.ref a212), (.long (9223372036854775807 : Int64))] _
    refine st221 _ ?_
    refine st230 _ ?_
    refine st234 _ ?_
    refine st247 _ ?_
    refine XS.lstore X247.here hx rfl (hb hby d37_133) rfl (l' := #[rv a1, iv (2 : Int32), rv a2, iv (4 : Int32), rv b12_0, rv a19, iv (0 : Int32), .val (.long (own_jmin (9223372036854775807 : Int64) q232)), sc, jv (-1 : Int64), sc, rv b198_0, rv a206]) rfl ?_
    refine xlload X247 hx hby d37_135 rfl ?_
    refine xaload X247 hx hby d37_137 rfl rfl ?_
    refine st248 _ ?_
    refine xiload X248 hx hby d37_142 rfl ?_
    refine st249 _ ?_
    show SS p e below T249 m 149 #[rv a1, iv (2 : Int32), rv a2, iv (4 : Int32), rv b12_0, rv a19, iv (0 : Int32), .val (.long (own_jmin (9223372036854775807 : Int64) q232)), sc, jv (-1 : Int64), sc, rv b198_0, rv a206] [(.ref a220), (.long (-1 : Int64))] _
    refine st250 _ ?_
    refine st254 _ ?_
    refine st262 _ ?_
    refine XS.lstore X262.here hx rfl (hb hby d37_158) rfl (l' := #[rv a1, iv (2 : Int32), rv a2, iv (4 : Int32), rv b12_0, rv a19, iv (0 : Int32), .val (.long (own_jmin (9223372036854775807 : Int64) q232)), sc, .val (.long (own_jmax (-1 : Int64) q252)), sc, rv b198_0, rv a206]) rfl ?_
    refine XS.goto X262.here hx rfl (pc0 := 160) (pc' := 88) rfl (hb hby d37_160) (by decide) (by decide) ?_
    refine xaload X262 hx hby d37_88 rfl rfl ?_
    refine st263 _ ?_
    refine XS.ifYes X263.here hx rfl (pc0 := 95) (pc' := 163) rfl (hb hby d37_95) rfl ((if0 _ _).trans (teq (rfl : (0 : Int32) = (0 : Int32))).1) (by decide) (by decide) ?_
    refine xaloadN X263 hx hby d37_163 rfl rfl ?_
    refine st267 _ ?_
    show SS p e below T267 m 167 #[rv a1, iv (2 : Int32), rv a2, iv (4 : Int32), rv b12_0, rv a19, iv (0 : Int32), .val (.long (own_jmin (9223372036854775807 : Int64) q232)), sc, .val (.long (own_jmax (-1 : Int64) q252)), sc, rv b198_0, rv a206] [(.ref b8)] _
    refine xiloadN X267 hx hby d37_167 rfl ?_
    refine XS.iinc X267.here hx rfl (hb hby d37_168) rfl (l' := #[rv a1, iv (2 : Int32), rv a2, .val (.int ((4 : Int32) + (1 : Int32))), rv b12_0, rv a19, iv (0 : Int32), .val (.long (own_jmin (9223372036854775807 : Int64) q232)), sc, .val (.long (own_jmax (-1 : Int64) q252)), sc, rv b198_0, rv a206]) rfl ?_
    refine xlload X267 hx hby d37_171 rfl ?_
    refine st272 _ ?_
    refine xaloadN X272 hx hby d37_174 rfl rfl ?_
    refine st274 _ ?_
    refine xiloadN X274 hx hby d37_178 rfl ?_
    refine XS.iinc X274.here hx rfl (hb hby d37_179) rfl (l' := #[rv a1, iv (2 : Int32), rv a2, .val (.int ((5 : Int32) + (1 : Int32))), rv b12_0, rv a19, iv (0 : Int32), .val (.long (own_jmin (9223372036854775807 : Int64) q232)), sc, .val (.long (own_jmax (-1 : Int64) q252)), sc, rv b198_0, rv a206]) rfl ?_
    refine xlload X274 hx hby d37_182 rfl ?_
    refine st276 _ ?_
    show SS p e below T276 m 185 #[rv a1, iv (2 : Int32), rv a2, iv (6 : Int32), rv b12_0, rv a19, iv (0 : Int32), .val (.long (own_jmin (9223372036854775807 : Int64) q232)), sc, .val (.long (own_jmax (-1 : Int64) q252)), sc, rv b198_0, rv a206] [] _
    refine XS.iinc X276.here hx rfl (hb hby d37_185) rfl (l' := #[rv a1, iv (2 : Int32), rv a2, iv (6 : Int32), rv b12_0, rv a19, .val (.int ((0 : Int32) + (1 : Int32))), .val (.long (own_jmin (9223372036854775807 : Int64) q232)), sc, .val (.long (own_jmax (-1 : Int64) q252)), sc, rv b198_0, rv a206]) rfl ?_
    refine XS.goto X276.here hx rfl (pc0 := 188) (pc' := 60) rfl (hb hby d37_188) (by decide) (by decide) ?_
    refine xiload X276 hx hby d37_60 rfl ?_
    refine xiloadN X276 hx hby d37_62 rfl ?_
    refine XS.icmpNo X276.here hx rfl (hb hby d37_63) rfl (tlt (by decide : (1 : Int32) < (2 : Int32))).2.1 ?_
    refine X276.ldc2Long hx hown (mvT hZ (wd317 hw)) (g := (mkF m 66 #[rv a1, iv (2 : Int32), rv a2, iv (6 : Int32), rv b12_0, rv a19, iv (1 : Int32), .val (.long (own_jmin (9223372036854775807 : Int64) q232)), sc, .val (.long (own_jmax (-1 : Int64) q252)), sc, rv b198_0, rv a206] [])) rfl (hb hby d37_66) _ ?_
    refine XS.lstore X276.here hx rfl (hb hby d37_69) rfl (l' := #[rv a1, iv (2 : Int32), rv a2, iv (6 : Int32), rv b12_0, rv a19, iv (1 : Int32), jv (9223372036854775807 : Int64), sc, .val (.long (own_jmax (-1 : Int64) q252)), sc, rv b198_0, rv a206]) rfl ?_
    refine X276.ldc2Long hx hown (mvT hZ (wd318 hw)) (g := (mkF m 71 #[rv a1, iv (2 : Int32), rv a2, iv (6 : Int32), rv b12_0, rv a19, iv (1 : Int32), jv (9223372036854775807 : Int64), sc, .val (.long (own_jmax (-1 : Int64) q252)), sc, rv b198_0, rv a206] [])) rfl (hb hby d37_71) _ ?_
    refine XS.lstore X276.here hx rfl (hb hby d37_74) rfl (l' := #[rv a1, iv (2 : Int32), rv a2, iv (6 : Int32), rv b12_0, rv a19, iv (1 : Int32), jv (9223372036854775807 : Int64), sc, jv (-1 : Int64), sc, rv b198_0, rv a206]) rfl ?_
    refine xaload X276 hx hby d37_76 rfl rfl ?_
    show SS p e below T276 m 78 #[rv a1, iv (2 : Int32), rv a2, iv (6 : Int32), rv b12_0, rv a19, iv (1 : Int32), jv (9223372036854775807 : Int64), sc, jv (-1 : Int64), sc, rv b198_0, rv a206] [(.ref a19)] _
    refine st277 _ ?_
    refine st281 _ ?_
    refine XS.astore X281.here hx rfl (hb hby d37_86) rfl rfl (l' := #[rv a1, iv (2 : Int32), rv a2, iv (6 : Int32), rv b12_0, rv a19, iv (1 : Int32), jv (9223372036854775807 : Int64), sc, jv (-1 : Int64), sc, rv b281_0, rv a206]) rfl ?_
    refine xaload X281 hx hby d37_88 rfl rfl ?_
    refine st285 _ ?_
    refine XS.ifNo X285.here hx rfl (hb hby d37_95) rfl ((if0 _ _).trans (feq (by decide : ¬ ((1 : Int32) = (0 : Int32)))).1) ?_
    refine xaload X285 hx hby d37_98 rfl rfl ?_
    refine st286 _ ?_
    refine st290 _ ?_
    refine XS.astore X290.here hx rfl (hb hby d37_108) rfl rfl (l' := #[rv a1, iv (2 : Int32), rv a2, iv (6 : Int32), rv b12_0, rv a19, iv (1 : Int32), jv (9223372036854775807 : Int64), sc, jv (-1 : Int64), sc, rv b281_0, rv a206]) rfl ?_
    show SS p e below T290 m 110 #[rv a1, iv (2 : Int32), rv a2, iv (6 : Int32), rv b12_0, rv a19, iv (1 : Int32), jv (9223372036854775807 : Int64), sc, jv (-1 : Int64), sc, rv b281_0, rv a206] [] _
    refine xlload X290 hx hby d37_110 rfl ?_
    refine xaload X290 hx hby d37_112 rfl rfl ?_
    refine st291 _ ?_
    refine xiload X291 hx hby d37_117 rfl ?_
    refine st295 _ ?_
    refine st300 _ ?_
    refine st304 _ ?_
    refine st319 _ ?_
    refine XS.lstore X319.here hx rfl (hb hby d37_133) rfl (l' := #[rv a1, iv (2 : Int32), rv a2, iv (6 : Int32), rv b12_0, rv a19, iv (1 : Int32), .val (.long (own_jmin (9223372036854775807 : Int64) q302)), sc, jv (-1 : Int64), sc, rv b281_0, rv a206]) rfl ?_
    refine xlload X319 hx hby d37_135 rfl ?_
    show SS p e below T319 m 137 #[rv a1, iv (2 : Int32), rv a2, iv (6 : Int32), rv b12_0, rv a19, iv (1 : Int32), .val (.long (own_jmin (9223372036854775807 : Int64) q302)), sc, jv (-1 : Int64), sc, rv b281_0, rv a206] [(.long (-1 : Int64))] _
    refine xaload X319 hx hby d37_137 rfl rfl ?_
    refine st320 _ ?_
    refine xiload X320 hx hby d37_142 rfl ?_
    refine st321 _ ?_
    refine st322 _ ?_
    refine st326 _ ?_
    refine st335 _ ?_
    refine XS.lstore X335.here hx rfl (hb hby d37_158) rfl (l' := #[rv a1, iv (2 : Int32), rv a2, iv (6 : Int32), rv b12_0, rv a19, iv (1 : Int32), .val (.long (own_jmin (9223372036854775807 : Int64) q302)), sc, .val (.long (own_jmax (-1 : Int64) q324)), sc, rv b281_0, rv a206]) rfl ?_
    refine XS.goto X335.here hx rfl (pc0 := 160) (pc' := 88) rfl (hb hby d37_160) (by decide) (by decide) ?_
    refine xaload X335 hx hby d37_88 rfl rfl ?_
    show SS p e below T335 m 90 #[rv a1, iv (2 : Int32), rv a2, iv (6 : Int32), rv b12_0, rv a19, iv (1 : Int32), .val (.long (own_jmin (9223372036854775807 : Int64) q302)), sc, .val (.long (own_jmax (-1 : Int64) q324)), sc, rv b281_0, rv a206] [(.ref b281_0)] _
    refine st336 _ ?_
    refine XS.ifYes X336.here hx rfl (pc0 := 95) (pc' := 163) rfl (hb hby d37_95) rfl ((if0 _ _).trans (teq (rfl : (0 : Int32) = (0 : Int32))).1) (by decide) (by decide) ?_
    refine xaloadN X336 hx hby d37_163 rfl rfl ?_
    refine st340 _ ?_
    refine xiloadN X340 hx hby d37_167 rfl ?_
    refine XS.iinc X340.here hx rfl (hb hby d37_168) rfl (l' := #[rv a1, iv (2 : Int32), rv a2, .val (.int ((6 : Int32) + (1 : Int32))), rv b12_0, rv a19, iv (1 : Int32), .val (.long (own_jmin (9223372036854775807 : Int64) q302)), sc, .val (.long (own_jmax (-1 : Int64) q324)), sc, rv b281_0, rv a206]) rfl ?_
    refine xlload X340 hx hby d37_171 rfl ?_
    refine st344 _ ?_
    refine xaloadN X344 hx hby d37_174 rfl rfl ?_
    refine st346 _ ?_
    show SS p e below T346 m 178 #[rv a1, iv (2 : Int32), rv a2, iv (7 : Int32), rv b12_0, rv a19, iv (1 : Int32), .val (.long (own_jmin (9223372036854775807 : Int64) q302)), sc, .val (.long (own_jmax (-1 : Int64) q324)), sc, rv b281_0, rv a206] [(.ref b8)] _
    refine xiloadN X346 hx hby d37_178 rfl ?_
    refine XS.iinc X346.here hx rfl (hb hby d37_179) rfl (l' := #[rv a1, iv (2 : Int32), rv a2, .val (.int ((7 : Int32) + (1 : Int32))), rv b12_0, rv a19, iv (1 : Int32), .val (.long (own_jmin (9223372036854775807 : Int64) q302)), sc, .val (.long (own_jmax (-1 : Int64) q324)), sc, rv b281_0, rv a206]) rfl ?_
    refine xlload X346 hx hby d37_182 rfl ?_
    refine st348 _ ?_
    refine XS.iinc X348.here hx rfl (hb hby d37_185) rfl (l' := #[rv a1, iv (2 : Int32), rv a2, iv (8 : Int32), rv b12_0, rv a19, .val (.int ((1 : Int32) + (1 : Int32))), .val (.long (own_jmin (9223372036854775807 : Int64) q302)), sc, .val (.long (own_jmax (-1 : Int64) q324)), sc, rv b281_0, rv a206]) rfl ?_
    refine XS.goto X348.here hx rfl (pc0 := 188) (pc' := 60) rfl (hb hby d37_188) (by decide) (by decide) ?_
    refine xiload X348 hx hby d37_60 rfl ?_
    refine xiloadN X348 hx hby d37_62 rfl ?_
    refine XS.icmpYes X348.here hx rfl (pc0 := 63) (pc' := 191) rfl (hb hby d37_63) rfl (flt (by decide : ¬ ((2 : Int32) < (2 : Int32)))).2.1 (by decide) (by decide) ?_
    refine XS.goto X348.here hx rfl (pc0 := 191) (pc' := 35) rfl (hb hby d37_191) (by decide) (by decide) ?_
    show SS p e below T348 m 35 #[rv a1, iv (2 : Int32), rv a2, iv (8 : Int32), rv b12_0, rv a19, iv (2 : Int32), .val (.long (own_jmin (9223372036854775807 : Int64) q302)), sc, .val (.long (own_jmax (-1 : Int64) q324)), sc, rv b281_0, rv a206] [] _
    refine xaload X348 hx hby d37_35 rfl rfl ?_
    refine st349 _ ?_
    refine XS.ifYes X349.here hx rfl (pc0 := 42) (pc' := 194) rfl (hb hby d37_42) rfl ((if0 _ _).trans (teq (rfl : (0 : Int32) = (0 : Int32))).1) (by decide) (by decide) ?_
    show SS p e below T349 m 194 #[rv a1, iv (2 : Int32), rv a2, iv (8 : Int32), rv b12_0, rv a19, iv (2 : Int32), .val (.long (own_jmin (9223372036854775807 : Int64) q302)), sc, .val (.long (own_jmax (-1 : Int64) q324)), sc, rv b281_0, rv a206] [] _
    exact X349.returnOut hx hret (hb hby d37_194) hr
  · exact ⟨b8, k8, rfl, N349, KK348, sz_b8, fc359, fc360, V348⟩
theorem pd_32 : parseMethodDescriptor "(ILjava/util/List;)V" = some ⟨[.int, (.object "java/util/List")], none⟩ := by decide +kernel
theorem cw57 {a0 Z} (hw : HW a0 Z) : CN a0 Z s44 59 mn37 2 (.code mn37 prog_24_method_1_code 13 none) :=
  ⟨rfl, wx hw 249 rfl, wx hw 250 rfl, wx hw 251 rfl, wx hw 248 rfl, by decide, _, _, pd_32, rfl⟩
theorem own_atS (L : List Int64) (i : Nat) : (L.map Value.long).getD i (.long (0 : Int64)) = .long (L.getD i 0) := by
  simp only [List.getD_eq_getElem?_getD, List.getElem?_map]
  cases L[i]? <;> rfl
def own_at4 (x0 x1 x2 x3 : Int64) (j : Int32) : Int64 := [x0, x1, x2, x3].getD j.toNatClampNeg 0
theorem own_at4_s (x0 x1 x2 x3 : Int64) (j : Int32) : ([.long x0, .long x1, .long x2, .long x3] : List Value).getD j.toNatClampNeg (.long (0 : Int64)) = .long (own_at4 x0 x1 x2 x3 j) := own_atS [x0, x1, x2, x3] _
theorem d54_0 : DC cb54 0 (.lload_n 0) 1 := by decide +kernel
theorem d54_1 : DC cb54 1 (.lload 6) 2 := by decide +kernel
theorem d54_3 : DC cb54 3 (.lcmp) 1 := by decide +kernel
theorem d54_4 : DC cb54 4 (.ifCond .gt 14) 3 := by decide +kernel
theorem d54_7 : DC cb54 7 (.lload 4) 2 := by decide +kernel
theorem d54_9 : DC cb54 9 (.lload_n 2) 1 := by decide +kernel
theorem d54_10 : DC cb54 10 (.lcmp) 1 := by decide +kernel
theorem d54_11 : DC cb54 11 (.ifCond .gt 7) 3 := by decide +kernel
theorem d54_14 : DC cb54 14 (.iconst 1) 1 := by decide +kernel
theorem d54_15 : DC cb54 15 (.goto 4) 3 := by decide +kernel
theorem d54_19 : DC cb54 19 (.ireturn) 1 := by decide +kernel
theorem d54_18 : DC cb54 18 (.iconst 0) 1 := by decide +kernel
theorem ef_54_57 (m : MethodId) (x0 : Int64) (x1 : Int64) (x2 : Int64) (x3 : Int64) : entryFrame m #[(.long x0), (.long x1), (.long x2), (.long x3)] 8 = mkF m 0 #[.val (.long x0), .second, .val (.long x1), .second, .val (.long x2), .second, .val (.long x3), .second] [] := by first | (simp [entryFrame, mkF, argsToLocals, Value.category]; done) | rfl
theorem rm54_0 (l : Launch) (Z : State) (a0 : Array Value) (hw : HW a0 Z) (q1 q2 q3 q4 : Int64) (h0 : Heap) (n0 : Nat) (OL0 : Old Z n0 h0) (pr1 : ¬ (q4 < q1)) (pr2 : ¬ (q2 < q3)) :
    MF l Z mn54 method_4_code 8 (some .boolean) ⟨0, 0, 0, 0⟩ #[(.long q1), (.long q2), (.long q3), (.long q4)] h0 (QR n0 h0 (some (.int (1 : Int32)))) := by
  refine own_start (plainFor_of_name pn_0) (fun m => (ef_54_57 m q1 q2 q3 q4)) ?_
  intro p e s m below meth c s₁ hZ hx hby hml hown hnm hret X0 e0
  have N0 := Fr.nil n0
  refine ⟨some (.int (1 : Int32)), _, _, _, _, _, X0, e0, by decide, nofun, fun fs hr => ?_, ?_⟩
  · refine xlloadN X0 hx hby d54_0 rfl ?_
    show SS p e below s₁ m 1 #[jv q1, sc, jv q2, sc, jv q3, sc, jv q4, sc] [(.long q1)] _
    refine xlload X0 hx hby d54_1 rfl ?_
    refine XS.lcmp X0.here hx rfl (hb hby d54_3) rfl ?_
    refine XS.ifNo X0.here hx rfl (hb hby d54_4) rfl ((if0 _ _).trans (flt ((fun z => pr1 ((lw_gt q1 q4).mp z)) : ¬ ((0 : Int32) < (lcmpW q1 q4)))).2.2.1) ?_
    refine xlload X0 hx hby d54_7 rfl ?_
    refine xlloadN X0 hx hby d54_9 rfl ?_
    refine XS.lcmp X0.here hx rfl (hb hby d54_10) rfl ?_
    refine XS.ifNo X0.here hx rfl (hb hby d54_11) rfl ((if0 _ _).trans (flt ((fun z => pr2 ((lw_gt q3 q2).mp z)) : ¬ ((0 : Int32) < (lcmpW q3 q2)))).2.2.1) ?_
    refine XS.iconst X0.here hx rfl (hb hby d54_14) ?_
    refine XS.goto X0.here hx rfl (pc0 := 15) (pc' := 19) rfl (hb hby d54_15) (by decide) (by decide) ?_
    show SS p e below s₁ m 19 #[jv q1, sc, jv q2, sc, jv q3, sc, jv q4, sc] [(.int (1 : Int32))] _
    exact retN X0 hx (t := .boolean) hret (by simp) (hb hby d54_19) hr
  · exact ⟨rfl, N0, rfl⟩
theorem rm54_1 (l : Launch) (Z : State) (a0 : Array Value) (hw : HW a0 Z) (q1 q2 q3 q4 : Int64) (h0 : Heap) (n0 : Nat) (OL0 : Old Z n0 h0) (pr1 : q4 < q1) :
    MF l Z mn54 method_4_code 8 (some .boolean) ⟨0, 0, 0, 0⟩ #[(.long q1), (.long q2), (.long q3), (.long q4)] h0 (QR n0 h0 (some (.int (0 : Int32)))) := by
  refine own_start (plainFor_of_name pn_0) (fun m => (ef_54_57 m q1 q2 q3 q4)) ?_
  intro p e s m below meth c s₁ hZ hx hby hml hown hnm hret X0 e0
  have N0 := Fr.nil n0
  refine ⟨some (.int (0 : Int32)), _, _, _, _, _, X0, e0, by decide, nofun, fun fs hr => ?_, ?_⟩
  · refine xlloadN X0 hx hby d54_0 rfl ?_
    show SS p e below s₁ m 1 #[jv q1, sc, jv q2, sc, jv q3, sc, jv q4, sc] [(.long q1)] _
    refine xlload X0 hx hby d54_1 rfl ?_
    refine XS.lcmp X0.here hx rfl (hb hby d54_3) rfl ?_
    refine XS.ifYes X0.here hx rfl (pc0 := 4) (pc' := 18) rfl (hb hby d54_4) rfl ((if0 _ _).trans (tlt (((lw_gt q1 q4).mpr pr1) : (0 : Int32) < (lcmpW q1 q4))).2.2.1) (by decide) (by decide) ?_
    refine XS.iconst X0.here hx rfl (hb hby d54_18) ?_
    show SS p e below s₁ m 19 #[jv q1, sc, jv q2, sc, jv q3, sc, jv q4, sc] [(.int (0 : Int32))] _
    exact retN X0 hx (t := .boolean) hret (by simp) (hb hby d54_19) hr
  · exact ⟨rfl, N0, rfl⟩
theorem rm54_2 (l : Launch) (Z : State) (a0 : Array Value) (hw : HW a0 Z) (q1 q2 q3 q4 : Int64) (h0 : Heap) (n0 : Nat) (OL0 : Old Z n0 h0) (pr1 : ¬ (q4 < q1)) (pr2 : q2 < q3) :
    MF l Z mn54 method_4_code 8 (some .boolean) ⟨0, 0, 0, 0⟩ #[(.long q1), (.long q2), (.long q3), (.long q4)] h0 (QR n0 h0 (some (.int (0 : Int32)))) := by
  refine own_start (plainFor_of_name pn_0) (fun m => (ef_54_57 m q1 q2 q3 q4)) ?_
  intro p e s m below meth c s₁ hZ hx hby hml hown hnm hret X0 e0
  have N0 := Fr.nil n0
  refine ⟨some (.int (0 : Int32)), _, _, _, _, _, X0, e0, by decide, nofun, fun fs hr => ?_, ?_⟩
  · refine xlloadN X0 hx hby d54_0 rfl ?_
    show SS p e below s₁ m 1 #[jv q1, sc, jv q2, sc, jv q3, sc, jv q4, sc] [(.long q1)] _
    refine xlload X0 hx hby d54_1 rfl ?_
    refine XS.lcmp X0.here hx rfl (hb hby d54_3) rfl ?_
    refine XS.ifNo X0.here hx rfl (hb hby d54_4) rfl ((if0 _ _).trans (flt ((fun z => pr1 ((lw_gt q1 q4).mp z)) : ¬ ((0 : Int32) < (lcmpW q1 q4)))).2.2.1) ?_
    refine xlload X0 hx hby d54_7 rfl ?_
    refine xlloadN X0 hx hby d54_9 rfl ?_
    refine XS.lcmp X0.here hx rfl (hb hby d54_10) rfl ?_
    refine XS.ifYes X0.here hx rfl (pc0 := 11) (pc' := 18) rfl (hb hby d54_11) rfl ((if0 _ _).trans (tlt (((lw_gt q3 q2).mpr pr2) : (0 : Int32) < (lcmpW q3 q2))).2.2.1) (by decide) (by decide) ?_
    refine XS.iconst X0.here hx rfl (hb hby d54_18) ?_
    show SS p e below s₁ m 19 #[jv q1, sc, jv q2, sc, jv q3, sc, jv q4, sc] [(.int (0 : Int32))] _
    exact retN X0 hx (t := .boolean) hret (by simp) (hb hby d54_19) hr
  · exact ⟨rfl, N0, rfl⟩
def own_ov (q1 q2 q3 q4 : Int64) : Int32 := (if q4 < q1 then (0 : Int32) else (if q2 < q3 then (0 : Int32) else (1 : Int32)))
theorem mg_own_ov (l : Launch) (Z : State) (a0 : Array Value) (hw : HW a0 Z) (q1 q2 q3 q4 : Int64) (h0 : Heap) (n0 : Nat) (OL0 : Old Z n0 h0)  :
    MF l Z mn54 method_4_code 8 (some .boolean) ⟨0, 0, 0, 0⟩ #[(.long q1), (.long q2), (.long q3), (.long q4)] h0 (QR n0 h0 (some (.int (own_ov q1 q2 q3 q4)))) := by
  by_cases hd0 : q4 < q1
  · rw [show (own_ov q1 q2 q3 q4) = (0 : Int32) from by unfold own_ov; rw [if_pos hd0]]
    exact rm54_1 l Z a0 hw q1 q2 q3 q4 h0 n0 OL0 hd0
  · by_cases hd1 : q2 < q3
    · rw [show (own_ov q1 q2 q3 q4) = (0 : Int32) from by unfold own_ov; rw [if_neg hd0, if_pos hd1]]
      exact rm54_2 l Z a0 hw q1 q2 q3 q4 h0 n0 OL0 hd0 hd1
    · rw [show (own_ov q1 q2 q3 q4) = (1 : Int32) from by unfold own_ov; rw [if_neg hd0, if_neg hd1]]
      exact rm54_0 l Z a0 hw q1 q2 q3 q4 h0 n0 OL0 hd0 hd1
theorem pd_33 : parseMethodDescriptor "(JJJJ)Z" = some ⟨[.long, .long, .long, .long], some .boolean⟩ := by decide +kernel
theorem cw58 {a0 Z} (hw : HW a0 Z) : CS a0 Z s44 62 mn54 4 (.code mn54 method_4_code 8 (some .boolean)) :=
  ⟨wx hw 393 rfl, wx hw 394 rfl, wx hw 395 rfl, wx hw 3 rfl, by decide, _, _, pd_33, rfl⟩
theorem d55_0 : DC cb55 0 (.iload_n 1) 1 := by decide +kernel
theorem d55_1 : DC cb55 1 (.aload_n 0) 1 := by decide +kernel
theorem d55_2 : DC cb55 2 (.getfield 7) 3 := by decide +kernel
theorem d55_5 : DC cb55 5 (.imul) 1 := by decide +kernel
theorem d55_6 : DC cb55 6 (.iconst 2) 1 := by decide +kernel
theorem d55_7 : DC cb55 7 (.imul) 1 := by decide +kernel
theorem d55_8 : DC cb55 8 (.istore_n 3) 1 := by decide +kernel
theorem d55_9 : DC cb55 9 (.iload_n 2) 1 := by decide +kernel
theorem d55_10 : DC cb55 10 (.aload_n 0) 1 := by decide +kernel
theorem d55_11 : DC cb55 11 (.getfield 7) 3 := by decide +kernel
theorem d55_14 : DC cb55 14 (.imul) 1 := by decide +kernel
theorem d55_15 : DC cb55 15 (.iconst 2) 1 := by decide +kernel
theorem d55_16 : DC cb55 16 (.imul) 1 := by decide +kernel
theorem d55_17 : DC cb55 17 (.istore 4) 2 := by decide +kernel
theorem d55_19 : DC cb55 19 (.iconst 0) 1 := by decide +kernel
theorem d55_20 : DC cb55 20 (.istore 5) 2 := by decide +kernel
theorem d55_22 : DC cb55 22 (.iload 5) 2 := by decide +kernel
theorem d55_24 : DC cb55 24 (.aload_n 0) 1 := by decide +kernel
theorem d55_25 : DC cb55 25 (.getfield 7) 3 := by decide +kernel
theorem d55_28 : DC cb55 28 (.iconst 2) 1 := by decide +kernel
theorem d55_29 : DC cb55 29 (.imul) 1 := by decide +kernel
theorem d55_30 : DC cb55 30 (.if_icmp .ge 61) 3 := by decide +kernel
theorem d55_33 : DC cb55 33 (.aload_n 0) 1 := by decide +kernel
theorem d55_34 : DC cb55 34 (.getfield 19) 3 := by decide +kernel
theorem d55_37 : DC cb55 37 (.iload_n 3) 1 := by decide +kernel
theorem d55_38 : DC cb55 38 (.iload 5) 2 := by decide +kernel
theorem d55_40 : DC cb55 40 (.iadd) 1 := by decide +kernel
theorem d55_41 : DC cb55 41 (.iconst 1) 1 := by decide +kernel
theorem d55_42 : DC cb55 42 (.iadd) 1 := by decide +kernel
theorem d55_43 : DC cb55 43 (.laload) 1 := by decide +kernel
def own_at8 (x0 x1 x2 x3 x4 x5 x6 x7 : Int64) (j : Int32) : Int64 := [x0, x1, x2, x3, x4, x5, x6, x7].getD j.toNatClampNeg 0
theorem own_at8_s (x0 x1 x2 x3 x4 x5 x6 x7 : Int64) (j : Int32) : ([.long x0, .long x1, .long x2, .long x3, .long x4, .long x5, .long x6, .long x7] : List Value).getD j.toNatClampNeg (.long (0 : Int64)) = .long (own_at8 x0 x1 x2 x3 x4 x5 x6 x7 j) := own_atS [x0, x1, x2, x3, x4, x5, x6, x7] _
theorem d55_44 : DC cb55 44 (.aload_n 0) 1 := by decide +kernel
theorem d55_45 : DC cb55 45 (.getfield 19) 3 := by decide +kernel
theorem d55_48 : DC cb55 48 (.iload 4) 2 := by decide +kernel
theorem d55_50 : DC cb55 50 (.iload 5) 2 := by decide +kernel
theorem d55_52 : DC cb55 52 (.iadd) 1 := by decide +kernel
theorem d55_53 : DC cb55 53 (.laload) 1 := by decide +kernel
theorem d55_54 : DC cb55 54 (.lcmp) 1 := by decide +kernel
theorem d55_55 : DC cb55 55 (.ifCond .lt 28) 3 := by decide +kernel
theorem d55_58 : DC cb55 58 (.aload_n 0) 1 := by decide +kernel
theorem d55_59 : DC cb55 59 (.getfield 19) 3 := by decide +kernel
theorem d55_62 : DC cb55 62 (.iload 4) 2 := by decide +kernel
theorem d55_64 : DC cb55 64 (.iload 5) 2 := by decide +kernel
theorem d55_66 : DC cb55 66 (.iadd) 1 := by decide +kernel
theorem d55_67 : DC cb55 67 (.iconst 1) 1 := by decide +kernel
theorem d55_68 : DC cb55 68 (.iadd) 1 := by decide +kernel
theorem d55_69 : DC cb55 69 (.laload) 1 := by decide +kernel
theorem d55_70 : DC cb55 70 (.aload_n 0) 1 := by decide +kernel
theorem d55_71 : DC cb55 71 (.getfield 19) 3 := by decide +kernel
theorem d55_74 : DC cb55 74 (.iload_n 3) 1 := by decide +kernel
theorem d55_75 : DC cb55 75 (.iload 5) 2 := by decide +kernel
theorem d55_77 : DC cb55 77 (.iadd) 1 := by decide +kernel
theorem d55_78 : DC cb55 78 (.laload) 1 := by decide +kernel
theorem d55_79 : DC cb55 79 (.lcmp) 1 := by decide +kernel
theorem d55_80 : DC cb55 80 (.ifCond .ge 5) 3 := by decide +kernel
theorem d55_83 : DC cb55 83 (.iconst 0) 1 := by decide +kernel
theorem d55_84 : DC cb55 84 (.ireturn) 1 := by decide +kernel
theorem d55_85 : DC cb55 85 (.iinc 5 2) 3 := by decide +kernel
theorem d55_88 : DC cb55 88 (.goto (-66)) 3 := by decide +kernel
theorem d55_91 : DC cb55 91 (.iconst 1) 1 := by decide +kernel
theorem d55_92 : DC cb55 92 (.ireturn) 1 := by decide +kernel
theorem ef_55_58 (m : MethodId) (x0 : Addr) (x1 : Int32) (x2 : Int32) : entryFrame m #[(.ref x0), (.int x1), (.int x2)] 6 = mkF m 0 #[.val (.ref x0), .val (.int x1), .val (.int x2), .unset, .unset, .unset] [] := by first | (simp [entryFrame, mkF, argsToLocals, Value.category]; done) | rfl
theorem rm55_0 (l : Launch) (Z : State) (a0 : Array Value) (hw : HW a0 Z) (a1 : Addr) (p2 p3 : Int32) (a7 : Addr) (q9 q10 q11 q12 q13 q14 q15 q16 : Int64) (k17 : ClassId) (h0 : Heap) (n0 : Nat) (OL0 : Old Z n0 h0) (pr1 : Fld Z h0 a1 s43 s15 "I" (.int (2 : Int32))) (pr2 : Fld Z h0 a1 s43 "values" "[J" (.ref a7)) (pr3 : Arv Z h0 a7 k17 .long (8 : Int32) [(.long q9), (.long q10), (.long q11), (.long q12), (.long q13), (.long q14), (.long q15), (.long q16)] (.long (0 : Int64))) (pr4 : ¬ (((((p2 * (2 : Int32)) * (2 : Int32)) + (0 : Int32)) + (1 : Int32)) < (0 : Int32))) (pr5 : ((((p2 * (2 : Int32)) * (2 : Int32)) + (0 : Int32)) + (1 : Int32)) < (8 : Int32)) (pr6 : ¬ ((((p3 * (2 : Int32)) * (2 : Int32)) + (0 : Int32)) < (0 : Int32))) (pr7 : (((p3 * (2 : Int32)) * (2 : Int32)) + (0 : Int32)) < (8 : Int32)) (pr8 : ¬ ((own_at8 q9 q10 q11 q12 q13 q14 q15 q16 ((((p2 * (2 : Int32)) * (2 : Int32)) + (0 : Int32)) + (1 : Int32))) < (own_at8 q9 q10 q11 q12 q13 q14 q15 q16 (((p3 * (2 : Int32)) * (2 : Int32)) + (0 : Int32))))) (pr9 : ¬ (((((p3 * (2 : Int32)) * (2 : Int32)) + (0 : Int32)) + (1 : Int32)) < (0 : Int32))) (pr10 : ((((p3 * (2 : Int32)) * (2 : Int32)) + (0 : Int32)) + (1 : Int32)) < (8 : Int32)) (pr11 : ¬ ((((p2 * (2 : Int32)) * (2 : Int32)) + (0 : Int32)) < (0 : Int32))) (pr12 : (((p2 * (2 : Int32)) * (2 : Int32)) + (0 : Int32)) < (8 : Int32)) (pr13 : (own_at8 q9 q10 q11 q12 q13 q14 q15 q16 ((((p3 * (2 : Int32)) * (2 : Int32)) + (0 : Int32)) + (1 : Int32))) < (own_at8 q9 q10 q11 q12 q13 q14 q15 q16 (((p2 * (2 : Int32)) * (2 : Int32)) + (0 : Int32)))) :
    MF l Z mn55 prog_24_method_2_code 6 (some .boolean) ⟨0, 0, 0, 0⟩ #[(.ref a1), (.int p2), (.int p3)] h0 (QR n0 h0 (some (.int (0 : Int32)))) := by
  refine own_start (plainFor_of_name pn_19) (fun m => (ef_55_58 m a1 p2 p3)) ?_
  intro p e s m below meth c s₁ hZ hx hby hml hown hnm hret X0 e0
  have N0 := Fr.nil n0
  obtain ⟨T4, X4, e4, st4⟩ := gF X0 hx hZ hown (wd253 hw) Via.refl e0 pr1 2 #[rv a1, iv p2, iv p3, uu, uu, uu] [(.int p2)] (hb hby d55_2)
  obtain ⟨T5, X5, e5, st5⟩ := gF X4 hx hZ hown (wd253 hw) Via.refl e4 pr1 11 #[rv a1, iv p2, iv p3, .val (.int ((p2 * (2 : Int32)) * (2 : Int32))), uu, uu] [(.int p3)] (hb hby d55_11)
  obtain ⟨T6, X6, e6, st6⟩ := gF X5 hx hZ hown (wd253 hw) Via.refl e5 pr1 25 #[rv a1, iv p2, iv p3, .val (.int ((p2 * (2 : Int32)) * (2 : Int32))), .val (.int ((p3 * (2 : Int32)) * (2 : Int32))), iv (0 : Int32)] [(.int (0 : Int32))] (hb hby d55_25)
  obtain ⟨T8, X8, e8, st8⟩ := gF X6 hx hZ hown (wd264 hw) Via.refl e6 pr2 34 #[rv a1, iv p2, iv p3, .val (.int ((p2 * (2 : Int32)) * (2 : Int32))), .val (.int ((p3 * (2 : Int32)) * (2 : Int32))), iv (0 : Int32)] [] (hb hby d55_34)
  obtain ⟨T19, X19, e19, st19⟩ := gF X8 hx hZ hown (wd264 hw) Via.refl e8 pr2 45 #[rv a1, iv p2, iv p3, .val (.int ((p2 * (2 : Int32)) * (2 : Int32))), .val (.int ((p3 * (2 : Int32)) * (2 : Int32))), iv (0 : Int32)] [(.long (own_at8 q9 q10 q11 q12 q13 q14 q15 q16 ((((p2 * (2 : Int32)) * (2 : Int32)) + (0 : Int32)) + (1 : Int32))))] (hb hby d55_45)
  obtain ⟨T21, X21, e21, st21⟩ := gF X19 hx hZ hown (wd264 hw) Via.refl e19 pr2 59 #[rv a1, iv p2, iv p3, .val (.int ((p2 * (2 : Int32)) * (2 : Int32))), .val (.int ((p3 * (2 : Int32)) * (2 : Int32))), iv (0 : Int32)] [] (hb hby d55_59)
  obtain ⟨T23, X23, e23, st23⟩ := gF X21 hx hZ hown (wd264 hw) Via.refl e21 pr2 71 #[rv a1, iv p2, iv p3, .val (.int ((p2 * (2 : Int32)) * (2 : Int32))), .val (.int ((p3 * (2 : Int32)) * (2 : Int32))), iv (0 : Int32)] [(.long (own_at8 q9 q10 q11 q12 q13 q14 q15 q16 ((((p3 * (2 : Int32)) * (2 : Int32)) + (0 : Int32)) + (1 : Int32))))] (hb hby d55_71)
  refine ⟨some (.int (0 : Int32)), _, _, _, _, _, X23, e23, by decide, nofun, fun fs hr => ?_, ?_⟩
  · refine xiloadN X0 hx hby d55_0 rfl ?_
    show SS p e below s₁ m 1 #[rv a1, iv p2, iv p3, uu, uu, uu] [(.int p2)] _
    refine xaloadN X0 hx hby d55_1 rfl rfl ?_
    refine st4 _ ?_
    refine XS.imul X4.here hx rfl (hb hby d55_5) rfl ?_
    refine XS.iconst X4.here hx rfl (hb hby d55_6) ?_
    refine XS.imul X4.here hx rfl (hb hby d55_7) rfl ?_
    refine XS.istoreN X4.here hx rfl (hb hby d55_8) rfl (l' := #[rv a1, iv p2, iv p3, .val (.int ((p2 * (2 : Int32)) * (2 : Int32))), uu, uu]) rfl ?_
    refine xiloadN X4 hx hby d55_9 rfl ?_
    refine xaloadN X4 hx hby d55_10 rfl rfl ?_
    refine st5 _ ?_
    refine XS.imul X5.here hx rfl (hb hby d55_14) rfl ?_
    show SS p e below T5 m 15 #[rv a1, iv p2, iv p3, .val (.int ((p2 * (2 : Int32)) * (2 : Int32))), uu, uu] [(.int (p3 * (2 : Int32)))] _
    refine XS.iconst X5.here hx rfl (hb hby d55_15) ?_
    refine XS.imul X5.here hx rfl (hb hby d55_16) rfl ?_
    refine XS.istore X5.here hx rfl (hb hby d55_17) rfl (l' := #[rv a1, iv p2, iv p3, .val (.int ((p2 * (2 : Int32)) * (2 : Int32))), .val (.int ((p3 * (2 : Int32)) * (2 : Int32))), uu]) rfl ?_
    refine XS.iconst X5.here hx rfl (hb hby d55_19) ?_
    refine XS.istore X5.here hx rfl (hb hby d55_20) rfl (l' := #[rv a1, iv p2, iv p3, .val (.int ((p2 * (2 : Int32)) * (2 : Int32))), .val (.int ((p3 * (2 : Int32)) * (2 : Int32))), iv (0 : Int32)]) rfl ?_
    refine xiload X5 hx hby d55_22 rfl ?_
    refine xaloadN X5 hx hby d55_24 rfl rfl ?_
    refine st6 _ ?_
    refine XS.iconst X6.here hx rfl (hb hby d55_28) ?_
    refine XS.imul X6.here hx rfl (hb hby d55_29) rfl ?_
    show SS p e below T6 m 30 #[rv a1, iv p2, iv p3, .val (.int ((p2 * (2 : Int32)) * (2 : Int32))), .val (.int ((p3 * (2 : Int32)) * (2 : Int32))), iv (0 : Int32)] [(.int (4 : Int32)), (.int (0 : Int32))] _
    refine XS.icmpNo X6.here hx rfl (hb hby d55_30) rfl (tlt (by decide : (0 : Int32) < (4 : Int32))).2.1 ?_
    refine xaloadN X6 hx hby d55_33 rfl rfl ?_
    refine st8 _ ?_
    refine xiloadN X8 hx hby d55_37 rfl ?_
    refine xiload X8 hx hby d55_38 rfl ?_
    refine XS.iadd X8.here hx rfl (hb hby d55_40) rfl ?_
    refine XS.iconst X8.here hx rfl (hb hby d55_41) ?_
    refine XS.iadd X8.here hx rfl (hb hby d55_42) rfl ?_
    refine own_laJ X8 hx hZ e8 pr3 (v := (.long (own_at8 q9 q10 q11 q12 q13 q14 q15 q16 ((((p2 * (2 : Int32)) * (2 : Int32)) + (0 : Int32)) + (1 : Int32))))) ⟨pr4, pr5⟩ (own_at8_s ..) (hb hby d55_43) ?_
    refine xaloadN X8 hx hby d55_44 rfl rfl ?_
    show SS p e below T8 m 45 #[rv a1, iv p2, iv p3, .val (.int ((p2 * (2 : Int32)) * (2 : Int32))), .val (.int ((p3 * (2 : Int32)) * (2 : Int32))), iv (0 : Int32)] [(.ref a1), (.long (own_at8 q9 q10 q11 q12 q13 q14 q15 q16 ((((p2 * (2 : Int32)) * (2 : Int32)) + (0 : Int32)) + (1 : Int32))))] _
    refine st19 _ ?_
    refine xiload X19 hx hby d55_48 rfl ?_
    refine xiload X19 hx hby d55_50 rfl ?_
    refine XS.iadd X19.here hx rfl (hb hby d55_52) rfl ?_
    refine own_laJ X19 hx hZ e19 pr3 (v := (.long (own_at8 q9 q10 q11 q12 q13 q14 q15 q16 (((p3 * (2 : Int32)) * (2 : Int32)) + (0 : Int32))))) ⟨pr6, pr7⟩ (own_at8_s ..) (hb hby d55_53) ?_
    refine XS.lcmp X19.here hx rfl (hb hby d55_54) rfl ?_
    refine XS.ifNo X19.here hx rfl (hb hby d55_55) rfl ((if0 _ _).trans (flt ((fun z => pr8 ((lw_lt (own_at8 q9 q10 q11 q12 q13 q14 q15 q16 ((((p2 * (2 : Int32)) * (2 : Int32)) + (0 : Int32)) + (1 : Int32))) (own_at8 q9 q10 q11 q12 q13 q14 q15 q16 (((p3 * (2 : Int32)) * (2 : Int32)) + (0 : Int32)))).mp z)) : ¬ ((lcmpW (own_at8 q9 q10 q11 q12 q13 q14 q15 q16 ((((p2 * (2 : Int32)) * (2 : Int32)) + (0 : Int32)) + (1 : Int32))) (own_at8 q9 q10 q11 q12 q13 q14 q15 q16 (((p3 * (2 : Int32)) * (2 : Int32)) + (0 : Int32)))) < (0 : Int32)))).1) ?_
    refine xaloadN X19 hx hby d55_58 rfl rfl ?_
    refine st21 _ ?_
    refine xiload X21 hx hby d55_62 rfl ?_
    show SS p e below T21 m 64 #[rv a1, iv p2, iv p3, .val (.int ((p2 * (2 : Int32)) * (2 : Int32))), .val (.int ((p3 * (2 : Int32)) * (2 : Int32))), iv (0 : Int32)] [(.int ((p3 * (2 : Int32)) * (2 : Int32))), (.ref a7)] _
    refine xiload X21 hx hby d55_64 rfl ?_
    refine XS.iadd X21.here hx rfl (hb hby d55_66) rfl ?_
    refine XS.iconst X21.here hx rfl (hb hby d55_67) ?_
    refine XS.iadd X21.here hx rfl (hb hby d55_68) rfl ?_
    refine own_laJ X21 hx hZ e21 pr3 (v := (.long (own_at8 q9 q10 q11 q12 q13 q14 q15 q16 ((((p3 * (2 : Int32)) * (2 : Int32)) + (0 : Int32)) + (1 : Int32))))) ⟨pr9, pr10⟩ (own_at8_s ..) (hb hby d55_69) ?_
    refine xaloadN X21 hx hby d55_70 rfl rfl ?_
    refine st23 _ ?_
    refine xiloadN X23 hx hby d55_74 rfl ?_
    refine xiload X23 hx hby d55_75 rfl ?_
    refine XS.iadd X23.here hx rfl (hb hby d55_77) rfl ?_
    show SS p e below T23 m 78 #[rv a1, iv p2, iv p3, .val (.int ((p2 * (2 : Int32)) * (2 : Int32))), .val (.int ((p3 * (2 : Int32)) * (2 : Int32))), iv (0 : Int32)] [(.int (((p2 * (2 : Int32)) * (2 : Int32)) + (0 : Int32))), (.ref a7), (.long (own_at8 q9 q10 q11 q12 q13 q14 q15 q16 ((((p3 * (2 : Int32)) * (2 : Int32)) + (0 : Int32)) + (1 : Int32))))] _
    refine own_laJ X23 hx hZ e23 pr3 (v := (.long (own_at8 q9 q10 q11 q12 q13 q14 q15 q16 (((p2 * (2 : Int32)) * (2 : Int32)) + (0 : Int32))))) ⟨pr11, pr12⟩ (own_at8_s ..) (hb hby d55_78) ?_
    refine XS.lcmp X23.here hx rfl (hb hby d55_79) rfl ?_
    refine XS.ifNo X23.here hx rfl (hb hby d55_80) rfl ((if0 _ _).trans (tlt (((lw_lt (own_at8 q9 q10 q11 q12 q13 q14 q15 q16 ((((p3 * (2 : Int32)) * (2 : Int32)) + (0 : Int32)) + (1 : Int32))) (own_at8 q9 q10 q11 q12 q13 q14 q15 q16 (((p2 * (2 : Int32)) * (2 : Int32)) + (0 : Int32)))).mpr pr13) : (lcmpW (own_at8 q9 q10 q11 q12 q13 q14 q15 q16 ((((p3 * (2 : Int32)) * (2 : Int32)) + (0 : Int32)) + (1 : Int32))) (own_at8 q9 q10 q11 q12 q13 q14 q15 q16 (((p2 * (2 : Int32)) * (2 : Int32)) + (0 : Int32)))) < (0 : Int32))).2.1) ?_
    refine XS.iconst X23.here hx rfl (hb hby d55_83) ?_
    show SS p e below T23 m 84 #[rv a1, iv p2, iv p3, .val (.int ((p2 * (2 : Int32)) * (2 : Int32))), .val (.int ((p3 * (2 : Int32)) * (2 : Int32))), iv (0 : Int32)] [(.int (0 : Int32))] _
    exact retN X23 hx (t := .boolean) hret (by simp) (hb hby d55_84) hr
  · exact ⟨rfl, N0, rfl⟩
theorem rm55_1 (l : Launch) (Z : State) (a0 : Array Value) (hw : HW a0 Z) (a1 : Addr) (p2 p3 : Int32) (a7 : Addr) (q9 q10 q11 q12 q13 q14 q15 q16 : Int64) (k17 : ClassId) (h0 : Heap) (n0 : Nat) (OL0 : Old Z n0 h0) (pr1 : Fld Z h0 a1 s43 s15 "I" (.int (2 : Int32))) (pr2 : Fld Z h0 a1 s43 "values" "[J" (.ref a7)) (pr3 : Arv Z h0 a7 k17 .long (8 : Int32) [(.long q9), (.long q10), (.long q11), (.long q12), (.long q13), (.long q14), (.long q15), (.long q16)] (.long (0 : Int64))) (pr4 : ¬ (((((p2 * (2 : Int32)) * (2 : Int32)) + (0 : Int32)) + (1 : Int32)) < (0 : Int32))) (pr5 : ((((p2 * (2 : Int32)) * (2 : Int32)) + (0 : Int32)) + (1 : Int32)) < (8 : Int32)) (pr6 : ¬ ((((p3 * (2 : Int32)) * (2 : Int32)) + (0 : Int32)) < (0 : Int32))) (pr7 : (((p3 * (2 : Int32)) * (2 : Int32)) + (0 : Int32)) < (8 : Int32)) (pr8 : (own_at8 q9 q10 q11 q12 q13 q14 q15 q16 ((((p2 * (2 : Int32)) * (2 : Int32)) + (0 : Int32)) + (1 : Int32))) < (own_at8 q9 q10 q11 q12 q13 q14 q15 q16 (((p3 * (2 : Int32)) * (2 : Int32)) + (0 : Int32)))) :
    MF l Z mn55 prog_24_method_2_code 6 (some .boolean) ⟨0, 0, 0, 0⟩ #[(.ref a1), (.int p2), (.int p3)] h0 (QR n0 h0 (some (.int (0 : Int32)))) := by
  refine own_start (plainFor_of_name pn_19) (fun m => (ef_55_58 m a1 p2 p3)) ?_
  intro p e s m below meth c s₁ hZ hx hby hml hown hnm hret X0 e0
  have N0 := Fr.nil n0
  obtain ⟨T4, X4, e4, st4⟩ := gF X0 hx hZ hown (wd253 hw) Via.refl e0 pr1 2 #[rv a1, iv p2, iv p3, uu, uu, uu] [(.int p2)] (hb hby d55_2)
  obtain ⟨T5, X5, e5, st5⟩ := gF X4 hx hZ hown (wd253 hw) Via.refl e4 pr1 11 #[rv a1, iv p2, iv p3, .val (.int ((p2 * (2 : Int32)) * (2 : Int32))), uu, uu] [(.int p3)] (hb hby d55_11)
  obtain ⟨T6, X6, e6, st6⟩ := gF X5 hx hZ hown (wd253 hw) Via.refl e5 pr1 25 #[rv a1, iv p2, iv p3, .val (.int ((p2 * (2 : Int32)) * (2 : Int32))), .val (.int ((p3 * (2 : Int32)) * (2 : Int32))), iv (0 : Int32)] [(.int (0 : Int32))] (hb hby d55_25)
  obtain ⟨T8, X8, e8, st8⟩ := gF X6 hx hZ hown (wd264 hw) Via.refl e6 pr2 34 #[rv a1, iv p2, iv p3, .val (.int ((p2 * (2 : Int32)) * (2 : Int32))), .val (.int ((p3 * (2 : Int32)) * (2 : Int32))), iv (0 : Int32)] [] (hb hby d55_34)
  obtain ⟨T19, X19, e19, st19⟩ := gF X8 hx hZ hown (wd264 hw) Via.refl e8 pr2 45 #[rv a1, iv p2, iv p3, .val (.int ((p2 * (2 : Int32)) * (2 : Int32))), .val (.int ((p3 * (2 : Int32)) * (2 : Int32))), iv (0 : Int32)] [(.long (own_at8 q9 q10 q11 q12 q13 q14 q15 q16 ((((p2 * (2 : Int32)) * (2 : Int32)) + (0 : Int32)) + (1 : Int32))))] (hb hby d55_45)
  refine ⟨some (.int (0 : Int32)), _, _, _, _, _, X19, e19, by decide, nofun, fun fs hr => ?_, ?_⟩
  · refine xiloadN X0 hx hby d55_0 rfl ?_
    show SS p e below s₁ m 1 #[rv a1, iv p2, iv p3, uu, uu, uu] [(.int p2)] _
    refine xaloadN X0 hx hby d55_1 rfl rfl ?_
    refine st4 _ ?_
    refine XS.imul X4.here hx rfl (hb hby d55_5) rfl ?_
    refine XS.iconst X4.here hx rfl (hb hby d55_6) ?_
    refine XS.imul X4.here hx rfl (hb hby d55_7) rfl ?_
    refine XS.istoreN X4.here hx rfl (hb hby d55_8) rfl (l' := #[rv a1, iv p2, iv p3, .val (.int ((p2 * (2 : Int32)) * (2 : Int32))), uu, uu]) rfl ?_
    refine xiloadN X4 hx hby d55_9 rfl ?_
    refine xaloadN X4 hx hby d55_10 rfl rfl ?_
    refine st5 _ ?_
    refine XS.imul X5.here hx rfl (hb hby d55_14) rfl ?_
    show SS p e below T5 m 15 #[rv a1, iv p2, iv p3, .val (.int ((p2 * (2 : Int32)) * (2 : Int32))), uu, uu] [(.int (p3 * (2 : Int32)))] _
    refine XS.iconst X5.here hx rfl (hb hby d55_15) ?_
    refine XS.imul X5.here hx rfl (hb hby d55_16) rfl ?_
    refine XS.istore X5.here hx rfl (hb hby d55_17) rfl (l' := #[rv a1, iv p2, iv p3, .val (.int ((p2 * (2 : Int32)) * (2 : Int32))), .val (.int ((p3 * (2 : Int32)) * (2 : Int32))), uu]) rfl ?_
    refine XS.iconst X5.here hx rfl (hb hby d55_19) ?_
    refine XS.istore X5.here hx rfl (hb hby d55_20) rfl (l' := #[rv a1, iv p2, iv p3, .val (.int ((p2 * (2 : Int32)) * (2 : Int32))), .val (.int ((p3 * (2 : Int32)) * (2 : Int32))), iv (0 : Int32)]) rfl ?_
    refine xiload X5 hx hby d55_22 rfl ?_
    refine xaloadN X5 hx hby d55_24 rfl rfl ?_
    refine st6 _ ?_
    refine XS.iconst X6.here hx rfl (hb hby d55_28) ?_
    refine XS.imul X6.here hx rfl (hb hby d55_29) rfl ?_
    show SS p e below T6 m 30 #[rv a1, iv p2, iv p3, .val (.int ((p2 * (2 : Int32)) * (2 : Int32))), .val (.int ((p3 * (2 : Int32)) * (2 : Int32))), iv (0 : Int32)] [(.int (4 : Int32)), (.int (0 : Int32))] _
    refine XS.icmpNo X6.here hx rfl (hb hby d55_30) rfl (tlt (by decide : (0 : Int32) < (4 : Int32))).2.1 ?_
    refine xaloadN X6 hx hby d55_33 rfl rfl ?_
    refine st8 _ ?_
    refine xiloadN X8 hx hby d55_37 rfl ?_
    refine xiload X8 hx hby d55_38 rfl ?_
    refine XS.iadd X8.here hx rfl (hb hby d55_40) rfl ?_
    refine XS.iconst X8.here hx rfl (hb hby d55_41) ?_
    refine XS.iadd X8.here hx rfl (hb hby d55_42) rfl ?_
    refine own_laJ X8 hx hZ e8 pr3 (v := (.long (own_at8 q9 q10 q11 q12 q13 q14 q15 q16 ((((p2 * (2 : Int32)) * (2 : Int32)) + (0 : Int32)) + (1 : Int32))))) ⟨pr4, pr5⟩ (own_at8_s ..) (hb hby d55_43) ?_
    refine xaloadN X8 hx hby d55_44 rfl rfl ?_
    show SS p e below T8 m 45 #[rv a1, iv p2, iv p3, .val (.int ((p2 * (2 : Int32)) * (2 : Int32))), .val (.int ((p3 * (2 : Int32)) * (2 : Int32))), iv (0 : Int32)] [(.ref a1), (.long (own_at8 q9 q10 q11 q12 q13 q14 q15 q16 ((((p2 * (2 : Int32)) * (2 : Int32)) + (0 : Int32)) + (1 : Int32))))] _
    refine st19 _ ?_
    refine xiload X19 hx hby d55_48 rfl ?_
    refine xiload X19 hx hby d55_50 rfl ?_
    refine XS.iadd X19.here hx rfl (hb hby d55_52) rfl ?_
    refine own_laJ X19 hx hZ e19 pr3 (v := (.long (own_at8 q9 q10 q11 q12 q13 q14 q15 q16 (((p3 * (2 : Int32)) * (2 : Int32)) + (0 : Int32))))) ⟨pr6, pr7⟩ (own_at8_s ..) (hb hby d55_53) ?_
    refine XS.lcmp X19.here hx rfl (hb hby d55_54) rfl ?_
    refine XS.ifYes X19.here hx rfl (pc0 := 55) (pc' := 83) rfl (hb hby d55_55) rfl ((if0 _ _).trans (tlt (((lw_lt (own_at8 q9 q10 q11 q12 q13 q14 q15 q16 ((((p2 * (2 : Int32)) * (2 : Int32)) + (0 : Int32)) + (1 : Int32))) (own_at8 q9 q10 q11 q12 q13 q14 q15 q16 (((p3 * (2 : Int32)) * (2 : Int32)) + (0 : Int32)))).mpr pr8) : (lcmpW (own_at8 q9 q10 q11 q12 q13 q14 q15 q16 ((((p2 * (2 : Int32)) * (2 : Int32)) + (0 : Int32)) + (1 : Int32))) (own_at8 q9 q10 q11 q12 q13 q14 q15 q16 (((p3 * (2 : Int32)) * (2 : Int32)) + (0 : Int32)))) < (0 : Int32))).1) (by decide) (by decide) ?_
    refine XS.iconst X19.here hx rfl (hb hby d55_83) ?_
    show SS p e below T19 m 84 #[rv a1, iv p2, iv p3, .val (.int ((p2 * (2 : Int32)) * (2 : Int32))), .val (.int ((p3 * (2 : Int32)) * (2 : Int32))), iv (0 : Int32)] [(.int (0 : Int32))] _
    exact retN X19 hx (t := .boolean) hret (by simp) (hb hby d55_84) hr
  · exact ⟨rfl, N0, rfl⟩
theorem rm55_2 (l : Launch) (Z : State) (a0 : Array Value) (hw : HW a0 Z) (a1 : Addr) (p2 p3 : Int32) (a7 : Addr) (q9 q10 q11 q12 q13 q14 q15 q16 : Int64) (k17 : ClassId) (h0 : Heap) (n0 : Nat) (OL0 : Old Z n0 h0) (pr1 : Fld Z h0 a1 s43 s15 "I" (.int (2 : Int32))) (pr2 : Fld Z h0 a1 s43 "values" "[J" (.ref a7)) (pr3 : Arv Z h0 a7 k17 .long (8 : Int32) [(.long q9), (.long q10), (.long q11), (.long q12), (.long q13), (.long q14), (.long q15), (.long q16)] (.long (0 : Int64))) (pr4 : ¬ (((((p2 * (2 : Int32)) * (2 : Int32)) + (0 : Int32)) + (1 : Int32)) < (0 : Int32))) (pr5 : ((((p2 * (2 : Int32)) * (2 : Int32)) + (0 : Int32)) + (1 : Int32)) < (8 : Int32)) (pr6 : ¬ ((((p3 * (2 : Int32)) * (2 : Int32)) + (0 : Int32)) < (0 : Int32))) (pr7 : (((p3 * (2 : Int32)) * (2 : Int32)) + (0 : Int32)) < (8 : Int32)) (pr8 : ¬ ((own_at8 q9 q10 q11 q12 q13 q14 q15 q16 ((((p2 * (2 : Int32)) * (2 : Int32)) + (0 : Int32)) + (1 : Int32))) < (own_at8 q9 q10 q11 q12 q13 q14 q15 q16 (((p3 * (2 : Int32)) * (2 : Int32)) + (0 : Int32))))) (pr9 : ¬ (((((p3 * (2 : Int32)) * (2 : Int32)) + (0 : Int32)) + (1 : Int32)) < (0 : Int32))) (pr10 : ((((p3 * (2 : Int32)) * (2 : Int32)) + (0 : Int32)) + (1 : Int32)) < (8 : Int32)) (pr11 : ¬ ((((p2 * (2 : Int32)) * (2 : Int32)) + (0 : Int32)) < (0 : Int32))) (pr12 : (((p2 * (2 : Int32)) * (2 : Int32)) + (0 : Int32)) < (8 : Int32)) (pr13 : ¬ ((own_at8 q9 q10 q11 q12 q13 q14 q15 q16 ((((p3 * (2 : Int32)) * (2 : Int32)) + (0 : Int32)) + (1 : Int32))) < (own_at8 q9 q10 q11 q12 q13 q14 q15 q16 (((p2 * (2 : Int32)) * (2 : Int32)) + (0 : Int32))))) (pr14 : ¬ (((((p2 * (2 : Int32)) * (2 : Int32)) + (2 : Int32)) + (1 : Int32)) < (0 : Int32))) (pr15 : ((((p2 * (2 : Int32)) * (2 : Int32)) + (2 : Int32)) + (1 : Int32)) < (8 : Int32)) (pr16 : ¬ ((((p3 * (2 : Int32)) * (2 : Int32)) + (2 : Int32)) < (0 : Int32))) (pr17 : (((p3 * (2 : Int32)) * (2 : Int32)) + (2 : Int32)) < (8 : Int32)) (pr18 : ¬ ((own_at8 q9 q10 q11 q12 q13 q14 q15 q16 ((((p2 * (2 : Int32)) * (2 : Int32)) + (2 : Int32)) + (1 : Int32))) < (own_at8 q9 q10 q11 q12 q13 q14 q15 q16 (((p3 * (2 : Int32)) * (2 : Int32)) + (2 : Int32))))) (pr19 : ¬ (((((p3 * (2 : Int32)) * (2 : Int32)) + (2 : Int32)) + (1 : Int32)) < (0 : Int32))) (pr20 : ((((p3 * (2 : Int32)) * (2 : Int32)) + (2 : Int32)) + (1 : Int32)) < (8 : Int32)) (pr21 : ¬ ((((p2 * (2 : Int32)) * (2 : Int32)) + (2 : Int32)) < (0 : Int32))) (pr22 : (((p2 * (2 : Int32)) * (2 : Int32)) + (2 : Int32)) < (8 : Int32)) (pr23 : (own_at8 q9 q10 q11 q12 q13 q14 q15 q16 ((((p3 * (2 : Int32)) * (2 : Int32)) + (2 : Int32)) + (1 : Int32))) < (own_at8 q9 q10 q11 q12 q13 q14 q15 q16 (((p2 * (2 : Int32)) * (2 : Int32)) + (2 : Int32)))) :
    MF l Z mn55 prog_24_method_2_code 6 (some .boolean) ⟨0, 0, 0, 0⟩ #[(.ref a1), (.int p2), (.int p3)] h0 (QR n0 h0 (some (.int (0 : Int32)))) := by
  refine own_start (plainFor_of_name pn_19) (fun m => (ef_55_58 m a1 p2 p3)) ?_
  intro p e s m below meth c s₁ hZ hx hby hml hown hnm hret X0 e0
  have N0 := Fr.nil n0
  obtain ⟨T4, X4, e4, st4⟩ := gF X0 hx hZ hown (wd253 hw) Via.refl e0 pr1 2 #[rv a1, iv p2, iv p3, uu, uu, uu] [(.int p2)] (hb hby d55_2)
  obtain ⟨T5, X5, e5, st5⟩ := gF X4 hx hZ hown (wd253 hw) Via.refl e4 pr1 11 #[rv a1, iv p2, iv p3, .val (.int ((p2 * (2 : Int32)) * (2 : Int32))), uu, uu] [(.int p3)] (hb hby d55_11)
  obtain ⟨T6, X6, e6, st6⟩ := gF X5 hx hZ hown (wd253 hw) Via.refl e5 pr1 25 #[rv a1, iv p2, iv p3, .val (.int ((p2 * (2 : Int32)) * (2 : Int32))), .val (.int ((p3 * (2 : Int32)) * (2 : Int32))), iv (0 : Int32)] [(.int (0 : Int32))] (hb hby d55_25)
  obtain ⟨T8, X8, e8, st8⟩ := gF X6 hx hZ hown (wd264 hw) Via.refl e6 pr2 34 #[rv a1, iv p2, iv p3, .val (.int ((p2 * (2 : Int32)) * (2 : Int32))), .val (.int ((p3 * (2 : Int32)) * (2 : Int32))), iv (0 : Int32)] [] (hb hby d55_34)
  obtain ⟨T19, X19, e19, st19⟩ := gF X8 hx hZ hown (wd264 hw) Via.refl e8 pr2 45 #[rv a1, iv p2, iv p3, .val (.int ((p2 * (2 : Int32)) * (2 : Int32))), .val (.int ((p3 * (2 : Int32)) * (2 : Int32))), iv (0 : Int32)] [(.long (own_at8 q9 q10 q11 q12 q13 q14 q15 q16 ((((p2 * (2 : Int32)) * (2 : Int32)) + (0 : Int32)) + (1 : Int32))))] (hb hby d55_45)
  obtain ⟨T21, X21, e21, st21⟩ := gF X19 hx hZ hown (wd264 hw) Via.refl e19 pr2 59 #[rv a1, iv p2, iv p3, .val (.int ((p2 * (2 : Int32)) * (2 : Int32))), .val (.int ((p3 * (2 : Int32)) * (2 : Int32))), iv (0 : Int32)] [] (hb hby d55_59)
  obtain ⟨T23, X23, e23, st23⟩ := gF X21 hx hZ hown (wd264 hw) Via.refl e21 pr2 71 #[rv a1, iv p2, iv p3, .val (.int ((p2 * (2 : Int32)) * (2 : Int32))), .val (.int ((p3 * (2 : Int32)) * (2 : Int32))), iv (0 : Int32)] [(.long (own_at8 q9 q10 q11 q12 q13 q14 q15 q16 ((((p3 * (2 : Int32)) * (2 : Int32)) + (0 : Int32)) + (1 : Int32))))] (hb hby d55_71)
  obtain ⟨T25, X25, e25, st25⟩ := gF X23 hx hZ hown (wd253 hw) Via.refl e23 pr1 25 #[rv a1, iv p2, iv p3, .val (.int ((p2 * (2 : Int32)) * (2 : Int32))), .val (.int ((p3 * (2 : Int32)) * (2 : Int32))), iv (2 : Int32)] [(.int (2 : Int32))] (hb hby d55_25)
  obtain ⟨T26, X26, e26, st26⟩ := gF X25 hx hZ hown (wd264 hw) Via.refl e25 pr2 34 #[rv a1, iv p2, iv p3, .val (.int ((p2 * (2 : Int32)) * (2 : Int32))), .val (.int ((p3 * (2 : Int32)) * (2 : Int32))), iv (2 : Int32)] [] (hb hby d55_34)
  obtain ⟨T28, X28, e28, st28⟩ := gF X26 hx hZ hown (wd264 hw) Via.refl e26 pr2 45 #[rv a1, iv p2, iv p3, .val (.int ((p2 * (2 : Int32)) * (2 : Int32))), .val (.int ((p3 * (2 : Int32)) * (2 : Int32))), iv (2 : Int32)] [(.long (own_at8 q9 q10 q11 q12 q13 q14 q15 q16 ((((p2 * (2 : Int32)) * (2 : Int32)) + (2 : Int32)) + (1 : Int32))))] (hb hby d55_45)
  obtain ⟨T30, X30, e30, st30⟩ := gF X28 hx hZ hown (wd264 hw) Via.refl e28 pr2 59 #[rv a1, iv p2, iv p3, .val (.int ((p2 * (2 : Int32)) * (2 : Int32))), .val (.int ((p3 * (2 : Int32)) * (2 : Int32))), iv (2 : Int32)] [] (hb hby d55_59)
  obtain ⟨T32, X32, e32, st32⟩ := gF X30 hx hZ hown (wd264 hw) Via.refl e30 pr2 71 #[rv a1, iv p2, iv p3, .val (.int ((p2 * (2 : Int32)) * (2 : Int32))), .val (.int ((p3 * (2 : Int32)) * (2 : Int32))), iv (2 : Int32)] [(.long (own_at8 q9 q10 q11 q12 q13 q14 q15 q16 ((((p3 * (2 : Int32)) * (2 : Int32)) + (2 : Int32)) + (1 : Int32))))] (hb hby d55_71)
  refine ⟨some (.int (0 : Int32)), _, _, _, _, _, X32, e32, by decide, nofun, fun fs hr => ?_, ?_⟩
  · refine xiloadN X0 hx hby d55_0 rfl ?_
    show SS p e below s₁ m 1 #[rv a1, iv p2, iv p3, uu, uu, uu] [(.int p2)] _
    refine xaloadN X0 hx hby d55_1 rfl rfl ?_
    refine st4 _ ?_
    refine XS.imul X4.here hx rfl (hb hby d55_5) rfl ?_
    refine XS.iconst X4.here hx rfl (hb hby d55_6) ?_
    refine XS.imul X4.here hx rfl (hb hby d55_7) rfl ?_
    refine XS.istoreN X4.here hx rfl (hb hby d55_8) rfl (l' := #[rv a1, iv p2, iv p3, .val (.int ((p2 * (2 : Int32)) * (2 : Int32))), uu, uu]) rfl ?_
    refine xiloadN X4 hx hby d55_9 rfl ?_
    refine xaloadN X4 hx hby d55_10 rfl rfl ?_
    refine st5 _ ?_
    refine XS.imul X5.here hx rfl (hb hby d55_14) rfl ?_
    show SS p e below T5 m 15 #[rv a1, iv p2, iv p3, .val (.int ((p2 * (2 : Int32)) * (2 : Int32))), uu, uu] [(.int (p3 * (2 : Int32)))] _
    refine XS.iconst X5.here hx rfl (hb hby d55_15) ?_
    refine XS.imul X5.here hx rfl (hb hby d55_16) rfl ?_
    refine XS.istore X5.here hx rfl (hb hby d55_17) rfl (l' := #[rv a1, iv p2, iv p3, .val (.int ((p2 * (2 : Int32)) * (2 : Int32))), .val (.int ((p3 * (2 : Int32)) * (2 : Int32))), uu]) rfl ?_
    refine XS.iconst X5.here hx rfl (hb hby d55_19) ?_
    refine XS.istore X5.here hx rfl (hb hby d55_20) rfl (l' := #[rv a1, iv p2, iv p3, .val (.int ((p2 * (2 : Int32)) * (2 : Int32))), .val (.int ((p3 * (2 : Int32)) * (2 : Int32))), iv (0 : Int32)]) rfl ?_
    refine xiload X5 hx hby d55_22 rfl ?_
    refine xaloadN X5 hx hby d55_24 rfl rfl ?_
    refine st6 _ ?_
    refine XS.iconst X6.here hx rfl (hb hby d55_28) ?_
    refine XS.imul X6.here hx rfl (hb hby d55_29) rfl ?_
    show SS p e below T6 m 30 #[rv a1, iv p2, iv p3, .val (.int ((p2 * (2 : Int32)) * (2 : Int32))), .val (.int ((p3 * (2 : Int32)) * (2 : Int32))), iv (0 : Int32)] [(.int (4 : Int32)), (.int (0 : Int32))] _
    refine XS.icmpNo X6.here hx rfl (hb hby d55_30) rfl (tlt (by decide : (0 : Int32) < (4 : Int32))).2.1 ?_
    refine xaloadN X6 hx hby d55_33 rfl rfl ?_
    refine st8 _ ?_
    refine xiloadN X8 hx hby d55_37 rfl ?_
    refine xiload X8 hx hby d55_38 rfl ?_
    refine XS.iadd X8.here hx rfl (hb hby d55_40) rfl ?_
    refine XS.iconst X8.here hx rfl (hb hby d55_41) ?_
    refine XS.iadd X8.here hx rfl (hb hby d55_42) rfl ?_
    refine own_laJ X8 hx hZ e8 pr3 (v := (.long (own_at8 q9 q10 q11 q12 q13 q14 q15 q16 ((((p2 * (2 : Int32)) * (2 : Int32)) + (0 : Int32)) + (1 : Int32))))) ⟨pr4, pr5⟩ (own_at8_s ..) (hb hby d55_43) ?_
    refine xaloadN X8 hx hby d55_44 rfl rfl ?_
    show SS p e below T8 m 45 #[rv a1, iv p2, iv p3, .val (.int ((p2 * (2 : Int32)) * (2 : Int32))), .val (.int ((p3 * (2 : Int32)) * (2 : Int32))), iv (0 : Int32)] [(.ref a1), (.long (own_at8 q9 q10 q11 q12 q13 q14 q15 q16 ((((p2 * (2 : Int32)) * (2 : Int32)) + (0 : Int32)) + (1 : Int32))))] _
    refine st19 _ ?_
    refine xiload X19 hx hby d55_48 rfl ?_
    refine xiload X19 hx hby d55_50 rfl ?_
    refine XS.iadd X19.here hx rfl (hb hby d55_52) rfl ?_
    refine own_laJ X19 hx hZ e19 pr3 (v := (.long (own_at8 q9 q10 q11 q12 q13 q14 q15 q16 (((p3 * (2 : Int32)) * (2 : Int32)) + (0 : Int32))))) ⟨pr6, pr7⟩ (own_at8_s ..) (hb hby d55_53) ?_
    refine XS.lcmp X19.here hx rfl (hb hby d55_54) rfl ?_
    refine XS.ifNo X19.here hx rfl (hb hby d55_55) rfl ((if0 _ _).trans (flt ((fun z => pr8 ((lw_lt (own_at8 q9 q10 q11 q12 q13 q14 q15 q16 ((((p2 * (2 : Int32)) * (2 : Int32)) + (0 : Int32)) + (1 : Int32))) (own_at8 q9 q10 q11 q12 q13 q14 q15 q16 (((p3 * (2 : Int32)) * (2 : Int32)) + (0 : Int32)))).mp z)) : ¬ ((lcmpW (own_at8 q9 q10 q11 q12 q13 q14 q15 q16 ((((p2 * (2 : Int32)) * (2 : Int32)) + (0 : Int32)) + (1 : Int32))) (own_at8 q9 q10 q11 q12 q13 q14 q15 q16 (((p3 * (2 : Int32)) * (2 : Int32)) + (0 : Int32)))) < (0 : Int32)))).1) ?_
    refine xaloadN X19 hx hby d55_58 rfl rfl ?_
    refine st21 _ ?_
    refine xiload X21 hx hby d55_62 rfl ?_
    show SS p e below T21 m 64 #[rv a1, iv p2, iv p3, .val (.int ((p2 * (2 : Int32)) * (2 : Int32))), .val (.int ((p3 * (2 : Int32)) * (2 : Int32))), iv (0 : Int32)] [(.int ((p3 * (2 : Int32)) * (2 : Int32))), (.ref a7)] _
    refine xiload X21 hx hby d55_64 rfl ?_
    refine XS.iadd X21.here hx rfl (hb hby d55_66) rfl ?_
    refine XS.iconst X21.here hx rfl (hb hby d55_67) ?_
    refine XS.iadd X21.here hx rfl (hb hby d55_68) rfl ?_
    refine own_laJ X21 hx hZ e21 pr3 (v := (.long (own_at8 q9 q10 q11 q12 q13 q14 q15 q16 ((((p3 * (2 : Int32)) * (2 : Int32)) + (0 : Int32)) + (1 : Int32))))) ⟨pr9, pr10⟩ (own_at8_s ..) (hb hby d55_69) ?_
    refine xaloadN X21 hx hby d55_70 rfl rfl ?_
    refine st23 _ ?_
    refine xiloadN X23 hx hby d55_74 rfl ?_
    refine xiload X23 hx hby d55_75 rfl ?_
    refine XS.iadd X23.here hx rfl (hb hby d55_77) rfl ?_
    show SS p e below T23 m 78 #[rv a1, iv p2, iv p3, .val (.int ((p2 * (2 : Int32)) * (2 : Int32))), .val (.int ((p3 * (2 : Int32)) * (2 : Int32))), iv (0 : Int32)] [(.int (((p2 * (2 : Int32)) * (2 : Int32)) + (0 : Int32))), (.ref a7), (.long (own_at8 q9 q10 q11 q12 q13 q14 q15 q16 ((((p3 * (2 : Int32)) * (2 : Int32)) + (0 : Int32)) + (1 : Int32))))] _
    refine own_laJ X23 hx hZ e23 pr3 (v := (.long (own_at8 q9 q10 q11 q12 q13 q14 q15 q16 (((p2 * (2 : Int32)) * (2 : Int32)) + (0 : Int32))))) ⟨pr11, pr12⟩ (own_at8_s ..) (hb hby d55_78) ?_
    refine XS.lcmp X23.here hx rfl (hb hby d55_79) rfl ?_
    refine XS.ifYes X23.here hx rfl (pc0 := 80) (pc' := 85) rfl (hb hby d55_80) rfl ((if0 _ _).trans (flt ((fun z => pr13 ((lw_lt (own_at8 q9 q10 q11 q12 q13 q14 q15 q16 ((((p3 * (2 : Int32)) * (2 : Int32)) + (0 : Int32)) + (1 : Int32))) (own_at8 q9 q10 q11 q12 q13 q14 q15 q16 (((p2 * (2 : Int32)) * (2 : Int32)) + (0 : Int32)))).mp z)) : ¬ ((lcmpW (own_at8 q9 q10 q11 q12 q13 q14 q15 q16 ((((p3 * (2 : Int32)) * (2 : Int32)) + (0 : Int32)) + (1 : Int32))) (own_at8 q9 q10 q11 q12 q13 q14 q15 q16 (((p2 * (2 : Int32)) * (2 : Int32)) + (0 : Int32)))) < (0 : Int32)))).2.1) (by decide) (by decide) ?_
    refine XS.iinc X23.here hx rfl (hb hby d55_85) rfl (l' := #[rv a1, iv p2, iv p3, .val (.int ((p2 * (2 : Int32)) * (2 : Int32))), .val (.int ((p3 * (2 : Int32)) * (2 : Int32))), .val (.int ((0 : Int32) + (2 : Int32)))]) rfl ?_
    refine XS.goto X23.here hx rfl (pc0 := 88) (pc' := 22) rfl (hb hby d55_88) (by decide) (by decide) ?_
    refine xiload X23 hx hby d55_22 rfl ?_
    refine xaloadN X23 hx hby d55_24 rfl rfl ?_
    refine st25 _ ?_
    refine XS.iconst X25.here hx rfl (hb hby d55_28) ?_
    refine XS.imul X25.here hx rfl (hb hby d55_29) rfl ?_
    show SS p e below T25 m 30 #[rv a1, iv p2, iv p3, .val (.int ((p2 * (2 : Int32)) * (2 : Int32))), .val (.int ((p3 * (2 : Int32)) * (2 : Int32))), iv (2 : Int32)] [(.int (4 : Int32)), (.int (2 : Int32))] _
    refine XS.icmpNo X25.here hx rfl (hb hby d55_30) rfl (tlt (by decide : (2 : Int32) < (4 : Int32))).2.1 ?_
    refine xaloadN X25 hx hby d55_33 rfl rfl ?_
    refine st26 _ ?_
    refine xiloadN X26 hx hby d55_37 rfl ?_
    refine xiload X26 hx hby d55_38 rfl ?_
    refine XS.iadd X26.here hx rfl (hb hby d55_40) rfl ?_
    refine XS.iconst X26.here hx rfl (hb hby d55_41) ?_
    refine XS.iadd X26.here hx rfl (hb hby d55_42) rfl ?_
    refine own_laJ X26 hx hZ e26 pr3 (v := (.long (own_at8 q9 q10 q11 q12 q13 q14 q15 q16 ((((p2 * (2 : Int32)) * (2 : Int32)) + (2 : Int32)) + (1 : Int32))))) ⟨pr14, pr15⟩ (own_at8_s ..) (hb hby d55_43) ?_
    refine xaloadN X26 hx hby d55_44 rfl rfl ?_
    show SS p e below T26 m 45 #[rv a1, iv p2, iv p3, .val (.int ((p2 * (2 : Int32)) * (2 : Int32))), .val (.int ((p3 * (2 : Int32)) * (2 : Int32))), iv (2 : Int32)] [(.ref a1), (.long (own_at8 q9 q10 q11 q12 q13 q14 q15 q16 ((((p2 * (2 : Int32)) * (2 : Int32)) + (2 : Int32)) + (1 : Int32))))] _
    refine st28 _ ?_
    refine xiload X28 hx hby d55_48 rfl ?_
    refine xiload X28 hx hby d55_50 rfl ?_
    refine XS.iadd X28.here hx rfl (hb hby d55_52) rfl ?_
    refine own_laJ X28 hx hZ e28 pr3 (v := (.long (own_at8 q9 q10 q11 q12 q13 q14 q15 q16 (((p3 * (2 : Int32)) * (2 : Int32)) + (2 : Int32))))) ⟨pr16, pr17⟩ (own_at8_s ..) (hb hby d55_53) ?_
    refine XS.lcmp X28.here hx rfl (hb hby d55_54) rfl ?_
    refine XS.ifNo X28.here hx rfl (hb hby d55_55) rfl ((if0 _ _).trans (flt ((fun z => pr18 ((lw_lt (own_at8 q9 q10 q11 q12 q13 q14 q15 q16 ((((p2 * (2 : Int32)) * (2 : Int32)) + (2 : Int32)) + (1 : Int32))) (own_at8 q9 q10 q11 q12 q13 q14 q15 q16 (((p3 * (2 : Int32)) * (2 : Int32)) + (2 : Int32)))).mp z)) : ¬ ((lcmpW (own_at8 q9 q10 q11 q12 q13 q14 q15 q16 ((((p2 * (2 : Int32)) * (2 : Int32)) + (2 : Int32)) + (1 : Int32))) (own_at8 q9 q10 q11 q12 q13 q14 q15 q16 (((p3 * (2 : Int32)) * (2 : Int32)) + (2 : Int32)))) < (0 : Int32)))).1) ?_
    refine xaloadN X28 hx hby d55_58 rfl rfl ?_
    refine st30 _ ?_
    refine xiload X30 hx hby d55_62 rfl ?_
    show SS p e below T30 m 64 #[rv a1, iv p2, iv p3, .val (.int ((p2 * (2 : Int32)) * (2 : Int32))), .val (.int ((p3 * (2 : Int32)) * (2 : Int32))), iv (2 : Int32)] [(.int ((p3 * (2 : Int32)) * (2 : Int32))), (.ref a7)] _
    refine xiload X30 hx hby d55_64 rfl ?_
    refine XS.iadd X30.here hx rfl (hb hby d55_66) rfl ?_
    refine XS.iconst X30.here hx rfl (hb hby d55_67) ?_
    refine XS.iadd X30.here hx rfl (hb hby d55_68) rfl ?_
    refine own_laJ X30 hx hZ e30 pr3 (v := (.long (own_at8 q9 q10 q11 q12 q13 q14 q15 q16 ((((p3 * (2 : Int32)) * (2 : Int32)) + (2 : Int32)) + (1 : Int32))))) ⟨pr19, pr20⟩ (own_at8_s ..) (hb hby d55_69) ?_
    refine xaloadN X30 hx hby d55_70 rfl rfl ?_
    refine st32 _ ?_
    refine xiloadN X32 hx hby d55_74 rfl ?_
    refine xiload X32 hx hby d55_75 rfl ?_
    refine XS.iadd X32.here hx rfl (hb hby d55_77) rfl ?_
    show SS p e below T32 m 78 #[rv a1, iv p2, iv p3, .val (.int ((p2 * (2 : Int32)) * (2 : Int32))), .val (.int ((p3 * (2 : Int32)) * (2 : Int32))), iv (2 : Int32)] [(.int (((p2 * (2 : Int32)) * (2 : Int32)) + (2 : Int32))), (.ref a7), (.long (own_at8 q9 q10 q11 q12 q13 q14 q15 q16 ((((p3 * (2 : Int32)) * (2 : Int32)) + (2 : Int32)) + (1 : Int32))))] _
    refine own_laJ X32 hx hZ e32 pr3 (v := (.long (own_at8 q9 q10 q11 q12 q13 q14 q15 q16 (((p2 * (2 : Int32)) * (2 : Int32)) + (2 : Int32))))) ⟨pr21, pr22⟩ (own_at8_s ..) (hb hby d55_78) ?_
    refine XS.lcmp X32.here hx rfl (hb hby d55_79) rfl ?_
    refine XS.ifNo X32.here hx rfl (hb hby d55_80) rfl ((if0 _ _).trans (tlt (((lw_lt (own_at8 q9 q10 q11 q12 q13 q14 q15 q16 ((((p3 * (2 : Int32)) * (2 : Int32)) + (2 : Int32)) + (1 : Int32))) (own_at8 q9 q10 q11 q12 q13 q14 q15 q16 (((p2 * (2 : Int32)) * (2 : Int32)) + (2 : Int32)))).mpr pr23) : (lcmpW (own_at8 q9 q10 q11 q12 q13 q14 q15 q16 ((((p3 * (2 : Int32)) * (2 : Int32)) + (2 : Int32)) + (1 : Int32))) (own_at8 q9 q10 q11 q12 q13 q14 q15 q16 (((p2 * (2 : Int32)) * (2 : Int32)) + (2 : Int32)))) < (0 : Int32))).2.1) ?_
    refine XS.iconst X32.here hx rfl (hb hby d55_83) ?_
    show SS p e below T32 m 84 #[rv a1, iv p2, iv p3, .val (.int ((p2 * (2 : Int32)) * (2 : Int32))), .val (.int ((p3 * (2 : Int32)) * (2 : Int32))), iv (2 : Int32)] [(.int (0 : Int32))] _
    exact retN X32 hx (t := .boolean) hret (by simp) (hb hby d55_84) hr
  · exact ⟨rfl, N0, rfl⟩
theorem rm55_3 (l : Launch) (Z : State) (a0 : Array Value) (hw : HW a0 Z) (a1 : Addr) (p2 p3 : Int32) (a7 : Addr) (q9 q10 q11 q12 q13 q14 q15 q16 : Int64) (k17 : ClassId) (h0 : Heap) (n0 : Nat) (OL0 : Old Z n0 h0) (pr1 : Fld Z h0 a1 s43 s15 "I" (.int (2 : Int32))) (pr2 : Fld Z h0 a1 s43 "values" "[J" (.ref a7)) (pr3 : Arv Z h0 a7 k17 .long (8 : Int32) [(.long q9), (.long q10), (.long q11), (.long q12), (.long q13), (.long q14), (.long q15), (.long q16)] (.long (0 : Int64))) (pr4 : ¬ (((((p2 * (2 : Int32)) * (2 : Int32)) + (0 : Int32)) + (1 : Int32)) < (0 : Int32))) (pr5 : ((((p2 * (2 : Int32)) * (2 : Int32)) + (0 : Int32)) + (1 : Int32)) < (8 : Int32)) (pr6 : ¬ ((((p3 * (2 : Int32)) * (2 : Int32)) + (0 : Int32)) < (0 : Int32))) (pr7 : (((p3 * (2 : Int32)) * (2 : Int32)) + (0 : Int32)) < (8 : Int32)) (pr8 : ¬ ((own_at8 q9 q10 q11 q12 q13 q14 q15 q16 ((((p2 * (2 : Int32)) * (2 : Int32)) + (0 : Int32)) + (1 : Int32))) < (own_at8 q9 q10 q11 q12 q13 q14 q15 q16 (((p3 * (2 : Int32)) * (2 : Int32)) + (0 : Int32))))) (pr9 : ¬ (((((p3 * (2 : Int32)) * (2 : Int32)) + (0 : Int32)) + (1 : Int32)) < (0 : Int32))) (pr10 : ((((p3 * (2 : Int32)) * (2 : Int32)) + (0 : Int32)) + (1 : Int32)) < (8 : Int32)) (pr11 : ¬ ((((p2 * (2 : Int32)) * (2 : Int32)) + (0 : Int32)) < (0 : Int32))) (pr12 : (((p2 * (2 : Int32)) * (2 : Int32)) + (0 : Int32)) < (8 : Int32)) (pr13 : ¬ ((own_at8 q9 q10 q11 q12 q13 q14 q15 q16 ((((p3 * (2 : Int32)) * (2 : Int32)) + (0 : Int32)) + (1 : Int32))) < (own_at8 q9 q10 q11 q12 q13 q14 q15 q16 (((p2 * (2 : Int32)) * (2 : Int32)) + (0 : Int32))))) (pr14 : ¬ (((((p2 * (2 : Int32)) * (2 : Int32)) + (2 : Int32)) + (1 : Int32)) < (0 : Int32))) (pr15 : ((((p2 * (2 : Int32)) * (2 : Int32)) + (2 : Int32)) + (1 : Int32)) < (8 : Int32)) (pr16 : ¬ ((((p3 * (2 : Int32)) * (2 : Int32)) + (2 : Int32)) < (0 : Int32))) (pr17 : (((p3 * (2 : Int32)) * (2 : Int32)) + (2 : Int32)) < (8 : Int32)) (pr18 : (own_at8 q9 q10 q11 q12 q13 q14 q15 q16 ((((p2 * (2 : Int32)) * (2 : Int32)) + (2 : Int32)) + (1 : Int32))) < (own_at8 q9 q10 q11 q12 q13 q14 q15 q16 (((p3 * (2 : Int32)) * (2 : Int32)) + (2 : Int32)))) :
    MF l Z mn55 prog_24_method_2_code 6 (some .boolean) ⟨0, 0, 0, 0⟩ #[(.ref a1), (.int p2), (.int p3)] h0 (QR n0 h0 (some (.int (0 : Int32)))) := by
  refine own_start (plainFor_of_name pn_19) (fun m => (ef_55_58 m a1 p2 p3)) ?_
  intro p e s m below meth c s₁ hZ hx hby hml hown hnm hret X0 e0
  have N0 := Fr.nil n0
  obtain ⟨T4, X4, e4, st4⟩ := gF X0 hx hZ hown (wd253 hw) Via.refl e0 pr1 2 #[rv a1, iv p2, iv p3, uu, uu, uu] [(.int p2)] (hb hby d55_2)
  obtain ⟨T5, X5, e5, st5⟩ := gF X4 hx hZ hown (wd253 hw) Via.refl e4 pr1 11 #[rv a1, iv p2, iv p3, .val (.int ((p2 * (2 : Int32)) * (2 : Int32))), uu, uu] [(.int p3)] (hb hby d55_11)
  obtain ⟨T6, X6, e6, st6⟩ := gF X5 hx hZ hown (wd253 hw) Via.refl e5 pr1 25 #[rv a1, iv p2, iv p3, .val (.int ((p2 * (2 : Int32)) * (2 : Int32))), .val (.int ((p3 * (2 : Int32)) * (2 : Int32))), iv (0 : Int32)] [(.int (0 : Int32))] (hb hby d55_25)
  obtain ⟨T8, X8, e8, st8⟩ := gF X6 hx hZ hown (wd264 hw) Via.refl e6 pr2 34 #[rv a1, iv p2, iv p3, .val (.int ((p2 * (2 : Int32)) * (2 : Int32))), .val (.int ((p3 * (2 : Int32)) * (2 : Int32))), iv (0 : Int32)] [] (hb hby d55_34)
  obtain ⟨T19, X19, e19, st19⟩ := gF X8 hx hZ hown (wd264 hw) Via.refl e8 pr2 45 #[rv a1, iv p2, iv p3, .val (.int ((p2 * (2 : Int32)) * (2 : Int32))), .val (.int ((p3 * (2 : Int32)) * (2 : Int32))), iv (0 : Int32)] [(.long (own_at8 q9 q10 q11 q12 q13 q14 q15 q16 ((((p2 * (2 : Int32)) * (2 : Int32)) + (0 : Int32)) + (1 : Int32))))] (hb hby d55_45)
  obtain ⟨T21, X21, e21, st21⟩ := gF X19 hx hZ hown (wd264 hw) Via.refl e19 pr2 59 #[rv a1, iv p2, iv p3, .val (.int ((p2 * (2 : Int32)) * (2 : Int32))), .val (.int ((p3 * (2 : Int32)) * (2 : Int32))), iv (0 : Int32)] [] (hb hby d55_59)
  obtain ⟨T23, X23, e23, st23⟩ := gF X21 hx hZ hown (wd264 hw) Via.refl e21 pr2 71 #[rv a1, iv p2, iv p3, .val (.int ((p2 * (2 : Int32)) * (2 : Int32))), .val (.int ((p3 * (2 : Int32)) * (2 : Int32))), iv (0 : Int32)] [(.long (own_at8 q9 q10 q11 q12 q13 q14 q15 q16 ((((p3 * (2 : Int32)) * (2 : Int32)) + (0 : Int32)) + (1 : Int32))))] (hb hby d55_71)
  obtain ⟨T25, X25, e25, st25⟩ := gF X23 hx hZ hown (wd253 hw) Via.refl e23 pr1 25 #[rv a1, iv p2, iv p3, .val (.int ((p2 * (2 : Int32)) * (2 : Int32))), .val (.int ((p3 * (2 : Int32)) * (2 : Int32))), iv (2 : Int32)] [(.int (2 : Int32))] (hb hby d55_25)
  obtain ⟨T26, X26, e26, st26⟩ := gF X25 hx hZ hown (wd264 hw) Via.refl e25 pr2 34 #[rv a1, iv p2, iv p3, .val (.int ((p2 * (2 : Int32)) * (2 : Int32))), .val (.int ((p3 * (2 : Int32)) * (2 : Int32))), iv (2 : Int32)] [] (hb hby d55_34)
  obtain ⟨T28, X28, e28, st28⟩ := gF X26 hx hZ hown (wd264 hw) Via.refl e26 pr2 45 #[rv a1, iv p2, iv p3, .val (.int ((p2 * (2 : Int32)) * (2 : Int32))), .val (.int ((p3 * (2 : Int32)) * (2 : Int32))), iv (2 : Int32)] [(.long (own_at8 q9 q10 q11 q12 q13 q14 q15 q16 ((((p2 * (2 : Int32)) * (2 : Int32)) + (2 : Int32)) + (1 : Int32))))] (hb hby d55_45)
  refine ⟨some (.int (0 : Int32)), _, _, _, _, _, X28, e28, by decide, nofun, fun fs hr => ?_, ?_⟩
  · refine xiloadN X0 hx hby d55_0 rfl ?_
    show SS p e below s₁ m 1 #[rv a1, iv p2, iv p3, uu, uu, uu] [(.int p2)] _
    refine xaloadN X0 hx hby d55_1 rfl rfl ?_
    refine st4 _ ?_
    refine XS.imul X4.here hx rfl (hb hby d55_5) rfl ?_
    refine XS.iconst X4.here hx rfl (hb hby d55_6) ?_
    refine XS.imul X4.here hx rfl (hb hby d55_7) rfl ?_
    refine XS.istoreN X4.here hx rfl (hb hby d55_8) rfl (l' := #[rv a1, iv p2, iv p3, .val (.int ((p2 * (2 : Int32)) * (2 : Int32))), uu, uu]) rfl ?_
    refine xiloadN X4 hx hby d55_9 rfl ?_
    refine xaloadN X4 hx hby d55_10 rfl rfl ?_
    refine st5 _ ?_
    refine XS.imul X5.here hx rfl (hb hby d55_14) rfl ?_
    show SS p e below T5 m 15 #[rv a1, iv p2, iv p3, .val (.int ((p2 * (2 : Int32)) * (2 : Int32))), uu, uu] [(.int (p3 * (2 : Int32)))] _
    refine XS.iconst X5.here hx rfl (hb hby d55_15) ?_
    refine XS.imul X5.here hx rfl (hb hby d55_16) rfl ?_
    refine XS.istore X5.here hx rfl (hb hby d55_17) rfl (l' := #[rv a1, iv p2, iv p3, .val (.int ((p2 * (2 : Int32)) * (2 : Int32))), .val (.int ((p3 * (2 : Int32)) * (2 : Int32))), uu]) rfl ?_
    refine XS.iconst X5.here hx rfl (hb hby d55_19) ?_
    refine XS.istore X5.here hx rfl (hb hby d55_20) rfl (l' := #[rv a1, iv p2, iv p3, .val (.int ((p2 * (2 : Int32)) * (2 : Int32))), .val (.int ((p3 * (2 : Int32)) * (2 : Int32))), iv (0 : Int32)]) rfl ?_
    refine xiload X5 hx hby d55_22 rfl ?_
    refine xaloadN X5 hx hby d55_24 rfl rfl ?_
    refine st6 _ ?_
    refine XS.iconst X6.here hx rfl (hb hby d55_28) ?_
    refine XS.imul X6.here hx rfl (hb hby d55_29) rfl ?_
    show SS p e below T6 m 30 #[rv a1, iv p2, iv p3, .val (.int ((p2 * (2 : Int32)) * (2 : Int32))), .val (.int ((p3 * (2 : Int32)) * (2 : Int32))), iv (0 : Int32)] [(.int (4 : Int32)), (.int (0 : Int32))] _
    refine XS.icmpNo X6.here hx rfl (hb hby d55_30) rfl (tlt (by decide : (0 : Int32) < (4 : Int32))).2.1 ?_
    refine xaloadN X6 hx hby d55_33 rfl rfl ?_
    refine st8 _ ?_
    refine xiloadN X8 hx hby d55_37 rfl ?_
    refine xiload X8 hx hby d55_38 rfl ?_
    refine XS.iadd X8.here hx rfl (hb hby d55_40) rfl ?_
    refine XS.iconst X8.here hx rfl (hb hby d55_41) ?_
    refine XS.iadd X8.here hx rfl (hb hby d55_42) rfl ?_
    refine own_laJ X8 hx hZ e8 pr3 (v := (.long (own_at8 q9 q10 q11 q12 q13 q14 q15 q16 ((((p2 * (2 : Int32)) * (2 : Int32)) + (0 : Int32)) + (1 : Int32))))) ⟨pr4, pr5⟩ (own_at8_s ..) (hb hby d55_43) ?_
    refine xaloadN X8 hx hby d55_44 rfl rfl ?_
    show SS p e below T8 m 45 #[rv a1, iv p2, iv p3, .val (.int ((p2 * (2 : Int32)) * (2 : Int32))), .val (.int ((p3 * (2 : Int32)) * (2 : Int32))), iv (0 : Int32)] [(.ref a1), (.long (own_at8 q9 q10 q11 q12 q13 q14 q15 q16 ((((p2 * (2 : Int32)) * (2 : Int32)) + (0 : Int32)) + (1 : Int32))))] _
    refine st19 _ ?_
    refine xiload X19 hx hby d55_48 rfl ?_
    refine xiload X19 hx hby d55_50 rfl ?_
    refine XS.iadd X19.here hx rfl (hb hby d55_52) rfl ?_
    refine own_laJ X19 hx hZ e19 pr3 (v := (.long (own_at8 q9 q10 q11 q12 q13 q14 q15 q16 (((p3 * (2 : Int32)) * (2 : Int32)) + (0 : Int32))))) ⟨pr6, pr7⟩ (own_at8_s ..) (hb hby d55_53) ?_
    refine XS.lcmp X19.here hx rfl (hb hby d55_54) rfl ?_
    refine XS.ifNo X19.here hx rfl (hb hby d55_55) rfl ((if0 _ _).trans (flt ((fun z => pr8 ((lw_lt (own_at8 q9 q10 q11 q12 q13 q14 q15 q16 ((((p2 * (2 : Int32)) * (2 : Int32)) + (0 : Int32)) + (1 : Int32))) (own_at8 q9 q10 q11 q12 q13 q14 q15 q16 (((p3 * (2 : Int32)) * (2 : Int32)) + (0 : Int32)))).mp z)) : ¬ ((lcmpW (own_at8 q9 q10 q11 q12 q13 q14 q15 q16 ((((p2 * (2 : Int32)) * (2 : Int32)) + (0 : Int32)) + (1 : Int32))) (own_at8 q9 q10 q11 q12 q13 q14 q15 q16 (((p3 * (2 : Int32)) * (2 : Int32)) + (0 : Int32)))) < (0 : Int32)))).1) ?_
    refine xaloadN X19 hx hby d55_58 rfl rfl ?_
    refine st21 _ ?_
    refine xiload X21 hx hby d55_62 rfl ?_
    show SS p e below T21 m 64 #[rv a1, iv p2, iv p3, .val (.int ((p2 * (2 : Int32)) * (2 : Int32))), .val (.int ((p3 * (2 : Int32)) * (2 : Int32))), iv (0 : Int32)] [(.int ((p3 * (2 : Int32)) * (2 : Int32))), (.ref a7)] _
    refine xiload X21 hx hby d55_64 rfl ?_
    refine XS.iadd X21.here hx rfl (hb hby d55_66) rfl ?_
    refine XS.iconst X21.here hx rfl (hb hby d55_67) ?_
    refine XS.iadd X21.here hx rfl (hb hby d55_68) rfl ?_
    refine own_laJ X21 hx hZ e21 pr3 (v := (.long (own_at8 q9 q10 q11 q12 q13 q14 q15 q16 ((((p3 * (2 : Int32)) * (2 : Int32)) + (0 : Int32)) + (1 : Int32))))) ⟨pr9, pr10⟩ (own_at8_s ..) (hb hby d55_69) ?_
    refine xaloadN X21 hx hby d55_70 rfl rfl ?_
    refine st23 _ ?_
    refine xiloadN X23 hx hby d55_74 rfl ?_
    refine xiload X23 hx hby d55_75 rfl ?_
    refine XS.iadd X23.here hx rfl (hb hby d55_77) rfl ?_
    show SS p e below T23 m 78 #[rv a1, iv p2, iv p3, .val (.int ((p2 * (2 : Int32)) * (2 : Int32))), .val (.int ((p3 * (2 : Int32)) * (2 : Int32))), iv (0 : Int32)] [(.int (((p2 * (2 : Int32)) * (2 : Int32)) + (0 : Int32))), (.ref a7), (.long (own_at8 q9 q10 q11 q12 q13 q14 q15 q16 ((((p3 * (2 : Int32)) * (2 : Int32)) + (0 : Int32)) + (1 : Int32))))] _
    refine own_laJ X23 hx hZ e23 pr3 (v := (.long (own_at8 q9 q10 q11 q12 q13 q14 q15 q16 (((p2 * (2 : Int32)) * (2 : Int32)) + (0 : Int32))))) ⟨pr11, pr12⟩ (own_at8_s ..) (hb hby d55_78) ?_
    refine XS.lcmp X23.here hx rfl (hb hby d55_79) rfl ?_
    refine XS.ifYes X23.here hx rfl (pc0 := 80) (pc' := 85) rfl (hb hby d55_80) rfl ((if0 _ _).trans (flt ((fun z => pr13 ((lw_lt (own_at8 q9 q10 q11 q12 q13 q14 q15 q16 ((((p3 * (2 : Int32)) * (2 : Int32)) + (0 : Int32)) + (1 : Int32))) (own_at8 q9 q10 q11 q12 q13 q14 q15 q16 (((p2 * (2 : Int32)) * (2 : Int32)) + (0 : Int32)))).mp z)) : ¬ ((lcmpW (own_at8 q9 q10 q11 q12 q13 q14 q15 q16 ((((p3 * (2 : Int32)) * (2 : Int32)) + (0 : Int32)) + (1 : Int32))) (own_at8 q9 q10 q11 q12 q13 q14 q15 q16 (((p2 * (2 : Int32)) * (2 : Int32)) + (0 : Int32)))) < (0 : Int32)))).2.1) (by decide) (by decide) ?_
    refine XS.iinc X23.here hx rfl (hb hby d55_85) rfl (l' := #[rv a1, iv p2, iv p3, .val (.int ((p2 * (2 : Int32)) * (2 : Int32))), .val (.int ((p3 * (2 : Int32)) * (2 : Int32))), .val (.int ((0 : Int32) + (2 : Int32)))]) rfl ?_
    refine XS.goto X23.here hx rfl (pc0 := 88) (pc' := 22) rfl (hb hby d55_88) (by decide) (by decide) ?_
    refine xiload X23 hx hby d55_22 rfl ?_
    refine xaloadN X23 hx hby d55_24 rfl rfl ?_
    refine st25 _ ?_
    refine XS.iconst X25.here hx rfl (hb hby d55_28) ?_
    refine XS.imul X25.here hx rfl (hb hby d55_29) rfl ?_
    show SS p e below T25 m 30 #[rv a1, iv p2, iv p3, .val (.int ((p2 * (2 : Int32)) * (2 : Int32))), .val (.int ((p3 * (2 : Int32)) * (2 : Int32))), iv (2 : Int32)] [(.int (4 : Int32)), (.int (2 : Int32))] _
    refine XS.icmpNo X25.here hx rfl (hb hby d55_30) rfl (tlt (by decide : (2 : Int32) < (4 : Int32))).2.1 ?_
    refine xaloadN X25 hx hby d55_33 rfl rfl ?_
    refine st26 _ ?_
    refine xiloadN X26 hx hby d55_37 rfl ?_
    refine xiload X26 hx hby d55_38 rfl ?_
    refine XS.iadd X26.here hx rfl (hb hby d55_40) rfl ?_
    refine XS.iconst X26.here hx rfl (hb hby d55_41) ?_
    refine XS.iadd X26.here hx rfl (hb hby d55_42) rfl ?_
    refine own_laJ X26 hx hZ e26 pr3 (v := (.long (own_at8 q9 q10 q11 q12 q13 q14 q15 q16 ((((p2 * (2 : Int32)) * (2 : Int32)) + (2 : Int32)) + (1 : Int32))))) ⟨pr14, pr15⟩ (own_at8_s ..) (hb hby d55_43) ?_
    refine xaloadN X26 hx hby d55_44 rfl rfl ?_
    show SS p e below T26 m 45 #[rv a1, iv p2, iv p3, .val (.int ((p2 * (2 : Int32)) * (2 : Int32))), .val (.int ((p3 * (2 : Int32)) * (2 : Int32))), iv (2 : Int32)] [(.ref a1), (.long (own_at8 q9 q10 q11 q12 q13 q14 q15 q16 ((((p2 * (2 : Int32)) * (2 : Int32)) + (2 : Int32)) + (1 : Int32))))] _
    refine st28 _ ?_
    refine xiload X28 hx hby d55_48 rfl ?_
    refine xiload X28 hx hby d55_50 rfl ?_
    refine XS.iadd X28.here hx rfl (hb hby d55_52) rfl ?_
    refine own_laJ X28 hx hZ e28 pr3 (v := (.long (own_at8 q9 q10 q11 q12 q13 q14 q15 q16 (((p3 * (2 : Int32)) * (2 : Int32)) + (2 : Int32))))) ⟨pr16, pr17⟩ (own_at8_s ..) (hb hby d55_53) ?_
    refine XS.lcmp X28.here hx rfl (hb hby d55_54) rfl ?_
    refine XS.ifYes X28.here hx rfl (pc0 := 55) (pc' := 83) rfl (hb hby d55_55) rfl ((if0 _ _).trans (tlt (((lw_lt (own_at8 q9 q10 q11 q12 q13 q14 q15 q16 ((((p2 * (2 : Int32)) * (2 : Int32)) + (2 : Int32)) + (1 : Int32))) (own_at8 q9 q10 q11 q12 q13 q14 q15 q16 (((p3 * (2 : Int32)) * (2 : Int32)) + (2 : Int32)))).mpr pr18) : (lcmpW (own_at8 q9 q10 q11 q12 q13 q14 q15 q16 ((((p2 * (2 : Int32)) * (2 : Int32)) + (2 : Int32)) + (1 : Int32))) (own_at8 q9 q10 q11 q12 q13 q14 q15 q16 (((p3 * (2 : Int32)) * (2 : Int32)) + (2 : Int32)))) < (0 : Int32))).1) (by decide) (by decide) ?_
    refine XS.iconst X28.here hx rfl (hb hby d55_83) ?_
    show SS p e below T28 m 84 #[rv a1, iv p2, iv p3, .val (.int ((p2 * (2 : Int32)) * (2 : Int32))), .val (.int ((p3 * (2 : Int32)) * (2 : Int32))), iv (2 : Int32)] [(.int (0 : Int32))] _
    exact retN X28 hx (t := .boolean) hret (by simp) (hb hby d55_84) hr
  · exact ⟨rfl, N0, rfl⟩
theorem rm55_4 (l : Launch) (Z : State) (a0 : Array Value) (hw : HW a0 Z) (a1 : Addr) (p2 p3 : Int32) (a7 : Addr) (q9 q10 q11 q12 q13 q14 q15 q16 : Int64) (k17 : ClassId) (h0 : Heap) (n0 : Nat) (OL0 : Old Z n0 h0) (pr1 : Fld Z h0 a1 s43 s15 "I" (.int (2 : Int32))) (pr2 : Fld Z h0 a1 s43 "values" "[J" (.ref a7)) (pr3 : Arv Z h0 a7 k17 .long (8 : Int32) [(.long q9), (.long q10), (.long q11), (.long q12), (.long q13), (.long q14), (.long q15), (.long q16)] (.long (0 : Int64))) (pr4 : ¬ (((((p2 * (2 : Int32)) * (2 : Int32)) + (0 : Int32)) + (1 : Int32)) < (0 : Int32))) (pr5 : ((((p2 * (2 : Int32)) * (2 : Int32)) + (0 : Int32)) + (1 : Int32)) < (8 : Int32)) (pr6 : ¬ ((((p3 * (2 : Int32)) * (2 : Int32)) + (0 : Int32)) < (0 : Int32))) (pr7 : (((p3 * (2 : Int32)) * (2 : Int32)) + (0 : Int32)) < (8 : Int32)) (pr8 : ¬ ((own_at8 q9 q10 q11 q12 q13 q14 q15 q16 ((((p2 * (2 : Int32)) * (2 : Int32)) + (0 : Int32)) + (1 : Int32))) < (own_at8 q9 q10 q11 q12 q13 q14 q15 q16 (((p3 * (2 : Int32)) * (2 : Int32)) + (0 : Int32))))) (pr9 : ¬ (((((p3 * (2 : Int32)) * (2 : Int32)) + (0 : Int32)) + (1 : Int32)) < (0 : Int32))) (pr10 : ((((p3 * (2 : Int32)) * (2 : Int32)) + (0 : Int32)) + (1 : Int32)) < (8 : Int32)) (pr11 : ¬ ((((p2 * (2 : Int32)) * (2 : Int32)) + (0 : Int32)) < (0 : Int32))) (pr12 : (((p2 * (2 : Int32)) * (2 : Int32)) + (0 : Int32)) < (8 : Int32)) (pr13 : ¬ ((own_at8 q9 q10 q11 q12 q13 q14 q15 q16 ((((p3 * (2 : Int32)) * (2 : Int32)) + (0 : Int32)) + (1 : Int32))) < (own_at8 q9 q10 q11 q12 q13 q14 q15 q16 (((p2 * (2 : Int32)) * (2 : Int32)) + (0 : Int32))))) (pr14 : ¬ (((((p2 * (2 : Int32)) * (2 : Int32)) + (2 : Int32)) + (1 : Int32)) < (0 : Int32))) (pr15 : ((((p2 * (2 : Int32)) * (2 : Int32)) + (2 : Int32)) + (1 : Int32)) < (8 : Int32)) (pr16 : ¬ ((((p3 * (2 : Int32)) * (2 : Int32)) + (2 : Int32)) < (0 : Int32))) (pr17 : (((p3 * (2 : Int32)) * (2 : Int32)) + (2 : Int32)) < (8 : Int32)) (pr18 : ¬ ((own_at8 q9 q10 q11 q12 q13 q14 q15 q16 ((((p2 * (2 : Int32)) * (2 : Int32)) + (2 : Int32)) + (1 : Int32))) < (own_at8 q9 q10 q11 q12 q13 q14 q15 q16 (((p3 * (2 : Int32)) * (2 : Int32)) + (2 : Int32))))) (pr19 : ¬ (((((p3 * (2 : Int32)) * (2 : Int32)) + (2 : Int32)) + (1 : Int32)) < (0 : Int32))) (pr20 : ((((p3 * (2 : Int32)) * (2 : Int32)) + (2 : Int32)) + (1 : Int32)) < (8 : Int32)) (pr21 : ¬ ((((p2 * (2 : Int32)) * (2 : Int32)) + (2 : Int32)) < (0 : Int32))) (pr22 : (((p2 * (2 : Int32)) * (2 : Int32)) + (2 : Int32)) < (8 : Int32)) (pr23 : ¬ ((own_at8 q9 q10 q11 q12 q13 q14 q15 q16 ((((p3 * (2 : Int32)) * (2 : Int32)) + (2 : Int32)) + (1 : Int32))) < (own_at8 q9 q10 q11 q12 q13 q14 q15 q16 (((p2 * (2 : Int32)) * (2 : Int32)) + (2 : Int32))))) :
    MF l Z mn55 prog_24_method_2_code 6 (some .boolean) ⟨0, 0, 0, 0⟩ #[(.ref a1), (.int p2), (.int p3)] h0 (QR n0 h0 (some (.int (1 : Int32)))) := by
  refine own_start (plainFor_of_name pn_19) (fun m => (ef_55_58 m a1 p2 p3)) ?_
  intro p e s m below meth c s₁ hZ hx hby hml hown hnm hret X0 e0
  have N0 := Fr.nil n0
  obtain ⟨T4, X4, e4, st4⟩ := gF X0 hx hZ hown (wd253 hw) Via.refl e0 pr1 2 #[rv a1, iv p2, iv p3, uu, uu, uu] [(.int p2)] (hb hby d55_2)
  obtain ⟨T5, X5, e5, st5⟩ := gF X4 hx hZ hown (wd253 hw) Via.refl e4 pr1 11 #[rv a1, iv p2, iv p3, .val (.int ((p2 * (2 : Int32)) * (2 : Int32))), uu, uu] [(.int p3)] (hb hby d55_11)
  obtain ⟨T6, X6, e6, st6⟩ := gF X5 hx hZ hown (wd253 hw) Via.refl e5 pr1 25 #[rv a1, iv p2, iv p3, .val (.int ((p2 * (2 : Int32)) * (2 : Int32))), .val (.int ((p3 * (2 : Int32)) * (2 : Int32))), iv (0 : Int32)] [(.int (0 : Int32))] (hb hby d55_25)
  obtain ⟨T8, X8, e8, st8⟩ := gF X6 hx hZ hown (wd264 hw) Via.refl e6 pr2 34 #[rv a1, iv p2, iv p3, .val (.int ((p2 * (2 : Int32)) * (2 : Int32))), .val (.int ((p3 * (2 : Int32)) * (2 : Int32))), iv (0 : Int32)] [] (hb hby d55_34)
  obtain ⟨T19, X19, e19, st19⟩ := gF X8 hx hZ hown (wd264 hw) Via.refl e8 pr2 45 #[rv a1, iv p2, iv p3, .val (.int ((p2 * (2 : Int32)) * (2 : Int32))), .val (.int ((p3 * (2 : Int32)) * (2 : Int32))), iv (0 : Int32)] [(.long (own_at8 q9 q10 q11 q12 q13 q14 q15 q16 ((((p2 * (2 : Int32)) * (2 : Int32)) + (0 : Int32)) + (1 : Int32))))] (hb hby d55_45)
  obtain ⟨T21, X21, e21, st21⟩ := gF X19 hx hZ hown (wd264 hw) Via.refl e19 pr2 59 #[rv a1, iv p2, iv p3, .val (.int ((p2 * (2 : Int32)) * (2 : Int32))), .val (.int ((p3 * (2 : Int32)) * (2 : Int32))), iv (0 : Int32)] [] (hb hby d55_59)
  obtain ⟨T23, X23, e23, st23⟩ := gF X21 hx hZ hown (wd264 hw) Via.refl e21 pr2 71 #[rv a1, iv p2, iv p3, .val (.int ((p2 * (2 : Int32)) * (2 : Int32))), .val (.int ((p3 * (2 : Int32)) * (2 : Int32))), iv (0 : Int32)] [(.long (own_at8 q9 q10 q11 q12 q13 q14 q15 q16 ((((p3 * (2 : Int32)) * (2 : Int32)) + (0 : Int32)) + (1 : Int32))))] (hb hby d55_71)
  obtain ⟨T25, X25, e25, st25⟩ := gF X23 hx hZ hown (wd253 hw) Via.refl e23 pr1 25 #[rv a1, iv p2, iv p3, .val (.int ((p2 * (2 : Int32)) * (2 : Int32))), .val (.int ((p3 * (2 : Int32)) * (2 : Int32))), iv (2 : Int32)] [(.int (2 : Int32))] (hb hby d55_25)
  obtain ⟨T26, X26, e26, st26⟩ := gF X25 hx hZ hown (wd264 hw) Via.refl e25 pr2 34 #[rv a1, iv p2, iv p3, .val (.int ((p2 * (2 : Int32)) * (2 : Int32))), .val (.int ((p3 * (2 : Int32)) * (2 : Int32))), iv (2 : Int32)] [] (hb hby d55_34)
  obtain ⟨T28, X28, e28, st28⟩ := gF X26 hx hZ hown (wd264 hw) Via.refl e26 pr2 45 #[rv a1, iv p2, iv p3, .val (.int ((p2 * (2 : Int32)) * (2 : Int32))), .val (.int ((p3 * (2 : Int32)) * (2 : Int32))), iv (2 : Int32)] [(.long (own_at8 q9 q10 q11 q12 q13 q14 q15 q16 ((((p2 * (2 : Int32)) * (2 : Int32)) + (2 : Int32)) + (1 : Int32))))] (hb hby d55_45)
  obtain ⟨T30, X30, e30, st30⟩ := gF X28 hx hZ hown (wd264 hw) Via.refl e28 pr2 59 #[rv a1, iv p2, iv p3, .val (.int ((p2 * (2 : Int32)) * (2 : Int32))), .val (.int ((p3 * (2 : Int32)) * (2 : Int32))), iv (2 : Int32)] [] (hb hby d55_59)
  obtain ⟨T32, X32, e32, st32⟩ := gF X30 hx hZ hown (wd264 hw) Via.refl e30 pr2 71 #[rv a1, iv p2, iv p3, .val (.int ((p2 * (2 : Int32)) * (2 : Int32))), .val (.int ((p3 * (2 : Int32)) * (2 : Int32))), iv (2 : Int32)] [(.long (own_at8 q9 q10 q11 q12 q13 q14 q15 q16 ((((p3 * (2 : Int32)) * (2 : Int32)) + (2 : Int32)) + (1 : Int32))))] (hb hby d55_71)
  obtain ⟨T34, X34, e34, st34⟩ := gF X32 hx hZ hown (wd253 hw) Via.refl e32 pr1 25 #[rv a1, iv p2, iv p3, .val (.int ((p2 * (2 : Int32)) * (2 : Int32))), .val (.int ((p3 * (2 : Int32)) * (2 : Int32))), iv (4 : Int32)] [(.int (4 : Int32))] (hb hby d55_25)
  refine ⟨some (.int (1 : Int32)), _, _, _, _, _, X34, e34, by decide, nofun, fun fs hr => ?_, ?_⟩
  · refine xiloadN X0 hx hby d55_0 rfl ?_
    show SS p e below s₁ m 1 #[rv a1, iv p2, iv p3, uu, uu, uu] [(.int p2)] _
    refine xaloadN X0 hx hby d55_1 rfl rfl ?_
    refine st4 _ ?_
    refine XS.imul X4.here hx rfl (hb hby d55_5) rfl ?_
    refine XS.iconst X4.here hx rfl (hb hby d55_6) ?_
    refine XS.imul X4.here hx rfl (hb hby d55_7) rfl ?_
    refine XS.istoreN X4.here hx rfl (hb hby d55_8) rfl (l' := #[rv a1, iv p2, iv p3, .val (.int ((p2 * (2 : Int32)) * (2 : Int32))), uu, uu]) rfl ?_
    refine xiloadN X4 hx hby d55_9 rfl ?_
    refine xaloadN X4 hx hby d55_10 rfl rfl ?_
    refine st5 _ ?_
    refine XS.imul X5.here hx rfl (hb hby d55_14) rfl ?_
    show SS p e below T5 m 15 #[rv a1, iv p2, iv p3, .val (.int ((p2 * (2 : Int32)) * (2 : Int32))), uu, uu] [(.int (p3 * (2 : Int32)))] _
    refine XS.iconst X5.here hx rfl (hb hby d55_15) ?_
    refine XS.imul X5.here hx rfl (hb hby d55_16) rfl ?_
    refine XS.istore X5.here hx rfl (hb hby d55_17) rfl (l' := #[rv a1, iv p2, iv p3, .val (.int ((p2 * (2 : Int32)) * (2 : Int32))), .val (.int ((p3 * (2 : Int32)) * (2 : Int32))), uu]) rfl ?_
    refine XS.iconst X5.here hx rfl (hb hby d55_19) ?_
    refine XS.istore X5.here hx rfl (hb hby d55_20) rfl (l' := #[rv a1, iv p2, iv p3, .val (.int ((p2 * (2 : Int32)) * (2 : Int32))), .val (.int ((p3 * (2 : Int32)) * (2 : Int32))), iv (0 : Int32)]) rfl ?_
    refine xiload X5 hx hby d55_22 rfl ?_
    refine xaloadN X5 hx hby d55_24 rfl rfl ?_
    refine st6 _ ?_
    refine XS.iconst X6.here hx rfl (hb hby d55_28) ?_
    refine XS.imul X6.here hx rfl (hb hby d55_29) rfl ?_
    show SS p e below T6 m 30 #[rv a1, iv p2, iv p3, .val (.int ((p2 * (2 : Int32)) * (2 : Int32))), .val (.int ((p3 * (2 : Int32)) * (2 : Int32))), iv (0 : Int32)] [(.int (4 : Int32)), (.int (0 : Int32))] _
    refine XS.icmpNo X6.here hx rfl (hb hby d55_30) rfl (tlt (by decide : (0 : Int32) < (4 : Int32))).2.1 ?_
    refine xaloadN X6 hx hby d55_33 rfl rfl ?_
    refine st8 _ ?_
    refine xiloadN X8 hx hby d55_37 rfl ?_
    refine xiload X8 hx hby d55_38 rfl ?_
    refine XS.iadd X8.here hx rfl (hb hby d55_40) rfl ?_
    refine XS.iconst X8.here hx rfl (hb hby d55_41) ?_
    refine XS.iadd X8.here hx rfl (hb hby d55_42) rfl ?_
    refine own_laJ X8 hx hZ e8 pr3 (v := (.long (own_at8 q9 q10 q11 q12 q13 q14 q15 q16 ((((p2 * (2 : Int32)) * (2 : Int32)) + (0 : Int32)) + (1 : Int32))))) ⟨pr4, pr5⟩ (own_at8_s ..) (hb hby d55_43) ?_
    refine xaloadN X8 hx hby d55_44 rfl rfl ?_
    show SS p e below T8 m 45 #[rv a1, iv p2, iv p3, .val (.int ((p2 * (2 : Int32)) * (2 : Int32))), .val (.int ((p3 * (2 : Int32)) * (2 : Int32))), iv (0 : Int32)] [(.ref a1), (.long (own_at8 q9 q10 q11 q12 q13 q14 q15 q16 ((((p2 * (2 : Int32)) * (2 : Int32)) + (0 : Int32)) + (1 : Int32))))] _
    refine st19 _ ?_
    refine xiload X19 hx hby d55_48 rfl ?_
    refine xiload X19 hx hby d55_50 rfl ?_
    refine XS.iadd X19.here hx rfl (hb hby d55_52) rfl ?_
    refine own_laJ X19 hx hZ e19 pr3 (v := (.long (own_at8 q9 q10 q11 q12 q13 q14 q15 q16 (((p3 * (2 : Int32)) * (2 : Int32)) + (0 : Int32))))) ⟨pr6, pr7⟩ (own_at8_s ..) (hb hby d55_53) ?_
    refine XS.lcmp X19.here hx rfl (hb hby d55_54) rfl ?_
    refine XS.ifNo X19.here hx rfl (hb hby d55_55) rfl ((if0 _ _).trans (flt ((fun z => pr8 ((lw_lt (own_at8 q9 q10 q11 q12 q13 q14 q15 q16 ((((p2 * (2 : Int32)) * (2 : Int32)) + (0 : Int32)) + (1 : Int32))) (own_at8 q9 q10 q11 q12 q13 q14 q15 q16 (((p3 * (2 : Int32)) * (2 : Int32)) + (0 : Int32)))).mp z)) : ¬ ((lcmpW (own_at8 q9 q10 q11 q12 q13 q14 q15 q16 ((((p2 * (2 : Int32)) * (2 : Int32)) + (0 : Int32)) + (1 : Int32))) (own_at8 q9 q10 q11 q12 q13 q14 q15 q16 (((p3 * (2 : Int32)) * (2 : Int32)) + (0 : Int32)))) < (0 : Int32)))).1) ?_
    refine xaloadN X19 hx hby d55_58 rfl rfl ?_
    refine st21 _ ?_
    refine xiload X21 hx hby d55_62 rfl ?_
    show SS p e below T21 m 64 #[rv a1, iv p2, iv p3, .val (.int ((p2 * (2 : Int32)) * (2 : Int32))), .val (.int ((p3 * (2 : Int32)) * (2 : Int32))), iv (0 : Int32)] [(.int ((p3 * (2 : Int32)) * (2 : Int32))), (.ref a7)] _
    refine xiload X21 hx hby d55_64 rfl ?_
    refine XS.iadd X21.here hx rfl (hb hby d55_66) rfl ?_
    refine XS.iconst X21.here hx rfl (hb hby d55_67) ?_
    refine XS.iadd X21.here hx rfl (hb hby d55_68) rfl ?_
    refine own_laJ X21 hx hZ e21 pr3 (v := (.long (own_at8 q9 q10 q11 q12 q13 q14 q15 q16 ((((p3 * (2 : Int32)) * (2 : Int32)) + (0 : Int32)) + (1 : Int32))))) ⟨pr9, pr10⟩ (own_at8_s ..) (hb hby d55_69) ?_
    refine xaloadN X21 hx hby d55_70 rfl rfl ?_
    refine st23 _ ?_
    refine xiloadN X23 hx hby d55_74 rfl ?_
    refine xiload X23 hx hby d55_75 rfl ?_
    refine XS.iadd X23.here hx rfl (hb hby d55_77) rfl ?_
    show SS p e below T23 m 78 #[rv a1, iv p2, iv p3, .val (.int ((p2 * (2 : Int32)) * (2 : Int32))), .val (.int ((p3 * (2 : Int32)) * (2 : Int32))), iv (0 : Int32)] [(.int (((p2 * (2 : Int32)) * (2 : Int32)) + (0 : Int32))), (.ref a7), (.long (own_at8 q9 q10 q11 q12 q13 q14 q15 q16 ((((p3 * (2 : Int32)) * (2 : Int32)) + (0 : Int32)) + (1 : Int32))))] _
    refine own_laJ X23 hx hZ e23 pr3 (v := (.long (own_at8 q9 q10 q11 q12 q13 q14 q15 q16 (((p2 * (2 : Int32)) * (2 : Int32)) + (0 : Int32))))) ⟨pr11, pr12⟩ (own_at8_s ..) (hb hby d55_78) ?_
    refine XS.lcmp X23.here hx rfl (hb hby d55_79) rfl ?_
    refine XS.ifYes X23.here hx rfl (pc0 := 80) (pc' := 85) rfl (hb hby d55_80) rfl ((if0 _ _).trans (flt ((fun z => pr13 ((lw_lt (own_at8 q9 q10 q11 q12 q13 q14 q15 q16 ((((p3 * (2 : Int32)) * (2 : Int32)) + (0 : Int32)) + (1 : Int32))) (own_at8 q9 q10 q11 q12 q13 q14 q15 q16 (((p2 * (2 : Int32)) * (2 : Int32)) + (0 : Int32)))).mp z)) : ¬ ((lcmpW (own_at8 q9 q10 q11 q12 q13 q14 q15 q16 ((((p3 * (2 : Int32)) * (2 : Int32)) + (0 : Int32)) + (1 : Int32))) (own_at8 q9 q10 q11 q12 q13 q14 q15 q16 (((p2 * (2 : Int32)) * (2 : Int32)) + (0 : Int32)))) < (0 : Int32)))).2.1) (by decide) (by decide) ?_
    refine XS.iinc X23.here hx rfl (hb hby d55_85) rfl (l' := #[rv a1, iv p2, iv p3, .val (.int ((p2 * (2 : Int32)) * (2 : Int32))), .val (.int ((p3 * (2 : Int32)) * (2 : Int32))), .val (.int ((0 : Int32) + (2 : Int32)))]) rfl ?_
    refine XS.goto X23.here hx rfl (pc0 := 88) (pc' := 22) rfl (hb hby d55_88) (by decide) (by decide) ?_
    refine xiload X23 hx hby d55_22 rfl ?_
    refine xaloadN X23 hx hby d55_24 rfl rfl ?_
    refine st25 _ ?_
    refine XS.iconst X25.here hx rfl (hb hby d55_28) ?_
    refine XS.imul X25.here hx rfl (hb hby d55_29) rfl ?_
    show SS p e below T25 m 30 #[rv a1, iv p2, iv p3, .val (.int ((p2 * (2 : Int32)) * (2 : Int32))), .val (.int ((p3 * (2 : Int32)) * (2 : Int32))), iv (2 : Int32)] [(.int (4 : Int32)), (.int (2 : Int32))] _
    refine XS.icmpNo X25.here hx rfl (hb hby d55_30) rfl (tlt (by decide : (2 : Int32) < (4 : Int32))).2.1 ?_
    refine xaloadN X25 hx hby d55_33 rfl rfl ?_
    refine st26 _ ?_
    refine xiloadN X26 hx hby d55_37 rfl ?_
    refine xiload X26 hx hby d55_38 rfl ?_
    refine XS.iadd X26.here hx rfl (hb hby d55_40) rfl ?_
    refine XS.iconst X26.here hx rfl (hb hby d55_41) ?_
    refine XS.iadd X26.here hx rfl (hb hby d55_42) rfl ?_
    refine own_laJ X26 hx hZ e26 pr3 (v := (.long (own_at8 q9 q10 q11 q12 q13 q14 q15 q16 ((((p2 * (2 : Int32)) * (2 : Int32)) + (2 : Int32)) + (1 : Int32))))) ⟨pr14, pr15⟩ (own_at8_s ..) (hb hby d55_43) ?_
    refine xaloadN X26 hx hby d55_44 rfl rfl ?_
    show SS p e below T26 m 45 #[rv a1, iv p2, iv p3, .val (.int ((p2 * (2 : Int32)) * (2 : Int32))), .val (.int ((p3 * (2 : Int32)) * (2 : Int32))), iv (2 : Int32)] [(.ref a1), (.long (own_at8 q9 q10 q11 q12 q13 q14 q15 q16 ((((p2 * (2 : Int32)) * (2 : Int32)) + (2 : Int32)) + (1 : Int32))))] _
    refine st28 _ ?_
    refine xiload X28 hx hby d55_48 rfl ?_
    refine xiload X28 hx hby d55_50 rfl ?_
    refine XS.iadd X28.here hx rfl (hb hby d55_52) rfl ?_
    refine own_laJ X28 hx hZ e28 pr3 (v := (.long (own_at8 q9 q10 q11 q12 q13 q14 q15 q16 (((p3 * (2 : Int32)) * (2 : Int32)) + (2 : Int32))))) ⟨pr16, pr17⟩ (own_at8_s ..) (hb hby d55_53) ?_
    refine XS.lcmp X28.here hx rfl (hb hby d55_54) rfl ?_
    refine XS.ifNo X28.here hx rfl (hb hby d55_55) rfl ((if0 _ _).trans (flt ((fun z => pr18 ((lw_lt (own_at8 q9 q10 q11 q12 q13 q14 q15 q16 ((((p2 * (2 : Int32)) * (2 : Int32)) + (2 : Int32)) + (1 : Int32))) (own_at8 q9 q10 q11 q12 q13 q14 q15 q16 (((p3 * (2 : Int32)) * (2 : Int32)) + (2 : Int32)))).mp z)) : ¬ ((lcmpW (own_at8 q9 q10 q11 q12 q13 q14 q15 q16 ((((p2 * (2 : Int32)) * (2 : Int32)) + (2 : Int32)) + (1 : Int32))) (own_at8 q9 q10 q11 q12 q13 q14 q15 q16 (((p3 * (2 : Int32)) * (2 : Int32)) + (2 : Int32)))) < (0 : Int32)))).1) ?_
    refine xaloadN X28 hx hby d55_58 rfl rfl ?_
    refine st30 _ ?_
    refine xiload X30 hx hby d55_62 rfl ?_
    show SS p e below T30 m 64 #[rv a1, iv p2, iv p3, .val (.int ((p2 * (2 : Int32)) * (2 : Int32))), .val (.int ((p3 * (2 : Int32)) * (2 : Int32))), iv (2 : Int32)] [(.int ((p3 * (2 : Int32)) * (2 : Int32))), (.ref a7)] _
    refine xiload X30 hx hby d55_64 rfl ?_
    refine XS.iadd X30.here hx rfl (hb hby d55_66) rfl ?_
    refine XS.iconst X30.here hx rfl (hb hby d55_67) ?_
    refine XS.iadd X30.here hx rfl (hb hby d55_68) rfl ?_
    refine own_laJ X30 hx hZ e30 pr3 (v := (.long (own_at8 q9 q10 q11 q12 q13 q14 q15 q16 ((((p3 * (2 : Int32)) * (2 : Int32)) + (2 : Int32)) + (1 : Int32))))) ⟨pr19, pr20⟩ (own_at8_s ..) (hb hby d55_69) ?_
    refine xaloadN X30 hx hby d55_70 rfl rfl ?_
    refine st32 _ ?_
    refine xiloadN X32 hx hby d55_74 rfl ?_
    refine xiload X32 hx hby d55_75 rfl ?_
    refine XS.iadd X32.here hx rfl (hb hby d55_77) rfl ?_
    show SS p e below T32 m 78 #[rv a1, iv p2, iv p3, .val (.int ((p2 * (2 : Int32)) * (2 : Int32))), .val (.int ((p3 * (2 : Int32)) * (2 : Int32))), iv (2 : Int32)] [(.int (((p2 * (2 : Int32)) * (2 : Int32)) + (2 : Int32))), (.ref a7), (.long (own_at8 q9 q10 q11 q12 q13 q14 q15 q16 ((((p3 * (2 : Int32)) * (2 : Int32)) + (2 : Int32)) + (1 : Int32))))] _
    refine own_laJ X32 hx hZ e32 pr3 (v := (.long (own_at8 q9 q10 q11 q12 q13 q14 q15 q16 (((p2 * (2 : Int32)) * (2 : Int32)) + (2 : Int32))))) ⟨pr21, pr22⟩ (own_at8_s ..) (hb hby d55_78) ?_
    refine XS.lcmp X32.here hx rfl (hb hby d55_79) rfl ?_
    refine XS.ifYes X32.here hx rfl (pc0 := 80) (pc' := 85) rfl (hb hby d55_80) rfl ((if0 _ _).trans (flt ((fun z => pr23 ((lw_lt (own_at8 q9 q10 q11 q12 q13 q14 q15 q16 ((((p3 * (2 : Int32)) * (2 : Int32)) + (2 : Int32)) + (1 : Int32))) (own_at8 q9 q10 q11 q12 q13 q14 q15 q16 (((p2 * (2 : Int32)) * (2 : Int32)) + (2 : Int32)))).mp z)) : ¬ ((lcmpW (own_at8 q9 q10 q11 q12 q13 q14 q15 q16 ((((p3 * (2 : Int32)) * (2 : Int32)) + (2 : Int32)) + (1 : Int32))) (own_at8 q9 q10 q11 q12 q13 q14 q15 q16 (((p2 * (2 : Int32)) * (2 : Int32)) + (2 : Int32)))) < (0 : Int32)))).2.1) (by decide) (by decide) ?_
    refine XS.iinc X32.here hx rfl (hb hby d55_85) rfl (l' := #[rv a1, iv p2, iv p3, .val (.int ((p2 * (2 : Int32)) * (2 : Int32))), .val (.int ((p3 * (2 : Int32)) * (2 : Int32))), .val (.int ((2 : Int32) + (2 : Int32)))]) rfl ?_
    refine XS.goto X32.here hx rfl (pc0 := 88) (pc' := 22) rfl (hb hby d55_88) (by decide) (by decide) ?_
    refine xiload X32 hx hby d55_22 rfl ?_
    refine xaloadN X32 hx hby d55_24 rfl rfl ?_
    refine st34 _ ?_
    refine XS.iconst X34.here hx rfl (hb hby d55_28) ?_
    refine XS.imul X34.here hx rfl (hb hby d55_29) rfl ?_
    show SS p e below T34 m 30 #[rv a1, iv p2, iv p3, .val (.int ((p2 * (2 : Int32)) * (2 : Int32))), .val (.int ((p3 * (2 : Int32)) * (2 : Int32))), iv (4 : Int32)] [(.int (4 : Int32)), (.int (4 : Int32))] _
    refine XS.icmpYes X34.here hx rfl (pc0 := 30) (pc' := 91) rfl (hb hby d55_30) rfl (flt (by decide : ¬ ((4 : Int32) < (4 : Int32)))).2.1 (by decide) (by decide) ?_
    refine XS.iconst X34.here hx rfl (hb hby d55_91) ?_
    show SS p e below T34 m 92 #[rv a1, iv p2, iv p3, .val (.int ((p2 * (2 : Int32)) * (2 : Int32))), .val (.int ((p3 * (2 : Int32)) * (2 : Int32))), iv (4 : Int32)] [(.int (1 : Int32))] _
    exact retN X34 hx (t := .boolean) hret (by simp) (hb hby d55_92) hr
  · exact ⟨rfl, N0, rfl⟩
def own_meet (p2 p3 : Int32) (q9 q10 q11 q12 q13 q14 q15 q16 : Int64) : Int32 := (if (own_at8 q9 q10 q11 q12 q13 q14 q15 q16 ((((p2 * (2 : Int32)) * (2 : Int32)) + (0 : Int32)) + (1 : Int32))) < (own_at8 q9 q10 q11 q12 q13 q14 q15 q16 (((p3 * (2 : Int32)) * (2 : Int32)) + (0 : Int32))) then (0 : Int32) else (if (own_at8 q9 q10 q11 q12 q13 q14 q15 q16 ((((p3 * (2 : Int32)) * (2 : Int32)) + (0 : Int32)) + (1 : Int32))) < (own_at8 q9 q10 q11 q12 q13 q14 q15 q16 (((p2 * (2 : Int32)) * (2 : Int32)) + (0 : Int32))) then (0 : Int32) else (if (own_at8 q9 q10 q11 q12 q13 q14 q15 q16 ((((p2 * (2 : Int32)) * (2 : Int32)) + (2 : Int32)) + (1 : Int32))) < (own_at8 q9 q10 q11 q12 q13 q14 q15 q16 (((p3 * (2 : Int32)) * (2 : Int32)) + (2 : Int32))) then (0 : Int32) else (if (own_at8 q9 q10 q11 q12 q13 q14 q15 q16 ((((p3 * (2 : Int32)) * (2 : Int32)) + (2 : Int32)) + (1 : Int32))) < (own_at8 q9 q10 q11 q12 q13 q14 q15 q16 (((p2 * (2 : Int32)) * (2 : Int32)) + (2 : Int32))) then (0 : Int32) else (1 : Int32)))))
theorem mg_own_meet (l : Launch) (Z : State) (a0 : Array Value) (hw : HW a0 Z) (a1 : Addr) (p2 p3 : Int32) (a7 : Addr) (q9 q10 q11 q12 q13 q14 q15 q16 : Int64) (k17 : ClassId) (h0 : Heap) (n0 : Nat) (OL0 : Old Z n0 h0) (pr1 : Fld Z h0 a1 s43 s15 "I" (.int (2 : Int32))) (pr2 : Fld Z h0 a1 s43 "values" "[J" (.ref a7)) (pr3 : Arv Z h0 a7 k17 .long (8 : Int32) [(.long q9), (.long q10), (.long q11), (.long q12), (.long q13), (.long q14), (.long q15), (.long q16)] (.long (0 : Int64))) (pr4 : ¬ (((((p2 * (2 : Int32)) * (2 : Int32)) + (0 : Int32)) + (1 : Int32)) < (0 : Int32))) (pr5 : ((((p2 * (2 : Int32)) * (2 : Int32)) + (0 : Int32)) + (1 : Int32)) < (8 : Int32)) (pr6 : ¬ ((((p3 * (2 : Int32)) * (2 : Int32)) + (0 : Int32)) < (0 : Int32))) (pr7 : (((p3 * (2 : Int32)) * (2 : Int32)) + (0 : Int32)) < (8 : Int32)) (pr9 : ¬ (((((p3 * (2 : Int32)) * (2 : Int32)) + (0 : Int32)) + (1 : Int32)) < (0 : Int32))) (pr10 : ((((p3 * (2 : Int32)) * (2 : Int32)) + (0 : Int32)) + (1 : Int32)) < (8 : Int32)) (pr11 : ¬ ((((p2 * (2 : Int32)) * (2 : Int32)) + (0 : Int32)) < (0 : Int32))) (pr12 : (((p2 * (2 : Int32)) * (2 : Int32)) + (0 : Int32)) < (8 : Int32)) (pr14 : ¬ (((((p2 * (2 : Int32)) * (2 : Int32)) + (2 : Int32)) + (1 : Int32)) < (0 : Int32))) (pr15 : ((((p2 * (2 : Int32)) * (2 : Int32)) + (2 : Int32)) + (1 : Int32)) < (8 : Int32)) (pr16 : ¬ ((((p3 * (2 : Int32)) * (2 : Int32)) + (2 : Int32)) < (0 : Int32))) (pr17 : (((p3 * (2 : Int32)) * (2 : Int32)) + (2 : Int32)) < (8 : Int32)) (pr19 : ¬ (((((p3 * (2 : Int32)) * (2 : Int32)) + (2 : Int32)) + (1 : Int32)) < (0 : Int32))) (pr20 : ((((p3 * (2 : Int32)) * (2 : Int32)) + (2 : Int32)) + (1 : Int32)) < (8 : Int32)) (pr21 : ¬ ((((p2 * (2 : Int32)) * (2 : Int32)) + (2 : Int32)) < (0 : Int32))) (pr22 : (((p2 * (2 : Int32)) * (2 : Int32)) + (2 : Int32)) < (8 : Int32)) :
    MF l Z mn55 prog_24_method_2_code 6 (some .boolean) ⟨0, 0, 0, 0⟩ #[(.ref a1), (.int p2), (.int p3)] h0 (QR n0 h0 (some (.int (own_meet p2 p3 q9 q10 q11 q12 q13 q14 q15 q16)))) := by
  by_cases hd0 : (own_at8 q9 q10 q11 q12 q13 q14 q15 q16 ((((p2 * (2 : Int32)) * (2 : Int32)) + (0 : Int32)) + (1 : Int32))) < (own_at8 q9 q10 q11 q12 q13 q14 q15 q16 (((p3 * (2 : Int32)) * (2 : Int32)) + (0 : Int32)))
  · rw [show (own_meet p2 p3 q9 q10 q11 q12 q13 q14 q15 q16) = (0 : Int32) from by unfold own_meet; rw [if_pos hd0]]
    exact rm55_1 l Z a0 hw a1 p2 p3 a7 q9 q10 q11 q12 q13 q14 q15 q16 k17 h0 n0 OL0 pr1 pr2 pr3 pr4 pr5 pr6 pr7 hd0
  · by_cases hd1 : (own_at8 q9 q10 q11 q12 q13 q14 q15 q16 ((((p3 * (2 : Int32)) * (2 : Int32)) + (0 : Int32)) + (1 : Int32))) < (own_at8 q9 q10 q11 q12 q13 q14 q15 q16 (((p2 * (2 : Int32)) * (2 : Int32)) + (0 : Int32)))
    · rw [show (own_meet p2 p3 q9 q10 q11 q12 q13 q14 q15 q16) = (0 : Int32) from by unfold own_meet; rw [if_neg hd0, if_pos hd1]]
      exact rm55_0 l Z a0 hw a1 p2 p3 a7 q9 q10 q11 q12 q13 q14 q15 q16 k17 h0 n0 OL0 pr1 pr2 pr3 pr4 pr5 pr6 pr7 hd0 pr9 pr10 pr11 pr12 hd1
    · by_cases hd2 : (own_at8 q9 q10 q11 q12 q13 q14 q15 q16 ((((p2 * (2 : Int32)) * (2 : Int32)) + (2 : Int32)) + (1 : Int32))) < (own_at8 q9 q10 q11 q12 q13 q14 q15 q16 (((p3 * (2 : Int32)) * (2 : Int32)) + (2 : Int32)))
      · rw [show (own_meet p2 p3 q9 q10 q11 q12 q13 q14 q15 q16) = (0 : Int32) from by unfold own_meet; rw [if_neg hd0, if_neg hd1, if_pos hd2]]
        exact rm55_3 l Z a0 hw a1 p2 p3 a7 q9 q10 q11 q12 q13 q14 q15 q16 k17 h0 n0 OL0 pr1 pr2 pr3 pr4 pr5 pr6 pr7 hd0 pr9 pr10 pr11 pr12 hd1 pr14 pr15 pr16 pr17 hd2
      · by_cases hd3 : (own_at8 q9 q10 q11 q12 q13 q14 q15 q16 ((((p3 * (2 : Int32)) * (2 : Int32)) + (2 : Int32)) + (1 : Int32))) < (own_at8 q9 q10 q11 q12 q13 q14 q15 q16 (((p2 * (2 : Int32)) * (2 : Int32)) + (2 : Int32)))
        · rw [show (own_meet p2 p3 q9 q10 q11 q12 q13 q14 q15 q16) = (0 : Int32) from by unfold own_meet; rw [if_neg hd0, if_neg hd1, if_neg hd2, if_pos hd3]]
          exact rm55_2 l Z a0 hw a1 p2 p3 a7 q9 q10 q11 q12 q13 q14 q15 q16 k17 h0 n0 OL0 pr1 pr2 pr3 pr4 pr5 pr6 pr7 hd0 pr9 pr10 pr11 pr12 hd1 pr14 pr15 pr16 pr17 hd2 pr19 pr20 pr21 pr22 hd3
        · rw [show (own_meet p2 p3 q9 q10 q11 q12 q13 q14 q15 q16) = (1 : Int32) from by unfold own_meet; rw [if_neg hd0, if_neg hd1, if_neg hd2, if_neg hd3]]
          exact rm55_4 l Z a0 hw a1 p2 p3 a7 q9 q10 q11 q12 q13 q14 q15 q16 k17 h0 n0 OL0 pr1 pr2 pr3 pr4 pr5 pr6 pr7 hd0 pr9 pr10 pr11 pr12 hd1 pr14 pr15 pr16 pr17 hd2 pr19 pr20 pr21 pr22 hd3
theorem pd_34 : parseMethodDescriptor "(II)Z" = some ⟨[.int, .int], some .boolean⟩ := by decide +kernel
theorem cw59 {a0 Z} (hw : HW a0 Z) : CV a0 Z s44 66 mn55 mn55 s43 2 (.code mn55 prog_24_method_2_code 6 (some .boolean)) :=
  ⟨wx hw 396 rfl, wx hw 397 rfl, (fun _ hZ => notFace_of_selects (args := #[]) (mvT hZ (wd399 hw))), wx hw 399 rfl, wx hw 398 rfl, wx hw 400 rfl, wx hw 248 rfl, by decide, _, _, pd_34, rfl⟩
theorem own_01 {x y : Int32} (h : (x &&& (1 : Int32)) = y) : y = 0 ∨ y = 1 := h ▸ and_one x
theorem own_jmax_id2 {lo hi : Int64} (h1 : ¬ (hi < lo)) (h2 : ¬ (lo < (0 : Int64))) : own_jmax (-1 : Int64) hi = hi := own_jmax_id (by
  rw [Int64.lt_iff_toInt_lt] at h1 h2 ⊢
  omega)
theorem own_fin0 {P Q R S : Prop} [Decidable P] [Decidable Q] [Decidable R] [Decidable S] : (if P then (0 : Int32) else if Q then 0 else if R then 0 else if S then 0 else 1) = if (if Q then (0 : Int32) else if P then 0 else 1) = 0 then 0 else if (if S then (0 : Int32) else if R then 0 else 1) = 0 then 0 else 1 := by
  by_cases P <;> by_cases Q <;> by_cases R <;> by_cases S <;> simp [*]
theorem own_finA {a b : Int32} (ha : a = 0 ∨ a = 1) (hb : b = 0 ∨ b = 1) (l0 h0 l1 h1 l2 h2 l3 h3 : Int64) : own_meet a b l0 h0 l1 h1 l2 h2 l3 h3 =
    if own_ov (own_at4 l0 l1 l2 l3 (a * (2 : Int32))) (own_at4 h0 h1 h2 h3 (a * (2 : Int32))) (own_at4 l0 l1 l2 l3 (b * (2 : Int32))) (own_at4 h0 h1 h2 h3 (b * (2 : Int32))) = 0 then 0
    else if own_ov (own_at4 l0 l1 l2 l3 ((a * (2 : Int32)) + (1 : Int32))) (own_at4 h0 h1 h2 h3 ((a * (2 : Int32)) + (1 : Int32))) (own_at4 l0 l1 l2 l3 ((b * (2 : Int32)) + (1 : Int32))) (own_at4 h0 h1 h2 h3 ((b * (2 : Int32)) + (1 : Int32))) = 0 then 0 else 1 := by
  rcases ha with rfl | rfl <;> rcases hb with rfl | rfl <;> exact own_fin0
theorem own_finB {a b : Int32} (ha : a = 0 ∨ a = 1) (hb : b = 0 ∨ b = 1) (h : a = 1 ∨ b = 1) {l0 h0 l1 h1 : Int64} (p : ¬ (l0 < (0 : Int64))) (q : ¬ ((281474976710656 : Int64) < h0)) :
    own_meet a b l0 h0 l1 h1 (9223372036854775807 : Int64) (-1 : Int64) (9223372036854775807 : Int64) (-1 : Int64) = 0 := by
  have p' : (-1 : Int64) < l0 := by
    rw [Int64.lt_iff_toInt_lt] at p ⊢
    have e1 : (0 : Int64).toInt = 0 := by decide
    have e2 : (-1 : Int64).toInt = -1 := by decide
    omega
  have q' : h0 < (9223372036854775807 : Int64) := by
    rw [Int64.lt_iff_toInt_lt] at q ⊢
    have e1 : (281474976710656 : Int64).toInt = 281474976710656 := by decide
    have e2 : (9223372036854775807 : Int64).toInt = 9223372036854775807 := by decide
    omega
  rcases ha with rfl | rfl <;> rcases hb with rfl | rfl
  · rcases h with h | h <;> exact absurd h (by decide)
  · exact if_pos q'
  · exact if_pos p'
  · exact if_pos (by decide : (-1 : Int64) < (9223372036854775807 : Int64))
theorem own_a0 {a : Int32} (ha : a = 0 ∨ a = 1) (na : ¬ a = (1 : Int32)) : a = 0 := ha.resolve_right na
theorem own_finC {a b : Int32} (ha : a = 0 ∨ a = 1) (hb : b = 0 ∨ b = 1) (na : ¬ a = (1 : Int32)) (nb : ¬ b = (1 : Int32)) {l0 h0 l1 h1 v4 v5 v6 v7 : Int64} (p : ¬ (h0 < l0)) (q : ¬ (h1 < l1)) :
    own_meet a b l0 h0 l1 h1 v4 v5 v6 v7 = 1 := by
  obtain rfl := own_a0 ha na
  obtain rfl := own_a0 hb nb
  exact (if_neg p).trans ((if_neg p).trans ((if_neg q).trans (if_neg q)))
theorem own_ovn {l h : Int64} (p : ¬ (h < l)) : ¬ (own_ov l h l h = (0 : Int32)) := by
  have e : own_ov l h l h = 1 := (if_neg p).trans (if_neg p)
  rw [e]; decide
theorem own_ov0 {a b : Int32} (ha : a = 0 ∨ a = 1) (hb : b = 0 ∨ b = 1) (na : ¬ a = (1 : Int32)) (nb : ¬ b = (1 : Int32)) {l0 h0 l1 h1 l2 h2 l3 h3 : Int64} (p : ¬ (h0 < l0)) :
    ¬ (own_ov (own_at4 l0 l1 l2 l3 (a * (2 : Int32))) (own_at4 h0 h1 h2 h3 (a * (2 : Int32))) (own_at4 l0 l1 l2 l3 (b * (2 : Int32))) (own_at4 h0 h1 h2 h3 (b * (2 : Int32))) = (0 : Int32)) := by
  obtain rfl := own_a0 ha na
  obtain rfl := own_a0 hb nb
  exact own_ovn p
theorem own_ov1 {a b : Int32} (ha : a = 0 ∨ a = 1) (hb : b = 0 ∨ b = 1) (na : ¬ a = (1 : Int32)) (nb : ¬ b = (1 : Int32)) {l0 h0 l1 h1 l2 h2 l3 h3 : Int64} (p : ¬ (h1 < l1)) :
    ¬ (own_ov (own_at4 l0 l1 l2 l3 ((a * (2 : Int32)) + (1 : Int32))) (own_at4 h0 h1 h2 h3 ((a * (2 : Int32)) + (1 : Int32))) (own_at4 l0 l1 l2 l3 ((b * (2 : Int32)) + (1 : Int32))) (own_at4 h0 h1 h2 h3 ((b * (2 : Int32)) + (1 : Int32))) = (0 : Int32)) := by
  obtain rfl := own_a0 ha na
  obtain rfl := own_a0 hb nb
  exact own_ovn p
theorem d22_7 : DC cb22 7 (.iconst 1) 1 := by decide +kernel
theorem d22_8 : DC cb22 8 (.goto 4) 3 := by decide +kernel
theorem rm22_2 (l : Launch) (Z : State) (a0 : Array Value) (hw : HW a0 Z) (a1 : Addr) (h0 : Heap) (n0 : Nat) (OL0 : Old Z n0 h0) (pr1 : Fld Z h0 a1 s26 "size" "I" (.int (0 : Int32))) :
    MF l Z mn22 jdk_38_method_9_code 1 (some .boolean) ⟨0, 0, 0, 0⟩ #[(.ref a1)] h0 (QR n0 h0 (some (.int (1 : Int32)))) := by
  refine own_start (plainFor_of_name pn_6) (fun m => (ef_22_18 m a1)) ?_
  intro p e s m below meth c s₁ hZ hx hby hml hown hnm hret X0 e0
  have N0 := Fr.nil n0
  obtain ⟨T2, X2, e2, st2⟩ := gF X0 hx hZ hown (wd91 hw) Via.refl e0 pr1 1 #[rv a1] [] (hb hby d22_1)
  refine ⟨some (.int (1 : Int32)), _, _, _, _, _, X2, e2, by decide, nofun, fun fs hr => ?_, ?_⟩
  · refine xaloadN X0 hx hby d22_0 rfl rfl ?_
    show SS p e below s₁ m 1 #[rv a1] [(.ref a1)] _
    refine st2 _ ?_
    refine XS.ifNo X2.here hx rfl (hb hby d22_4) rfl ((if0 _ _).trans (teq (rfl : (0 : Int32) = (0 : Int32))).2) ?_
    refine XS.iconst X2.here hx rfl (hb hby d22_7) ?_
    refine XS.goto X2.here hx rfl (pc0 := 8) (pc' := 12) rfl (hb hby d22_8) (by decide) (by decide) ?_
    show SS p e below T2 m 12 #[rv a1] [(.int (1 : Int32))] _
    exact retN X2 hx (t := .boolean) hret (by simp) (hb hby d22_12) hr
  · exact ⟨rfl, N0, rfl⟩
theorem d21_40 : DC cb21 40 (.invokestatic 26) 3 := by decide +kernel
theorem d56_0 : DC cb56 0 (.getstatic 90) 3 := by decide +kernel
theorem d56_3 : DC cb56 3 (.areturn) 1 := by decide +kernel
theorem ef_56_59 (m : MethodId)  : entryFrame m #[] 0 = mkF m 0 #[] [] := by first | (simp [entryFrame, mkF, argsToLocals, Value.category]; done) | rfl
theorem rm56_0 (l : Launch) (Z : State) (a0 : Array Value) (hw : HW a0 Z) (w1 : Addr) (h0 : Heap) (n0 : Nat) (OL0 : Old Z n0 h0) (pr1 : Sta Z Z.heap s30 s1 s5 (.ref w1)) :
    MF l Z mn56 jdk_40_method_36_code 0 (some (.object s37)) ⟨0, 0, 0, 0⟩ #[] h0 (QR n0 h0 (some (.ref w1))) := by
  refine own_start (plainFor_of_name pn_12) (fun m => (ef_56_59 m )) ?_
  intro p e s m below meth c s₁ hZ hx hby hml hown hnm hret X0 e0
  have N0 := Fr.nil n0
  obtain ⟨T2, X2, e2, st2⟩ := getS2 X0 hx hZ hown (host := "") (Or.inl (wd404 hw)) Via.refl e0 (pr1.ext OL0.2) (g := (mkF m 0 #[] [])) rfl (hb hby d56_0)
  refine ⟨some (.ref w1), _, _, _, _, _, X2, e2, by decide, nofun, fun fs hr => ?_, ?_⟩
  · refine st2 _ ?_
    show SS p e below T2 m 3 #[] [(.ref w1)] _
    exact own_retR X2 hx hret rfl rfl rfl (hb hby d56_3) hr
  · exact ⟨rfl, N0, rfl⟩
theorem cw60 {a0 Z} (hw : HW a0 Z) : CS a0 Z s30 26 mn56 0 (.code mn56 jdk_40_method_36_code 0 (some (.object s37))) :=
  ⟨wx hw 401 rfl, wx hw 402 rfl, wx hw 403 rfl, wx hw 123 rfl, by decide, _, _, pd_28, rfl⟩
theorem d21_43 : DC cb21 43 (.areturn) 1 := by decide +kernel
theorem rm21_2 (l : Launch) (Z : State) (a0 : Array Value) (hw : HW a0 Z) (a1 w5 : Addr) (h0 : Heap) (n0 : Nat) (OL0 : Old Z n0 h0) (pr1 : Exa Z h0 a1 s26) (pr2 : Fld Z h0 a1 s26 "size" "I" (.int (0 : Int32))) (pr3 : Sta Z Z.heap s30 s1 s5 (.ref w5)) :
    MF l Z mn21 jdk_56_method_3_code 2 (some (.object s37)) ⟨1, 0, 0, 12⟩ #[(.ref a1)] h0 (QR n0 h0 (some (.ref w5))) := by
  refine own_start (plainFor_of_name pn_13) (fun m => (ef_21_28 m a1)) ?_
  intro p e s m below meth c s₁ hZ hx hby hml hown hnm hret X0 e0
  have N0 := Fr.nil n0
  obtain ⟨T2, X2, e2, st2⟩ := instNo X0 hx hZ hown (wd129 hw) e0 pr1 (own_no (wd130 hw) (NI.inst (wd178 hw)) (NS.step (wd130 hw) (NS.step (wd131 hw) (NS.step (wd132 hw) (own_root (wd133 hw) (NI.inst (wd178 hw)) (by decide)) (by decide)) (by decide)) (by decide)) (by decide)) (g := (mkF m 1 #[rv a1, uu] [(.ref a1)])) rfl rfl (hb hby d21_1)
  obtain ⟨T3, X3, e3, st3⟩ := instNo X2 hx hZ hown (wd134 hw) e2 pr1 (own_no (wd130 hw) (NI.sel (wd408 hw)) (NS.step (wd130 hw) (NS.step (wd131 hw) (NS.step (wd132 hw) (own_root (wd133 hw) (NI.sel (wd408 hw)) (by decide)) (by decide)) (by decide)) (by decide)) (by decide)) (g := (mkF m 8 #[rv a1, uu] [(.ref a1)])) rfl rfl (hb hby d21_8)
  obtain ⟨_, T4, L4, X4, hQ4, st4⟩ := own_cI X3 hx hZ hown hml (cw17 hw) (rm22_2 l Z a0 hw a1 h0 n0 OL0 pr2) e3 pr1 32 #[rv a1, uu] [] [] 0 rfl (hb hby d21_32) (by decide)
  obtain ⟨rfl, Nq4, ec4⟩ := hQ4
  have N4 := Fr.app N0 Nq4
  obtain ⟨_, T6, L6, X6, hQ6, st6⟩ := own_cS X4 hx hZ hown hml (cw60 hw) (rm56_0 l Z a0 hw w5 h0 n0 OL0 pr3) ec4 40 #[rv a1, uu] [] [] 0 rfl (hb hby d21_40) (by decide)
  obtain ⟨rfl, Nq6, ec6⟩ := hQ6
  have N6 := Fr.app N4 Nq6
  refine ⟨some (.ref w5), _, _, _, _, _, X6, ec6, by decide, nofun, fun fs hr => ?_, ?_⟩
  · refine xaloadN X0 hx hby d21_0 rfl rfl ?_
    show SS p e below s₁ m 1 #[rv a1, uu] [(.ref a1)] _
    refine st2 _ ?_
    refine XS.ifNo X2.here hx rfl (hb hby d21_4) rfl ((if0 _ _).trans (teq (rfl : (0 : Int32) = (0 : Int32))).2) ?_
    refine xaloadN X2 hx hby d21_7 rfl rfl ?_
    refine st3 _ ?_
    refine XS.ifYes X3.here hx rfl (pc0 := 11) (pc' := 31) rfl (hb hby d21_11) rfl ((if0 _ _).trans (teq (rfl : (0 : Int32) = (0 : Int32))).1) (by decide) (by decide) ?_
    refine xaloadN X3 hx hby d21_31 rfl rfl ?_
    refine st4 _ ?_
    refine XS.ifNo X4.here hx rfl (hb hby d21_37) rfl ((if0 _ _).trans (feq (by decide : ¬ ((1 : Int32) = (0 : Int32)))).1) ?_
    refine st6 _ ?_
    show SS p e below T6 m 43 #[rv a1, uu] [(.ref w5)] _
    exact own_retR X6 hx hret rfl rfl rfl (hb hby d21_43) hr
  · exact ⟨rfl, N6, rfl⟩
theorem rm20_2 (l : Launch) (Z : State) (a0 : Array Value) (hw : HW a0 Z) (a1 w2 : Addr) (h0 : Heap) (n0 : Nat) (OL0 : Old Z n0 h0) (pr1 : Exa Z h0 a1 s26) (pr2 : Fld Z h0 a1 s26 "size" "I" (.int (0 : Int32))) (pr3 : Sta Z Z.heap s30 s1 s5 (.ref w2)) :
    MF l Z mn20 jdk_40_method_48_code 1 (some (.object s37)) ⟨2, 0, 0, 25⟩ #[(.ref a1)] h0 (QR n0 h0 (some (.ref w2))) := by
  refine own_start (plainFor_of_name pn_12) (fun m => (ef_20_29 m a1)) ?_
  intro p e s m below meth c s₁ hZ hx hby hml hown hnm hret X0 e0
  have N0 := Fr.nil n0
  obtain ⟨_, T3, L3, X3, hQ3, st3⟩ := own_cS X0 hx hZ hown hml (cw28 hw) (rm21_2 l Z a0 hw a1 w2 h0 n0 OL0 pr1 pr2 pr3) e0 1 #[rv a1] [(.ref a1)] [] 0 rfl (hb hby d20_1) (by decide)
  obtain ⟨rfl, Nq3, ec3⟩ := hQ3
  have N3 := Fr.app N0 Nq3
  refine ⟨some (.ref w2), _, _, _, _, _, X3, ec3, by decide, nofun, fun fs hr => ?_, ?_⟩
  · refine xaloadN X0 hx hby d20_0 rfl rfl ?_
    show SS p e below s₁ m 1 #[rv a1] [(.ref a1)] _
    refine st3 _ ?_
    show SS p e below T3 m 4 #[rv a1] [(.ref w2)] _
    exact own_retR X3 hx hret rfl rfl rfl (hb hby d20_4) hr
  · exact ⟨rfl, N3, rfl⟩
def Q_rm35_1 (Z : State) (a1 : Addr) (a2 : Addr) (a3 : Addr) (w7 : Addr) (h0 : Heap) (n0 : Nat) (v : Option Value) (h : Heap) (L : List Loc) : Prop := v = none ∧ Fr n0 L ∧ Keep h0 h [a1] ∧ Fld Z h a1 s47 s11 s7 (.ref a2) ∧ Fld Z h a1 s47 "match" s6 (.ref w7) ∧ Fld Z h a1 s47 "exact" "Z" (.int (1 : Int32))
set_option maxRecDepth 65536 in
set_option maxHeartbeats 40000000 in
theorem rm35_1 (l : Launch) (Z : State) (a0 : Array Value) (hw : HW a0 Z) (ws : List Jvm.Cond) (a1 : Addr) (a2 : Addr) (a3 : Addr) (w7 : Addr) (h0 : Heap) (n0 : Nat) (OL0 : Old Z n0 h0) (pr1 : Exa Z h0 a3 s26) (pr2 : Fld Z h0 a3 s26 "size" "I" (.int (0 : Int32))) (pr3 : Sta Z Z.heap s30 s1 s5 (.ref w7)) (pr4 : Exa Z h0 a1 s47) (pr5 : Fld Z h0 a1 s47 s11 s7 .null) (pr6 : n0 ≤ a1) (pr7 : Fld Z h0 a1 s47 "match" s6 .null) (pr8 : Fld Z h0 a1 s47 "exact" "Z" (.int (0 : Int32))) :
    MetFree l mn35 (head1 (Jvm.Cond.code mn35 prog_52_method_1_code 4 none :: ws) ({ frames := 3, cells := 2, slots := 36, locals := 37 } : Room)) (fun a U => a = #[(.ref a1), (.ref a2), (.ref a3), (.int (1 : Int32))] ∧ Z.Warmed39 U.vm ∧ U.heap = h0) (fun _ _ _ _ _ => True) (fun _ U o U' => ∃ v L, o = .returned v ∧ Q_rm35_1 Z a1 a2 a3 w7 h0 n0 v U'.heap L ∧ ReturnedEndW U o U' L ({ frames := 3, cells := 2, slots := 36, locals := 37 } : Room).cells ({ frames := 3, cells := 2, slots := 36, locals := 37 } : Room).slots) := by
  refine MetFree.of_bodySF (plainFor_of_name pn_16) hisR ?_
  intro p e s m args below meth c s₁ Bd hml0 hP hK
  obtain ⟨rfl, hZ, hh⟩ := hP
  have hx := Bd.exec
  have hby := Bd.bytes
  have hml : c.maxLocals = 4 := hml0
  have hown : s.vm.findClass s47 = some m.cls := findClass_of_methodNamed Bd.named
  have hnm := (name_of_methodNamed Bd.named Bd.method).1
  have X0 : Stand p l e ({ frames := 3, cells := 2, slots := 36, locals := 37 } : Room) s m #[(.ref a1), (.ref a2), (.ref a3), (.int (1 : Int32))] below meth c s₁ [] 0 0 := Stand.of_body Bd
  have e0 : s₁.heap = h0 := by rw [← hh, Bd.state]; rfl
  have N0 := Fr.nil n0
  have pre0 : ∀ t, SS p e below s₁ m 0 #[rv a1, rv a2, rv a3, iv (1 : Int32)] [] t → Steps p.tables e below (s₁.setTop (entryFrame m #[(.ref a1), (.ref a2), (.ref a3), (.int (1 : Int32))] 4)) t := fun t k => castTop (ef_35_37 m a1 a2 a3) k
  obtain ⟨_, T4, L4, X4, hQ4, st4⟩ := own_cN X0 hx hZ hown hml (cw34 hw) (rm6_0 l Z a0 hw a1 h0 n0 OL0 ) e0 a1 1 #[rv a1, rv a2, rv a3, iv (1 : Int32)] [] [] 0 rfl (hb hby d35_1) (by decide)
  obtain ⟨rfl, Nq4, ec4⟩ := hQ4
  have N4 := Fr.app N0 Nq4
  obtain ⟨b5, T5, h5, k5, X5, e5, E5, hS5, hk5, hZ5, hown5, st5⟩ := ldcS (s := s) (vm0 := s.vm) X4 hx hZ hown (wd232 hw) (own_wS hw) ec4 ((State.WarmedH.refl s).since 0) (Nat.zero_le _) (g := (mkF m 5 #[rv a1, rv a2, rv a3, iv (1 : Int32)] [(.ref a2)])) rfl (hb hby d35_5) (n := 32) (by decide) (by decide) (by decide) (by decide)
  have KK5 : Keep h0 h5 [a1] := (Keep.refl h0 [a1]).ext E5
  have OL5 := OL0.ext E5
  obtain ⟨_, T6, L6, X6, hQ6, st6⟩ := own_cS X5 hx hZ5 hown5 hml (cw35 hw) (rm8_0 l Z a0 hw a2 b5 h5 n0 OL5 ) e5 7 #[rv a1, rv a2, rv a3, iv (1 : Int32)] [(.ref a2), (.ref b5)] [] 0 rfl (hb hby d35_7) (by decide)
  obtain ⟨rfl, Nq6, ec6⟩ := hQ6
  have N6 := Fr.app N4 Nq6
  have fc9 := (pr1.ext E5)
  have fc10 := (pr2.ext E5)
  obtain ⟨_, T8, L8, X8, hQ8, st8⟩ := own_cS X6 hx hZ5 hown5 hml (cw37 hw) (rm20_2 l Z a0 hw a3 w7 h5 n0 OL5 fc9 fc10 pr3) ec6 12 #[rv a1, rv a2, rv a3, iv (1 : Int32)] [(.ref a3)] [] 0 rfl (hb hby d35_12) (by decide)
  obtain ⟨rfl, Nq8, ec8⟩ := hQ8
  have N8 := Fr.app N6 Nq8
  have fc11 := (pr4.ext E5)
  have fc12 := (pr5.ext E5)
  obtain ⟨T13, h13, X13, e13, W13, st13⟩ := putF X8 hx hZ5 hown5 (host := "") (Or.inl (wd239 hw)) Via.refl ec8 fc12 fc11 (Or.inr ⟨(wd240 hw), rfl, hnm⟩) (wd209 hw) (ty := (.object s39)) (by decide) rfl rfl (g := (mkF m 18 #[rv a1, rv a2, rv w7, iv (1 : Int32)] [(.ref a2), (.ref a1)])) rfl rfl (hb hby d35_18)
  have Fw13 := fc12.same W13
  have KK13 : Keep h0 h13 [a1] := KK5.wr W13 (Or.inl (List.mem_of_getElem? (i := 0) rfl))
  have N13 := Fr.snoc X13 N8 pr6
  have fc14 := (fc11.wr W13)
  have fc15 := ((pr7.ext E5).other W13 (Or.inr (slot_ne (Or.inr (wd242 hw)) (Or.inr (wd240 hw)) (by decide) (t := (.object s37)) (t' := (.object s39)) (by decide) (by decide))))
  obtain ⟨T16, h16, X16, e16, W16, st16⟩ := putF X13 hx hZ5 hown5 (host := "") (Or.inl (wd241 hw)) Via.refl e13 fc15 fc14 (Or.inr ⟨(wd242 hw), rfl, hnm⟩) (wd209 hw) (ty := (.object s37)) (by decide) rfl rfl (g := (mkF m 23 #[rv a1, rv a2, rv w7, iv (1 : Int32)] [(.ref w7), (.ref a1)])) rfl rfl (hb hby d35_23)
  have Fw16 := fc15.same W16
  have KK16 : Keep h0 h16 [a1] := KK13.wr W16 (Or.inl (List.mem_of_getElem? (i := 0) rfl))
  have N16 := Fr.snoc X16 N13 pr6
  have fc17 := (fc14.wr W16)
  have fc18 := (((pr8.ext E5).other W13 (Or.inr (slot_ne (Or.inr (wd244 hw)) (Or.inr (wd240 hw)) (by decide) (t := .boolean) (t' := (.object s39)) (by decide) (by decide)))).other W16 (Or.inr (slot_ne (Or.inr (wd244 hw)) (Or.inr (wd242 hw)) (by decide) (t := .boolean) (t' := (.object s37)) (by decide) (by decide))))
  obtain ⟨T19, h19, X19, e19, W19, st19⟩ := putFN X16 hx hZ5 hown5 (wd243 hw) Via.refl e16 fc18 fc17 (Or.inr ⟨(wd244 hw), rfl, hnm⟩) (wd209 hw) (ty := .boolean) (v' := (.int (1 : Int32))) (by decide) rfl rfl (g := (mkF m 28 #[rv a1, rv a2, rv w7, iv (1 : Int32)] [(.int (1 : Int32)), (.ref a1)])) rfl rfl (hb hby d35_28)
  have Fw19 := fc18.same W19
  have KK19 : Keep h0 h19 [a1] := KK16.wr W19 (Or.inl (List.mem_of_getElem? (i := 0) rfl))
  have N19 := Fr.snoc X19 N16 pr6
  have fc20 := ((Fw13.other W16 (Or.inr (slot_ne (Or.inr (wd240 hw)) (Or.inr (wd242 hw)) (by decide) (t := (.object s39)) (t' := (.object s37)) (by decide) (by decide)))).other W19 (Or.inr (slot_ne (Or.inr (wd240 hw)) (Or.inr (wd244 hw)) (by decide) (t := (.object s39)) (t' := .boolean) (by decide) (by decide))))
  have fc21 := (Fw16.other W19 (Or.inr (slot_ne (Or.inr (wd242 hw)) (Or.inr (wd244 hw)) (by decide) (t := (.object s37)) (t' := .boolean) (by decide) (by decide))))
  obtain ⟨fs, hr, hrun, hended, hRW⟩ := X19.leaveW (s := s) hS5 (by rw [e19]; exact (Nat.le_trans (Nat.le_trans (Nat.le_trans hk5 (Nat.le_of_eq W13.size.symm)) (Nat.le_of_eq W16.size.symm)) (Nat.le_of_eq W19.size.symm))) (v := none) (fun _ => rfl)
  refine ⟨_, _, pre0 _ ?_, hrun, hended, _, _, rfl, ?_, hRW.1, hRW.2.1, hRW.2.2.1, hRW.2.2.2.mono (by decide) (by decide)⟩
  · refine xaloadN X0 hx hby d35_0 rfl rfl ?_
    show SS p e below s₁ m 1 #[rv a1, rv a2, rv a3, iv (1 : Int32)] [(.ref a1)] _
    refine st4 _ ?_
    refine xaloadN X4 hx hby d35_4 rfl rfl ?_
    refine st5 _ ?_
    refine st6 _ ?_
    refine XS.pop X6.here hx rfl (hb hby d35_10) rfl rfl ?_
    refine xaloadN X6 hx hby d35_11 rfl rfl ?_
    refine st8 _ ?_
    refine XS.astoreN X8.here hx rfl (hb hby d35_15) rfl rfl (l' := #[rv a1, rv a2, rv w7, iv (1 : Int32)]) rfl ?_
    refine xaloadN X8 hx hby d35_16 rfl rfl ?_
    refine xaloadN X8 hx hby d35_17 rfl rfl ?_
    show SS p e below T8 m 18 #[rv a1, rv a2, rv w7, iv (1 : Int32)] [(.ref a2), (.ref a1)] _
    refine st13 _ ?_
    refine xaloadN X13 hx hby d35_21 rfl rfl ?_
    refine xaloadN X13 hx hby d35_22 rfl rfl ?_
    refine st16 _ ?_
    refine xaloadN X16 hx hby d35_26 rfl rfl ?_
    refine xiloadN X16 hx hby d35_27 rfl ?_
    refine st19 _ ?_
    show SS p e below T19 m 31 #[rv a1, rv a2, rv w7, iv (1 : Int32)] [] _
    exact X19.returnOut hx Bd.returns (hb hby d35_31) hr
  · show Q_rm35_1 Z a1 a2 a3 w7 h0 n0 _ T19.heap _
    rw [e19]
    exact ⟨rfl, N19, KK19, fc20, fc21, Fw19⟩
def Q_rm32_1 (Z : State) (a1 : Addr) (a2 : Addr) (a3 : Addr) (w5 : Addr) (h0 : Heap) (n0 : Nat) (v : Option Value) (h : Heap) (L : List Loc) : Prop := ∃ b4_0 : Addr, v = none ∧ Fr n0 L ∧ Keep h0 h [a1] ∧ h0.size ≤ b4_0 ∧ Fld Z h a1 s47 s11 s7 (.ref b4_0) ∧ Fld Z h a1 s47 "match" s6 (.ref w5) ∧ Fld Z h a1 s47 "exact" "Z" (.int (1 : Int32)) ∧ Exa Z h b4_0 s39 ∧ Fld Z h b4_0 s39 "value" s2 (.ref a2)
set_option maxRecDepth 65536 in
set_option maxHeartbeats 40000000 in
theorem rm32_1 (l : Launch) (Z : State) (a0 : Array Value) (hw : HW a0 Z) (ws : List Jvm.Cond) (a1 : Addr) (a2 : Addr) (a3 : Addr) (w5 : Addr) (h0 : Heap) (n0 : Nat) (OL0 : Old Z n0 h0) (pr1 : Exa Z h0 a3 s26) (pr2 : Fld Z h0 a3 s26 "size" "I" (.int (0 : Int32))) (pr3 : Sta Z Z.heap s30 s1 s5 (.ref w5)) (pr4 : Exa Z h0 a1 s47) (pr5 : Fld Z h0 a1 s47 s11 s7 .null) (pr6 : n0 ≤ a1) (pr7 : Fld Z h0 a1 s47 "match" s6 .null) (pr8 : Fld Z h0 a1 s47 "exact" "Z" (.int (0 : Int32))) :
    MetFree l mn32 (head1 (Jvm.Cond.code mn32 prog_52_method_2_code 3 none :: ws) ({ frames := 4, cells := 3, slots := 37, locals := 52 } : Room)) (fun a U => a = #[(.ref a1), (.ref a2), (.ref a3)] ∧ Z.Warmed39 U.vm ∧ U.heap = h0) (fun _ _ _ _ _ => True) (fun _ U o U' => ∃ v L, o = .returned v ∧ Q_rm32_1 Z a1 a2 a3 w5 h0 n0 v U'.heap L ∧ ReturnedEndW U o U' L ({ frames := 4, cells := 3, slots := 37, locals := 52 } : Room).cells ({ frames := 4, cells := 3, slots := 37, locals := 52 } : Room).slots) := by
  refine MetFree.of_bodySF (plainFor_of_name pn_16) hisR ?_
  intro p e s m args below meth c s₁ Bd hml0 hP hK
  obtain ⟨rfl, hZ, hh⟩ := hP
  have hx := Bd.exec
  have hby := Bd.bytes
  have hml : c.maxLocals = 3 := hml0
  have hown : s.vm.findClass s47 = some m.cls := findClass_of_methodNamed Bd.named
  have hnm := (name_of_methodNamed Bd.named Bd.method).1
  have X0 : Stand p l e ({ frames := 4, cells := 3, slots := 37, locals := 52 } : Room) s m #[(.ref a1), (.ref a2), (.ref a3)] below meth c s₁ [] 0 0 := Stand.of_body Bd
  have e0 : s₁.heap = h0 := by rw [← hh, Bd.state]; rfl
  have N0 := Fr.nil n0
  have pre0 : ∀ t, SS p e below s₁ m 0 #[rv a1, rv a2, rv a3] [] t → Steps p.tables e below (s₁.setTop (entryFrame m #[(.ref a1), (.ref a2), (.ref a3)] 3)) t := fun t k => castTop (ef_32_38 m a1 a2 a3) k
  obtain ⟨_, T4, L4, X4, hQ4, st4⟩ := own_cS X0 hx hZ hown hml (cw33 hw) (rm33_0 l Z a0 hw a2 h0 n0 OL0 ) e0 2 #[rv a1, rv a2, rv a3] [(.ref a2)] [(.ref a1)] 1 rfl (hb hby d32_2) (by decide)
  obtain ⟨b4_0, rfl, Nq4, K4, u4_0, u4_1, u4_2⟩ := hQ4
  have KK4 : Keep h0 T4.heap [a1] := (Keep.refl h0 [a1]).trans K4 all0
  have OL4 := OL0.keep K4 all0
  have sz_b4_0 : h0.size ≤ b4_0 := Nat.le_trans (Keep.refl h0 [a1]).1 u4_0
  have N4 := Fr.app N0 Nq4
  have fc7 := (pr1.keep K4)
  have fc8 := (pr2.keep K4 nin0)
  have fc9 := (pr4.keep K4)
  have fc10 := (pr5.keep K4 nin0)
  have fc11 := (pr7.keep K4 nin0)
  have fc12 := (pr8.keep K4 nin0)
  obtain ⟨_, _, ⟨T6, L6, k6, n6⟩, -, Xa6, hSi6, hgr6, ⟨Lc6, hQ6, l6, y6, z6⟩, st6⟩ := X4.specialBackS hx (y := mn35) rfl hown (mvT hZ (wd228 hw)) (mvT hZ (wd229 hw)) (mvT hZ (wd230 hw)) (by decide) (backOfS (W := 0) (rm35_1 l Z a0 hw [] a1 b4_0 a3 w5 T4.heap n0 OL4 fc7 fc8 pr3 fc9 fc10 pr6 fc11 fc12) hZ (wd230 hw) (wd210 hw) (by decide) (by decide)) (g := (mkF m 7 #[rv a1, rv a2, rv a3] [(.int (1 : Int32)), (.ref a3), (.ref b4_0), (.ref a1)])) rfl (by rw [hml]; rfl) (Steps.refl _) (a := a1) (argsL := [(.ref b4_0), (.ref a3), (.int (1 : Int32))]) (rest := []) (lenOf pd_22 rfl) rfl (by show 2 * 0 + _ ≤ _; exact Nat.le_of_eq rfl) (hb hby d32_7) (fun _ _ => ⟨rfl, rfl, (by decide : 1 + 2 ≤ _), (by decide : 1 + 36 ≤ _)⟩)
  dsimp only [Pt.U, Pt.locs, Pt.cells, Pt.slots] at Xa6 l6 y6 z6 st6 hQ6 hSi6 hgr6
  have Xb6 := own_sub Xa6 l6 y6 z6
  obtain ⟨X6, hS6, hZ6, hown6⟩ := rebS (s := s) (vm0 := s.vm) ((State.WarmedH.refl s).since 0) (n1 := T4.heap.size) (by exact (Nat.le_trans (Nat.zero_le _) K4.1)) Xb6 hSi6 hgr6 hZ hown
  obtain ⟨rfl, Nq6, K6, u6_0, u6_1, u6_2⟩ := hQ6
  have KK6 : Keep h0 T6.heap [a1] := KK4.trans K6 (allS (Or.inl (List.mem_of_getElem? (i := 0) rfl)) all0)
  have N6 := Fr.app N4 Nq6
  have fc13 := (u4_1.keep K6)
  have nz14 := nl pr8.lt sz_b4_0
  have fc15 := (u4_2.keep K6 (ninS (Ne.symm nz14) nin0))
  obtain ⟨fs, hr, hrun, hended, hRW⟩ := X6.leaveW (s := s) hS6 (by exact (Nat.le_refl _)) (v := none) (fun _ => rfl)
  refine ⟨_, _, pre0 _ ?_, hrun, hended, _, _, rfl, ?_, hRW.1, hRW.2.1, hRW.2.2.1, hRW.2.2.2.mono (by decide) (by decide)⟩
  · refine xaloadN X0 hx hby d32_0 rfl rfl ?_
    show SS p e below s₁ m 1 #[rv a1, rv a2, rv a3] [(.ref a1)] _
    refine xaloadN X0 hx hby d32_1 rfl rfl ?_
    refine st4 _ ?_
    refine xaloadN X4 hx hby d32_5 rfl rfl ?_
    refine XS.iconst X4.here hx rfl (hb hby d32_6) ?_
    refine st6.trans ?_
    show SS p e below T6 m 10 #[rv a1, rv a2, rv a3] [] _
    exact X6.returnOut hx Bd.returns (hb hby d32_10) hr
  · show Q_rm32_1 Z a1 a2 a3 w5 h0 n0 _ T6.heap _
    exact ⟨b4_0, rfl, N6, KK6, sz_b4_0, u6_0, u6_1, u6_2, fc13, fc15⟩
theorem rm44_1 (l : Launch) (Z : State) (a0 : Array Value) (hw : HW a0 Z) (a1 w2 : Addr) (h0 : Heap) (n0 : Nat) (OL0 : Old Z n0 h0) (pr1 : Fld Z h0 a1 s47 "match" s6 (.ref w2)) :
    MF l Z mn44 prog_52_method_10_code 1 (some (.object s37)) ⟨0, 0, 0, 0⟩ #[(.ref a1)] h0 (QR n0 h0 (some (.ref w2))) := by
  refine own_start (plainFor_of_name pn_16) (fun m => (ef_44_45 m a1)) ?_
  intro p e s m below meth c s₁ hZ hx hby hml hown hnm hret X0 e0
  have N0 := Fr.nil n0
  obtain ⟨T3, X3, e3, st3⟩ := gF X0 hx hZ hown (wd241 hw) Via.refl e0 pr1 1 #[rv a1] [] (hb hby d44_1)
  refine ⟨some (.ref w2), _, _, _, _, _, X3, e3, by decide, nofun, fun fs hr => ?_, ?_⟩
  · refine xaloadN X0 hx hby d44_0 rfl rfl ?_
    show SS p e below s₁ m 1 #[rv a1] [(.ref a1)] _
    refine st3 _ ?_
    show SS p e below T3 m 4 #[rv a1] [(.ref w2)] _
    exact own_retR X3 hx hret rfl rfl rfl (hb hby d44_4) hr
  · exact ⟨rfl, N0, rfl⟩
theorem d57_0 : DC cb57 0 (.aload_n 0) 1 := by decide +kernel
theorem d57_1 : DC cb57 1 (.getfield 7) 3 := by decide +kernel
theorem d57_4 : DC cb57 4 (.arraylength) 1 := by decide +kernel
theorem d57_5 : DC cb57 5 (.ireturn) 1 := by decide +kernel
theorem ef_57_60 (m : MethodId) (x0 : Addr) : entryFrame m #[(.ref x0)] 1 = mkF m 0 #[.val (.ref x0)] [] := by first | (simp [entryFrame, mkF, argsToLocals, Value.category]; done) | rfl
theorem pn_20 : plainName "java/util/ImmutableCollections$ListN" = true := by first | (simp [plainName, overriddenIn]; done) | decide +kernel
theorem rm57_0 (l : Launch) (Z : State) (a0 : Array Value) (hw : HW a0 Z) (w1 w2 : Addr) (k4 : ClassId) (h0 : Heap) (n0 : Nat) (OL0 : Old Z n0 h0) (pr1 : Fld Z Z.heap w1 s35 s13 s8 (.ref w2)) (pr2 : Arv Z Z.heap w2 k4 (.object s20) (0 : Int32) [] .null) :
    MF l Z mn57 jdk_45_method_3_code 1 (some .int) ⟨0, 0, 0, 0⟩ #[(.ref w1)] h0 (QR n0 h0 (some (.int (0 : Int32)))) := by
  refine own_start (plainFor_of_name pn_20) (fun m => (ef_57_60 m w1)) ?_
  intro p e s m below meth c s₁ hZ hx hby hml hown hnm hret X0 e0
  have N0 := Fr.nil n0
  obtain ⟨T3, X3, e3, st3⟩ := gF X0 hx hZ hown (wd412 hw) Via.refl e0 (pr1.ext OL0.2) 1 #[rv w1] [] (hb hby d57_1)
  obtain ⟨cl5, Ar5, -, Sz5, Nn5, -, -⟩ := id (pr2.ext OL0.2)
  refine ⟨some (.int (0 : Int32)), _, _, _, _, _, X3, e3, by decide, nofun, fun fs hr => ?_, ?_⟩
  · refine xaloadN X0 hx hby d57_0 rfl rfl ?_
    show SS p e below s₁ m 1 #[rv w1] [(.ref w1)] _
    refine st3 _ ?_
    refine X3.arraylength hx (by rw [e3]; exact Ar5.1) (State.isArrayOf_alike hZ.alike Ar5.2.1) (g := (mkF m 4 #[rv w1] [(.ref w2)])) rfl rfl (hb hby d57_4) _ ?_
    rw [len_of Sz5 Nn5]
    show SS p e below T3 m 5 #[rv w1] [(.int (0 : Int32))] _
    exact retI X3 hx hret (hb hby d57_5) hr
  · exact ⟨rfl, N0, rfl⟩
theorem cw61 {a0 Z} (hw : HW a0 Z) : CU a0 Z s32 13 (⟨s32, "size", "()I"⟩ : MethodName) mn57 s35 s24 0 (.code mn57 jdk_45_method_3_code 1 (some .int)) :=
  ⟨wx hw 333 rfl, wx hw 334 rfl, wx hw 335 rfl, wx hw 408 rfl, wx hw 409 rfl, wx hw 411 rfl, wx hw 410 rfl, by decide, _, _, pd_24, rfl⟩
theorem ef_47_61 (m : MethodId) (x0 : Addr) (x1 : Addr) : entryFrame m #[(.ref x0), (.ref x1), (.int (0 : Int32))] 3 = mkF m 0 #[.val (.ref x0), .val (.ref x1), .val (.int (0 : Int32))] [] := by first | (simp [entryFrame, mkF, argsToLocals, Value.category]; done) | rfl
theorem rm47_1 (l : Launch) (Z : State) (a0 : Array Value) (hw : HW a0 Z) (a1 w2 : Addr) (h0 : Heap) (n0 : Nat) (OL0 : Old Z n0 h0) (pr1 : Exa Z h0 a1 s34) (pr2 : Fld Z h0 a1 s34 "list" s6 .null) (pr3 : n0 ≤ a1) (pr4 : Fld Z h0 a1 s34 "size" "I" (.int (0 : Int32))) (pr5 : Fld Z h0 a1 s34 "cursor" "I" (.int (0 : Int32))) (pr6 : Fld Z h0 a1 s34 s17 "Z" (.int (0 : Int32))) :
    MF l Z mn47 jdk_53_method_1_code 3 none ⟨1, 0, 0, 12⟩ #[(.ref a1), (.ref w2), (.int (0 : Int32))] h0 (fun v h L => v = none ∧ Fr n0 L ∧ Keep h0 h [a1] ∧ Fld Z h a1 s34 "list" s6 (.ref w2) ∧ Fld Z h a1 s34 "size" "I" (.int (0 : Int32)) ∧ Fld Z h a1 s34 "cursor" "I" (.int (0 : Int32)) ∧ Fld Z h a1 s34 s17 "Z" (.int (0 : Int32))) := by
  refine own_start (plainFor_of_name pn_18) (fun m => (ef_47_61 m a1 w2)) ?_
  intro p e s m below meth c s₁ hZ hx hby hml hown hnm hret X0 e0
  have N0 := Fr.nil n0
  obtain ⟨T3, X3, e3, st3⟩ := initO X0 hx hZ hown (wd343 hw) (wd36 hw) (wd37 hw) e0 (g := (mkF m 1 #[rv a1, rv w2, iv (0 : Int32)] [(.ref a1)])) rfl (by rw [hml]; rfl) rfl (hb hby d47_1) (by decide) (W := 0) (by show 2 * 0 + _ ≤ _; exact Nat.le_of_eq rfl) (by decide)
  obtain ⟨T4, h4, X4, e4, W4, st4⟩ := putF X3 hx hZ hown (host := "") (Or.inl (wd344 hw)) Via.refl e3 pr2 pr1 (Or.inr ⟨(wd345 hw), rfl, hnm⟩) (wd331 hw) (ty := (.object s37)) (by decide) rfl rfl (g := (mkF m 6 #[rv a1, rv w2, iv (0 : Int32)] [(.ref w2), (.ref a1)])) rfl rfl (hb hby d47_6)
  have Fw4 := pr2.same W4
  have KK4 : Keep h0 h4 [a1] := (Keep.refl h0 [a1]).wr W4 (Or.inl (List.mem_of_getElem? (i := 0) rfl))
  have N4 := Fr.snoc X4 N0 pr3
  have fc5 := (pr1.wr W4)
  have fc6 := (pr4.other W4 (Or.inr (slot_ne (Or.inr (wd347 hw)) (Or.inr (wd345 hw)) (by decide) (t := .int) (t' := (.object s37)) (by decide) (by decide))))
  obtain ⟨T7, h7, X7, e7, W7, st7⟩ := putF X4 hx hZ hown (host := "") (Or.inl (wd346 hw)) Via.refl e4 fc6 fc5 (Or.inr ⟨(wd347 hw), rfl, hnm⟩) (wd331 hw) (ty := .int) (by decide) rfl rfl (g := (mkF m 11 #[rv a1, rv w2, iv (0 : Int32)] [(.int (0 : Int32)), (.ref a1)])) rfl rfl (hb hby d47_11)
  have Fw7 := fc6.same W7
  have KK7 : Keep h0 h7 [a1] := KK4.wr W7 (Or.inl (List.mem_of_getElem? (i := 0) rfl))
  have N7 := Fr.snoc X7 N4 pr3
  have fc8 := (fc5.wr W7)
  have fc9 := ((pr5.other W4 (Or.inr (slot_ne (Or.inl (wd349 hw)) (Or.inr (wd345 hw)) (by decide) (t := .int) (t' := (.object s37)) (by decide) (by decide)))).other W7 (Or.inr (slot_ne (Or.inl (wd349 hw)) (Or.inr (wd347 hw)) (by decide) (t := .int) (t' := .int) (by decide) (by decide))))
  obtain ⟨T10, h10, X10, e10, W10, st10⟩ := putF X7 hx hZ hown (host := "") (Or.inl (wd348 hw)) Via.refl e7 fc9 fc8 (Or.inl (wd349 hw)) (wd331 hw) (ty := .int) (by decide) rfl rfl (g := (mkF m 16 #[rv a1, rv w2, iv (0 : Int32)] [(.int (0 : Int32)), (.ref a1)])) rfl rfl (hb hby d47_16)
  have Fw10 := fc9.same W10
  have KK10 : Keep h0 h10 [a1] := KK7.wr W10 (Or.inl (List.mem_of_getElem? (i := 0) rfl))
  have N10 := Fr.snoc X10 N7 pr3
  have fc11 := (fc8.wr W10)
  have fc12 := (((pr6.other W4 (Or.inr (slot_ne (Or.inr (wd351 hw)) (Or.inr (wd345 hw)) (by decide) (t := .boolean) (t' := (.object s37)) (by decide) (by decide)))).other W7 (Or.inr (slot_ne (Or.inr (wd351 hw)) (Or.inr (wd347 hw)) (by decide) (t := .boolean) (t' := .int) (by decide) (by decide)))).other W10 (Or.inr (slot_ne (Or.inr (wd351 hw)) (Or.inl (wd349 hw)) (by decide) (t := .boolean) (t' := .int) (by decide) (by decide))))
  obtain ⟨T13, h13, X13, e13, W13, st13⟩ := putFN X10 hx hZ hown (wd350 hw) Via.refl e10 fc12 fc11 (Or.inr ⟨(wd351 hw), rfl, hnm⟩) (wd331 hw) (ty := .boolean) (v' := (.int (0 : Int32))) (by decide) rfl rfl (g := (mkF m 21 #[rv a1, rv w2, iv (0 : Int32)] [(.int (0 : Int32)), (.ref a1)])) rfl rfl (hb hby d47_21)
  have Fw13 := fc12.same W13
  have KK13 : Keep h0 h13 [a1] := KK10.wr W13 (Or.inl (List.mem_of_getElem? (i := 0) rfl))
  have N13 := Fr.snoc X13 N10 pr3
  have fc14 := (((Fw4.other W7 (Or.inr (slot_ne (Or.inr (wd345 hw)) (Or.inr (wd347 hw)) (by decide) (t := (.object s37)) (t' := .int) (by decide) (by decide)))).other W10 (Or.inr (slot_ne (Or.inr (wd345 hw)) (Or.inl (wd349 hw)) (by decide) (t := (.object s37)) (t' := .int) (by decide) (by decide)))).other W13 (Or.inr (slot_ne (Or.inr (wd345 hw)) (Or.inr (wd351 hw)) (by decide) (t := (.object s37)) (t' := .boolean) (by decide) (by decide))))
  have fc15 := ((Fw7.other W10 (Or.inr (slot_ne (Or.inr (wd347 hw)) (Or.inl (wd349 hw)) (by decide) (t := .int) (t' := .int) (by decide) (by decide)))).other W13 (Or.inr (slot_ne (Or.inr (wd347 hw)) (Or.inr (wd351 hw)) (by decide) (t := .int) (t' := .boolean) (by decide) (by decide))))
  have fc16 := (Fw10.other W13 (Or.inr (slot_ne (Or.inl (wd349 hw)) (Or.inr (wd351 hw)) (by decide) (t := .int) (t' := .boolean) (by decide) (by decide))))
  refine ⟨none, _, _, _, _, _, X13, e13, by decide, fun _ => rfl, fun fs hr => ?_, ?_⟩
  · refine xaloadN X0 hx hby d47_0 rfl rfl ?_
    show SS p e below s₁ m 1 #[rv a1, rv w2, iv (0 : Int32)] [(.ref a1)] _
    refine st3 _ ?_
    refine xaloadN X3 hx hby d47_4 rfl rfl ?_
    refine xaloadN X3 hx hby d47_5 rfl rfl ?_
    refine st4 _ ?_
    refine xaloadN X4 hx hby d47_9 rfl rfl ?_
    refine xiloadN X4 hx hby d47_10 rfl ?_
    refine st7 _ ?_
    refine xaloadN X7 hx hby d47_14 rfl rfl ?_
    refine XS.iconst X7.here hx rfl (hb hby d47_15) ?_
    refine st10 _ ?_
    show SS p e below T10 m 19 #[rv a1, rv w2, iv (0 : Int32)] [] _
    refine xaloadN X10 hx hby d47_19 rfl rfl ?_
    refine XS.iconst X10.here hx rfl (hb hby d47_20) ?_
    refine st13 _ ?_
    show SS p e below T13 m 24 #[rv a1, rv w2, iv (0 : Int32)] [] _
    exact X13.returnOut hx hret (hb hby d47_24) hr
  · exact ⟨rfl, N13, KK13, fc14, fc15, fc16, Fw13⟩
theorem rm45_1 (l : Launch) (Z : State) (a0 : Array Value) (hw : HW a0 Z) (w1 w3 : Addr) (k4 : ClassId) (h0 : Heap) (n0 : Nat) (OL0 : Old Z n0 h0) (pr1 : Fld Z Z.heap w1 s35 s13 s8 (.ref w3)) (pr2 : Arv Z Z.heap w3 k4 (.object s20) (0 : Int32) [] .null) (pr3 : Exa Z Z.heap w1 s35) :
    MF l Z mn45 jdk_46_method_10_code 1 (some (.object s36)) ⟨2, 1, 4, 27⟩ #[(.ref w1)] h0 (fun v h L => ∃ b2 : Addr, v = some (.ref b2) ∧ Fr n0 L ∧ Keep h0 h [] ∧ h0.size ≤ b2 ∧ Exa Z h b2 s34 ∧ Fld Z h b2 s34 "list" s6 (.ref w1) ∧ Fld Z h b2 s34 "size" "I" (.int (0 : Int32)) ∧ Fld Z h b2 s34 "cursor" "I" (.int (0 : Int32)) ∧ Fld Z h b2 s34 s17 "Z" (.int (0 : Int32))) := by
  refine own_start (plainFor_of_name pn_10) (fun m => (ef_45_48 m w1)) ?_
  intro p e s m below meth c s₁ hZ hx hby hml hown hnm hret X0 e0
  have N0 := Fr.nil n0
  obtain ⟨T2, h2, X2, e2, E2, A2, D2, -, st2⟩ := newO X0 hx hZ hown (wd330 hw) (wd331 hw) (wd332 hw) e0 (g := (mkF m 0 #[rv w1] [])) rfl (hb hby d45_0) (by decide) (by decide)
  obtain ⟨b2, g2⟩ : ∃ z, z = h0.size := ⟨_, rfl⟩
  rw [← g2] at A2 D2 st2
  have g_b2 : n0 ≤ b2 := (Nat.le_trans (Nat.le_trans (Nat.le_of_eq OL0.1.symm) OL0.2.1) (Nat.le_of_eq g2.symm))
  have sz_b2 : h0.size ≤ b2 := (Nat.le_trans (Keep.refl h0 []).1 (Nat.le_of_eq g2.symm))
  have KK2 : Keep h0 h2 [] := (Keep.refl h0 []).ext E2
  have OL2 := OL0.ext E2
  have F_list_b2 : Fld Z h2 b2 s34 "list" s6 .null := D2 (Or.inr (wd345 hw)) (ty := (.object s37)) (by decide)
  have F_size_b2 : Fld Z h2 b2 s34 "size" "I" (.int (0 : Int32)) := D2 (Or.inr (wd347 hw)) (ty := .int) (by decide)
  have F_cursor_b2 : Fld Z h2 b2 s34 "cursor" "I" (.int (0 : Int32)) := D2 (Or.inl (wd349 hw)) (ty := .int) (by decide)
  have F_isListIterator_b2 : Fld Z h2 b2 s34 s17 "Z" (.int (0 : Int32)) := D2 (Or.inr (wd351 hw)) (ty := .boolean) (by decide)
  obtain ⟨_, T5, L5, X5, hQ5, st5⟩ := own_cU X2 hx hZ hown hml (cw61 hw) (rm57_0 l Z a0 hw w1 w3 k4 h2 n0 OL2 pr1 pr2) e2 (pr3.ext OL2.2) 6 #[rv w1] [] [(.ref w1), (.ref b2), (.ref b2)] 3 rfl (hb hby d45_6) (by decide)
  obtain ⟨rfl, Nq5, ec5⟩ := hQ5
  have N5 := Fr.app N0 Nq5
  obtain ⟨_, T6, L6, X6, hQ6, st6⟩ := own_cN X5 hx hZ hown hml (cw46 hw) (rm47_1 l Z a0 hw b2 w1 h2 n0 OL2 A2 F_list_b2 g_b2 F_size_b2 F_cursor_b2 F_isListIterator_b2) ec5 b2 9 #[rv w1] [(.ref w1), (.int (0 : Int32))] [(.ref b2)] 1 rfl (hb hby d45_9) (by decide)
  obtain ⟨rfl, Nq6, K6, u6_0, u6_1, u6_2, u6_3⟩ := hQ6
  have KK6 : Keep h0 T6.heap [] := KK2.trans K6 (allS (Or.inr sz_b2) all0)
  have N6 := Fr.app N5 Nq6
  have fc7 := (A2.keep K6)
  refine ⟨some (.ref b2), _, _, _, _, _, X6, rfl, by decide, nofun, fun fs hr => ?_, ?_⟩
  · refine st2 _ ?_
    show SS p e below T2 m 3 #[rv w1] [(.ref b2)] _
    refine XS.dup X2.here hx rfl (hb hby d45_3) rfl rfl ?_
    refine xaloadN X2 hx hby d45_4 rfl rfl ?_
    refine xaloadN X2 hx hby d45_5 rfl rfl ?_
    refine st5 _ ?_
    refine st6 _ ?_
    show SS p e below T6 m 12 #[rv w1] [(.ref b2)] _
    exact own_retR X6 hx hret rfl rfl rfl (hb hby d45_12) hr
  · exact ⟨b2, rfl, N6, KK6, sz_b2, fc7, u6_0, u6_1, u6_2, u6_3⟩
theorem cw62 {a0 Z} (hw : HW a0 Z) : CI a0 Z s43 23 (⟨s37, s18, "()Ljava/util/Iterator;"⟩ : MethodName) mn45 s35 0 (.code mn45 jdk_46_method_10_code 1 (some (.object s36))) :=
  ⟨wx hw 266 rfl, wx hw 267 rfl, ⟨wx hw 268 rfl, by first | rfl | simp [Cond.onTables, Cond.keepsFace, Cond.keeps, Cond.steady]⟩, wx hw 405 rfl, wx hw 325 rfl, wx hw 326 rfl, wx hw 406 rfl, wx hw 407 rfl, wx hw 329 rfl, wx hw 188 rfl, by decide, _, _, pd_26, rfl⟩
theorem rm48_2 (l : Launch) (Z : State) (a0 : Array Value) (hw : HW a0 Z) (a1 : Addr) (h0 : Heap) (n0 : Nat) (OL0 : Old Z n0 h0) (pr1 : Fld Z h0 a1 s34 "cursor" "I" (.int (0 : Int32))) (pr2 : Fld Z h0 a1 s34 "size" "I" (.int (0 : Int32))) :
    MF l Z mn48 jdk_53_method_3_code 1 (some .boolean) ⟨0, 0, 0, 0⟩ #[(.ref a1)] h0 (QR n0 h0 (some (.int (0 : Int32)))) := by
  refine own_start (plainFor_of_name pn_18) (fun m => (ef_48_49 m a1)) ?_
  intro p e s m below meth c s₁ hZ hx hby hml hown hnm hret X0 e0
  have N0 := Fr.nil n0
  obtain ⟨T2, X2, e2, st2⟩ := gF X0 hx hZ hown (wd348 hw) Via.refl e0 pr1 1 #[rv a1] [] (hb hby d48_1)
  obtain ⟨T3, X3, e3, st3⟩ := gF X2 hx hZ hown (wd346 hw) Via.refl e2 pr2 5 #[rv a1] [(.int (0 : Int32))] (hb hby d48_5)
  refine ⟨some (.int (0 : Int32)), _, _, _, _, _, X3, e3, by decide, nofun, fun fs hr => ?_, ?_⟩
  · refine xaloadN X0 hx hby d48_0 rfl rfl ?_
    show SS p e below s₁ m 1 #[rv a1] [(.ref a1)] _
    refine st2 _ ?_
    refine xaloadN X2 hx hby d48_4 rfl rfl ?_
    refine st3 _ ?_
    refine XS.icmpYes X3.here hx rfl (pc0 := 8) (pc' := 15) rfl (hb hby d48_8) rfl (teq (rfl : (0 : Int32) = (0 : Int32))).1 (by decide) (by decide) ?_
    refine XS.iconst X3.here hx rfl (hb hby d48_15) ?_
    show SS p e below T3 m 16 #[rv a1] [(.int (0 : Int32))] _
    exact retN X3 hx (t := .boolean) hret (by simp) (hb hby d48_16) hr
  · exact ⟨rfl, N0, rfl⟩
theorem rm37_1 (l : Launch) (Z : State) (a0 : Array Value) (hw : HW a0 Z) (a1 a2 a17 a18 a19 : Addr) (k20 : ClassId) (a28 w32 a38 a44 a49 a57 : Addr) (q58 : Int64) (k59 : ClassId) (a71 : Addr) (q72 : Int64) (k73 : ClassId) (a118 a126 : Addr) (q127 : Int64) (k128 : ClassId) (a144 : Addr) (q145 : Int64) (k146 : ClassId) (w191 w198 : Addr) (k199 : ClassId) (h0 : Heap) (n0 : Nat) (OL0 : Old Z n0 h0) (pr1 : Exa Z h0 a1 s43) (pr2 : Fld Z h0 a1 s43 s15 "I" (.int (0 : Int32))) (pr3 : n0 ≤ a1) (pr4 : Fld Z h0 a2 s26 "size" "I" (.int (2 : Int32))) (pr5 : a2 ≠ a1) (pr6 : Exa Z h0 a2 s26) (pr7 : Fld Z h0 a1 s43 "values" "[J" .null) (pr8 : Fld Z h0 a2 s25 s41 "I" (.int (2 : Int32))) (pr9 : Fld Z h0 a2 s26 s12 s8 (.ref a17)) (pr10 : Arv Z h0 a17 k20 (.object s20) (10 : Int32) [(.ref a18), (.ref a19), .null, .null, .null, .null, .null, .null, .null, .null] .null) (pr11 : a17 ≠ a1) (pr12 : Exa Z h0 a18 s47) (pr13 : Fld Z h0 a18 s47 "match" s6 (.ref a28)) (pr14 : a18 ≠ a1) (pr15 : Fld Z h0 a28 s33 "e1" s2 (.ref w32)) (pr16 : a28 ≠ a1) (pr17 : Sta Z Z.heap s30 "EMPTY" s2 (.ref w32)) (pr18 : Exa Z h0 a28 s33) (pr19 : Fld Z h0 a28 s33 "e0" s2 (.ref a38)) (pr20 : Exa Z h0 a38 s45) (pr21 : Fld Z h0 a38 s45 "sets" s6 (.ref a44)) (pr22 : a38 ≠ a1) (pr23 : Fld Z h0 a44 s33 "e0" s2 (.ref a49)) (pr24 : a44 ≠ a1) (pr25 : Exa Z h0 a44 s33) (pr26 : Exa Z h0 a49 s48) (pr27 : Fld Z h0 a49 s48 "lows" "[J" (.ref a57)) (pr28 : a49 ≠ a1) (pr29 : Arv Z h0 a57 k59 .long (1 : Int32) [(.long q58)] (.long (0 : Int64))) (pr30 : a57 ≠ a1) (pr31 : Fld Z h0 a49 s48 "highs" "[J" (.ref a71)) (pr32 : Arv Z h0 a71 k73 .long (1 : Int32) [(.long q72)] (.long (0 : Int64))) (pr33 : a71 ≠ a1) (pr34 : Fld Z h0 a44 s33 "e1" s2 (.ref a118)) (pr35 : Exa Z Z.heap w32 s20) (pr36 : n0 ≤ a118) (pr37 : Exa Z h0 a118 s48) (pr38 : Fld Z h0 a118 s48 "lows" "[J" (.ref a126)) (pr39 : a118 ≠ a1) (pr40 : Arv Z h0 a126 k128 .long (1 : Int32) [(.long q127)] (.long (0 : Int64))) (pr41 : a126 ≠ a1) (pr42 : Fld Z h0 a118 s48 "highs" "[J" (.ref a144)) (pr43 : Arv Z h0 a144 k146 .long (1 : Int32) [(.long q145)] (.long (0 : Int64))) (pr44 : a144 ≠ a1) (pr45 : Exa Z h0 a19 s47) (pr46 : Fld Z h0 a19 s47 "match" s6 (.ref w191)) (pr47 : a19 ≠ a1) (pr48 : Fld Z Z.heap w191 s35 s13 s8 (.ref w198)) (pr49 : Arv Z Z.heap w198 k199 (.object s20) (0 : Int32) [] .null) (pr50 : Exa Z Z.heap w191 s35) :
    MF l Z mn37 prog_24_method_1_code 13 none ⟨3, 6, 28, 39⟩ #[(.ref a1), (.int (2 : Int32)), (.ref a2)] h0 (fun v h L => ∃ b8 : Addr, ∃ k8 : ClassId, v = none ∧ Fr n0 L ∧ Keep h0 h [a1] ∧ h0.size ≤ b8 ∧ Fld Z h a1 s43 s15 "I" (.int (2 : Int32)) ∧ Fld Z h a1 s43 "values" "[J" (.ref b8) ∧ Arv Z h b8 k8 .long (8 : Int32) [(.long (own_jmin (9223372036854775807 : Int64) q58)), (.long (own_jmax (-1 : Int64) q72)), (.long (own_jmin (9223372036854775807 : Int64) q127)), (.long (own_jmax (-1 : Int64) q145)), (.long (9223372036854775807 : Int64)), (.long (-1 : Int64)), (.long (9223372036854775807 : Int64)), (.long (-1 : Int64))] (.long (0 : Int64))) := by
  refine own_start (plainFor_of_name pn_19) (fun m => (ef_37_56 m a1 a2)) ?_
  intro p e s m below meth c s₁ hZ hx hby hml hown hnm hret X0 e0
  have N0 := Fr.nil n0
  obtain ⟨T3, X3, e3, st3⟩ := initO X0 hx hZ hown (wd252 hw) (wd36 hw) (wd37 hw) e0 (g := (mkF m 1 #[rv a1, iv (2 : Int32), rv a2, uu, uu, uu, uu, uu, uu, uu, uu, uu, uu] [(.ref a1)])) rfl (by rw [hml]; rfl) rfl (hb hby d37_1) (by decide) (W := 0) (by show 2 * 0 + _ ≤ _; exact Nat.le_of_eq rfl) (by decide)
  obtain ⟨T4, h4, X4, e4, W4, st4⟩ := putF X3 hx hZ hown (host := "") (Or.inl (wd253 hw)) Via.refl e3 pr2 pr1 (Or.inr ⟨(wd254 hw), rfl, hnm⟩) (wd247 hw) (ty := .int) (by decide) rfl rfl (g := (mkF m 6 #[rv a1, iv (2 : Int32), rv a2, uu, uu, uu, uu, uu, uu, uu, uu, uu, uu] [(.int (2 : Int32)), (.ref a1)])) rfl rfl (hb hby d37_6)
  have Fw4 := pr2.same W4
  have KK4 : Keep h0 h4 [a1] := (Keep.refl h0 [a1]).wr W4 (Or.inl (List.mem_of_getElem? (i := 0) rfl))
  have OL4 := OL0.wr W4 pr3
  have N4 := Fr.snoc X4 N0 pr3
  have fc6 := (pr4.other W4 (Or.inl pr5))
  have fc7 := (pr6.wr W4)
  obtain ⟨_, T5, L5, X5, hQ5, st5⟩ := own_cI X4 hx hZ hown hml (cw38 hw) (rm38_0 l Z a0 hw a2 h4 n0 OL4 fc6) e4 fc7 11 #[rv a1, iv (2 : Int32), rv a2, uu, uu, uu, uu, uu, uu, uu, uu, uu, uu] [] [(.ref a1)] 1 rfl (hb hby d37_11) (by decide)
  obtain ⟨rfl, Nq5, ec5⟩ := hQ5
  have N5 := Fr.app N4 Nq5
  obtain ⟨T8, h8, k8, X8, e8, E8, A8, st8⟩ := newP (aty := .long) X5 hx hZ (wd0 hw) ec5 (g := (mkF m 20 #[rv a1, iv (2 : Int32), rv a2, uu, uu, uu, uu, uu, uu, uu, uu, uu, uu] [(.int (8 : Int32)), (.ref a1)])) rfl (hb hby d37_20) rfl (by decide) (cap := 8) (by decide) (by decide) (by decide) (by decide)
  obtain ⟨b8, g8⟩ : ∃ z, z = h4.size := ⟨_, rfl⟩
  rw [← g8] at A8 st8
  have V8 : Arv Z h8 b8 k8 .long (8 : Int32) [(.long (0 : Int64)), (.long (0 : Int64)), (.long (0 : Int64)), (.long (0 : Int64)), (.long (0 : Int64)), (.long (0 : Int64)), (.long (0 : Int64)), (.long (0 : Int64))] (.long (0 : Int64)) := (Arv.new A8 (by decide)).pad (pad_rep [] (.long (0 : Int64)) 8)
  have g_b8 : n0 ≤ b8 := (Nat.le_trans (Nat.le_trans (Nat.le_of_eq OL4.1.symm) OL4.2.1) (Nat.le_of_eq g8.symm))
  have sz_b8 : h0.size ≤ b8 := (Nat.le_trans KK4.1 (Nat.le_of_eq g8.symm))
  have KK8 : Keep h0 h8 [a1] := KK4.ext E8
  have OL8 := OL4.ext E8
  have fc9 := ((pr1.wr W4).ext E8)
  have fc10 := ((pr7.other W4 (Or.inr (slot_ne (Or.inr (wd265 hw)) (Or.inr (wd254 hw)) (by decide) (t := (.array .long)) (t' := .int) (by decide) (by decide)))).ext E8)
  obtain ⟨T11, h11, X11, e11, W11, st11⟩ := putF X8 hx hZ hown (host := "") (Or.inl (wd264 hw)) Via.refl e8 fc10 fc9 (Or.inr ⟨(wd265 hw), rfl, hnm⟩) (wd247 hw) (ty := (.array .long)) (by decide) rfl rfl (g := (mkF m 22 #[rv a1, iv (2 : Int32), rv a2, uu, uu, uu, uu, uu, uu, uu, uu, uu, uu] [(.ref b8), (.ref a1)])) rfl rfl (hb hby d37_22)
  have Fw11 := fc10.same W11
  have KK11 : Keep h0 h11 [a1] := KK8.wr W11 (Or.inl (List.mem_of_getElem? (i := 0) rfl))
  have OL11 := OL8.wr W11 pr3
  have N11 := Fr.snoc X11 N5 pr3
  have fc13 := (((pr8.other W4 (Or.inl pr5)).ext E8).other W11 (Or.inl pr5))
  have fc14 := ((fc7.ext E8).wr W11)
  obtain ⟨_, T12, L12, X12, hQ12, st12⟩ := own_cI X11 hx hZ hown hml (cw40 hw) (rm39_0 l Z a0 hw a2 h11 n0 OL11 fc13) e11 fc14 28 #[rv a1, iv (2 : Int32), rv a2, iv (0 : Int32), uu, uu, uu, uu, uu, uu, uu, uu, uu] [] [] 0 rfl (hb hby d37_28) (by decide)
  obtain ⟨b12_0, rfl, Nq12, K12, u12_0, u12_1, u12_2, u12_3, u12_4, u12_5⟩ := hQ12
  have KK12 : Keep h0 T12.heap [a1] := KK11.trans K12 all0
  have OL12 := OL11.keep K12 all0
  have g_b12_0 : n0 ≤ b12_0 := Nat.le_trans (Nat.le_trans (Nat.le_of_eq OL11.1.symm) OL11.2.1) u12_0
  have sz_b12_0 : h0.size ≤ b12_0 := Nat.le_trans KK11.1 u12_0
  have N12 := Fr.app N11 Nq12
  have fc16 := (((fc6.ext E8).other W11 (Or.inl pr5)).keep K12 nin0)
  obtain ⟨_, T15, L15, X15, hQ15, st15⟩ := own_cI X12 hx hZ hown hml (cw41 hw) (rm41_0 l Z a0 hw b12_0 a2 T12.heap n0 OL12 u12_5 u12_2 fc16) rfl u12_1 37 #[rv a1, iv (2 : Int32), rv a2, iv (0 : Int32), rv b12_0, uu, uu, uu, uu, uu, uu, uu, uu] [] [] 0 rfl (hb hby d37_37) (by decide)
  obtain ⟨rfl, Nq15, ec15⟩ := hQ15
  have N15 := Fr.app N12 Nq15
  have fc22 := (fc13.keep K12 nin0)
  have fc23 := ((((pr9.other W4 (Or.inl pr5)).ext E8).other W11 (Or.inl pr5)).keep K12 nin0)
  have fc24 := ((((pr10.other W4 pr11).ext E8).other W11 pr11).keep K12 nin0)
  have nz25 := nl pr10.lt sz_b12_0
  obtain ⟨_, T21, L21, X21, hQ21, st21⟩ := own_cI X15 hx hZ hown hml (cw43 hw) (rm42_0 l Z a0 hw b12_0 a2 a17 a18 a19 k20 T12.heap n0 OL12 u12_2 fc22 u12_4 u12_1 u12_5 fc16 fc23 fc24 g_b12_0 u12_3 nz25) ec15 u12_1 47 #[rv a1, iv (2 : Int32), rv a2, iv (0 : Int32), rv b12_0, uu, uu, uu, uu, uu, uu, uu, uu] [] [] 0 rfl (hb hby d37_47) (by decide)
  obtain ⟨rfl, Nq21, K21, u21_0, u21_1, u21_2, u21_3⟩ := hQ21
  have KK21 : Keep h0 T21.heap [a1] := KK12.trans K21 (allS (Or.inr sz_b12_0) all0)
  have OL21 := OL12.keep K21 (allS g_b12_0 all0)
  have N21 := Fr.app N15 Nq21
  have fc26 := (((((pr12.wr W4).ext E8).wr W11).keep K12).keep K21)
  obtain ⟨T27, X27, e27, st27⟩ := castY X21 hx hZ hown (wd315 hw) rfl (Ins.self fc26) (g := (mkF m 52 #[rv a1, iv (2 : Int32), rv a2, iv (0 : Int32), rv b12_0, uu, uu, uu, uu, uu, uu, uu, uu] [(.ref a18)])) rfl rfl (hb hby d37_52)
  have nz30 := nl pr13.lt sz_b12_0
  have fc31 := (((((pr13.other W4 (Or.inl pr14)).ext E8).other W11 (Or.inl pr14)).keep K12 nin0).keep K21 (ninS nz30 nin0))
  obtain ⟨_, T29, L29, X29, hQ29, st29⟩ := own_cV X27 hx hZ hown hml (cw44 hw) (rm44_0 l Z a0 hw a18 a28 T21.heap n0 OL21 fc31) e27 fc26 78 #[rv a1, iv (2 : Int32), rv a2, iv (0 : Int32), rv b12_0, rv a18, iv (0 : Int32), jv (9223372036854775807 : Int64), sc, jv (-1 : Int64), sc, uu, uu] [] [] 0 rfl (hb hby d37_78) (by decide)
  obtain ⟨rfl, Nq29, ec29⟩ := hQ29
  have N29 := Fr.app N21 Nq29
  have nz34 := nl pr15.lt sz_b12_0
  have fc35 := (((((pr15.other W4 (Or.inl pr16)).ext E8).other W11 (Or.inl pr16)).keep K12 nin0).keep K21 (ninS nz34 nin0))
  have fc36 := (((((pr18.wr W4).ext E8).wr W11).keep K12).keep K21)
  obtain ⟨_, T33, L33, X33, hQ33, st33⟩ := own_cI X29 hx hZ hown hml (cw47 hw) (rm45_0 l Z a0 hw a28 w32 T21.heap n0 OL21 fc35 pr17 fc36) ec29 fc36 81 #[rv a1, iv (2 : Int32), rv a2, iv (0 : Int32), rv b12_0, rv a18, iv (0 : Int32), jv (9223372036854775807 : Int64), sc, jv (-1 : Int64), sc, uu, uu] [] [] 0 rfl (hb hby d37_81) (by decide)
  obtain ⟨b33_0, rfl, Nq33, K33, u33_0, u33_1, u33_2, u33_3, u33_4, u33_5⟩ := hQ33
  have KK33 : Keep h0 T33.heap [a1] := KK21.trans K33 all0
  have OL33 := OL21.keep K33 all0
  have g_b33_0 : n0 ≤ b33_0 := Nat.le_trans (Nat.le_trans (Nat.le_of_eq OL21.1.symm) OL21.2.1) u33_0
  have sz_b33_0 : h0.size ≤ b33_0 := Nat.le_trans KK21.1 u33_0
  have N33 := Fr.app N29 Nq33
  obtain ⟨_, T37, L37, X37, hQ37, st37⟩ := own_cI X33 hx hZ hown hml (cw48 hw) (rm48_0 l Z a0 hw b33_0 T33.heap n0 OL33 u33_4 u33_3) rfl u33_1 90 #[rv a1, iv (2 : Int32), rv a2, iv (0 : Int32), rv b12_0, rv a18, iv (0 : Int32), jv (9223372036854775807 : Int64), sc, jv (-1 : Int64), sc, rv b33_0, uu] [] [] 0 rfl (hb hby d37_90) (by decide)
  obtain ⟨rfl, Nq37, ec37⟩ := hQ37
  have N37 := Fr.app N33 Nq37
  have fc40 := ((((((pr19.other W4 (Or.inl pr16)).ext E8).other W11 (Or.inl pr16)).keep K12 nin0).keep K21 (ninS nz34 nin0)).keep K33 nin0)
  have fc41 := (fc36.keep K33)
  obtain ⟨_, T39, L39, X39, hQ39, st39⟩ := own_cIW X37 hx hZ hown hml (cw50 hw) (rm49_0 l Z a0 hw b33_0 a28 a38 T33.heap n0 OL33 u33_4 u33_2 fc40 fc41 u33_1 g_b33_0 u33_3 u33_5) ec37 u33_1 100 #[rv a1, iv (2 : Int32), rv a2, iv (0 : Int32), rv b12_0, rv a18, iv (0 : Int32), jv (9223372036854775807 : Int64), sc, jv (-1 : Int64), sc, rv b33_0, uu] [] [] 0 rfl (hb hby d37_100) (by decide)
  obtain ⟨rfl, Nq39, K39, u39_0, u39_1, u39_2, u39_3⟩ := hQ39
  have KK39 : Keep h0 T39.heap [a1] := KK33.trans K39 (allS (Or.inr sz_b33_0) all0)
  have OL39 := OL33.keep K39 (allS g_b33_0 all0)
  have N39 := Fr.app N37 Nq39
  have fc42 := (((((((pr20.wr W4).ext E8).wr W11).keep K12).keep K21).keep K33).keep K39)
  obtain ⟨T43, X43, e43, st43⟩ := castY X39 hx hZ hown (wd371 hw) rfl (Ins.self fc42) (g := (mkF m 105 #[rv a1, iv (2 : Int32), rv a2, iv (0 : Int32), rv b12_0, rv a18, iv (0 : Int32), jv (9223372036854775807 : Int64), sc, jv (-1 : Int64), sc, rv b33_0, uu] [(.ref a38)])) rfl rfl (hb hby d37_105)
  have nz46 := nl pr21.lt sz_b12_0
  have nz47 := nl pr21.lt sz_b33_0
  have fc48 := (((((((pr21.other W4 (Or.inl pr22)).ext E8).other W11 (Or.inl pr22)).keep K12 nin0).keep K21 (ninS nz46 nin0)).keep K33 nin0).keep K39 (ninS nz47 nin0))
  obtain ⟨_, T45, L45, X45, hQ45, st45⟩ := own_cV X43 hx hZ hown hml (cw51 hw) (rm51_0 l Z a0 hw a38 a44 T39.heap n0 OL39 fc48) e43 fc42 114 #[rv a1, iv (2 : Int32), rv a2, iv (0 : Int32), rv b12_0, rv a18, iv (0 : Int32), jv (9223372036854775807 : Int64), sc, jv (-1 : Int64), sc, rv b33_0, rv a38] [] [(.long (9223372036854775807 : Int64))] 2 rfl (hb hby d37_114) (by decide)
  obtain ⟨rfl, Nq45, ec45⟩ := hQ45
  have N45 := Fr.app N39 Nq45
  have nz51 := nl pr23.lt sz_b12_0
  have nz52 := nl pr23.lt sz_b33_0
  have fc53 := (((((((pr23.other W4 (Or.inl pr24)).ext E8).other W11 (Or.inl pr24)).keep K12 nin0).keep K21 (ninS nz51 nin0)).keep K33 nin0).keep K39 (ninS nz52 nin0))
  have fc54 := (((((((pr25.wr W4).ext E8).wr W11).keep K12).keep K21).keep K33).keep K39)
  obtain ⟨_, T50, L50, X50, hQ50, st50⟩ := own_cI X45 hx hZ hown hml (cw52 hw) (rm50_0 l Z a0 hw a44 a49 T39.heap n0 OL39 fc53) ec45 fc54 119 #[rv a1, iv (2 : Int32), rv a2, iv (0 : Int32), rv b12_0, rv a18, iv (0 : Int32), jv (9223372036854775807 : Int64), sc, jv (-1 : Int64), sc, rv b33_0, rv a38] [(.int (0 : Int32))] [(.long (9223372036854775807 : Int64))] 2 rfl (hb hby d37_119) (by decide)
  obtain ⟨rfl, Nq50, ec50⟩ := hQ50
  have N50 := Fr.app N45 Nq50
  have fc55 := (((((((pr26.wr W4).ext E8).wr W11).keep K12).keep K21).keep K33).keep K39)
  obtain ⟨T56, X56, e56, st56⟩ := castY X50 hx hZ hown (wd379 hw) ec50 (Ins.self fc55) (g := (mkF m 124 #[rv a1, iv (2 : Int32), rv a2, iv (0 : Int32), rv b12_0, rv a18, iv (0 : Int32), jv (9223372036854775807 : Int64), sc, jv (-1 : Int64), sc, rv b33_0, rv a38] [(.ref a49), (.long (9223372036854775807 : Int64))])) rfl rfl (hb hby d37_124)
  have nz61 := nl pr27.lt sz_b12_0
  have nz62 := nl pr27.lt sz_b33_0
  have fc63 := (((((((pr27.other W4 (Or.inl pr28)).ext E8).other W11 (Or.inl pr28)).keep K12 nin0).keep K21 (ninS nz61 nin0)).keep K33 nin0).keep K39 (ninS nz62 nin0))
  have nz64 := nl pr29.lt sz_b12_0
  have nz65 := nl pr29.lt sz_b33_0
  have fc66 := (((((((pr29.other W4 pr30).ext E8).other W11 pr30).keep K12 nin0).keep K21 (ninS nz64 nin0)).keep K33 nin0).keep K39 (ninS nz65 nin0))
  obtain ⟨_, T60, L60, X60, hQ60, st60⟩ := own_cV X56 hx hZ hown hml (cw53 hw) (rm52_0 l Z a0 hw a49 a57 q58 k59 T39.heap n0 OL39 fc63 fc66) e56 fc55 127 #[rv a1, iv (2 : Int32), rv a2, iv (0 : Int32), rv b12_0, rv a18, iv (0 : Int32), jv (9223372036854775807 : Int64), sc, jv (-1 : Int64), sc, rv b33_0, rv a38] [] [(.long (9223372036854775807 : Int64))] 2 rfl (hb hby d37_127) (by decide)
  obtain ⟨rfl, Nq60, ec60⟩ := hQ60
  have N60 := Fr.app N50 Nq60
  obtain ⟨_, T67, L67, X67, hQ67, st67⟩ := own_cS X60 hx hZ hown hml (cw54 hw) (mg_own_jmin l Z a0 hw (9223372036854775807 : Int64) q58 T39.heap n0 OL39 ) ec60 130 #[rv a1, iv (2 : Int32), rv a2, iv (0 : Int32), rv b12_0, rv a18, iv (0 : Int32), jv (9223372036854775807 : Int64), sc, jv (-1 : Int64), sc, rv b33_0, rv a38] [(.long (9223372036854775807 : Int64)), (.long q58)] [] 0 rfl (hb hby d37_130) (by decide)
  obtain ⟨rfl, Nq67, ec67⟩ := hQ67
  have N67 := Fr.app N60 Nq67
  obtain ⟨_, T68, L68, X68, hQ68, st68⟩ := own_cV X67 hx hZ hown hml (cw51 hw) (rm51_0 l Z a0 hw a38 a44 T39.heap n0 OL39 fc48) ec67 fc42 139 #[rv a1, iv (2 : Int32), rv a2, iv (0 : Int32), rv b12_0, rv a18, iv (0 : Int32), .val (.long (own_jmin (9223372036854775807 : Int64) q58)), sc, jv (-1 : Int64), sc, rv b33_0, rv a38] [] [(.long (-1 : Int64))] 2 rfl (hb hby d37_139) (by decide)
  obtain ⟨rfl, Nq68, ec68⟩ := hQ68
  have N68 := Fr.app N67 Nq68
  obtain ⟨_, T69, L69, X69, hQ69, st69⟩ := own_cI X68 hx hZ hown hml (cw52 hw) (rm50_0 l Z a0 hw a44 a49 T39.heap n0 OL39 fc53) ec68 fc54 144 #[rv a1, iv (2 : Int32), rv a2, iv (0 : Int32), rv b12_0, rv a18, iv (0 : Int32), .val (.long (own_jmin (9223372036854775807 : Int64) q58)), sc, jv (-1 : Int64), sc, rv b33_0, rv a38] [(.int (0 : Int32))] [(.long (-1 : Int64))] 2 rfl (hb hby d37_144) (by decide)
  obtain ⟨rfl, Nq69, ec69⟩ := hQ69
  have N69 := Fr.app N68 Nq69
  obtain ⟨T70, X70, e70, st70⟩ := castY X69 hx hZ hown (wd379 hw) ec69 (Ins.self fc55) (g := (mkF m 149 #[rv a1, iv (2 : Int32), rv a2, iv (0 : Int32), rv b12_0, rv a18, iv (0 : Int32), .val (.long (own_jmin (9223372036854775807 : Int64) q58)), sc, jv (-1 : Int64), sc, rv b33_0, rv a38] [(.ref a49), (.long (-1 : Int64))])) rfl rfl (hb hby d37_149)
  have fc75 := (((((((pr31.other W4 (Or.inl pr28)).ext E8).other W11 (Or.inl pr28)).keep K12 nin0).keep K21 (ninS nz61 nin0)).keep K33 nin0).keep K39 (ninS nz62 nin0))
  have nz76 := nl pr32.lt sz_b12_0
  have nz77 := nl pr32.lt sz_b33_0
  have fc78 := (((((((pr32.other W4 pr33).ext E8).other W11 pr33).keep K12 nin0).keep K21 (ninS nz76 nin0)).keep K33 nin0).keep K39 (ninS nz77 nin0))
  obtain ⟨_, T74, L74, X74, hQ74, st74⟩ := own_cV X70 hx hZ hown hml (cw55 hw) (rm53_0 l Z a0 hw a49 a71 q72 k73 T39.heap n0 OL39 fc75 fc78) e70 fc55 152 #[rv a1, iv (2 : Int32), rv a2, iv (0 : Int32), rv b12_0, rv a18, iv (0 : Int32), .val (.long (own_jmin (9223372036854775807 : Int64) q58)), sc, jv (-1 : Int64), sc, rv b33_0, rv a38] [] [(.long (-1 : Int64))] 2 rfl (hb hby d37_152) (by decide)
  obtain ⟨rfl, Nq74, ec74⟩ := hQ74
  have N74 := Fr.app N69 Nq74
  obtain ⟨_, T79, L79, X79, hQ79, st79⟩ := own_cS X74 hx hZ hown hml (cw56 hw) (mg_own_jmax l Z a0 hw (-1 : Int64) q72 T39.heap n0 OL39 ) ec74 155 #[rv a1, iv (2 : Int32), rv a2, iv (0 : Int32), rv b12_0, rv a18, iv (0 : Int32), .val (.long (own_jmin (9223372036854775807 : Int64) q58)), sc, jv (-1 : Int64), sc, rv b33_0, rv a38] [(.long (-1 : Int64)), (.long q72)] [] 0 rfl (hb hby d37_155) (by decide)
  obtain ⟨rfl, Nq79, ec79⟩ := hQ79
  have N79 := Fr.app N74 Nq79
  have fc81 := (u33_1.keep K39)
  obtain ⟨_, T80, L80, X80, hQ80, st80⟩ := own_cI X79 hx hZ hown hml (cw48 hw) (rm48_1 l Z a0 hw b33_0 T39.heap n0 OL39 u39_0 u39_2) ec79 fc81 90 #[rv a1, iv (2 : Int32), rv a2, iv (0 : Int32), rv b12_0, rv a18, iv (0 : Int32), .val (.long (own_jmin (9223372036854775807 : Int64) q58)), sc, .val (.long (own_jmax (-1 : Int64) q72)), sc, rv b33_0, rv a38] [] [] 0 rfl (hb hby d37_90) (by decide)
  obtain ⟨rfl, Nq80, ec80⟩ := hQ80
  have N80 := Fr.app N79 Nq80
  have nz82 := nl pr7.lt sz_b12_0
  have nz83 := nl pr7.lt sz_b33_0
  have fc84 := ((((Fw11.keep K12 nin0).keep K21 (ninS nz82 nin0)).keep K33 nin0).keep K39 (ninS nz83 nin0))
  obtain ⟨T85, X85, e85, st85⟩ := gF X80 hx hZ hown (wd264 hw) Via.refl ec80 fc84 164 #[rv a1, iv (2 : Int32), rv a2, iv (0 : Int32), rv b12_0, rv a18, iv (0 : Int32), .val (.long (own_jmin (9223372036854775807 : Int64) q58)), sc, .val (.long (own_jmax (-1 : Int64) q72)), sc, rv b33_0, rv a38] [] (hb hby d37_164)
  have nz86 := nl pr7.lt sz_b8
  have lz87 := (lq V8.lt (Nat.le_of_eq W11.size.symm))
  have nz88 := nl lz87 u12_0
  have lz89 := (lq (lq lz87 K12.1) K21.1)
  have nz90 := nl lz89 u33_0
  have fc91 := (((((V8.other W11 (Ne.symm nz86)).keep K12 nin0).keep K21 (ninS nz88 nin0)).keep K33 nin0).keep K39 (ninS nz90 nin0))
  obtain ⟨T93, h93, X93, e93, W93, VV93, st93⟩ := own_sJ X85 hx hZ e85 fc91 (0 : Int32) (by decide) 0 (own_jmin (9223372036854775807 : Int64) q58) [] 173 #[rv a1, iv (2 : Int32), rv a2, iv (1 : Int32), rv b12_0, rv a18, iv (0 : Int32), .val (.long (own_jmin (9223372036854775807 : Int64) q58)), sc, .val (.long (own_jmax (-1 : Int64) q72)), sc, rv b33_0, rv a38] (hb hby d37_173) rfl (Nat.le_of_ble_eq_true rfl)
  have V93 : Arv Z h93 b8 k8 .long (8 : Int32) [(.long (own_jmin (9223372036854775807 : Int64) q58)), (.long (0 : Int64)), (.long (0 : Int64)), (.long (0 : Int64)), (.long (0 : Int64)), (.long (0 : Int64)), (.long (0 : Int64)), (.long (0 : Int64))] (.long (0 : Int64)) := VV93
  have KK93 : Keep h0 h93 [a1] := KK39.wr W93 (Or.inr sz_b8)
  have OL93 := OL39.wr W93 g_b8
  have N93 := Fr.snoc X93 N80 g_b8
  have fc94 := (fc84.other W93 (Or.inl nz86))
  obtain ⟨T95, X95, e95, st95⟩ := gF X93 hx hZ hown (wd264 hw) Via.refl e93 fc94 175 #[rv a1, iv (2 : Int32), rv a2, iv (1 : Int32), rv b12_0, rv a18, iv (0 : Int32), .val (.long (own_jmin (9223372036854775807 : Int64) q58)), sc, .val (.long (own_jmax (-1 : Int64) q72)), sc, rv b33_0, rv a38] [] (hb hby d37_175)
  obtain ⟨T97, h97, X97, e97, W97, VV97, st97⟩ := own_sJ X95 hx hZ e95 V93 (1 : Int32) (by decide) 1 (own_jmax (-1 : Int64) q72) [] 184 #[rv a1, iv (2 : Int32), rv a2, iv (2 : Int32), rv b12_0, rv a18, iv (0 : Int32), .val (.long (own_jmin (9223372036854775807 : Int64) q58)), sc, .val (.long (own_jmax (-1 : Int64) q72)), sc, rv b33_0, rv a38] (hb hby d37_184) rfl (Nat.le_of_ble_eq_true rfl)
  have V97 : Arv Z h97 b8 k8 .long (8 : Int32) [(.long (own_jmin (9223372036854775807 : Int64) q58)), (.long (own_jmax (-1 : Int64) q72)), (.long (0 : Int64)), (.long (0 : Int64)), (.long (0 : Int64)), (.long (0 : Int64)), (.long (0 : Int64)), (.long (0 : Int64))] (.long (0 : Int64)) := VV97
  have KK97 : Keep h0 h97 [a1] := KK93.wr W97 (Or.inr sz_b8)
  have OL97 := OL93.wr W97 g_b8
  have N97 := Fr.snoc X97 N93 g_b8
  have nz99 := nl pr13.lt sz_b33_0
  have nz100 := nl pr13.lt sz_b8
  have fc101 := ((((fc31.keep K33 nin0).keep K39 (ninS nz99 nin0)).other W93 (Or.inl nz100)).other W97 (Or.inl nz100))
  have fc102 := ((((fc26.keep K33).keep K39).wr W93).wr W97)
  obtain ⟨_, T98, L98, X98, hQ98, st98⟩ := own_cV X97 hx hZ hown hml (cw44 hw) (rm44_0 l Z a0 hw a18 a28 h97 n0 OL97 fc101) e97 fc102 78 #[rv a1, iv (2 : Int32), rv a2, iv (2 : Int32), rv b12_0, rv a18, iv (1 : Int32), jv (9223372036854775807 : Int64), sc, jv (-1 : Int64), sc, rv b33_0, rv a38] [] [] 0 rfl (hb hby d37_78) (by decide)
  obtain ⟨rfl, Nq98, ec98⟩ := hQ98
  have N98 := Fr.app N97 Nq98
  have nz104 := nl pr19.lt sz_b33_0
  have nz105 := nl pr19.lt sz_b8
  have fc106 := ((((fc35.keep K33 nin0).keep K39 (ninS nz104 nin0)).other W93 (Or.inl nz105)).other W97 (Or.inl nz105))
  have fc107 := (((fc41.keep K39).wr W93).wr W97)
  obtain ⟨_, T103, L103, X103, hQ103, st103⟩ := own_cI X98 hx hZ hown hml (cw47 hw) (rm45_0 l Z a0 hw a28 w32 h97 n0 OL97 fc106 pr17 fc107) ec98 fc107 81 #[rv a1, iv (2 : Int32), rv a2, iv (2 : Int32), rv b12_0, rv a18, iv (1 : Int32), jv (9223372036854775807 : Int64), sc, jv (-1 : Int64), sc, rv b33_0, rv a38] [] [] 0 rfl (hb hby d37_81) (by decide)
  obtain ⟨b103_0, rfl, Nq103, K103, u103_0, u103_1, u103_2, u103_3, u103_4, u103_5⟩ := hQ103
  have KK103 : Keep h0 T103.heap [a1] := KK97.trans K103 all0
  have OL103 := OL97.keep K103 all0
  have g_b103_0 : n0 ≤ b103_0 := Nat.le_trans (Nat.le_trans (Nat.le_of_eq OL97.1.symm) OL97.2.1) u103_0
  have sz_b103_0 : h0.size ≤ b103_0 := Nat.le_trans KK97.1 u103_0
  have N103 := Fr.app N98 Nq103
  obtain ⟨_, T108, L108, X108, hQ108, st108⟩ := own_cI X103 hx hZ hown hml (cw48 hw) (rm48_0 l Z a0 hw b103_0 T103.heap n0 OL103 u103_4 u103_3) rfl u103_1 90 #[rv a1, iv (2 : Int32), rv a2, iv (2 : Int32), rv b12_0, rv a18, iv (1 : Int32), jv (9223372036854775807 : Int64), sc, jv (-1 : Int64), sc, rv b103_0, rv a38] [] [] 0 rfl (hb hby d37_90) (by decide)
  obtain ⟨rfl, Nq108, ec108⟩ := hQ108
  have N108 := Fr.app N103 Nq108
  have fc110 := ((((fc40.keep K39 (ninS nz104 nin0)).other W93 (Or.inl nz105)).other W97 (Or.inl nz105)).keep K103 nin0)
  have fc111 := (fc107.keep K103)
  obtain ⟨_, T109, L109, X109, hQ109, st109⟩ := own_cIW X108 hx hZ hown hml (cw50 hw) (rm49_0 l Z a0 hw b103_0 a28 a38 T103.heap n0 OL103 u103_4 u103_2 fc110 fc111 u103_1 g_b103_0 u103_3 u103_5) ec108 u103_1 100 #[rv a1, iv (2 : Int32), rv a2, iv (2 : Int32), rv b12_0, rv a18, iv (1 : Int32), jv (9223372036854775807 : Int64), sc, jv (-1 : Int64), sc, rv b103_0, rv a38] [] [] 0 rfl (hb hby d37_100) (by decide)
  obtain ⟨rfl, Nq109, K109, u109_0, u109_1, u109_2, u109_3⟩ := hQ109
  have KK109 : Keep h0 T109.heap [a1] := KK103.trans K109 (allS (Or.inr sz_b103_0) all0)
  have OL109 := OL103.keep K109 (allS g_b103_0 all0)
  have N109 := Fr.app N108 Nq109
  have fc112 := ((((fc42.wr W93).wr W97).keep K103).keep K109)
  obtain ⟨T113, X113, e113, st113⟩ := castY X109 hx hZ hown (wd371 hw) rfl (Ins.self fc112) (g := (mkF m 105 #[rv a1, iv (2 : Int32), rv a2, iv (2 : Int32), rv b12_0, rv a18, iv (1 : Int32), jv (9223372036854775807 : Int64), sc, jv (-1 : Int64), sc, rv b103_0, rv a38] [(.ref a38)])) rfl rfl (hb hby d37_105)
  have nz115 := nl pr21.lt sz_b8
  have nz116 := nl pr21.lt sz_b103_0
  have fc117 := ((((fc48.other W93 (Or.inl nz115)).other W97 (Or.inl nz115)).keep K103 nin0).keep K109 (ninS nz116 nin0))
  obtain ⟨_, T114, L114, X114, hQ114, st114⟩ := own_cV X113 hx hZ hown hml (cw51 hw) (rm51_0 l Z a0 hw a38 a44 T109.heap n0 OL109 fc117) e113 fc112 114 #[rv a1, iv (2 : Int32), rv a2, iv (2 : Int32), rv b12_0, rv a18, iv (1 : Int32), jv (9223372036854775807 : Int64), sc, jv (-1 : Int64), sc, rv b103_0, rv a38] [] [(.long (9223372036854775807 : Int64))] 2 rfl (hb hby d37_114) (by decide)
  obtain ⟨rfl, Nq114, ec114⟩ := hQ114
  have N114 := Fr.app N109 Nq114
  have nz120 := nl pr34.lt sz_b8
  have nz121 := nl pr34.lt sz_b103_0
  have fc122 := (((((((((((pr34.other W4 (Or.inl pr24)).ext E8).other W11 (Or.inl pr24)).keep K12 nin0).keep K21 (ninS nz51 nin0)).keep K33 nin0).keep K39 (ninS nz52 nin0)).other W93 (Or.inl nz120)).other W97 (Or.inl nz120)).keep K103 nin0).keep K109 (ninS nz121 nin0))
  have fc123 := ((((fc54.wr W93).wr W97).keep K103).keep K109)
  obtain ⟨_, T119, L119, X119, hQ119, st119⟩ := own_cI X114 hx hZ hown hml (cw52 hw) (rm50_1 l Z a0 hw a44 a118 w32 T109.heap n0 OL109 fc122 pr17 pr35 pr36) ec114 fc123 119 #[rv a1, iv (2 : Int32), rv a2, iv (2 : Int32), rv b12_0, rv a18, iv (1 : Int32), jv (9223372036854775807 : Int64), sc, jv (-1 : Int64), sc, rv b103_0, rv a38] [(.int (1 : Int32))] [(.long (9223372036854775807 : Int64))] 2 rfl (hb hby d37_119) (by decide)
  obtain ⟨rfl, Nq119, ec119⟩ := hQ119
  have N119 := Fr.app N114 Nq119
  have fc124 := (((((((((((pr37.wr W4).ext E8).wr W11).keep K12).keep K21).keep K33).keep K39).wr W93).wr W97).keep K103).keep K109)
  obtain ⟨T125, X125, e125, st125⟩ := castY X119 hx hZ hown (wd379 hw) ec119 (Ins.self fc124) (g := (mkF m 124 #[rv a1, iv (2 : Int32), rv a2, iv (2 : Int32), rv b12_0, rv a18, iv (1 : Int32), jv (9223372036854775807 : Int64), sc, jv (-1 : Int64), sc, rv b103_0, rv a38] [(.ref a118), (.long (9223372036854775807 : Int64))])) rfl rfl (hb hby d37_124)
  have nz130 := nl pr38.lt sz_b12_0
  have nz131 := nl pr38.lt sz_b33_0
  have nz132 := nl pr38.lt sz_b8
  have nz133 := nl pr38.lt sz_b103_0
  have fc134 := (((((((((((pr38.other W4 (Or.inl pr39)).ext E8).other W11 (Or.inl pr39)).keep K12 nin0).keep K21 (ninS nz130 nin0)).keep K33 nin0).keep K39 (ninS nz131 nin0)).other W93 (Or.inl nz132)).other W97 (Or.inl nz132)).keep K103 nin0).keep K109 (ninS nz133 nin0))
  have nz135 := nl pr40.lt sz_b12_0
  have nz136 := nl pr40.lt sz_b33_0
  have nz137 := nl pr40.lt sz_b8
  have nz138 := nl pr40.lt sz_b103_0
  have fc139 := (((((((((((pr40.other W4 pr41).ext E8).other W11 pr41).keep K12 nin0).keep K21 (ninS nz135 nin0)).keep K33 nin0).keep K39 (ninS nz136 nin0)).other W93 nz137).other W97 nz137).keep K103 nin0).keep K109 (ninS nz138 nin0))
  obtain ⟨_, T129, L129, X129, hQ129, st129⟩ := own_cV X125 hx hZ hown hml (cw53 hw) (rm52_0 l Z a0 hw a118 a126 q127 k128 T109.heap n0 OL109 fc134 fc139) e125 fc124 127 #[rv a1, iv (2 : Int32), rv a2, iv (2 : Int32), rv b12_0, rv a18, iv (1 : Int32), jv (9223372036854775807 : Int64), sc, jv (-1 : Int64), sc, rv b103_0, rv a38] [] [(.long (9223372036854775807 : Int64))] 2 rfl (hb hby d37_127) (by decide)
  obtain ⟨rfl, Nq129, ec129⟩ := hQ129
  have N129 := Fr.app N119 Nq129
  obtain ⟨_, T140, L140, X140, hQ140, st140⟩ := own_cS X129 hx hZ hown hml (cw54 hw) (mg_own_jmin l Z a0 hw (9223372036854775807 : Int64) q127 T109.heap n0 OL109 ) ec129 130 #[rv a1, iv (2 : Int32), rv a2, iv (2 : Int32), rv b12_0, rv a18, iv (1 : Int32), jv (9223372036854775807 : Int64), sc, jv (-1 : Int64), sc, rv b103_0, rv a38] [(.long (9223372036854775807 : Int64)), (.long q127)] [] 0 rfl (hb hby d37_130) (by decide)
  obtain ⟨rfl, Nq140, ec140⟩ := hQ140
  have N140 := Fr.app N129 Nq140
  obtain ⟨_, T141, L141, X141, hQ141, st141⟩ := own_cV X140 hx hZ hown hml (cw51 hw) (rm51_0 l Z a0 hw a38 a44 T109.heap n0 OL109 fc117) ec140 fc112 139 #[rv a1, iv (2 : Int32), rv a2, iv (2 : Int32), rv b12_0, rv a18, iv (1 : Int32), .val (.long (own_jmin (9223372036854775807 : Int64) q127)), sc, jv (-1 : Int64), sc, rv b103_0, rv a38] [] [(.long (-1 : Int64))] 2 rfl (hb hby d37_139) (by decide)
  obtain ⟨rfl, Nq141, ec141⟩ := hQ141
  have N141 := Fr.app N140 Nq141
  obtain ⟨_, T142, L142, X142, hQ142, st142⟩ := own_cI X141 hx hZ hown hml (cw52 hw) (rm50_1 l Z a0 hw a44 a118 w32 T109.heap n0 OL109 fc122 pr17 pr35 pr36) ec141 fc123 144 #[rv a1, iv (2 : Int32), rv a2, iv (2 : Int32), rv b12_0, rv a18, iv (1 : Int32), .val (.long (own_jmin (9223372036854775807 : Int64) q127)), sc, jv (-1 : Int64), sc, rv b103_0, rv a38] [(.int (1 : Int32))] [(.long (-1 : Int64))] 2 rfl (hb hby d37_144) (by decide)
  obtain ⟨rfl, Nq142, ec142⟩ := hQ142
  have N142 := Fr.app N141 Nq142
  obtain ⟨T143, X143, e143, st143⟩ := castY X142 hx hZ hown (wd379 hw) ec142 (Ins.self fc124) (g := (mkF m 149 #[rv a1, iv (2 : Int32), rv a2, iv (2 : Int32), rv b12_0, rv a18, iv (1 : Int32), .val (.long (own_jmin (9223372036854775807 : Int64) q127)), sc, jv (-1 : Int64), sc, rv b103_0, rv a38] [(.ref a118), (.long (-1 : Int64))])) rfl rfl (hb hby d37_149)
  have fc148 := (((((((((((pr42.other W4 (Or.inl pr39)).ext E8).other W11 (Or.inl pr39)).keep K12 nin0).keep K21 (ninS nz130 nin0)).keep K33 nin0).keep K39 (ninS nz131 nin0)).other W93 (Or.inl nz132)).other W97 (Or.inl nz132)).keep K103 nin0).keep K109 (ninS nz133 nin0))
  have nz149 := nl pr43.lt sz_b12_0
  have nz150 := nl pr43.lt sz_b33_0
  have nz151 := nl pr43.lt sz_b8
  have nz152 := nl pr43.lt sz_b103_0
  have fc153 := (((((((((((pr43.other W4 pr44).ext E8).other W11 pr44).keep K12 nin0).keep K21 (ninS nz149 nin0)).keep K33 nin0).keep K39 (ninS nz150 nin0)).other W93 nz151).other W97 nz151).keep K103 nin0).keep K109 (ninS nz152 nin0))
  obtain ⟨_, T147, L147, X147, hQ147, st147⟩ := own_cV X143 hx hZ hown hml (cw55 hw) (rm53_0 l Z a0 hw a118 a144 q145 k146 T109.heap n0 OL109 fc148 fc153) e143 fc124 152 #[rv a1, iv (2 : Int32), rv a2, iv (2 : Int32), rv b12_0, rv a18, iv (1 : Int32), .val (.long (own_jmin (9223372036854775807 : Int64) q127)), sc, jv (-1 : Int64), sc, rv b103_0, rv a38] [] [(.long (-1 : Int64))] 2 rfl (hb hby d37_152) (by decide)
  obtain ⟨rfl, Nq147, ec147⟩ := hQ147
  have N147 := Fr.app N142 Nq147
  obtain ⟨_, T154, L154, X154, hQ154, st154⟩ := own_cS X147 hx hZ hown hml (cw56 hw) (mg_own_jmax l Z a0 hw (-1 : Int64) q145 T109.heap n0 OL109 ) ec147 155 #[rv a1, iv (2 : Int32), rv a2, iv (2 : Int32), rv b12_0, rv a18, iv (1 : Int32), .val (.long (own_jmin (9223372036854775807 : Int64) q127)), sc, jv (-1 : Int64), sc, rv b103_0, rv a38] [(.long (-1 : Int64)), (.long q145)] [] 0 rfl (hb hby d37_155) (by decide)
  obtain ⟨rfl, Nq154, ec154⟩ := hQ154
  have N154 := Fr.app N147 Nq154
  have fc156 := (u103_1.keep K109)
  obtain ⟨_, T155, L155, X155, hQ155, st155⟩ := own_cI X154 hx hZ hown hml (cw48 hw) (rm48_1 l Z a0 hw b103_0 T109.heap n0 OL109 u109_0 u109_2) ec154 fc156 90 #[rv a1, iv (2 : Int32), rv a2, iv (2 : Int32), rv b12_0, rv a18, iv (1 : Int32), .val (.long (own_jmin (9223372036854775807 : Int64) q127)), sc, .val (.long (own_jmax (-1 : Int64) q145)), sc, rv b103_0, rv a38] [] [] 0 rfl (hb hby d37_90) (by decide)
  obtain ⟨rfl, Nq155, ec155⟩ := hQ155
  have N155 := Fr.app N154 Nq155
  have nz157 := nl pr7.lt sz_b103_0
  have fc158 := (((fc94.other W97 (Or.inl nz86)).keep K103 nin0).keep K109 (ninS nz157 nin0))
  obtain ⟨T159, X159, e159, st159⟩ := gF X155 hx hZ hown (wd264 hw) Via.refl ec155 fc158 164 #[rv a1, iv (2 : Int32), rv a2, iv (2 : Int32), rv b12_0, rv a18, iv (1 : Int32), .val (.long (own_jmin (9223372036854775807 : Int64) q127)), sc, .val (.long (own_jmax (-1 : Int64) q145)), sc, rv b103_0, rv a38] [] (hb hby d37_164)
  have nz160 := nl V97.lt u103_0
  have fc161 := ((V97.keep K103 nin0).keep K109 (ninS nz160 nin0))
  obtain ⟨T163, h163, X163, e163, W163, VV163, st163⟩ := own_sJ X159 hx hZ e159 fc161 (2 : Int32) (by decide) 2 (own_jmin (9223372036854775807 : Int64) q127) [] 173 #[rv a1, iv (2 : Int32), rv a2, iv (3 : Int32), rv b12_0, rv a18, iv (1 : Int32), .val (.long (own_jmin (9223372036854775807 : Int64) q127)), sc, .val (.long (own_jmax (-1 : Int64) q145)), sc, rv b103_0, rv a38] (hb hby d37_173) rfl (Nat.le_of_ble_eq_true rfl)
  have V163 : Arv Z h163 b8 k8 .long (8 : Int32) [(.long (own_jmin (9223372036854775807 : Int64) q58)), (.long (own_jmax (-1 : Int64) q72)), (.long (own_jmin (9223372036854775807 : Int64) q127)), (.long (0 : Int64)), (.long (0 : Int64)), (.long (0 : Int64)), (.long (0 : Int64)), (.long (0 : Int64))] (.long (0 : Int64)) := VV163
  have KK163 : Keep h0 h163 [a1] := KK109.wr W163 (Or.inr sz_b8)
  have OL163 := OL109.wr W163 g_b8
  have N163 := Fr.snoc X163 N155 g_b8
  have fc164 := (fc158.other W163 (Or.inl nz86))
  obtain ⟨T165, X165, e165, st165⟩ := gF X163 hx hZ hown (wd264 hw) Via.refl e163 fc164 175 #[rv a1, iv (2 : Int32), rv a2, iv (3 : Int32), rv b12_0, rv a18, iv (1 : Int32), .val (.long (own_jmin (9223372036854775807 : Int64) q127)), sc, .val (.long (own_jmax (-1 : Int64) q145)), sc, rv b103_0, rv a38] [] (hb hby d37_175)
  obtain ⟨T167, h167, X167, e167, W167, VV167, st167⟩ := own_sJ X165 hx hZ e165 V163 (3 : Int32) (by decide) 3 (own_jmax (-1 : Int64) q145) [] 184 #[rv a1, iv (2 : Int32), rv a2, iv (4 : Int32), rv b12_0, rv a18, iv (1 : Int32), .val (.long (own_jmin (9223372036854775807 : Int64) q127)), sc, .val (.long (own_jmax (-1 : Int64) q145)), sc, rv b103_0, rv a38] (hb hby d37_184) rfl (Nat.le_of_ble_eq_true rfl)
  have V167 : Arv Z h167 b8 k8 .long (8 : Int32) [(.long (own_jmin (9223372036854775807 : Int64) q58)), (.long (own_jmax (-1 : Int64) q72)), (.long (own_jmin (9223372036854775807 : Int64) q127)), (.long (own_jmax (-1 : Int64) q145)), (.long (0 : Int64)), (.long (0 : Int64)), (.long (0 : Int64)), (.long (0 : Int64))] (.long (0 : Int64)) := VV167
  have KK167 : Keep h0 h167 [a1] := KK163.wr W167 (Or.inr sz_b8)
  have OL167 := OL163.wr W167 g_b8
  have N167 := Fr.snoc X167 N163 g_b8
  have nz169 := nl u21_3.lt u33_0
  have lz170 := (lq (lq (lq (lq u21_3.lt K33.1) K39.1) (Nat.le_of_eq W93.size.symm)) (Nat.le_of_eq W97.size.symm))
  have nz171 := nl lz170 u103_0
  have fc172 := ((((((((u21_2.keep K33 nin0).keep K39 (ninS nz169 nin0)).other W93 (Or.inl (Ne.symm nz88))).other W97 (Or.inl (Ne.symm nz88))).keep K103 nin0).keep K109 (ninS nz171 nin0)).other W163 (Or.inl (Ne.symm nz88))).other W167 (Or.inl (Ne.symm nz88)))
  have fc173 := ((((((((u21_0.keep K33 nin0).keep K39 (ninS nz169 nin0)).other W93 (Or.inl (Ne.symm nz88))).other W97 (Or.inl (Ne.symm nz88))).keep K103 nin0).keep K109 (ninS nz171 nin0)).other W163 (Or.inl (Ne.symm nz88))).other W167 (Or.inl (Ne.symm nz88)))
  have nz174 := nl pr9.lt sz_b12_0
  have nz175 := nl pr9.lt sz_b33_0
  have nz176 := nl pr9.lt sz_b8
  have nz177 := nl pr9.lt sz_b103_0
  have fc178 := (((((((((fc16.keep K21 (ninS nz174 nin0)).keep K33 nin0).keep K39 (ninS nz175 nin0)).other W93 (Or.inl nz176)).other W97 (Or.inl nz176)).keep K103 nin0).keep K109 (ninS nz177 nin0)).other W163 (Or.inl nz176)).other W167 (Or.inl nz176))
  have fc179 := (((((((((u12_1.keep K21).keep K33).keep K39).wr W93).wr W97).keep K103).keep K109).wr W163).wr W167)
  obtain ⟨_, T168, L168, X168, hQ168, st168⟩ := own_cI X167 hx hZ hown hml (cw41 hw) (rm41_1 l Z a0 hw b12_0 a2 h167 n0 OL167 fc172 fc173 fc178) e167 fc179 37 #[rv a1, iv (2 : Int32), rv a2, iv (4 : Int32), rv b12_0, rv a18, iv (2 : Int32), .val (.long (own_jmin (9223372036854775807 : Int64) q127)), sc, .val (.long (own_jmax (-1 : Int64) q145)), sc, rv b103_0, rv a38] [] [] 0 rfl (hb hby d37_37) (by decide)
  obtain ⟨rfl, Nq168, ec168⟩ := hQ168
  have N168 := Fr.app N167 Nq168
  have fc181 := (((((((((fc22.keep K21 (ninS nz174 nin0)).keep K33 nin0).keep K39 (ninS nz175 nin0)).other W93 (Or.inl nz176)).other W97 (Or.inl nz176)).keep K103 nin0).keep K109 (ninS nz177 nin0)).other W163 (Or.inl nz176)).other W167 (Or.inl nz176))
  have fc182 := ((((((((u21_1.keep K33 nin0).keep K39 (ninS nz169 nin0)).other W93 (Or.inl (Ne.symm nz88))).other W97 (Or.inl (Ne.symm nz88))).keep K103 nin0).keep K109 (ninS nz171 nin0)).other W163 (Or.inl (Ne.symm nz88))).other W167 (Or.inl (Ne.symm nz88)))
  have fc183 := (((((((((fc23.keep K21 (ninS nz174 nin0)).keep K33 nin0).keep K39 (ninS nz175 nin0)).other W93 (Or.inl nz176)).other W97 (Or.inl nz176)).keep K103 nin0).keep K109 (ninS nz177 nin0)).other W163 (Or.inl nz176)).other W167 (Or.inl nz176))
  have nz184 := nl pr10.lt sz_b33_0
  have nz185 := nl pr10.lt sz_b8
  have nz186 := nl pr10.lt sz_b103_0
  have fc187 := (((((((((fc24.keep K21 (ninS nz25 nin0)).keep K33 nin0).keep K39 (ninS nz184 nin0)).other W93 nz185).other W97 nz185).keep K103 nin0).keep K109 (ninS nz186 nin0)).other W163 nz185).other W167 nz185)
  have fc188 := ((((((((u21_3.keep K33 nin0).keep K39 (ninS nz169 nin0)).other W93 (Or.inl (Ne.symm nz88))).other W97 (Or.inl (Ne.symm nz88))).keep K103 nin0).keep K109 (ninS nz171 nin0)).other W163 (Or.inl (Ne.symm nz88))).other W167 (Or.inl (Ne.symm nz88)))
  obtain ⟨_, T180, L180, X180, hQ180, st180⟩ := own_cI X168 hx hZ hown hml (cw43 hw) (rm42_1 l Z a0 hw b12_0 a2 a17 a18 a19 k20 h167 n0 OL167 fc173 fc181 fc182 fc179 fc172 fc178 fc183 fc187 g_b12_0 fc188 nz25) ec168 fc179 47 #[rv a1, iv (2 : Int32), rv a2, iv (4 : Int32), rv b12_0, rv a18, iv (2 : Int32), .val (.long (own_jmin (9223372036854775807 : Int64) q127)), sc, .val (.long (own_jmax (-1 : Int64) q145)), sc, rv b103_0, rv a38] [] [] 0 rfl (hb hby d37_47) (by decide)
  obtain ⟨rfl, Nq180, K180, u180_0, u180_1, u180_2, u180_3⟩ := hQ180
  have KK180 : Keep h0 T180.heap [a1] := KK167.trans K180 (allS (Or.inr sz_b12_0) all0)
  have OL180 := OL167.keep K180 (allS g_b12_0 all0)
  have N180 := Fr.app N168 Nq180
  have fc189 := ((((((((((((((pr45.wr W4).ext E8).wr W11).keep K12).keep K21).keep K33).keep K39).wr W93).wr W97).keep K103).keep K109).wr W163).wr W167).keep K180)
  obtain ⟨T190, X190, e190, st190⟩ := castY X180 hx hZ hown (wd315 hw) rfl (Ins.self fc189) (g := (mkF m 52 #[rv a1, iv (2 : Int32), rv a2, iv (4 : Int32), rv b12_0, rv a18, iv (2 : Int32), .val (.long (own_jmin (9223372036854775807 : Int64) q127)), sc, .val (.long (own_jmax (-1 : Int64) q145)), sc, rv b103_0, rv a38] [(.ref a19)])) rfl rfl (hb hby d37_52)
  have nz193 := nl pr46.lt sz_b12_0
  have nz194 := nl pr46.lt sz_b33_0
  have nz195 := nl pr46.lt sz_b8
  have nz196 := nl pr46.lt sz_b103_0
  have fc197 := ((((((((((((((pr46.other W4 (Or.inl pr47)).ext E8).other W11 (Or.inl pr47)).keep K12 nin0).keep K21 (ninS nz193 nin0)).keep K33 nin0).keep K39 (ninS nz194 nin0)).other W93 (Or.inl nz195)).other W97 (Or.inl nz195)).keep K103 nin0).keep K109 (ninS nz196 nin0)).other W163 (Or.inl nz195)).other W167 (Or.inl nz195)).keep K180 (ninS nz193 nin0))
  obtain ⟨_, T192, L192, X192, hQ192, st192⟩ := own_cV X190 hx hZ hown hml (cw44 hw) (rm44_1 l Z a0 hw a19 w191 T180.heap n0 OL180 fc197) e190 fc189 78 #[rv a1, iv (2 : Int32), rv a2, iv (4 : Int32), rv b12_0, rv a19, iv (0 : Int32), jv (9223372036854775807 : Int64), sc, jv (-1 : Int64), sc, rv b103_0, rv a38] [] [] 0 rfl (hb hby d37_78) (by decide)
  obtain ⟨rfl, Nq192, ec192⟩ := hQ192
  have N192 := Fr.app N180 Nq192
  obtain ⟨_, T200, L200, X200, hQ200, st200⟩ := own_cI X192 hx hZ hown hml (cw62 hw) (rm45_1 l Z a0 hw w191 w198 k199 T180.heap n0 OL180 pr48 pr49 pr50) ec192 (pr50.ext OL180.2) 81 #[rv a1, iv (2 : Int32), rv a2, iv (4 : Int32), rv b12_0, rv a19, iv (0 : Int32), jv (9223372036854775807 : Int64), sc, jv (-1 : Int64), sc, rv b103_0, rv a38] [] [] 0 rfl (hb hby d37_81) (by decide)
  obtain ⟨b200_0, rfl, Nq200, K200, u200_0, u200_1, u200_2, u200_3, u200_4, u200_5⟩ := hQ200
  have KK200 : Keep h0 T200.heap [a1] := KK180.trans K200 all0
  have OL200 := OL180.keep K200 all0
  have N200 := Fr.app N192 Nq200
  obtain ⟨_, T201, L201, X201, hQ201, st201⟩ := own_cI X200 hx hZ hown hml (cw48 hw) (rm48_2 l Z a0 hw b200_0 T200.heap n0 OL200 u200_4 u200_3) rfl u200_1 90 #[rv a1, iv (2 : Int32), rv a2, iv (4 : Int32), rv b12_0, rv a19, iv (0 : Int32), jv (9223372036854775807 : Int64), sc, jv (-1 : Int64), sc, rv b200_0, rv a38] [] [] 0 rfl (hb hby d37_90) (by decide)
  obtain ⟨rfl, Nq201, ec201⟩ := hQ201
  have N201 := Fr.app N200 Nq201
  have fc202 := (((fc164.other W167 (Or.inl nz86)).keep K180 (ninS nz82 nin0)).keep K200 nin0)
  obtain ⟨T203, X203, e203, st203⟩ := gF X201 hx hZ hown (wd264 hw) Via.refl ec201 fc202 164 #[rv a1, iv (2 : Int32), rv a2, iv (4 : Int32), rv b12_0, rv a19, iv (0 : Int32), jv (9223372036854775807 : Int64), sc, jv (-1 : Int64), sc, rv b200_0, rv a38] [] (hb hby d37_164)
  have fc204 := ((V167.keep K180 (ninS nz88 nin0)).keep K200 nin0)
  obtain ⟨T206, h206, X206, e206, W206, VV206, st206⟩ := own_sJ X203 hx hZ e203 fc204 (4 : Int32) (by decide) 4 (9223372036854775807 : Int64) [] 173 #[rv a1, iv (2 : Int32), rv a2, iv (5 : Int32), rv b12_0, rv a19, iv (0 : Int32), jv (9223372036854775807 : Int64), sc, jv (-1 : Int64), sc, rv b200_0, rv a38] (hb hby d37_173) rfl (Nat.le_of_ble_eq_true rfl)
  have V206 : Arv Z h206 b8 k8 .long (8 : Int32) [(.long (own_jmin (9223372036854775807 : Int64) q58)), (.long (own_jmax (-1 : Int64) q72)), (.long (own_jmin (9223372036854775807 : Int64) q127)), (.long (own_jmax (-1 : Int64) q145)), (.long (9223372036854775807 : Int64)), (.long (0 : Int64)), (.long (0 : Int64)), (.long (0 : Int64))] (.long (0 : Int64)) := VV206
  have KK206 : Keep h0 h206 [a1] := KK200.wr W206 (Or.inr sz_b8)
  have OL206 := OL200.wr W206 g_b8
  have N206 := Fr.snoc X206 N201 g_b8
  have fc207 := (fc202.other W206 (Or.inl nz86))
  obtain ⟨T208, X208, e208, st208⟩ := gF X206 hx hZ hown (wd264 hw) Via.refl e206 fc207 175 #[rv a1, iv (2 : Int32), rv a2, iv (5 : Int32), rv b12_0, rv a19, iv (0 : Int32), jv (9223372036854775807 : Int64), sc, jv (-1 : Int64), sc, rv b200_0, rv a38] [] (hb hby d37_175)
  obtain ⟨T210, h210, X210, e210, W210, VV210, st210⟩ := own_sJ X208 hx hZ e208 V206 (5 : Int32) (by decide) 5 (-1 : Int64) [] 184 #[rv a1, iv (2 : Int32), rv a2, iv (6 : Int32), rv b12_0, rv a19, iv (0 : Int32), jv (9223372036854775807 : Int64), sc, jv (-1 : Int64), sc, rv b200_0, rv a38] (hb hby d37_184) rfl (Nat.le_of_ble_eq_true rfl)
  have V210 : Arv Z h210 b8 k8 .long (8 : Int32) [(.long (own_jmin (9223372036854775807 : Int64) q58)), (.long (own_jmax (-1 : Int64) q72)), (.long (own_jmin (9223372036854775807 : Int64) q127)), (.long (own_jmax (-1 : Int64) q145)), (.long (9223372036854775807 : Int64)), (.long (-1 : Int64)), (.long (0 : Int64)), (.long (0 : Int64))] (.long (0 : Int64)) := VV210
  have KK210 : Keep h0 h210 [a1] := KK206.wr W210 (Or.inr sz_b8)
  have OL210 := OL206.wr W210 g_b8
  have N210 := Fr.snoc X210 N206 g_b8
  have fc212 := (((fc197.keep K200 nin0).other W206 (Or.inl nz195)).other W210 (Or.inl nz195))
  have fc213 := (((fc189.keep K200).wr W206).wr W210)
  obtain ⟨_, T211, L211, X211, hQ211, st211⟩ := own_cV X210 hx hZ hown hml (cw44 hw) (rm44_1 l Z a0 hw a19 w191 h210 n0 OL210 fc212) e210 fc213 78 #[rv a1, iv (2 : Int32), rv a2, iv (6 : Int32), rv b12_0, rv a19, iv (1 : Int32), jv (9223372036854775807 : Int64), sc, jv (-1 : Int64), sc, rv b200_0, rv a38] [] [] 0 rfl (hb hby d37_78) (by decide)
  obtain ⟨rfl, Nq211, ec211⟩ := hQ211
  have N211 := Fr.app N210 Nq211
  obtain ⟨_, T214, L214, X214, hQ214, st214⟩ := own_cI X211 hx hZ hown hml (cw62 hw) (rm45_1 l Z a0 hw w191 w198 k199 h210 n0 OL210 pr48 pr49 pr50) ec211 (pr50.ext OL210.2) 81 #[rv a1, iv (2 : Int32), rv a2, iv (6 : Int32), rv b12_0, rv a19, iv (1 : Int32), jv (9223372036854775807 : Int64), sc, jv (-1 : Int64), sc, rv b200_0, rv a38] [] [] 0 rfl (hb hby d37_81) (by decide)
  obtain ⟨b214_0, rfl, Nq214, K214, u214_0, u214_1, u214_2, u214_3, u214_4, u214_5⟩ := hQ214
  have KK214 : Keep h0 T214.heap [a1] := KK210.trans K214 all0
  have OL214 := OL210.keep K214 all0
  have N214 := Fr.app N211 Nq214
  obtain ⟨_, T215, L215, X215, hQ215, st215⟩ := own_cI X214 hx hZ hown hml (cw48 hw) (rm48_2 l Z a0 hw b214_0 T214.heap n0 OL214 u214_4 u214_3) rfl u214_1 90 #[rv a1, iv (2 : Int32), rv a2, iv (6 : Int32), rv b12_0, rv a19, iv (1 : Int32), jv (9223372036854775807 : Int64), sc, jv (-1 : Int64), sc, rv b214_0, rv a38] [] [] 0 rfl (hb hby d37_90) (by decide)
  obtain ⟨rfl, Nq215, ec215⟩ := hQ215
  have N215 := Fr.app N214 Nq215
  have fc216 := ((fc207.other W210 (Or.inl nz86)).keep K214 nin0)
  obtain ⟨T217, X217, e217, st217⟩ := gF X215 hx hZ hown (wd264 hw) Via.refl ec215 fc216 164 #[rv a1, iv (2 : Int32), rv a2, iv (6 : Int32), rv b12_0, rv a19, iv (1 : Int32), jv (9223372036854775807 : Int64), sc, jv (-1 : Int64), sc, rv b214_0, rv a38] [] (hb hby d37_164)
  have fc218 := (V210.keep K214 nin0)
  obtain ⟨T220, h220, X220, e220, W220, VV220, st220⟩ := own_sJ X217 hx hZ e217 fc218 (6 : Int32) (by decide) 6 (9223372036854775807 : Int64) [] 173 #[rv a1, iv (2 : Int32), rv a2, iv (7 : Int32), rv b12_0, rv a19, iv (1 : Int32), jv (9223372036854775807 : Int64), sc, jv (-1 : Int64), sc, rv b214_0, rv a38] (hb hby d37_173) rfl (Nat.le_of_ble_eq_true rfl)
  have V220 : Arv Z h220 b8 k8 .long (8 : Int32) [(.long (own_jmin (9223372036854775807 : Int64) q58)), (.long (own_jmax (-1 : Int64) q72)), (.long (own_jmin (9223372036854775807 : Int64) q127)), (.long (own_jmax (-1 : Int64) q145)), (.long (9223372036854775807 : Int64)), (.long (-1 : Int64)), (.long (9223372036854775807 : Int64)), (.long (0 : Int64))] (.long (0 : Int64)) := VV220
  have KK220 : Keep h0 h220 [a1] := KK214.wr W220 (Or.inr sz_b8)
  have OL220 := OL214.wr W220 g_b8
  have N220 := Fr.snoc X220 N215 g_b8
  have fc221 := (fc216.other W220 (Or.inl nz86))
  obtain ⟨T222, X222, e222, st222⟩ := gF X220 hx hZ hown (wd264 hw) Via.refl e220 fc221 175 #[rv a1, iv (2 : Int32), rv a2, iv (7 : Int32), rv b12_0, rv a19, iv (1 : Int32), jv (9223372036854775807 : Int64), sc, jv (-1 : Int64), sc, rv b214_0, rv a38] [] (hb hby d37_175)
  obtain ⟨T224, h224, X224, e224, W224, VV224, st224⟩ := own_sJ X222 hx hZ e222 V220 (7 : Int32) (by decide) 7 (-1 : Int64) [] 184 #[rv a1, iv (2 : Int32), rv a2, iv (8 : Int32), rv b12_0, rv a19, iv (1 : Int32), jv (9223372036854775807 : Int64), sc, jv (-1 : Int64), sc, rv b214_0, rv a38] (hb hby d37_184) rfl (Nat.le_of_ble_eq_true rfl)
  have V224 : Arv Z h224 b8 k8 .long (8 : Int32) [(.long (own_jmin (9223372036854775807 : Int64) q58)), (.long (own_jmax (-1 : Int64) q72)), (.long (own_jmin (9223372036854775807 : Int64) q127)), (.long (own_jmax (-1 : Int64) q145)), (.long (9223372036854775807 : Int64)), (.long (-1 : Int64)), (.long (9223372036854775807 : Int64)), (.long (-1 : Int64))] (.long (0 : Int64)) := VV224
  have KK224 : Keep h0 h224 [a1] := KK220.wr W224 (Or.inr sz_b8)
  have OL224 := OL220.wr W224 g_b8
  have N224 := Fr.snoc X224 N220 g_b8
  have fc226 := ((((((u180_2.keep K200 nin0).other W206 (Or.inl (Ne.symm nz88))).other W210 (Or.inl (Ne.symm nz88))).keep K214 nin0).other W220 (Or.inl (Ne.symm nz88))).other W224 (Or.inl (Ne.symm nz88)))
  have fc227 := ((((((u180_0.keep K200 nin0).other W206 (Or.inl (Ne.symm nz88))).other W210 (Or.inl (Ne.symm nz88))).keep K214 nin0).other W220 (Or.inl (Ne.symm nz88))).other W224 (Or.inl (Ne.symm nz88)))
  have fc228 := (((((((fc178.keep K180 (ninS nz174 nin0)).keep K200 nin0).other W206 (Or.inl nz176)).other W210 (Or.inl nz176)).keep K214 nin0).other W220 (Or.inl nz176)).other W224 (Or.inl nz176))
  have fc229 := (((((((fc179.keep K180).keep K200).wr W206).wr W210).keep K214).wr W220).wr W224)
  obtain ⟨_, T225, L225, X225, hQ225, st225⟩ := own_cI X224 hx hZ hown hml (cw41 hw) (rm41_2 l Z a0 hw b12_0 a2 h224 n0 OL224 fc226 fc227 fc228) e224 fc229 37 #[rv a1, iv (2 : Int32), rv a2, iv (8 : Int32), rv b12_0, rv a19, iv (2 : Int32), jv (9223372036854775807 : Int64), sc, jv (-1 : Int64), sc, rv b214_0, rv a38] [] [] 0 rfl (hb hby d37_37) (by decide)
  obtain ⟨rfl, Nq225, ec225⟩ := hQ225
  have N225 := Fr.app N224 Nq225
  have fc230 := (((((((((((((((((((Fw4.ext E8).other W11 (Or.inr (slot_ne (Or.inr (wd254 hw)) (Or.inr (wd265 hw)) (by decide) (t := .int) (t' := (.array .long)) (by decide) (by decide)))).keep K12 nin0).keep K21 (ninS nz82 nin0)).keep K33 nin0).keep K39 (ninS nz83 nin0)).other W93 (Or.inl nz86)).other W97 (Or.inl nz86)).keep K103 nin0).keep K109 (ninS nz157 nin0)).other W163 (Or.inl nz86)).other W167 (Or.inl nz86)).keep K180 (ninS nz82 nin0)).keep K200 nin0).other W206 (Or.inl nz86)).other W210 (Or.inl nz86)).keep K214 nin0).other W220 (Or.inl nz86)).other W224 (Or.inl nz86))
  have fc231 := (fc221.other W224 (Or.inl nz86))
  refine ⟨none, _, _, _, _, _, X225, ec225, by decide, fun _ => rfl, fun fs hr => ?_, ?_⟩
  · refine xaloadN X0 hx hby d37_0 rfl rfl ?_
    show SS p e below s₁ m 1 #[rv a1, iv (2 : Int32), rv a2, uu, uu, uu, uu, uu, uu, uu, uu, uu, uu] [(.ref a1)] _
    refine st3 _ ?_
    refine xaloadN X3 hx hby d37_4 rfl rfl ?_
    refine xiloadN X3 hx hby d37_5 rfl ?_
    refine st4 _ ?_
    refine xaloadN X4 hx hby d37_9 rfl rfl ?_
    refine xaloadN X4 hx hby d37_10 rfl rfl ?_
    refine st5 _ ?_
    refine xiloadN X5 hx hby d37_16 rfl ?_
    refine XS.imul X5.here hx rfl (hb hby d37_17) rfl ?_
    refine XS.iconst X5.here hx rfl (hb hby d37_18) ?_
    show SS p e below T5 m 19 #[rv a1, iv (2 : Int32), rv a2, uu, uu, uu, uu, uu, uu, uu, uu, uu, uu] [(.int (2 : Int32)), (.int (4 : Int32)), (.ref a1)] _
    refine XS.imul X5.here hx rfl (hb hby d37_19) rfl ?_
    refine st8 _ ?_
    refine st11 _ ?_
    refine XS.iconst X11.here hx rfl (hb hby d37_25) ?_
    refine XS.istoreN X11.here hx rfl (hb hby d37_26) rfl (l' := #[rv a1, iv (2 : Int32), rv a2, iv (0 : Int32), uu, uu, uu, uu, uu, uu, uu, uu, uu]) rfl ?_
    refine xaloadN X11 hx hby d37_27 rfl rfl ?_
    refine st12 _ ?_
    refine XS.astore X12.here hx rfl (hb hby d37_33) rfl rfl (l' := #[rv a1, iv (2 : Int32), rv a2, iv (0 : Int32), rv b12_0, uu, uu, uu, uu, uu, uu, uu, uu]) rfl ?_
    refine xaload X12 hx hby d37_35 rfl rfl ?_
    refine st15 _ ?_
    show SS p e below T15 m 42 #[rv a1, iv (2 : Int32), rv a2, iv (0 : Int32), rv b12_0, uu, uu, uu, uu, uu, uu, uu, uu] [(.int (1 : Int32))] _
    refine XS.ifNo X15.here hx rfl (hb hby d37_42) rfl ((if0 _ _).trans (feq (by decide : ¬ ((1 : Int32) = (0 : Int32)))).1) ?_
    refine xaload X15 hx hby d37_45 rfl rfl ?_
    refine st21 _ ?_
    refine st27 _ ?_
    refine XS.astore X27.here hx rfl (hb hby d37_55) rfl rfl (l' := #[rv a1, iv (2 : Int32), rv a2, iv (0 : Int32), rv b12_0, rv a18, uu, uu, uu, uu, uu, uu, uu]) rfl ?_
    refine XS.iconst X27.here hx rfl (hb hby d37_57) ?_
    refine XS.istore X27.here hx rfl (hb hby d37_58) rfl (l' := #[rv a1, iv (2 : Int32), rv a2, iv (0 : Int32), rv b12_0, rv a18, iv (0 : Int32), uu, uu, uu, uu, uu, uu]) rfl ?_
    refine xiload X27 hx hby d37_60 rfl ?_
    refine xiloadN X27 hx hby d37_62 rfl ?_
    refine XS.icmpNo X27.here hx rfl (hb hby d37_63) rfl (tlt (by decide : (0 : Int32) < (2 : Int32))).2.1 ?_
    show SS p e below T27 m 66 #[rv a1, iv (2 : Int32), rv a2, iv (0 : Int32), rv b12_0, rv a18, iv (0 : Int32), uu, uu, uu, uu, uu, uu] [] _
    refine X27.ldc2Long hx hown (mvT hZ (wd317 hw)) (g := (mkF m 66 #[rv a1, iv (2 : Int32), rv a2, iv (0 : Int32), rv b12_0, rv a18, iv (0 : Int32), uu, uu, uu, uu, uu, uu] [])) rfl (hb hby d37_66) _ ?_
    refine XS.lstore X27.here hx rfl (hb hby d37_69) rfl (l' := #[rv a1, iv (2 : Int32), rv a2, iv (0 : Int32), rv b12_0, rv a18, iv (0 : Int32), jv (9223372036854775807 : Int64), sc, uu, uu, uu, uu]) rfl ?_
    refine X27.ldc2Long hx hown (mvT hZ (wd318 hw)) (g := (mkF m 71 #[rv a1, iv (2 : Int32), rv a2, iv (0 : Int32), rv b12_0, rv a18, iv (0 : Int32), jv (9223372036854775807 : Int64), sc, uu, uu, uu, uu] [])) rfl (hb hby d37_71) _ ?_
    refine XS.lstore X27.here hx rfl (hb hby d37_74) rfl (l' := #[rv a1, iv (2 : Int32), rv a2, iv (0 : Int32), rv b12_0, rv a18, iv (0 : Int32), jv (9223372036854775807 : Int64), sc, jv (-1 : Int64), sc, uu, uu]) rfl ?_
    refine xaload X27 hx hby d37_76 rfl rfl ?_
    refine st29 _ ?_
    refine st33 _ ?_
    refine XS.astore X33.here hx rfl (hb hby d37_86) rfl rfl (l' := #[rv a1, iv (2 : Int32), rv a2, iv (0 : Int32), rv b12_0, rv a18, iv (0 : Int32), jv (9223372036854775807 : Int64), sc, jv (-1 : Int64), sc, rv b33_0, uu]) rfl ?_
    refine xaload X33 hx hby d37_88 rfl rfl ?_
    refine st37 _ ?_
    show SS p e below T37 m 95 #[rv a1, iv (2 : Int32), rv a2, iv (0 : Int32), rv b12_0, rv a18, iv (0 : Int32), jv (9223372036854775807 : Int64), sc, jv (-1 : Int64), sc, rv b33_0, uu] [(.int (1 : Int32))] _
    refine XS.ifNo X37.here hx rfl (hb hby d37_95) rfl ((if0 _ _).trans (feq (by decide : ¬ ((1 : Int32) = (0 : Int32)))).1) ?_
    refine xaload X37 hx hby d37_98 rfl rfl ?_
    refine st39 _ ?_
    refine st43 _ ?_
    refine XS.astore X43.here hx rfl (hb hby d37_108) rfl rfl (l' := #[rv a1, iv (2 : Int32), rv a2, iv (0 : Int32), rv b12_0, rv a18, iv (0 : Int32), jv (9223372036854775807 : Int64), sc, jv (-1 : Int64), sc, rv b33_0, rv a38]) rfl ?_
    refine xlload X43 hx hby d37_110 rfl ?_
    refine xaload X43 hx hby d37_112 rfl rfl ?_
    refine st45 _ ?_
    refine xiload X45 hx hby d37_117 rfl ?_
    refine st50 _ ?_
    show SS p e below T50 m 124 #[rv a1, iv (2 : Int32), rv a2, iv (0 : Int32), rv b12_0, rv a18, iv (0 : Int32), jv (9223372036854775807 : Int64), sc, jv (-1 : Int64), sc, rv b33_0, rv a38] [(.ref a49), (.long (9223372036854775807 : Int64))] _
    refine st56 _ ?_
    refine st60 _ ?_
    refine st67 _ ?_
    refine XS.lstore X67.here hx rfl (hb hby d37_133) rfl (l' := #[rv a1, iv (2 : Int32), rv a2, iv (0 : Int32), rv b12_0, rv a18, iv (0 : Int32), .val (.long (own_jmin (9223372036854775807 : Int64) q58)), sc, jv (-1 : Int64), sc, rv b33_0, rv a38]) rfl ?_
    refine xlload X67 hx hby d37_135 rfl ?_
    refine xaload X67 hx hby d37_137 rfl rfl ?_
    refine st68 _ ?_
    refine xiload X68 hx hby d37_142 rfl ?_
    refine st69 _ ?_
    refine st70 _ ?_
    show SS p e below T70 m 152 #[rv a1, iv (2 : Int32), rv a2, iv (0 : Int32), rv b12_0, rv a18, iv (0 : Int32), .val (.long (own_jmin (9223372036854775807 : Int64) q58)), sc, jv (-1 : Int64), sc, rv b33_0, rv a38] [(.ref a49), (.long (-1 : Int64))] _
    refine st74 _ ?_
    refine st79 _ ?_
    refine XS.lstore X79.here hx rfl (hb hby d37_158) rfl (l' := #[rv a1, iv (2 : Int32), rv a2, iv (0 : Int32), rv b12_0, rv a18, iv (0 : Int32), .val (.long (own_jmin (9223372036854775807 : Int64) q58)), sc, .val (.long (own_jmax (-1 : Int64) q72)), sc, rv b33_0, rv a38]) rfl ?_
    refine XS.goto X79.here hx rfl (pc0 := 160) (pc' := 88) rfl (hb hby d37_160) (by decide) (by decide) ?_
    refine xaload X79 hx hby d37_88 rfl rfl ?_
    refine st80 _ ?_
    refine XS.ifYes X80.here hx rfl (pc0 := 95) (pc' := 163) rfl (hb hby d37_95) rfl ((if0 _ _).trans (teq (rfl : (0 : Int32) = (0 : Int32))).1) (by decide) (by decide) ?_
    refine xaloadN X80 hx hby d37_163 rfl rfl ?_
    refine st85 _ ?_
    refine xiloadN X85 hx hby d37_167 rfl ?_
    show SS p e below T85 m 168 #[rv a1, iv (2 : Int32), rv a2, iv (0 : Int32), rv b12_0, rv a18, iv (0 : Int32), .val (.long (own_jmin (9223372036854775807 : Int64) q58)), sc, .val (.long (own_jmax (-1 : Int64) q72)), sc, rv b33_0, rv a38] [(.int (0 : Int32)), (.ref b8)] _
    refine XS.iinc X85.here hx rfl (hb hby d37_168) rfl (l' := #[rv a1, iv (2 : Int32), rv a2, .val (.int ((0 : Int32) + (1 : Int32))), rv b12_0, rv a18, iv (0 : Int32), .val (.long (own_jmin (9223372036854775807 : Int64) q58)), sc, .val (.long (own_jmax (-1 : Int64) q72)), sc, rv b33_0, rv a38]) rfl ?_
    refine xlload X85 hx hby d37_171 rfl ?_
    refine st93 _ ?_
    refine xaloadN X93 hx hby d37_174 rfl rfl ?_
    refine st95 _ ?_
    refine xiloadN X95 hx hby d37_178 rfl ?_
    refine XS.iinc X95.here hx rfl (hb hby d37_179) rfl (l' := #[rv a1, iv (2 : Int32), rv a2, .val (.int ((1 : Int32) + (1 : Int32))), rv b12_0, rv a18, iv (0 : Int32), .val (.long (own_jmin (9223372036854775807 : Int64) q58)), sc, .val (.long (own_jmax (-1 : Int64) q72)), sc, rv b33_0, rv a38]) rfl ?_
    refine xlload X95 hx hby d37_182 rfl ?_
    refine st97 _ ?_
    refine XS.iinc X97.here hx rfl (hb hby d37_185) rfl (l' := #[rv a1, iv (2 : Int32), rv a2, iv (2 : Int32), rv b12_0, rv a18, .val (.int ((0 : Int32) + (1 : Int32))), .val (.long (own_jmin (9223372036854775807 : Int64) q58)), sc, .val (.long (own_jmax (-1 : Int64) q72)), sc, rv b33_0, rv a38]) rfl ?_
    show SS p e below T97 m 188 #[rv a1, iv (2 : Int32), rv a2, iv (2 : Int32), rv b12_0, rv a18, iv (1 : Int32), .val (.long (own_jmin (9223372036854775807 : Int64) q58)), sc, .val (.long (own_jmax (-1 : Int64) q72)), sc, rv b33_0, rv a38] [] _
    refine XS.goto X97.here hx rfl (pc0 := 188) (pc' := 60) rfl (hb hby d37_188) (by decide) (by decide) ?_
    refine xiload X97 hx hby d37_60 rfl ?_
    refine xiloadN X97 hx hby d37_62 rfl ?_
    refine XS.icmpNo X97.here hx rfl (hb hby d37_63) rfl (tlt (by decide : (1 : Int32) < (2 : Int32))).2.1 ?_
    refine X97.ldc2Long hx hown (mvT hZ (wd317 hw)) (g := (mkF m 66 #[rv a1, iv (2 : Int32), rv a2, iv (2 : Int32), rv b12_0, rv a18, iv (1 : Int32), .val (.long (own_jmin (9223372036854775807 : Int64) q58)), sc, .val (.long (own_jmax (-1 : Int64) q72)), sc, rv b33_0, rv a38] [])) rfl (hb hby d37_66) _ ?_
    refine XS.lstore X97.here hx rfl (hb hby d37_69) rfl (l' := #[rv a1, iv (2 : Int32), rv a2, iv (2 : Int32), rv b12_0, rv a18, iv (1 : Int32), jv (9223372036854775807 : Int64), sc, .val (.long (own_jmax (-1 : Int64) q72)), sc, rv b33_0, rv a38]) rfl ?_
    refine X97.ldc2Long hx hown (mvT hZ (wd318 hw)) (g := (mkF m 71 #[rv a1, iv (2 : Int32), rv a2, iv (2 : Int32), rv b12_0, rv a18, iv (1 : Int32), jv (9223372036854775807 : Int64), sc, .val (.long (own_jmax (-1 : Int64) q72)), sc, rv b33_0, rv a38] [])) rfl (hb hby d37_71) _ ?_
    refine XS.lstore X97.here hx rfl (hb hby d37_74) rfl (l' := #[rv a1, iv (2 : Int32), rv a2, iv (2 : Int32), rv b12_0, rv a18, iv (1 : Int32), jv (9223372036854775807 : Int64), sc, jv (-1 : Int64), sc, rv b33_0, rv a38]) rfl ?_
    refine xaload X97 hx hby d37_76 rfl rfl ?_
    refine st98 _ ?_
    show SS p e below T98 m 81 #[rv a1, iv (2 : Int32), rv a2, iv (2 : Int32), rv b12_0, rv a18, iv (1 : Int32), jv (9223372036854775807 : Int64), sc, jv (-1 : Int64), sc, rv b33_0, rv a38] [(.ref a28)] _
    refine st103 _ ?_
    refine XS.astore X103.here hx rfl (hb hby d37_86) rfl rfl (l' := #[rv a1, iv (2 : Int32), rv a2, iv (2 : Int32), rv b12_0, rv a18, iv (1 : Int32), jv (9223372036854775807 : Int64), sc, jv (-1 : Int64), sc, rv b103_0, rv a38]) rfl ?_
    refine xaload X103 hx hby d37_88 rfl rfl ?_
    refine st108 _ ?_
    refine XS.ifNo X108.here hx rfl (hb hby d37_95) rfl ((if0 _ _).trans (feq (by decide : ¬ ((1 : Int32) = (0 : Int32)))).1) ?_
    refine xaload X108 hx hby d37_98 rfl rfl ?_
    refine st109 _ ?_
    refine st113 _ ?_
    refine XS.astore X113.here hx rfl (hb hby d37_108) rfl rfl (l' := #[rv a1, iv (2 : Int32), rv a2, iv (2 : Int32), rv b12_0, rv a18, iv (1 : Int32), jv (9223372036854775807 : Int64), sc, jv (-1 : Int64), sc, rv b103_0, rv a38]) rfl ?_
    refine xlload X113 hx hby d37_110 rfl ?_
    show SS p e below T113 m 112 #[rv a1, iv (2 : Int32), rv a2, iv (2 : Int32), rv b12_0, rv a18, iv (1 : Int32), jv (9223372036854775807 : Int64), sc, jv (-1 : Int64), sc, rv b103_0, rv a38] [(.long (9223372036854775807 : Int64))] _
    refine xaload X113 hx hby d37_112 rfl rfl ?_
    refine st114 _ ?_
    refine xiload X114 hx hby d37_117 rfl ?_
    refine st119 _ ?_
    refine st125 _ ?_
    refine st129 _ ?_
    refine st140 _ ?_
    refine XS.lstore X140.here hx rfl (hb hby d37_133) rfl (l' := #[rv a1, iv (2 : Int32), rv a2, iv (2 : Int32), rv b12_0, rv a18, iv (1 : Int32), .val (.long (own_jmin (9223372036854775807 : Int64) q127)), sc, jv (-1 : Int64), sc, rv b103_0, rv a38]) rfl ?_
    refine xlload X140 hx hby d37_135 rfl ?_
    refine xaload X140 hx hby d37_137 rfl rfl ?_
    show SS p e below T140 m 139 #[rv a1, iv (2 : Int32), rv a2, iv (2 : Int32), rv b12_0, rv a18, iv (1 : Int32), .val (.long (own_jmin (9223372036854775807 : Int64) q127)), sc, jv (-1 : Int64), sc, rv b103_0, rv a38] [(.ref a38), (.long (-1 : Int64))] _
    refine st141 _ ?_
    refine xiload X141 hx hby d37_142 rfl ?_
    refine st142 _ ?_
    refine st143 _ ?_
    refine st147 _ ?_
    refine st154 _ ?_
    refine XS.lstore X154.here hx rfl (hb hby d37_158) rfl (l' := #[rv a1, iv (2 : Int32), rv a2, iv (2 : Int32), rv b12_0, rv a18, iv (1 : Int32), .val (.long (own_jmin (9223372036854775807 : Int64) q127)), sc, .val (.long (own_jmax (-1 : Int64) q145)), sc, rv b103_0, rv a38]) rfl ?_
    refine XS.goto X154.here hx rfl (pc0 := 160) (pc' := 88) rfl (hb hby d37_160) (by decide) (by decide) ?_
    refine xaload X154 hx hby d37_88 rfl rfl ?_
    refine st155 _ ?_
    show SS p e below T155 m 95 #[rv a1, iv (2 : Int32), rv a2, iv (2 : Int32), rv b12_0, rv a18, iv (1 : Int32), .val (.long (own_jmin (9223372036854775807 : Int64) q127)), sc, .val (.long (own_jmax (-1 : Int64) q145)), sc, rv b103_0, rv a38] [(.int (0 : Int32))] _
    refine XS.ifYes X155.here hx rfl (pc0 := 95) (pc' := 163) rfl (hb hby d37_95) rfl ((if0 _ _).trans (teq (rfl : (0 : Int32) = (0 : Int32))).1) (by decide) (by decide) ?_
    refine xaloadN X155 hx hby d37_163 rfl rfl ?_
    refine st159 _ ?_
    refine xiloadN X159 hx hby d37_167 rfl ?_
    refine XS.iinc X159.here hx rfl (hb hby d37_168) rfl (l' := #[rv a1, iv (2 : Int32), rv a2, .val (.int ((2 : Int32) + (1 : Int32))), rv b12_0, rv a18, iv (1 : Int32), .val (.long (own_jmin (9223372036854775807 : Int64) q127)), sc, .val (.long (own_jmax (-1 : Int64) q145)), sc, rv b103_0, rv a38]) rfl ?_
    refine xlload X159 hx hby d37_171 rfl ?_
    refine st163 _ ?_
    refine xaloadN X163 hx hby d37_174 rfl rfl ?_
    refine st165 _ ?_
    refine xiloadN X165 hx hby d37_178 rfl ?_
    show SS p e below T165 m 179 #[rv a1, iv (2 : Int32), rv a2, iv (3 : Int32), rv b12_0, rv a18, iv (1 : Int32), .val (.long (own_jmin (9223372036854775807 : Int64) q127)), sc, .val (.long (own_jmax (-1 : Int64) q145)), sc, rv b103_0, rv a38] [(.int (3 : Int32)), (.ref b8)] _
    refine XS.iinc X165.here hx rfl (hb hby d37_179) rfl (l' := #[rv a1, iv (2 : Int32), rv a2, .val (.int ((3 : Int32) + (1 : Int32))), rv b12_0, rv a18, iv (1 : Int32), .val (.long (own_jmin (9223372036854775807 : Int64) q127)), sc, .val (.long (own_jmax (-1 : Int64) q145)), sc, rv b103_0, rv a38]) rfl ?_
    refine xlload X165 hx hby d37_182 rfl ?_
    refine st167 _ ?_
    refine XS.iinc X167.here hx rfl (hb hby d37_185) rfl (l' := #[rv a1, iv (2 : Int32), rv a2, iv (4 : Int32), rv b12_0, rv a18, .val (.int ((1 : Int32) + (1 : Int32))), .val (.long (own_jmin (9223372036854775807 : Int64) q127)), sc, .val (.long (own_jmax (-1 : Int64) q145)), sc, rv b103_0, rv a38]) rfl ?_
    refine XS.goto X167.here hx rfl (pc0 := 188) (pc' := 60) rfl (hb hby d37_188) (by decide) (by decide) ?_
    refine xiload X167 hx hby d37_60 rfl ?_
    refine xiloadN X167 hx hby d37_62 rfl ?_
    refine XS.icmpYes X167.here hx rfl (pc0 := 63) (pc' := 191) rfl (hb hby d37_63) rfl (flt (by decide : ¬ ((2 : Int32) < (2 : Int32)))).2.1 (by decide) (by decide) ?_
    refine XS.goto X167.here hx rfl (pc0 := 191) (pc' := 35) rfl (hb hby d37_191) (by decide) (by decide) ?_
    refine xaload X167 hx hby d37_35 rfl rfl ?_
    show SS p e below T167 m 37 #[rv a1, iv (2 : Int32), rv a2, iv (4 : Int32), rv b12_0, rv a18, iv (2 : Int32), .val (.long (own_jmin (9223372036854775807 : Int64) q127)), sc, .val (.long (own_jmax (-1 : Int64) q145)), sc, rv b103_0, rv a38] [(.ref b12_0)] _
    refine st168 _ ?_
    refine XS.ifNo X168.here hx rfl (hb hby d37_42) rfl ((if0 _ _).trans (feq (by decide : ¬ ((1 : Int32) = (0 : Int32)))).1) ?_
    refine xaload X168 hx hby d37_45 rfl rfl ?_
    refine st180 _ ?_
    refine st190 _ ?_
    refine XS.astore X190.here hx rfl (hb hby d37_55) rfl rfl (l' := #[rv a1, iv (2 : Int32), rv a2, iv (4 : Int32), rv b12_0, rv a19, iv (2 : Int32), .val (.long (own_jmin (9223372036854775807 : Int64) q127)), sc, .val (.long (own_jmax (-1 : Int64) q145)), sc, rv b103_0, rv a38]) rfl ?_
    refine XS.iconst X190.here hx rfl (hb hby d37_57) ?_
    refine XS.istore X190.here hx rfl (hb hby d37_58) rfl (l' := #[rv a1, iv (2 : Int32), rv a2, iv (4 : Int32), rv b12_0, rv a19, iv (0 : Int32), .val (.long (own_jmin (9223372036854775807 : Int64) q127)), sc, .val (.long (own_jmax (-1 : Int64) q145)), sc, rv b103_0, rv a38]) rfl ?_
    refine xiload X190 hx hby d37_60 rfl ?_
    refine xiloadN X190 hx hby d37_62 rfl ?_
    show SS p e below T190 m 63 #[rv a1, iv (2 : Int32), rv a2, iv (4 : Int32), rv b12_0, rv a19, iv (0 : Int32), .val (.long (own_jmin (9223372036854775807 : Int64) q127)), sc, .val (.long (own_jmax (-1 : Int64) q145)), sc, rv b103_0, rv a38] [(.int (2 : Int32)), (.int (0 : Int32))] _
    refine XS.icmpNo X190.here hx rfl (hb hby d37_63) rfl (tlt (by decide : (0 : Int32) < (2 : Int32))).2.1 ?_
    refine X190.ldc2Long hx hown (mvT hZ (wd317 hw)) (g := (mkF m 66 #[rv a1, iv (2 : Int32), rv a2, iv (4 : Int32), rv b12_0, rv a19, iv (0 : Int32), .val (.long (own_jmin (9223372036854775807 : Int64) q127)), sc, .val (.long (own_jmax (-1 : Int64) q145)), sc, rv b103_0, rv a38] [])) rfl (hb hby d37_66) _ ?_
    refine XS.lstore X190.here hx rfl (hb hby d37_69) rfl (l' := #[rv a1, iv (2 : Int32), rv a2, iv (4 : Int32), rv b12_0, rv a19, iv (0 : Int32), jv (9223372036854775807 : Int64), sc, .val (.long (own_jmax (-1 : Int64) q145)), sc, rv b103_0, rv a38]) rfl ?_
    refine X190.ldc2Long hx hown (mvT hZ (wd318 hw)) (g := (mkF m 71 #[rv a1, iv (2 : Int32), rv a2, iv (4 : Int32), rv b12_0, rv a19, iv (0 : Int32), jv (9223372036854775807 : Int64), sc, .val (.long (own_jmax (-1 : Int64) q145)), sc, rv b103_0, rv a38] [])) rfl (hb hby d37_71) _ ?_
    refine XS.lstore X190.here hx rfl (hb hby d37_74) rfl (l' := #[rv a1, iv (2 : Int32), rv a2, iv (4 : Int32), rv b12_0, rv a19, iv (0 : Int32), jv (9223372036854775807 : Int64), sc, jv (-1 : Int64), sc, rv b103_0, rv a38]) rfl ?_
    refine xaload X190 hx hby d37_76 rfl rfl ?_
    refine st192 _ ?_
    refine st200 _ ?_
    refine XS.astore X200.here hx rfl (hb hby d37_86) rfl rfl (l' := #[rv a1, iv (2 : Int32), rv a2, iv (4 : Int32), rv b12_0, rv a19, iv (0 : Int32), jv (9223372036854775807 : Int64), sc, jv (-1 : Int64), sc, rv b200_0, rv a38]) rfl ?_
    refine xaload X200 hx hby d37_88 rfl rfl ?_
    show SS p e below T200 m 90 #[rv a1, iv (2 : Int32), rv a2, iv (4 : Int32), rv b12_0, rv a19, iv (0 : Int32), jv (9223372036854775807 : Int64), sc, jv (-1 : Int64), sc, rv b200_0, rv a38] [(.ref b200_0)] _
    refine st201 _ ?_
    refine XS.ifYes X201.here hx rfl (pc0 := 95) (pc' := 163) rfl (hb hby d37_95) rfl ((if0 _ _).trans (teq (rfl : (0 : Int32) = (0 : Int32))).1) (by decide) (by decide) ?_
    refine xaloadN X201 hx hby d37_163 rfl rfl ?_
    refine st203 _ ?_
    refine xiloadN X203 hx hby d37_167 rfl ?_
    refine XS.iinc X203.here hx rfl (hb hby d37_168) rfl (l' := #[rv a1, iv (2 : Int32), rv a2, .val (.int ((4 : Int32) + (1 : Int32))), rv b12_0, rv a19, iv (0 : Int32), jv (9223372036854775807 : Int64), sc, jv (-1 : Int64), sc, rv b200_0, rv a38]) rfl ?_
    refine xlload X203 hx hby d37_171 rfl ?_
    refine st206 _ ?_
    refine xaloadN X206 hx hby d37_174 rfl rfl ?_
    refine st208 _ ?_
    show SS p e below T208 m 178 #[rv a1, iv (2 : Int32), rv a2, iv (5 : Int32), rv b12_0, rv a19, iv (0 : Int32), jv (9223372036854775807 : Int64), sc, jv (-1 : Int64), sc, rv b200_0, rv a38] [(.ref b8)] _
    refine xiloadN X208 hx hby d37_178 rfl ?_
    refine XS.iinc X208.here hx rfl (hb hby d37_179) rfl (l' := #[rv a1, iv (2 : Int32), rv a2, .val (.int ((5 : Int32) + (1 : Int32))), rv b12_0, rv a19, iv (0 : Int32), jv (9223372036854775807 : Int64), sc, jv (-1 : Int64), sc, rv b200_0, rv a38]) rfl ?_
    refine xlload X208 hx hby d37_182 rfl ?_
    refine st210 _ ?_
    refine XS.iinc X210.here hx rfl (hb hby d37_185) rfl (l' := #[rv a1, iv (2 : Int32), rv a2, iv (6 : Int32), rv b12_0, rv a19, .val (.int ((0 : Int32) + (1 : Int32))), jv (9223372036854775807 : Int64), sc, jv (-1 : Int64), sc, rv b200_0, rv a38]) rfl ?_
    refine XS.goto X210.here hx rfl (pc0 := 188) (pc' := 60) rfl (hb hby d37_188) (by decide) (by decide) ?_
    refine xiload X210 hx hby d37_60 rfl ?_
    refine xiloadN X210 hx hby d37_62 rfl ?_
    refine XS.icmpNo X210.here hx rfl (hb hby d37_63) rfl (tlt (by decide : (1 : Int32) < (2 : Int32))).2.1 ?_
    refine X210.ldc2Long hx hown (mvT hZ (wd317 hw)) (g := (mkF m 66 #[rv a1, iv (2 : Int32), rv a2, iv (6 : Int32), rv b12_0, rv a19, iv (1 : Int32), jv (9223372036854775807 : Int64), sc, jv (-1 : Int64), sc, rv b200_0, rv a38] [])) rfl (hb hby d37_66) _ ?_
    show SS p e below T210 m 69 #[rv a1, iv (2 : Int32), rv a2, iv (6 : Int32), rv b12_0, rv a19, iv (1 : Int32), jv (9223372036854775807 : Int64), sc, jv (-1 : Int64), sc, rv b200_0, rv a38] [(.long (9223372036854775807 : Int64))] _
    refine XS.lstore X210.here hx rfl (hb hby d37_69) rfl (l' := #[rv a1, iv (2 : Int32), rv a2, iv (6 : Int32), rv b12_0, rv a19, iv (1 : Int32), jv (9223372036854775807 : Int64), sc, jv (-1 : Int64), sc, rv b200_0, rv a38]) rfl ?_
    refine X210.ldc2Long hx hown (mvT hZ (wd318 hw)) (g := (mkF m 71 #[rv a1, iv (2 : Int32), rv a2, iv (6 : Int32), rv b12_0, rv a19, iv (1 : Int32), jv (9223372036854775807 : Int64), sc, jv (-1 : Int64), sc, rv b200_0, rv a38] [])) rfl (hb hby d37_71) _ ?_
    refine XS.lstore X210.here hx rfl (hb hby d37_74) rfl (l' := #[rv a1, iv (2 : Int32), rv a2, iv (6 : Int32), rv b12_0, rv a19, iv (1 : Int32), jv (9223372036854775807 : Int64), sc, jv (-1 : Int64), sc, rv b200_0, rv a38]) rfl ?_
    refine xaload X210 hx hby d37_76 rfl rfl ?_
    refine st211 _ ?_
    refine st214 _ ?_
    refine XS.astore X214.here hx rfl (hb hby d37_86) rfl rfl (l' := #[rv a1, iv (2 : Int32), rv a2, iv (6 : Int32), rv b12_0, rv a19, iv (1 : Int32), jv (9223372036854775807 : Int64), sc, jv (-1 : Int64), sc, rv b214_0, rv a38]) rfl ?_
    refine xaload X214 hx hby d37_88 rfl rfl ?_
    refine st215 _ ?_
    refine XS.ifYes X215.here hx rfl (pc0 := 95) (pc' := 163) rfl (hb hby d37_95) rfl ((if0 _ _).trans (teq (rfl : (0 : Int32) = (0 : Int32))).1) (by decide) (by decide) ?_
    show SS p e below T215 m 163 #[rv a1, iv (2 : Int32), rv a2, iv (6 : Int32), rv b12_0, rv a19, iv (1 : Int32), jv (9223372036854775807 : Int64), sc, jv (-1 : Int64), sc, rv b214_0, rv a38] [] _
    refine xaloadN X215 hx hby d37_163 rfl rfl ?_
    refine st217 _ ?_
    refine xiloadN X217 hx hby d37_167 rfl ?_
    refine XS.iinc X217.here hx rfl (hb hby d37_168) rfl (l' := #[rv a1, iv (2 : Int32), rv a2, .val (.int ((6 : Int32) + (1 : Int32))), rv b12_0, rv a19, iv (1 : Int32), jv (9223372036854775807 : Int64), sc, jv (-1 : Int64), sc, rv b214_0, rv a38]) rfl ?_
    refine xlload X217 hx hby d37_171 rfl ?_
    refine st220 _ ?_
    refine xaloadN X220 hx hby d37_174 rfl rfl ?_
    refine st222 _ ?_
    refine xiloadN X222 hx hby d37_178 rfl ?_
    refine XS.iinc X222.here hx rfl (hb hby d37_179) rfl (l' := #[rv a1, iv (2 : Int32), rv a2, .val (.int ((7 : Int32) + (1 : Int32))), rv b12_0, rv a19, iv (1 : Int32), jv (9223372036854775807 : Int64), sc, jv (-1 : Int64), sc, rv b214_0, rv a38]) rfl ?_
    show SS p e below T222 m 182 #[rv a1, iv (2 : Int32), rv a2, iv (8 : Int32), rv b12_0, rv a19, iv (1 : Int32), jv (9223372036854775807 : Int64), sc, jv (-1 : Int64), sc, rv b214_0, rv a38] [(.int (7 : Int32)), (.ref b8)] _
    refine xlload X222 hx hby d37_182 rfl ?_
    refine st224 _ ?_
    refine XS.iinc X224.here hx rfl (hb hby d37_185) rfl (l' := #[rv a1, iv (2 : Int32), rv a2, iv (8 : Int32), rv b12_0, rv a19, .val (.int ((1 : Int32) + (1 : Int32))), jv (9223372036854775807 : Int64), sc, jv (-1 : Int64), sc, rv b214_0, rv a38]) rfl ?_
    refine XS.goto X224.here hx rfl (pc0 := 188) (pc' := 60) rfl (hb hby d37_188) (by decide) (by decide) ?_
    refine xiload X224 hx hby d37_60 rfl ?_
    refine xiloadN X224 hx hby d37_62 rfl ?_
    refine XS.icmpYes X224.here hx rfl (pc0 := 63) (pc' := 191) rfl (hb hby d37_63) rfl (flt (by decide : ¬ ((2 : Int32) < (2 : Int32)))).2.1 (by decide) (by decide) ?_
    refine XS.goto X224.here hx rfl (pc0 := 191) (pc' := 35) rfl (hb hby d37_191) (by decide) (by decide) ?_
    refine xaload X224 hx hby d37_35 rfl rfl ?_
    refine st225 _ ?_
    show SS p e below T225 m 42 #[rv a1, iv (2 : Int32), rv a2, iv (8 : Int32), rv b12_0, rv a19, iv (2 : Int32), jv (9223372036854775807 : Int64), sc, jv (-1 : Int64), sc, rv b214_0, rv a38] [(.int (0 : Int32))] _
    refine XS.ifYes X225.here hx rfl (pc0 := 42) (pc' := 194) rfl (hb hby d37_42) rfl ((if0 _ _).trans (teq (rfl : (0 : Int32) = (0 : Int32))).1) (by decide) (by decide) ?_
    show SS p e below T225 m 194 #[rv a1, iv (2 : Int32), rv a2, iv (8 : Int32), rv b12_0, rv a19, iv (2 : Int32), jv (9223372036854775807 : Int64), sc, jv (-1 : Int64), sc, rv b214_0, rv a38] [] _
    exact X225.returnOut hx hret (hb hby d37_194) hr
  · exact ⟨b8, k8, rfl, N225, KK224, sz_b8, fc230, fc231, V224⟩
theorem ef_0 (m : MethodId) (x0 : Int64) (x1 : Int64) (x2 : Int64) (x3 : Int64) (x4 : Int32) (x5 : Int32) : entryFrame m #[(.long x0), (.long x1), (.long x2), (.long x3), (.int x4), (.int x5)] maxLocals = mkF m 0 #[.val (.long x0), .second, .val (.long x1), .second, .val (.long x2), .second, .val (.long x3), .second, .val (.int x4), .val (.int x5), .unset, .unset, .unset, .unset, .unset, .unset, .unset, .unset, .unset, .unset, .unset, .unset, .unset, .unset, .unset, .unset] [] := by first | (simp [entryFrame, mkF, argsToLocals, Value.category, maxLocals]; done) | rfl
set_option maxRecDepth 65536 in
set_option maxHeartbeats 400000000 in
theorem rm0 (l : Launch) (Z : State) (a0 : Array Value) (hw : HW a0 Z) (ws : List Jvm.Cond) (p1 : Int64) (p2 : Int64) (p3 : Int64) (p4 : Int64) (p5 : Int32) (p6 : Int32) (y1 : Int32) (y2 : Int32) (y3 : Int64) (y4 : Int64) (y5 : Int64) (y6 : Int64) (y7 : Int64) (y8 : Int64) (y9 : Int64) (y10 : Int64) (y11 : Int32) (y12 : Int32) (y13 : Int32) (y14 : Int32) (y15 : Int32) (w_DEFAULTCAPACITY_EMPTY_ELEMENTDATA : Addr) (k_w_DEFAULTCAPACITY_EMPTY_ELEMENTDATA : ClassId) (mir_objs : Addr) (w_EMPTY : Addr) (y16 : Int32) (y17 : Int32) (y18 : Int64) (y19 : Int64) (y20 : Int64) (y21 : Int64) (y22 : Int32) (y23 : Int32) (y24 : Int32) (y25 : Int64) (y26 : Int64) (y27 : Int32) (y28 : Int64) (y29 : Int64) (y30 : Int32) (w_EMPTY_LIST : Addr) (w_EMPTY_LIST__elements : Addr) (k_w_EMPTY_LIST__elements : ClassId) (y31 : Int32) (h0 : Heap) (n0 : Nat) (OL0 : Old Z n0 h0) (pr1 : (p5 &&& (31 : Int32)) = y1) (pr2 : (y1 % (25 : Int32)) = y2) (pr3 : ((own_jmin (((p1.toUInt64 >>> ((24 : Int32) &&& 0x3f).toInt64.toUInt64).toInt64) &&& (16777215 : Int64)) (p1 &&& (16777215 : Int64))) <<< (y2 &&& 0x3f).toInt64) = y3) (pr4 : ((own_jmax (((p1.toUInt64 >>> ((24 : Int32) &&& 0x3f).toInt64.toUInt64).toInt64) &&& (16777215 : Int64)) (p1 &&& (16777215 : Int64))) <<< (y2 &&& 0x3f).toInt64) = y4) (pr5 : ((own_jmin (((p2.toUInt64 >>> ((24 : Int32) &&& 0x3f).toInt64.toUInt64).toInt64) &&& (16777215 : Int64)) (p2 &&& (16777215 : Int64))) <<< (y2 &&& 0x3f).toInt64) = y5) (pr6 : ((own_jmax (((p2.toUInt64 >>> ((24 : Int32) &&& 0x3f).toInt64.toUInt64).toInt64) &&& (16777215 : Int64)) (p2 &&& (16777215 : Int64))) <<< (y2 &&& 0x3f).toInt64) = y6) (pr7 : ((own_jmin (((p3.toUInt64 >>> ((24 : Int32) &&& 0x3f).toInt64.toUInt64).toInt64) &&& (16777215 : Int64)) (p3 &&& (16777215 : Int64))) <<< (y2 &&& 0x3f).toInt64) = y7) (pr8 : ((own_jmax (((p3.toUInt64 >>> ((24 : Int32) &&& 0x3f).toInt64.toUInt64).toInt64) &&& (16777215 : Int64)) (p3 &&& (16777215 : Int64))) <<< (y2 &&& 0x3f).toInt64) = y8) (pr9 : ((own_jmin (((p4.toUInt64 >>> ((24 : Int32) &&& 0x3f).toInt64.toUInt64).toInt64) &&& (16777215 : Int64)) (p4 &&& (16777215 : Int64))) <<< (y2 &&& 0x3f).toInt64) = y9) (pr10 : ((own_jmax (((p4.toUInt64 >>> ((24 : Int32) &&& 0x3f).toInt64.toUInt64).toInt64) &&& (16777215 : Int64)) (p4 &&& (16777215 : Int64))) <<< (y2 &&& 0x3f).toInt64) = y10) (pr11 : (p6 &&& (1 : Int32)) = y11) (pr12 : ((p6.toUInt32 >>> ((1 : Int32) &&& 31).toUInt32).toInt32) = y12) (pr13 : (y12 &&& (1 : Int32)) = y13) (pr14 : (p6 &&& (4 : Int32)) = y14) (pr15 : (own_bl y14) = y15) (pr16 : Sta Z Z.heap s26 s0 s8 (.ref w_DEFAULTCAPACITY_EMPTY_ELEMENTDATA)) (pr17 : ¬ (y3 < (0 : Int64))) (pr18 : ¬ (y4 < y3)) (pr19 : ¬ ((281474976710656 : Int64) < y4)) (pr20 : Arv Z Z.heap w_DEFAULTCAPACITY_EMPTY_ELEMENTDATA k_w_DEFAULTCAPACITY_EMPTY_ELEMENTDATA (.object s20) (0 : Int32) [] .null) (pr21 : ¬ (y5 < (0 : Int64))) (pr22 : ¬ (y6 < y5)) (pr23 : ¬ ((281474976710656 : Int64) < y6)) (pr24 : ¬ (y7 < (0 : Int64))) (pr25 : ¬ (y8 < y7)) (pr26 : ¬ ((281474976710656 : Int64) < y8)) (pr27 : ¬ (y9 < (0 : Int64))) (pr28 : ¬ (y10 < y9)) (pr29 : ¬ ((281474976710656 : Int64) < y10)) (pr30 : MirM Z s8 mir_objs) (pr31 : Sta Z Z.heap s30 "EMPTY" s2 (.ref w_EMPTY)) (pr32 : Exa Z Z.heap w_EMPTY s20) (pr33 : (y11 * (2 : Int32)) = y16) (pr34 : (y13 * (2 : Int32)) = y17) (pr35 : ¬ (y16 < (0 : Int32))) (pr36 : y16 < (4 : Int32)) (pr37 : (own_at4 y3 y5 y7 y9 y16) = y18) (pr38 : (own_at4 y4 y6 y8 y10 y16) = y19) (pr39 : ¬ (y17 < (0 : Int32))) (pr40 : y17 < (4 : Int32)) (pr41 : (own_at4 y3 y5 y7 y9 y17) = y20) (pr42 : (own_at4 y4 y6 y8 y10 y17) = y21) (pr43 : (own_ov y18 y19 y20 y21) = y22) (pr44 : ¬ (((((y11 * (2 : Int32)) * (2 : Int32)) + (0 : Int32)) + (1 : Int32)) < (0 : Int32))) (pr45 : ((((y11 * (2 : Int32)) * (2 : Int32)) + (0 : Int32)) + (1 : Int32)) < (8 : Int32)) (pr46 : ¬ ((((y13 * (2 : Int32)) * (2 : Int32)) + (0 : Int32)) < (0 : Int32))) (pr47 : (((y13 * (2 : Int32)) * (2 : Int32)) + (0 : Int32)) < (8 : Int32)) (pr48 : ¬ (((((y13 * (2 : Int32)) * (2 : Int32)) + (0 : Int32)) + (1 : Int32)) < (0 : Int32))) (pr49 : ((((y13 * (2 : Int32)) * (2 : Int32)) + (0 : Int32)) + (1 : Int32)) < (8 : Int32)) (pr50 : ¬ ((((y11 * (2 : Int32)) * (2 : Int32)) + (0 : Int32)) < (0 : Int32))) (pr51 : (((y11 * (2 : Int32)) * (2 : Int32)) + (0 : Int32)) < (8 : Int32)) (pr52 : ¬ (((((y11 * (2 : Int32)) * (2 : Int32)) + (2 : Int32)) + (1 : Int32)) < (0 : Int32))) (pr53 : ((((y11 * (2 : Int32)) * (2 : Int32)) + (2 : Int32)) + (1 : Int32)) < (8 : Int32)) (pr54 : ¬ ((((y13 * (2 : Int32)) * (2 : Int32)) + (2 : Int32)) < (0 : Int32))) (pr55 : (((y13 * (2 : Int32)) * (2 : Int32)) + (2 : Int32)) < (8 : Int32)) (pr56 : ¬ (((((y13 * (2 : Int32)) * (2 : Int32)) + (2 : Int32)) + (1 : Int32)) < (0 : Int32))) (pr57 : ((((y13 * (2 : Int32)) * (2 : Int32)) + (2 : Int32)) + (1 : Int32)) < (8 : Int32)) (pr58 : ¬ ((((y11 * (2 : Int32)) * (2 : Int32)) + (2 : Int32)) < (0 : Int32))) (pr59 : (((y11 * (2 : Int32)) * (2 : Int32)) + (2 : Int32)) < (8 : Int32)) (pr60 : (own_meet y11 y13 (own_jmin (9223372036854775807 : Int64) y3) (own_jmax (-1 : Int64) y4) (own_jmin (9223372036854775807 : Int64) y5) (own_jmax (-1 : Int64) y6) (own_jmin (9223372036854775807 : Int64) y7) (own_jmax (-1 : Int64) y8) (own_jmin (9223372036854775807 : Int64) y9) (own_jmax (-1 : Int64) y10)) = y23) (pr61 : (y16 + (1 : Int32)) = y24) (pr62 : ¬ (y24 < (0 : Int32))) (pr63 : y24 < (4 : Int32)) (pr64 : (own_at4 y3 y5 y7 y9 y24) = y25) (pr65 : (own_at4 y4 y6 y8 y10 y24) = y26) (pr66 : (y17 + (1 : Int32)) = y27) (pr67 : ¬ (y27 < (0 : Int32))) (pr68 : y27 < (4 : Int32)) (pr69 : (own_at4 y3 y5 y7 y9 y27) = y28) (pr70 : (own_at4 y4 y6 y8 y10 y27) = y29) (pr71 : (own_ov y25 y26 y28 y29) = y30) (pr72 : Sta Z Z.heap s30 s1 s5 (.ref w_EMPTY_LIST)) (pr73 : Fld Z Z.heap w_EMPTY_LIST s35 s13 s8 (.ref w_EMPTY_LIST__elements)) (pr74 : Arv Z Z.heap w_EMPTY_LIST__elements k_w_EMPTY_LIST__elements (.object s20) (0 : Int32) [] .null) (pr75 : Exa Z Z.heap w_EMPTY_LIST s35) (pr76 : (own_meet y11 y13 (own_jmin (9223372036854775807 : Int64) y3) (own_jmax (-1 : Int64) y4) (own_jmin (9223372036854775807 : Int64) y5) (own_jmax (-1 : Int64) y6) (9223372036854775807 : Int64) (-1 : Int64) (9223372036854775807 : Int64) (-1 : Int64)) = y31) :
    MetFree l x (head1 (Jvm.Cond.code x code maxLocals ret :: ws) room_1) (fun a U => a = #[(.long p1), (.long p2), (.long p3), (.long p4), (.int p5), (.int p6)] ∧ Z.Warmed39 U.vm ∧ U.heap = h0) (fun _ _ _ _ _ => True) (fun _ U o U' => ∃ v L, o = .returned v ∧ Q0 n0 v L ∧ ReturnedEndW U o U' L 112 3456) := by
  refine MetFree.of_bodySF (plainFor_of_name pn_0) hisR ?_
  intro p e s m args below meth c s₁ Bd hml0 hP hK
  obtain ⟨rfl, hZ, hh⟩ := hP
  have hx := Bd.exec
  have hby := Bd.bytes
  have hml : c.maxLocals = 26 := hml0
  have hown : s.vm.findClass s44 = some m.cls := findClass_of_methodNamed Bd.named
  have hnm := (name_of_methodNamed Bd.named Bd.method).1
  have X0 : Stand p l e room_1 s m #[(.long p1), (.long p2), (.long p3), (.long p4), (.int p5), (.int p6)] below meth c s₁ [] 0 0 := Stand.of_body Bd
  have e0 : s₁.heap = h0 := by rw [← hh, Bd.state]; rfl
  have N0 := Fr.nil n0
  have pre0 : ∀ t, SS p e below s₁ m 0 #[jv p1, sc, jv p2, sc, jv p3, sc, jv p4, sc, iv p5, iv p6, uu, uu, uu, uu, uu, uu, uu, uu, uu, uu, uu, uu, uu, uu, uu, uu] [] t → Steps p.tables e below (s₁.setTop (entryFrame m #[(.long p1), (.long p2), (.long p3), (.long p4), (.int p5), (.int p6)] maxLocals)) t := fun t k => castTop (ef_0 m p1 p2 p3 p4 p5 p6) k
  obtain ⟨T1, h1, k1, X1, e1, E1, A1, st1⟩ := newP (aty := .long) X0 hx hZ (wd0 hw) e0 (g := (mkF m 11 #[jv p1, sc, jv p2, sc, jv p3, sc, jv p4, sc, iv p5, iv p6, iv y2, uu, uu, uu, uu, uu, uu, uu, uu, uu, uu, uu, uu, uu, uu, uu] [(.int (4 : Int32))])) rfl (hb hby at_11) rfl (by decide) (cap := 4) (by decide) (by decide) (by decide) (by decide)
  obtain ⟨b1, g1⟩ : ∃ z, z = h0.size := ⟨_, rfl⟩
  rw [← g1] at A1 st1
  have V1 : Arv Z h1 b1 k1 .long (4 : Int32) [(.long (0 : Int64)), (.long (0 : Int64)), (.long (0 : Int64)), (.long (0 : Int64))] (.long (0 : Int64)) := (Arv.new A1 (by decide)).pad (pad_rep [] (.long (0 : Int64)) 4)
  have g_b1 : n0 ≤ b1 := (Nat.le_trans (Nat.le_trans (Nat.le_of_eq OL0.1.symm) OL0.2.1) (Nat.le_of_eq g1.symm))
  have OL1 := OL0.ext E1
  obtain ⟨T2, h2, k2, X2, e2, E2, A2, st2⟩ := newP (aty := .long) X1 hx hZ (wd0 hw) e1 (g := (mkF m 16 #[jv p1, sc, jv p2, sc, jv p3, sc, jv p4, sc, iv p5, iv p6, iv y2, rv b1, uu, uu, uu, uu, uu, uu, uu, uu, uu, uu, uu, uu, uu, uu] [(.int (4 : Int32))])) rfl (hb hby at_16) rfl (by decide) (cap := 4) (by decide) (by decide) (by decide) (by decide)
  obtain ⟨b2, g2⟩ : ∃ z, z = h1.size := ⟨_, rfl⟩
  rw [← g2] at A2 st2
  have V2 : Arv Z h2 b2 k2 .long (4 : Int32) [(.long (0 : Int64)), (.long (0 : Int64)), (.long (0 : Int64)), (.long (0 : Int64))] (.long (0 : Int64)) := (Arv.new A2 (by decide)).pad (pad_rep [] (.long (0 : Int64)) 4)
  have g_b2 : n0 ≤ b2 := (Nat.le_trans (Nat.le_trans (Nat.le_of_eq OL1.1.symm) OL1.2.1) (Nat.le_of_eq g2.symm))
  have OL2 := OL1.ext E2
  obtain ⟨_, T3, L3, X3, hQ3, st3⟩ := own_cS X2 hx hZ hown hml (cw1 hw) (rm1_0 l Z a0 hw p1 y2 h2 n0 OL2 ) e2 26 #[jv p1, sc, jv p2, sc, jv p3, sc, jv p4, sc, iv p5, iv p6, iv y2, rv b1, rv b2, uu, uu, uu, uu, uu, uu, uu, uu, uu, uu, uu, uu, uu] [(.long p1), (.int y2)] [(.int (0 : Int32)), (.ref b1)] 2 rfl (hb hby at_26) (by decide)
  obtain ⟨rfl, Nq3, ec3⟩ := hQ3
  have N3 := Fr.app N0 Nq3
  have fc4 := (V1.ext E2)
  obtain ⟨T6, h6, X6, e6, W6, VV6, st6⟩ := own_sJ X3 hx hZ ec3 fc4 (0 : Int32) (by decide) 0 y3 [] 29 #[jv p1, sc, jv p2, sc, jv p3, sc, jv p4, sc, iv p5, iv p6, iv y2, rv b1, rv b2, uu, uu, uu, uu, uu, uu, uu, uu, uu, uu, uu, uu, uu] (hb hby at_29) rfl (Nat.le_of_ble_eq_true rfl)
  have V6 : Arv Z h6 b1 k1 .long (4 : Int32) [(.long y3), (.long (0 : Int64)), (.long (0 : Int64)), (.long (0 : Int64))] (.long (0 : Int64)) := VV6
  have OL6 := OL2.wr W6 g_b1
  have N6 := Fr.snoc X6 N3 g_b1
  obtain ⟨_, T7, L7, X7, hQ7, st7⟩ := own_cS X6 hx hZ hown hml (cw3 hw) (rm3_0 l Z a0 hw p1 y2 h6 n0 OL6 ) e6 36 #[jv p1, sc, jv p2, sc, jv p3, sc, jv p4, sc, iv p5, iv p6, iv y2, rv b1, rv b2, uu, uu, uu, uu, uu, uu, uu, uu, uu, uu, uu, uu, uu] [(.long p1), (.int y2)] [(.int (0 : Int32)), (.ref b2)] 2 rfl (hb hby at_36) (by decide)
  obtain ⟨rfl, Nq7, ec7⟩ := hQ7
  have N7 := Fr.app N6 Nq7
  have nz8 := (nl V1.lt (Nat.le_of_eq g2.symm))
  have fc9 := (V2.other W6 (Ne.symm nz8))
  obtain ⟨T11, h11, X11, e11, W11, VV11, st11⟩ := own_sJ X7 hx hZ ec7 fc9 (0 : Int32) (by decide) 0 y4 [] 39 #[jv p1, sc, jv p2, sc, jv p3, sc, jv p4, sc, iv p5, iv p6, iv y2, rv b1, rv b2, uu, uu, uu, uu, uu, uu, uu, uu, uu, uu, uu, uu, uu] (hb hby at_39) rfl (Nat.le_of_ble_eq_true rfl)
  have V11 : Arv Z h11 b2 k2 .long (4 : Int32) [(.long y4), (.long (0 : Int64)), (.long (0 : Int64)), (.long (0 : Int64))] (.long (0 : Int64)) := VV11
  have OL11 := OL6.wr W11 g_b2
  have N11 := Fr.snoc X11 N7 g_b2
  obtain ⟨_, T12, L12, X12, hQ12, st12⟩ := own_cS X11 hx hZ hown hml (cw1 hw) (rm1_0 l Z a0 hw p2 y2 h11 n0 OL11 ) e11 46 #[jv p1, sc, jv p2, sc, jv p3, sc, jv p4, sc, iv p5, iv p6, iv y2, rv b1, rv b2, uu, uu, uu, uu, uu, uu, uu, uu, uu, uu, uu, uu, uu] [(.long p2), (.int y2)] [(.int (1 : Int32)), (.ref b1)] 2 rfl (hb hby at_46) (by decide)
  obtain ⟨rfl, Nq12, ec12⟩ := hQ12
  have N12 := Fr.app N11 Nq12
  have fc13 := (V6.other W11 nz8)
  obtain ⟨T15, h15, X15, e15, W15, VV15, st15⟩ := own_sJ X12 hx hZ ec12 fc13 (1 : Int32) (by decide) 1 y5 [] 49 #[jv p1, sc, jv p2, sc, jv p3, sc, jv p4, sc, iv p5, iv p6, iv y2, rv b1, rv b2, uu, uu, uu, uu, uu, uu, uu, uu, uu, uu, uu, uu, uu] (hb hby at_49) rfl (Nat.le_of_ble_eq_true rfl)
  have V15 : Arv Z h15 b1 k1 .long (4 : Int32) [(.long y3), (.long y5), (.long (0 : Int64)), (.long (0 : Int64))] (.long (0 : Int64)) := VV15
  have OL15 := OL11.wr W15 g_b1
  have N15 := Fr.snoc X15 N12 g_b1
  obtain ⟨_, T16, L16, X16, hQ16, st16⟩ := own_cS X15 hx hZ hown hml (cw3 hw) (rm3_0 l Z a0 hw p2 y2 h15 n0 OL15 ) e15 56 #[jv p1, sc, jv p2, sc, jv p3, sc, jv p4, sc, iv p5, iv p6, iv y2, rv b1, rv b2, uu, uu, uu, uu, uu, uu, uu, uu, uu, uu, uu, uu, uu] [(.long p2), (.int y2)] [(.int (1 : Int32)), (.ref b2)] 2 rfl (hb hby at_56) (by decide)
  obtain ⟨rfl, Nq16, ec16⟩ := hQ16
  have N16 := Fr.app N15 Nq16
  have fc17 := (V11.other W15 (Ne.symm nz8))
  obtain ⟨T19, h19, X19, e19, W19, VV19, st19⟩ := own_sJ X16 hx hZ ec16 fc17 (1 : Int32) (by decide) 1 y6 [] 59 #[jv p1, sc, jv p2, sc, jv p3, sc, jv p4, sc, iv p5, iv p6, iv y2, rv b1, rv b2, uu, uu, uu, uu, uu, uu, uu, uu, uu, uu, uu, uu, uu] (hb hby at_59) rfl (Nat.le_of_ble_eq_true rfl)
  have V19 : Arv Z h19 b2 k2 .long (4 : Int32) [(.long y4), (.long y6), (.long (0 : Int64)), (.long (0 : Int64))] (.long (0 : Int64)) := VV19
  have OL19 := OL15.wr W19 g_b2
  have N19 := Fr.snoc X19 N16 g_b2
  obtain ⟨_, T20, L20, X20, hQ20, st20⟩ := own_cS X19 hx hZ hown hml (cw1 hw) (rm1_0 l Z a0 hw p3 y2 h19 n0 OL19 ) e19 67 #[jv p1, sc, jv p2, sc, jv p3, sc, jv p4, sc, iv p5, iv p6, iv y2, rv b1, rv b2, uu, uu, uu, uu, uu, uu, uu, uu, uu, uu, uu, uu, uu] [(.long p3), (.int y2)] [(.int (2 : Int32)), (.ref b1)] 2 rfl (hb hby at_67) (by decide)
  obtain ⟨rfl, Nq20, ec20⟩ := hQ20
  have N20 := Fr.app N19 Nq20
  have fc21 := (V15.other W19 nz8)
  obtain ⟨T23, h23, X23, e23, W23, VV23, st23⟩ := own_sJ X20 hx hZ ec20 fc21 (2 : Int32) (by decide) 2 y7 [] 70 #[jv p1, sc, jv p2, sc, jv p3, sc, jv p4, sc, iv p5, iv p6, iv y2, rv b1, rv b2, uu, uu, uu, uu, uu, uu, uu, uu, uu, uu, uu, uu, uu] (hb hby at_70) rfl (Nat.le_of_ble_eq_true rfl)
  have V23 : Arv Z h23 b1 k1 .long (4 : Int32) [(.long y3), (.long y5), (.long y7), (.long (0 : Int64))] (.long (0 : Int64)) := VV23
  have OL23 := OL19.wr W23 g_b1
  have N23 := Fr.snoc X23 N20 g_b1
  obtain ⟨_, T24, L24, X24, hQ24, st24⟩ := own_cS X23 hx hZ hown hml (cw3 hw) (rm3_0 l Z a0 hw p3 y2 h23 n0 OL23 ) e23 78 #[jv p1, sc, jv p2, sc, jv p3, sc, jv p4, sc, iv p5, iv p6, iv y2, rv b1, rv b2, uu, uu, uu, uu, uu, uu, uu, uu, uu, uu, uu, uu, uu] [(.long p3), (.int y2)] [(.int (2 : Int32)), (.ref b2)] 2 rfl (hb hby at_78) (by decide)
  obtain ⟨rfl, Nq24, ec24⟩ := hQ24
  have N24 := Fr.app N23 Nq24
  have fc25 := (V19.other W23 (Ne.symm nz8))
  obtain ⟨T27, h27, X27, e27, W27, VV27, st27⟩ := own_sJ X24 hx hZ ec24 fc25 (2 : Int32) (by decide) 2 y8 [] 81 #[jv p1, sc, jv p2, sc, jv p3, sc, jv p4, sc, iv p5, iv p6, iv y2, rv b1, rv b2, uu, uu, uu, uu, uu, uu, uu, uu, uu, uu, uu, uu, uu] (hb hby at_81) rfl (Nat.le_of_ble_eq_true rfl)
  have V27 : Arv Z h27 b2 k2 .long (4 : Int32) [(.long y4), (.long y6), (.long y8), (.long (0 : Int64))] (.long (0 : Int64)) := VV27
  have OL27 := OL23.wr W27 g_b2
  have N27 := Fr.snoc X27 N24 g_b2
  obtain ⟨_, T28, L28, X28, hQ28, st28⟩ := own_cS X27 hx hZ hown hml (cw1 hw) (rm1_0 l Z a0 hw p4 y2 h27 n0 OL27 ) e27 89 #[jv p1, sc, jv p2, sc, jv p3, sc, jv p4, sc, iv p5, iv p6, iv y2, rv b1, rv b2, uu, uu, uu, uu, uu, uu, uu, uu, uu, uu, uu, uu, uu] [(.long p4), (.int y2)] [(.int (3 : Int32)), (.ref b1)] 2 rfl (hb hby at_89) (by decide)
  obtain ⟨rfl, Nq28, ec28⟩ := hQ28
  have N28 := Fr.app N27 Nq28
  have fc29 := (V23.other W27 nz8)
  obtain ⟨T31, h31, X31, e31, W31, VV31, st31⟩ := own_sJ X28 hx hZ ec28 fc29 (3 : Int32) (by decide) 3 y9 [] 92 #[jv p1, sc, jv p2, sc, jv p3, sc, jv p4, sc, iv p5, iv p6, iv y2, rv b1, rv b2, uu, uu, uu, uu, uu, uu, uu, uu, uu, uu, uu, uu, uu] (hb hby at_92) rfl (Nat.le_of_ble_eq_true rfl)
  have V31 : Arv Z h31 b1 k1 .long (4 : Int32) [(.long y3), (.long y5), (.long y7), (.long y9)] (.long (0 : Int64)) := VV31
  have OL31 := OL27.wr W31 g_b1
  have N31 := Fr.snoc X31 N28 g_b1
  obtain ⟨_, T32, L32, X32, hQ32, st32⟩ := own_cS X31 hx hZ hown hml (cw3 hw) (rm3_0 l Z a0 hw p4 y2 h31 n0 OL31 ) e31 100 #[jv p1, sc, jv p2, sc, jv p3, sc, jv p4, sc, iv p5, iv p6, iv y2, rv b1, rv b2, uu, uu, uu, uu, uu, uu, uu, uu, uu, uu, uu, uu, uu] [(.long p4), (.int y2)] [(.int (3 : Int32)), (.ref b2)] 2 rfl (hb hby at_100) (by decide)
  obtain ⟨rfl, Nq32, ec32⟩ := hQ32
  have N32 := Fr.app N31 Nq32
  have fc33 := (V27.other W31 (Ne.symm nz8))
  obtain ⟨T35, h35, X35, e35, W35, VV35, st35⟩ := own_sJ X32 hx hZ ec32 fc33 (3 : Int32) (by decide) 3 y10 [] 103 #[jv p1, sc, jv p2, sc, jv p3, sc, jv p4, sc, iv p5, iv p6, iv y2, rv b1, rv b2, uu, uu, uu, uu, uu, uu, uu, uu, uu, uu, uu, uu, uu] (hb hby at_103) rfl (Nat.le_of_ble_eq_true rfl)
  have V35 : Arv Z h35 b2 k2 .long (4 : Int32) [(.long y4), (.long y6), (.long y8), (.long y10)] (.long (0 : Int64)) := VV35
  have OL35 := OL31.wr W35 g_b2
  have N35 := Fr.snoc X35 N32 g_b2
  have dia36 : ∀ t, SS p e below T35 m 130 #[jv p1, sc, jv p2, sc, jv p3, sc, jv p4, sc, iv p5, iv p6, iv y2, rv b1, rv b2, iv y11, iv y13, uu, uu, uu, uu, uu, uu, uu, uu, uu, uu, uu] [(.int (own_bl y14))] t → SS p e below T35 m 122 #[jv p1, sc, jv p2, sc, jv p3, sc, jv p4, sc, iv p5, iv p6, iv y2, rv b1, rv b2, iv y11, iv y13, uu, uu, uu, uu, uu, uu, uu, uu, uu, uu, uu] [(.int y14)] t := by
    intro t kt
    by_cases hd : y14 = 0
    · rw [show (own_bl y14) = (0 : Int32) from if_pos hd] at kt
      refine XS.ifYes X35.here hx rfl (pc0 := 122) (pc' := 129) rfl (hb hby at_122) rfl ((if0 _ _).trans (teq hd).1) (by decide) (by decide) ?_
      show SS p e below T35 m 129 #[jv p1, sc, jv p2, sc, jv p3, sc, jv p4, sc, iv p5, iv p6, iv y2, rv b1, rv b2, iv y11, iv y13, uu, uu, uu, uu, uu, uu, uu, uu, uu, uu, uu] [] _
      refine XS.iconst X35.here hx rfl (hb hby at_129) ?_
      exact kt
    · rw [show (own_bl y14) = (1 : Int32) from if_neg hd] at kt
      refine XS.ifNo X35.here hx rfl (hb hby at_122) rfl ((if0 _ _).trans (feq hd).1) ?_
      show SS p e below T35 m 125 #[jv p1, sc, jv p2, sc, jv p3, sc, jv p4, sc, iv p5, iv p6, iv y2, rv b1, rv b2, iv y11, iv y13, uu, uu, uu, uu, uu, uu, uu, uu, uu, uu, uu] [] _
      refine XS.iconst X35.here hx rfl (hb hby at_125) ?_
      refine XS.goto X35.here hx rfl (pc0 := 126) (pc' := 130) rfl (hb hby at_126) (by decide) (by decide) ?_
      exact kt
  obtain ⟨T37, h37, X37, e37, E37, A37, D37, -, st37⟩ := newO X35 hx hZ hown (wd16 hw) (wd17 hw) (wd18 hw) e35 (g := (mkF m 132 #[jv p1, sc, jv p2, sc, jv p3, sc, jv p4, sc, iv p5, iv p6, iv y2, rv b1, rv b2, iv y11, iv y13, iv y15, uu, uu, uu, uu, uu, uu, uu, uu, uu, uu] [])) rfl (hb hby at_132) (by decide) (by decide)
  obtain ⟨b37, g37⟩ : ∃ z, z = h35.size := ⟨_, rfl⟩
  rw [← g37] at A37 D37 st37
  have g_b37 : n0 ≤ b37 := (Nat.le_trans (Nat.le_trans (Nat.le_of_eq OL35.1.symm) OL35.2.1) (Nat.le_of_eq g37.symm))
  have OL37 := OL35.ext E37
  have F_name_b37 : Fld Z h37 b37 s46 "name" s3 .null := D37 (Or.inr (wd44 hw)) (ty := (.object s22)) (by decide)
  obtain ⟨b38, T38, h38, k38, X38, e38, E38, hS38, hk38, hZ38, hown38, st38⟩ := ldcS (s := s) (vm0 := s.vm) X37 hx hZ hown (wd19 hw) (own_wS hw) e37 ((State.WarmedH.refl s).since 0) (Nat.le_trans (Nat.le_trans (Nat.le_trans (Nat.le_trans (Nat.le_trans (Nat.le_trans (Nat.le_trans (Nat.le_trans (Nat.le_trans (Nat.le_trans (Nat.le_trans (Nat.zero_le _) E1.1) E2.1) (Nat.le_of_eq W6.size.symm)) (Nat.le_of_eq W11.size.symm)) (Nat.le_of_eq W15.size.symm)) (Nat.le_of_eq W19.size.symm)) (Nat.le_of_eq W23.size.symm)) (Nat.le_of_eq W27.size.symm)) (Nat.le_of_eq W31.size.symm)) (Nat.le_of_eq W35.size.symm)) E37.1) (g := (mkF m 136 #[jv p1, sc, jv p2, sc, jv p3, sc, jv p4, sc, iv p5, iv p6, iv y2, rv b1, rv b2, iv y11, iv y13, iv y15, uu, uu, uu, uu, uu, uu, uu, uu, uu, uu] [(.ref b37), (.ref b37)])) rfl (hb hby at_136) (n := 4) (by decide) (by decide) (by decide) (by decide)
  have OL38 := OL37.ext E38
  have fc40 := (A37.ext E38)
  have fc41 := (F_name_b37.ext E38)
  obtain ⟨_, _, ⟨T39, L39, k39, n39⟩, -, Xa39, hSi39, hgr39, ⟨Lc39, hQ39, l39, y39, z39⟩, st39⟩ := X38.specialBackS hx (y := mn5) rfl hown38 (mvT hZ38 (wd27 hw)) (mvT hZ38 (wd28 hw)) (mvT hZ38 (wd29 hw)) (by decide) (backOfS (W := 1) (rm5_0 l Z a0 hw [] b37 b38 h38 n0 OL38 fc40 fc41 g_b37) hZ38 (wd29 hw) (wd18 hw) (by decide) (by decide)) (g := (mkF m 138 #[jv p1, sc, jv p2, sc, jv p3, sc, jv p4, sc, iv p5, iv p6, iv y2, rv b1, rv b2, iv y11, iv y13, iv y15, uu, uu, uu, uu, uu, uu, uu, uu, uu, uu] [(.ref b38), (.ref b37), (.ref b37)])) rfl (by rw [hml]; rfl) (Steps.refl _) (a := b37) (argsL := [(.ref b38)]) (rest := [(.ref b37)]) (lenOf pd_4 rfl) rfl (by show 2 * 0 + _ ≤ _; exact Nat.le_of_eq rfl) (hb hby at_138) (fun _ _ => ⟨rfl, e38, (by decide : 5 + 2 ≤ _), (by decide : 17 + 20 ≤ _)⟩)
  dsimp only [Pt.U, Pt.locs, Pt.cells, Pt.slots] at Xa39 l39 y39 z39 st39 hQ39 hSi39 hgr39
  have Xb39 := own_sub Xa39 l39 y39 z39
  obtain ⟨X39, hS39, hZ39, hown39⟩ := rebS (s := s) (vm0 := T38.vm) hS38 (n1 := T38.heap.size) (by rw [e38]; exact hk38) Xb39 hSi39 hgr39 hZ38 hown38
  obtain ⟨rfl, Nq39, K39, u39_0⟩ := hQ39
  have OL39 := OL38.keep K39 (allS g_b37 all0)
  have N39 := Fr.app N35 Nq39
  obtain ⟨T42, h42, X42, e42, E42, A42, D42, -, st42⟩ := newO X39 hx hZ39 hown39 (wd45 hw) (wd46 hw) (wd47 hw) rfl (g := (mkF m 143 #[jv p1, sc, jv p2, sc, jv p3, sc, jv p4, sc, iv p5, iv p6, iv y2, rv b1, rv b2, iv y11, iv y13, iv y15, rv b37, uu, uu, uu, uu, uu, uu, uu, uu, uu] [])) rfl (hb hby at_143) (by decide) (by decide)
  obtain ⟨b42, g42⟩ : ∃ z, z = T39.heap.size := ⟨_, rfl⟩
  rw [← g42] at A42 D42 st42
  have g_b42 : n0 ≤ b42 := (Nat.le_trans (Nat.le_trans (Nat.le_of_eq OL39.1.symm) OL39.2.1) (Nat.le_of_eq g42.symm))
  have OL42 := OL39.ext E42
  have F_modCount_b42 : Fld Z h42 b42 s25 s41 "I" (.int (0 : Int32)) := D42 (Or.inl (wd65 hw)) (ty := .int) (by decide)
  have F_elementData_b42 : Fld Z h42 b42 s26 s12 s8 .null := D42 (Or.inl (wd68 hw)) (ty := (.array (.object s20))) (by decide)
  have F_size_b42 : Fld Z h42 b42 s26 "size" "I" (.int (0 : Int32)) := D42 (Or.inl (wd92 hw)) (ty := .int) (by decide)
  obtain ⟨_, T43, L43, X43, hQ43, st43⟩ := own_cN X42 hx hZ39 hown39 hml (cw8 hw) (rm9_0 l Z a0 hw b42 w_DEFAULTCAPACITY_EMPTY_ELEMENTDATA h42 n0 OL42 A42 F_modCount_b42 g_b42 F_elementData_b42 F_size_b42 pr16) e42 b42 147 #[jv p1, sc, jv p2, sc, jv p3, sc, jv p4, sc, iv p5, iv p6, iv y2, rv b1, rv b2, iv y11, iv y13, iv y15, rv b37, uu, uu, uu, uu, uu, uu, uu, uu, uu] [] [(.ref b42)] 1 rfl (hb hby at_147) (by decide)
  obtain ⟨rfl, Nq43, K43, u43_0, u43_1, u43_2⟩ := hQ43
  have OL43 := OL42.keep K43 (allS g_b42 all0)
  have N43 := Fr.app N39 Nq43
  have lz44 := (lq V31.lt (Nat.le_of_eq W35.size.symm))
  have nz45 := (nl lz44 (Nat.le_of_eq g37.symm))
  have lz46 := (lq (lq (lq lz44 E37.1) E38.1) K39.1)
  have nz47 := (nl lz46 (Nat.le_of_eq g42.symm))
  have fc48 := ((((((V31.other W35 nz8).ext E37).ext E38).keep K39 (ninS nz45 nin0)).ext E42).keep K43 (ninS nz47 nin0))
  have nz50 := (nl V35.lt (Nat.le_of_eq g37.symm))
  have lz51 := (lq (lq (lq V35.lt E37.1) E38.1) K39.1)
  have nz52 := (nl lz51 (Nat.le_of_eq g42.symm))
  have fc53 := (((((V35.ext E37).ext E38).keep K39 (ninS nz50 nin0)).ext E42).keep K43 (ninS nz52 nin0))
  obtain ⟨_, T55, L55, X55, hQ55, st55⟩ := own_cS X43 hx hZ39 hown39 hml (cw10 hw) (rm12_0 l Z a0 hw y3 y4 T43.heap n0 OL43 pr17 pr18 pr19) rfl 162 #[jv p1, sc, jv p2, sc, jv p3, sc, jv p4, sc, iv p5, iv p6, iv y2, rv b1, rv b2, iv y11, iv y13, iv y15, rv b37, rv b42, uu, uu, uu, uu, uu, uu, uu, uu] [(.long y3), (.long y4)] [(.ref b42)] 1 rfl (hb hby at_162) (by decide)
  obtain ⟨b55_0, b55_1, b55_2, kx55_0, kx55_1, rfl, Nq55, K55, u55_0, u55_1, u55_2, u55_3, u55_4, u55_5, u55_6, u55_7, u55_8, u55_9, u55_10⟩ := hQ55
  have OL55 := OL43.keep K55 all0
  have N55 := Fr.app N43 Nq55
  have fc57 := (u43_0.keep K55 nin0)
  have fc58 := ((A42.keep K43).keep K55)
  have fc59 := (u43_1.keep K55 nin0)
  have fc60 := (u43_2.keep K55 nin0)
  obtain ⟨_, T56, L56, X56, hQ56, st56⟩ := own_cV X55 hx hZ39 hown39 hml (cw15 hw) (rm14_0 l Z a0 hw b42 b55_0 w_DEFAULTCAPACITY_EMPTY_ELEMENTDATA k_w_DEFAULTCAPACITY_EMPTY_ELEMENTDATA T55.heap n0 OL55 fc57 fc58 g_b42 fc59 fc60 pr20 pr16 u55_6) rfl fc58 165 #[jv p1, sc, jv p2, sc, jv p3, sc, jv p4, sc, iv p5, iv p6, iv y2, rv b1, rv b2, iv y11, iv y13, iv y15, rv b37, rv b42, uu, uu, uu, uu, uu, uu, uu, uu] [(.ref b55_0)] [] 0 rfl (hb hby at_165) (by decide)
  obtain ⟨b56_0, kx56_0, rfl, Nq56, K56, u56_0, u56_1, u56_2, u56_3, u56_4, u56_5, u56_6⟩ := hQ56
  have OL56 := OL55.keep K56 (allS g_b42 all0)
  have g_b56_0 : n0 ≤ b56_0 := Nat.le_trans (Nat.le_trans (Nat.le_of_eq OL55.1.symm) OL55.2.1) u56_0
  have N56 := Fr.app N55 Nq56
  have fc61 := ((fc48.keep K55 nin0).keep K56 (ninS nz47 nin0))
  have fc63 := ((fc53.keep K55 nin0).keep K56 (ninS nz52 nin0))
  obtain ⟨_, T65, L65, X65, hQ65, st65⟩ := own_cS X56 hx hZ39 hown39 hml (cw10 hw) (rm12_0 l Z a0 hw y5 y6 T56.heap n0 OL56 pr21 pr22 pr23) rfl 179 #[jv p1, sc, jv p2, sc, jv p3, sc, jv p4, sc, iv p5, iv p6, iv y2, rv b1, rv b2, iv y11, iv y13, iv y15, rv b37, rv b42, uu, uu, uu, uu, uu, uu, uu, uu] [(.long y5), (.long y6)] [(.ref b42)] 1 rfl (hb hby at_179) (by decide)
  obtain ⟨b65_0, b65_1, b65_2, kx65_0, kx65_1, rfl, Nq65, K65, u65_0, u65_1, u65_2, u65_3, u65_4, u65_5, u65_6, u65_7, u65_8, u65_9, u65_10⟩ := hQ65
  have OL65 := OL56.keep K65 all0
  have g_b65_0 : n0 ≤ b65_0 := Nat.le_trans (Nat.le_trans (Nat.le_of_eq OL56.1.symm) OL56.2.1) u65_0
  have N65 := Fr.app N56 Nq65
  have fc67 := (u56_1.keep K65 nin0)
  have fc68 := ((fc58.keep K56).keep K65)
  have fc69 := (u56_2.keep K65 nin0)
  have fc70 := (u56_3.keep K65 nin0)
  have fc71 := (u56_4.keep K65 nin0)
  have nz72 := nl fc60.lt u56_0
  obtain ⟨_, T66, L66, X66, hQ66, st66⟩ := own_cV X65 hx hZ39 hown39 hml (cw15 hw) (rm14_1 l Z a0 hw b42 b65_0 b56_0 b55_0 kx56_0 T65.heap n0 OL65 fc67 fc68 g_b42 fc69 fc70 fc71 (Ne.symm nz72) g_b56_0 u56_5 u65_6 nz72) rfl fc68 182 #[jv p1, sc, jv p2, sc, jv p3, sc, jv p4, sc, iv p5, iv p6, iv y2, rv b1, rv b2, iv y11, iv y13, iv y15, rv b37, rv b42, uu, uu, uu, uu, uu, uu, uu, uu] [(.ref b65_0)] [] 0 rfl (hb hby at_182) (by decide)
  obtain ⟨rfl, Nq66, K66, u66_0, u66_1, u66_2, u66_3⟩ := hQ66
  have OL66 := OL65.keep K66 (allS g_b42 (allS g_b56_0 all0))
  have N66 := Fr.app N65 Nq66
  obtain ⟨T73, h73, X73, e73, E73, A73, D73, -, st73⟩ := newO X66 hx hZ39 hown39 (wd45 hw) (wd46 hw) (wd47 hw) rfl (g := (mkF m 186 #[jv p1, sc, jv p2, sc, jv p3, sc, jv p4, sc, iv p5, iv p6, iv y2, rv b1, rv b2, iv y11, iv y13, iv y15, rv b37, rv b42, uu, uu, uu, uu, uu, uu, uu, uu] [])) rfl (hb hby at_186) (by decide) (by decide)
  obtain ⟨b73, g73⟩ : ∃ z, z = T66.heap.size := ⟨_, rfl⟩
  rw [← g73] at A73 D73 st73
  have g_b73 : n0 ≤ b73 := (Nat.le_trans (Nat.le_trans (Nat.le_of_eq OL66.1.symm) OL66.2.1) (Nat.le_of_eq g73.symm))
  have OL73 := OL66.ext E73
  have F_modCount_b73 : Fld Z h73 b73 s25 s41 "I" (.int (0 : Int32)) := D73 (Or.inl (wd65 hw)) (ty := .int) (by decide)
  have F_elementData_b73 : Fld Z h73 b73 s26 s12 s8 .null := D73 (Or.inl (wd68 hw)) (ty := (.array (.object s20))) (by decide)
  have F_size_b73 : Fld Z h73 b73 s26 "size" "I" (.int (0 : Int32)) := D73 (Or.inl (wd92 hw)) (ty := .int) (by decide)
  obtain ⟨_, T74, L74, X74, hQ74, st74⟩ := own_cN X73 hx hZ39 hown39 hml (cw8 hw) (rm9_0 l Z a0 hw b73 w_DEFAULTCAPACITY_EMPTY_ELEMENTDATA h73 n0 OL73 A73 F_modCount_b73 g_b73 F_elementData_b73 F_size_b73 pr16) e73 b73 190 #[jv p1, sc, jv p2, sc, jv p3, sc, jv p4, sc, iv p5, iv p6, iv y2, rv b1, rv b2, iv y11, iv y13, iv y15, rv b37, rv b42, uu, uu, uu, uu, uu, uu, uu, uu] [] [(.ref b73)] 1 rfl (hb hby at_190) (by decide)
  obtain ⟨rfl, Nq74, K74, u74_0, u74_1, u74_2⟩ := hQ74
  have OL74 := OL73.keep K74 (allS g_b73 all0)
  have N74 := Fr.app N66 Nq74
  have lz75 := (lq fc48.lt K55.1)
  have nz76 := nl lz75 u56_0
  have lz77 := (lq (lq fc61.lt K65.1) K66.1)
  have nz78 := (nl lz77 (Nat.le_of_eq g73.symm))
  have fc79 := ((((fc61.keep K65 nin0).keep K66 (ninS nz47 (ninS nz76 nin0))).ext E73).keep K74 (ninS nz78 nin0))
  have lz81 := (lq fc53.lt K55.1)
  have nz82 := nl lz81 u56_0
  have lz83 := (lq (lq fc63.lt K65.1) K66.1)
  have nz84 := (nl lz83 (Nat.le_of_eq g73.symm))
  have fc85 := ((((fc63.keep K65 nin0).keep K66 (ninS nz52 (ninS nz82 nin0))).ext E73).keep K74 (ninS nz84 nin0))
  obtain ⟨_, T87, L87, X87, hQ87, st87⟩ := own_cS X74 hx hZ39 hown39 hml (cw10 hw) (rm12_0 l Z a0 hw y7 y8 T74.heap n0 OL74 pr24 pr25 pr26) rfl 205 #[jv p1, sc, jv p2, sc, jv p3, sc, jv p4, sc, iv p5, iv p6, iv y2, rv b1, rv b2, iv y11, iv y13, iv y15, rv b37, rv b42, rv b73, uu, uu, uu, uu, uu, uu, uu] [(.long y7), (.long y8)] [(.ref b73)] 1 rfl (hb hby at_205) (by decide)
  obtain ⟨b87_0, b87_1, b87_2, kx87_0, kx87_1, rfl, Nq87, K87, u87_0, u87_1, u87_2, u87_3, u87_4, u87_5, u87_6, u87_7, u87_8, u87_9, u87_10⟩ := hQ87
  have OL87 := OL74.keep K87 all0
  have N87 := Fr.app N74 Nq87
  have fc89 := (u74_0.keep K87 nin0)
  have fc90 := ((A73.keep K74).keep K87)
  have fc91 := (u74_1.keep K87 nin0)
  have fc92 := (u74_2.keep K87 nin0)
  obtain ⟨_, T88, L88, X88, hQ88, st88⟩ := own_cV X87 hx hZ39 hown39 hml (cw15 hw) (rm14_0 l Z a0 hw b73 b87_0 w_DEFAULTCAPACITY_EMPTY_ELEMENTDATA k_w_DEFAULTCAPACITY_EMPTY_ELEMENTDATA T87.heap n0 OL87 fc89 fc90 g_b73 fc91 fc92 pr20 pr16 u87_6) rfl fc90 208 #[jv p1, sc, jv p2, sc, jv p3, sc, jv p4, sc, iv p5, iv p6, iv y2, rv b1, rv b2, iv y11, iv y13, iv y15, rv b37, rv b42, rv b73, uu, uu, uu, uu, uu, uu, uu] [(.ref b87_0)] [] 0 rfl (hb hby at_208) (by decide)
  obtain ⟨b88_0, kx88_0, rfl, Nq88, K88, u88_0, u88_1, u88_2, u88_3, u88_4, u88_5, u88_6⟩ := hQ88
  have OL88 := OL87.keep K88 (allS g_b73 all0)
  have g_b88_0 : n0 ≤ b88_0 := Nat.le_trans (Nat.le_trans (Nat.le_of_eq OL87.1.symm) OL87.2.1) u88_0
  have N88 := Fr.app N87 Nq88
  have fc93 := ((fc79.keep K87 nin0).keep K88 (ninS nz78 nin0))
  have fc95 := ((fc85.keep K87 nin0).keep K88 (ninS nz84 nin0))
  obtain ⟨_, T97, L97, X97, hQ97, st97⟩ := own_cS X88 hx hZ39 hown39 hml (cw10 hw) (rm12_0 l Z a0 hw y9 y10 T88.heap n0 OL88 pr27 pr28 pr29) rfl 222 #[jv p1, sc, jv p2, sc, jv p3, sc, jv p4, sc, iv p5, iv p6, iv y2, rv b1, rv b2, iv y11, iv y13, iv y15, rv b37, rv b42, rv b73, uu, uu, uu, uu, uu, uu, uu] [(.long y9), (.long y10)] [(.ref b73)] 1 rfl (hb hby at_222) (by decide)
  obtain ⟨b97_0, b97_1, b97_2, kx97_0, kx97_1, rfl, Nq97, K97, u97_0, u97_1, u97_2, u97_3, u97_4, u97_5, u97_6, u97_7, u97_8, u97_9, u97_10⟩ := hQ97
  have OL97 := OL88.keep K97 all0
  have g_b97_0 : n0 ≤ b97_0 := Nat.le_trans (Nat.le_trans (Nat.le_of_eq OL88.1.symm) OL88.2.1) u97_0
  have N97 := Fr.app N88 Nq97
  have fc99 := (u88_1.keep K97 nin0)
  have fc100 := ((fc90.keep K88).keep K97)
  have fc101 := (u88_2.keep K97 nin0)
  have fc102 := (u88_3.keep K97 nin0)
  have fc103 := (u88_4.keep K97 nin0)
  have nz104 := nl fc92.lt u88_0
  obtain ⟨_, T98, L98, X98, hQ98, st98⟩ := own_cV X97 hx hZ39 hown39 hml (cw15 hw) (rm14_1 l Z a0 hw b73 b97_0 b88_0 b87_0 kx88_0 T97.heap n0 OL97 fc99 fc100 g_b73 fc101 fc102 fc103 (Ne.symm nz104) g_b88_0 u88_5 u97_6 nz104) rfl fc100 225 #[jv p1, sc, jv p2, sc, jv p3, sc, jv p4, sc, iv p5, iv p6, iv y2, rv b1, rv b2, iv y11, iv y13, iv y15, rv b37, rv b42, rv b73, uu, uu, uu, uu, uu, uu, uu] [(.ref b97_0)] [] 0 rfl (hb hby at_225) (by decide)
  obtain ⟨rfl, Nq98, K98, u98_0, u98_1, u98_2, u98_3⟩ := hQ98
  have OL98 := OL97.keep K98 (allS g_b73 (allS g_b88_0 all0))
  have N98 := Fr.app N97 Nq98
  obtain ⟨T105, h105, X105, e105, E105, A105, D105, -, st105⟩ := newO X98 hx hZ39 hown39 (wd45 hw) (wd46 hw) (wd47 hw) rfl (g := (mkF m 229 #[jv p1, sc, jv p2, sc, jv p3, sc, jv p4, sc, iv p5, iv p6, iv y2, rv b1, rv b2, iv y11, iv y13, iv y15, rv b37, rv b42, rv b73, uu, uu, uu, uu, uu, uu, uu] [])) rfl (hb hby at_229) (by decide) (by decide)
  obtain ⟨b105, g105⟩ : ∃ z, z = T98.heap.size := ⟨_, rfl⟩
  rw [← g105] at A105 D105 st105
  have g_b105 : n0 ≤ b105 := (Nat.le_trans (Nat.le_trans (Nat.le_of_eq OL98.1.symm) OL98.2.1) (Nat.le_of_eq g105.symm))
  have OL105 := OL98.ext E105
  have F_modCount_b105 : Fld Z h105 b105 s25 s41 "I" (.int (0 : Int32)) := D105 (Or.inl (wd65 hw)) (ty := .int) (by decide)
  have F_elementData_b105 : Fld Z h105 b105 s26 s12 s8 .null := D105 (Or.inl (wd68 hw)) (ty := (.array (.object s20))) (by decide)
  have F_size_b105 : Fld Z h105 b105 s26 "size" "I" (.int (0 : Int32)) := D105 (Or.inl (wd92 hw)) (ty := .int) (by decide)
  obtain ⟨_, T106, L106, X106, hQ106, st106⟩ := own_cN X105 hx hZ39 hown39 hml (cw8 hw) (rm9_0 l Z a0 hw b105 w_DEFAULTCAPACITY_EMPTY_ELEMENTDATA h105 n0 OL105 A105 F_modCount_b105 g_b105 F_elementData_b105 F_size_b105 pr16) e105 b105 233 #[jv p1, sc, jv p2, sc, jv p3, sc, jv p4, sc, iv p5, iv p6, iv y2, rv b1, rv b2, iv y11, iv y13, iv y15, rv b37, rv b42, rv b73, uu, uu, uu, uu, uu, uu, uu] [] [(.ref b105)] 1 rfl (hb hby at_233) (by decide)
  obtain ⟨rfl, Nq106, K106, u106_0, u106_1, u106_2⟩ := hQ106
  have OL106 := OL105.keep K106 (allS g_b105 all0)
  have N106 := Fr.app N98 Nq106
  obtain ⟨T107, h107, X107, e107, E107, A107, D107, -, st107⟩ := newO X106 hx hZ39 hown39 (wd114 hw) (wd115 hw) (wd116 hw) rfl (g := (mkF m 240 #[jv p1, sc, jv p2, sc, jv p3, sc, jv p4, sc, iv p5, iv p6, iv y2, rv b1, rv b2, iv y11, iv y13, iv y15, rv b37, rv b42, rv b73, rv b105, uu, uu, uu, uu, uu, uu] [(.ref b105)])) rfl (hb hby at_240) (by decide) (by decide)
  obtain ⟨b107, g107⟩ : ∃ z, z = T106.heap.size := ⟨_, rfl⟩
  rw [← g107] at A107 D107 st107
  have g_b107 : n0 ≤ b107 := (Nat.le_trans (Nat.le_trans (Nat.le_of_eq OL106.1.symm) OL106.2.1) (Nat.le_of_eq g107.symm))
  have OL107 := OL106.ext E107
  have F_sets_b107 : Fld Z h107 b107 s45 "sets" s6 .null := D107 (Or.inr (wd206 hw)) (ty := (.object s37)) (by decide)
  have fc109 := ((((((((((fc68.keep K66).ext E73).keep K74).keep K87).keep K88).keep K97).keep K98).ext E105).keep K106).ext E107)
  have nz110 := (nl u66_2.lt (Nat.le_of_eq g73.symm))
  have lz111 := (lq (lq (lq u66_2.lt E73.1) K74.1) K87.1)
  have nz112 := nl lz111 u88_0
  have lz113 := (lq (lq (lq lz111 K88.1) K97.1) K98.1)
  have nz114 := (nl lz113 (Nat.le_of_eq g105.symm))
  have fc115 := (((((((((u66_2.ext E73).keep K74 (ninS nz110 nin0)).keep K87 nin0).keep K88 (ninS nz110 nin0)).keep K97 nin0).keep K98 (ninS nz110 (ninS nz112 nin0))).ext E105).keep K106 (ninS nz114 nin0)).ext E107)
  have fc116 := (((((((((u66_1.ext E73).keep K74 (ninS nz110 nin0)).keep K87 nin0).keep K88 (ninS nz110 nin0)).keep K97 nin0).keep K98 (ninS nz110 (ninS nz112 nin0))).ext E105).keep K106 (ninS nz114 nin0)).ext E107)
  have fc117 := (((((((((((u56_6.keep K65).keep K66).ext E73).keep K74).keep K87).keep K88).keep K97).keep K98).ext E105).keep K106).ext E107)
  have nz118 := (nl u66_3.lt (Nat.le_of_eq g73.symm))
  have lz119 := (lq (lq (lq u66_3.lt E73.1) K74.1) K87.1)
  have nz120 := nl lz119 u88_0
  have lz121 := (lq (lq (lq lz119 K88.1) K97.1) K98.1)
  have nz122 := (nl lz121 (Nat.le_of_eq g105.symm))
  have fc123 := (((((((((u66_3.ext E73).keep K74 (ninS nz118 nin0)).keep K87 nin0).keep K88 (ninS nz118 nin0)).keep K97 nin0).keep K98 (ninS nz118 (ninS nz120 nin0))).ext E105).keep K106 (ninS nz122 nin0)).ext E107)
  have fc124 := ((((((((((u65_6.keep K66).ext E73).keep K74).keep K87).keep K88).keep K97).keep K98).ext E105).keep K106).ext E107)
  have fc125 := ((((((((((((u55_6.keep K56).keep K65).keep K66).ext E73).keep K74).keep K87).keep K88).keep K97).keep K98).ext E105).keep K106).ext E107)
  obtain ⟨_, T108, L108, X108, hQ108, st108⟩ := own_cN X107 hx hZ39 hown39 hml (cw30 hw) (rm19_0 l Z a0 hw b107 b42 b56_0 mir_objs b55_0 b65_0 kx56_0 h107 n0 OL107 fc109 fc115 fc116 pr30 fc117 fc123 fc124 fc125 A107 F_sets_b107 g_b107) e107 b107 246 #[jv p1, sc, jv p2, sc, jv p3, sc, jv p4, sc, iv p5, iv p6, iv y2, rv b1, rv b2, iv y11, iv y13, iv y15, rv b37, rv b42, rv b73, rv b105, uu, uu, uu, uu, uu, uu] [(.ref b42)] [(.ref b107), (.ref b105)] 2 rfl (hb hby at_246) (by decide)
  obtain ⟨b108_0, rfl, Nq108, K108, u108_0, u108_1, u108_2, u108_3, u108_4⟩ := hQ108
  have OL108 := OL107.keep K108 (allS g_b107 all0)
  have N108 := Fr.app N106 Nq108
  have nz127 := (nl u106_2.lt (Nat.le_of_eq g107.symm))
  have fc128 := ((u106_0.ext E107).keep K108 (ninS nz127 nin0))
  have fc129 := (((A105.keep K106).ext E107).keep K108)
  have fc130 := ((u106_1.ext E107).keep K108 (ninS nz127 nin0))
  have fc131 := ((u106_2.ext E107).keep K108 (ninS nz127 nin0))
  have fc132 := (A107.keep K108)
  obtain ⟨_, T126, L126, X126, hQ126, st126⟩ := own_cV X108 hx hZ39 hown39 hml (cw15 hw) (rm14_2 l Z a0 hw b105 b107 w_DEFAULTCAPACITY_EMPTY_ELEMENTDATA k_w_DEFAULTCAPACITY_EMPTY_ELEMENTDATA T108.heap n0 OL108 fc128 fc129 g_b105 fc130 fc131 pr20 pr16 fc132) rfl fc129 249 #[jv p1, sc, jv p2, sc, jv p3, sc, jv p4, sc, iv p5, iv p6, iv y2, rv b1, rv b2, iv y11, iv y13, iv y15, rv b37, rv b42, rv b73, rv b105, uu, uu, uu, uu, uu, uu] [(.ref b107)] [] 0 rfl (hb hby at_249) (by decide)
  obtain ⟨b126_0, kx126_0, rfl, Nq126, K126, u126_0, u126_1, u126_2, u126_3, u126_4, u126_5, u126_6⟩ := hQ126
  have OL126 := OL108.keep K126 (allS g_b105 all0)
  have N126 := Fr.app N108 Nq126
  obtain ⟨T133, h133, X133, e133, E133, A133, D133, -, st133⟩ := newO X126 hx hZ39 hown39 (wd45 hw) (wd46 hw) (wd47 hw) rfl (g := (mkF m 253 #[jv p1, sc, jv p2, sc, jv p3, sc, jv p4, sc, iv p5, iv p6, iv y2, rv b1, rv b2, iv y11, iv y13, iv y15, rv b37, rv b42, rv b73, rv b105, uu, uu, uu, uu, uu, uu] [])) rfl (hb hby at_253) (by decide) (by decide)
  obtain ⟨b133, g133⟩ : ∃ z, z = T126.heap.size := ⟨_, rfl⟩
  rw [← g133] at A133 D133 st133
  have g_b133 : n0 ≤ b133 := (Nat.le_trans (Nat.le_trans (Nat.le_of_eq OL126.1.symm) OL126.2.1) (Nat.le_of_eq g133.symm))
  have OL133 := OL126.ext E133
  have F_modCount_b133 : Fld Z h133 b133 s25 s41 "I" (.int (0 : Int32)) := D133 (Or.inl (wd65 hw)) (ty := .int) (by decide)
  have F_elementData_b133 : Fld Z h133 b133 s26 s12 s8 .null := D133 (Or.inl (wd68 hw)) (ty := (.array (.object s20))) (by decide)
  have F_size_b133 : Fld Z h133 b133 s26 "size" "I" (.int (0 : Int32)) := D133 (Or.inl (wd92 hw)) (ty := .int) (by decide)
  obtain ⟨_, T134, L134, X134, hQ134, st134⟩ := own_cN X133 hx hZ39 hown39 hml (cw8 hw) (rm9_0 l Z a0 hw b133 w_DEFAULTCAPACITY_EMPTY_ELEMENTDATA h133 n0 OL133 A133 F_modCount_b133 g_b133 F_elementData_b133 F_size_b133 pr16) e133 b133 257 #[jv p1, sc, jv p2, sc, jv p3, sc, jv p4, sc, iv p5, iv p6, iv y2, rv b1, rv b2, iv y11, iv y13, iv y15, rv b37, rv b42, rv b73, rv b105, uu, uu, uu, uu, uu, uu] [] [(.ref b133)] 1 rfl (hb hby at_257) (by decide)
  obtain ⟨rfl, Nq134, K134, u134_0, u134_1, u134_2⟩ := hQ134
  have OL134 := OL133.keep K134 (allS g_b133 all0)
  have N134 := Fr.app N126 Nq134
  have pre135 : ∀ t, SS p e below T134 m 264 #[jv p1, sc, jv p2, sc, jv p3, sc, jv p4, sc, iv p5, iv p6, iv y2, rv b1, rv b2, iv y11, iv y13, iv y15, rv b37, rv b42, rv b73, rv b105, rv b133, uu, uu, uu, uu, uu] [(.int y15)] t → Steps p.tables e below (s₁.setTop (entryFrame m #[(.long p1), (.long p2), (.long p3), (.long p4), (.int p5), (.int p6)] maxLocals)) t := by
    intro t kt
    refine pre0 _ ?_
    refine xiload X0 hx hby at_0 rfl ?_
    show SS p e below s₁ m 2 #[jv p1, sc, jv p2, sc, jv p3, sc, jv p4, sc, iv p5, iv p6, uu, uu, uu, uu, uu, uu, uu, uu, uu, uu, uu, uu, uu, uu, uu, uu] [(.int p5)] _
    refine XS.bipush X0.here hx rfl (hb hby at_2) ?_
    refine XS.iand X0.here hx rfl (hb hby at_4) rfl ?_
    show SS p e below s₁ m 5 #[jv p1, sc, jv p2, sc, jv p3, sc, jv p4, sc, iv p5, iv p6, uu, uu, uu, uu, uu, uu, uu, uu, uu, uu, uu, uu, uu, uu, uu, uu] [(.int (p5 &&& (31 : Int32)))] _
    rw [pr1]
    refine XS.bipush X0.here hx rfl (hb hby at_5) ?_
    refine iremM X0 hx rfl (hb hby at_7) rfl (by decide) ?_
    show SS p e below s₁ m 8 #[jv p1, sc, jv p2, sc, jv p3, sc, jv p4, sc, iv p5, iv p6, uu, uu, uu, uu, uu, uu, uu, uu, uu, uu, uu, uu, uu, uu, uu, uu] [(.int (y1 % (25 : Int32)))] _
    rw [pr2]
    refine XS.istore X0.here hx rfl (hb hby at_8) rfl (l' := #[jv p1, sc, jv p2, sc, jv p3, sc, jv p4, sc, iv p5, iv p6, iv y2, uu, uu, uu, uu, uu, uu, uu, uu, uu, uu, uu, uu, uu, uu, uu]) rfl ?_
    refine XS.iconst X0.here hx rfl (hb hby at_10) ?_
    refine st1 _ ?_
    refine XS.astore X1.here hx rfl (hb hby at_13) rfl rfl (l' := #[jv p1, sc, jv p2, sc, jv p3, sc, jv p4, sc, iv p5, iv p6, iv y2, rv b1, uu, uu, uu, uu, uu, uu, uu, uu, uu, uu, uu, uu, uu, uu]) rfl ?_
    refine XS.iconst X1.here hx rfl (hb hby at_15) ?_
    refine st2 _ ?_
    show SS p e below T2 m 18 #[jv p1, sc, jv p2, sc, jv p3, sc, jv p4, sc, iv p5, iv p6, iv y2, rv b1, uu, uu, uu, uu, uu, uu, uu, uu, uu, uu, uu, uu, uu, uu] [(.ref b2)] _
    refine XS.astore X2.here hx rfl (hb hby at_18) rfl rfl (l' := #[jv p1, sc, jv p2, sc, jv p3, sc, jv p4, sc, iv p5, iv p6, iv y2, rv b1, rv b2, uu, uu, uu, uu, uu, uu, uu, uu, uu, uu, uu, uu, uu]) rfl ?_
    refine xaload X2 hx hby at_20 rfl rfl ?_
    refine XS.iconst X2.here hx rfl (hb hby at_22) ?_
    refine xlloadN X2 hx hby at_23 rfl ?_
    refine xiload X2 hx hby at_24 rfl ?_
    refine st3 _ ?_
    show SS p e below T3 m 29 #[jv p1, sc, jv p2, sc, jv p3, sc, jv p4, sc, iv p5, iv p6, iv y2, rv b1, rv b2, uu, uu, uu, uu, uu, uu, uu, uu, uu, uu, uu, uu, uu] [(.long ((own_jmin (((p1.toUInt64 >>> ((24 : Int32) &&& 0x3f).toInt64.toUInt64).toInt64) &&& (16777215 : Int64)) (p1 &&& (16777215 : Int64))) <<< (y2 &&& 0x3f).toInt64)), (.int (0 : Int32)), (.ref b1)] _
    rw [pr3]
    refine st6 _ ?_
    refine xaload X6 hx hby at_30 rfl rfl ?_
    refine XS.iconst X6.here hx rfl (hb hby at_32) ?_
    refine xlloadN X6 hx hby at_33 rfl ?_
    show SS p e below T6 m 34 #[jv p1, sc, jv p2, sc, jv p3, sc, jv p4, sc, iv p5, iv p6, iv y2, rv b1, rv b2, uu, uu, uu, uu, uu, uu, uu, uu, uu, uu, uu, uu, uu] [(.long p1), (.int (0 : Int32)), (.ref b2)] _
    refine xiload X6 hx hby at_34 rfl ?_
    refine st7 _ ?_
    show SS p e below T7 m 39 #[jv p1, sc, jv p2, sc, jv p3, sc, jv p4, sc, iv p5, iv p6, iv y2, rv b1, rv b2, uu, uu, uu, uu, uu, uu, uu, uu, uu, uu, uu, uu, uu] [(.long ((own_jmax (((p1.toUInt64 >>> ((24 : Int32) &&& 0x3f).toInt64.toUInt64).toInt64) &&& (16777215 : Int64)) (p1 &&& (16777215 : Int64))) <<< (y2 &&& 0x3f).toInt64)), (.int (0 : Int32)), (.ref b2)] _
    rw [pr4]
    refine st11 _ ?_
    refine xaload X11 hx hby at_40 rfl rfl ?_
    refine XS.iconst X11.here hx rfl (hb hby at_42) ?_
    refine xlloadN X11 hx hby at_43 rfl ?_
    refine xiload X11 hx hby at_44 rfl ?_
    refine st12 _ ?_
    show SS p e below T12 m 49 #[jv p1, sc, jv p2, sc, jv p3, sc, jv p4, sc, iv p5, iv p6, iv y2, rv b1, rv b2, uu, uu, uu, uu, uu, uu, uu, uu, uu, uu, uu, uu, uu] [(.long ((own_jmin (((p2.toUInt64 >>> ((24 : Int32) &&& 0x3f).toInt64.toUInt64).toInt64) &&& (16777215 : Int64)) (p2 &&& (16777215 : Int64))) <<< (y2 &&& 0x3f).toInt64)), (.int (1 : Int32)), (.ref b1)] _
    rw [pr5]
    refine st15 _ ?_
    refine xaload X15 hx hby at_50 rfl rfl ?_
    show SS p e below T15 m 52 #[jv p1, sc, jv p2, sc, jv p3, sc, jv p4, sc, iv p5, iv p6, iv y2, rv b1, rv b2, uu, uu, uu, uu, uu, uu, uu, uu, uu, uu, uu, uu, uu] [(.ref b2)] _
    refine XS.iconst X15.here hx rfl (hb hby at_52) ?_
    refine xlloadN X15 hx hby at_53 rfl ?_
    refine xiload X15 hx hby at_54 rfl ?_
    refine st16 _ ?_
    show SS p e below T16 m 59 #[jv p1, sc, jv p2, sc, jv p3, sc, jv p4, sc, iv p5, iv p6, iv y2, rv b1, rv b2, uu, uu, uu, uu, uu, uu, uu, uu, uu, uu, uu, uu, uu] [(.long ((own_jmax (((p2.toUInt64 >>> ((24 : Int32) &&& 0x3f).toInt64.toUInt64).toInt64) &&& (16777215 : Int64)) (p2 &&& (16777215 : Int64))) <<< (y2 &&& 0x3f).toInt64)), (.int (1 : Int32)), (.ref b2)] _
    rw [pr6]
    refine st19 _ ?_
    refine xaload X19 hx hby at_60 rfl rfl ?_
    refine XS.iconst X19.here hx rfl (hb hby at_62) ?_
    refine xlload X19 hx hby at_63 rfl ?_
    refine xiload X19 hx hby at_65 rfl ?_
    refine st20 _ ?_
    show SS p e below T20 m 70 #[jv p1, sc, jv p2, sc, jv p3, sc, jv p4, sc, iv p5, iv p6, iv y2, rv b1, rv b2, uu, uu, uu, uu, uu, uu, uu, uu, uu, uu, uu, uu, uu] [(.long ((own_jmin (((p3.toUInt64 >>> ((24 : Int32) &&& 0x3f).toInt64.toUInt64).toInt64) &&& (16777215 : Int64)) (p3 &&& (16777215 : Int64))) <<< (y2 &&& 0x3f).toInt64)), (.int (2 : Int32)), (.ref b1)] _
    rw [pr7]
    show SS p e below T20 m 70 #[jv p1, sc, jv p2, sc, jv p3, sc, jv p4, sc, iv p5, iv p6, iv y2, rv b1, rv b2, uu, uu, uu, uu, uu, uu, uu, uu, uu, uu, uu, uu, uu] [(.long y7), (.int (2 : Int32)), (.ref b1)] _
    refine st23 _ ?_
    refine xaload X23 hx hby at_71 rfl rfl ?_
    refine XS.iconst X23.here hx rfl (hb hby at_73) ?_
    refine xlload X23 hx hby at_74 rfl ?_
    refine xiload X23 hx hby at_76 rfl ?_
    refine st24 _ ?_
    show SS p e below T24 m 81 #[jv p1, sc, jv p2, sc, jv p3, sc, jv p4, sc, iv p5, iv p6, iv y2, rv b1, rv b2, uu, uu, uu, uu, uu, uu, uu, uu, uu, uu, uu, uu, uu] [(.long ((own_jmax (((p3.toUInt64 >>> ((24 : Int32) &&& 0x3f).toInt64.toUInt64).toInt64) &&& (16777215 : Int64)) (p3 &&& (16777215 : Int64))) <<< (y2 &&& 0x3f).toInt64)), (.int (2 : Int32)), (.ref b2)] _
    rw [pr8]
    refine st27 _ ?_
    refine xaload X27 hx hby at_82 rfl rfl ?_
    refine XS.iconst X27.here hx rfl (hb hby at_84) ?_
    refine xlload X27 hx hby at_85 rfl ?_
    show SS p e below T27 m 87 #[jv p1, sc, jv p2, sc, jv p3, sc, jv p4, sc, iv p5, iv p6, iv y2, rv b1, rv b2, uu, uu, uu, uu, uu, uu, uu, uu, uu, uu, uu, uu, uu] [(.long p4), (.int (3 : Int32)), (.ref b1)] _
    refine xiload X27 hx hby at_87 rfl ?_
    refine st28 _ ?_
    show SS p e below T28 m 92 #[jv p1, sc, jv p2, sc, jv p3, sc, jv p4, sc, iv p5, iv p6, iv y2, rv b1, rv b2, uu, uu, uu, uu, uu, uu, uu, uu, uu, uu, uu, uu, uu] [(.long ((own_jmin (((p4.toUInt64 >>> ((24 : Int32) &&& 0x3f).toInt64.toUInt64).toInt64) &&& (16777215 : Int64)) (p4 &&& (16777215 : Int64))) <<< (y2 &&& 0x3f).toInt64)), (.int (3 : Int32)), (.ref b1)] _
    rw [pr9]
    refine st31 _ ?_
    refine xaload X31 hx hby at_93 rfl rfl ?_
    refine XS.iconst X31.here hx rfl (hb hby at_95) ?_
    refine xlload X31 hx hby at_96 rfl ?_
    refine xiload X31 hx hby at_98 rfl ?_
    refine st32 _ ?_
    show SS p e below T32 m 103 #[jv p1, sc, jv p2, sc, jv p3, sc, jv p4, sc, iv p5, iv p6, iv y2, rv b1, rv b2, uu, uu, uu, uu, uu, uu, uu, uu, uu, uu, uu, uu, uu] [(.long ((own_jmax (((p4.toUInt64 >>> ((24 : Int32) &&& 0x3f).toInt64.toUInt64).toInt64) &&& (16777215 : Int64)) (p4 &&& (16777215 : Int64))) <<< (y2 &&& 0x3f).toInt64)), (.int (3 : Int32)), (.ref b2)] _
    rw [pr10]
    refine st35 _ ?_
    refine xiload X35 hx hby at_104 rfl ?_
    show SS p e below T35 m 106 #[jv p1, sc, jv p2, sc, jv p3, sc, jv p4, sc, iv p5, iv p6, iv y2, rv b1, rv b2, uu, uu, uu, uu, uu, uu, uu, uu, uu, uu, uu, uu, uu] [(.int p6)] _
    refine XS.iconst X35.here hx rfl (hb hby at_106) ?_
    refine XS.iand X35.here hx rfl (hb hby at_107) rfl ?_
    show SS p e below T35 m 108 #[jv p1, sc, jv p2, sc, jv p3, sc, jv p4, sc, iv p5, iv p6, iv y2, rv b1, rv b2, uu, uu, uu, uu, uu, uu, uu, uu, uu, uu, uu, uu, uu] [(.int (p6 &&& (1 : Int32)))] _
    rw [pr11]
    refine XS.istore X35.here hx rfl (hb hby at_108) rfl (l' := #[jv p1, sc, jv p2, sc, jv p3, sc, jv p4, sc, iv p5, iv p6, iv y2, rv b1, rv b2, iv y11, uu, uu, uu, uu, uu, uu, uu, uu, uu, uu, uu, uu]) rfl ?_
    refine xiload X35 hx hby at_110 rfl ?_
    refine XS.iconst X35.here hx rfl (hb hby at_112) ?_
    refine XS.iushr X35.here hx rfl (hb hby at_113) rfl ?_
    show SS p e below T35 m 114 #[jv p1, sc, jv p2, sc, jv p3, sc, jv p4, sc, iv p5, iv p6, iv y2, rv b1, rv b2, iv y11, uu, uu, uu, uu, uu, uu, uu, uu, uu, uu, uu, uu] [(.int ((p6.toUInt32 >>> ((1 : Int32) &&& 31).toUInt32).toInt32))] _
    rw [pr12]
    refine XS.iconst X35.here hx rfl (hb hby at_114) ?_
    refine XS.iand X35.here hx rfl (hb hby at_115) rfl ?_
    show SS p e below T35 m 116 #[jv p1, sc, jv p2, sc, jv p3, sc, jv p4, sc, iv p5, iv p6, iv y2, rv b1, rv b2, iv y11, uu, uu, uu, uu, uu, uu, uu, uu, uu, uu, uu, uu] [(.int (y12 &&& (1 : Int32)))] _
    rw [pr13]
    refine XS.istore X35.here hx rfl (hb hby at_116) rfl (l' := #[jv p1, sc, jv p2, sc, jv p3, sc, jv p4, sc, iv p5, iv p6, iv y2, rv b1, rv b2, iv y11, iv y13, uu, uu, uu, uu, uu, uu, uu, uu, uu, uu, uu]) rfl ?_
    refine xiload X35 hx hby at_118 rfl ?_
    show SS p e below T35 m 120 #[jv p1, sc, jv p2, sc, jv p3, sc, jv p4, sc, iv p5, iv p6, iv y2, rv b1, rv b2, iv y11, iv y13, uu, uu, uu, uu, uu, uu, uu, uu, uu, uu, uu] [(.int p6)] _
    refine XS.iconst X35.here hx rfl (hb hby at_120) ?_
    refine XS.iand X35.here hx rfl (hb hby at_121) rfl ?_
    show SS p e below T35 m 122 #[jv p1, sc, jv p2, sc, jv p3, sc, jv p4, sc, iv p5, iv p6, iv y2, rv b1, rv b2, iv y11, iv y13, uu, uu, uu, uu, uu, uu, uu, uu, uu, uu, uu] [(.int (p6 &&& (4 : Int32)))] _
    rw [pr14]
    show SS p e below T35 m 122 #[jv p1, sc, jv p2, sc, jv p3, sc, jv p4, sc, iv p5, iv p6, iv y2, rv b1, rv b2, iv y11, iv y13, uu, uu, uu, uu, uu, uu, uu, uu, uu, uu, uu] [(.int y14)] _
    refine dia36 _ ?_
    show SS p e below T35 m 130 #[jv p1, sc, jv p2, sc, jv p3, sc, jv p4, sc, iv p5, iv p6, iv y2, rv b1, rv b2, iv y11, iv y13, uu, uu, uu, uu, uu, uu, uu, uu, uu, uu, uu] [(.int (own_bl y14))] _
    rw [pr15]
    refine XS.istore X35.here hx rfl (hb hby at_130) rfl (l' := #[jv p1, sc, jv p2, sc, jv p3, sc, jv p4, sc, iv p5, iv p6, iv y2, rv b1, rv b2, iv y11, iv y13, iv y15, uu, uu, uu, uu, uu, uu, uu, uu, uu, uu]) rfl ?_
    refine st37 _ ?_
    refine XS.dup X37.here hx rfl (hb hby at_135) rfl rfl ?_
    refine st38 _ ?_
    refine st39.trans ?_
    refine XS.astore X39.here hx rfl (hb hby at_141) rfl rfl (l' := #[jv p1, sc, jv p2, sc, jv p3, sc, jv p4, sc, iv p5, iv p6, iv y2, rv b1, rv b2, iv y11, iv y13, iv y15, rv b37, uu, uu, uu, uu, uu, uu, uu, uu, uu]) rfl ?_
    refine st42 _ ?_
    refine XS.dup X42.here hx rfl (hb hby at_146) rfl rfl ?_
    show SS p e below T42 m 147 #[jv p1, sc, jv p2, sc, jv p3, sc, jv p4, sc, iv p5, iv p6, iv y2, rv b1, rv b2, iv y11, iv y13, iv y15, rv b37, uu, uu, uu, uu, uu, uu, uu, uu, uu] [(.ref b42), (.ref b42)] _
    refine st43 _ ?_
    refine XS.astore X43.here hx rfl (hb hby at_150) rfl rfl (l' := #[jv p1, sc, jv p2, sc, jv p3, sc, jv p4, sc, iv p5, iv p6, iv y2, rv b1, rv b2, iv y11, iv y13, iv y15, rv b37, rv b42, uu, uu, uu, uu, uu, uu, uu, uu]) rfl ?_
    refine xaload X43 hx hby at_152 rfl rfl ?_
    refine xaload X43 hx hby at_154 rfl rfl ?_
    refine XS.iconst X43.here hx rfl (hb hby at_156) ?_
    refine own_laJ X43 hx hZ39 rfl fc48 (v := (.long y3)) (by decide) rfl (hb hby at_157) ?_
    refine xaload X43 hx hby at_158 rfl rfl ?_
    refine XS.iconst X43.here hx rfl (hb hby at_160) ?_
    refine own_laJ X43 hx hZ39 rfl fc53 (v := (.long y4)) (by decide) rfl (hb hby at_161) ?_
    refine st55 _ ?_
    show SS p e below T55 m 165 #[jv p1, sc, jv p2, sc, jv p3, sc, jv p4, sc, iv p5, iv p6, iv y2, rv b1, rv b2, iv y11, iv y13, iv y15, rv b37, rv b42, uu, uu, uu, uu, uu, uu, uu, uu] [(.ref b55_0), (.ref b42)] _
    refine st56 _ ?_
    refine XS.pop X56.here hx rfl (hb hby at_168) rfl rfl ?_
    refine xaload X56 hx hby at_169 rfl rfl ?_
    refine xaload X56 hx hby at_171 rfl rfl ?_
    refine XS.iconst X56.here hx rfl (hb hby at_173) ?_
    refine own_laJ X56 hx hZ39 rfl fc61 (v := (.long y5)) (by decide) rfl (hb hby at_174) ?_
    refine xaload X56 hx hby at_175 rfl rfl ?_
    refine XS.iconst X56.here hx rfl (hb hby at_177) ?_
    refine own_laJ X56 hx hZ39 rfl fc63 (v := (.long y6)) (by decide) rfl (hb hby at_178) ?_
    refine st65 _ ?_
    show SS p e below T65 m 182 #[jv p1, sc, jv p2, sc, jv p3, sc, jv p4, sc, iv p5, iv p6, iv y2, rv b1, rv b2, iv y11, iv y13, iv y15, rv b37, rv b42, uu, uu, uu, uu, uu, uu, uu, uu] [(.ref b65_0), (.ref b42)] _
    refine st66 _ ?_
    refine XS.pop X66.here hx rfl (hb hby at_185) rfl rfl ?_
    refine st73 _ ?_
    refine XS.dup X73.here hx rfl (hb hby at_189) rfl rfl ?_
    refine st74 _ ?_
    refine XS.astore X74.here hx rfl (hb hby at_193) rfl rfl (l' := #[jv p1, sc, jv p2, sc, jv p3, sc, jv p4, sc, iv p5, iv p6, iv y2, rv b1, rv b2, iv y11, iv y13, iv y15, rv b37, rv b42, rv b73, uu, uu, uu, uu, uu, uu, uu]) rfl ?_
    refine xaload X74 hx hby at_195 rfl rfl ?_
    refine xaload X74 hx hby at_197 rfl rfl ?_
    refine XS.iconst X74.here hx rfl (hb hby at_199) ?_
    refine own_laJ X74 hx hZ39 rfl fc79 (v := (.long y7)) (by decide) rfl (hb hby at_200) ?_
    show SS p e below T74 m 201 #[jv p1, sc, jv p2, sc, jv p3, sc, jv p4, sc, iv p5, iv p6, iv y2, rv b1, rv b2, iv y11, iv y13, iv y15, rv b37, rv b42, rv b73, uu, uu, uu, uu, uu, uu, uu] [(.long y7), (.ref b73)] _
    refine xaload X74 hx hby at_201 rfl rfl ?_
    refine XS.iconst X74.here hx rfl (hb hby at_203) ?_
    refine own_laJ X74 hx hZ39 rfl fc85 (v := (.long y8)) (by decide) rfl (hb hby at_204) ?_
    refine st87 _ ?_
    refine st88 _ ?_
    refine XS.pop X88.here hx rfl (hb hby at_211) rfl rfl ?_
    refine xaload X88 hx hby at_212 rfl rfl ?_
    refine xaload X88 hx hby at_214 rfl rfl ?_
    refine XS.iconst X88.here hx rfl (hb hby at_216) ?_
    refine own_laJ X88 hx hZ39 rfl fc93 (v := (.long y9)) (by decide) rfl (hb hby at_217) ?_
    show SS p e below T88 m 218 #[jv p1, sc, jv p2, sc, jv p3, sc, jv p4, sc, iv p5, iv p6, iv y2, rv b1, rv b2, iv y11, iv y13, iv y15, rv b37, rv b42, rv b73, uu, uu, uu, uu, uu, uu, uu] [(.long y9), (.ref b73)] _
    refine xaload X88 hx hby at_218 rfl rfl ?_
    refine XS.iconst X88.here hx rfl (hb hby at_220) ?_
    refine own_laJ X88 hx hZ39 rfl fc95 (v := (.long y10)) (by decide) rfl (hb hby at_221) ?_
    refine st97 _ ?_
    refine st98 _ ?_
    refine XS.pop X98.here hx rfl (hb hby at_228) rfl rfl ?_
    refine st105 _ ?_
    refine XS.dup X105.here hx rfl (hb hby at_232) rfl rfl ?_
    refine st106 _ ?_
    refine XS.astore X106.here hx rfl (hb hby at_236) rfl rfl (l' := #[jv p1, sc, jv p2, sc, jv p3, sc, jv p4, sc, iv p5, iv p6, iv y2, rv b1, rv b2, iv y11, iv y13, iv y15, rv b37, rv b42, rv b73, rv b105, uu, uu, uu, uu, uu, uu]) rfl ?_
    show SS p e below T106 m 238 #[jv p1, sc, jv p2, sc, jv p3, sc, jv p4, sc, iv p5, iv p6, iv y2, rv b1, rv b2, iv y11, iv y13, iv y15, rv b37, rv b42, rv b73, rv b105, uu, uu, uu, uu, uu, uu] [] _
    refine xaload X106 hx hby at_238 rfl rfl ?_
    refine st107 _ ?_
    refine XS.dup X107.here hx rfl (hb hby at_243) rfl rfl ?_
    refine xaload X107 hx hby at_244 rfl rfl ?_
    refine st108 _ ?_
    refine st126 _ ?_
    refine XS.pop X126.here hx rfl (hb hby at_252) rfl rfl ?_
    refine st133 _ ?_
    refine XS.dup X133.here hx rfl (hb hby at_256) rfl rfl ?_
    refine st134 _ ?_
    show SS p e below T134 m 260 #[jv p1, sc, jv p2, sc, jv p3, sc, jv p4, sc, iv p5, iv p6, iv y2, rv b1, rv b2, iv y11, iv y13, iv y15, rv b37, rv b42, rv b73, rv b105, uu, uu, uu, uu, uu, uu] [(.ref b133)] _
    refine XS.astore X134.here hx rfl (hb hby at_260) rfl rfl (l' := #[jv p1, sc, jv p2, sc, jv p3, sc, jv p4, sc, iv p5, iv p6, iv y2, rv b1, rv b2, iv y11, iv y13, iv y15, rv b37, rv b42, rv b73, rv b105, rv b133, uu, uu, uu, uu, uu]) rfl ?_
    refine xiload X134 hx hby at_262 rfl ?_
    exact kt
  by_cases hf135 : y15 = (0 : Int32)
  · obtain ⟨T136, h136, X136, e136, E136, A136, D136, -, st136⟩ := newO X134 hx hZ39 hown39 (wd114 hw) (wd115 hw) (wd116 hw) rfl (g := (mkF m 269 #[jv p1, sc, jv p2, sc, jv p3, sc, jv p4, sc, iv p5, iv p6, iv y2, rv b1, rv b2, iv y11, iv y13, iv y15, rv b37, rv b42, rv b73, rv b105, rv b133, uu, uu, uu, uu, uu] [(.ref b133)])) rfl (hb hby at_269) (by decide) (by decide)
    obtain ⟨b136, g136⟩ : ∃ z, z = T134.heap.size := ⟨_, rfl⟩
    rw [← g136] at A136 D136 st136
    have g_b136 : n0 ≤ b136 := (Nat.le_trans (Nat.le_trans (Nat.le_of_eq OL134.1.symm) OL134.2.1) (Nat.le_of_eq g136.symm))
    have OL136 := OL134.ext E136
    have F_sets_b136 : Fld Z h136 b136 s45 "sets" s6 .null := D136 (Or.inr (wd206 hw)) (ty := (.object s37)) (by decide)
    have fc138 := (((((((((fc100.keep K98).ext E105).keep K106).ext E107).keep K108).keep K126).ext E133).keep K134).ext E136)
    have nz139 := (nl u98_2.lt (Nat.le_of_eq g105.symm))
    have lz140 := (lq (lq u98_2.lt E105.1) K106.1)
    have nz141 := (nl lz140 (Nat.le_of_eq g107.symm))
    have lz142 := (lq (lq (lq lz140 E107.1) K108.1) K126.1)
    have nz143 := (nl lz142 (Nat.le_of_eq g133.symm))
    have fc144 := ((((((((u98_2.ext E105).keep K106 (ninS nz139 nin0)).ext E107).keep K108 (ninS nz141 nin0)).keep K126 (ninS nz139 nin0)).ext E133).keep K134 (ninS nz143 nin0)).ext E136)
    have fc145 := ((((((((u98_1.ext E105).keep K106 (ninS nz139 nin0)).ext E107).keep K108 (ninS nz141 nin0)).keep K126 (ninS nz139 nin0)).ext E133).keep K134 (ninS nz143 nin0)).ext E136)
    have fc146 := ((((((((((u88_6.keep K97).keep K98).ext E105).keep K106).ext E107).keep K108).keep K126).ext E133).keep K134).ext E136)
    have nz147 := (nl u98_3.lt (Nat.le_of_eq g105.symm))
    have lz148 := (lq (lq u98_3.lt E105.1) K106.1)
    have nz149 := (nl lz148 (Nat.le_of_eq g107.symm))
    have lz150 := (lq (lq (lq lz148 E107.1) K108.1) K126.1)
    have nz151 := (nl lz150 (Nat.le_of_eq g133.symm))
    have fc152 := ((((((((u98_3.ext E105).keep K106 (ninS nz147 nin0)).ext E107).keep K108 (ninS nz149 nin0)).keep K126 (ninS nz147 nin0)).ext E133).keep K134 (ninS nz151 nin0)).ext E136)
    have fc153 := (((((((((u97_6.keep K98).ext E105).keep K106).ext E107).keep K108).keep K126).ext E133).keep K134).ext E136)
    have fc154 := (((((((((((u87_6.keep K88).keep K97).keep K98).ext E105).keep K106).ext E107).keep K108).keep K126).ext E133).keep K134).ext E136)
    obtain ⟨_, T137, L137, X137, hQ137, st137⟩ := own_cN X136 hx hZ39 hown39 hml (cw30 hw) (rm19_0 l Z a0 hw b136 b73 b88_0 mir_objs b87_0 b97_0 kx88_0 h136 n0 OL136 fc138 fc144 fc145 pr30 fc146 fc152 fc153 fc154 A136 F_sets_b136 g_b136) e136 b136 275 #[jv p1, sc, jv p2, sc, jv p3, sc, jv p4, sc, iv p5, iv p6, iv y2, rv b1, rv b2, iv y11, iv y13, iv y15, rv b37, rv b42, rv b73, rv b105, rv b133, uu, uu, uu, uu, uu] [(.ref b73)] [(.ref b136), (.ref b133)] 2 rfl (hb hby at_275) (by decide)
    obtain ⟨b137_0, rfl, Nq137, K137, u137_0, u137_1, u137_2, u137_3, u137_4⟩ := hQ137
    have OL137 := OL136.keep K137 (allS g_b136 all0)
    have N137 := Fr.app N134 Nq137
    have nz156 := (nl u134_2.lt (Nat.le_of_eq g136.symm))
    have fc157 := ((u134_0.ext E136).keep K137 (ninS nz156 nin0))
    have fc158 := (((A133.keep K134).ext E136).keep K137)
    have fc159 := ((u134_1.ext E136).keep K137 (ninS nz156 nin0))
    have fc160 := ((u134_2.ext E136).keep K137 (ninS nz156 nin0))
    have fc161 := (A136.keep K137)
    obtain ⟨_, T155, L155, X155, hQ155, st155⟩ := own_cV X137 hx hZ39 hown39 hml (cw15 hw) (rm14_2 l Z a0 hw b133 b136 w_DEFAULTCAPACITY_EMPTY_ELEMENTDATA k_w_DEFAULTCAPACITY_EMPTY_ELEMENTDATA T137.heap n0 OL137 fc157 fc158 g_b133 fc159 fc160 pr20 pr16 fc161) rfl fc158 278 #[jv p1, sc, jv p2, sc, jv p3, sc, jv p4, sc, iv p5, iv p6, iv y2, rv b1, rv b2, iv y11, iv y13, iv y15, rv b37, rv b42, rv b73, rv b105, rv b133, uu, uu, uu, uu, uu] [(.ref b136)] [] 0 rfl (hb hby at_278) (by decide)
    obtain ⟨b155_0, kx155_0, rfl, Nq155, K155, u155_0, u155_1, u155_2, u155_3, u155_4, u155_5, u155_6⟩ := hQ155
    have OL155 := OL137.keep K155 (allS g_b133 all0)
    have N155 := Fr.app N137 Nq155
    obtain ⟨T162, h162, X162, e162, E162, A162, D162, -, st162⟩ := newO X155 hx hZ39 hown39 (wd45 hw) (wd46 hw) (wd47 hw) rfl (g := (mkF m 282 #[jv p1, sc, jv p2, sc, jv p3, sc, jv p4, sc, iv p5, iv p6, iv y2, rv b1, rv b2, iv y11, iv y13, iv y15, rv b37, rv b42, rv b73, rv b105, rv b133, uu, uu, uu, uu, uu] [])) rfl (hb hby at_282) (by decide) (by decide)
    obtain ⟨b162, g162⟩ : ∃ z, z = T155.heap.size := ⟨_, rfl⟩
    rw [← g162] at A162 D162 st162
    have g_b162 : n0 ≤ b162 := (Nat.le_trans (Nat.le_trans (Nat.le_of_eq OL155.1.symm) OL155.2.1) (Nat.le_of_eq g162.symm))
    have OL162 := OL155.ext E162
    have F_modCount_b162 : Fld Z h162 b162 s25 s41 "I" (.int (0 : Int32)) := D162 (Or.inl (wd65 hw)) (ty := .int) (by decide)
    have F_elementData_b162 : Fld Z h162 b162 s26 s12 s8 .null := D162 (Or.inl (wd68 hw)) (ty := (.array (.object s20))) (by decide)
    have F_size_b162 : Fld Z h162 b162 s26 "size" "I" (.int (0 : Int32)) := D162 (Or.inl (wd92 hw)) (ty := .int) (by decide)
    obtain ⟨_, T163, L163, X163, hQ163, st163⟩ := own_cN X162 hx hZ39 hown39 hml (cw8 hw) (rm9_0 l Z a0 hw b162 w_DEFAULTCAPACITY_EMPTY_ELEMENTDATA h162 n0 OL162 A162 F_modCount_b162 g_b162 F_elementData_b162 F_size_b162 pr16) e162 b162 286 #[jv p1, sc, jv p2, sc, jv p3, sc, jv p4, sc, iv p5, iv p6, iv y2, rv b1, rv b2, iv y11, iv y13, iv y15, rv b37, rv b42, rv b73, rv b105, rv b133, uu, uu, uu, uu, uu] [] [(.ref b162)] 1 rfl (hb hby at_286) (by decide)
    obtain ⟨rfl, Nq163, K163, u163_0, u163_1, u163_2⟩ := hQ163
    have OL163 := OL162.keep K163 (allS g_b162 all0)
    have N163 := Fr.app N155 Nq163
    obtain ⟨T164, h164, X164, e164, E164, A164, D164, -, st164⟩ := newO X163 hx hZ39 hown39 (wd208 hw) (wd209 hw) (wd210 hw) rfl (g := (mkF m 293 #[jv p1, sc, jv p2, sc, jv p3, sc, jv p4, sc, iv p5, iv p6, iv y2, rv b1, rv b2, iv y11, iv y13, iv y15, rv b37, rv b42, rv b73, rv b105, rv b133, rv b162, uu, uu, uu, uu] [(.ref b162)])) rfl (hb hby at_293) (by decide) (by decide)
    obtain ⟨b164, g164⟩ : ∃ z, z = T163.heap.size := ⟨_, rfl⟩
    rw [← g164] at A164 D164 st164
    have g_b164 : n0 ≤ b164 := (Nat.le_trans (Nat.le_trans (Nat.le_of_eq OL163.1.symm) OL163.2.1) (Nat.le_of_eq g164.symm))
    have OL164 := OL163.ext E164
    have F_decision_b164 : Fld Z h164 b164 s47 s11 s7 .null := D164 (Or.inr (wd240 hw)) (ty := (.object s39)) (by decide)
    have F_match_b164 : Fld Z h164 b164 s47 "match" s6 .null := D164 (Or.inr (wd242 hw)) (ty := (.object s37)) (by decide)
    have F_exact_b164 : Fld Z h164 b164 s47 "exact" "Z" (.int (0 : Int32)) := D164 (Or.inr (wd244 hw)) (ty := .boolean) (by decide)
    have fc166 := (((((((((fc129.keep K126).ext E133).keep K134).ext E136).keep K137).keep K155).ext E162).keep K163).ext E164)
    have nz167 := (nl u126_3.lt (Nat.le_of_eq g133.symm))
    have lz168 := (lq (lq u126_3.lt E133.1) K134.1)
    have nz169 := (nl lz168 (Nat.le_of_eq g136.symm))
    have lz170 := (lq (lq (lq lz168 E136.1) K137.1) K155.1)
    have nz171 := (nl lz170 (Nat.le_of_eq g162.symm))
    have fc172 := ((((((((u126_3.ext E133).keep K134 (ninS nz167 nin0)).ext E136).keep K137 (ninS nz169 nin0)).keep K155 (ninS nz167 nin0)).ext E162).keep K163 (ninS nz171 nin0)).ext E164)
    have fc173 := ((((((((u126_2.ext E133).keep K134 (ninS nz167 nin0)).ext E136).keep K137 (ninS nz169 nin0)).keep K155 (ninS nz167 nin0)).ext E162).keep K163 (ninS nz171 nin0)).ext E164)
    have fc174 := ((((((((u126_6.ext E133).keep K134).ext E136).keep K137).keep K155).ext E162).keep K163).ext E164)
    have nz175 := (nl u126_6.lt (Nat.le_of_eq g133.symm))
    have lz176 := (lq (lq u126_6.lt E133.1) K134.1)
    have nz177 := (nl lz176 (Nat.le_of_eq g136.symm))
    have lz178 := (lq (lq (lq lz176 E136.1) K137.1) K155.1)
    have nz179 := (nl lz178 (Nat.le_of_eq g162.symm))
    have fc180 := ((((((((u126_4.ext E133).keep K134 (ninS nz175 nin0)).ext E136).keep K137 (ninS nz177 nin0)).keep K155 (ninS nz175 nin0)).ext E162).keep K163 (ninS nz179 nin0)).ext E164)
    have fc181 := (((((((((fc132.keep K126).ext E133).keep K134).ext E136).keep K137).keep K155).ext E162).keep K163).ext E164)
    obtain ⟨_, _, ⟨T165, L165, k165, n165⟩, -, Xa165, hSi165, hgr165, ⟨Lc165, hQ165, l165, y165, z165⟩, st165⟩ := X164.specialBackS hx (y := mn32) rfl hown39 (mvT hZ39 (wd211 hw)) (mvT hZ39 (wd212 hw)) (mvT hZ39 (wd213 hw)) (by decide) (backOfS (W := 2) (rm32_0 l Z a0 hw [] b164 b37 b105 b126_0 mir_objs b107 kx126_0 w_EMPTY h164 n0 OL164 fc166 fc172 fc173 pr30 fc174 fc180 fc181 pr31 A164 F_decision_b164 g_b164 F_match_b164 F_exact_b164) hZ39 (wd213 hw) (wd210 hw) (by decide) (by decide)) (g := (mkF m 301 #[jv p1, sc, jv p2, sc, jv p3, sc, jv p4, sc, iv p5, iv p6, iv y2, rv b1, rv b2, iv y11, iv y13, iv y15, rv b37, rv b42, rv b73, rv b105, rv b133, rv b162, uu, uu, uu, uu] [(.ref b105), (.ref b37), (.ref b164), (.ref b164), (.ref b162)])) rfl (by rw [hml]; rfl) (Steps.refl _) (a := b164) (argsL := [(.ref b37), (.ref b105)]) (rest := [(.ref b164), (.ref b162)]) (lenOf pd_23 rfl) rfl (by show 2 * 0 + _ ≤ _; exact Nat.le_of_eq rfl) (hb hby at_301) (fun _ _ => ⟨rfl, e164, (by decide : 35 + 5 ≤ _), (by decide : 121 + 40 ≤ _)⟩)
    dsimp only [Pt.U, Pt.locs, Pt.cells, Pt.slots] at Xa165 l165 y165 z165 st165 hQ165 hSi165 hgr165
    have Xb165 := own_sub Xa165 l165 y165 z165
    obtain ⟨X165, hS165, hZ165, hown165⟩ := rebS (s := s) (vm0 := T39.vm) hS39 (n1 := T164.heap.size) (by rw [e164]; exact (Nat.le_trans (Nat.le_trans (Nat.le_trans (Nat.le_trans (Nat.le_trans (Nat.le_trans (Nat.le_trans (Nat.le_trans (Nat.le_trans (Nat.le_trans (Nat.le_trans (Nat.le_trans (Nat.le_trans (Nat.le_trans (Nat.le_trans (Nat.le_trans (Nat.le_trans (Nat.le_trans (Nat.le_trans (Nat.le_trans (Nat.le_trans (Nat.le_trans (Nat.le_trans (Nat.le_trans (Nat.le_trans (Nat.le_refl _) E42.1) K43.1) K55.1) K56.1) K65.1) K66.1) E73.1) K74.1) K87.1) K88.1) K97.1) K98.1) E105.1) K106.1) E107.1) K108.1) K126.1) E133.1) K134.1) E136.1) K137.1) K155.1) E162.1) K163.1) E164.1)) Xb165 hSi165 hgr165 hZ39 hown39
    obtain ⟨b165_0, b165_1, rfl, Nq165, K165, u165_0, u165_1, u165_2, u165_3, u165_4, u165_5, u165_6, u165_7, u165_8, u165_9, u165_10⟩ := hQ165
    have OL165 := OL164.keep K165 (allS g_b164 all0)
    have N165 := Fr.app N163 Nq165
    have nz183 := (nl u163_2.lt (Nat.le_of_eq g164.symm))
    have fc184 := ((u163_0.ext E164).keep K165 (ninS nz183 nin0))
    have fc185 := (((A162.keep K163).ext E164).keep K165)
    have fc186 := ((u163_1.ext E164).keep K165 (ninS nz183 nin0))
    have fc187 := ((u163_2.ext E164).keep K165 (ninS nz183 nin0))
    have fc188 := (A164.keep K165)
    obtain ⟨_, T182, L182, X182, hQ182, st182⟩ := own_cV X165 hx hZ165 hown165 hml (cw15 hw) (rm14_3 l Z a0 hw b162 b164 w_DEFAULTCAPACITY_EMPTY_ELEMENTDATA k_w_DEFAULTCAPACITY_EMPTY_ELEMENTDATA T165.heap n0 OL165 fc184 fc185 g_b162 fc186 fc187 pr20 pr16 fc188) rfl fc185 304 #[jv p1, sc, jv p2, sc, jv p3, sc, jv p4, sc, iv p5, iv p6, iv y2, rv b1, rv b2, iv y11, iv y13, iv y15, rv b37, rv b42, rv b73, rv b105, rv b133, rv b162, uu, uu, uu, uu] [(.ref b164)] [] 0 rfl (hb hby at_304) (by decide)
    obtain ⟨b182_0, kx182_0, rfl, Nq182, K182, u182_0, u182_1, u182_2, u182_3, u182_4, u182_5, u182_6⟩ := hQ182
    have OL182 := OL165.keep K182 (allS g_b162 all0)
    have g_b182_0 : n0 ≤ b182_0 := Nat.le_trans (Nat.le_trans (Nat.le_of_eq OL165.1.symm) OL165.2.1) u182_0
    have N182 := Fr.app N165 Nq182
    obtain ⟨T189, h189, X189, e189, E189, A189, D189, -, st189⟩ := newO X182 hx hZ165 hown165 (wd208 hw) (wd209 hw) (wd210 hw) rfl (g := (mkF m 310 #[jv p1, sc, jv p2, sc, jv p3, sc, jv p4, sc, iv p5, iv p6, iv y2, rv b1, rv b2, iv y11, iv y13, iv y15, rv b37, rv b42, rv b73, rv b105, rv b133, rv b162, uu, uu, uu, uu] [(.ref b162)])) rfl (hb hby at_310) (by decide) (by decide)
    obtain ⟨b189, g189⟩ : ∃ z, z = T182.heap.size := ⟨_, rfl⟩
    rw [← g189] at A189 D189 st189
    have g_b189 : n0 ≤ b189 := (Nat.le_trans (Nat.le_trans (Nat.le_of_eq OL182.1.symm) OL182.2.1) (Nat.le_of_eq g189.symm))
    have OL189 := OL182.ext E189
    have F_decision_b189 : Fld Z h189 b189 s47 s11 s7 .null := D189 (Or.inr (wd240 hw)) (ty := (.object s39)) (by decide)
    have F_match_b189 : Fld Z h189 b189 s47 "match" s6 .null := D189 (Or.inr (wd242 hw)) (ty := (.object s37)) (by decide)
    have F_exact_b189 : Fld Z h189 b189 s47 "exact" "Z" (.int (0 : Int32)) := D189 (Or.inr (wd244 hw)) (ty := .boolean) (by decide)
    have fc191 := (((((((fc158.keep K155).ext E162).keep K163).ext E164).keep K165).keep K182).ext E189)
    have nz192 := (nl u155_3.lt (Nat.le_of_eq g162.symm))
    have lz193 := (lq (lq u155_3.lt E162.1) K163.1)
    have nz194 := (nl lz193 (Nat.le_of_eq g164.symm))
    have fc195 := ((((((u155_3.ext E162).keep K163 (ninS nz192 nin0)).ext E164).keep K165 (ninS nz194 nin0)).keep K182 (ninS nz192 nin0)).ext E189)
    have fc196 := ((((((u155_2.ext E162).keep K163 (ninS nz192 nin0)).ext E164).keep K165 (ninS nz194 nin0)).keep K182 (ninS nz192 nin0)).ext E189)
    have fc197 := ((((((u155_6.ext E162).keep K163).ext E164).keep K165).keep K182).ext E189)
    have nz198 := (nl u155_6.lt (Nat.le_of_eq g162.symm))
    have lz199 := (lq (lq u155_6.lt E162.1) K163.1)
    have nz200 := (nl lz199 (Nat.le_of_eq g164.symm))
    have fc201 := ((((((u155_4.ext E162).keep K163 (ninS nz198 nin0)).ext E164).keep K165 (ninS nz200 nin0)).keep K182 (ninS nz198 nin0)).ext E189)
    have fc202 := (((((((fc161.keep K155).ext E162).keep K163).ext E164).keep K165).keep K182).ext E189)
    obtain ⟨_, _, ⟨T190, L190, k190, n190⟩, -, Xa190, hSi190, hgr190, ⟨Lc190, hQ190, l190, y190, z190⟩, st190⟩ := X189.specialBackS hx (y := mn32) rfl hown165 (mvT hZ165 (wd211 hw)) (mvT hZ165 (wd212 hw)) (mvT hZ165 (wd213 hw)) (by decide) (backOfS (W := 2) (rm32_0 l Z a0 hw [] b189 b37 b133 b155_0 mir_objs b136 kx155_0 w_EMPTY h189 n0 OL189 fc191 fc195 fc196 pr30 fc197 fc201 fc202 pr31 A189 F_decision_b189 g_b189 F_match_b189 F_exact_b189) hZ165 (wd213 hw) (wd210 hw) (by decide) (by decide)) (g := (mkF m 318 #[jv p1, sc, jv p2, sc, jv p3, sc, jv p4, sc, iv p5, iv p6, iv y2, rv b1, rv b2, iv y11, iv y13, iv y15, rv b37, rv b42, rv b73, rv b105, rv b133, rv b162, uu, uu, uu, uu] [(.ref b133), (.ref b37), (.ref b189), (.ref b189), (.ref b162)])) rfl (by rw [hml]; rfl) (Steps.refl _) (a := b189) (argsL := [(.ref b37), (.ref b133)]) (rest := [(.ref b189), (.ref b162)]) (lenOf pd_23 rfl) rfl (by show 2 * 0 + _ ≤ _; exact Nat.le_of_eq rfl) (hb hby at_318) (fun _ _ => ⟨rfl, e189, (by decide : 42 + 5 ≤ _), (by decide : 174 + 40 ≤ _)⟩)
    dsimp only [Pt.U, Pt.locs, Pt.cells, Pt.slots] at Xa190 l190 y190 z190 st190 hQ190 hSi190 hgr190
    have Xb190 := own_sub Xa190 l190 y190 z190
    obtain ⟨X190, hS190, hZ190, hown190⟩ := rebS (s := s) (vm0 := T165.vm) hS165 (n1 := T189.heap.size) (by rw [e189]; exact (Nat.le_trans (Nat.le_trans (Nat.le_refl _) K182.1) E189.1)) Xb190 hSi190 hgr190 hZ165 hown165
    obtain ⟨b190_0, b190_1, rfl, Nq190, K190, u190_0, u190_1, u190_2, u190_3, u190_4, u190_5, u190_6, u190_7, u190_8, u190_9, u190_10⟩ := hQ190
    have OL190 := OL189.keep K190 (allS g_b189 all0)
    have N190 := Fr.app N182 Nq190
    have nz204 := (nl u182_3.lt (Nat.le_of_eq g189.symm))
    have fc205 := ((u182_1.ext E189).keep K190 (ninS nz204 nin0))
    have fc206 := (((fc185.keep K182).ext E189).keep K190)
    have fc207 := ((u182_2.ext E189).keep K190 (ninS nz204 nin0))
    have fc208 := ((u182_3.ext E189).keep K190 (ninS nz204 nin0))
    have nz209 := (nl u182_6.lt (Nat.le_of_eq g189.symm))
    have fc210 := ((u182_4.ext E189).keep K190 (ninS nz209 nin0))
    have nz211 := nl fc187.lt u182_0
    have fc212 := (A189.keep K190)
    obtain ⟨_, T203, L203, X203, hQ203, st203⟩ := own_cV X190 hx hZ190 hown190 hml (cw15 hw) (rm14_4 l Z a0 hw b162 b189 b182_0 b164 kx182_0 T190.heap n0 OL190 fc205 fc206 g_b162 fc207 fc208 fc210 (Ne.symm nz211) g_b182_0 u182_5 fc212 nz211) rfl fc206 321 #[jv p1, sc, jv p2, sc, jv p3, sc, jv p4, sc, iv p5, iv p6, iv y2, rv b1, rv b2, iv y11, iv y13, iv y15, rv b37, rv b42, rv b73, rv b105, rv b133, rv b162, uu, uu, uu, uu] [(.ref b189)] [] 0 rfl (hb hby at_321) (by decide)
    obtain ⟨rfl, Nq203, K203, u203_0, u203_1, u203_2, u203_3⟩ := hQ203
    have OL203 := OL190.keep K203 (allS g_b162 (allS g_b182_0 all0))
    have N203 := Fr.app N190 Nq203
    obtain ⟨T213, h213, X213, e213, E213, A213, D213, -, st213⟩ := newO X203 hx hZ190 hown190 (wd246 hw) (wd247 hw) (wd248 hw) rfl (g := (mkF m 325 #[jv p1, sc, jv p2, sc, jv p3, sc, jv p4, sc, iv p5, iv p6, iv y2, rv b1, rv b2, iv y11, iv y13, iv y15, rv b37, rv b42, rv b73, rv b105, rv b133, rv b162, uu, uu, uu, uu] [])) rfl (hb hby at_325) (by decide) (by decide)
    obtain ⟨b213, g213⟩ : ∃ z, z = T203.heap.size := ⟨_, rfl⟩
    rw [← g213] at A213 D213 st213
    have g_b213 : n0 ≤ b213 := (Nat.le_trans (Nat.le_trans (Nat.le_of_eq OL203.1.symm) OL203.2.1) (Nat.le_of_eq g213.symm))
    have OL213 := OL203.ext E213
    have F_fieldCount_b213 : Fld Z h213 b213 s43 s15 "I" (.int (0 : Int32)) := D213 (Or.inr (wd254 hw)) (ty := .int) (by decide)
    have F_values_b213 : Fld Z h213 b213 s43 "values" "[J" .null := D213 (Or.inr (wd265 hw)) (ty := (.array .long)) (by decide)
    have fc215 := (u203_2.ext E213)
    have nz216 := (nl u203_2.lt (Nat.le_of_eq g213.symm))
    have fc217 := ((fc206.keep K203).ext E213)
    have fc218 := (u203_0.ext E213)
    have fc219 := (u203_1.ext E213)
    have fc220 := (u203_3.ext E213)
    have nz221 := (nl u203_3.lt (Nat.le_of_eq g213.symm))
    have fc222 := (((((fc188.keep K182).ext E189).keep K190).keep K203).ext E213)
    have lz223 := (lq u165_5.lt K182.1)
    have nz224 := (nl lz223 (Nat.le_of_eq g189.symm))
    have nz225 := nl u165_5.lt u182_0
    have fc226 := (((((u165_4.keep K182 (ninS (Ne.symm nz183) nin0)).ext E189).keep K190 (ninS nz224 nin0)).keep K203 (ninS (Ne.symm nz183) (ninS nz225 nin0))).ext E213)
    have lz227 := (lq (lq (lq lz223 E189.1) K190.1) K203.1)
    have nz228 := (nl lz227 (Nat.le_of_eq g213.symm))
    have lz229 := (lq u163_2.lt E164.1)
    have nz230 := nl lz229 u165_1
    have lz231 := (lq u165_9.lt K182.1)
    have nz232 := (nl lz231 (Nat.le_of_eq g189.symm))
    have nz233 := nl u165_9.lt u182_0
    have fc234 := (((((u165_10.keep K182 (ninS (Ne.symm nz230) nin0)).ext E189).keep K190 (ninS nz232 nin0)).keep K203 (ninS (Ne.symm nz230) (ninS nz233 nin0))).ext E213)
    have lz235 := (lq (lq (lq lz231 E189.1) K190.1) K203.1)
    have nz236 := (nl lz235 (Nat.le_of_eq g213.symm))
    have fc237 := (((((u165_8.keep K182).ext E189).keep K190).keep K203).ext E213)
    have fc238 := (((((u165_9.keep K182 (ninS (Ne.symm nz230) nin0)).ext E189).keep K190 (ninS nz232 nin0)).keep K203 (ninS (Ne.symm nz230) (ninS nz233 nin0))).ext E213)
    have fc239 := ((((((fc181.keep K165).keep K182).ext E189).keep K190).keep K203).ext E213)
    have lz240 := (lq u108_1.lt K126.1)
    have nz241 := (nl lz240 (Nat.le_of_eq g133.symm))
    have lz242 := (lq (lq lz240 E133.1) K134.1)
    have nz243 := (nl lz242 (Nat.le_of_eq g136.symm))
    have lz244 := (lq (lq (lq lz242 E136.1) K137.1) K155.1)
    have nz245 := (nl lz244 (Nat.le_of_eq g162.symm))
    have lz246 := (lq (lq lz244 E162.1) K163.1)
    have nz247 := (nl lz246 (Nat.le_of_eq g164.symm))
    have lz248 := (lq (lq fc181.lt K165.1) K182.1)
    have nz249 := (nl lz248 (Nat.le_of_eq g189.symm))
    have lz250 := (lq fc181.lt K165.1)
    have nz251 := nl lz250 u182_0
    have fc252 := (((((((((((((((u108_1.keep K126 (ninS (Ne.symm nz127) nin0)).ext E133).keep K134 (ninS nz241 nin0)).ext E136).keep K137 (ninS nz243 nin0)).keep K155 (ninS nz241 nin0)).ext E162).keep K163 (ninS nz245 nin0)).ext E164).keep K165 (ninS nz247 nin0)).keep K182 (ninS nz245 nin0)).ext E189).keep K190 (ninS nz249 nin0)).keep K203 (ninS nz245 (ninS nz251 nin0))).ext E213)
    have lz253 := (lq (lq (lq lz248 E189.1) K190.1) K203.1)
    have nz254 := (nl lz253 (Nat.le_of_eq g213.symm))
    have lz255 := (lq u106_2.lt E107.1)
    have nz256 := nl lz255 u108_0
    have lz257 := (lq u108_4.lt K126.1)
    have nz258 := (nl lz257 (Nat.le_of_eq g133.symm))
    have lz259 := (lq (lq lz257 E133.1) K134.1)
    have nz260 := (nl lz259 (Nat.le_of_eq g136.symm))
    have lz261 := (lq (lq (lq lz259 E136.1) K137.1) K155.1)
    have nz262 := (nl lz261 (Nat.le_of_eq g162.symm))
    have lz263 := (lq (lq lz261 E162.1) K163.1)
    have nz264 := (nl lz263 (Nat.le_of_eq g164.symm))
    have lz265 := (lq (lq (lq lz263 E164.1) K165.1) K182.1)
    have nz266 := (nl lz265 (Nat.le_of_eq g189.symm))
    have lz267 := (lq (lq lz263 E164.1) K165.1)
    have nz268 := nl lz267 u182_0
    have fc269 := (((((((((((((((u108_3.keep K126 (ninS (Ne.symm nz256) nin0)).ext E133).keep K134 (ninS nz258 nin0)).ext E136).keep K137 (ninS nz260 nin0)).keep K155 (ninS nz258 nin0)).ext E162).keep K163 (ninS nz262 nin0)).ext E164).keep K165 (ninS nz264 nin0)).keep K182 (ninS nz262 nin0)).ext E189).keep K190 (ninS nz266 nin0)).keep K203 (ninS nz262 (ninS nz268 nin0))).ext E213)
    have lz270 := (lq (lq (lq lz265 E189.1) K190.1) K203.1)
    have nz271 := (nl lz270 (Nat.le_of_eq g213.symm))
    have fc272 := (((((((((((((((u108_2.keep K126).ext E133).keep K134).ext E136).keep K137).keep K155).ext E162).keep K163).ext E164).keep K165).keep K182).ext E189).keep K190).keep K203).ext E213)
    have fc273 := ((((((((((((((((fc125.keep K108).keep K126).ext E133).keep K134).ext E136).keep K137).keep K155).ext E162).keep K163).ext E164).keep K165).keep K182).ext E189).keep K190).keep K203).ext E213)
    have nz274 := nl u43_2.lt u55_0
    have nz275 := nl u55_8.lt u56_0
    have lz276 := (lq (lq (lq u55_8.lt K56.1) K65.1) K66.1)
    have nz277 := (nl lz276 (Nat.le_of_eq g73.symm))
    have lz278 := (lq (lq (lq lz276 E73.1) K74.1) K87.1)
    have nz279 := nl lz278 u88_0
    have lz280 := (lq (lq (lq lz278 K88.1) K97.1) K98.1)
    have nz281 := (nl lz280 (Nat.le_of_eq g105.symm))
    have lz282 := (lq (lq lz280 E105.1) K106.1)
    have nz283 := (nl lz282 (Nat.le_of_eq g107.symm))
    have lz284 := (lq (lq fc125.lt K108.1) K126.1)
    have nz285 := (nl lz284 (Nat.le_of_eq g133.symm))
    have lz286 := (lq (lq lz284 E133.1) K134.1)
    have nz287 := (nl lz286 (Nat.le_of_eq g136.symm))
    have lz288 := (lq (lq (lq lz286 E136.1) K137.1) K155.1)
    have nz289 := (nl lz288 (Nat.le_of_eq g162.symm))
    have lz290 := (lq (lq lz288 E162.1) K163.1)
    have nz291 := (nl lz290 (Nat.le_of_eq g164.symm))
    have lz292 := (lq (lq (lq lz290 E164.1) K165.1) K182.1)
    have nz293 := (nl lz292 (Nat.le_of_eq g189.symm))
    have lz294 := (lq (lq lz290 E164.1) K165.1)
    have nz295 := nl lz294 u182_0
    have fc296 := ((((((((((((((((((((((((((((u55_7.keep K56 (ninS (Ne.symm nz274) nin0)).keep K65 nin0).keep K66 (ninS (Ne.symm nz274) (ninS nz275 nin0))).ext E73).keep K74 (ninS nz277 nin0)).keep K87 nin0).keep K88 (ninS nz277 nin0)).keep K97 nin0).keep K98 (ninS nz277 (ninS nz279 nin0))).ext E105).keep K106 (ninS nz281 nin0)).ext E107).keep K108 (ninS nz283 nin0)).keep K126 (ninS nz281 nin0)).ext E133).keep K134 (ninS nz285 nin0)).ext E136).keep K137 (ninS nz287 nin0)).keep K155 (ninS nz285 nin0)).ext E162).keep K163 (ninS nz289 nin0)).ext E164).keep K165 (ninS nz291 nin0)).keep K182 (ninS nz289 nin0)).ext E189).keep K190 (ninS nz293 nin0)).keep K203 (ninS nz289 (ninS nz295 nin0))).ext E213)
    have lz297 := (lq (lq (lq lz292 E189.1) K190.1) K203.1)
    have nz298 := (nl lz297 (Nat.le_of_eq g213.symm))
    have nz299 := nl u43_2.lt u55_1
    have nz300 := nl u55_9.lt u56_0
    have lz301 := (lq (lq (lq u55_9.lt K56.1) K65.1) K66.1)
    have nz302 := (nl lz301 (Nat.le_of_eq g73.symm))
    have lz303 := (lq (lq (lq lz301 E73.1) K74.1) K87.1)
    have nz304 := nl lz303 u88_0
    have lz305 := (lq (lq (lq lz303 K88.1) K97.1) K98.1)
    have nz306 := (nl lz305 (Nat.le_of_eq g105.symm))
    have lz307 := (lq (lq lz305 E105.1) K106.1)
    have nz308 := (nl lz307 (Nat.le_of_eq g107.symm))
    have lz309 := (lq (lq (lq lz307 E107.1) K108.1) K126.1)
    have nz310 := (nl lz309 (Nat.le_of_eq g133.symm))
    have lz311 := (lq (lq lz309 E133.1) K134.1)
    have nz312 := (nl lz311 (Nat.le_of_eq g136.symm))
    have lz313 := (lq (lq (lq lz311 E136.1) K137.1) K155.1)
    have nz314 := (nl lz313 (Nat.le_of_eq g162.symm))
    have lz315 := (lq (lq lz313 E162.1) K163.1)
    have nz316 := (nl lz315 (Nat.le_of_eq g164.symm))
    have lz317 := (lq (lq (lq lz315 E164.1) K165.1) K182.1)
    have nz318 := (nl lz317 (Nat.le_of_eq g189.symm))
    have lz319 := (lq (lq lz315 E164.1) K165.1)
    have nz320 := nl lz319 u182_0
    have fc321 := ((((((((((((((((((((((((((((u55_9.keep K56 (ninS (Ne.symm nz299) nin0)).keep K65 nin0).keep K66 (ninS (Ne.symm nz299) (ninS nz300 nin0))).ext E73).keep K74 (ninS nz302 nin0)).keep K87 nin0).keep K88 (ninS nz302 nin0)).keep K97 nin0).keep K98 (ninS nz302 (ninS nz304 nin0))).ext E105).keep K106 (ninS nz306 nin0)).ext E107).keep K108 (ninS nz308 nin0)).keep K126 (ninS nz306 nin0)).ext E133).keep K134 (ninS nz310 nin0)).ext E136).keep K137 (ninS nz312 nin0)).keep K155 (ninS nz310 nin0)).ext E162).keep K163 (ninS nz314 nin0)).ext E164).keep K165 (ninS nz316 nin0)).keep K182 (ninS nz314 nin0)).ext E189).keep K190 (ninS nz318 nin0)).keep K203 (ninS nz314 (ninS nz320 nin0))).ext E213)
    have lz322 := (lq (lq (lq lz317 E189.1) K190.1) K203.1)
    have nz323 := (nl lz322 (Nat.le_of_eq g213.symm))
    have fc324 := ((((((((((((((((((((((((((((u55_8.keep K56 (ninS (Ne.symm nz274) nin0)).keep K65 nin0).keep K66 (ninS (Ne.symm nz274) (ninS nz275 nin0))).ext E73).keep K74 (ninS nz277 nin0)).keep K87 nin0).keep K88 (ninS nz277 nin0)).keep K97 nin0).keep K98 (ninS nz277 (ninS nz279 nin0))).ext E105).keep K106 (ninS nz281 nin0)).ext E107).keep K108 (ninS nz283 nin0)).keep K126 (ninS nz281 nin0)).ext E133).keep K134 (ninS nz285 nin0)).ext E136).keep K137 (ninS nz287 nin0)).keep K155 (ninS nz285 nin0)).ext E162).keep K163 (ninS nz289 nin0)).ext E164).keep K165 (ninS nz291 nin0)).keep K182 (ninS nz289 nin0)).ext E189).keep K190 (ninS nz293 nin0)).keep K203 (ninS nz289 (ninS nz295 nin0))).ext E213)
    have nz325 := nl u43_2.lt u55_2
    have nz326 := nl u55_10.lt u56_0
    have lz327 := (lq (lq (lq u55_10.lt K56.1) K65.1) K66.1)
    have nz328 := (nl lz327 (Nat.le_of_eq g73.symm))
    have lz329 := (lq (lq (lq lz327 E73.1) K74.1) K87.1)
    have nz330 := nl lz329 u88_0
    have lz331 := (lq (lq (lq lz329 K88.1) K97.1) K98.1)
    have nz332 := (nl lz331 (Nat.le_of_eq g105.symm))
    have lz333 := (lq (lq lz331 E105.1) K106.1)
    have nz334 := (nl lz333 (Nat.le_of_eq g107.symm))
    have lz335 := (lq (lq (lq lz333 E107.1) K108.1) K126.1)
    have nz336 := (nl lz335 (Nat.le_of_eq g133.symm))
    have lz337 := (lq (lq lz335 E133.1) K134.1)
    have nz338 := (nl lz337 (Nat.le_of_eq g136.symm))
    have lz339 := (lq (lq (lq lz337 E136.1) K137.1) K155.1)
    have nz340 := (nl lz339 (Nat.le_of_eq g162.symm))
    have lz341 := (lq (lq lz339 E162.1) K163.1)
    have nz342 := (nl lz341 (Nat.le_of_eq g164.symm))
    have lz343 := (lq (lq (lq lz341 E164.1) K165.1) K182.1)
    have nz344 := (nl lz343 (Nat.le_of_eq g189.symm))
    have lz345 := (lq (lq lz341 E164.1) K165.1)
    have nz346 := nl lz345 u182_0
    have fc347 := ((((((((((((((((((((((((((((u55_10.keep K56 (ninS (Ne.symm nz325) nin0)).keep K65 nin0).keep K66 (ninS (Ne.symm nz325) (ninS nz326 nin0))).ext E73).keep K74 (ninS nz328 nin0)).keep K87 nin0).keep K88 (ninS nz328 nin0)).keep K97 nin0).keep K98 (ninS nz328 (ninS nz330 nin0))).ext E105).keep K106 (ninS nz332 nin0)).ext E107).keep K108 (ninS nz334 nin0)).keep K126 (ninS nz332 nin0)).ext E133).keep K134 (ninS nz336 nin0)).ext E136).keep K137 (ninS nz338 nin0)).keep K155 (ninS nz336 nin0)).ext E162).keep K163 (ninS nz340 nin0)).ext E164).keep K165 (ninS nz342 nin0)).keep K182 (ninS nz340 nin0)).ext E189).keep K190 (ninS nz344 nin0)).keep K203 (ninS nz340 (ninS nz346 nin0))).ext E213)
    have lz348 := (lq (lq (lq lz343 E189.1) K190.1) K203.1)
    have nz349 := (nl lz348 (Nat.le_of_eq g213.symm))
    have fc350 := (((((((((((((((u108_4.keep K126 (ninS (Ne.symm nz256) nin0)).ext E133).keep K134 (ninS nz258 nin0)).ext E136).keep K137 (ninS nz260 nin0)).keep K155 (ninS nz258 nin0)).ext E162).keep K163 (ninS nz262 nin0)).ext E164).keep K165 (ninS nz264 nin0)).keep K182 (ninS nz262 nin0)).ext E189).keep K190 (ninS nz266 nin0)).keep K203 (ninS nz262 (ninS nz268 nin0))).ext E213)
    have fc351 := ((((((((((((((((fc124.keep K108).keep K126).ext E133).keep K134).ext E136).keep K137).keep K155).ext E162).keep K163).ext E164).keep K165).keep K182).ext E189).keep K190).keep K203).ext E213)
    have nz352 := nl u56_6.lt u65_0
    have nz353 := nl u56_3.lt u65_0
    have lz354 := (lq u65_8.lt K66.1)
    have nz355 := (nl lz354 (Nat.le_of_eq g73.symm))
    have lz356 := (lq (lq (lq lz354 E73.1) K74.1) K87.1)
    have nz357 := nl lz356 u88_0
    have lz358 := (lq (lq (lq lz356 K88.1) K97.1) K98.1)
    have nz359 := (nl lz358 (Nat.le_of_eq g105.symm))
    have lz360 := (lq (lq lz358 E105.1) K106.1)
    have nz361 := (nl lz360 (Nat.le_of_eq g107.symm))
    have lz362 := (lq (lq fc124.lt K108.1) K126.1)
    have nz363 := (nl lz362 (Nat.le_of_eq g133.symm))
    have lz364 := (lq (lq lz362 E133.1) K134.1)
    have nz365 := (nl lz364 (Nat.le_of_eq g136.symm))
    have lz366 := (lq (lq (lq lz364 E136.1) K137.1) K155.1)
    have nz367 := (nl lz366 (Nat.le_of_eq g162.symm))
    have lz368 := (lq (lq lz366 E162.1) K163.1)
    have nz369 := (nl lz368 (Nat.le_of_eq g164.symm))
    have lz370 := (lq (lq (lq lz368 E164.1) K165.1) K182.1)
    have nz371 := (nl lz370 (Nat.le_of_eq g189.symm))
    have lz372 := (lq (lq lz368 E164.1) K165.1)
    have nz373 := nl lz372 u182_0
    have fc374 := ((((((((((((((((((((((((((u65_7.keep K66 (ninS (Ne.symm nz353) (ninS (Ne.symm nz352) nin0))).ext E73).keep K74 (ninS nz355 nin0)).keep K87 nin0).keep K88 (ninS nz355 nin0)).keep K97 nin0).keep K98 (ninS nz355 (ninS nz357 nin0))).ext E105).keep K106 (ninS nz359 nin0)).ext E107).keep K108 (ninS nz361 nin0)).keep K126 (ninS nz359 nin0)).ext E133).keep K134 (ninS nz363 nin0)).ext E136).keep K137 (ninS nz365 nin0)).keep K155 (ninS nz363 nin0)).ext E162).keep K163 (ninS nz367 nin0)).ext E164).keep K165 (ninS nz369 nin0)).keep K182 (ninS nz367 nin0)).ext E189).keep K190 (ninS nz371 nin0)).keep K203 (ninS nz367 (ninS nz373 nin0))).ext E213)
    have lz375 := (lq (lq (lq lz370 E189.1) K190.1) K203.1)
    have nz376 := (nl lz375 (Nat.le_of_eq g213.symm))
    have nz377 := nl u56_6.lt u65_1
    have nz378 := nl u56_3.lt u65_1
    have lz379 := (lq u65_9.lt K66.1)
    have nz380 := (nl lz379 (Nat.le_of_eq g73.symm))
    have lz381 := (lq (lq (lq lz379 E73.1) K74.1) K87.1)
    have nz382 := nl lz381 u88_0
    have lz383 := (lq (lq (lq lz381 K88.1) K97.1) K98.1)
    have nz384 := (nl lz383 (Nat.le_of_eq g105.symm))
    have lz385 := (lq (lq lz383 E105.1) K106.1)
    have nz386 := (nl lz385 (Nat.le_of_eq g107.symm))
    have lz387 := (lq (lq (lq lz385 E107.1) K108.1) K126.1)
    have nz388 := (nl lz387 (Nat.le_of_eq g133.symm))
    have lz389 := (lq (lq lz387 E133.1) K134.1)
    have nz390 := (nl lz389 (Nat.le_of_eq g136.symm))
    have lz391 := (lq (lq (lq lz389 E136.1) K137.1) K155.1)
    have nz392 := (nl lz391 (Nat.le_of_eq g162.symm))
    have lz393 := (lq (lq lz391 E162.1) K163.1)
    have nz394 := (nl lz393 (Nat.le_of_eq g164.symm))
    have lz395 := (lq (lq (lq lz393 E164.1) K165.1) K182.1)
    have nz396 := (nl lz395 (Nat.le_of_eq g189.symm))
    have lz397 := (lq (lq lz393 E164.1) K165.1)
    have nz398 := nl lz397 u182_0
    have fc399 := ((((((((((((((((((((((((((u65_9.keep K66 (ninS (Ne.symm nz378) (ninS (Ne.symm nz377) nin0))).ext E73).keep K74 (ninS nz380 nin0)).keep K87 nin0).keep K88 (ninS nz380 nin0)).keep K97 nin0).keep K98 (ninS nz380 (ninS nz382 nin0))).ext E105).keep K106 (ninS nz384 nin0)).ext E107).keep K108 (ninS nz386 nin0)).keep K126 (ninS nz384 nin0)).ext E133).keep K134 (ninS nz388 nin0)).ext E136).keep K137 (ninS nz390 nin0)).keep K155 (ninS nz388 nin0)).ext E162).keep K163 (ninS nz392 nin0)).ext E164).keep K165 (ninS nz394 nin0)).keep K182 (ninS nz392 nin0)).ext E189).keep K190 (ninS nz396 nin0)).keep K203 (ninS nz392 (ninS nz398 nin0))).ext E213)
    have lz400 := (lq (lq (lq lz395 E189.1) K190.1) K203.1)
    have nz401 := (nl lz400 (Nat.le_of_eq g213.symm))
    have fc402 := ((((((((((((((((((((((((((u65_8.keep K66 (ninS (Ne.symm nz353) (ninS (Ne.symm nz352) nin0))).ext E73).keep K74 (ninS nz355 nin0)).keep K87 nin0).keep K88 (ninS nz355 nin0)).keep K97 nin0).keep K98 (ninS nz355 (ninS nz357 nin0))).ext E105).keep K106 (ninS nz359 nin0)).ext E107).keep K108 (ninS nz361 nin0)).keep K126 (ninS nz359 nin0)).ext E133).keep K134 (ninS nz363 nin0)).ext E136).keep K137 (ninS nz365 nin0)).keep K155 (ninS nz363 nin0)).ext E162).keep K163 (ninS nz367 nin0)).ext E164).keep K165 (ninS nz369 nin0)).keep K182 (ninS nz367 nin0)).ext E189).keep K190 (ninS nz371 nin0)).keep K203 (ninS nz367 (ninS nz373 nin0))).ext E213)
    have nz403 := nl u56_6.lt u65_2
    have nz404 := nl u56_3.lt u65_2
    have lz405 := (lq u65_10.lt K66.1)
    have nz406 := (nl lz405 (Nat.le_of_eq g73.symm))
    have lz407 := (lq (lq (lq lz405 E73.1) K74.1) K87.1)
    have nz408 := nl lz407 u88_0
    have lz409 := (lq (lq (lq lz407 K88.1) K97.1) K98.1)
    have nz410 := (nl lz409 (Nat.le_of_eq g105.symm))
    have lz411 := (lq (lq lz409 E105.1) K106.1)
    have nz412 := (nl lz411 (Nat.le_of_eq g107.symm))
    have lz413 := (lq (lq (lq lz411 E107.1) K108.1) K126.1)
    have nz414 := (nl lz413 (Nat.le_of_eq g133.symm))
    have lz415 := (lq (lq lz413 E133.1) K134.1)
    have nz416 := (nl lz415 (Nat.le_of_eq g136.symm))
    have lz417 := (lq (lq (lq lz415 E136.1) K137.1) K155.1)
    have nz418 := (nl lz417 (Nat.le_of_eq g162.symm))
    have lz419 := (lq (lq lz417 E162.1) K163.1)
    have nz420 := (nl lz419 (Nat.le_of_eq g164.symm))
    have lz421 := (lq (lq (lq lz419 E164.1) K165.1) K182.1)
    have nz422 := (nl lz421 (Nat.le_of_eq g189.symm))
    have lz423 := (lq (lq lz419 E164.1) K165.1)
    have nz424 := nl lz423 u182_0
    have fc425 := ((((((((((((((((((((((((((u65_10.keep K66 (ninS (Ne.symm nz404) (ninS (Ne.symm nz403) nin0))).ext E73).keep K74 (ninS nz406 nin0)).keep K87 nin0).keep K88 (ninS nz406 nin0)).keep K97 nin0).keep K98 (ninS nz406 (ninS nz408 nin0))).ext E105).keep K106 (ninS nz410 nin0)).ext E107).keep K108 (ninS nz412 nin0)).keep K126 (ninS nz410 nin0)).ext E133).keep K134 (ninS nz414 nin0)).ext E136).keep K137 (ninS nz416 nin0)).keep K155 (ninS nz414 nin0)).ext E162).keep K163 (ninS nz418 nin0)).ext E164).keep K165 (ninS nz420 nin0)).keep K182 (ninS nz418 nin0)).ext E189).keep K190 (ninS nz422 nin0)).keep K203 (ninS nz418 (ninS nz424 nin0))).ext E213)
    have lz426 := (lq (lq (lq lz421 E189.1) K190.1) K203.1)
    have nz427 := (nl lz426 (Nat.le_of_eq g213.symm))
    have fc428 := ((fc212.keep K203).ext E213)
    have fc429 := ((u190_4.keep K203 (ninS (Ne.symm nz204) (ninS (Ne.symm nz209) nin0))).ext E213)
    have lz430 := (lq u190_5.lt K203.1)
    have nz431 := (nl lz430 (Nat.le_of_eq g213.symm))
    have lz432 := (lq u182_6.lt E189.1)
    have nz433 := nl lz432 u190_1
    have lz434 := (lq u182_3.lt E189.1)
    have nz435 := nl lz434 u190_1
    have fc436 := ((u190_10.keep K203 (ninS (Ne.symm nz435) (ninS (Ne.symm nz433) nin0))).ext E213)
    have lz437 := (lq u190_9.lt K203.1)
    have nz438 := (nl lz437 (Nat.le_of_eq g213.symm))
    have fc439 := ((u190_8.keep K203).ext E213)
    have fc440 := ((u190_9.keep K203 (ninS (Ne.symm nz435) (ninS (Ne.symm nz433) nin0))).ext E213)
    have fc441 := (((fc202.keep K190).keep K203).ext E213)
    have lz442 := (lq u137_1.lt K155.1)
    have nz443 := (nl lz442 (Nat.le_of_eq g162.symm))
    have lz444 := (lq (lq lz442 E162.1) K163.1)
    have nz445 := (nl lz444 (Nat.le_of_eq g164.symm))
    have lz446 := (lq (lq (lq lz444 E164.1) K165.1) K182.1)
    have nz447 := (nl lz446 (Nat.le_of_eq g189.symm))
    have lz448 := (lq (lq lz444 E164.1) K165.1)
    have nz449 := nl lz448 u182_0
    have fc450 := ((((((((((u137_1.keep K155 (ninS (Ne.symm nz156) nin0)).ext E162).keep K163 (ninS nz443 nin0)).ext E164).keep K165 (ninS nz445 nin0)).keep K182 (ninS nz443 nin0)).ext E189).keep K190 (ninS nz447 nin0)).keep K203 (ninS nz443 (ninS nz449 nin0))).ext E213)
    have lz451 := (lq (lq fc202.lt K190.1) K203.1)
    have nz452 := (nl lz451 (Nat.le_of_eq g213.symm))
    have lz453 := (lq u134_2.lt E136.1)
    have nz454 := nl lz453 u137_0
    have lz455 := (lq u137_4.lt K155.1)
    have nz456 := (nl lz455 (Nat.le_of_eq g162.symm))
    have lz457 := (lq (lq lz455 E162.1) K163.1)
    have nz458 := (nl lz457 (Nat.le_of_eq g164.symm))
    have lz459 := (lq (lq (lq lz457 E164.1) K165.1) K182.1)
    have nz460 := (nl lz459 (Nat.le_of_eq g189.symm))
    have lz461 := (lq (lq lz457 E164.1) K165.1)
    have nz462 := nl lz461 u182_0
    have fc463 := ((((((((((u137_3.keep K155 (ninS (Ne.symm nz454) nin0)).ext E162).keep K163 (ninS nz456 nin0)).ext E164).keep K165 (ninS nz458 nin0)).keep K182 (ninS nz456 nin0)).ext E189).keep K190 (ninS nz460 nin0)).keep K203 (ninS nz456 (ninS nz462 nin0))).ext E213)
    have lz464 := (lq (lq (lq lz459 E189.1) K190.1) K203.1)
    have nz465 := (nl lz464 (Nat.le_of_eq g213.symm))
    have fc466 := ((((((((((u137_2.keep K155).ext E162).keep K163).ext E164).keep K165).keep K182).ext E189).keep K190).keep K203).ext E213)
    have fc467 := (((((((((((fc154.keep K137).keep K155).ext E162).keep K163).ext E164).keep K165).keep K182).ext E189).keep K190).keep K203).ext E213)
    have nz468 := nl u74_2.lt u87_0
    have nz469 := nl u87_8.lt u88_0
    have lz470 := (lq (lq (lq u87_8.lt K88.1) K97.1) K98.1)
    have nz471 := (nl lz470 (Nat.le_of_eq g105.symm))
    have lz472 := (lq (lq lz470 E105.1) K106.1)
    have nz473 := (nl lz472 (Nat.le_of_eq g107.symm))
    have lz474 := (lq (lq (lq lz472 E107.1) K108.1) K126.1)
    have nz475 := (nl lz474 (Nat.le_of_eq g133.symm))
    have lz476 := (lq (lq lz474 E133.1) K134.1)
    have nz477 := (nl lz476 (Nat.le_of_eq g136.symm))
    have lz478 := (lq (lq fc154.lt K137.1) K155.1)
    have nz479 := (nl lz478 (Nat.le_of_eq g162.symm))
    have lz480 := (lq (lq lz478 E162.1) K163.1)
    have nz481 := (nl lz480 (Nat.le_of_eq g164.symm))
    have lz482 := (lq (lq (lq lz480 E164.1) K165.1) K182.1)
    have nz483 := (nl lz482 (Nat.le_of_eq g189.symm))
    have lz484 := (lq (lq lz480 E164.1) K165.1)
    have nz485 := nl lz484 u182_0
    have fc486 := ((((((((((((((((((((((u87_7.keep K88 (ninS (Ne.symm nz468) nin0)).keep K97 nin0).keep K98 (ninS (Ne.symm nz468) (ninS nz469 nin0))).ext E105).keep K106 (ninS nz471 nin0)).ext E107).keep K108 (ninS nz473 nin0)).keep K126 (ninS nz471 nin0)).ext E133).keep K134 (ninS nz475 nin0)).ext E136).keep K137 (ninS nz477 nin0)).keep K155 (ninS nz475 nin0)).ext E162).keep K163 (ninS nz479 nin0)).ext E164).keep K165 (ninS nz481 nin0)).keep K182 (ninS nz479 nin0)).ext E189).keep K190 (ninS nz483 nin0)).keep K203 (ninS nz479 (ninS nz485 nin0))).ext E213)
    have lz487 := (lq (lq (lq lz482 E189.1) K190.1) K203.1)
    have nz488 := (nl lz487 (Nat.le_of_eq g213.symm))
    have nz489 := nl u74_2.lt u87_1
    have nz490 := nl u87_9.lt u88_0
    have lz491 := (lq (lq (lq u87_9.lt K88.1) K97.1) K98.1)
    have nz492 := (nl lz491 (Nat.le_of_eq g105.symm))
    have lz493 := (lq (lq lz491 E105.1) K106.1)
    have nz494 := (nl lz493 (Nat.le_of_eq g107.symm))
    have lz495 := (lq (lq (lq lz493 E107.1) K108.1) K126.1)
    have nz496 := (nl lz495 (Nat.le_of_eq g133.symm))
    have lz497 := (lq (lq lz495 E133.1) K134.1)
    have nz498 := (nl lz497 (Nat.le_of_eq g136.symm))
    have lz499 := (lq (lq (lq lz497 E136.1) K137.1) K155.1)
    have nz500 := (nl lz499 (Nat.le_of_eq g162.symm))
    have lz501 := (lq (lq lz499 E162.1) K163.1)
    have nz502 := (nl lz501 (Nat.le_of_eq g164.symm))
    have lz503 := (lq (lq (lq lz501 E164.1) K165.1) K182.1)
    have nz504 := (nl lz503 (Nat.le_of_eq g189.symm))
    have lz505 := (lq (lq lz501 E164.1) K165.1)
    have nz506 := nl lz505 u182_0
    have fc507 := ((((((((((((((((((((((u87_9.keep K88 (ninS (Ne.symm nz489) nin0)).keep K97 nin0).keep K98 (ninS (Ne.symm nz489) (ninS nz490 nin0))).ext E105).keep K106 (ninS nz492 nin0)).ext E107).keep K108 (ninS nz494 nin0)).keep K126 (ninS nz492 nin0)).ext E133).keep K134 (ninS nz496 nin0)).ext E136).keep K137 (ninS nz498 nin0)).keep K155 (ninS nz496 nin0)).ext E162).keep K163 (ninS nz500 nin0)).ext E164).keep K165 (ninS nz502 nin0)).keep K182 (ninS nz500 nin0)).ext E189).keep K190 (ninS nz504 nin0)).keep K203 (ninS nz500 (ninS nz506 nin0))).ext E213)
    have lz508 := (lq (lq (lq lz503 E189.1) K190.1) K203.1)
    have nz509 := (nl lz508 (Nat.le_of_eq g213.symm))
    have fc510 := ((((((((((((((((((((((u87_8.keep K88 (ninS (Ne.symm nz468) nin0)).keep K97 nin0).keep K98 (ninS (Ne.symm nz468) (ninS nz469 nin0))).ext E105).keep K106 (ninS nz471 nin0)).ext E107).keep K108 (ninS nz473 nin0)).keep K126 (ninS nz471 nin0)).ext E133).keep K134 (ninS nz475 nin0)).ext E136).keep K137 (ninS nz477 nin0)).keep K155 (ninS nz475 nin0)).ext E162).keep K163 (ninS nz479 nin0)).ext E164).keep K165 (ninS nz481 nin0)).keep K182 (ninS nz479 nin0)).ext E189).keep K190 (ninS nz483 nin0)).keep K203 (ninS nz479 (ninS nz485 nin0))).ext E213)
    have nz511 := nl u74_2.lt u87_2
    have nz512 := nl u87_10.lt u88_0
    have lz513 := (lq (lq (lq u87_10.lt K88.1) K97.1) K98.1)
    have nz514 := (nl lz513 (Nat.le_of_eq g105.symm))
    have lz515 := (lq (lq lz513 E105.1) K106.1)
    have nz516 := (nl lz515 (Nat.le_of_eq g107.symm))
    have lz517 := (lq (lq (lq lz515 E107.1) K108.1) K126.1)
    have nz518 := (nl lz517 (Nat.le_of_eq g133.symm))
    have lz519 := (lq (lq lz517 E133.1) K134.1)
    have nz520 := (nl lz519 (Nat.le_of_eq g136.symm))
    have lz521 := (lq (lq (lq lz519 E136.1) K137.1) K155.1)
    have nz522 := (nl lz521 (Nat.le_of_eq g162.symm))
    have lz523 := (lq (lq lz521 E162.1) K163.1)
    have nz524 := (nl lz523 (Nat.le_of_eq g164.symm))
    have lz525 := (lq (lq (lq lz523 E164.1) K165.1) K182.1)
    have nz526 := (nl lz525 (Nat.le_of_eq g189.symm))
    have lz527 := (lq (lq lz523 E164.1) K165.1)
    have nz528 := nl lz527 u182_0
    have fc529 := ((((((((((((((((((((((u87_10.keep K88 (ninS (Ne.symm nz511) nin0)).keep K97 nin0).keep K98 (ninS (Ne.symm nz511) (ninS nz512 nin0))).ext E105).keep K106 (ninS nz514 nin0)).ext E107).keep K108 (ninS nz516 nin0)).keep K126 (ninS nz514 nin0)).ext E133).keep K134 (ninS nz518 nin0)).ext E136).keep K137 (ninS nz520 nin0)).keep K155 (ninS nz518 nin0)).ext E162).keep K163 (ninS nz522 nin0)).ext E164).keep K165 (ninS nz524 nin0)).keep K182 (ninS nz522 nin0)).ext E189).keep K190 (ninS nz526 nin0)).keep K203 (ninS nz522 (ninS nz528 nin0))).ext E213)
    have lz530 := (lq (lq (lq lz525 E189.1) K190.1) K203.1)
    have nz531 := (nl lz530 (Nat.le_of_eq g213.symm))
    have fc532 := ((((((((((u137_4.keep K155 (ninS (Ne.symm nz454) nin0)).ext E162).keep K163 (ninS nz456 nin0)).ext E164).keep K165 (ninS nz458 nin0)).keep K182 (ninS nz456 nin0)).ext E189).keep K190 (ninS nz460 nin0)).keep K203 (ninS nz456 (ninS nz462 nin0))).ext E213)
    have fc533 := (((((((((((fc153.keep K137).keep K155).ext E162).keep K163).ext E164).keep K165).keep K182).ext E189).keep K190).keep K203).ext E213)
    have nz534 := nl u88_6.lt u97_0
    have nz535 := nl u88_3.lt u97_0
    have lz536 := (lq u97_8.lt K98.1)
    have nz537 := (nl lz536 (Nat.le_of_eq g105.symm))
    have lz538 := (lq (lq lz536 E105.1) K106.1)
    have nz539 := (nl lz538 (Nat.le_of_eq g107.symm))
    have lz540 := (lq (lq (lq lz538 E107.1) K108.1) K126.1)
    have nz541 := (nl lz540 (Nat.le_of_eq g133.symm))
    have lz542 := (lq (lq lz540 E133.1) K134.1)
    have nz543 := (nl lz542 (Nat.le_of_eq g136.symm))
    have lz544 := (lq (lq fc153.lt K137.1) K155.1)
    have nz545 := (nl lz544 (Nat.le_of_eq g162.symm))
    have lz546 := (lq (lq lz544 E162.1) K163.1)
    have nz547 := (nl lz546 (Nat.le_of_eq g164.symm))
    have lz548 := (lq (lq (lq lz546 E164.1) K165.1) K182.1)
    have nz549 := (nl lz548 (Nat.le_of_eq g189.symm))
    have lz550 := (lq (lq lz546 E164.1) K165.1)
    have nz551 := nl lz550 u182_0
    have fc552 := ((((((((((((((((((((u97_7.keep K98 (ninS (Ne.symm nz535) (ninS (Ne.symm nz534) nin0))).ext E105).keep K106 (ninS nz537 nin0)).ext E107).keep K108 (ninS nz539 nin0)).keep K126 (ninS nz537 nin0)).ext E133).keep K134 (ninS nz541 nin0)).ext E136).keep K137 (ninS nz543 nin0)).keep K155 (ninS nz541 nin0)).ext E162).keep K163 (ninS nz545 nin0)).ext E164).keep K165 (ninS nz547 nin0)).keep K182 (ninS nz545 nin0)).ext E189).keep K190 (ninS nz549 nin0)).keep K203 (ninS nz545 (ninS nz551 nin0))).ext E213)
    have lz553 := (lq (lq (lq lz548 E189.1) K190.1) K203.1)
    have nz554 := (nl lz553 (Nat.le_of_eq g213.symm))
    have nz555 := nl u88_6.lt u97_1
    have nz556 := nl u88_3.lt u97_1
    have lz557 := (lq u97_9.lt K98.1)
    have nz558 := (nl lz557 (Nat.le_of_eq g105.symm))
    have lz559 := (lq (lq lz557 E105.1) K106.1)
    have nz560 := (nl lz559 (Nat.le_of_eq g107.symm))
    have lz561 := (lq (lq (lq lz559 E107.1) K108.1) K126.1)
    have nz562 := (nl lz561 (Nat.le_of_eq g133.symm))
    have lz563 := (lq (lq lz561 E133.1) K134.1)
    have nz564 := (nl lz563 (Nat.le_of_eq g136.symm))
    have lz565 := (lq (lq (lq lz563 E136.1) K137.1) K155.1)
    have nz566 := (nl lz565 (Nat.le_of_eq g162.symm))
    have lz567 := (lq (lq lz565 E162.1) K163.1)
    have nz568 := (nl lz567 (Nat.le_of_eq g164.symm))
    have lz569 := (lq (lq (lq lz567 E164.1) K165.1) K182.1)
    have nz570 := (nl lz569 (Nat.le_of_eq g189.symm))
    have lz571 := (lq (lq lz567 E164.1) K165.1)
    have nz572 := nl lz571 u182_0
    have fc573 := ((((((((((((((((((((u97_9.keep K98 (ninS (Ne.symm nz556) (ninS (Ne.symm nz555) nin0))).ext E105).keep K106 (ninS nz558 nin0)).ext E107).keep K108 (ninS nz560 nin0)).keep K126 (ninS nz558 nin0)).ext E133).keep K134 (ninS nz562 nin0)).ext E136).keep K137 (ninS nz564 nin0)).keep K155 (ninS nz562 nin0)).ext E162).keep K163 (ninS nz566 nin0)).ext E164).keep K165 (ninS nz568 nin0)).keep K182 (ninS nz566 nin0)).ext E189).keep K190 (ninS nz570 nin0)).keep K203 (ninS nz566 (ninS nz572 nin0))).ext E213)
    have lz574 := (lq (lq (lq lz569 E189.1) K190.1) K203.1)
    have nz575 := (nl lz574 (Nat.le_of_eq g213.symm))
    have fc576 := ((((((((((((((((((((u97_8.keep K98 (ninS (Ne.symm nz535) (ninS (Ne.symm nz534) nin0))).ext E105).keep K106 (ninS nz537 nin0)).ext E107).keep K108 (ninS nz539 nin0)).keep K126 (ninS nz537 nin0)).ext E133).keep K134 (ninS nz541 nin0)).ext E136).keep K137 (ninS nz543 nin0)).keep K155 (ninS nz541 nin0)).ext E162).keep K163 (ninS nz545 nin0)).ext E164).keep K165 (ninS nz547 nin0)).keep K182 (ninS nz545 nin0)).ext E189).keep K190 (ninS nz549 nin0)).keep K203 (ninS nz545 (ninS nz551 nin0))).ext E213)
    have nz577 := nl u88_6.lt u97_2
    have nz578 := nl u88_3.lt u97_2
    have lz579 := (lq u97_10.lt K98.1)
    have nz580 := (nl lz579 (Nat.le_of_eq g105.symm))
    have lz581 := (lq (lq lz579 E105.1) K106.1)
    have nz582 := (nl lz581 (Nat.le_of_eq g107.symm))
    have lz583 := (lq (lq (lq lz581 E107.1) K108.1) K126.1)
    have nz584 := (nl lz583 (Nat.le_of_eq g133.symm))
    have lz585 := (lq (lq lz583 E133.1) K134.1)
    have nz586 := (nl lz585 (Nat.le_of_eq g136.symm))
    have lz587 := (lq (lq (lq lz585 E136.1) K137.1) K155.1)
    have nz588 := (nl lz587 (Nat.le_of_eq g162.symm))
    have lz589 := (lq (lq lz587 E162.1) K163.1)
    have nz590 := (nl lz589 (Nat.le_of_eq g164.symm))
    have lz591 := (lq (lq (lq lz589 E164.1) K165.1) K182.1)
    have nz592 := (nl lz591 (Nat.le_of_eq g189.symm))
    have lz593 := (lq (lq lz589 E164.1) K165.1)
    have nz594 := nl lz593 u182_0
    have fc595 := ((((((((((((((((((((u97_10.keep K98 (ninS (Ne.symm nz578) (ninS (Ne.symm nz577) nin0))).ext E105).keep K106 (ninS nz580 nin0)).ext E107).keep K108 (ninS nz582 nin0)).keep K126 (ninS nz580 nin0)).ext E133).keep K134 (ninS nz584 nin0)).ext E136).keep K137 (ninS nz586 nin0)).keep K155 (ninS nz584 nin0)).ext E162).keep K163 (ninS nz588 nin0)).ext E164).keep K165 (ninS nz590 nin0)).keep K182 (ninS nz588 nin0)).ext E189).keep K190 (ninS nz592 nin0)).keep K203 (ninS nz588 (ninS nz594 nin0))).ext E213)
    have lz596 := (lq (lq (lq lz591 E189.1) K190.1) K203.1)
    have nz597 := (nl lz596 (Nat.le_of_eq g213.symm))
    obtain ⟨_, T214, L214, X214, hQ214, st214⟩ := own_cN X213 hx hZ190 hown190 hml (cw57 hw) (rm37_0 l Z a0 hw b213 b162 b182_0 b164 b189 kx182_0 b165_1 w_EMPTY b107 b108_0 b55_0 b55_1 y3 kx55_0 b55_2 y4 kx55_1 b65_0 b65_1 y5 kx65_0 b65_2 y6 kx65_1 b190_1 b136 b137_0 b87_0 b87_1 y7 kx87_0 b87_2 y8 kx87_1 b97_0 b97_1 y9 kx97_0 b97_2 y10 kx97_1 h213 n0 OL213 A213 F_fieldCount_b213 g_b213 fc215 nz216 fc217 F_values_b213 fc218 fc219 fc220 nz221 fc222 fc226 nz228 fc234 nz236 pr31 fc237 fc238 fc239 fc252 nz254 fc269 nz271 fc272 fc273 fc296 nz298 fc321 nz323 fc324 fc347 nz349 fc350 pr32 g_b65_0 fc351 fc374 nz376 fc399 nz401 fc402 fc425 nz427 fc428 fc429 nz431 fc436 nz438 fc439 fc440 fc441 fc450 nz452 fc463 nz465 fc466 fc467 fc486 nz488 fc507 nz509 fc510 fc529 nz531 fc532 g_b97_0 fc533 fc552 nz554 fc573 nz575 fc576 fc595 nz597) e213 b213 332 #[jv p1, sc, jv p2, sc, jv p3, sc, jv p4, sc, iv p5, iv p6, iv y2, rv b1, rv b2, iv y11, iv y13, iv y15, rv b37, rv b42, rv b73, rv b105, rv b133, rv b162, uu, uu, uu, uu] [(.int (2 : Int32)), (.ref b162)] [(.ref b213)] 1 rfl (hb hby at_332) (by decide)
    obtain ⟨b214_0, kx214_0, rfl, Nq214, K214, u214_0, u214_1, u214_2, u214_3⟩ := hQ214
    have OL214 := OL213.keep K214 (allS g_b213 all0)
    have N214 := Fr.app N203 Nq214
    have lz598 := (lq fc79.lt K87.1)
    have nz599 := nl lz598 u88_0
    have lz600 := (lq (lq fc93.lt K97.1) K98.1)
    have nz601 := (nl lz600 (Nat.le_of_eq g105.symm))
    have lz602 := (lq (lq lz600 E105.1) K106.1)
    have nz603 := (nl lz602 (Nat.le_of_eq g107.symm))
    have lz604 := (lq (lq (lq lz602 E107.1) K108.1) K126.1)
    have nz605 := (nl lz604 (Nat.le_of_eq g133.symm))
    have lz606 := (lq (lq lz604 E133.1) K134.1)
    have nz607 := (nl lz606 (Nat.le_of_eq g136.symm))
    have lz608 := (lq (lq (lq lz606 E136.1) K137.1) K155.1)
    have nz609 := (nl lz608 (Nat.le_of_eq g162.symm))
    have lz610 := (lq (lq lz608 E162.1) K163.1)
    have nz611 := (nl lz610 (Nat.le_of_eq g164.symm))
    have lz612 := (lq (lq (lq lz610 E164.1) K165.1) K182.1)
    have nz613 := (nl lz612 (Nat.le_of_eq g189.symm))
    have lz614 := (lq (lq lz610 E164.1) K165.1)
    have nz615 := nl lz614 u182_0
    have lz616 := (lq (lq (lq lz612 E189.1) K190.1) K203.1)
    have nz617 := (nl lz616 (Nat.le_of_eq g213.symm))
    have fc618 := ((((((((((((((((((((((fc93.keep K97 nin0).keep K98 (ninS nz78 (ninS nz599 nin0))).ext E105).keep K106 (ninS nz601 nin0)).ext E107).keep K108 (ninS nz603 nin0)).keep K126 (ninS nz601 nin0)).ext E133).keep K134 (ninS nz605 nin0)).ext E136).keep K137 (ninS nz607 nin0)).keep K155 (ninS nz605 nin0)).ext E162).keep K163 (ninS nz609 nin0)).ext E164).keep K165 (ninS nz611 nin0)).keep K182 (ninS nz609 nin0)).ext E189).keep K190 (ninS nz613 nin0)).keep K203 (ninS nz609 (ninS nz615 nin0))).ext E213).keep K214 (ninS nz617 nin0))
    have lz620 := (lq fc85.lt K87.1)
    have nz621 := nl lz620 u88_0
    have lz622 := (lq (lq fc95.lt K97.1) K98.1)
    have nz623 := (nl lz622 (Nat.le_of_eq g105.symm))
    have lz624 := (lq (lq lz622 E105.1) K106.1)
    have nz625 := (nl lz624 (Nat.le_of_eq g107.symm))
    have lz626 := (lq (lq (lq lz624 E107.1) K108.1) K126.1)
    have nz627 := (nl lz626 (Nat.le_of_eq g133.symm))
    have lz628 := (lq (lq lz626 E133.1) K134.1)
    have nz629 := (nl lz628 (Nat.le_of_eq g136.symm))
    have lz630 := (lq (lq (lq lz628 E136.1) K137.1) K155.1)
    have nz631 := (nl lz630 (Nat.le_of_eq g162.symm))
    have lz632 := (lq (lq lz630 E162.1) K163.1)
    have nz633 := (nl lz632 (Nat.le_of_eq g164.symm))
    have lz634 := (lq (lq (lq lz632 E164.1) K165.1) K182.1)
    have nz635 := (nl lz634 (Nat.le_of_eq g189.symm))
    have lz636 := (lq (lq lz632 E164.1) K165.1)
    have nz637 := nl lz636 u182_0
    have lz638 := (lq (lq (lq lz634 E189.1) K190.1) K203.1)
    have nz639 := (nl lz638 (Nat.le_of_eq g213.symm))
    have fc640 := ((((((((((((((((((((((fc95.keep K97 nin0).keep K98 (ninS nz84 (ninS nz621 nin0))).ext E105).keep K106 (ninS nz623 nin0)).ext E107).keep K108 (ninS nz625 nin0)).keep K126 (ninS nz623 nin0)).ext E133).keep K134 (ninS nz627 nin0)).ext E136).keep K137 (ninS nz629 nin0)).keep K155 (ninS nz627 nin0)).ext E162).keep K163 (ninS nz631 nin0)).ext E164).keep K165 (ninS nz633 nin0)).keep K182 (ninS nz631 nin0)).ext E189).keep K190 (ninS nz635 nin0)).keep K203 (ninS nz631 (ninS nz637 nin0))).ext E213).keep K214 (ninS nz639 nin0))
    obtain ⟨_, T644, L644, X644, hQ644, st644⟩ := own_cS X214 hx hZ190 hown190 hml (cw58 hw) (mg_own_ov l Z a0 hw y18 y19 y20 y21 T214.heap n0 OL214 ) rfl 392 #[jv p1, sc, jv p2, sc, jv p3, sc, jv p4, sc, iv p5, iv p6, iv y2, rv b1, rv b2, iv y11, iv y13, iv y15, rv b37, rv b42, rv b73, rv b105, rv b133, rv b162, rv b213, uu, iv y16, iv y17] [(.long y18), (.long y19), (.long y20), (.long y21)] [] 0 rfl (hb hby at_392) (by decide)
    obtain ⟨rfl, Nq644, ec644⟩ := hQ644
    have N644 := Fr.app N214 Nq644
    have pre645 : ∀ t, SS p e below T644 m 395 #[jv p1, sc, jv p2, sc, jv p3, sc, jv p4, sc, iv p5, iv p6, iv y2, rv b1, rv b2, iv y11, iv y13, iv y15, rv b37, rv b42, rv b73, rv b105, rv b133, rv b162, rv b213, uu, iv y16, iv y17] [(.int y22)] t → Steps p.tables e below (s₁.setTop (entryFrame m #[(.long p1), (.long p2), (.long p3), (.long p4), (.int p5), (.int p6)] maxLocals)) t := by
      intro t kt
      refine pre135 _ ?_
      refine XS.ifNo X134.here hx rfl (hb hby at_264) rfl ((if0 _ _).trans (teq hf135).2) ?_
      show SS p e below T134 m 267 #[jv p1, sc, jv p2, sc, jv p3, sc, jv p4, sc, iv p5, iv p6, iv y2, rv b1, rv b2, iv y11, iv y13, iv y15, rv b37, rv b42, rv b73, rv b105, rv b133, uu, uu, uu, uu, uu] [] _
      refine xaload X134 hx hby at_267 rfl rfl ?_
      refine st136 _ ?_
      refine XS.dup X136.here hx rfl (hb hby at_272) rfl rfl ?_
      refine xaload X136 hx hby at_273 rfl rfl ?_
      refine st137 _ ?_
      refine st155 _ ?_
      refine XS.pop X155.here hx rfl (hb hby at_281) rfl rfl ?_
      refine st162 _ ?_
      refine XS.dup X162.here hx rfl (hb hby at_285) rfl rfl ?_
      refine st163 _ ?_
      show SS p e below T163 m 289 #[jv p1, sc, jv p2, sc, jv p3, sc, jv p4, sc, iv p5, iv p6, iv y2, rv b1, rv b2, iv y11, iv y13, iv y15, rv b37, rv b42, rv b73, rv b105, rv b133, uu, uu, uu, uu, uu] [(.ref b162)] _
      refine XS.astore X163.here hx rfl (hb hby at_289) rfl rfl (l' := #[jv p1, sc, jv p2, sc, jv p3, sc, jv p4, sc, iv p5, iv p6, iv y2, rv b1, rv b2, iv y11, iv y13, iv y15, rv b37, rv b42, rv b73, rv b105, rv b133, rv b162, uu, uu, uu, uu]) rfl ?_
      refine xaload X163 hx hby at_291 rfl rfl ?_
      refine st164 _ ?_
      refine XS.dup X164.here hx rfl (hb hby at_296) rfl rfl ?_
      refine xaload X164 hx hby at_297 rfl rfl ?_
      refine xaload X164 hx hby at_299 rfl rfl ?_
      refine st165.trans ?_
      refine st182 _ ?_
      refine XS.pop X182.here hx rfl (hb hby at_307) rfl rfl ?_
      refine xaload X182 hx hby at_308 rfl rfl ?_
      show SS p e below T182 m 310 #[jv p1, sc, jv p2, sc, jv p3, sc, jv p4, sc, iv p5, iv p6, iv y2, rv b1, rv b2, iv y11, iv y13, iv y15, rv b37, rv b42, rv b73, rv b105, rv b133, rv b162, uu, uu, uu, uu] [(.ref b162)] _
      refine st189 _ ?_
      refine XS.dup X189.here hx rfl (hb hby at_313) rfl rfl ?_
      refine xaload X189 hx hby at_314 rfl rfl ?_
      refine xaload X189 hx hby at_316 rfl rfl ?_
      refine st190.trans ?_
      refine st203 _ ?_
      refine XS.pop X203.here hx rfl (hb hby at_324) rfl rfl ?_
      refine st213 _ ?_
      refine XS.dup X213.here hx rfl (hb hby at_328) rfl rfl ?_
      refine XS.iconst X213.here hx rfl (hb hby at_329) ?_
      show SS p e below T213 m 330 #[jv p1, sc, jv p2, sc, jv p3, sc, jv p4, sc, iv p5, iv p6, iv y2, rv b1, rv b2, iv y11, iv y13, iv y15, rv b37, rv b42, rv b73, rv b105, rv b133, rv b162, uu, uu, uu, uu] [(.int (2 : Int32)), (.ref b213), (.ref b213)] _
      refine xaload X213 hx hby at_330 rfl rfl ?_
      refine st214 _ ?_
      refine XS.astore X214.here hx rfl (hb hby at_335) rfl rfl (l' := #[jv p1, sc, jv p2, sc, jv p3, sc, jv p4, sc, iv p5, iv p6, iv y2, rv b1, rv b2, iv y11, iv y13, iv y15, rv b37, rv b42, rv b73, rv b105, rv b133, rv b162, rv b213, uu, uu, uu]) rfl ?_
      refine xiload X214 hx hby at_337 rfl ?_
      refine XS.ifYes X214.here hx rfl (pc0 := 339) (pc' := 360) rfl (hb hby at_339) rfl ((if0 _ _).trans (teq hf135).1) (by decide) (by decide) ?_
      refine xiload X214 hx hby at_360 rfl ?_
      refine XS.iconst X214.here hx rfl (hb hby at_362) ?_
      refine XS.imul X214.here hx rfl (hb hby at_363) rfl ?_
      show SS p e below T214 m 364 #[jv p1, sc, jv p2, sc, jv p3, sc, jv p4, sc, iv p5, iv p6, iv y2, rv b1, rv b2, iv y11, iv y13, iv y15, rv b37, rv b42, rv b73, rv b105, rv b133, rv b162, rv b213, uu, uu, uu] [(.int (y11 * (2 : Int32)))] _
      rw [pr33]
      refine XS.istore X214.here hx rfl (hb hby at_364) rfl (l' := #[jv p1, sc, jv p2, sc, jv p3, sc, jv p4, sc, iv p5, iv p6, iv y2, rv b1, rv b2, iv y11, iv y13, iv y15, rv b37, rv b42, rv b73, rv b105, rv b133, rv b162, rv b213, uu, iv y16, uu]) rfl ?_
      refine xiload X214 hx hby at_366 rfl ?_
      show SS p e below T214 m 368 #[jv p1, sc, jv p2, sc, jv p3, sc, jv p4, sc, iv p5, iv p6, iv y2, rv b1, rv b2, iv y11, iv y13, iv y15, rv b37, rv b42, rv b73, rv b105, rv b133, rv b162, rv b213, uu, iv y16, uu] [(.int y13)] _
      refine XS.iconst X214.here hx rfl (hb hby at_368) ?_
      refine XS.imul X214.here hx rfl (hb hby at_369) rfl ?_
      show SS p e below T214 m 370 #[jv p1, sc, jv p2, sc, jv p3, sc, jv p4, sc, iv p5, iv p6, iv y2, rv b1, rv b2, iv y11, iv y13, iv y15, rv b37, rv b42, rv b73, rv b105, rv b133, rv b162, rv b213, uu, iv y16, uu] [(.int (y13 * (2 : Int32)))] _
      rw [pr34]
      refine XS.istore X214.here hx rfl (hb hby at_370) rfl (l' := #[jv p1, sc, jv p2, sc, jv p3, sc, jv p4, sc, iv p5, iv p6, iv y2, rv b1, rv b2, iv y11, iv y13, iv y15, rv b37, rv b42, rv b73, rv b105, rv b133, rv b162, rv b213, uu, iv y16, iv y17]) rfl ?_
      refine xaload X214 hx hby at_372 rfl rfl ?_
      refine xiload X214 hx hby at_374 rfl ?_
      refine own_laJ X214 hx hZ190 rfl fc618 (v := (.long (own_at4 y3 y5 y7 y9 y16))) ⟨pr35, pr36⟩ (own_at4_s ..) (hb hby at_376) ?_
      show SS p e below T214 m 377 #[jv p1, sc, jv p2, sc, jv p3, sc, jv p4, sc, iv p5, iv p6, iv y2, rv b1, rv b2, iv y11, iv y13, iv y15, rv b37, rv b42, rv b73, rv b105, rv b133, rv b162, rv b213, uu, iv y16, iv y17] [(.long (own_at4 y3 y5 y7 y9 y16))] _
      rw [pr37]
      refine xaload X214 hx hby at_377 rfl rfl ?_
      refine xiload X214 hx hby at_379 rfl ?_
      refine own_laJ X214 hx hZ190 rfl fc640 (v := (.long (own_at4 y4 y6 y8 y10 y16))) ⟨pr35, pr36⟩ (own_at4_s ..) (hb hby at_381) ?_
      show SS p e below T214 m 382 #[jv p1, sc, jv p2, sc, jv p3, sc, jv p4, sc, iv p5, iv p6, iv y2, rv b1, rv b2, iv y11, iv y13, iv y15, rv b37, rv b42, rv b73, rv b105, rv b133, rv b162, rv b213, uu, iv y16, iv y17] [(.long (own_at4 y4 y6 y8 y10 y16)), (.long y18)] _
      rw [pr38]
      refine xaload X214 hx hby at_382 rfl rfl ?_
      show SS p e below T214 m 384 #[jv p1, sc, jv p2, sc, jv p3, sc, jv p4, sc, iv p5, iv p6, iv y2, rv b1, rv b2, iv y11, iv y13, iv y15, rv b37, rv b42, rv b73, rv b105, rv b133, rv b162, rv b213, uu, iv y16, iv y17] [(.ref b1), (.long y19), (.long y18)] _
      refine xiload X214 hx hby at_384 rfl ?_
      refine own_laJ X214 hx hZ190 rfl fc618 (v := (.long (own_at4 y3 y5 y7 y9 y17))) ⟨pr39, pr40⟩ (own_at4_s ..) (hb hby at_386) ?_
      show SS p e below T214 m 387 #[jv p1, sc, jv p2, sc, jv p3, sc, jv p4, sc, iv p5, iv p6, iv y2, rv b1, rv b2, iv y11, iv y13, iv y15, rv b37, rv b42, rv b73, rv b105, rv b133, rv b162, rv b213, uu, iv y16, iv y17] [(.long (own_at4 y3 y5 y7 y9 y17)), (.long y19), (.long y18)] _
      rw [pr41]
      refine xaload X214 hx hby at_387 rfl rfl ?_
      refine xiload X214 hx hby at_389 rfl ?_
      refine own_laJ X214 hx hZ190 rfl fc640 (v := (.long (own_at4 y4 y6 y8 y10 y17))) ⟨pr39, pr40⟩ (own_at4_s ..) (hb hby at_391) ?_
      show SS p e below T214 m 392 #[jv p1, sc, jv p2, sc, jv p3, sc, jv p4, sc, iv p5, iv p6, iv y2, rv b1, rv b2, iv y11, iv y13, iv y15, rv b37, rv b42, rv b73, rv b105, rv b133, rv b162, rv b213, uu, iv y16, iv y17] [(.long (own_at4 y4 y6 y8 y10 y17)), (.long y20), (.long y19), (.long y18)] _
      rw [pr42]
      refine st644 _ ?_
      show SS p e below T644 m 395 #[jv p1, sc, jv p2, sc, jv p3, sc, jv p4, sc, iv p5, iv p6, iv y2, rv b1, rv b2, iv y11, iv y13, iv y15, rv b37, rv b42, rv b73, rv b105, rv b133, rv b162, rv b213, uu, iv y16, iv y17] [(.int (own_ov y18 y19 y20 y21))] _
      rw [pr43]
      exact kt
    by_cases hf645 : y22 = (0 : Int32)
    · have fc647 := (A213.keep K214)
      obtain ⟨_, T646, L646, X646, hQ646, st646⟩ := own_cV X644 hx hZ190 hown190 hml (cw59 hw) (mg_own_meet l Z a0 hw b213 y11 y13 b214_0 (own_jmin (9223372036854775807 : Int64) y3) (own_jmax (-1 : Int64) y4) (own_jmin (9223372036854775807 : Int64) y5) (own_jmax (-1 : Int64) y6) (own_jmin (9223372036854775807 : Int64) y7) (own_jmax (-1 : Int64) y8) (own_jmin (9223372036854775807 : Int64) y9) (own_jmax (-1 : Int64) y10) kx214_0 T214.heap n0 OL214 u214_1 u214_2 u214_3 pr44 pr45 pr46 pr47 pr48 pr49 pr50 pr51 pr52 pr53 pr54 pr55 pr56 pr57 pr58 pr59) ec644 fc647 445 #[jv p1, sc, jv p2, sc, jv p3, sc, jv p4, sc, iv p5, iv p6, iv y2, rv b1, rv b2, iv y11, iv y13, iv y15, rv b37, rv b42, rv b73, rv b105, rv b133, rv b162, rv b213, iv (0 : Int32), iv y16, iv y17] [(.int y11), (.int y13)] [] 0 rfl (hb hby at_445) (by decide)
      obtain ⟨rfl, Nq646, ec646⟩ := hQ646
      have N646 := Fr.app N644 Nq646
      obtain ⟨fs, hr, hrun, hended, hRW⟩ := X646.leaveW (s := s) hS190 (by rw [ec646]; exact (Nat.le_trans (Nat.le_trans (Nat.le_trans (Nat.le_refl _) K203.1) E213.1) K214.1)) (v := some (.int (1 : Int32))) (fun h => by rw [Bd.returns] at h; cases h)
      refine ⟨_, _, pre645 _ ?_, hrun, hended, _, _, rfl, ⟨rfl, N646⟩, hRW.1, hRW.2.1, hRW.2.2.1, hRW.2.2.2.mono (by decide) (by decide)⟩
      refine XS.ifYes X644.here hx rfl (pc0 := 395) (pc' := 436) rfl (hb hby at_395) rfl ((if0 _ _).trans (teq hf645).1) (by decide) (by decide) ?_
      show SS p e below T644 m 436 #[jv p1, sc, jv p2, sc, jv p3, sc, jv p4, sc, iv p5, iv p6, iv y2, rv b1, rv b2, iv y11, iv y13, iv y15, rv b37, rv b42, rv b73, rv b105, rv b133, rv b162, rv b213, uu, iv y16, iv y17] [] _
      refine XS.iconst X644.here hx rfl (hb hby at_436) ?_
      refine XS.istore X644.here hx rfl (hb hby at_437) rfl (l' := #[jv p1, sc, jv p2, sc, jv p3, sc, jv p4, sc, iv p5, iv p6, iv y2, rv b1, rv b2, iv y11, iv y13, iv y15, rv b37, rv b42, rv b73, rv b105, rv b133, rv b162, rv b213, iv (0 : Int32), iv y16, iv y17]) rfl ?_
      refine xaload X644 hx hby at_439 rfl rfl ?_
      refine xiload X644 hx hby at_441 rfl ?_
      refine xiload X644 hx hby at_443 rfl ?_
      refine st646 _ ?_
      show SS p e below T646 m 448 #[jv p1, sc, jv p2, sc, jv p3, sc, jv p4, sc, iv p5, iv p6, iv y2, rv b1, rv b2, iv y11, iv y13, iv y15, rv b37, rv b42, rv b73, rv b105, rv b133, rv b162, rv b213, iv (0 : Int32), iv y16, iv y17] [(.int (own_meet y11 y13 (own_jmin (9223372036854775807 : Int64) y3) (own_jmax (-1 : Int64) y4) (own_jmin (9223372036854775807 : Int64) y5) (own_jmax (-1 : Int64) y6) (own_jmin (9223372036854775807 : Int64) y7) (own_jmax (-1 : Int64) y8) (own_jmin (9223372036854775807 : Int64) y9) (own_jmax (-1 : Int64) y10)))] _
      rw [pr60]
      refine xiload X646 hx hby at_448 rfl ?_
      refine XS.icmpNo X646.here hx rfl (hb hby at_450) rfl (teq (by rw [← pr60]; simp only [own_jmin_id, own_jmax_id2 pr18 pr17, own_jmax_id2 pr22 pr21, own_jmax_id2 pr25 pr24, own_jmax_id2 pr28 pr27]; rw [own_finA (own_01 pr11) (own_01 pr13)]; simp only [pr33, pr34, pr37, pr38, pr41, pr42, pr43]; rw [if_pos hf645])).2 ?_
      refine XS.iconst X646.here hx rfl (hb hby at_453) ?_
      refine XS.goto X646.here hx rfl (pc0 := 454) (pc' := 458) rfl (hb hby at_454) (by decide) (by decide) ?_
      show SS p e below T646 m 458 #[jv p1, sc, jv p2, sc, jv p3, sc, jv p4, sc, iv p5, iv p6, iv y2, rv b1, rv b2, iv y11, iv y13, iv y15, rv b37, rv b42, rv b73, rv b105, rv b133, rv b162, rv b213, iv (0 : Int32), iv y16, iv y17] [(.int (1 : Int32))] _
      exact retN X646 hx (t := .boolean) Bd.returns (by simp) (hb hby at_458) hr
    · obtain ⟨_, T652, L652, X652, hQ652, st652⟩ := own_cS X644 hx hZ190 hown190 hml (cw58 hw) (mg_own_ov l Z a0 hw y25 y26 y28 y29 T214.heap n0 OL214 ) ec644 426 #[jv p1, sc, jv p2, sc, jv p3, sc, jv p4, sc, iv p5, iv p6, iv y2, rv b1, rv b2, iv y11, iv y13, iv y15, rv b37, rv b42, rv b73, rv b105, rv b133, rv b162, rv b213, uu, iv y16, iv y17] [(.long y25), (.long y26), (.long y28), (.long y29)] [] 0 rfl (hb hby at_426) (by decide)
      obtain ⟨rfl, Nq652, ec652⟩ := hQ652
      have N652 := Fr.app N644 Nq652
      have pre653 : ∀ t, SS p e below T652 m 429 #[jv p1, sc, jv p2, sc, jv p3, sc, jv p4, sc, iv p5, iv p6, iv y2, rv b1, rv b2, iv y11, iv y13, iv y15, rv b37, rv b42, rv b73, rv b105, rv b133, rv b162, rv b213, uu, iv y16, iv y17] [(.int y30)] t → Steps p.tables e below (s₁.setTop (entryFrame m #[(.long p1), (.long p2), (.long p3), (.long p4), (.int p5), (.int p6)] maxLocals)) t := by
        intro t kt
        refine pre645 _ ?_
        refine XS.ifNo X644.here hx rfl (hb hby at_395) rfl ((if0 _ _).trans (feq hf645).1) ?_
        show SS p e below T644 m 398 #[jv p1, sc, jv p2, sc, jv p3, sc, jv p4, sc, iv p5, iv p6, iv y2, rv b1, rv b2, iv y11, iv y13, iv y15, rv b37, rv b42, rv b73, rv b105, rv b133, rv b162, rv b213, uu, iv y16, iv y17] [] _
        refine xaload X644 hx hby at_398 rfl rfl ?_
        refine xiload X644 hx hby at_400 rfl ?_
        refine XS.iconst X644.here hx rfl (hb hby at_402) ?_
        refine XS.iadd X644.here hx rfl (hb hby at_403) rfl ?_
        show SS p e below T644 m 404 #[jv p1, sc, jv p2, sc, jv p3, sc, jv p4, sc, iv p5, iv p6, iv y2, rv b1, rv b2, iv y11, iv y13, iv y15, rv b37, rv b42, rv b73, rv b105, rv b133, rv b162, rv b213, uu, iv y16, iv y17] [(.int (y16 + (1 : Int32))), (.ref b1)] _
        rw [pr61]
        refine own_laJ X644 hx hZ190 ec644 fc618 (v := (.long (own_at4 y3 y5 y7 y9 y24))) ⟨pr62, pr63⟩ (own_at4_s ..) (hb hby at_404) ?_
        show SS p e below T644 m 405 #[jv p1, sc, jv p2, sc, jv p3, sc, jv p4, sc, iv p5, iv p6, iv y2, rv b1, rv b2, iv y11, iv y13, iv y15, rv b37, rv b42, rv b73, rv b105, rv b133, rv b162, rv b213, uu, iv y16, iv y17] [(.long (own_at4 y3 y5 y7 y9 y24))] _
        rw [pr64]
        refine xaload X644 hx hby at_405 rfl rfl ?_
        refine xiload X644 hx hby at_407 rfl ?_
        refine XS.iconst X644.here hx rfl (hb hby at_409) ?_
        refine XS.iadd X644.here hx rfl (hb hby at_410) rfl ?_
        show SS p e below T644 m 411 #[jv p1, sc, jv p2, sc, jv p3, sc, jv p4, sc, iv p5, iv p6, iv y2, rv b1, rv b2, iv y11, iv y13, iv y15, rv b37, rv b42, rv b73, rv b105, rv b133, rv b162, rv b213, uu, iv y16, iv y17] [(.int (y16 + (1 : Int32))), (.ref b2), (.long y25)] _
        rw [pr61]
        refine own_laJ X644 hx hZ190 ec644 fc640 (v := (.long (own_at4 y4 y6 y8 y10 y24))) ⟨pr62, pr63⟩ (own_at4_s ..) (hb hby at_411) ?_
        show SS p e below T644 m 412 #[jv p1, sc, jv p2, sc, jv p3, sc, jv p4, sc, iv p5, iv p6, iv y2, rv b1, rv b2, iv y11, iv y13, iv y15, rv b37, rv b42, rv b73, rv b105, rv b133, rv b162, rv b213, uu, iv y16, iv y17] [(.long (own_at4 y4 y6 y8 y10 y24)), (.long y25)] _
        rw [pr65]
        show SS p e below T644 m 412 #[jv p1, sc, jv p2, sc, jv p3, sc, jv p4, sc, iv p5, iv p6, iv y2, rv b1, rv b2, iv y11, iv y13, iv y15, rv b37, rv b42, rv b73, rv b105, rv b133, rv b162, rv b213, uu, iv y16, iv y17] [(.long y26), (.long y25)] _
        refine xaload X644 hx hby at_412 rfl rfl ?_
        refine xiload X644 hx hby at_414 rfl ?_
        refine XS.iconst X644.here hx rfl (hb hby at_416) ?_
        refine XS.iadd X644.here hx rfl (hb hby at_417) rfl ?_
        show SS p e below T644 m 418 #[jv p1, sc, jv p2, sc, jv p3, sc, jv p4, sc, iv p5, iv p6, iv y2, rv b1, rv b2, iv y11, iv y13, iv y15, rv b37, rv b42, rv b73, rv b105, rv b133, rv b162, rv b213, uu, iv y16, iv y17] [(.int (y17 + (1 : Int32))), (.ref b1), (.long y26), (.long y25)] _
        rw [pr66]
        refine own_laJ X644 hx hZ190 ec644 fc618 (v := (.long (own_at4 y3 y5 y7 y9 y27))) ⟨pr67, pr68⟩ (own_at4_s ..) (hb hby at_418) ?_
        show SS p e below T644 m 419 #[jv p1, sc, jv p2, sc, jv p3, sc, jv p4, sc, iv p5, iv p6, iv y2, rv b1, rv b2, iv y11, iv y13, iv y15, rv b37, rv b42, rv b73, rv b105, rv b133, rv b162, rv b213, uu, iv y16, iv y17] [(.long (own_at4 y3 y5 y7 y9 y27)), (.long y26), (.long y25)] _
        rw [pr69]
        refine xaload X644 hx hby at_419 rfl rfl ?_
        refine xiload X644 hx hby at_421 rfl ?_
        refine XS.iconst X644.here hx rfl (hb hby at_423) ?_
        refine XS.iadd X644.here hx rfl (hb hby at_424) rfl ?_
        show SS p e below T644 m 425 #[jv p1, sc, jv p2, sc, jv p3, sc, jv p4, sc, iv p5, iv p6, iv y2, rv b1, rv b2, iv y11, iv y13, iv y15, rv b37, rv b42, rv b73, rv b105, rv b133, rv b162, rv b213, uu, iv y16, iv y17] [(.int (y17 + (1 : Int32))), (.ref b2), (.long y28), (.long y26), (.long y25)] _
        rw [pr66]
        refine own_laJ X644 hx hZ190 ec644 fc640 (v := (.long (own_at4 y4 y6 y8 y10 y27))) ⟨pr67, pr68⟩ (own_at4_s ..) (hb hby at_425) ?_
        show SS p e below T644 m 426 #[jv p1, sc, jv p2, sc, jv p3, sc, jv p4, sc, iv p5, iv p6, iv y2, rv b1, rv b2, iv y11, iv y13, iv y15, rv b37, rv b42, rv b73, rv b105, rv b133, rv b162, rv b213, uu, iv y16, iv y17] [(.long (own_at4 y4 y6 y8 y10 y27)), (.long y28), (.long y26), (.long y25)] _
        rw [pr70]
        show SS p e below T644 m 426 #[jv p1, sc, jv p2, sc, jv p3, sc, jv p4, sc, iv p5, iv p6, iv y2, rv b1, rv b2, iv y11, iv y13, iv y15, rv b37, rv b42, rv b73, rv b105, rv b133, rv b162, rv b213, uu, iv y16, iv y17] [(.long y29), (.long y28), (.long y26), (.long y25)] _
        refine st652 _ ?_
        show SS p e below T652 m 429 #[jv p1, sc, jv p2, sc, jv p3, sc, jv p4, sc, iv p5, iv p6, iv y2, rv b1, rv b2, iv y11, iv y13, iv y15, rv b37, rv b42, rv b73, rv b105, rv b133, rv b162, rv b213, uu, iv y16, iv y17] [(.int (own_ov y25 y26 y28 y29))] _
        rw [pr71]
        exact kt
      by_cases hf653 : y30 = (0 : Int32)
      · have fc655 := (A213.keep K214)
        obtain ⟨_, T654, L654, X654, hQ654, st654⟩ := own_cV X652 hx hZ190 hown190 hml (cw59 hw) (mg_own_meet l Z a0 hw b213 y11 y13 b214_0 (own_jmin (9223372036854775807 : Int64) y3) (own_jmax (-1 : Int64) y4) (own_jmin (9223372036854775807 : Int64) y5) (own_jmax (-1 : Int64) y6) (own_jmin (9223372036854775807 : Int64) y7) (own_jmax (-1 : Int64) y8) (own_jmin (9223372036854775807 : Int64) y9) (own_jmax (-1 : Int64) y10) kx214_0 T214.heap n0 OL214 u214_1 u214_2 u214_3 pr44 pr45 pr46 pr47 pr48 pr49 pr50 pr51 pr52 pr53 pr54 pr55 pr56 pr57 pr58 pr59) ec652 fc655 445 #[jv p1, sc, jv p2, sc, jv p3, sc, jv p4, sc, iv p5, iv p6, iv y2, rv b1, rv b2, iv y11, iv y13, iv y15, rv b37, rv b42, rv b73, rv b105, rv b133, rv b162, rv b213, iv (0 : Int32), iv y16, iv y17] [(.int y11), (.int y13)] [] 0 rfl (hb hby at_445) (by decide)
        obtain ⟨rfl, Nq654, ec654⟩ := hQ654
        have N654 := Fr.app N652 Nq654
        obtain ⟨fs, hr, hrun, hended, hRW⟩ := X654.leaveW (s := s) hS190 (by rw [ec654]; exact (Nat.le_trans (Nat.le_trans (Nat.le_trans (Nat.le_refl _) K203.1) E213.1) K214.1)) (v := some (.int (1 : Int32))) (fun h => by rw [Bd.returns] at h; cases h)
        refine ⟨_, _, pre653 _ ?_, hrun, hended, _, _, rfl, ⟨rfl, N654⟩, hRW.1, hRW.2.1, hRW.2.2.1, hRW.2.2.2.mono (by decide) (by decide)⟩
        refine XS.ifYes X652.here hx rfl (pc0 := 429) (pc' := 436) rfl (hb hby at_429) rfl ((if0 _ _).trans (teq hf653).1) (by decide) (by decide) ?_
        show SS p e below T652 m 436 #[jv p1, sc, jv p2, sc, jv p3, sc, jv p4, sc, iv p5, iv p6, iv y2, rv b1, rv b2, iv y11, iv y13, iv y15, rv b37, rv b42, rv b73, rv b105, rv b133, rv b162, rv b213, uu, iv y16, iv y17] [] _
        refine XS.iconst X652.here hx rfl (hb hby at_436) ?_
        refine XS.istore X652.here hx rfl (hb hby at_437) rfl (l' := #[jv p1, sc, jv p2, sc, jv p3, sc, jv p4, sc, iv p5, iv p6, iv y2, rv b1, rv b2, iv y11, iv y13, iv y15, rv b37, rv b42, rv b73, rv b105, rv b133, rv b162, rv b213, iv (0 : Int32), iv y16, iv y17]) rfl ?_
        refine xaload X652 hx hby at_439 rfl rfl ?_
        refine xiload X652 hx hby at_441 rfl ?_
        refine xiload X652 hx hby at_443 rfl ?_
        refine st654 _ ?_
        show SS p e below T654 m 448 #[jv p1, sc, jv p2, sc, jv p3, sc, jv p4, sc, iv p5, iv p6, iv y2, rv b1, rv b2, iv y11, iv y13, iv y15, rv b37, rv b42, rv b73, rv b105, rv b133, rv b162, rv b213, iv (0 : Int32), iv y16, iv y17] [(.int (own_meet y11 y13 (own_jmin (9223372036854775807 : Int64) y3) (own_jmax (-1 : Int64) y4) (own_jmin (9223372036854775807 : Int64) y5) (own_jmax (-1 : Int64) y6) (own_jmin (9223372036854775807 : Int64) y7) (own_jmax (-1 : Int64) y8) (own_jmin (9223372036854775807 : Int64) y9) (own_jmax (-1 : Int64) y10)))] _
        rw [pr60]
        refine xiload X654 hx hby at_448 rfl ?_
        refine XS.icmpNo X654.here hx rfl (hb hby at_450) rfl (teq (by rw [← pr60]; simp only [own_jmin_id, own_jmax_id2 pr18 pr17, own_jmax_id2 pr22 pr21, own_jmax_id2 pr25 pr24, own_jmax_id2 pr28 pr27]; rw [own_finA (own_01 pr11) (own_01 pr13)]; simp only [pr33, pr34, pr37, pr38, pr41, pr42, pr43, pr61, pr64, pr65, pr66, pr69, pr70, pr71]; rw [if_neg hf645, if_pos hf653])).2 ?_
        refine XS.iconst X654.here hx rfl (hb hby at_453) ?_
        refine XS.goto X654.here hx rfl (pc0 := 454) (pc' := 458) rfl (hb hby at_454) (by decide) (by decide) ?_
        show SS p e below T654 m 458 #[jv p1, sc, jv p2, sc, jv p3, sc, jv p4, sc, iv p5, iv p6, iv y2, rv b1, rv b2, iv y11, iv y13, iv y15, rv b37, rv b42, rv b73, rv b105, rv b133, rv b162, rv b213, iv (0 : Int32), iv y16, iv y17] [(.int (1 : Int32))] _
        exact retN X654 hx (t := .boolean) Bd.returns (by simp) (hb hby at_458) hr
      · have fc657 := (A213.keep K214)
        obtain ⟨_, T656, L656, X656, hQ656, st656⟩ := own_cV X652 hx hZ190 hown190 hml (cw59 hw) (mg_own_meet l Z a0 hw b213 y11 y13 b214_0 (own_jmin (9223372036854775807 : Int64) y3) (own_jmax (-1 : Int64) y4) (own_jmin (9223372036854775807 : Int64) y5) (own_jmax (-1 : Int64) y6) (own_jmin (9223372036854775807 : Int64) y7) (own_jmax (-1 : Int64) y8) (own_jmin (9223372036854775807 : Int64) y9) (own_jmax (-1 : Int64) y10) kx214_0 T214.heap n0 OL214 u214_1 u214_2 u214_3 pr44 pr45 pr46 pr47 pr48 pr49 pr50 pr51 pr52 pr53 pr54 pr55 pr56 pr57 pr58 pr59) ec652 fc657 445 #[jv p1, sc, jv p2, sc, jv p3, sc, jv p4, sc, iv p5, iv p6, iv y2, rv b1, rv b2, iv y11, iv y13, iv y15, rv b37, rv b42, rv b73, rv b105, rv b133, rv b162, rv b213, iv (1 : Int32), iv y16, iv y17] [(.int y11), (.int y13)] [] 0 rfl (hb hby at_445) (by decide)
        obtain ⟨rfl, Nq656, ec656⟩ := hQ656
        have N656 := Fr.app N652 Nq656
        obtain ⟨fs, hr, hrun, hended, hRW⟩ := X656.leaveW (s := s) hS190 (by rw [ec656]; exact (Nat.le_trans (Nat.le_trans (Nat.le_trans (Nat.le_refl _) K203.1) E213.1) K214.1)) (v := some (.int (1 : Int32))) (fun h => by rw [Bd.returns] at h; cases h)
        refine ⟨_, _, pre653 _ ?_, hrun, hended, _, _, rfl, ⟨rfl, N656⟩, hRW.1, hRW.2.1, hRW.2.2.1, hRW.2.2.2.mono (by decide) (by decide)⟩
        refine XS.ifNo X652.here hx rfl (hb hby at_429) rfl ((if0 _ _).trans (feq hf653).1) ?_
        show SS p e below T652 m 432 #[jv p1, sc, jv p2, sc, jv p3, sc, jv p4, sc, iv p5, iv p6, iv y2, rv b1, rv b2, iv y11, iv y13, iv y15, rv b37, rv b42, rv b73, rv b105, rv b133, rv b162, rv b213, uu, iv y16, iv y17] [] _
        refine XS.iconst X652.here hx rfl (hb hby at_432) ?_
        refine XS.goto X652.here hx rfl (pc0 := 433) (pc' := 437) rfl (hb hby at_433) (by decide) (by decide) ?_
        refine XS.istore X652.here hx rfl (hb hby at_437) rfl (l' := #[jv p1, sc, jv p2, sc, jv p3, sc, jv p4, sc, iv p5, iv p6, iv y2, rv b1, rv b2, iv y11, iv y13, iv y15, rv b37, rv b42, rv b73, rv b105, rv b133, rv b162, rv b213, iv (1 : Int32), iv y16, iv y17]) rfl ?_
        refine xaload X652 hx hby at_439 rfl rfl ?_
        refine xiload X652 hx hby at_441 rfl ?_
        refine xiload X652 hx hby at_443 rfl ?_
        refine st656 _ ?_
        show SS p e below T656 m 448 #[jv p1, sc, jv p2, sc, jv p3, sc, jv p4, sc, iv p5, iv p6, iv y2, rv b1, rv b2, iv y11, iv y13, iv y15, rv b37, rv b42, rv b73, rv b105, rv b133, rv b162, rv b213, iv (1 : Int32), iv y16, iv y17] [(.int (own_meet y11 y13 (own_jmin (9223372036854775807 : Int64) y3) (own_jmax (-1 : Int64) y4) (own_jmin (9223372036854775807 : Int64) y5) (own_jmax (-1 : Int64) y6) (own_jmin (9223372036854775807 : Int64) y7) (own_jmax (-1 : Int64) y8) (own_jmin (9223372036854775807 : Int64) y9) (own_jmax (-1 : Int64) y10)))] _
        rw [pr60]
        refine xiload X656 hx hby at_448 rfl ?_
        refine XS.icmpNo X656.here hx rfl (hb hby at_450) rfl (teq (by rw [← pr60]; simp only [own_jmin_id, own_jmax_id2 pr18 pr17, own_jmax_id2 pr22 pr21, own_jmax_id2 pr25 pr24, own_jmax_id2 pr28 pr27]; rw [own_finA (own_01 pr11) (own_01 pr13)]; simp only [pr33, pr34, pr37, pr38, pr41, pr42, pr43, pr61, pr64, pr65, pr66, pr69, pr70, pr71]; rw [if_neg hf645, if_neg hf653])).2 ?_
        refine XS.iconst X656.here hx rfl (hb hby at_453) ?_
        show SS p e below T656 m 454 #[jv p1, sc, jv p2, sc, jv p3, sc, jv p4, sc, iv p5, iv p6, iv y2, rv b1, rv b2, iv y11, iv y13, iv y15, rv b37, rv b42, rv b73, rv b105, rv b133, rv b162, rv b213, iv (1 : Int32), iv y16, iv y17] [(.int (1 : Int32))] _
        refine XS.goto X656.here hx rfl (pc0 := 454) (pc' := 458) rfl (hb hby at_454) (by decide) (by decide) ?_
        show SS p e below T656 m 458 #[jv p1, sc, jv p2, sc, jv p3, sc, jv p4, sc, iv p5, iv p6, iv y2, rv b1, rv b2, iv y11, iv y13, iv y15, rv b37, rv b42, rv b73, rv b105, rv b133, rv b162, rv b213, iv (1 : Int32), iv y16, iv y17] [(.int (1 : Int32))] _
        exact retN X656 hx (t := .boolean) Bd.returns (by simp) (hb hby at_458) hr
  · obtain ⟨T658, h658, X658, e658, E658, A658, D658, -, st658⟩ := newO X134 hx hZ39 hown39 (wd45 hw) (wd46 hw) (wd47 hw) rfl (g := (mkF m 282 #[jv p1, sc, jv p2, sc, jv p3, sc, jv p4, sc, iv p5, iv p6, iv y2, rv b1, rv b2, iv y11, iv y13, iv y15, rv b37, rv b42, rv b73, rv b105, rv b133, uu, uu, uu, uu, uu] [])) rfl (hb hby at_282) (by decide) (by decide)
    obtain ⟨b658, g658⟩ : ∃ z, z = T134.heap.size := ⟨_, rfl⟩
    rw [← g658] at A658 D658 st658
    have g_b658 : n0 ≤ b658 := (Nat.le_trans (Nat.le_trans (Nat.le_of_eq OL134.1.symm) OL134.2.1) (Nat.le_of_eq g658.symm))
    have OL658 := OL134.ext E658
    have F_modCount_b658 : Fld Z h658 b658 s25 s41 "I" (.int (0 : Int32)) := D658 (Or.inl (wd65 hw)) (ty := .int) (by decide)
    have F_elementData_b658 : Fld Z h658 b658 s26 s12 s8 .null := D658 (Or.inl (wd68 hw)) (ty := (.array (.object s20))) (by decide)
    have F_size_b658 : Fld Z h658 b658 s26 "size" "I" (.int (0 : Int32)) := D658 (Or.inl (wd92 hw)) (ty := .int) (by decide)
    obtain ⟨_, T659, L659, X659, hQ659, st659⟩ := own_cN X658 hx hZ39 hown39 hml (cw8 hw) (rm9_0 l Z a0 hw b658 w_DEFAULTCAPACITY_EMPTY_ELEMENTDATA h658 n0 OL658 A658 F_modCount_b658 g_b658 F_elementData_b658 F_size_b658 pr16) e658 b658 286 #[jv p1, sc, jv p2, sc, jv p3, sc, jv p4, sc, iv p5, iv p6, iv y2, rv b1, rv b2, iv y11, iv y13, iv y15, rv b37, rv b42, rv b73, rv b105, rv b133, uu, uu, uu, uu, uu] [] [(.ref b658)] 1 rfl (hb hby at_286) (by decide)
    obtain ⟨rfl, Nq659, K659, u659_0, u659_1, u659_2⟩ := hQ659
    have OL659 := OL658.keep K659 (allS g_b658 all0)
    have N659 := Fr.app N134 Nq659
    obtain ⟨T660, h660, X660, e660, E660, A660, D660, -, st660⟩ := newO X659 hx hZ39 hown39 (wd208 hw) (wd209 hw) (wd210 hw) rfl (g := (mkF m 293 #[jv p1, sc, jv p2, sc, jv p3, sc, jv p4, sc, iv p5, iv p6, iv y2, rv b1, rv b2, iv y11, iv y13, iv y15, rv b37, rv b42, rv b73, rv b105, rv b133, rv b658, uu, uu, uu, uu] [(.ref b658)])) rfl (hb hby at_293) (by decide) (by decide)
    obtain ⟨b660, g660⟩ : ∃ z, z = T659.heap.size := ⟨_, rfl⟩
    rw [← g660] at A660 D660 st660
    have g_b660 : n0 ≤ b660 := (Nat.le_trans (Nat.le_trans (Nat.le_of_eq OL659.1.symm) OL659.2.1) (Nat.le_of_eq g660.symm))
    have OL660 := OL659.ext E660
    have F_decision_b660 : Fld Z h660 b660 s47 s11 s7 .null := D660 (Or.inr (wd240 hw)) (ty := (.object s39)) (by decide)
    have F_match_b660 : Fld Z h660 b660 s47 "match" s6 .null := D660 (Or.inr (wd242 hw)) (ty := (.object s37)) (by decide)
    have F_exact_b660 : Fld Z h660 b660 s47 "exact" "Z" (.int (0 : Int32)) := D660 (Or.inr (wd244 hw)) (ty := .boolean) (by decide)
    have fc662 := ((((((fc129.keep K126).ext E133).keep K134).ext E658).keep K659).ext E660)
    have nz663 := (nl u126_3.lt (Nat.le_of_eq g133.symm))
    have lz664 := (lq (lq u126_3.lt E133.1) K134.1)
    have nz665 := (nl lz664 (Nat.le_of_eq g658.symm))
    have fc666 := (((((u126_3.ext E133).keep K134 (ninS nz663 nin0)).ext E658).keep K659 (ninS nz665 nin0)).ext E660)
    have fc667 := (((((u126_2.ext E133).keep K134 (ninS nz663 nin0)).ext E658).keep K659 (ninS nz665 nin0)).ext E660)
    have fc668 := (((((u126_6.ext E133).keep K134).ext E658).keep K659).ext E660)
    have nz669 := (nl u126_6.lt (Nat.le_of_eq g133.symm))
    have lz670 := (lq (lq u126_6.lt E133.1) K134.1)
    have nz671 := (nl lz670 (Nat.le_of_eq g658.symm))
    have fc672 := (((((u126_4.ext E133).keep K134 (ninS nz669 nin0)).ext E658).keep K659 (ninS nz671 nin0)).ext E660)
    have fc673 := ((((((fc132.keep K126).ext E133).keep K134).ext E658).keep K659).ext E660)
    obtain ⟨_, _, ⟨T661, L661, k661, n661⟩, -, Xa661, hSi661, hgr661, ⟨Lc661, hQ661, l661, y661, z661⟩, st661⟩ := X660.specialBackS hx (y := mn32) rfl hown39 (mvT hZ39 (wd211 hw)) (mvT hZ39 (wd212 hw)) (mvT hZ39 (wd213 hw)) (by decide) (backOfS (W := 2) (rm32_0 l Z a0 hw [] b660 b37 b105 b126_0 mir_objs b107 kx126_0 w_EMPTY h660 n0 OL660 fc662 fc666 fc667 pr30 fc668 fc672 fc673 pr31 A660 F_decision_b660 g_b660 F_match_b660 F_exact_b660) hZ39 (wd213 hw) (wd210 hw) (by decide) (by decide)) (g := (mkF m 301 #[jv p1, sc, jv p2, sc, jv p3, sc, jv p4, sc, iv p5, iv p6, iv y2, rv b1, rv b2, iv y11, iv y13, iv y15, rv b37, rv b42, rv b73, rv b105, rv b133, rv b658, uu, uu, uu, uu] [(.ref b105), (.ref b37), (.ref b660), (.ref b660), (.ref b658)])) rfl (by rw [hml]; rfl) (Steps.refl _) (a := b660) (argsL := [(.ref b37), (.ref b105)]) (rest := [(.ref b660), (.ref b658)]) (lenOf pd_23 rfl) rfl (by show 2 * 0 + _ ≤ _; exact Nat.le_of_eq rfl) (hb hby at_301) (fun _ _ => ⟨rfl, e660, (by decide : 31 + 5 ≤ _), (by decide : 106 + 40 ≤ _)⟩)
    dsimp only [Pt.U, Pt.locs, Pt.cells, Pt.slots] at Xa661 l661 y661 z661 st661 hQ661 hSi661 hgr661
    have Xb661 := own_sub Xa661 l661 y661 z661
    obtain ⟨X661, hS661, hZ661, hown661⟩ := rebS (s := s) (vm0 := T39.vm) hS39 (n1 := T660.heap.size) (by rw [e660]; exact (Nat.le_trans (Nat.le_trans (Nat.le_trans (Nat.le_trans (Nat.le_trans (Nat.le_trans (Nat.le_trans (Nat.le_trans (Nat.le_trans (Nat.le_trans (Nat.le_trans (Nat.le_trans (Nat.le_trans (Nat.le_trans (Nat.le_trans (Nat.le_trans (Nat.le_trans (Nat.le_trans (Nat.le_trans (Nat.le_trans (Nat.le_trans (Nat.le_trans (Nat.le_refl _) E42.1) K43.1) K55.1) K56.1) K65.1) K66.1) E73.1) K74.1) K87.1) K88.1) K97.1) K98.1) E105.1) K106.1) E107.1) K108.1) K126.1) E133.1) K134.1) E658.1) K659.1) E660.1)) Xb661 hSi661 hgr661 hZ39 hown39
    obtain ⟨b661_0, b661_1, rfl, Nq661, K661, u661_0, u661_1, u661_2, u661_3, u661_4, u661_5, u661_6, u661_7, u661_8, u661_9, u661_10⟩ := hQ661
    have OL661 := OL660.keep K661 (allS g_b660 all0)
    have N661 := Fr.app N659 Nq661
    have nz675 := (nl u659_2.lt (Nat.le_of_eq g660.symm))
    have fc676 := ((u659_0.ext E660).keep K661 (ninS nz675 nin0))
    have fc677 := (((A658.keep K659).ext E660).keep K661)
    have fc678 := ((u659_1.ext E660).keep K661 (ninS nz675 nin0))
    have fc679 := ((u659_2.ext E660).keep K661 (ninS nz675 nin0))
    have fc680 := (A660.keep K661)
    obtain ⟨_, T674, L674, X674, hQ674, st674⟩ := own_cV X661 hx hZ661 hown661 hml (cw15 hw) (rm14_3 l Z a0 hw b658 b660 w_DEFAULTCAPACITY_EMPTY_ELEMENTDATA k_w_DEFAULTCAPACITY_EMPTY_ELEMENTDATA T661.heap n0 OL661 fc676 fc677 g_b658 fc678 fc679 pr20 pr16 fc680) rfl fc677 304 #[jv p1, sc, jv p2, sc, jv p3, sc, jv p4, sc, iv p5, iv p6, iv y2, rv b1, rv b2, iv y11, iv y13, iv y15, rv b37, rv b42, rv b73, rv b105, rv b133, rv b658, uu, uu, uu, uu] [(.ref b660)] [] 0 rfl (hb hby at_304) (by decide)
    obtain ⟨b674_0, kx674_0, rfl, Nq674, K674, u674_0, u674_1, u674_2, u674_3, u674_4, u674_5, u674_6⟩ := hQ674
    have OL674 := OL661.keep K674 (allS g_b658 all0)
    have g_b674_0 : n0 ≤ b674_0 := Nat.le_trans (Nat.le_trans (Nat.le_of_eq OL661.1.symm) OL661.2.1) u674_0
    have N674 := Fr.app N661 Nq674
    obtain ⟨T681, h681, X681, e681, E681, A681, D681, -, st681⟩ := newO X674 hx hZ661 hown661 (wd208 hw) (wd209 hw) (wd210 hw) rfl (g := (mkF m 310 #[jv p1, sc, jv p2, sc, jv p3, sc, jv p4, sc, iv p5, iv p6, iv y2, rv b1, rv b2, iv y11, iv y13, iv y15, rv b37, rv b42, rv b73, rv b105, rv b133, rv b658, uu, uu, uu, uu] [(.ref b658)])) rfl (hb hby at_310) (by decide) (by decide)
    obtain ⟨b681, g681⟩ : ∃ z, z = T674.heap.size := ⟨_, rfl⟩
    rw [← g681] at A681 D681 st681
    have g_b681 : n0 ≤ b681 := (Nat.le_trans (Nat.le_trans (Nat.le_of_eq OL674.1.symm) OL674.2.1) (Nat.le_of_eq g681.symm))
    have OL681 := OL674.ext E681
    have F_decision_b681 : Fld Z h681 b681 s47 s11 s7 .null := D681 (Or.inr (wd240 hw)) (ty := (.object s39)) (by decide)
    have F_match_b681 : Fld Z h681 b681 s47 "match" s6 .null := D681 (Or.inr (wd242 hw)) (ty := (.object s37)) (by decide)
    have F_exact_b681 : Fld Z h681 b681 s47 "exact" "Z" (.int (0 : Int32)) := D681 (Or.inr (wd244 hw)) (ty := .boolean) (by decide)
    have fc683 := (((((((A133.keep K134).ext E658).keep K659).ext E660).keep K661).keep K674).ext E681)
    have nz684 := (nl u134_2.lt (Nat.le_of_eq g658.symm))
    have lz685 := (lq (lq u134_2.lt E658.1) K659.1)
    have nz686 := (nl lz685 (Nat.le_of_eq g660.symm))
    have fc687 := ((((((u134_2.ext E658).keep K659 (ninS nz684 nin0)).ext E660).keep K661 (ninS nz686 nin0)).keep K674 (ninS nz684 nin0)).ext E681)
    obtain ⟨_, _, ⟨T682, L682, k682, n682⟩, -, Xa682, hSi682, hgr682, ⟨Lc682, hQ682, l682, y682, z682⟩, st682⟩ := X681.specialBackS hx (y := mn32) rfl hown661 (mvT hZ661 (wd211 hw)) (mvT hZ661 (wd212 hw)) (mvT hZ661 (wd213 hw)) (by decide) (backOfS (W := 2) (rm32_1 l Z a0 hw [] b681 b37 b133 w_EMPTY_LIST h681 n0 OL681 fc683 fc687 pr72 A681 F_decision_b681 g_b681 F_match_b681 F_exact_b681) hZ661 (wd213 hw) (wd210 hw) (by decide) (by decide)) (g := (mkF m 318 #[jv p1, sc, jv p2, sc, jv p3, sc, jv p4, sc, iv p5, iv p6, iv y2, rv b1, rv b2, iv y11, iv y13, iv y15, rv b37, rv b42, rv b73, rv b105, rv b133, rv b658, uu, uu, uu, uu] [(.ref b133), (.ref b37), (.ref b681), (.ref b681), (.ref b658)])) rfl (by rw [hml]; rfl) (Steps.refl _) (a := b681) (argsL := [(.ref b37), (.ref b133)]) (rest := [(.ref b681), (.ref b658)]) (lenOf pd_23 rfl) rfl (by show 2 * 0 + _ ≤ _; exact Nat.le_of_eq rfl) (hb hby at_318) (fun _ _ => ⟨rfl, e681, (by decide : 38 + 3 ≤ _), (by decide : 159 + 37 ≤ _)⟩)
    dsimp only [Pt.U, Pt.locs, Pt.cells, Pt.slots] at Xa682 l682 y682 z682 st682 hQ682 hSi682 hgr682
    have Xb682 := own_sub Xa682 l682 y682 z682
    obtain ⟨X682, hS682, hZ682, hown682⟩ := rebS (s := s) (vm0 := T661.vm) hS661 (n1 := T681.heap.size) (by rw [e681]; exact (Nat.le_trans (Nat.le_trans (Nat.le_refl _) K674.1) E681.1)) Xb682 hSi682 hgr682 hZ661 hown661
    obtain ⟨b682_0, rfl, Nq682, K682, u682_0, u682_1, u682_2, u682_3, u682_4, u682_5⟩ := hQ682
    have OL682 := OL681.keep K682 (allS g_b681 all0)
    have N682 := Fr.app N674 Nq682
    have nz689 := (nl u674_3.lt (Nat.le_of_eq g681.symm))
    have fc690 := ((u674_1.ext E681).keep K682 (ninS nz689 nin0))
    have fc691 := (((fc677.keep K674).ext E681).keep K682)
    have fc692 := ((u674_2.ext E681).keep K682 (ninS nz689 nin0))
    have fc693 := ((u674_3.ext E681).keep K682 (ninS nz689 nin0))
    have nz694 := (nl u674_6.lt (Nat.le_of_eq g681.symm))
    have fc695 := ((u674_4.ext E681).keep K682 (ninS nz694 nin0))
    have nz696 := nl fc679.lt u674_0
    have fc697 := (A681.keep K682)
    obtain ⟨_, T688, L688, X688, hQ688, st688⟩ := own_cV X682 hx hZ682 hown682 hml (cw15 hw) (rm14_4 l Z a0 hw b658 b681 b674_0 b660 kx674_0 T682.heap n0 OL682 fc690 fc691 g_b658 fc692 fc693 fc695 (Ne.symm nz696) g_b674_0 u674_5 fc697 nz696) rfl fc691 321 #[jv p1, sc, jv p2, sc, jv p3, sc, jv p4, sc, iv p5, iv p6, iv y2, rv b1, rv b2, iv y11, iv y13, iv y15, rv b37, rv b42, rv b73, rv b105, rv b133, rv b658, uu, uu, uu, uu] [(.ref b681)] [] 0 rfl (hb hby at_321) (by decide)
    obtain ⟨rfl, Nq688, K688, u688_0, u688_1, u688_2, u688_3⟩ := hQ688
    have OL688 := OL682.keep K688 (allS g_b658 (allS g_b674_0 all0))
    have N688 := Fr.app N682 Nq688
    obtain ⟨T698, h698, X698, e698, E698, A698, D698, -, st698⟩ := newO X688 hx hZ682 hown682 (wd246 hw) (wd247 hw) (wd248 hw) rfl (g := (mkF m 325 #[jv p1, sc, jv p2, sc, jv p3, sc, jv p4, sc, iv p5, iv p6, iv y2, rv b1, rv b2, iv y11, iv y13, iv y15, rv b37, rv b42, rv b73, rv b105, rv b133, rv b658, uu, uu, uu, uu] [])) rfl (hb hby at_325) (by decide) (by decide)
    obtain ⟨b698, g698⟩ : ∃ z, z = T688.heap.size := ⟨_, rfl⟩
    rw [← g698] at A698 D698 st698
    have g_b698 : n0 ≤ b698 := (Nat.le_trans (Nat.le_trans (Nat.le_of_eq OL688.1.symm) OL688.2.1) (Nat.le_of_eq g698.symm))
    have OL698 := OL688.ext E698
    have F_fieldCount_b698 : Fld Z h698 b698 s43 s15 "I" (.int (0 : Int32)) := D698 (Or.inr (wd254 hw)) (ty := .int) (by decide)
    have F_values_b698 : Fld Z h698 b698 s43 "values" "[J" .null := D698 (Or.inr (wd265 hw)) (ty := (.array .long)) (by decide)
    have fc700 := (u688_2.ext E698)
    have nz701 := (nl u688_2.lt (Nat.le_of_eq g698.symm))
    have fc702 := ((fc691.keep K688).ext E698)
    have fc703 := (u688_0.ext E698)
    have fc704 := (u688_1.ext E698)
    have fc705 := (u688_3.ext E698)
    have nz706 := (nl u688_3.lt (Nat.le_of_eq g698.symm))
    have fc707 := (((((fc680.keep K674).ext E681).keep K682).keep K688).ext E698)
    have lz708 := (lq u661_5.lt K674.1)
    have nz709 := (nl lz708 (Nat.le_of_eq g681.symm))
    have nz710 := nl u661_5.lt u674_0
    have fc711 := (((((u661_4.keep K674 (ninS (Ne.symm nz675) nin0)).ext E681).keep K682 (ninS nz709 nin0)).keep K688 (ninS (Ne.symm nz675) (ninS nz710 nin0))).ext E698)
    have lz712 := (lq (lq (lq lz708 E681.1) K682.1) K688.1)
    have nz713 := (nl lz712 (Nat.le_of_eq g698.symm))
    have lz714 := (lq u659_2.lt E660.1)
    have nz715 := nl lz714 u661_1
    have lz716 := (lq u661_9.lt K674.1)
    have nz717 := (nl lz716 (Nat.le_of_eq g681.symm))
    have nz718 := nl u661_9.lt u674_0
    have fc719 := (((((u661_10.keep K674 (ninS (Ne.symm nz715) nin0)).ext E681).keep K682 (ninS nz717 nin0)).keep K688 (ninS (Ne.symm nz715) (ninS nz718 nin0))).ext E698)
    have lz720 := (lq (lq (lq lz716 E681.1) K682.1) K688.1)
    have nz721 := (nl lz720 (Nat.le_of_eq g698.symm))
    have fc722 := (((((u661_8.keep K674).ext E681).keep K682).keep K688).ext E698)
    have fc723 := (((((u661_9.keep K674 (ninS (Ne.symm nz715) nin0)).ext E681).keep K682 (ninS nz717 nin0)).keep K688 (ninS (Ne.symm nz715) (ninS nz718 nin0))).ext E698)
    have fc724 := ((((((fc673.keep K661).keep K674).ext E681).keep K682).keep K688).ext E698)
    have lz725 := (lq u108_1.lt K126.1)
    have nz726 := (nl lz725 (Nat.le_of_eq g133.symm))
    have lz727 := (lq (lq lz725 E133.1) K134.1)
    have nz728 := (nl lz727 (Nat.le_of_eq g658.symm))
    have lz729 := (lq (lq lz727 E658.1) K659.1)
    have nz730 := (nl lz729 (Nat.le_of_eq g660.symm))
    have lz731 := (lq (lq fc673.lt K661.1) K674.1)
    have nz732 := (nl lz731 (Nat.le_of_eq g681.symm))
    have lz733 := (lq fc673.lt K661.1)
    have nz734 := nl lz733 u674_0
    have fc735 := ((((((((((((u108_1.keep K126 (ninS (Ne.symm nz127) nin0)).ext E133).keep K134 (ninS nz726 nin0)).ext E658).keep K659 (ninS nz728 nin0)).ext E660).keep K661 (ninS nz730 nin0)).keep K674 (ninS nz728 nin0)).ext E681).keep K682 (ninS nz732 nin0)).keep K688 (ninS nz728 (ninS nz734 nin0))).ext E698)
    have lz736 := (lq (lq (lq lz731 E681.1) K682.1) K688.1)
    have nz737 := (nl lz736 (Nat.le_of_eq g698.symm))
    have lz738 := (lq u106_2.lt E107.1)
    have nz739 := nl lz738 u108_0
    have lz740 := (lq u108_4.lt K126.1)
    have nz741 := (nl lz740 (Nat.le_of_eq g133.symm))
    have lz742 := (lq (lq lz740 E133.1) K134.1)
    have nz743 := (nl lz742 (Nat.le_of_eq g658.symm))
    have lz744 := (lq (lq lz742 E658.1) K659.1)
    have nz745 := (nl lz744 (Nat.le_of_eq g660.symm))
    have lz746 := (lq (lq (lq lz744 E660.1) K661.1) K674.1)
    have nz747 := (nl lz746 (Nat.le_of_eq g681.symm))
    have lz748 := (lq (lq lz744 E660.1) K661.1)
    have nz749 := nl lz748 u674_0
    have fc750 := ((((((((((((u108_3.keep K126 (ninS (Ne.symm nz739) nin0)).ext E133).keep K134 (ninS nz741 nin0)).ext E658).keep K659 (ninS nz743 nin0)).ext E660).keep K661 (ninS nz745 nin0)).keep K674 (ninS nz743 nin0)).ext E681).keep K682 (ninS nz747 nin0)).keep K688 (ninS nz743 (ninS nz749 nin0))).ext E698)
    have lz751 := (lq (lq (lq lz746 E681.1) K682.1) K688.1)
    have nz752 := (nl lz751 (Nat.le_of_eq g698.symm))
    have fc753 := ((((((((((((u108_2.keep K126).ext E133).keep K134).ext E658).keep K659).ext E660).keep K661).keep K674).ext E681).keep K682).keep K688).ext E698)
    have fc754 := (((((((((((((fc125.keep K108).keep K126).ext E133).keep K134).ext E658).keep K659).ext E660).keep K661).keep K674).ext E681).keep K682).keep K688).ext E698)
    have nz755 := nl u43_2.lt u55_0
    have nz756 := nl u55_8.lt u56_0
    have lz757 := (lq (lq (lq u55_8.lt K56.1) K65.1) K66.1)
    have nz758 := (nl lz757 (Nat.le_of_eq g73.symm))
    have lz759 := (lq (lq (lq lz757 E73.1) K74.1) K87.1)
    have nz760 := nl lz759 u88_0
    have lz761 := (lq (lq (lq lz759 K88.1) K97.1) K98.1)
    have nz762 := (nl lz761 (Nat.le_of_eq g105.symm))
    have lz763 := (lq (lq lz761 E105.1) K106.1)
    have nz764 := (nl lz763 (Nat.le_of_eq g107.symm))
    have lz765 := (lq (lq fc125.lt K108.1) K126.1)
    have nz766 := (nl lz765 (Nat.le_of_eq g133.symm))
    have lz767 := (lq (lq lz765 E133.1) K134.1)
    have nz768 := (nl lz767 (Nat.le_of_eq g658.symm))
    have lz769 := (lq (lq lz767 E658.1) K659.1)
    have nz770 := (nl lz769 (Nat.le_of_eq g660.symm))
    have lz771 := (lq (lq (lq lz769 E660.1) K661.1) K674.1)
    have nz772 := (nl lz771 (Nat.le_of_eq g681.symm))
    have lz773 := (lq (lq lz769 E660.1) K661.1)
    have nz774 := nl lz773 u674_0
    have fc775 := (((((((((((((((((((((((((u55_7.keep K56 (ninS (Ne.symm nz755) nin0)).keep K65 nin0).keep K66 (ninS (Ne.symm nz755) (ninS nz756 nin0))).ext E73).keep K74 (ninS nz758 nin0)).keep K87 nin0).keep K88 (ninS nz758 nin0)).keep K97 nin0).keep K98 (ninS nz758 (ninS nz760 nin0))).ext E105).keep K106 (ninS nz762 nin0)).ext E107).keep K108 (ninS nz764 nin0)).keep K126 (ninS nz762 nin0)).ext E133).keep K134 (ninS nz766 nin0)).ext E658).keep K659 (ninS nz768 nin0)).ext E660).keep K661 (ninS nz770 nin0)).keep K674 (ninS nz768 nin0)).ext E681).keep K682 (ninS nz772 nin0)).keep K688 (ninS nz768 (ninS nz774 nin0))).ext E698)
    have lz776 := (lq (lq (lq lz771 E681.1) K682.1) K688.1)
    have nz777 := (nl lz776 (Nat.le_of_eq g698.symm))
    have nz778 := nl u43_2.lt u55_1
    have nz779 := nl u55_9.lt u56_0
    have lz780 := (lq (lq (lq u55_9.lt K56.1) K65.1) K66.1)
    have nz781 := (nl lz780 (Nat.le_of_eq g73.symm))
    have lz782 := (lq (lq (lq lz780 E73.1) K74.1) K87.1)
    have nz783 := nl lz782 u88_0
    have lz784 := (lq (lq (lq lz782 K88.1) K97.1) K98.1)
    have nz785 := (nl lz784 (Nat.le_of_eq g105.symm))
    have lz786 := (lq (lq lz784 E105.1) K106.1)
    have nz787 := (nl lz786 (Nat.le_of_eq g107.symm))
    have lz788 := (lq (lq (lq lz786 E107.1) K108.1) K126.1)
    have nz789 := (nl lz788 (Nat.le_of_eq g133.symm))
    have lz790 := (lq (lq lz788 E133.1) K134.1)
    have nz791 := (nl lz790 (Nat.le_of_eq g658.symm))
    have lz792 := (lq (lq lz790 E658.1) K659.1)
    have nz793 := (nl lz792 (Nat.le_of_eq g660.symm))
    have lz794 := (lq (lq (lq lz792 E660.1) K661.1) K674.1)
    have nz795 := (nl lz794 (Nat.le_of_eq g681.symm))
    have lz796 := (lq (lq lz792 E660.1) K661.1)
    have nz797 := nl lz796 u674_0
    have fc798 := (((((((((((((((((((((((((u55_9.keep K56 (ninS (Ne.symm nz778) nin0)).keep K65 nin0).keep K66 (ninS (Ne.symm nz778) (ninS nz779 nin0))).ext E73).keep K74 (ninS nz781 nin0)).keep K87 nin0).keep K88 (ninS nz781 nin0)).keep K97 nin0).keep K98 (ninS nz781 (ninS nz783 nin0))).ext E105).keep K106 (ninS nz785 nin0)).ext E107).keep K108 (ninS nz787 nin0)).keep K126 (ninS nz785 nin0)).ext E133).keep K134 (ninS nz789 nin0)).ext E658).keep K659 (ninS nz791 nin0)).ext E660).keep K661 (ninS nz793 nin0)).keep K674 (ninS nz791 nin0)).ext E681).keep K682 (ninS nz795 nin0)).keep K688 (ninS nz791 (ninS nz797 nin0))).ext E698)
    have lz799 := (lq (lq (lq lz794 E681.1) K682.1) K688.1)
    have nz800 := (nl lz799 (Nat.le_of_eq g698.symm))
    have fc801 := (((((((((((((((((((((((((u55_8.keep K56 (ninS (Ne.symm nz755) nin0)).keep K65 nin0).keep K66 (ninS (Ne.symm nz755) (ninS nz756 nin0))).ext E73).keep K74 (ninS nz758 nin0)).keep K87 nin0).keep K88 (ninS nz758 nin0)).keep K97 nin0).keep K98 (ninS nz758 (ninS nz760 nin0))).ext E105).keep K106 (ninS nz762 nin0)).ext E107).keep K108 (ninS nz764 nin0)).keep K126 (ninS nz762 nin0)).ext E133).keep K134 (ninS nz766 nin0)).ext E658).keep K659 (ninS nz768 nin0)).ext E660).keep K661 (ninS nz770 nin0)).keep K674 (ninS nz768 nin0)).ext E681).keep K682 (ninS nz772 nin0)).keep K688 (ninS nz768 (ninS nz774 nin0))).ext E698)
    have nz802 := nl u43_2.lt u55_2
    have nz803 := nl u55_10.lt u56_0
    have lz804 := (lq (lq (lq u55_10.lt K56.1) K65.1) K66.1)
    have nz805 := (nl lz804 (Nat.le_of_eq g73.symm))
    have lz806 := (lq (lq (lq lz804 E73.1) K74.1) K87.1)
    have nz807 := nl lz806 u88_0
    have lz808 := (lq (lq (lq lz806 K88.1) K97.1) K98.1)
    have nz809 := (nl lz808 (Nat.le_of_eq g105.symm))
    have lz810 := (lq (lq lz808 E105.1) K106.1)
    have nz811 := (nl lz810 (Nat.le_of_eq g107.symm))
    have lz812 := (lq (lq (lq lz810 E107.1) K108.1) K126.1)
    have nz813 := (nl lz812 (Nat.le_of_eq g133.symm))
    have lz814 := (lq (lq lz812 E133.1) K134.1)
    have nz815 := (nl lz814 (Nat.le_of_eq g658.symm))
    have lz816 := (lq (lq lz814 E658.1) K659.1)
    have nz817 := (nl lz816 (Nat.le_of_eq g660.symm))
    have lz818 := (lq (lq (lq lz816 E660.1) K661.1) K674.1)
    have nz819 := (nl lz818 (Nat.le_of_eq g681.symm))
    have lz820 := (lq (lq lz816 E660.1) K661.1)
    have nz821 := nl lz820 u674_0
    have fc822 := (((((((((((((((((((((((((u55_10.keep K56 (ninS (Ne.symm nz802) nin0)).keep K65 nin0).keep K66 (ninS (Ne.symm nz802) (ninS nz803 nin0))).ext E73).keep K74 (ninS nz805 nin0)).keep K87 nin0).keep K88 (ninS nz805 nin0)).keep K97 nin0).keep K98 (ninS nz805 (ninS nz807 nin0))).ext E105).keep K106 (ninS nz809 nin0)).ext E107).keep K108 (ninS nz811 nin0)).keep K126 (ninS nz809 nin0)).ext E133).keep K134 (ninS nz813 nin0)).ext E658).keep K659 (ninS nz815 nin0)).ext E660).keep K661 (ninS nz817 nin0)).keep K674 (ninS nz815 nin0)).ext E681).keep K682 (ninS nz819 nin0)).keep K688 (ninS nz815 (ninS nz821 nin0))).ext E698)
    have lz823 := (lq (lq (lq lz818 E681.1) K682.1) K688.1)
    have nz824 := (nl lz823 (Nat.le_of_eq g698.symm))
    have fc825 := ((((((((((((u108_4.keep K126 (ninS (Ne.symm nz739) nin0)).ext E133).keep K134 (ninS nz741 nin0)).ext E658).keep K659 (ninS nz743 nin0)).ext E660).keep K661 (ninS nz745 nin0)).keep K674 (ninS nz743 nin0)).ext E681).keep K682 (ninS nz747 nin0)).keep K688 (ninS nz743 (ninS nz749 nin0))).ext E698)
    have fc826 := (((((((((((((fc124.keep K108).keep K126).ext E133).keep K134).ext E658).keep K659).ext E660).keep K661).keep K674).ext E681).keep K682).keep K688).ext E698)
    have nz827 := nl u56_6.lt u65_0
    have nz828 := nl u56_3.lt u65_0
    have lz829 := (lq u65_8.lt K66.1)
    have nz830 := (nl lz829 (Nat.le_of_eq g73.symm))
    have lz831 := (lq (lq (lq lz829 E73.1) K74.1) K87.1)
    have nz832 := nl lz831 u88_0
    have lz833 := (lq (lq (lq lz831 K88.1) K97.1) K98.1)
    have nz834 := (nl lz833 (Nat.le_of_eq g105.symm))
    have lz835 := (lq (lq lz833 E105.1) K106.1)
    have nz836 := (nl lz835 (Nat.le_of_eq g107.symm))
    have lz837 := (lq (lq fc124.lt K108.1) K126.1)
    have nz838 := (nl lz837 (Nat.le_of_eq g133.symm))
    have lz839 := (lq (lq lz837 E133.1) K134.1)
    have nz840 := (nl lz839 (Nat.le_of_eq g658.symm))
    have lz841 := (lq (lq lz839 E658.1) K659.1)
    have nz842 := (nl lz841 (Nat.le_of_eq g660.symm))
    have lz843 := (lq (lq (lq lz841 E660.1) K661.1) K674.1)
    have nz844 := (nl lz843 (Nat.le_of_eq g681.symm))
    have lz845 := (lq (lq lz841 E660.1) K661.1)
    have nz846 := nl lz845 u674_0
    have fc847 := (((((((((((((((((((((((u65_7.keep K66 (ninS (Ne.symm nz828) (ninS (Ne.symm nz827) nin0))).ext E73).keep K74 (ninS nz830 nin0)).keep K87 nin0).keep K88 (ninS nz830 nin0)).keep K97 nin0).keep K98 (ninS nz830 (ninS nz832 nin0))).ext E105).keep K106 (ninS nz834 nin0)).ext E107).keep K108 (ninS nz836 nin0)).keep K126 (ninS nz834 nin0)).ext E133).keep K134 (ninS nz838 nin0)).ext E658).keep K659 (ninS nz840 nin0)).ext E660).keep K661 (ninS nz842 nin0)).keep K674 (ninS nz840 nin0)).ext E681).keep K682 (ninS nz844 nin0)).keep K688 (ninS nz840 (ninS nz846 nin0))).ext E698)
    have lz848 := (lq (lq (lq lz843 E681.1) K682.1) K688.1)
    have nz849 := (nl lz848 (Nat.le_of_eq g698.symm))
    have nz850 := nl u56_6.lt u65_1
    have nz851 := nl u56_3.lt u65_1
    have lz852 := (lq u65_9.lt K66.1)
    have nz853 := (nl lz852 (Nat.le_of_eq g73.symm))
    have lz854 := (lq (lq (lq lz852 E73.1) K74.1) K87.1)
    have nz855 := nl lz854 u88_0
    have lz856 := (lq (lq (lq lz854 K88.1) K97.1) K98.1)
    have nz857 := (nl lz856 (Nat.le_of_eq g105.symm))
    have lz858 := (lq (lq lz856 E105.1) K106.1)
    have nz859 := (nl lz858 (Nat.le_of_eq g107.symm))
    have lz860 := (lq (lq (lq lz858 E107.1) K108.1) K126.1)
    have nz861 := (nl lz860 (Nat.le_of_eq g133.symm))
    have lz862 := (lq (lq lz860 E133.1) K134.1)
    have nz863 := (nl lz862 (Nat.le_of_eq g658.symm))
    have lz864 := (lq (lq lz862 E658.1) K659.1)
    have nz865 := (nl lz864 (Nat.le_of_eq g660.symm))
    have lz866 := (lq (lq (lq lz864 E660.1) K661.1) K674.1)
    have nz867 := (nl lz866 (Nat.le_of_eq g681.symm))
    have lz868 := (lq (lq lz864 E660.1) K661.1)
    have nz869 := nl lz868 u674_0
    have fc870 := (((((((((((((((((((((((u65_9.keep K66 (ninS (Ne.symm nz851) (ninS (Ne.symm nz850) nin0))).ext E73).keep K74 (ninS nz853 nin0)).keep K87 nin0).keep K88 (ninS nz853 nin0)).keep K97 nin0).keep K98 (ninS nz853 (ninS nz855 nin0))).ext E105).keep K106 (ninS nz857 nin0)).ext E107).keep K108 (ninS nz859 nin0)).keep K126 (ninS nz857 nin0)).ext E133).keep K134 (ninS nz861 nin0)).ext E658).keep K659 (ninS nz863 nin0)).ext E660).keep K661 (ninS nz865 nin0)).keep K674 (ninS nz863 nin0)).ext E681).keep K682 (ninS nz867 nin0)).keep K688 (ninS nz863 (ninS nz869 nin0))).ext E698)
    have lz871 := (lq (lq (lq lz866 E681.1) K682.1) K688.1)
    have nz872 := (nl lz871 (Nat.le_of_eq g698.symm))
    have fc873 := (((((((((((((((((((((((u65_8.keep K66 (ninS (Ne.symm nz828) (ninS (Ne.symm nz827) nin0))).ext E73).keep K74 (ninS nz830 nin0)).keep K87 nin0).keep K88 (ninS nz830 nin0)).keep K97 nin0).keep K98 (ninS nz830 (ninS nz832 nin0))).ext E105).keep K106 (ninS nz834 nin0)).ext E107).keep K108 (ninS nz836 nin0)).keep K126 (ninS nz834 nin0)).ext E133).keep K134 (ninS nz838 nin0)).ext E658).keep K659 (ninS nz840 nin0)).ext E660).keep K661 (ninS nz842 nin0)).keep K674 (ninS nz840 nin0)).ext E681).keep K682 (ninS nz844 nin0)).keep K688 (ninS nz840 (ninS nz846 nin0))).ext E698)
    have nz874 := nl u56_6.lt u65_2
    have nz875 := nl u56_3.lt u65_2
    have lz876 := (lq u65_10.lt K66.1)
    have nz877 := (nl lz876 (Nat.le_of_eq g73.symm))
    have lz878 := (lq (lq (lq lz876 E73.1) K74.1) K87.1)
    have nz879 := nl lz878 u88_0
    have lz880 := (lq (lq (lq lz878 K88.1) K97.1) K98.1)
    have nz881 := (nl lz880 (Nat.le_of_eq g105.symm))
    have lz882 := (lq (lq lz880 E105.1) K106.1)
    have nz883 := (nl lz882 (Nat.le_of_eq g107.symm))
    have lz884 := (lq (lq (lq lz882 E107.1) K108.1) K126.1)
    have nz885 := (nl lz884 (Nat.le_of_eq g133.symm))
    have lz886 := (lq (lq lz884 E133.1) K134.1)
    have nz887 := (nl lz886 (Nat.le_of_eq g658.symm))
    have lz888 := (lq (lq lz886 E658.1) K659.1)
    have nz889 := (nl lz888 (Nat.le_of_eq g660.symm))
    have lz890 := (lq (lq (lq lz888 E660.1) K661.1) K674.1)
    have nz891 := (nl lz890 (Nat.le_of_eq g681.symm))
    have lz892 := (lq (lq lz888 E660.1) K661.1)
    have nz893 := nl lz892 u674_0
    have fc894 := (((((((((((((((((((((((u65_10.keep K66 (ninS (Ne.symm nz875) (ninS (Ne.symm nz874) nin0))).ext E73).keep K74 (ninS nz877 nin0)).keep K87 nin0).keep K88 (ninS nz877 nin0)).keep K97 nin0).keep K98 (ninS nz877 (ninS nz879 nin0))).ext E105).keep K106 (ninS nz881 nin0)).ext E107).keep K108 (ninS nz883 nin0)).keep K126 (ninS nz881 nin0)).ext E133).keep K134 (ninS nz885 nin0)).ext E658).keep K659 (ninS nz887 nin0)).ext E660).keep K661 (ninS nz889 nin0)).keep K674 (ninS nz887 nin0)).ext E681).keep K682 (ninS nz891 nin0)).keep K688 (ninS nz887 (ninS nz893 nin0))).ext E698)
    have lz895 := (lq (lq (lq lz890 E681.1) K682.1) K688.1)
    have nz896 := (nl lz895 (Nat.le_of_eq g698.symm))
    have fc897 := ((fc697.keep K688).ext E698)
    have fc898 := ((u682_2.keep K688 (ninS (Ne.symm nz689) (ninS (Ne.symm nz694) nin0))).ext E698)
    have lz899 := (lq u682_3.lt K688.1)
    have nz900 := (nl lz899 (Nat.le_of_eq g698.symm))
    obtain ⟨_, T699, L699, X699, hQ699, st699⟩ := own_cN X698 hx hZ682 hown682 hml (cw57 hw) (rm37_1 l Z a0 hw b698 b658 b674_0 b660 b681 kx674_0 b661_1 w_EMPTY b107 b108_0 b55_0 b55_1 y3 kx55_0 b55_2 y4 kx55_1 b65_0 b65_1 y5 kx65_0 b65_2 y6 kx65_1 w_EMPTY_LIST w_EMPTY_LIST__elements k_w_EMPTY_LIST__elements h698 n0 OL698 A698 F_fieldCount_b698 g_b698 fc700 nz701 fc702 F_values_b698 fc703 fc704 fc705 nz706 fc707 fc711 nz713 fc719 nz721 pr31 fc722 fc723 fc724 fc735 nz737 fc750 nz752 fc753 fc754 fc775 nz777 fc798 nz800 fc801 fc822 nz824 fc825 pr32 g_b65_0 fc826 fc847 nz849 fc870 nz872 fc873 fc894 nz896 fc897 fc898 nz900 pr73 pr74 pr75) e698 b698 332 #[jv p1, sc, jv p2, sc, jv p3, sc, jv p4, sc, iv p5, iv p6, iv y2, rv b1, rv b2, iv y11, iv y13, iv y15, rv b37, rv b42, rv b73, rv b105, rv b133, rv b658, uu, uu, uu, uu] [(.int (2 : Int32)), (.ref b658)] [(.ref b698)] 1 rfl (hb hby at_332) (by decide)
    obtain ⟨b699_0, kx699_0, rfl, Nq699, K699, u699_0, u699_1, u699_2, u699_3⟩ := hQ699
    have OL699 := OL698.keep K699 (allS g_b698 all0)
    have N699 := Fr.app N688 Nq699
    have pre901 : ∀ t, SS p e below T699 m 345 #[jv p1, sc, jv p2, sc, jv p3, sc, jv p4, sc, iv p5, iv p6, iv y2, rv b1, rv b2, iv y11, iv y13, iv y15, rv b37, rv b42, rv b73, rv b105, rv b133, rv b658, rv b698, uu, uu, uu] [(.int (1 : Int32)), (.int y11)] t → Steps p.tables e below (s₁.setTop (entryFrame m #[(.long p1), (.long p2), (.long p3), (.long p4), (.int p5), (.int p6)] maxLocals)) t := by
      intro t kt
      refine pre135 _ ?_
      refine XS.ifYes X134.here hx rfl (pc0 := 264) (pc' := 282) rfl (hb hby at_264) rfl ((if0 _ _).trans (feq hf135).2) (by decide) (by decide) ?_
      show SS p e below T134 m 282 #[jv p1, sc, jv p2, sc, jv p3, sc, jv p4, sc, iv p5, iv p6, iv y2, rv b1, rv b2, iv y11, iv y13, iv y15, rv b37, rv b42, rv b73, rv b105, rv b133, uu, uu, uu, uu, uu] [] _
      refine st658 _ ?_
      refine XS.dup X658.here hx rfl (hb hby at_285) rfl rfl ?_
      refine st659 _ ?_
      refine XS.astore X659.here hx rfl (hb hby at_289) rfl rfl (l' := #[jv p1, sc, jv p2, sc, jv p3, sc, jv p4, sc, iv p5, iv p6, iv y2, rv b1, rv b2, iv y11, iv y13, iv y15, rv b37, rv b42, rv b73, rv b105, rv b133, rv b658, uu, uu, uu, uu]) rfl ?_
      refine xaload X659 hx hby at_291 rfl rfl ?_
      refine st660 _ ?_
      refine XS.dup X660.here hx rfl (hb hby at_296) rfl rfl ?_
      refine xaload X660 hx hby at_297 rfl rfl ?_
      refine xaload X660 hx hby at_299 rfl rfl ?_
      refine st661.trans ?_
      show SS p e below T661 m 304 #[jv p1, sc, jv p2, sc, jv p3, sc, jv p4, sc, iv p5, iv p6, iv y2, rv b1, rv b2, iv y11, iv y13, iv y15, rv b37, rv b42, rv b73, rv b105, rv b133, rv b658, uu, uu, uu, uu] [(.ref b660), (.ref b658)] _
      refine st674 _ ?_
      refine XS.pop X674.here hx rfl (hb hby at_307) rfl rfl ?_
      refine xaload X674 hx hby at_308 rfl rfl ?_
      refine st681 _ ?_
      refine XS.dup X681.here hx rfl (hb hby at_313) rfl rfl ?_
      refine xaload X681 hx hby at_314 rfl rfl ?_
      refine xaload X681 hx hby at_316 rfl rfl ?_
      refine st682.trans ?_
      refine st688 _ ?_
      refine XS.pop X688.here hx rfl (hb hby at_324) rfl rfl ?_
      show SS p e below T688 m 325 #[jv p1, sc, jv p2, sc, jv p3, sc, jv p4, sc, iv p5, iv p6, iv y2, rv b1, rv b2, iv y11, iv y13, iv y15, rv b37, rv b42, rv b73, rv b105, rv b133, rv b658, uu, uu, uu, uu] [] _
      refine st698 _ ?_
      refine XS.dup X698.here hx rfl (hb hby at_328) rfl rfl ?_
      refine XS.iconst X698.here hx rfl (hb hby at_329) ?_
      refine xaload X698 hx hby at_330 rfl rfl ?_
      refine st699 _ ?_
      refine XS.astore X699.here hx rfl (hb hby at_335) rfl rfl (l' := #[jv p1, sc, jv p2, sc, jv p3, sc, jv p4, sc, iv p5, iv p6, iv y2, rv b1, rv b2, iv y11, iv y13, iv y15, rv b37, rv b42, rv b73, rv b105, rv b133, rv b658, rv b698, uu, uu, uu]) rfl ?_
      refine xiload X699 hx hby at_337 rfl ?_
      refine XS.ifNo X699.here hx rfl (hb hby at_339) rfl ((if0 _ _).trans (feq hf135).1) ?_
      refine xiload X699 hx hby at_342 rfl ?_
      refine XS.iconst X699.here hx rfl (hb hby at_344) ?_
      exact kt
    by_cases hf901 : y11 = (1 : Int32)
    · have fc903 := (A698.keep K699)
      obtain ⟨_, T902, L902, X902, hQ902, st902⟩ := own_cV X699 hx hZ682 hown682 hml (cw59 hw) (mg_own_meet l Z a0 hw b698 y11 y13 b699_0 (own_jmin (9223372036854775807 : Int64) y3) (own_jmax (-1 : Int64) y4) (own_jmin (9223372036854775807 : Int64) y5) (own_jmax (-1 : Int64) y6) (9223372036854775807 : Int64) (-1 : Int64) (9223372036854775807 : Int64) (-1 : Int64) kx699_0 T699.heap n0 OL699 u699_1 u699_2 u699_3 pr44 pr45 pr46 pr47 pr48 pr49 pr50 pr51 pr52 pr53 pr54 pr55 pr56 pr57 pr58 pr59) rfl fc903 445 #[jv p1, sc, jv p2, sc, jv p3, sc, jv p4, sc, iv p5, iv p6, iv y2, rv b1, rv b2, iv y11, iv y13, iv y15, rv b37, rv b42, rv b73, rv b105, rv b133, rv b658, rv b698, iv (0 : Int32), uu, uu] [(.int y11), (.int y13)] [] 0 rfl (hb hby at_445) (by decide)
      obtain ⟨rfl, Nq902, ec902⟩ := hQ902
      have N902 := Fr.app N699 Nq902
      obtain ⟨fs, hr, hrun, hended, hRW⟩ := X902.leaveW (s := s) hS682 (by rw [ec902]; exact (Nat.le_trans (Nat.le_trans (Nat.le_trans (Nat.le_refl _) K688.1) E698.1) K699.1)) (v := some (.int (1 : Int32))) (fun h => by rw [Bd.returns] at h; cases h)
      refine ⟨_, _, pre901 _ ?_, hrun, hended, _, _, rfl, ⟨rfl, N902⟩, hRW.1, hRW.2.1, hRW.2.2.1, hRW.2.2.2.mono (by decide) (by decide)⟩
      refine XS.icmpYes X699.here hx rfl (pc0 := 345) (pc' := 354) rfl (hb hby at_345) rfl (teq hf901).1 (by decide) (by decide) ?_
      show SS p e below T699 m 354 #[jv p1, sc, jv p2, sc, jv p3, sc, jv p4, sc, iv p5, iv p6, iv y2, rv b1, rv b2, iv y11, iv y13, iv y15, rv b37, rv b42, rv b73, rv b105, rv b133, rv b658, rv b698, uu, uu, uu] [] _
      refine XS.iconst X699.here hx rfl (hb hby at_354) ?_
      refine XS.istore X699.here hx rfl (hb hby at_355) rfl (l' := #[jv p1, sc, jv p2, sc, jv p3, sc, jv p4, sc, iv p5, iv p6, iv y2, rv b1, rv b2, iv y11, iv y13, iv y15, rv b37, rv b42, rv b73, rv b105, rv b133, rv b658, rv b698, iv (0 : Int32), uu, uu]) rfl ?_
      refine XS.goto X699.here hx rfl (pc0 := 357) (pc' := 439) rfl (hb hby at_357) (by decide) (by decide) ?_
      refine xaload X699 hx hby at_439 rfl rfl ?_
      refine xiload X699 hx hby at_441 rfl ?_
      refine xiload X699 hx hby at_443 rfl ?_
      refine st902 _ ?_
      show SS p e below T902 m 448 #[jv p1, sc, jv p2, sc, jv p3, sc, jv p4, sc, iv p5, iv p6, iv y2, rv b1, rv b2, iv y11, iv y13, iv y15, rv b37, rv b42, rv b73, rv b105, rv b133, rv b658, rv b698, iv (0 : Int32), uu, uu] [(.int (own_meet y11 y13 (own_jmin (9223372036854775807 : Int64) y3) (own_jmax (-1 : Int64) y4) (own_jmin (9223372036854775807 : Int64) y5) (own_jmax (-1 : Int64) y6) (9223372036854775807 : Int64) (-1 : Int64) (9223372036854775807 : Int64) (-1 : Int64)))] _
      rw [pr76]
      refine xiload X902 hx hby at_448 rfl ?_
      refine XS.icmpNo X902.here hx rfl (hb hby at_450) rfl (teq (by rw [← pr76]; simp only [own_jmin_id, own_jmax_id2 pr18 pr17, own_jmax_id2 pr22 pr21]; exact own_finB (own_01 pr11) (own_01 pr13) (Or.inl hf901) pr17 pr19)).2 ?_
      refine XS.iconst X902.here hx rfl (hb hby at_453) ?_
      show SS p e below T902 m 454 #[jv p1, sc, jv p2, sc, jv p3, sc, jv p4, sc, iv p5, iv p6, iv y2, rv b1, rv b2, iv y11, iv y13, iv y15, rv b37, rv b42, rv b73, rv b105, rv b133, rv b658, rv b698, iv (0 : Int32), uu, uu] [(.int (1 : Int32))] _
      refine XS.goto X902.here hx rfl (pc0 := 454) (pc' := 458) rfl (hb hby at_454) (by decide) (by decide) ?_
      show SS p e below T902 m 458 #[jv p1, sc, jv p2, sc, jv p3, sc, jv p4, sc, iv p5, iv p6, iv y2, rv b1, rv b2, iv y11, iv y13, iv y15, rv b37, rv b42, rv b73, rv b105, rv b133, rv b658, rv b698, iv (0 : Int32), uu, uu] [(.int (1 : Int32))] _
      exact retN X902 hx (t := .boolean) Bd.returns (by simp) (hb hby at_458) hr
    · have pre904 : ∀ t, SS p e below T699 m 351 #[jv p1, sc, jv p2, sc, jv p3, sc, jv p4, sc, iv p5, iv p6, iv y2, rv b1, rv b2, iv y11, iv y13, iv y15, rv b37, rv b42, rv b73, rv b105, rv b133, rv b658, rv b698, uu, uu, uu] [(.int (1 : Int32)), (.int y13)] t → Steps p.tables e below (s₁.setTop (entryFrame m #[(.long p1), (.long p2), (.long p3), (.long p4), (.int p5), (.int p6)] maxLocals)) t := by
        intro t kt
        refine pre901 _ ?_
        refine XS.icmpNo X699.here hx rfl (hb hby at_345) rfl (feq hf901).1 ?_
        show SS p e below T699 m 348 #[jv p1, sc, jv p2, sc, jv p3, sc, jv p4, sc, iv p5, iv p6, iv y2, rv b1, rv b2, iv y11, iv y13, iv y15, rv b37, rv b42, rv b73, rv b105, rv b133, rv b658, rv b698, uu, uu, uu] [] _
        refine xiload X699 hx hby at_348 rfl ?_
        refine XS.iconst X699.here hx rfl (hb hby at_350) ?_
        exact kt
      by_cases hf904 : y13 = (1 : Int32)
      · have fc906 := (A698.keep K699)
        obtain ⟨_, T905, L905, X905, hQ905, st905⟩ := own_cV X699 hx hZ682 hown682 hml (cw59 hw) (mg_own_meet l Z a0 hw b698 y11 y13 b699_0 (own_jmin (9223372036854775807 : Int64) y3) (own_jmax (-1 : Int64) y4) (own_jmin (9223372036854775807 : Int64) y5) (own_jmax (-1 : Int64) y6) (9223372036854775807 : Int64) (-1 : Int64) (9223372036854775807 : Int64) (-1 : Int64) kx699_0 T699.heap n0 OL699 u699_1 u699_2 u699_3 pr44 pr45 pr46 pr47 pr48 pr49 pr50 pr51 pr52 pr53 pr54 pr55 pr56 pr57 pr58 pr59) rfl fc906 445 #[jv p1, sc, jv p2, sc, jv p3, sc, jv p4, sc, iv p5, iv p6, iv y2, rv b1, rv b2, iv y11, iv y13, iv y15, rv b37, rv b42, rv b73, rv b105, rv b133, rv b658, rv b698, iv (0 : Int32), uu, uu] [(.int y11), (.int y13)] [] 0 rfl (hb hby at_445) (by decide)
        obtain ⟨rfl, Nq905, ec905⟩ := hQ905
        have N905 := Fr.app N699 Nq905
        obtain ⟨fs, hr, hrun, hended, hRW⟩ := X905.leaveW (s := s) hS682 (by rw [ec905]; exact (Nat.le_trans (Nat.le_trans (Nat.le_trans (Nat.le_refl _) K688.1) E698.1) K699.1)) (v := some (.int (1 : Int32))) (fun h => by rw [Bd.returns] at h; cases h)
        refine ⟨_, _, pre904 _ ?_, hrun, hended, _, _, rfl, ⟨rfl, N905⟩, hRW.1, hRW.2.1, hRW.2.2.1, hRW.2.2.2.mono (by decide) (by decide)⟩
        refine XS.icmpNo X699.here hx rfl (hb hby at_351) rfl (teq hf904).2 ?_
        show SS p e below T699 m 354 #[jv p1, sc, jv p2, sc, jv p3, sc, jv p4, sc, iv p5, iv p6, iv y2, rv b1, rv b2, iv y11, iv y13, iv y15, rv b37, rv b42, rv b73, rv b105, rv b133, rv b658, rv b698, uu, uu, uu] [] _
        refine XS.iconst X699.here hx rfl (hb hby at_354) ?_
        refine XS.istore X699.here hx rfl (hb hby at_355) rfl (l' := #[jv p1, sc, jv p2, sc, jv p3, sc, jv p4, sc, iv p5, iv p6, iv y2, rv b1, rv b2, iv y11, iv y13, iv y15, rv b37, rv b42, rv b73, rv b105, rv b133, rv b658, rv b698, iv (0 : Int32), uu, uu]) rfl ?_
        refine XS.goto X699.here hx rfl (pc0 := 357) (pc' := 439) rfl (hb hby at_357) (by decide) (by decide) ?_
        refine xaload X699 hx hby at_439 rfl rfl ?_
        refine xiload X699 hx hby at_441 rfl ?_
        refine xiload X699 hx hby at_443 rfl ?_
        refine st905 _ ?_
        show SS p e below T905 m 448 #[jv p1, sc, jv p2, sc, jv p3, sc, jv p4, sc, iv p5, iv p6, iv y2, rv b1, rv b2, iv y11, iv y13, iv y15, rv b37, rv b42, rv b73, rv b105, rv b133, rv b658, rv b698, iv (0 : Int32), uu, uu] [(.int (own_meet y11 y13 (own_jmin (9223372036854775807 : Int64) y3) (own_jmax (-1 : Int64) y4) (own_jmin (9223372036854775807 : Int64) y5) (own_jmax (-1 : Int64) y6) (9223372036854775807 : Int64) (-1 : Int64) (9223372036854775807 : Int64) (-1 : Int64)))] _
        rw [pr76]
        refine xiload X905 hx hby at_448 rfl ?_
        refine XS.icmpNo X905.here hx rfl (hb hby at_450) rfl (teq (by rw [← pr76]; simp only [own_jmin_id, own_jmax_id2 pr18 pr17, own_jmax_id2 pr22 pr21]; exact own_finB (own_01 pr11) (own_01 pr13) (Or.inr hf904) pr17 pr19)).2 ?_
        refine XS.iconst X905.here hx rfl (hb hby at_453) ?_
        show SS p e below T905 m 454 #[jv p1, sc, jv p2, sc, jv p3, sc, jv p4, sc, iv p5, iv p6, iv y2, rv b1, rv b2, iv y11, iv y13, iv y15, rv b37, rv b42, rv b73, rv b105, rv b133, rv b658, rv b698, iv (0 : Int32), uu, uu] [(.int (1 : Int32))] _
        refine XS.goto X905.here hx rfl (pc0 := 454) (pc' := 458) rfl (hb hby at_454) (by decide) (by decide) ?_
        show SS p e below T905 m 458 #[jv p1, sc, jv p2, sc, jv p3, sc, jv p4, sc, iv p5, iv p6, iv y2, rv b1, rv b2, iv y11, iv y13, iv y15, rv b37, rv b42, rv b73, rv b105, rv b133, rv b658, rv b698, iv (0 : Int32), uu, uu] [(.int (1 : Int32))] _
        exact retN X905 hx (t := .boolean) Bd.returns (by simp) (hb hby at_458) hr
      · have lz907 := (lq fc79.lt K87.1)
        have nz908 := nl lz907 u88_0
        have lz909 := (lq (lq fc93.lt K97.1) K98.1)
        have nz910 := (nl lz909 (Nat.le_of_eq g105.symm))
        have lz911 := (lq (lq lz909 E105.1) K106.1)
        have nz912 := (nl lz911 (Nat.le_of_eq g107.symm))
        have lz913 := (lq (lq (lq lz911 E107.1) K108.1) K126.1)
        have nz914 := (nl lz913 (Nat.le_of_eq g133.symm))
        have lz915 := (lq (lq lz913 E133.1) K134.1)
        have nz916 := (nl lz915 (Nat.le_of_eq g658.symm))
        have lz917 := (lq (lq lz915 E658.1) K659.1)
        have nz918 := (nl lz917 (Nat.le_of_eq g660.symm))
        have lz919 := (lq (lq (lq lz917 E660.1) K661.1) K674.1)
        have nz920 := (nl lz919 (Nat.le_of_eq g681.symm))
        have lz921 := (lq (lq lz917 E660.1) K661.1)
        have nz922 := nl lz921 u674_0
        have lz923 := (lq (lq (lq lz919 E681.1) K682.1) K688.1)
        have nz924 := (nl lz923 (Nat.le_of_eq g698.symm))
        have fc925 := (((((((((((((((((((fc93.keep K97 nin0).keep K98 (ninS nz78 (ninS nz908 nin0))).ext E105).keep K106 (ninS nz910 nin0)).ext E107).keep K108 (ninS nz912 nin0)).keep K126 (ninS nz910 nin0)).ext E133).keep K134 (ninS nz914 nin0)).ext E658).keep K659 (ninS nz916 nin0)).ext E660).keep K661 (ninS nz918 nin0)).keep K674 (ninS nz916 nin0)).ext E681).keep K682 (ninS nz920 nin0)).keep K688 (ninS nz916 (ninS nz922 nin0))).ext E698).keep K699 (ninS nz924 nin0))
        have lz927 := (lq fc85.lt K87.1)
        have nz928 := nl lz927 u88_0
        have lz929 := (lq (lq fc95.lt K97.1) K98.1)
        have nz930 := (nl lz929 (Nat.le_of_eq g105.symm))
        have lz931 := (lq (lq lz929 E105.1) K106.1)
        have nz932 := (nl lz931 (Nat.le_of_eq g107.symm))
        have lz933 := (lq (lq (lq lz931 E107.1) K108.1) K126.1)
        have nz934 := (nl lz933 (Nat.le_of_eq g133.symm))
        have lz935 := (lq (lq lz933 E133.1) K134.1)
        have nz936 := (nl lz935 (Nat.le_of_eq g658.symm))
        have lz937 := (lq (lq lz935 E658.1) K659.1)
        have nz938 := (nl lz937 (Nat.le_of_eq g660.symm))
        have lz939 := (lq (lq (lq lz937 E660.1) K661.1) K674.1)
        have nz940 := (nl lz939 (Nat.le_of_eq g681.symm))
        have lz941 := (lq (lq lz937 E660.1) K661.1)
        have nz942 := nl lz941 u674_0
        have lz943 := (lq (lq (lq lz939 E681.1) K682.1) K688.1)
        have nz944 := (nl lz943 (Nat.le_of_eq g698.symm))
        have fc945 := (((((((((((((((((((fc95.keep K97 nin0).keep K98 (ninS nz84 (ninS nz928 nin0))).ext E105).keep K106 (ninS nz930 nin0)).ext E107).keep K108 (ninS nz932 nin0)).keep K126 (ninS nz930 nin0)).ext E133).keep K134 (ninS nz934 nin0)).ext E658).keep K659 (ninS nz936 nin0)).ext E660).keep K661 (ninS nz938 nin0)).keep K674 (ninS nz936 nin0)).ext E681).keep K682 (ninS nz940 nin0)).keep K688 (ninS nz936 (ninS nz942 nin0))).ext E698).keep K699 (ninS nz944 nin0))
        obtain ⟨_, T949, L949, X949, hQ949, st949⟩ := own_cS X699 hx hZ682 hown682 hml (cw58 hw) (mg_own_ov l Z a0 hw y18 y19 y20 y21 T699.heap n0 OL699 ) rfl 392 #[jv p1, sc, jv p2, sc, jv p3, sc, jv p4, sc, iv p5, iv p6, iv y2, rv b1, rv b2, iv y11, iv y13, iv y15, rv b37, rv b42, rv b73, rv b105, rv b133, rv b658, rv b698, uu, iv y16, iv y17] [(.long y18), (.long y19), (.long y20), (.long y21)] [] 0 rfl (hb hby at_392) (by decide)
        obtain ⟨rfl, Nq949, ec949⟩ := hQ949
        have N949 := Fr.app N699 Nq949
        obtain ⟨_, T954, L954, X954, hQ954, st954⟩ := own_cS X949 hx hZ682 hown682 hml (cw58 hw) (mg_own_ov l Z a0 hw y25 y26 y28 y29 T699.heap n0 OL699 ) ec949 426 #[jv p1, sc, jv p2, sc, jv p3, sc, jv p4, sc, iv p5, iv p6, iv y2, rv b1, rv b2, iv y11, iv y13, iv y15, rv b37, rv b42, rv b73, rv b105, rv b133, rv b658, rv b698, uu, iv y16, iv y17] [(.long y25), (.long y26), (.long y28), (.long y29)] [] 0 rfl (hb hby at_426) (by decide)
        obtain ⟨rfl, Nq954, ec954⟩ := hQ954
        have N954 := Fr.app N949 Nq954
        have fc956 := (A698.keep K699)
        obtain ⟨_, T955, L955, X955, hQ955, st955⟩ := own_cV X954 hx hZ682 hown682 hml (cw59 hw) (mg_own_meet l Z a0 hw b698 y11 y13 b699_0 (own_jmin (9223372036854775807 : Int64) y3) (own_jmax (-1 : Int64) y4) (own_jmin (9223372036854775807 : Int64) y5) (own_jmax (-1 : Int64) y6) (9223372036854775807 : Int64) (-1 : Int64) (9223372036854775807 : Int64) (-1 : Int64) kx699_0 T699.heap n0 OL699 u699_1 u699_2 u699_3 pr44 pr45 pr46 pr47 pr48 pr49 pr50 pr51 pr52 pr53 pr54 pr55 pr56 pr57 pr58 pr59) ec954 fc956 445 #[jv p1, sc, jv p2, sc, jv p3, sc, jv p4, sc, iv p5, iv p6, iv y2, rv b1, rv b2, iv y11, iv y13, iv y15, rv b37, rv b42, rv b73, rv b105, rv b133, rv b658, rv b698, iv (1 : Int32), iv y16, iv y17] [(.int y11), (.int y13)] [] 0 rfl (hb hby at_445) (by decide)
        obtain ⟨rfl, Nq955, ec955⟩ := hQ955
        have N955 := Fr.app N954 Nq955
        obtain ⟨fs, hr, hrun, hended, hRW⟩ := X955.leaveW (s := s) hS682 (by rw [ec955]; exact (Nat.le_trans (Nat.le_trans (Nat.le_trans (Nat.le_refl _) K688.1) E698.1) K699.1)) (v := some (.int (1 : Int32))) (fun h => by rw [Bd.returns] at h; cases h)
        refine ⟨_, _, pre904 _ ?_, hrun, hended, _, _, rfl, ⟨rfl, N955⟩, hRW.1, hRW.2.1, hRW.2.2.1, hRW.2.2.2.mono (by decide) (by decide)⟩
        refine XS.icmpYes X699.here hx rfl (pc0 := 351) (pc' := 360) rfl (hb hby at_351) rfl (feq hf904).2 (by decide) (by decide) ?_
        show SS p e below T699 m 360 #[jv p1, sc, jv p2, sc, jv p3, sc, jv p4, sc, iv p5, iv p6, iv y2, rv b1, rv b2, iv y11, iv y13, iv y15, rv b37, rv b42, rv b73, rv b105, rv b133, rv b658, rv b698, uu, uu, uu] [] _
        refine xiload X699 hx hby at_360 rfl ?_
        refine XS.iconst X699.here hx rfl (hb hby at_362) ?_
        refine XS.imul X699.here hx rfl (hb hby at_363) rfl ?_
        show SS p e below T699 m 364 #[jv p1, sc, jv p2, sc, jv p3, sc, jv p4, sc, iv p5, iv p6, iv y2, rv b1, rv b2, iv y11, iv y13, iv y15, rv b37, rv b42, rv b73, rv b105, rv b133, rv b658, rv b698, uu, uu, uu] [(.int (y11 * (2 : Int32)))] _
        rw [pr33]
        refine XS.istore X699.here hx rfl (hb hby at_364) rfl (l' := #[jv p1, sc, jv p2, sc, jv p3, sc, jv p4, sc, iv p5, iv p6, iv y2, rv b1, rv b2, iv y11, iv y13, iv y15, rv b37, rv b42, rv b73, rv b105, rv b133, rv b658, rv b698, uu, iv y16, uu]) rfl ?_
        refine xiload X699 hx hby at_366 rfl ?_
        refine XS.iconst X699.here hx rfl (hb hby at_368) ?_
        refine XS.imul X699.here hx rfl (hb hby at_369) rfl ?_
        show SS p e below T699 m 370 #[jv p1, sc, jv p2, sc, jv p3, sc, jv p4, sc, iv p5, iv p6, iv y2, rv b1, rv b2, iv y11, iv y13, iv y15, rv b37, rv b42, rv b73, rv b105, rv b133, rv b658, rv b698, uu, iv y16, uu] [(.int (y13 * (2 : Int32)))] _
        rw [pr34]
        refine XS.istore X699.here hx rfl (hb hby at_370) rfl (l' := #[jv p1, sc, jv p2, sc, jv p3, sc, jv p4, sc, iv p5, iv p6, iv y2, rv b1, rv b2, iv y11, iv y13, iv y15, rv b37, rv b42, rv b73, rv b105, rv b133, rv b658, rv b698, uu, iv y16, iv y17]) rfl ?_
        refine xaload X699 hx hby at_372 rfl rfl ?_
        refine xiload X699 hx hby at_374 rfl ?_
        show SS p e below T699 m 376 #[jv p1, sc, jv p2, sc, jv p3, sc, jv p4, sc, iv p5, iv p6, iv y2, rv b1, rv b2, iv y11, iv y13, iv y15, rv b37, rv b42, rv b73, rv b105, rv b133, rv b658, rv b698, uu, iv y16, iv y17] [(.int y16), (.ref b1)] _
        refine own_laJ X699 hx hZ682 rfl fc925 (v := (.long (own_at4 y3 y5 y7 y9 y16))) ⟨pr35, pr36⟩ (own_at4_s ..) (hb hby at_376) ?_
        show SS p e below T699 m 377 #[jv p1, sc, jv p2, sc, jv p3, sc, jv p4, sc, iv p5, iv p6, iv y2, rv b1, rv b2, iv y11, iv y13, iv y15, rv b37, rv b42, rv b73, rv b105, rv b133, rv b658, rv b698, uu, iv y16, iv y17] [(.long (own_at4 y3 y5 y7 y9 y16))] _
        rw [pr37]
        refine xaload X699 hx hby at_377 rfl rfl ?_
        refine xiload X699 hx hby at_379 rfl ?_
        refine own_laJ X699 hx hZ682 rfl fc945 (v := (.long (own_at4 y4 y6 y8 y10 y16))) ⟨pr35, pr36⟩ (own_at4_s ..) (hb hby at_381) ?_
        show SS p e below T699 m 382 #[jv p1, sc, jv p2, sc, jv p3, sc, jv p4, sc, iv p5, iv p6, iv y2, rv b1, rv b2, iv y11, iv y13, iv y15, rv b37, rv b42, rv b73, rv b105, rv b133, rv b658, rv b698, uu, iv y16, iv y17] [(.long (own_at4 y4 y6 y8 y10 y16)), (.long y18)] _
        rw [pr38]
        refine xaload X699 hx hby at_382 rfl rfl ?_
        refine xiload X699 hx hby at_384 rfl ?_
        refine own_laJ X699 hx hZ682 rfl fc925 (v := (.long (own_at4 y3 y5 y7 y9 y17))) ⟨pr39, pr40⟩ (own_at4_s ..) (hb hby at_386) ?_
        show SS p e below T699 m 387 #[jv p1, sc, jv p2, sc, jv p3, sc, jv p4, sc, iv p5, iv p6, iv y2, rv b1, rv b2, iv y11, iv y13, iv y15, rv b37, rv b42, rv b73, rv b105, rv b133, rv b658, rv b698, uu, iv y16, iv y17] [(.long (own_at4 y3 y5 y7 y9 y17)), (.long y19), (.long y18)] _
        rw [pr41]
        refine xaload X699 hx hby at_387 rfl rfl ?_
        refine xiload X699 hx hby at_389 rfl ?_
        refine own_laJ X699 hx hZ682 rfl fc945 (v := (.long (own_at4 y4 y6 y8 y10 y17))) ⟨pr39, pr40⟩ (own_at4_s ..) (hb hby at_391) ?_
        show SS p e below T699 m 392 #[jv p1, sc, jv p2, sc, jv p3, sc, jv p4, sc, iv p5, iv p6, iv y2, rv b1, rv b2, iv y11, iv y13, iv y15, rv b37, rv b42, rv b73, rv b105, rv b133, rv b658, rv b698, uu, iv y16, iv y17] [(.long (own_at4 y4 y6 y8 y10 y17)), (.long y20), (.long y19), (.long y18)] _
        rw [pr42]
        show SS p e below T699 m 392 #[jv p1, sc, jv p2, sc, jv p3, sc, jv p4, sc, iv p5, iv p6, iv y2, rv b1, rv b2, iv y11, iv y13, iv y15, rv b37, rv b42, rv b73, rv b105, rv b133, rv b658, rv b698, uu, iv y16, iv y17] [(.long y21), (.long y20), (.long y19), (.long y18)] _
        refine st949 _ ?_
        show SS p e below T949 m 395 #[jv p1, sc, jv p2, sc, jv p3, sc, jv p4, sc, iv p5, iv p6, iv y2, rv b1, rv b2, iv y11, iv y13, iv y15, rv b37, rv b42, rv b73, rv b105, rv b133, rv b658, rv b698, uu, iv y16, iv y17] [(.int (own_ov y18 y19 y20 y21))] _
        rw [pr43]
        refine XS.ifNo X949.here hx rfl (hb hby at_395) rfl ((if0 _ _).trans (feq (by rw [← pr43, ← pr42, ← pr41, ← pr34, ← pr38, ← pr37, ← pr33]; exact own_ov0 (own_01 pr11) (own_01 pr13) hf901 hf904 pr18)).1) ?_
        refine xaload X949 hx hby at_398 rfl rfl ?_
        refine xiload X949 hx hby at_400 rfl ?_
        refine XS.iconst X949.here hx rfl (hb hby at_402) ?_
        refine XS.iadd X949.here hx rfl (hb hby at_403) rfl ?_
        show SS p e below T949 m 404 #[jv p1, sc, jv p2, sc, jv p3, sc, jv p4, sc, iv p5, iv p6, iv y2, rv b1, rv b2, iv y11, iv y13, iv y15, rv b37, rv b42, rv b73, rv b105, rv b133, rv b658, rv b698, uu, iv y16, iv y17] [(.int (y16 + (1 : Int32))), (.ref b1)] _
        rw [pr61]
        refine own_laJ X949 hx hZ682 ec949 fc925 (v := (.long (own_at4 y3 y5 y7 y9 y24))) ⟨pr62, pr63⟩ (own_at4_s ..) (hb hby at_404) ?_
        show SS p e below T949 m 405 #[jv p1, sc, jv p2, sc, jv p3, sc, jv p4, sc, iv p5, iv p6, iv y2, rv b1, rv b2, iv y11, iv y13, iv y15, rv b37, rv b42, rv b73, rv b105, rv b133, rv b658, rv b698, uu, iv y16, iv y17] [(.long (own_at4 y3 y5 y7 y9 y24))] _
        rw [pr64]
        refine xaload X949 hx hby at_405 rfl rfl ?_
        refine xiload X949 hx hby at_407 rfl ?_
        refine XS.iconst X949.here hx rfl (hb hby at_409) ?_
        show SS p e below T949 m 410 #[jv p1, sc, jv p2, sc, jv p3, sc, jv p4, sc, iv p5, iv p6, iv y2, rv b1, rv b2, iv y11, iv y13, iv y15, rv b37, rv b42, rv b73, rv b105, rv b133, rv b658, rv b698, uu, iv y16, iv y17] [(.int (1 : Int32)), (.int y16), (.ref b2), (.long y25)] _
        refine XS.iadd X949.here hx rfl (hb hby at_410) rfl ?_
        show SS p e below T949 m 411 #[jv p1, sc, jv p2, sc, jv p3, sc, jv p4, sc, iv p5, iv p6, iv y2, rv b1, rv b2, iv y11, iv y13, iv y15, rv b37, rv b42, rv b73, rv b105, rv b133, rv b658, rv b698, uu, iv y16, iv y17] [(.int (y16 + (1 : Int32))), (.ref b2), (.long y25)] _
        rw [pr61]
        refine own_laJ X949 hx hZ682 ec949 fc945 (v := (.long (own_at4 y4 y6 y8 y10 y24))) ⟨pr62, pr63⟩ (own_at4_s ..) (hb hby at_411) ?_
        show SS p e below T949 m 412 #[jv p1, sc, jv p2, sc, jv p3, sc, jv p4, sc, iv p5, iv p6, iv y2, rv b1, rv b2, iv y11, iv y13, iv y15, rv b37, rv b42, rv b73, rv b105, rv b133, rv b658, rv b698, uu, iv y16, iv y17] [(.long (own_at4 y4 y6 y8 y10 y24)), (.long y25)] _
        rw [pr65]
        refine xaload X949 hx hby at_412 rfl rfl ?_
        refine xiload X949 hx hby at_414 rfl ?_
        refine XS.iconst X949.here hx rfl (hb hby at_416) ?_
        refine XS.iadd X949.here hx rfl (hb hby at_417) rfl ?_
        show SS p e below T949 m 418 #[jv p1, sc, jv p2, sc, jv p3, sc, jv p4, sc, iv p5, iv p6, iv y2, rv b1, rv b2, iv y11, iv y13, iv y15, rv b37, rv b42, rv b73, rv b105, rv b133, rv b658, rv b698, uu, iv y16, iv y17] [(.int (y17 + (1 : Int32))), (.ref b1), (.long y26), (.long y25)] _
        rw [pr66]
        refine own_laJ X949 hx hZ682 ec949 fc925 (v := (.long (own_at4 y3 y5 y7 y9 y27))) ⟨pr67, pr68⟩ (own_at4_s ..) (hb hby at_418) ?_
        show SS p e below T949 m 419 #[jv p1, sc, jv p2, sc, jv p3, sc, jv p4, sc, iv p5, iv p6, iv y2, rv b1, rv b2, iv y11, iv y13, iv y15, rv b37, rv b42, rv b73, rv b105, rv b133, rv b658, rv b698, uu, iv y16, iv y17] [(.long (own_at4 y3 y5 y7 y9 y27)), (.long y26), (.long y25)] _
        rw [pr69]
        refine xaload X949 hx hby at_419 rfl rfl ?_
        refine xiload X949 hx hby at_421 rfl ?_
        refine XS.iconst X949.here hx rfl (hb hby at_423) ?_
        show SS p e below T949 m 424 #[jv p1, sc, jv p2, sc, jv p3, sc, jv p4, sc, iv p5, iv p6, iv y2, rv b1, rv b2, iv y11, iv y13, iv y15, rv b37, rv b42, rv b73, rv b105, rv b133, rv b658, rv b698, uu, iv y16, iv y17] [(.int (1 : Int32)), (.int y17), (.ref b2), (.long y28), (.long y26), (.long y25)] _
        refine XS.iadd X949.here hx rfl (hb hby at_424) rfl ?_
        show SS p e below T949 m 425 #[jv p1, sc, jv p2, sc, jv p3, sc, jv p4, sc, iv p5, iv p6, iv y2, rv b1, rv b2, iv y11, iv y13, iv y15, rv b37, rv b42, rv b73, rv b105, rv b133, rv b658, rv b698, uu, iv y16, iv y17] [(.int (y17 + (1 : Int32))), (.ref b2), (.long y28), (.long y26), (.long y25)] _
        rw [pr66]
        refine own_laJ X949 hx hZ682 ec949 fc945 (v := (.long (own_at4 y4 y6 y8 y10 y27))) ⟨pr67, pr68⟩ (own_at4_s ..) (hb hby at_425) ?_
        show SS p e below T949 m 426 #[jv p1, sc, jv p2, sc, jv p3, sc, jv p4, sc, iv p5, iv p6, iv y2, rv b1, rv b2, iv y11, iv y13, iv y15, rv b37, rv b42, rv b73, rv b105, rv b133, rv b658, rv b698, uu, iv y16, iv y17] [(.long (own_at4 y4 y6 y8 y10 y27)), (.long y28), (.long y26), (.long y25)] _
        rw [pr70]
        refine st954 _ ?_
        show SS p e below T954 m 429 #[jv p1, sc, jv p2, sc, jv p3, sc, jv p4, sc, iv p5, iv p6, iv y2, rv b1, rv b2, iv y11, iv y13, iv y15, rv b37, rv b42, rv b73, rv b105, rv b133, rv b658, rv b698, uu, iv y16, iv y17] [(.int (own_ov y25 y26 y28 y29))] _
        rw [pr71]
        refine XS.ifNo X954.here hx rfl (hb hby at_429) rfl ((if0 _ _).trans (feq (by rw [← pr71, ← pr70, ← pr69, ← pr66, ← pr34, ← pr65, ← pr64, ← pr61, ← pr33]; exact own_ov1 (own_01 pr11) (own_01 pr13) hf901 hf904 pr22)).1) ?_
        refine XS.iconst X954.here hx rfl (hb hby at_432) ?_
        refine XS.goto X954.here hx rfl (pc0 := 433) (pc' := 437) rfl (hb hby at_433) (by decide) (by decide) ?_
        refine XS.istore X954.here hx rfl (hb hby at_437) rfl (l' := #[jv p1, sc, jv p2, sc, jv p3, sc, jv p4, sc, iv p5, iv p6, iv y2, rv b1, rv b2, iv y11, iv y13, iv y15, rv b37, rv b42, rv b73, rv b105, rv b133, rv b658, rv b698, iv (1 : Int32), iv y16, iv y17]) rfl ?_
        refine xaload X954 hx hby at_439 rfl rfl ?_
        refine xiload X954 hx hby at_441 rfl ?_
        refine xiload X954 hx hby at_443 rfl ?_
        show SS p e below T954 m 445 #[jv p1, sc, jv p2, sc, jv p3, sc, jv p4, sc, iv p5, iv p6, iv y2, rv b1, rv b2, iv y11, iv y13, iv y15, rv b37, rv b42, rv b73, rv b105, rv b133, rv b658, rv b698, iv (1 : Int32), iv y16, iv y17] [(.int y13), (.int y11), (.ref b698)] _
        refine st955 _ ?_
        show SS p e below T955 m 448 #[jv p1, sc, jv p2, sc, jv p3, sc, jv p4, sc, iv p5, iv p6, iv y2, rv b1, rv b2, iv y11, iv y13, iv y15, rv b37, rv b42, rv b73, rv b105, rv b133, rv b658, rv b698, iv (1 : Int32), iv y16, iv y17] [(.int (own_meet y11 y13 (own_jmin (9223372036854775807 : Int64) y3) (own_jmax (-1 : Int64) y4) (own_jmin (9223372036854775807 : Int64) y5) (own_jmax (-1 : Int64) y6) (9223372036854775807 : Int64) (-1 : Int64) (9223372036854775807 : Int64) (-1 : Int64)))] _
        rw [pr76]
        refine xiload X955 hx hby at_448 rfl ?_
        refine XS.icmpNo X955.here hx rfl (hb hby at_450) rfl (teq (by rw [← pr76]; simp only [own_jmin_id, own_jmax_id2 pr18 pr17, own_jmax_id2 pr22 pr21]; exact own_finC (own_01 pr11) (own_01 pr13) hf901 hf904 pr18 pr22)).2 ?_
        refine XS.iconst X955.here hx rfl (hb hby at_453) ?_
        refine XS.goto X955.here hx rfl (pc0 := 454) (pc' := 458) rfl (hb hby at_454) (by decide) (by decide) ?_
        show SS p e below T955 m 458 #[jv p1, sc, jv p2, sc, jv p3, sc, jv p4, sc, iv p5, iv p6, iv y2, rv b1, rv b2, iv y11, iv y13, iv y15, rv b37, rv b42, rv b73, rv b105, rv b133, rv b658, rv b698, iv (1 : Int32), iv y16, iv y17] [(.int (1 : Int32))] _
        exact retN X955 hx (t := .boolean) Bd.returns (by simp) (hb hby at_458) hr
set_option maxRecDepth 65536 in
set_option maxHeartbeats 40000000 in
theorem comes_1 {Post : Tables → Env → Array Value → State → Outcome → State → Prop} (hpost : ∀ tb e args s v u, (limb_1_1.after args s (.returned v) u = true ∧ limb_1_2.after args s (.returned v) u = true ∧ True) → ReturnedEndW s (.returned v) u (Jvm.fieldLocs frame_1_writes args s ++ Jvm.arrayLocs frame_1_arrays args s ++ Jvm.staticLocs frame_1_statics s) 112 3456 → Post tb e args s (.returned v) u) :
    ArmFor flags0 classFile x code maxLocals ret World_1 tables_1 room_1 Calls_1 rest_1 Pre_1 Post := by
  intro l hfl _ _ p e ha hc hk s m args below hf hA hF happ hP
  obtain ⟨hcalls, hrest, hpre⟩ := hP
  obtain ⟨-, -, -, hnamed, -, -, -, hat⟩ := (Spec.applies_iff hf).mp happ
  obtain ⟨hg, hn⟩ := and_e (Cond.before_iff.mp (show (Jvm.Cond.and given_1 narrow_1).before args s = true from hpre))
  obtain ⟨g10, g11⟩ := and_e hg
  obtain ⟨g12, g13⟩ := and_e g11
  obtain ⟨g14, g15⟩ := and_e g13
  obtain ⟨g16, g17⟩ := and_e g15
  obtain ⟨g18, g19⟩ := and_e g17
  obtain ⟨g20, g21⟩ := and_e g19
  obtain ⟨w0, w1, w2, w3, w4, w5, rfl⟩ : ∃ w0 w1 w2 w3 w4 w5 : Value, args = #[w0, w1, w2, w3, w4, w5] := by
    have hs : args.size = 6 := by simpa [Cond.value, given_1] using g10
    obtain ⟨L⟩ := args
    match L, hs with
    | [w0, w1, w2, w3, w4, w5], _ => exact ⟨w0, w1, w2, w3, w4, w5, rfl⟩
  have hw := fun d (hd : d ∈ tables_1) => atoms_spec (ws := Jvm.Cond.code x code maxLocals ret :: tables_1) hat d (List.mem_cons_of_mem _ hd)
  have hfit : Fit s := fun {y c} hc i hi => by
    obtain ⟨ha, rfl⟩ := Array.getElem?_eq_some_iff.mp hc
    have q := List.all_eq_true.mp ((Array.all_eq_true_iff_forall_mem.mp hF) _ (Array.getElem_mem ha)) i (List.mem_range.mpr hi)
    simpa [Array.getElem?_eq_getElem hi] using q
  obtain ⟨hsets, hown0⟩ := atoms_of _ (rest_1_c_eq ▸ (show rest_1_c.before _ s = true from hrest))
  obtain ⟨i0, ei0⟩ := isL_v g12
  obtain rfl : w0 = (.long i0) := Option.some.inj ei0
  obtain ⟨i1, ei1⟩ := isL_v g14
  obtain rfl : w1 = (.long i1) := Option.some.inj ei1
  obtain ⟨i2, ei2⟩ := isL_v g16
  obtain rfl : w2 = (.long i2) := Option.some.inj ei2
  obtain ⟨i3, ei3⟩ := isL_v g18
  obtain rfl : w3 = (.long i3) := Option.some.inj ei3
  obtain ⟨i4, ei4⟩ := is_v g20
  obtain rfl : w4 = (.int i4) := Option.some.inj ei4
  obtain ⟨i5, ei5⟩ := is_v g21
  obtain rfl : w5 = (.int i5) := Option.some.inj ei5
  obtain ⟨w_EMPTY_ELEMENTDATA, ev1⟩ := exa_v (Cond.before_iff.mp (hsets _ (List.mem_of_getElem? (i := 4) rfl)))
  have S_ArrayList_EMPTY_ELEMENTDATA : Sta s s.heap "java/util/ArrayList" "EMPTY_ELEMENTDATA" "[Ljava/lang/Object;" (.ref w_EMPTY_ELEMENTDATA) := Sta.start ev1 (Or.inl (hsets _ (List.mem_of_getElem? (i := 1) rfl)))
  have E_w_EMPTY_ELEMENTDATA : Exa s s.heap w_EMPTY_ELEMENTDATA "[Ljava/lang/Object;" := Exa.start ev1 (Cond.before_iff.mp (hsets _ (List.mem_of_getElem? (i := 4) rfl)))
  obtain ⟨w_DEFAULTCAPACITY_EMPTY_ELEMENTDATA, ev2⟩ := exa_v (Cond.before_iff.mp (hsets _ (List.mem_of_getElem? (i := 7) rfl)))
  have S_ArrayList_DEFAULTCAPACITY_EMPTY_ELEMENTDATA : Sta s s.heap "java/util/ArrayList" "DEFAULTCAPACITY_EMPTY_ELEMENTDATA" "[Ljava/lang/Object;" (.ref w_DEFAULTCAPACITY_EMPTY_ELEMENTDATA) := Sta.start ev2 (Or.inr ⟨(wd47 hw), (hsets _ (List.mem_of_getElem? (i := 2) rfl))⟩)
  have E_w_DEFAULTCAPACITY_EMPTY_ELEMENTDATA : Exa s s.heap w_DEFAULTCAPACITY_EMPTY_ELEMENTDATA "[Ljava/lang/Object;" := Exa.start ev2 (Cond.before_iff.mp (hsets _ (List.mem_of_getElem? (i := 7) rfl)))
  obtain ⟨w_EMPTY, ev3⟩ := exa_v (Cond.before_iff.mp (hsets _ (List.mem_of_getElem? (i := 11) rfl)))
  have S_ImmutableCollections_EMPTY : Sta s s.heap "java/util/ImmutableCollections" "EMPTY" "Ljava/lang/Object;" (.ref w_EMPTY) := Sta.start ev3 (Or.inl (hsets _ (List.mem_of_getElem? (i := 10) rfl)))
  have E_w_EMPTY : Exa s s.heap w_EMPTY "java/lang/Object" := Exa.start ev3 (Cond.before_iff.mp (hsets _ (List.mem_of_getElem? (i := 11) rfl)))
  obtain ⟨w_EMPTY_LIST, ev4⟩ := exa_v (Cond.before_iff.mp (hsets _ (List.mem_of_getElem? (i := 17) rfl)))
  have S_ImmutableCollections_EMPTY_LIST : Sta s s.heap "java/util/ImmutableCollections" "EMPTY_LIST" "Ljava/util/ImmutableCollections$ListN;" (.ref w_EMPTY_LIST) := Sta.start ev4 (Or.inl (hsets _ (List.mem_of_getElem? (i := 16) rfl)))
  have E_w_EMPTY_LIST : Exa s s.heap w_EMPTY_LIST "java/util/ImmutableCollections$ListN" := Exa.start ev4 (Cond.before_iff.mp (hsets _ (List.mem_of_getElem? (i := 17) rfl)))
  have E_w_EMPTY_LIST : Exa s s.heap w_EMPTY_LIST "java/util/ImmutableCollections$ListN" := Exa.start ev4 (Cond.before_iff.mp (hsets _ (List.mem_of_getElem? (i := 20) rfl)))
  obtain ⟨w_EMPTY_LIST__elements, ev5⟩ := exa_v (Cond.before_iff.mp (hsets _ (List.mem_of_getElem? (i := 22) rfl)))
  have F_6 : Fld s s.heap w_EMPTY_LIST "java/util/ImmutableCollections$ListN" "elements" "[Ljava/lang/Object;" (.ref w_EMPTY_LIST__elements) := Fld.start ((fld_at ev4).symm.trans ev5)
  have E_w_EMPTY_LIST__elements : Exa s s.heap w_EMPTY_LIST__elements "[Ljava/lang/Object;" := Exa.start ev5 (Cond.before_iff.mp (hsets _ (List.mem_of_getElem? (i := 22) rfl)))
  have ev7 := own_eqI (Cond.before_iff.mp (hsets _ (List.mem_of_getElem? (i := 14) rfl)))
  have S_ImmutableCollections__assertionsDisabled : Sta s s.heap "java/util/ImmutableCollections" "$assertionsDisabled" "Z" (.int (1 : Int32)) := Sta.start ev7 (Or.inl (hsets _ (List.mem_of_getElem? (i := 13) rfl)))
  have ev8 := own_eqI (Cond.before_iff.mp (hsets _ (List.mem_of_getElem? (i := 24) rfl)))
  have F_9 : Fld s s.heap w_EMPTY_LIST "java/util/ImmutableCollections$ListN" "allowNulls" "Z" (.int (0 : Int32)) := Fld.start ((fld_at ev4).symm.trans ev8)
  obtain ⟨k_w_EMPTY_ELEMENTDATA, V_w_EMPTY_ELEMENTDATA⟩ := own_arr0 hfit ev1 (Cond.before_iff.mp (hsets _ (List.mem_of_getElem? (i := 3) rfl))) (Cond.before_iff.mp (hsets _ (List.mem_of_getElem? (i := 5) rfl)))
  obtain ⟨k_w_DEFAULTCAPACITY_EMPTY_ELEMENTDATA, V_w_DEFAULTCAPACITY_EMPTY_ELEMENTDATA⟩ := own_arr0 hfit ev2 (Cond.before_iff.mp (hsets _ (List.mem_of_getElem? (i := 6) rfl))) (Cond.before_iff.mp (hsets _ (List.mem_of_getElem? (i := 8) rfl)))
  obtain ⟨k_w_EMPTY_LIST__elements, V_w_EMPTY_LIST__elements⟩ := own_arr0 hfit ev5 (Cond.before_iff.mp (hsets _ (List.mem_of_getElem? (i := 21) rfl))) (Cond.before_iff.mp (hsets _ (List.mem_of_getElem? (i := 23) rfl)))
  obtain ⟨cM, kM, mir_objs, m1, m2, m3, -⟩ := hcalls.1
  have M_mir_objs : MirM s "[Ljava/lang/Object;" mir_objs := ⟨cM, kM, m1, m2, m3⟩
  have R : MetFree l x (head1 (Jvm.Cond.code x code maxLocals ret :: tables_1) room_1) (fun a U => a = #[(.long i0), (.long i1), (.long i2), (.long i3), (.int i4), (.int i5)] ∧ s.Warmed39 U.vm ∧ U.heap = s.heap) (fun _ _ _ _ _ => True) (fun _ U o U' => ∃ v L, o = .returned v ∧ Q0 s.heap.size v L ∧ ReturnedEndW U o U' L 112 3456) := by
    exact rm0 l s _ hw tables_1 i0 i1 i2 i3 i4 i5 _ _ _ _ _ _ _ _ _ _ _ _ _ _ _ w_DEFAULTCAPACITY_EMPTY_ELEMENTDATA k_w_DEFAULTCAPACITY_EMPTY_ELEMENTDATA mir_objs w_EMPTY _ _ _ _ _ _ _ _ _ _ _ _ _ _ _ w_EMPTY_LIST w_EMPTY_LIST__elements k_w_EMPTY_LIST__elements _ s.heap s.heap.size (Old.start s) rfl rfl rfl rfl rfl rfl rfl rfl rfl rfl rfl rfl rfl rfl rfl S_ArrayList_DEFAULTCAPACITY_EMPTY_ELEMENTDATA (own_nlo (own_lh i4 (own_m24 _) (own_m24 i0)).1) (own_nhl (own_lh i4 (own_m24 _) (own_m24 i0)).2.1) (own_nhi (own_lh i4 (own_m24 _) (own_m24 i0)).2.2) V_w_DEFAULTCAPACITY_EMPTY_ELEMENTDATA (own_nlo (own_lh i4 (own_m24 _) (own_m24 i1)).1) (own_nhl (own_lh i4 (own_m24 _) (own_m24 i1)).2.1) (own_nhi (own_lh i4 (own_m24 _) (own_m24 i1)).2.2) (own_nlo (own_lh i4 (own_m24 _) (own_m24 i2)).1) (own_nhl (own_lh i4 (own_m24 _) (own_m24 i2)).2.1) (own_nhi (own_lh i4 (own_m24 _) (own_m24 i2)).2.2) (own_nlo (own_lh i4 (own_m24 _) (own_m24 i3)).1) (own_nhl (own_lh i4 (own_m24 _) (own_m24 i3)).2.1) (own_nhi (own_lh i4 (own_m24 _) (own_m24 i3)).2.2) M_mir_objs S_ImmutableCollections_EMPTY E_w_EMPTY rfl rfl (by rcases and_one i5 with h | h <;> rw [h] <;> decide) (by rcases and_one i5 with h | h <;> rw [h] <;> decide) rfl rfl (by rcases and_one ((i5.toUInt32 >>> ((1 : Int32) &&& 31).toUInt32).toInt32) with h | h <;> rw [h] <;> decide) (by rcases and_one ((i5.toUInt32 >>> ((1 : Int32) &&& 31).toUInt32).toInt32) with h | h <;> rw [h] <;> decide) rfl rfl rfl (by rcases and_one i5 with h | h <;> rw [h] <;> decide) (by rcases and_one i5 with h | h <;> rw [h] <;> decide) (by rcases and_one ((i5.toUInt32 >>> ((1 : Int32) &&& 31).toUInt32).toInt32) with h | h <;> rw [h] <;> decide) (by rcases and_one ((i5.toUInt32 >>> ((1 : Int32) &&& 31).toUInt32).toInt32) with h | h <;> rw [h] <;> decide) (by rcases and_one ((i5.toUInt32 >>> ((1 : Int32) &&& 31).toUInt32).toInt32) with h | h <;> rw [h] <;> decide) (by rcases and_one ((i5.toUInt32 >>> ((1 : Int32) &&& 31).toUInt32).toInt32) with h | h <;> rw [h] <;> decide) (by rcases and_one i5 with h | h <;> rw [h] <;> decide) (by rcases and_one i5 with h | h <;> rw [h] <;> decide) (by rcases and_one i5 with h | h <;> rw [h] <;> decide) (by rcases and_one i5 with h | h <;> rw [h] <;> decide) (by rcases and_one ((i5.toUInt32 >>> ((1 : Int32) &&& 31).toUInt32).toInt32) with h | h <;> rw [h] <;> decide) (by rcases and_one ((i5.toUInt32 >>> ((1 : Int32) &&& 31).toUInt32).toInt32) with h | h <;> rw [h] <;> decide) (by rcases and_one ((i5.toUInt32 >>> ((1 : Int32) &&& 31).toUInt32).toInt32) with h | h <;> rw [h] <;> decide) (by rcases and_one ((i5.toUInt32 >>> ((1 : Int32) &&& 31).toUInt32).toInt32) with h | h <;> rw [h] <;> decide) (by rcases and_one i5 with h | h <;> rw [h] <;> decide) (by rcases and_one i5 with h | h <;> rw [h] <;> decide) rfl rfl (by rcases and_one i5 with h | h <;> rw [h] <;> decide) (by rcases and_one i5 with h | h <;> rw [h] <;> decide) rfl rfl rfl (by rcases and_one ((i5.toUInt32 >>> ((1 : Int32) &&& 31).toUInt32).toInt32) with h | h <;> rw [h] <;> decide) (by rcases and_one ((i5.toUInt32 >>> ((1 : Int32) &&& 31).toUInt32).toInt32) with h | h <;> rw [h] <;> decide) rfl rfl rfl S_ImmutableCollections_EMPTY_LIST F_6 V_w_EMPTY_LIST__elements E_w_EMPTY_LIST rfl
  obtain ⟨n, o, h1, h2, h3, _, L, rfl, ⟨rfl, N⟩, hq⟩ := R p e ha hc hk s m _ below hf ((Spec.applies_iff_loose hf).mp happ).1 ⟨rfl, State.Warmed39.refl s, rfl⟩ trivial
  refine ⟨n, _, h1, h2, h3, hpost _ _ _ _ _ _ ⟨Cond.after_iff.mpr rfl, Cond.after_iff.mpr (eq_i res_at (Term.int_eval (1)) rfl), trivial⟩ ⟨hq.1, hq.2.1, hq.2.2.1, (hq.2.2.2.sift fun y hy => Or.inr (N y hy)).mono (by decide) (by decide)⟩⟩
theorem main_1_1 : Claimed_1_1 := comes_1 fun _ _ _ _ _ _ h hF => ⟨h.1, hF⟩
theorem main_1_2 : Claimed_1_2 := comes_1 fun _ _ _ _ _ _ h hF => ⟨h.2.1, hF⟩
end Jvm.Pilot.@@N@@
namespace Jvm.Pilot.@@N@@
open Jvm Jvm.ClassFile Sem Op Lib Jvm.Free Jvm.Stand Jvm.Pilot.@@N@@.Jvm.D
/-! MADE BY PROGRAM (witnessworld.py) out of the Statement's table words and the real class files: 45 classes; the members and pool entries that the words name. The judged class is class 1, her method 4. -/
namespace start1
open Jvm.ClassFile
def u (s : String) : CpInfo := .utf8 (stringToUtf16 s)
/-- a pool by its gaps: so many unusable entries, then the entry; so many at the end -/
def gap : Nat → List CpInfo → List CpInfo
  | 0, r => r
  | n + 1, r => .unusable :: gap n r
def poolList (es : List (Nat × CpInfo)) (last : Nat) : List CpInfo := es.foldr (fun e r => gap e.1 (e.2 :: r)) (gap last [])
def pool (es : List (Nat × CpInfo)) (last : Nat) : Array CpInfo := ⟨poolList es last⟩
def fileOf (pool : Array CpInfo) (this : Nat) (attrs : Array Attribute := #[]) (ms : Array MethodInfo := #[]) (fl : Nat := 33) (sup : Nat := 0) (ifs : Array Nat := #[]) (fds : Array FieldInfo := #[]) : ClassFile where
  minorVersion := 0
  majorVersion := 65
  constantPool := pool
  accessFlags := fl
  thisClass := this
  superClass := sup
  interfaces := ifs
  fields := fds
  methods := ms
  attributes := attrs
def plain (name : String) (sup : Option ClassId) : Class where
  name := name
  kind := .ordinary
  loader := none
  accessFlags := 33
  super := sup
  interfaces := #[]
  cf := none
  fields := #[]
  methods := #[]
  instanceTypes := #[]
  staticTypes := #[]
  resolved := #[]
  callSites := []
  init := .initialized
  statics := none
  mirror := none

def pool0 : Array CpInfo := pool [(5, u "<init>"), (0, u "()V"), (1, .class_ 10), (1, u "java/lang/Object"), (0, u "getClass"), (0, u "()Ljava/lang/Class;")] 111

def k0c0 : Code := { maxStack := 0, maxLocals := 1, code := object_method_1_code, exceptionTable := #[], attributes := #[] }
def k0m0 : Method := { name := "<init>", desc := "()V", sig := { parameters := [], returnType := none }, accessFlags := 1, code := some k0c0 }
def k0m1 : Method := { name := "getClass", desc := "()Ljava/lang/Class;", sig := { parameters := [], returnType := some (.object "java/lang/Class") }, accessFlags := 273, code := none }
/-- java/lang/Object -/
def k0 : Class := { plain "java/lang/Object" none with
  accessFlags := 33
  interfaces := #[]
  cf := some (fileOf pool0 8 #[] #[{ accessFlags := 1, nameIndex := 5, descriptorIndex := 6, attributes := #[] }, { accessFlags := 273, nameIndex := 11, descriptorIndex := 12, attributes := #[] }] 33 0 #[] #[])
  fields := #[]
  methods := #[k0m0, k0m1]
  instanceTypes := #[]
  staticTypes := #[]
  resolved := Array.replicate 124 none
  statics := none }

def pool1 : Array CpInfo := pool [(2, .class_ 4), (0, .nameAndType 5 6), (0, u "java/lang/Object"), (0, u "<init>"), (0, u "()V"), (0, .long 16777215), (1, .methodref 10 11), (0, .class_ 12), (0, .nameAndType 13 14), (0, u "java/lang/Math"), (0, u "min"), (0, u "(JJ)J"), (0, .methodref 10 16), (0, .nameAndType 17 14), (0, u "max"), (0, .methodref 19 20), (0, .class_ 21), (0, .nameAndType 22 23), (0, u "shadowsift/core/BoundsMeetPinLaw"), (0, u "low"), (0, u "(JI)J"), (0, .methodref 19 25), (0, .nameAndType 26 23), (0, u "high"), (0, .class_ 28), (0, u "shadowsift/core/Decision"), (0, .string 30), (0, u "d"), (0, .methodref 27 32), (0, .nameAndType 5 33), (0, u "(Ljava/lang/String;)V"), (0, .class_ 35), (0, u "java/util/ArrayList"), (0, .methodref 34 3), (0, .methodref 38 39), (0, .class_ 40), (0, .nameAndType 41 42), (0, u "shadowsift/core/ValueSet"), (0, u "range"), (0, u "(JJ)Lshadowsift/core/ValueSet;"), (0, .methodref 34 44), (0, .nameAndType 45 46), (0, u "add"), (0, u "(Ljava/lang/Object;)Z"), (0, .class_ 48), (0, u "shadowsift/core/Box"), (0, .methodref 47 50), (0, .nameAndType 5 51), (0, u "(Ljava/util/List;)V"), (0, .class_ 53), (0, u "shadowsift/core/Rule"), (0, .methodref 52 55), (0, .nameAndType 5 56), (0, u "(Lshadowsift/core/Decision;Ljava/util/List;)V"), (0, .class_ 58), (0, u "shadowsift/core/Bounds"), (0, .methodref 57 60), (0, .nameAndType 5 61), (0, u "(ILjava/util/List;)V"), (0, .methodref 19 63), (0, .nameAndType 64 65), (0, u "overlap"), (0, u "(JJJJ)Z"), (0, .methodref 57 67), (0, .nameAndType 68 69), (0, u "meet"), (0, u "(II)Z"), (3, u "law"), (0, u "(JJJJII)Z")] 4

def k1m0 : Method := { name := "<init>", desc := "()V", sig := { parameters := [], returnType := none }, accessFlags := 1, code := none }
def k1c1 : Code := { maxStack := 4, maxLocals := 7, code := method_2_code, exceptionTable := #[], attributes := #[] }
def k1m1 : Method := { name := "low", desc := "(JI)J", sig := { parameters := [.long, .int], returnType := some .long }, accessFlags := 10, code := some k1c1 }
def k1c2 : Code := { maxStack := 4, maxLocals := 7, code := method_3_code, exceptionTable := #[], attributes := #[] }
def k1m2 : Method := { name := "high", desc := "(JI)J", sig := { parameters := [.long, .int], returnType := some .long }, accessFlags := 10, code := some k1c2 }
def k1c3 : Code := { maxStack := 4, maxLocals := 8, code := method_4_code, exceptionTable := #[], attributes := #[] }
def k1m3 : Method := { name := "overlap", desc := "(JJJJ)Z", sig := { parameters := [.long, .long, .long, .long], returnType := some .boolean }, accessFlags := 10, code := some k1c3 }
def k1c4 : Code := { maxStack := 9, maxLocals := 26, code := code, exceptionTable := #[], attributes := #[] }
def k1m4 : Method := { name := "law", desc := "(JJJJII)Z", sig := { parameters := [.long, .long, .long, .long, .int, .int], returnType := some .boolean }, accessFlags := 9, code := some k1c4 }
/-- shadowsift/core/BoundsMeetPinLaw -/
def k1 : Class := { plain "shadowsift/core/BoundsMeetPinLaw" (some 0) with
  accessFlags := 49
  interfaces := #[]
  cf := some (fileOf pool1 19 #[] #[{ accessFlags := 1, nameIndex := 5, descriptorIndex := 6, attributes := #[] }, { accessFlags := 10, nameIndex := 22, descriptorIndex := 23, attributes := #[] }, { accessFlags := 10, nameIndex := 26, descriptorIndex := 23, attributes := #[] }, { accessFlags := 10, nameIndex := 64, descriptorIndex := 65, attributes := #[] }, { accessFlags := 9, nameIndex := 73, descriptorIndex := 74, attributes := #[] }] 49 2 #[] #[])
  fields := #[]
  methods := #[k1m0, k1m1, k1m2, k1m3, k1m4]
  instanceTypes := #[]
  staticTypes := #[]
  resolved := Array.replicate 79 none
  statics := none }

def pool2 : Array CpInfo := pool [(1, .class_ 2), (0, u "java/lang/Math"), (1, .class_ 6), (1, u "java/lang/Object"), (0, u "<init>"), (0, u "()V"), (89, .class_ 100), (1, u "java/lang/Math$RandomNumberGeneratorHolder"), (20, u "(JJ)J"), (50, u "negativeZeroFloatBits"), (0, u "J"), (2, u "negativeZeroDoubleBits"), (21, u "max"), (2, u "min"), (43, u "$assertionsDisabled"), (0, u "Z"), (88, u "(II)I"), (2, u "twoToTheDoubleScaleDown"), (0, u "D"), (4, u "twoToTheDoubleScaleUp"), (9, u "E"), (3, u "PI"), (2, u "TAU"), (2, u "DEGREES_TO_RADIANS"), (0, u "RADIANS_TO_DEGREES")] 94

def k2m0 : Method := { name := "<init>", desc := "()V", sig := { parameters := [], returnType := none }, accessFlags := 2, code := none }
def k2c1 : Code := { maxStack := 2, maxLocals := 2, code := jdk_29_method_65_code, exceptionTable := #[], attributes := #[] }
def k2m1 : Method := { name := "max", desc := "(II)I", sig := { parameters := [.int, .int], returnType := some .int }, accessFlags := 9, code := some k2c1 }
def k2c2 : Code := { maxStack := 4, maxLocals := 4, code := jdk_29_method_66_code, exceptionTable := #[], attributes := #[] }
def k2m2 : Method := { name := "max", desc := "(JJ)J", sig := { parameters := [.long, .long], returnType := some .long }, accessFlags := 9, code := some k2c2 }
def k2c3 : Code := { maxStack := 2, maxLocals := 2, code := jdk_29_method_69_code, exceptionTable := #[], attributes := #[] }
def k2m3 : Method := { name := "min", desc := "(II)I", sig := { parameters := [.int, .int], returnType := some .int }, accessFlags := 9, code := some k2c3 }
def k2c4 : Code := { maxStack := 4, maxLocals := 4, code := jdk_29_method_70_code, exceptionTable := #[], attributes := #[] }
def k2m4 : Method := { name := "min", desc := "(JJ)J", sig := { parameters := [.long, .long], returnType := some .long }, accessFlags := 9, code := some k2c4 }
/-- java/lang/Math -/
def k2 : Class := { plain "java/lang/Math" (some 0) with
  accessFlags := 49
  interfaces := #[]
  cf := some (fileOf pool2 1 #[.nestMembers #[98]] #[{ accessFlags := 2, nameIndex := 7, descriptorIndex := 8, attributes := #[] }, { accessFlags := 9, nameIndex := 198, descriptorIndex := 335, attributes := #[] }, { accessFlags := 9, nameIndex := 198, descriptorIndex := 121, attributes := #[] }, { accessFlags := 9, nameIndex := 201, descriptorIndex := 335, attributes := #[] }, { accessFlags := 9, nameIndex := 201, descriptorIndex := 121, attributes := #[] }] 49 4 #[] #[{ accessFlags := 25, nameIndex := 354, descriptorIndex := 339, attributes := #[] }, { accessFlags := 25, nameIndex := 358, descriptorIndex := 339, attributes := #[] }, { accessFlags := 25, nameIndex := 361, descriptorIndex := 339, attributes := #[] }, { accessFlags := 26, nameIndex := 364, descriptorIndex := 339, attributes := #[] }, { accessFlags := 26, nameIndex := 365, descriptorIndex := 339, attributes := #[] }, { accessFlags := 26, nameIndex := 172, descriptorIndex := 173, attributes := #[] }, { accessFlags := 26, nameIndex := 176, descriptorIndex := 173, attributes := #[] }, { accessFlags := 8, nameIndex := 344, descriptorIndex := 339, attributes := #[] }, { accessFlags := 8, nameIndex := 338, descriptorIndex := 339, attributes := #[] }, { accessFlags := 4120, nameIndex := 245, descriptorIndex := 246, attributes := #[] }])
  fields := #[{ name := "E", type := .double, accessFlags := 25, slot := 0, constantValue := 0 }, { name := "PI", type := .double, accessFlags := 25, slot := 1, constantValue := 0 }, { name := "TAU", type := .double, accessFlags := 25, slot := 2, constantValue := 0 }, { name := "DEGREES_TO_RADIANS", type := .double, accessFlags := 26, slot := 3, constantValue := 0 }, { name := "RADIANS_TO_DEGREES", type := .double, accessFlags := 26, slot := 4, constantValue := 0 }, { name := "negativeZeroFloatBits", type := .long, accessFlags := 26, slot := 5, constantValue := 0 }, { name := "negativeZeroDoubleBits", type := .long, accessFlags := 26, slot := 6, constantValue := 0 }, { name := "twoToTheDoubleScaleUp", type := .double, accessFlags := 8, slot := 7, constantValue := 0 }, { name := "twoToTheDoubleScaleDown", type := .double, accessFlags := 8, slot := 8, constantValue := 0 }, { name := "$assertionsDisabled", type := .boolean, accessFlags := 4120, slot := 9, constantValue := 0 }]
  methods := #[k2m0, k2m1, k2m2, k2m3, k2m4]
  instanceTypes := #[]
  staticTypes := #[.double, .double, .double, .double, .double, .long, .long, .double, .double, .boolean]
  resolved := Array.replicate 460 none
  statics := none }

def pool3 : Array CpInfo := pool [(1, .methodref 2 3), (0, .class_ 4), (0, .nameAndType 5 6), (0, u "java/lang/Object"), (0, u "<init>"), (0, u "()V"), (0, .class_ 8), (0, u "java/lang/Record")] 13

def k3c0 : Code := { maxStack := 1, maxLocals := 1, code := jdk_30_method_1_code, exceptionTable := #[], attributes := #[] }
def k3m0 : Method := { name := "<init>", desc := "()V", sig := { parameters := [], returnType := none }, accessFlags := 4, code := some k3c0 }
/-- java/lang/Record -/
def k3 : Class := { plain "java/lang/Record" (some 0) with
  accessFlags := 1057
  interfaces := #[]
  cf := some (fileOf pool3 7 #[] #[{ accessFlags := 4, nameIndex := 5, descriptorIndex := 6, attributes := #[] }] 1057 2 #[] #[])
  fields := #[]
  methods := #[k3m0]
  instanceTypes := #[]
  staticTypes := #[]
  resolved := Array.replicate 22 none
  statics := none }

def pool4 : Array CpInfo := pool [(1, .methodref 2 3), (0, .class_ 4), (0, .nameAndType 5 6), (0, u "java/lang/Record"), (0, u "<init>"), (0, u "()V"), (0, .string 8), (0, u "name"), (0, .methodref 10 11), (0, .class_ 12), (0, .nameAndType 13 14), (0, u "java/util/Objects"), (0, u "requireNonNull"), (0, u "(Ljava/lang/Object;Ljava/lang/String;)Ljava/lang/Object;"), (0, .fieldref 16 17), (0, .class_ 18), (0, .nameAndType 8 19), (0, u "shadowsift/core/Decision"), (0, u "Ljava/lang/String;"), (12, u "(Ljava/lang/String;)V")] 24

def k4c0 : Code := { maxStack := 2, maxLocals := 2, code := prog_36_method_1_code, exceptionTable := #[], attributes := #[] }
def k4m0 : Method := { name := "<init>", desc := "(Ljava/lang/String;)V", sig := { parameters := [(.object "java/lang/String")], returnType := none }, accessFlags := 1, code := some k4c0 }
/-- shadowsift/core/Decision -/
def k4 : Class := { plain "shadowsift/core/Decision" (some 3) with
  accessFlags := 49
  interfaces := #[]
  cf := some (fileOf pool4 16 #[] #[{ accessFlags := 1, nameIndex := 5, descriptorIndex := 32, attributes := #[] }] 49 2 #[] #[{ accessFlags := 18, nameIndex := 8, descriptorIndex := 19, attributes := #[] }])
  fields := #[{ name := "name", type := (.object "java/lang/String"), accessFlags := 18, slot := 0, constantValue := 0 }]
  methods := #[k4m0]
  instanceTypes := #[(.object "java/lang/String")]
  staticTypes := #[]
  resolved := Array.replicate 57 none
  statics := none }

def pool5 : Array CpInfo := pool [(1, .class_ 2), (0, u "java/io/Serializable"), (0, .class_ 4), (0, u "java/lang/Object")] 2

/-- java/io/Serializable -/
def k5 : Class := { plain "java/io/Serializable" (some 0) with
  accessFlags := 1537
  interfaces := #[]
  cf := some (fileOf pool5 1 #[] #[] 1537 3 #[] #[])
  fields := #[]
  methods := #[]
  instanceTypes := #[]
  staticTypes := #[]
  resolved := Array.replicate 7 none
  statics := none }

def pool6 : Array CpInfo := pool [(1, .class_ 2), (0, u "java/lang/Comparable"), (0, .class_ 4), (0, u "java/lang/Object")] 7

/-- java/lang/Comparable -/
def k6 : Class := { plain "java/lang/Comparable" (some 0) with
  accessFlags := 1537
  interfaces := #[]
  cf := some (fileOf pool6 1 #[] #[] 1537 3 #[] #[])
  fields := #[]
  methods := #[]
  instanceTypes := #[]
  staticTypes := #[]
  resolved := Array.replicate 12 none
  statics := none }

def pool7 : Array CpInfo := pool [(2, .class_ 4), (1, u "java/lang/CharSequence"), (42, .class_ 48), (0, u "java/lang/CharSequence$1CodePointIterator"), (10, .class_ 60), (0, u "java/lang/CharSequence$1CharIterator"), (5, .class_ 67), (0, u "java/lang/Object")] 63

/-- java/lang/CharSequence -/
def k7 : Class := { plain "java/lang/CharSequence" (some 0) with
  accessFlags := 1537
  interfaces := #[]
  cf := some (fileOf pool7 2 #[.nestMembers #[47, 59]] #[] 1537 66 #[] #[])
  fields := #[]
  methods := #[]
  instanceTypes := #[]
  staticTypes := #[]
  resolved := Array.replicate 131 none
  statics := none }

def pool8 : Array CpInfo := pool [(1, .class_ 2), (0, u "java/lang/constant/Constable"), (0, .class_ 4), (0, u "java/lang/Object")] 6

/-- java/lang/constant/Constable -/
def k8 : Class := { plain "java/lang/constant/Constable" (some 0) with
  accessFlags := 1537
  interfaces := #[]
  cf := some (fileOf pool8 1 #[] #[] 1537 3 #[] #[])
  fields := #[]
  methods := #[]
  instanceTypes := #[]
  staticTypes := #[]
  resolved := Array.replicate 11 none
  statics := none }

def pool9 : Array CpInfo := pool [(1, .class_ 2), (0, u "java/lang/constant/ConstantDesc"), (0, .class_ 4), (0, u "java/lang/Object")] 32

/-- java/lang/constant/ConstantDesc -/
def k9 : Class := { plain "java/lang/constant/ConstantDesc" (some 0) with
  accessFlags := 1537
  interfaces := #[]
  cf := some (fileOf pool9 1 #[] #[] 1537 3 #[] #[])
  fields := #[]
  methods := #[]
  instanceTypes := #[]
  staticTypes := #[]
  resolved := Array.replicate 37 none
  statics := none }

def pool10 : Array CpInfo := pool [(2, .class_ 4), (1, u "java/lang/Object"), (0, u "<init>"), (0, u "()V"), (3, .class_ 12), (1, u "java/lang/String"), (0, u "value"), (0, u "[B"), (2, u "coder"), (0, u "B"), (2, u "hash"), (0, u "I"), (2, u "hashIsZero"), (0, u "Z"), (13, u "COMPACT_STRINGS"), (534, .class_ 576), (0, u "java/lang/CharSequence"), (22, u "CASE_INSENSITIVE_ORDER"), (0, u "Ljava/util/Comparator;"), (500, u "serialPersistentFields"), (0, u "[Ljava/io/ObjectStreamField;"), (0, .class_ 1104), (0, u "java/lang/String$CaseInsensitiveComparator"), (1, .class_ 1107), (0, u "java/io/Serializable"), (0, .class_ 1109), (0, u "java/lang/Comparable"), (0, .class_ 1111), (0, u "java/lang/constant/Constable"), (0, .class_ 1113), (0, u "java/lang/constant/ConstantDesc"), (2, u "serialVersionUID"), (0, u "J"), (3, u "REPL"), (0, u "C"), (2, u "LATIN1"), (1, u "UTF16")] 323

def k10m0 : Method := { name := "<init>", desc := "()V", sig := { parameters := [], returnType := none }, accessFlags := 1, code := none }
/-- java/lang/String -/
def k10 : Class := { plain "java/lang/String" (some 0) with
  accessFlags := 49
  interfaces := #[5, 6, 7, 8, 9]
  cf := some (fileOf pool10 10 #[.nestMembers #[1103]] #[{ accessFlags := 1, nameIndex := 5, descriptorIndex := 6, attributes := #[] }] 49 2 #[1106, 1108, 575, 1110, 1112] #[{ accessFlags := 18, nameIndex := 13, descriptorIndex := 14, attributes := #[] }, { accessFlags := 18, nameIndex := 17, descriptorIndex := 18, attributes := #[] }, { accessFlags := 2, nameIndex := 21, descriptorIndex := 22, attributes := #[] }, { accessFlags := 2, nameIndex := 25, descriptorIndex := 26, attributes := #[] }, { accessFlags := 26, nameIndex := 1116, descriptorIndex := 1117, attributes := #[] }, { accessFlags := 24, nameIndex := 40, descriptorIndex := 26, attributes := #[] }, { accessFlags := 26, nameIndex := 1101, descriptorIndex := 1102, attributes := #[] }, { accessFlags := 26, nameIndex := 1121, descriptorIndex := 1122, attributes := #[] }, { accessFlags := 25, nameIndex := 599, descriptorIndex := 600, attributes := #[] }, { accessFlags := 24, nameIndex := 1125, descriptorIndex := 18, attributes := #[] }, { accessFlags := 24, nameIndex := 1127, descriptorIndex := 18, attributes := #[] }])
  fields := #[{ name := "value", type := (.array .byte), accessFlags := 18, slot := 0, constantValue := 0 }, { name := "coder", type := .byte, accessFlags := 18, slot := 1, constantValue := 0 }, { name := "hash", type := .int, accessFlags := 2, slot := 2, constantValue := 0 }, { name := "hashIsZero", type := .boolean, accessFlags := 2, slot := 3, constantValue := 0 }, { name := "serialVersionUID", type := .long, accessFlags := 26, slot := 0, constantValue := 0 }, { name := "COMPACT_STRINGS", type := .boolean, accessFlags := 24, slot := 1, constantValue := 0 }, { name := "serialPersistentFields", type := (.array (.object "java/io/ObjectStreamField")), accessFlags := 26, slot := 2, constantValue := 0 }, { name := "REPL", type := .char, accessFlags := 26, slot := 3, constantValue := 0 }, { name := "CASE_INSENSITIVE_ORDER", type := (.object "java/util/Comparator"), accessFlags := 25, slot := 4, constantValue := 0 }, { name := "LATIN1", type := .byte, accessFlags := 24, slot := 5, constantValue := 0 }, { name := "UTF16", type := .byte, accessFlags := 24, slot := 6, constantValue := 0 }]
  methods := #[k10m0]
  instanceTypes := #[(.array .byte), .byte, .int, .boolean]
  staticTypes := #[.long, .boolean, (.array (.object "java/io/ObjectStreamField")), .char, (.object "java/util/Comparator"), .byte, .byte]
  resolved := Array.replicate 1451 none
  statics := none }

def pool11 : Array CpInfo := pool [(2, .class_ 4), (1, u "java/lang/Object"), (0, u "<init>"), (0, u "()V"), (35, .class_ 44), (1, u "java/util/Objects"), (0, u "requireNonNull"), (0, u "(Ljava/lang/Object;)Ljava/lang/Object;"), (47, u "(Ljava/lang/Object;Ljava/lang/String;)Ljava/lang/Object;")] 89

def k11m0 : Method := { name := "<init>", desc := "()V", sig := { parameters := [], returnType := none }, accessFlags := 2, code := none }
def k11c1 : Code := { maxStack := 2, maxLocals := 1, code := jdk_31_method_10_code, exceptionTable := #[], attributes := #[] }
def k11m1 : Method := { name := "requireNonNull", desc := "(Ljava/lang/Object;)Ljava/lang/Object;", sig := { parameters := [(.object "java/lang/Object")], returnType := some (.object "java/lang/Object") }, accessFlags := 9, code := some k11c1 }
def k11c2 : Code := { maxStack := 3, maxLocals := 2, code := jdk_31_method_11_code, exceptionTable := #[], attributes := #[] }
def k11m2 : Method := { name := "requireNonNull", desc := "(Ljava/lang/Object;Ljava/lang/String;)Ljava/lang/Object;", sig := { parameters := [(.object "java/lang/Object"), (.object "java/lang/String")], returnType := some (.object "java/lang/Object") }, accessFlags := 9, code := some k11c2 }
/-- java/util/Objects -/
def k11 : Class := { plain "java/util/Objects" (some 0) with
  accessFlags := 49
  interfaces := #[]
  cf := some (fileOf pool11 42 #[] #[{ accessFlags := 2, nameIndex := 5, descriptorIndex := 6, attributes := #[] }, { accessFlags := 9, nameIndex := 45, descriptorIndex := 46, attributes := #[] }, { accessFlags := 9, nameIndex := 45, descriptorIndex := 94, attributes := #[] }] 49 2 #[] #[])
  fields := #[]
  methods := #[k11m0, k11m1, k11m2]
  instanceTypes := #[]
  staticTypes := #[]
  resolved := Array.replicate 184 none
  statics := none }

def pool12 : Array CpInfo := pool [(8, .class_ 10), (1, u "java/lang/Iterable"), (24, .class_ 36), (0, u "java/lang/Object")] 25

/-- java/lang/Iterable -/
def k12 : Class := { plain "java/lang/Iterable" (some 0) with
  accessFlags := 1537
  interfaces := #[]
  cf := some (fileOf pool12 8 #[] #[] 1537 35 #[] #[])
  fields := #[]
  methods := #[]
  instanceTypes := #[]
  staticTypes := #[]
  resolved := Array.replicate 62 none
  statics := none }

def pool13 : Array CpInfo := pool [(10, .class_ 12), (1, u "java/util/Collection"), (0, u "toArray"), (16, u "()Z"), (29, .class_ 61), (0, u "java/lang/Object"), (0, .class_ 63), (0, u "java/lang/Iterable"), (2, u "isEmpty"), (3, u "()[Ljava/lang/Object;")] 44

def k13m0 : Method := { name := "isEmpty", desc := "()Z", sig := { parameters := [], returnType := some .boolean }, accessFlags := 1025, code := none }
def k13m1 : Method := { name := "toArray", desc := "()[Ljava/lang/Object;", sig := { parameters := [], returnType := some (.array (.object "java/lang/Object")) }, accessFlags := 1025, code := none }
/-- java/util/Collection -/
def k13 : Class := { plain "java/util/Collection" (some 0) with
  accessFlags := 1537
  interfaces := #[12]
  cf := some (fileOf pool13 10 #[] #[{ accessFlags := 1025, nameIndex := 66, descriptorIndex := 30, attributes := #[] }, { accessFlags := 1025, nameIndex := 13, descriptorIndex := 70, attributes := #[] }] 1537 60 #[62] #[])
  fields := #[]
  methods := #[k13m0, k13m1]
  instanceTypes := #[]
  staticTypes := #[]
  resolved := Array.replicate 115 none
  statics := none }

def pool14 : Array CpInfo := pool [(1, .methodref 2 3), (0, .class_ 4), (0, .nameAndType 5 6), (0, u "java/lang/Object"), (0, u "<init>"), (0, u "()V"), (1, .class_ 10), (1, u "java/util/AbstractCollection"), (0, u "size"), (0, u "()I"), (64, .class_ 78), (0, u "java/util/Collection")] 81

def k14c0 : Code := { maxStack := 1, maxLocals := 1, code := jdk_22_method_1_code, exceptionTable := #[], attributes := #[] }
def k14m0 : Method := { name := "<init>", desc := "()V", sig := { parameters := [], returnType := none }, accessFlags := 4, code := some k14c0 }
def k14m1 : Method := { name := "size", desc := "()I", sig := { parameters := [], returnType := some .int }, accessFlags := 1025, code := none }
/-- java/util/AbstractCollection -/
def k14 : Class := { plain "java/util/AbstractCollection" (some 0) with
  accessFlags := 1057
  interfaces := #[13]
  cf := some (fileOf pool14 8 #[] #[{ accessFlags := 4, nameIndex := 5, descriptorIndex := 6, attributes := #[] }, { accessFlags := 1025, nameIndex := 11, descriptorIndex := 12, attributes := #[] }] 1057 2 #[77] #[])
  fields := #[]
  methods := #[k14m0, k14m1]
  instanceTypes := #[]
  staticTypes := #[]
  resolved := Array.replicate 160 none
  statics := none }

def pool15 : Array CpInfo := pool [(8, .class_ 10), (1, u "java/util/SequencedCollection"), (15, .class_ 27), (0, u "java/lang/Object"), (0, .class_ 29), (0, u "java/util/Collection")] 27

/-- java/util/SequencedCollection -/
def k15 : Class := { plain "java/util/SequencedCollection" (some 0) with
  accessFlags := 1537
  interfaces := #[13]
  cf := some (fileOf pool15 8 #[] #[] 1537 26 #[28] #[])
  fields := #[]
  methods := #[]
  instanceTypes := #[]
  staticTypes := #[]
  resolved := Array.replicate 57 none
  statics := none }

def pool16 : Array CpInfo := pool [(8, .class_ 10), (1, u "java/util/List"), (20, u "(Ljava/lang/Object;)V"), (16, u "<init>"), (26, u "get"), (0, u "(I)Ljava/lang/Object;"), (2, u "size"), (0, u "()I"), (7, u "of"), (1, .fieldref 91 92), (0, .class_ 93), (0, .nameAndType 94 95), (0, u "java/util/ImmutableCollections"), (0, u "EMPTY_LIST"), (0, u "Ljava/util/ImmutableCollections$ListN;"), (0, .class_ 97), (0, u "java/util/ImmutableCollections$List12"), (0, .methodref 96 99), (0, .nameAndType 48 31), (0, .methodref 96 101), (0, .nameAndType 48 102), (0, u "(Ljava/lang/Object;Ljava/lang/Object;)V"), (0, .class_ 104), (0, u "java/lang/Object"), (3, u "([Ljava/lang/Object;)Ljava/util/List;"), (3, .methodref 91 113), (0, .nameAndType 114 115), (0, u "listCopy"), (0, u "(Ljava/util/Collection;)Ljava/util/List;"), (3, u "()Ljava/util/List;"), (0, .class_ 121), (0, u "java/util/SequencedCollection"), (1, u "iterator"), (0, u "()Ljava/util/Iterator;"), (109, u "copyOf")] 16

def k16m0 : Method := { name := "size", desc := "()I", sig := { parameters := [], returnType := some .int }, accessFlags := 1025, code := none }
def k16m1 : Method := { name := "iterator", desc := "()Ljava/util/Iterator;", sig := { parameters := [], returnType := some (.object "java/util/Iterator") }, accessFlags := 1025, code := none }
def k16m2 : Method := { name := "get", desc := "(I)Ljava/lang/Object;", sig := { parameters := [.int], returnType := some (.object "java/lang/Object") }, accessFlags := 1025, code := none }
def k16c3 : Code := { maxStack := 1, maxLocals := 0, code := jdk_40_method_36_code, exceptionTable := #[], attributes := #[] }
def k16m3 : Method := { name := "of", desc := "()Ljava/util/List;", sig := { parameters := [], returnType := some (.object "java/util/List") }, accessFlags := 9, code := some k16c3 }
def k16c4 : Code := { maxStack := 5, maxLocals := 2, code := jdk_40_method_47_code, exceptionTable := #[], attributes := #[] }
def k16m4 : Method := { name := "of", desc := "([Ljava/lang/Object;)Ljava/util/List;", sig := { parameters := [(.array (.object "java/lang/Object"))], returnType := some (.object "java/util/List") }, accessFlags := 137, code := some k16c4 }
def k16c5 : Code := { maxStack := 1, maxLocals := 1, code := jdk_40_method_48_code, exceptionTable := #[], attributes := #[] }
def k16m5 : Method := { name := "copyOf", desc := "(Ljava/util/Collection;)Ljava/util/List;", sig := { parameters := [(.object "java/util/Collection")], returnType := some (.object "java/util/List") }, accessFlags := 9, code := some k16c5 }
/-- java/util/List -/
def k16 : Class := { plain "java/util/List" (some 0) with
  accessFlags := 1537
  interfaces := #[15]
  cf := some (fileOf pool16 8 #[] #[{ accessFlags := 1025, nameIndex := 79, descriptorIndex := 80, attributes := #[] }, { accessFlags := 1025, nameIndex := 123, descriptorIndex := 124, attributes := #[] }, { accessFlags := 1025, nameIndex := 75, descriptorIndex := 76, attributes := #[] }, { accessFlags := 9, nameIndex := 88, descriptorIndex := 119, attributes := #[] }, { accessFlags := 137, nameIndex := 88, descriptorIndex := 108, attributes := #[] }, { accessFlags := 9, nameIndex := 234, descriptorIndex := 115, attributes := #[] }] 1537 103 #[120] #[])
  fields := #[]
  methods := #[k16m0, k16m1, k16m2, k16m3, k16m4, k16m5]
  instanceTypes := #[]
  staticTypes := #[]
  resolved := Array.replicate 251 none
  statics := none }

def pool17 : Array CpInfo := pool [(1, .methodref 2 3), (0, .class_ 4), (0, .nameAndType 5 6), (0, u "java/util/AbstractCollection"), (0, u "<init>"), (0, u "()V"), (0, .fieldref 8 9), (0, .class_ 10), (0, .nameAndType 11 12), (0, u "java/util/AbstractList"), (0, u "modCount"), (0, u "I"), (64, .class_ 78), (0, u "java/util/AbstractList$Itr"), (3, .class_ 83), (0, u "java/util/AbstractList$ListItr"), (9, .class_ 94), (0, u "java/util/AbstractList$RandomAccessSubList"), (3, .class_ 99), (0, u "java/util/AbstractList$SubList"), (33, .class_ 134), (0, u "java/util/List"), (73, .class_ 209), (0, u "java/util/AbstractList$SubList$1"), (0, .class_ 211), (0, u "java/util/AbstractList$RandomAccessSpliterator")] 6

def k17c0 : Code := { maxStack := 2, maxLocals := 1, code := jdk_39_method_1_code, exceptionTable := #[], attributes := #[] }
def k17m0 : Method := { name := "<init>", desc := "()V", sig := { parameters := [], returnType := none }, accessFlags := 4, code := some k17c0 }
/-- java/util/AbstractList -/
def k17 : Class := { plain "java/util/AbstractList" (some 14) with
  accessFlags := 1057
  interfaces := #[16]
  cf := some (fileOf pool17 8 #[.nestMembers #[93, 98, 208, 210, 82, 77]] #[{ accessFlags := 4, nameIndex := 5, descriptorIndex := 6, attributes := #[] }] 1057 2 #[133] #[{ accessFlags := 132, nameIndex := 11, descriptorIndex := 12, attributes := #[] }])
  fields := #[{ name := "modCount", type := .int, accessFlags := 132, slot := 0, constantValue := 0 }]
  methods := #[k17m0]
  instanceTypes := #[.int]
  staticTypes := #[]
  resolved := Array.replicate 218 none
  statics := none }

def pool18 : Array CpInfo := pool [(1, .class_ 2), (0, u "java/util/RandomAccess"), (0, .class_ 4), (0, u "java/lang/Object")] 2

/-- java/util/RandomAccess -/
def k18 : Class := { plain "java/util/RandomAccess" (some 0) with
  accessFlags := 1537
  interfaces := #[]
  cf := some (fileOf pool18 1 #[] #[] 1537 3 #[] #[])
  fields := #[]
  methods := #[]
  instanceTypes := #[]
  staticTypes := #[]
  resolved := Array.replicate 7 none
  statics := none }

def pool19 : Array CpInfo := pool [(1, .class_ 2), (0, u "java/lang/Cloneable"), (0, .class_ 4), (0, u "java/lang/Object")] 2

/-- java/lang/Cloneable -/
def k19 : Class := { plain "java/lang/Cloneable" (some 0) with
  accessFlags := 1537
  interfaces := #[]
  cf := some (fileOf pool19 1 #[] #[] 1537 3 #[] #[])
  fields := #[]
  methods := #[]
  instanceTypes := #[]
  staticTypes := #[]
  resolved := Array.replicate 7 none
  statics := none }

def pool20 : Array CpInfo := pool [(1, .methodref 2 3), (0, .class_ 4), (0, .nameAndType 5 6), (0, u "java/util/AbstractList"), (0, u "<init>"), (0, u "()V"), (0, .class_ 8), (0, u "java/lang/Object"), (0, .fieldref 10 11), (0, .class_ 12), (0, .nameAndType 13 14), (0, u "java/util/ArrayList"), (0, u "elementData"), (0, u "[Ljava/lang/Object;"), (2, u "EMPTY_ELEMENTDATA"), (21, .fieldref 10 40), (0, .nameAndType 41 14), (0, u "DEFAULTCAPACITY_EMPTY_ELEMENTDATA"), (4, u "toArray"), (0, u "()[Ljava/lang/Object;"), (0, .fieldref 10 49), (0, .nameAndType 50 51), (0, u "size"), (0, u "I"), (6, .class_ 60), (1, u "java/util/Arrays"), (0, u "copyOf"), (1, .fieldref 10 64), (0, .nameAndType 65 51), (0, u "modCount"), (0, .methodref 58 67), (0, .nameAndType 61 68), (0, u "([Ljava/lang/Object;I)[Ljava/lang/Object;"), (0, .methodref 10 70), (0, .nameAndType 71 72), (0, u "grow"), (0, u "(I)[Ljava/lang/Object;"), (6, .methodref 80 81), (0, .class_ 82), (0, .nameAndType 83 84), (0, u "java/lang/Math"), (0, u "max"), (0, u "(II)I"), (11, u "(Ljava/lang/Object;)Z"), (32, .methodref 10 130), (0, .nameAndType 71 47), (0, .methodref 10 132), (0, .nameAndType 133 134), (0, u "add"), (0, u "(Ljava/lang/Object;[Ljava/lang/Object;I)V"), (13, .class_ 149), (0, u "java/util/List"), (16, u "iterator"), (0, u "()Ljava/util/Iterator;"), (5, u "()Z"), (12, u "()I"), (75, .class_ 263), (0, u "java/util/ArrayList$ListItr"), (3, .class_ 268), (0, u "java/util/ArrayList$Itr"), (0, .methodref 267 270), (0, .nameAndType 5 271), (0, u "(Ljava/util/ArrayList;)V"), (4, .class_ 277), (0, u "java/util/ArrayList$SubList"), (12, .class_ 291), (0, u "java/util/ArrayList$ArrayListSpliterator"), (37, .class_ 330), (0, u "java/util/RandomAccess"), (0, .class_ 332), (0, u "java/lang/Cloneable"), (0, .class_ 334), (0, u "java/io/Serializable"), (0, u "serialVersionUID"), (0, u "J"), (3, u "DEFAULT_CAPACITY"), (22, u "isEmpty"), (136, .class_ 501), (0, u "java/util/ArrayList$SubList$2"), (0, .class_ 503), (0, u "java/util/ArrayList$SubList$1")] 5

def k20c0 : Code := { maxStack := 2, maxLocals := 1, code := jdk_38_method_2_code, exceptionTable := #[], attributes := #[] }
def k20m0 : Method := { name := "<init>", desc := "()V", sig := { parameters := [], returnType := none }, accessFlags := 1, code := some k20c0 }
def k20c1 : Code := { maxStack := 4, maxLocals := 4, code := jdk_38_method_6_code, exceptionTable := #[], attributes := #[] }
def k20m1 : Method := { name := "grow", desc := "(I)[Ljava/lang/Object;", sig := { parameters := [.int], returnType := some (.array (.object "java/lang/Object")) }, accessFlags := 2, code := some k20c1 }
def k20c2 : Code := { maxStack := 3, maxLocals := 1, code := jdk_38_method_7_code, exceptionTable := #[], attributes := #[] }
def k20m2 : Method := { name := "grow", desc := "()[Ljava/lang/Object;", sig := { parameters := [], returnType := some (.array (.object "java/lang/Object")) }, accessFlags := 2, code := some k20c2 }
def k20c3 : Code := { maxStack := 1, maxLocals := 1, code := jdk_38_method_8_code, exceptionTable := #[], attributes := #[] }
def k20m3 : Method := { name := "size", desc := "()I", sig := { parameters := [], returnType := some .int }, accessFlags := 1, code := some k20c3 }
def k20c4 : Code := { maxStack := 1, maxLocals := 1, code := jdk_38_method_9_code, exceptionTable := #[], attributes := #[] }
def k20m4 : Method := { name := "isEmpty", desc := "()Z", sig := { parameters := [], returnType := some .boolean }, accessFlags := 1, code := some k20c4 }
def k20c5 : Code := { maxStack := 2, maxLocals := 1, code := jdk_38_method_16_code, exceptionTable := #[], attributes := #[] }
def k20m5 : Method := { name := "toArray", desc := "()[Ljava/lang/Object;", sig := { parameters := [], returnType := some (.array (.object "java/lang/Object")) }, accessFlags := 1, code := some k20c5 }
def k20c6 : Code := { maxStack := 3, maxLocals := 4, code := jdk_38_method_24_code, exceptionTable := #[], attributes := #[] }
def k20m6 : Method := { name := "add", desc := "(Ljava/lang/Object;[Ljava/lang/Object;I)V", sig := { parameters := [(.object "java/lang/Object"), (.array (.object "java/lang/Object")), .int], returnType := none }, accessFlags := 2, code := some k20c6 }
def k20c7 : Code := { maxStack := 4, maxLocals := 2, code := jdk_38_method_25_code, exceptionTable := #[], attributes := #[] }
def k20m7 : Method := { name := "add", desc := "(Ljava/lang/Object;)Z", sig := { parameters := [(.object "java/lang/Object")], returnType := some .boolean }, accessFlags := 1, code := some k20c7 }
def k20c8 : Code := { maxStack := 3, maxLocals := 1, code := jdk_38_method_55_code, exceptionTable := #[], attributes := #[] }
def k20m8 : Method := { name := "iterator", desc := "()Ljava/util/Iterator;", sig := { parameters := [], returnType := some (.object "java/util/Iterator") }, accessFlags := 1, code := some k20c8 }
/-- java/util/ArrayList -/
def k20 : Class := { plain "java/util/ArrayList" (some 17) with
  accessFlags := 33
  interfaces := #[16, 18, 19, 5]
  cf := some (fileOf pool20 10 #[.nestMembers #[290, 276, 500, 502, 262, 267]] #[{ accessFlags := 1, nameIndex := 5, descriptorIndex := 6, attributes := #[] }, { accessFlags := 2, nameIndex := 71, descriptorIndex := 72, attributes := #[] }, { accessFlags := 2, nameIndex := 71, descriptorIndex := 47, attributes := #[] }, { accessFlags := 1, nameIndex := 50, descriptorIndex := 186, attributes := #[] }, { accessFlags := 1, nameIndex := 363, descriptorIndex := 173, attributes := #[] }, { accessFlags := 1, nameIndex := 46, descriptorIndex := 47, attributes := #[] }, { accessFlags := 2, nameIndex := 133, descriptorIndex := 134, attributes := #[] }, { accessFlags := 1, nameIndex := 133, descriptorIndex := 96, attributes := #[] }, { accessFlags := 1, nameIndex := 166, descriptorIndex := 167, attributes := #[] }] 33 2 #[148, 329, 331, 333] #[{ accessFlags := 26, nameIndex := 335, descriptorIndex := 336, attributes := #[] }, { accessFlags := 26, nameIndex := 340, descriptorIndex := 51, attributes := #[] }, { accessFlags := 26, nameIndex := 17, descriptorIndex := 14, attributes := #[] }, { accessFlags := 26, nameIndex := 41, descriptorIndex := 14, attributes := #[] }, { accessFlags := 128, nameIndex := 13, descriptorIndex := 14, attributes := #[] }, { accessFlags := 2, nameIndex := 50, descriptorIndex := 51, attributes := #[] }])
  fields := #[{ name := "serialVersionUID", type := .long, accessFlags := 26, slot := 0, constantValue := 0 }, { name := "DEFAULT_CAPACITY", type := .int, accessFlags := 26, slot := 1, constantValue := 0 }, { name := "EMPTY_ELEMENTDATA", type := (.array (.object "java/lang/Object")), accessFlags := 26, slot := 2, constantValue := 0 }, { name := "DEFAULTCAPACITY_EMPTY_ELEMENTDATA", type := (.array (.object "java/lang/Object")), accessFlags := 26, slot := 3, constantValue := 0 }, { name := "elementData", type := (.array (.object "java/lang/Object")), accessFlags := 128, slot := 1, constantValue := 0 }, { name := "size", type := .int, accessFlags := 2, slot := 2, constantValue := 0 }]
  methods := #[k20m0, k20m1, k20m2, k20m3, k20m4, k20m5, k20m6, k20m7, k20m8]
  instanceTypes := #[.int, (.array (.object "java/lang/Object")), .int]
  staticTypes := #[.long, .int, (.array (.object "java/lang/Object")), (.array (.object "java/lang/Object"))]
  resolved := Array.replicate 509 none
  statics := some 0 }

def pool21 : Array CpInfo := pool [(1, .methodref 2 3), (0, .class_ 4), (0, .nameAndType 5 6), (0, u "java/lang/Object"), (0, u "<init>"), (0, u "()V"), (0, .fieldref 8 9), (0, .class_ 10), (0, .nameAndType 11 12), (0, u "shadowsift/core/ValueSet"), (0, u "lows"), (0, u "[J"), (0, .fieldref 8 14), (0, .nameAndType 15 12), (0, u "highs"), (2, .long 281474976710656), (10, .methodref 8 30), (0, .nameAndType 5 31), (0, u "([J[J)V"), (59, u "max"), (5, .class_ 98), (0, u "shadowsift/core/ValueSet$Builder"), (5, u "min"), (41, u "range"), (0, u "(JJ)Lshadowsift/core/ValueSet;"), (16, u "()J")] 44

def k21c0 : Code := { maxStack := 2, maxLocals := 3, code := prog_64_method_1_code, exceptionTable := #[], attributes := #[] }
def k21m0 : Method := { name := "<init>", desc := "([J[J)V", sig := { parameters := [(.array .long), (.array .long)], returnType := none }, accessFlags := 2, code := some k21c0 }
def k21c1 : Code := { maxStack := 8, maxLocals := 4, code := prog_64_method_2_code, exceptionTable := #[], attributes := #[] }
def k21m1 : Method := { name := "range", desc := "(JJ)Lshadowsift/core/ValueSet;", sig := { parameters := [.long, .long], returnType := some (.object "shadowsift/core/ValueSet") }, accessFlags := 9, code := some k21c1 }
def k21c2 : Code := { maxStack := 2, maxLocals := 1, code := prog_64_method_10_code, exceptionTable := #[], attributes := #[] }
def k21m2 : Method := { name := "min", desc := "()J", sig := { parameters := [], returnType := some .long }, accessFlags := 1, code := some k21c2 }
def k21c3 : Code := { maxStack := 3, maxLocals := 1, code := prog_64_method_11_code, exceptionTable := #[], attributes := #[] }
def k21m3 : Method := { name := "max", desc := "()J", sig := { parameters := [], returnType := some .long }, accessFlags := 1, code := some k21c3 }
/-- shadowsift/core/ValueSet -/
def k21 : Class := { plain "shadowsift/core/ValueSet" (some 0) with
  accessFlags := 49
  interfaces := #[]
  cf := some (fileOf pool21 8 #[.nestMembers #[97]] #[{ accessFlags := 2, nameIndex := 5, descriptorIndex := 31, attributes := #[] }, { accessFlags := 9, nameIndex := 146, descriptorIndex := 147, attributes := #[] }, { accessFlags := 1, nameIndex := 104, descriptorIndex := 164, attributes := #[] }, { accessFlags := 1, nameIndex := 91, descriptorIndex := 164, attributes := #[] }] 49 2 #[] #[{ accessFlags := 18, nameIndex := 11, descriptorIndex := 12, attributes := #[] }, { accessFlags := 18, nameIndex := 15, descriptorIndex := 12, attributes := #[] }])
  fields := #[{ name := "lows", type := (.array .long), accessFlags := 18, slot := 0, constantValue := 0 }, { name := "highs", type := (.array .long), accessFlags := 18, slot := 1, constantValue := 0 }]
  methods := #[k21m0, k21m1, k21m2, k21m3]
  instanceTypes := #[(.array .long), (.array .long)]
  staticTypes := #[]
  resolved := Array.replicate 209 none
  statics := none }

def pool22 : Array CpInfo := pool [(1, .methodref 2 3), (0, .class_ 4), (0, .nameAndType 5 6), (0, u "java/lang/Record"), (0, u "<init>"), (0, u "()V"), (0, .interfaceMethodref 8 9), (0, .class_ 10), (0, .nameAndType 11 12), (0, u "java/util/List"), (0, u "copyOf"), (0, u "(Ljava/util/Collection;)Ljava/util/List;"), (0, .fieldref 14 15), (0, .class_ 16), (0, .nameAndType 17 18), (0, u "shadowsift/core/Box"), (0, u "sets"), (0, u "Ljava/util/List;"), (35, u "(Ljava/util/List;)V"), (62, u "()Ljava/util/List;")] 20

def k22c0 : Code := { maxStack := 2, maxLocals := 2, code := prog_26_method_1_code, exceptionTable := #[], attributes := #[] }
def k22m0 : Method := { name := "<init>", desc := "(Ljava/util/List;)V", sig := { parameters := [(.object "java/util/List")], returnType := none }, accessFlags := 1, code := some k22c0 }
def k22c1 : Code := { maxStack := 1, maxLocals := 1, code := prog_26_method_9_code, exceptionTable := #[], attributes := #[] }
def k22m1 : Method := { name := "sets", desc := "()Ljava/util/List;", sig := { parameters := [], returnType := some (.object "java/util/List") }, accessFlags := 1, code := some k22c1 }
/-- shadowsift/core/Box -/
def k22 : Class := { plain "shadowsift/core/Box" (some 3) with
  accessFlags := 49
  interfaces := #[]
  cf := some (fileOf pool22 14 #[] #[{ accessFlags := 1, nameIndex := 5, descriptorIndex := 54, attributes := #[] }, { accessFlags := 1, nameIndex := 17, descriptorIndex := 117, attributes := #[] }] 49 2 #[] #[{ accessFlags := 18, nameIndex := 17, descriptorIndex := 18, attributes := #[] }])
  fields := #[{ name := "sets", type := (.object "java/util/List"), accessFlags := 18, slot := 0, constantValue := 0 }]
  methods := #[k22m0, k22m1]
  instanceTypes := #[(.object "java/util/List")]
  staticTypes := #[]
  resolved := Array.replicate 138 none
  statics := none }

def pool23 : Array CpInfo := pool [(2, .class_ 4), (1, u "java/lang/Object"), (0, u "<init>"), (0, u "()V"), (3, .class_ 11), (0, u "java/util/ImmutableCollections$List12"), (0, .class_ 13), (0, u "java/util/ImmutableCollections$ListN"), (3, u "Z"), (0, .class_ 19), (0, u "java/util/List"), (0, .interfaceMethodref 21 22), (0, .class_ 23), (0, .nameAndType 24 25), (0, u "java/util/Collection"), (0, u "isEmpty"), (0, u "()Z"), (0, .interfaceMethodref 18 27), (0, .nameAndType 28 29), (0, u "of"), (0, u "()Ljava/util/List;"), (0, .interfaceMethodref 21 31), (0, .nameAndType 32 33), (0, u "toArray"), (0, u "()[Ljava/lang/Object;"), (0, .interfaceMethodref 18 35), (0, .nameAndType 28 36), (0, u "([Ljava/lang/Object;)Ljava/util/List;"), (10, .class_ 49), (1, u "java/util/ImmutableCollections"), (0, u "$assertionsDisabled"), (5, u "[Ljava/lang/Object;"), (5, u "EMPTY_LIST"), (0, u "Ljava/util/ImmutableCollections$ListN;"), (8, u "EMPTY_LIST_NULLS"), (22, u "SALT32L"), (0, u "J"), (2, u "REVERSE"), (6, u "archivedObjects"), (2, u "EMPTY"), (0, u "Ljava/lang/Object;"), (0, .class_ 112), (0, u "java/util/ImmutableCollections$SetN"), (5, u "EMPTY_SET"), (0, u "Ljava/util/ImmutableCollections$SetN;"), (0, .class_ 121), (0, u "java/util/ImmutableCollections$MapN"), (3, u "EMPTY_MAP"), (0, u "Ljava/util/ImmutableCollections$MapN;"), (4, u "EXPAND_FACTOR"), (0, u "I"), (9, u "listCopy"), (0, u "(Ljava/util/Collection;)Ljava/util/List;"), (25, .class_ 170), (0, u "java/util/ImmutableCollections$MapN$MapNIterator"), (0, .class_ 172), (0, u "java/util/ImmutableCollections$MapN$1"), (0, .class_ 174), (0, u "java/util/ImmutableCollections$Map1"), (0, .class_ 176), (0, u "java/util/ImmutableCollections$AbstractImmutableMap"), (0, .class_ 178), (0, u "java/util/ImmutableCollections$SetN$SetNIterator"), (0, .class_ 180), (0, u "java/util/ImmutableCollections$Set12"), (0, .class_ 182), (0, u "java/util/ImmutableCollections$Set12$1"), (0, .class_ 184), (0, u "java/util/ImmutableCollections$AbstractImmutableSet"), (0, .class_ 186), (0, u "java/util/ImmutableCollections$SubList"), (0, .class_ 188), (0, u "java/util/ImmutableCollections$ListItr"), (0, .class_ 190), (0, u "java/util/ImmutableCollections$AbstractImmutableList"), (0, .class_ 192), (0, u "java/util/ImmutableCollections$AbstractImmutableCollection"), (0, .class_ 194), (0, u "java/util/ImmutableCollections$Access"), (0, .class_ 196), (0, u "java/util/ImmutableCollections$Access$1")] 16

def k23m0 : Method := { name := "<init>", desc := "()V", sig := { parameters := [], returnType := none }, accessFlags := 2, code := none }
def k23c1 : Code := { maxStack := 1, maxLocals := 2, code := jdk_56_method_3_code, exceptionTable := #[], attributes := #[] }
def k23m1 : Method := { name := "listCopy", desc := "(Ljava/util/Collection;)Ljava/util/List;", sig := { parameters := [(.object "java/util/Collection")], returnType := some (.object "java/util/List") }, accessFlags := 8, code := some k23c1 }
/-- java/util/ImmutableCollections -/
def k23 : Class := { plain "java/util/ImmutableCollections" (some 0) with
  accessFlags := 32
  interfaces := #[]
  cf := some (fileOf pool23 47 #[.nestMembers #[120, 169, 171, 173, 175, 111, 177, 179, 181, 183, 12, 10, 185, 187, 189, 191, 193, 195]] #[{ accessFlags := 2, nameIndex := 5, descriptorIndex := 6, attributes := #[] }, { accessFlags := 8, nameIndex := 142, descriptorIndex := 143, attributes := #[] }] 32 2 #[] #[{ accessFlags := 26, nameIndex := 95, descriptorIndex := 96, attributes := #[] }, { accessFlags := 26, nameIndex := 99, descriptorIndex := 17, attributes := #[] }, { accessFlags := 10, nameIndex := 106, descriptorIndex := 56, attributes := #[] }, { accessFlags := 26, nameIndex := 109, descriptorIndex := 110, attributes := #[] }, { accessFlags := 24, nameIndex := 62, descriptorIndex := 63, attributes := #[] }, { accessFlags := 24, nameIndex := 72, descriptorIndex := 63, attributes := #[] }, { accessFlags := 24, nameIndex := 118, descriptorIndex := 119, attributes := #[] }, { accessFlags := 24, nameIndex := 125, descriptorIndex := 126, attributes := #[] }, { accessFlags := 24, nameIndex := 131, descriptorIndex := 132, attributes := #[] }, { accessFlags := 4120, nameIndex := 50, descriptorIndex := 17, attributes := #[] }])
  fields := #[{ name := "SALT32L", type := .long, accessFlags := 26, slot := 0, constantValue := 0 }, { name := "REVERSE", type := .boolean, accessFlags := 26, slot := 1, constantValue := 0 }, { name := "archivedObjects", type := (.array (.object "java/lang/Object")), accessFlags := 10, slot := 2, constantValue := 0 }, { name := "EMPTY", type := (.object "java/lang/Object"), accessFlags := 26, slot := 3, constantValue := 0 }, { name := "EMPTY_LIST", type := (.object "java/util/ImmutableCollections$ListN"), accessFlags := 24, slot := 4, constantValue := 0 }, { name := "EMPTY_LIST_NULLS", type := (.object "java/util/ImmutableCollections$ListN"), accessFlags := 24, slot := 5, constantValue := 0 }, { name := "EMPTY_SET", type := (.object "java/util/ImmutableCollections$SetN"), accessFlags := 24, slot := 6, constantValue := 0 }, { name := "EMPTY_MAP", type := (.object "java/util/ImmutableCollections$MapN"), accessFlags := 24, slot := 7, constantValue := 0 }, { name := "EXPAND_FACTOR", type := .int, accessFlags := 24, slot := 8, constantValue := 0 }, { name := "$assertionsDisabled", type := .boolean, accessFlags := 4120, slot := 9, constantValue := 0 }]
  methods := #[k23m0, k23m1]
  instanceTypes := #[]
  staticTypes := #[.long, .boolean, (.array (.object "java/lang/Object")), (.object "java/lang/Object"), (.object "java/util/ImmutableCollections$ListN"), (.object "java/util/ImmutableCollections$ListN"), (.object "java/util/ImmutableCollections$SetN"), (.object "java/util/ImmutableCollections$MapN"), .int, .boolean]
  resolved := Array.replicate 213 none
  statics := some 1 }

def pool24 : Array CpInfo := pool [(1, .methodref 2 3), (0, .class_ 4), (0, .nameAndType 5 6), (0, u "java/util/AbstractCollection"), (0, u "<init>"), (0, u "()V"), (1, .class_ 10), (1, u "java/util/ImmutableCollections"), (2, .class_ 14), (0, u "java/util/ImmutableCollections$AbstractImmutableCollection")] 41

def k24c0 : Code := { maxStack := 1, maxLocals := 1, code := jdk_47_method_1_code, exceptionTable := #[], attributes := #[] }
def k24m0 : Method := { name := "<init>", desc := "()V", sig := { parameters := [], returnType := none }, accessFlags := 0, code := some k24c0 }
/-- java/util/ImmutableCollections$AbstractImmutableCollection -/
def k24 : Class := { plain "java/util/ImmutableCollections$AbstractImmutableCollection" (some 14) with
  accessFlags := 1056
  interfaces := #[]
  cf := some (fileOf pool24 13 #[.nestHost 8] #[{ accessFlags := 0, nameIndex := 5, descriptorIndex := 6, attributes := #[] }] 1056 2 #[] #[])
  fields := #[]
  methods := #[k24m0]
  instanceTypes := #[]
  staticTypes := #[]
  resolved := Array.replicate 56 none
  statics := none }

def pool25 : Array CpInfo := pool [(1, .methodref 2 3), (0, .class_ 4), (0, .nameAndType 5 6), (0, u "java/util/ImmutableCollections$AbstractImmutableCollection"), (0, u "<init>"), (0, u "()V"), (1, .class_ 10), (1, u "java/util/ImmutableCollections"), (2, .methodref 14 15), (0, .class_ 16), (0, .nameAndType 17 18), (0, u "java/util/ImmutableCollections$AbstractImmutableList"), (0, u "size"), (0, u "()I"), (42, .class_ 62), (0, u "java/util/ImmutableCollections$ListItr"), (0, .methodref 61 64), (0, .nameAndType 5 65), (0, u "(Ljava/util/List;I)V"), (11, .class_ 78), (0, u "java/util/List"), (2, u "iterator"), (0, u "()Ljava/util/Iterator;"), (41, .class_ 125), (0, u "java/util/RandomAccess")] 70

def k25c0 : Code := { maxStack := 1, maxLocals := 1, code := jdk_46_method_1_code, exceptionTable := #[], attributes := #[] }
def k25m0 : Method := { name := "<init>", desc := "()V", sig := { parameters := [], returnType := none }, accessFlags := 0, code := some k25c0 }
def k25c1 : Code := { maxStack := 4, maxLocals := 1, code := jdk_46_method_10_code, exceptionTable := #[], attributes := #[] }
def k25m1 : Method := { name := "iterator", desc := "()Ljava/util/Iterator;", sig := { parameters := [], returnType := some (.object "java/util/Iterator") }, accessFlags := 1, code := some k25c1 }
/-- java/util/ImmutableCollections$AbstractImmutableList -/
def k25 : Class := { plain "java/util/ImmutableCollections$AbstractImmutableList" (some 24) with
  accessFlags := 1056
  interfaces := #[16, 18]
  cf := some (fileOf pool25 14 #[.nestHost 8] #[{ accessFlags := 0, nameIndex := 5, descriptorIndex := 6, attributes := #[] }, { accessFlags := 1, nameIndex := 81, descriptorIndex := 82, attributes := #[] }] 1056 2 #[77, 124] #[])
  fields := #[]
  methods := #[k25m0, k25m1]
  instanceTypes := #[]
  staticTypes := #[]
  resolved := Array.replicate 196 none
  statics := none }

def pool26 : Array CpInfo := pool [(1, .methodref 2 3), (0, .class_ 4), (0, .nameAndType 5 6), (0, u "java/util/ImmutableCollections$AbstractImmutableList"), (0, u "<init>"), (0, u "()V"), (0, .methodref 8 9), (0, .class_ 10), (0, .nameAndType 11 12), (0, u "java/util/Objects"), (0, u "requireNonNull"), (0, u "(Ljava/lang/Object;)Ljava/lang/Object;"), (0, .fieldref 14 15), (0, .class_ 16), (0, .nameAndType 17 18), (0, u "java/util/ImmutableCollections$List12"), (0, u "e0"), (0, u "Ljava/lang/Object;"), (0, .fieldref 20 21), (0, .class_ 22), (0, .nameAndType 23 18), (0, u "java/util/ImmutableCollections"), (0, u "EMPTY"), (0, .fieldref 14 25), (0, .nameAndType 26 18), (0, u "e1"), (24, u "size"), (0, u "()I"), (17, .class_ 71), (0, u "java/io/Serializable"), (4, u "(Ljava/lang/Object;)V"), (8, u "(Ljava/lang/Object;Ljava/lang/Object;)V"), (4, u "get"), (0, u "(I)Ljava/lang/Object;")] 33

def k26c0 : Code := { maxStack := 2, maxLocals := 2, code := jdk_44_method_1_code, exceptionTable := #[], attributes := #[] }
def k26m0 : Method := { name := "<init>", desc := "(Ljava/lang/Object;)V", sig := { parameters := [(.object "java/lang/Object")], returnType := none }, accessFlags := 0, code := some k26c0 }
def k26c1 : Code := { maxStack := 2, maxLocals := 3, code := jdk_44_method_2_code, exceptionTable := #[], attributes := #[] }
def k26m1 : Method := { name := "<init>", desc := "(Ljava/lang/Object;Ljava/lang/Object;)V", sig := { parameters := [(.object "java/lang/Object"), (.object "java/lang/Object")], returnType := none }, accessFlags := 0, code := some k26c1 }
def k26c2 : Code := { maxStack := 2, maxLocals := 1, code := jdk_44_method_3_code, exceptionTable := #[], attributes := #[] }
def k26m2 : Method := { name := "size", desc := "()I", sig := { parameters := [], returnType := some .int }, accessFlags := 1, code := some k26c2 }
def k26c3 : Code := { maxStack := 2, maxLocals := 2, code := jdk_44_method_5_code, exceptionTable := #[], attributes := #[] }
def k26m3 : Method := { name := "get", desc := "(I)Ljava/lang/Object;", sig := { parameters := [.int], returnType := some (.object "java/lang/Object") }, accessFlags := 1, code := some k26c3 }
/-- java/util/ImmutableCollections$List12 -/
def k26 : Class := { plain "java/util/ImmutableCollections$List12" (some 25) with
  accessFlags := 48
  interfaces := #[5]
  cf := some (fileOf pool26 14 #[.nestHost 20] #[{ accessFlags := 0, nameIndex := 5, descriptorIndex := 76, attributes := #[] }, { accessFlags := 0, nameIndex := 5, descriptorIndex := 85, attributes := #[] }, { accessFlags := 1, nameIndex := 51, descriptorIndex := 52, attributes := #[] }, { accessFlags := 1, nameIndex := 90, descriptorIndex := 91, attributes := #[] }] 48 2 #[70] #[{ accessFlags := 18, nameIndex := 17, descriptorIndex := 18, attributes := #[] }, { accessFlags := 18, nameIndex := 26, descriptorIndex := 18, attributes := #[] }])
  fields := #[{ name := "e0", type := (.object "java/lang/Object"), accessFlags := 18, slot := 0, constantValue := 0 }, { name := "e1", type := (.object "java/lang/Object"), accessFlags := 18, slot := 1, constantValue := 0 }]
  methods := #[k26m0, k26m1, k26m2, k26m3]
  instanceTypes := #[(.object "java/lang/Object"), (.object "java/lang/Object")]
  staticTypes := #[]
  resolved := Array.replicate 125 none
  statics := none }

def pool27 : Array CpInfo := pool [(2, .class_ 4), (1, u "java/util/ImmutableCollections$AbstractImmutableList"), (2, .fieldref 8 9), (0, .class_ 10), (0, .nameAndType 11 12), (0, u "java/util/ImmutableCollections$ListN"), (0, u "elements"), (0, u "[Ljava/lang/Object;"), (2, u "allowNulls"), (0, u "Z"), (42, .class_ 60), (0, u "java/io/Serializable"), (16, u "size"), (0, u "()I"), (35, .class_ 115), (0, u "java/util/ImmutableCollections")] 3

def k27c0 : Code := { maxStack := 1, maxLocals := 1, code := jdk_45_method_3_code, exceptionTable := #[], attributes := #[] }
def k27m0 : Method := { name := "size", desc := "()I", sig := { parameters := [], returnType := some .int }, accessFlags := 1, code := some k27c0 }
/-- java/util/ImmutableCollections$ListN -/
def k27 : Class := { plain "java/util/ImmutableCollections$ListN" (some 25) with
  accessFlags := 48
  interfaces := #[5]
  cf := some (fileOf pool27 8 #[.nestHost 114] #[{ accessFlags := 1, nameIndex := 77, descriptorIndex := 78, attributes := #[] }] 48 2 #[59] #[{ accessFlags := 18, nameIndex := 11, descriptorIndex := 12, attributes := #[] }, { accessFlags := 18, nameIndex := 15, descriptorIndex := 16, attributes := #[] }])
  fields := #[{ name := "elements", type := (.array (.object "java/lang/Object")), accessFlags := 18, slot := 0, constantValue := 0 }, { name := "allowNulls", type := .boolean, accessFlags := 18, slot := 1, constantValue := 0 }]
  methods := #[k27m0]
  instanceTypes := #[(.array (.object "java/lang/Object")), .boolean]
  staticTypes := #[]
  resolved := Array.replicate 119 none
  statics := none }

def pool28 : Array CpInfo := pool [(2, .class_ 4), (1, u "java/lang/Object"), (0, u "<init>"), (0, u "()V"), (7, .class_ 16), (1, u "java/util/Arrays"), (57, .class_ 76), (1, u "java/util/Arrays$NaturalOrder"), (9, .methodref 2 87), (0, .nameAndType 88 89), (0, u "getClass"), (0, u "()Ljava/lang/Class;"), (20, .class_ 111), (0, u "[Ljava/lang/Object;"), (1, .class_ 115), (1, u "java/util/Arrays$LegacyMergeSort"), (1, u "Z"), (32, .methodref 151 152), (0, .class_ 153), (0, .nameAndType 154 155), (0, u "java/lang/System"), (0, u "arraycopy"), (0, u "(Ljava/lang/Object;ILjava/lang/Object;II)V"), (144, .methodref 14 301), (0, .nameAndType 302 303), (0, u "copyOf"), (0, u "([Ljava/lang/Object;ILjava/lang/Class;)[Ljava/lang/Object;"), (0, .methodref 305 306), (0, .class_ 307), (0, .nameAndType 308 309), (0, u "java/lang/Math"), (0, u "min"), (0, u "(II)I"), (65, .class_ 376), (0, u "java/util/Arrays$ArrayList"), (68, u "$assertionsDisabled"), (269, u "MIN_ARRAY_SORT_GRAN"), (0, u "I"), (2, u "INSERTIONSORT_THRESHOLD"), (140, u "([Ljava/lang/Object;I)[Ljava/lang/Object;"), (114, .class_ 976), (0, u "java/util/Arrays$ArrayItr")] 52

def k28m0 : Method := { name := "<init>", desc := "()V", sig := { parameters := [], returnType := none }, accessFlags := 2, code := none }
def k28c1 : Code := { maxStack := 3, maxLocals := 2, code := jdk_65_method_119_code, exceptionTable := #[], attributes := #[] }
def k28m1 : Method := { name := "copyOf", desc := "([Ljava/lang/Object;I)[Ljava/lang/Object;", sig := { parameters := [(.array (.object "java/lang/Object")), .int], returnType := some (.array (.object "java/lang/Object")) }, accessFlags := 9, code := some k28c1 }
def k28c2 : Code := { maxStack := 6, maxLocals := 4, code := jdk_65_method_120_code, exceptionTable := #[], attributes := #[] }
def k28m2 : Method := { name := "copyOf", desc := "([Ljava/lang/Object;ILjava/lang/Class;)[Ljava/lang/Object;", sig := { parameters := [(.array (.object "java/lang/Object")), .int, (.object "java/lang/Class")], returnType := some (.array (.object "java/lang/Object")) }, accessFlags := 9, code := some k28c2 }
/-- java/util/Arrays -/
def k28 : Class := { plain "java/util/Arrays" (some 0) with
  accessFlags := 49
  interfaces := #[]
  cf := some (fileOf pool28 14 #[.nestMembers #[975, 375, 113, 74]] #[{ accessFlags := 2, nameIndex := 5, descriptorIndex := 6, attributes := #[] }, { accessFlags := 9, nameIndex := 302, descriptorIndex := 860, attributes := #[] }, { accessFlags := 9, nameIndex := 302, descriptorIndex := 303, attributes := #[] }] 49 2 #[] #[{ accessFlags := 26, nameIndex := 715, descriptorIndex := 716, attributes := #[] }, { accessFlags := 26, nameIndex := 719, descriptorIndex := 716, attributes := #[] }, { accessFlags := 4120, nameIndex := 445, descriptorIndex := 117, attributes := #[] }])
  fields := #[{ name := "MIN_ARRAY_SORT_GRAN", type := .int, accessFlags := 26, slot := 0, constantValue := 0 }, { name := "INSERTIONSORT_THRESHOLD", type := .int, accessFlags := 26, slot := 1, constantValue := 0 }, { name := "$assertionsDisabled", type := .boolean, accessFlags := 4120, slot := 2, constantValue := 0 }]
  methods := #[k28m0, k28m1, k28m2]
  instanceTypes := #[]
  staticTypes := #[.int, .int, .boolean]
  resolved := Array.replicate 1029 none
  statics := none }

def pool29 : Array CpInfo := pool [(2, .class_ 4), (1, u "java/lang/Object"), (0, u "<init>"), (0, u "()V"), (1, .class_ 10), (1, u "java/lang/System"), (0, u "allowSecurityManager"), (0, u "I"), (16, u "cons"), (0, u "Ljava/io/Console;"), (77, .class_ 110), (1, u "java/lang/System$CallersHolder"), (43, u "initialErrStream"), (0, u "Ljava/io/PrintStream;"), (19, u "security"), (0, u "Ljava/lang/SecurityManager;"), (31, .class_ 209), (0, u "java/lang/System$1"), (7, u "props"), (0, u "Ljava/util/Properties;"), (2, u "lineSeparator"), (0, u "Ljava/lang/String;"), (96, .class_ 321), (1, u "java/lang/System$LoggerFinder"), (5, .class_ 328), (0, u "java/lang/System$Logger"), (67, u "err"), (2, u "out"), (91, u "notSupportedJnuEncoding"), (15, u "in"), (17, u "initialIn"), (0, u "Ljava/io/InputStream;"), (35, u "bootLayer"), (0, u "Ljava/lang/ModuleLayer;"), (99, .class_ 664), (0, u "java/lang/System$2"), (9, u "NEVER"), (2, u "MAYBE"), (49, u "arraycopy"), (0, u "(Ljava/lang/Object;ILjava/lang/Object;II)V"), (72, .class_ 802), (0, u "java/lang/System$Logger$Level")] 31

def k29m0 : Method := { name := "<init>", desc := "()V", sig := { parameters := [], returnType := none }, accessFlags := 2, code := none }
def k29m1 : Method := { name := "arraycopy", desc := "(Ljava/lang/Object;ILjava/lang/Object;II)V", sig := { parameters := [(.object "java/lang/Object"), .int, (.object "java/lang/Object"), .int, .int], returnType := none }, accessFlags := 265, code := none }
/-- java/lang/System -/
def k29 : Class := { plain "java/lang/System" (some 0) with
  accessFlags := 49
  interfaces := #[]
  cf := some (fileOf pool29 8 #[.nestMembers #[319, 327, 801, 108, 663, 208]] #[{ accessFlags := 2, nameIndex := 5, descriptorIndex := 6, attributes := #[] }, { accessFlags := 265, nameIndex := 727, descriptorIndex := 728, attributes := #[] }] 49 2 #[] #[{ accessFlags := 25, nameIndex := 507, descriptorIndex := 526, attributes := #[] }, { accessFlags := 25, nameIndex := 399, descriptorIndex := 155, attributes := #[] }, { accessFlags := 25, nameIndex := 396, descriptorIndex := 155, attributes := #[] }, { accessFlags := 10, nameIndex := 525, descriptorIndex := 526, attributes := #[] }, { accessFlags := 26, nameIndex := 674, descriptorIndex := 12, attributes := #[] }, { accessFlags := 26, nameIndex := 677, descriptorIndex := 12, attributes := #[] }, { accessFlags := 10, nameIndex := 11, descriptorIndex := 12, attributes := #[] }, { accessFlags := 74, nameIndex := 175, descriptorIndex := 176, attributes := #[] }, { accessFlags := 10, nameIndex := 491, descriptorIndex := 222, attributes := #[] }, { accessFlags := 74, nameIndex := 29, descriptorIndex := 30, attributes := #[] }, { accessFlags := 74, nameIndex := 154, descriptorIndex := 155, attributes := #[] }, { accessFlags := 10, nameIndex := 217, descriptorIndex := 218, attributes := #[] }, { accessFlags := 10, nameIndex := 221, descriptorIndex := 222, attributes := #[] }, { accessFlags := 8, nameIndex := 562, descriptorIndex := 563, attributes := #[] }])
  fields := #[{ name := "in", type := (.object "java/io/InputStream"), accessFlags := 25, slot := 0, constantValue := 0 }, { name := "out", type := (.object "java/io/PrintStream"), accessFlags := 25, slot := 1, constantValue := 0 }, { name := "err", type := (.object "java/io/PrintStream"), accessFlags := 25, slot := 2, constantValue := 0 }, { name := "initialIn", type := (.object "java/io/InputStream"), accessFlags := 10, slot := 3, constantValue := 0 }, { name := "NEVER", type := .int, accessFlags := 26, slot := 4, constantValue := 0 }, { name := "MAYBE", type := .int, accessFlags := 26, slot := 5, constantValue := 0 }, { name := "allowSecurityManager", type := .int, accessFlags := 10, slot := 6, constantValue := 0 }, { name := "security", type := (.object "java/lang/SecurityManager"), accessFlags := 74, slot := 7, constantValue := 0 }, { name := "notSupportedJnuEncoding", type := (.object "java/lang/String"), accessFlags := 10, slot := 8, constantValue := 0 }, { name := "cons", type := (.object "java/io/Console"), accessFlags := 74, slot := 9, constantValue := 0 }, { name := "initialErrStream", type := (.object "java/io/PrintStream"), accessFlags := 74, slot := 10, constantValue := 0 }, { name := "props", type := (.object "java/util/Properties"), accessFlags := 10, slot := 11, constantValue := 0 }, { name := "lineSeparator", type := (.object "java/lang/String"), accessFlags := 10, slot := 12, constantValue := 0 }, { name := "bootLayer", type := (.object "java/lang/ModuleLayer"), accessFlags := 8, slot := 13, constantValue := 0 }]
  methods := #[k29m0, k29m1]
  instanceTypes := #[]
  staticTypes := #[(.object "java/io/InputStream"), (.object "java/io/PrintStream"), (.object "java/io/PrintStream"), (.object "java/io/InputStream"), .int, .int, .int, (.object "java/lang/SecurityManager"), (.object "java/lang/String"), (.object "java/io/Console"), (.object "java/io/PrintStream"), (.object "java/util/Properties"), (.object "java/lang/String"), (.object "java/lang/ModuleLayer")]
  resolved := Array.replicate 834 none
  statics := none }

def pool30 : Array CpInfo := pool [(1, .methodref 2 3), (0, .class_ 4), (0, .nameAndType 5 6), (0, u "java/lang/Record"), (0, u "<init>"), (0, u "()V"), (0, .string 8), (0, u "decision"), (0, .methodref 10 11), (0, .class_ 12), (0, .nameAndType 13 14), (0, u "java/util/Objects"), (0, u "requireNonNull"), (0, u "(Ljava/lang/Object;Ljava/lang/String;)Ljava/lang/Object;"), (0, .interfaceMethodref 16 17), (0, .class_ 18), (0, .nameAndType 19 20), (0, u "java/util/List"), (0, u "copyOf"), (0, u "(Ljava/util/Collection;)Ljava/util/List;"), (0, .fieldref 22 23), (0, .class_ 24), (0, .nameAndType 8 25), (0, u "shadowsift/core/Rule"), (0, u "Ljava/util/Optional;"), (0, .fieldref 22 27), (0, .nameAndType 28 29), (0, u "match"), (0, u "Ljava/util/List;"), (0, .fieldref 22 31), (0, .nameAndType 32 33), (0, u "exact"), (0, u "Z"), (0, .methodref 35 36), (0, .class_ 37), (0, .nameAndType 38 39), (0, u "java/util/Optional"), (0, u "of"), (0, u "(Ljava/lang/Object;)Ljava/util/Optional;"), (0, .methodref 22 41), (0, .nameAndType 5 42), (0, u "(Ljava/util/Optional;Ljava/util/List;Z)V"), (5, u "(Lshadowsift/core/Decision;Ljava/util/List;)V"), (52, u "()Ljava/util/List;")] 23

def k30c0 : Code := { maxStack := 2, maxLocals := 4, code := prog_52_method_1_code, exceptionTable := #[], attributes := #[] }
def k30m0 : Method := { name := "<init>", desc := "(Ljava/util/Optional;Ljava/util/List;Z)V", sig := { parameters := [(.object "java/util/Optional"), (.object "java/util/List"), .boolean], returnType := none }, accessFlags := 1, code := some k30c0 }
def k30c1 : Code := { maxStack := 4, maxLocals := 3, code := prog_52_method_2_code, exceptionTable := #[], attributes := #[] }
def k30m1 : Method := { name := "<init>", desc := "(Lshadowsift/core/Decision;Ljava/util/List;)V", sig := { parameters := [(.object "shadowsift/core/Decision"), (.object "java/util/List")], returnType := none }, accessFlags := 1, code := some k30c1 }
def k30c2 : Code := { maxStack := 1, maxLocals := 1, code := prog_52_method_10_code, exceptionTable := #[], attributes := #[] }
def k30m2 : Method := { name := "match", desc := "()Ljava/util/List;", sig := { parameters := [], returnType := some (.object "java/util/List") }, accessFlags := 1, code := some k30c2 }
/-- shadowsift/core/Rule -/
def k30 : Class := { plain "shadowsift/core/Rule" (some 3) with
  accessFlags := 49
  interfaces := #[]
  cf := some (fileOf pool30 22 #[] #[{ accessFlags := 1, nameIndex := 5, descriptorIndex := 42, attributes := #[] }, { accessFlags := 1, nameIndex := 5, descriptorIndex := 48, attributes := #[] }, { accessFlags := 1, nameIndex := 28, descriptorIndex := 101, attributes := #[] }] 49 2 #[] #[{ accessFlags := 18, nameIndex := 8, descriptorIndex := 25, attributes := #[] }, { accessFlags := 18, nameIndex := 28, descriptorIndex := 29, attributes := #[] }, { accessFlags := 18, nameIndex := 32, descriptorIndex := 33, attributes := #[] }])
  fields := #[{ name := "decision", type := (.object "java/util/Optional"), accessFlags := 18, slot := 0, constantValue := 0 }, { name := "match", type := (.object "java/util/List"), accessFlags := 18, slot := 1, constantValue := 0 }, { name := "exact", type := .boolean, accessFlags := 18, slot := 2, constantValue := 0 }]
  methods := #[k30m0, k30m1, k30m2]
  instanceTypes := #[(.object "java/util/Optional"), (.object "java/util/List"), .boolean]
  staticTypes := #[]
  resolved := Array.replicate 125 none
  statics := none }

def pool31 : Array CpInfo := pool [(2, .class_ 4), (1, u "java/util/Optional"), (0, u "EMPTY"), (0, u "Ljava/util/Optional;"), (0, .methodref 8 9), (0, .class_ 10), (0, .nameAndType 11 12), (0, u "java/lang/Object"), (0, u "<init>"), (0, u "()V"), (0, .fieldref 2 14), (0, .nameAndType 15 16), (0, u "value"), (0, u "Ljava/lang/Object;"), (0, .methodref 18 19), (0, .class_ 20), (0, .nameAndType 21 22), (0, u "java/util/Objects"), (0, u "requireNonNull"), (0, u "(Ljava/lang/Object;)Ljava/lang/Object;"), (0, .methodref 2 24), (0, .nameAndType 11 25), (0, u "(Ljava/lang/Object;)V"), (39, u "(Ljava/lang/Object;)Ljava/util/Optional;"), (16, u "of")] 104

def k31c0 : Code := { maxStack := 2, maxLocals := 2, code := jdk_32_method_2_code, exceptionTable := #[], attributes := #[] }
def k31m0 : Method := { name := "<init>", desc := "(Ljava/lang/Object;)V", sig := { parameters := [(.object "java/lang/Object")], returnType := none }, accessFlags := 2, code := some k31c0 }
def k31c1 : Code := { maxStack := 3, maxLocals := 1, code := jdk_32_method_3_code, exceptionTable := #[], attributes := #[] }
def k31m1 : Method := { name := "of", desc := "(Ljava/lang/Object;)Ljava/util/Optional;", sig := { parameters := [(.object "java/lang/Object")], returnType := some (.object "java/util/Optional") }, accessFlags := 9, code := some k31c1 }
/-- java/util/Optional -/
def k31 : Class := { plain "java/util/Optional" (some 0) with
  accessFlags := 49
  interfaces := #[]
  cf := some (fileOf pool31 2 #[] #[{ accessFlags := 2, nameIndex := 11, descriptorIndex := 25, attributes := #[] }, { accessFlags := 9, nameIndex := 82, descriptorIndex := 65, attributes := #[] }] 49 8 #[] #[{ accessFlags := 26, nameIndex := 5, descriptorIndex := 6, attributes := #[] }, { accessFlags := 18, nameIndex := 15, descriptorIndex := 16, attributes := #[] }])
  fields := #[{ name := "EMPTY", type := (.object "java/util/Optional"), accessFlags := 26, slot := 0, constantValue := 0 }, { name := "value", type := (.object "java/lang/Object"), accessFlags := 18, slot := 0, constantValue := 0 }]
  methods := #[k31m0, k31m1]
  instanceTypes := #[(.object "java/lang/Object")]
  staticTypes := #[(.object "java/util/Optional")]
  resolved := Array.replicate 187 none
  statics := none }

def pool32 : Array CpInfo := pool [(1, .methodref 2 3), (0, .class_ 4), (0, .nameAndType 5 6), (0, u "java/lang/Object"), (0, u "<init>"), (0, u "()V"), (0, .fieldref 8 9), (0, .class_ 10), (0, .nameAndType 11 12), (0, u "shadowsift/core/Bounds"), (0, u "fieldCount"), (0, u "I"), (0, .interfaceMethodref 14 15), (0, .class_ 16), (0, .nameAndType 17 18), (0, u "java/util/List"), (0, u "size"), (0, u "()I"), (0, .fieldref 8 20), (0, .nameAndType 21 22), (0, u "values"), (0, u "[J"), (0, .interfaceMethodref 14 24), (0, .nameAndType 25 26), (0, u "iterator"), (0, u "()Ljava/util/Iterator;"), (0, .interfaceMethodref 28 29), (0, .class_ 30), (0, .nameAndType 31 32), (0, u "java/util/Iterator"), (0, u "hasNext"), (0, u "()Z"), (0, .interfaceMethodref 28 34), (0, .nameAndType 35 36), (0, u "next"), (0, u "()Ljava/lang/Object;"), (0, .class_ 38), (0, u "shadowsift/core/Rule"), (2, .long 9223372036854775807), (1, .long 18446744073709551615), (1, .methodref 37 46), (0, .nameAndType 47 48), (0, u "match"), (0, u "()Ljava/util/List;"), (0, .class_ 50), (0, u "shadowsift/core/Box"), (0, .methodref 49 52), (0, .nameAndType 53 48), (0, u "sets"), (0, .interfaceMethodref 14 55), (0, .nameAndType 56 57), (0, u "get"), (0, u "(I)Ljava/lang/Object;"), (0, .class_ 59), (0, u "shadowsift/core/ValueSet"), (0, .methodref 58 61), (0, .nameAndType 62 63), (0, u "min"), (0, u "()J"), (0, .methodref 65 66), (0, .class_ 67), (0, .nameAndType 62 68), (0, u "java/lang/Math"), (0, u "(JJ)J"), (0, .methodref 58 70), (0, .nameAndType 71 63), (0, u "max"), (0, .methodref 65 73), (0, .nameAndType 71 68), (0, u "(ILjava/util/List;)V"), (5, u "meet"), (0, u "(II)Z")] 2

def k32c0 : Code := { maxStack := 4, maxLocals := 13, code := prog_24_method_1_code, exceptionTable := #[], attributes := #[] }
def k32m0 : Method := { name := "<init>", desc := "(ILjava/util/List;)V", sig := { parameters := [.int, (.object "java/util/List")], returnType := none }, accessFlags := 0, code := some k32c0 }
def k32c1 : Code := { maxStack := 5, maxLocals := 6, code := prog_24_method_2_code, exceptionTable := #[], attributes := #[] }
def k32m1 : Method := { name := "meet", desc := "(II)Z", sig := { parameters := [.int, .int], returnType := some .boolean }, accessFlags := 0, code := some k32c1 }
/-- shadowsift/core/Bounds -/
def k32 : Class := { plain "shadowsift/core/Bounds" (some 0) with
  accessFlags := 48
  interfaces := #[]
  cf := some (fileOf pool32 8 #[] #[{ accessFlags := 0, nameIndex := 5, descriptorIndex := 74, attributes := #[] }, { accessFlags := 0, nameIndex := 80, descriptorIndex := 81, attributes := #[] }] 48 2 #[] #[{ accessFlags := 18, nameIndex := 11, descriptorIndex := 12, attributes := #[] }, { accessFlags := 18, nameIndex := 21, descriptorIndex := 22, attributes := #[] }])
  fields := #[{ name := "fieldCount", type := .int, accessFlags := 18, slot := 0, constantValue := 0 }, { name := "values", type := (.array .long), accessFlags := 18, slot := 1, constantValue := 0 }]
  methods := #[k32m0, k32m1]
  instanceTypes := #[.int, (.array .long)]
  staticTypes := #[]
  resolved := Array.replicate 84 none
  statics := none }

def pool33 : Array CpInfo := pool [(16, .class_ 18), (1, u "java/util/Iterator"), (0, u "hasNext"), (0, u "()Z"), (2, u "next"), (0, u "()Ljava/lang/Object;"), (6, .class_ 32), (0, u "java/lang/Object")] 20

def k33m0 : Method := { name := "hasNext", desc := "()Z", sig := { parameters := [], returnType := some .boolean }, accessFlags := 1025, code := none }
def k33m1 : Method := { name := "next", desc := "()Ljava/lang/Object;", sig := { parameters := [], returnType := some (.object "java/lang/Object") }, accessFlags := 1025, code := none }
/-- java/util/Iterator -/
def k33 : Class := { plain "java/util/Iterator" (some 0) with
  accessFlags := 1537
  interfaces := #[]
  cf := some (fileOf pool33 16 #[] #[{ accessFlags := 1025, nameIndex := 19, descriptorIndex := 20, attributes := #[] }, { accessFlags := 1025, nameIndex := 23, descriptorIndex := 24, attributes := #[] }] 1537 31 #[] #[])
  fields := #[]
  methods := #[k33m0, k33m1]
  instanceTypes := #[]
  staticTypes := #[]
  resolved := Array.replicate 53 none
  statics := none }

def pool34 : Array CpInfo := pool [(1, .fieldref 2 3), (0, .class_ 4), (0, .nameAndType 5 6), (0, u "java/util/ArrayList$Itr"), (0, u "this$0"), (0, u "Ljava/util/ArrayList;"), (0, .methodref 8 9), (0, .class_ 10), (0, .nameAndType 11 12), (0, u "java/lang/Object"), (0, u "<init>"), (0, u "()V"), (0, .fieldref 2 14), (0, .nameAndType 15 16), (0, u "lastRet"), (0, u "I"), (0, .fieldref 18 19), (0, .class_ 20), (0, .nameAndType 21 16), (0, u "java/util/ArrayList"), (0, u "modCount"), (0, .fieldref 2 23), (0, .nameAndType 24 16), (0, u "expectedModCount"), (0, .fieldref 2 26), (0, .nameAndType 27 16), (0, u "cursor"), (0, .fieldref 18 29), (0, .nameAndType 30 16), (0, u "size"), (0, .methodref 2 32), (0, .nameAndType 33 12), (0, u "checkForComodification"), (3, .fieldref 18 38), (0, .nameAndType 39 40), (0, u "elementData"), (0, u "[Ljava/lang/Object;"), (28, .class_ 70), (0, u "java/util/Iterator"), (0, u "(Ljava/util/ArrayList;)V"), (8, u "hasNext"), (0, u "()Z"), (1, u "next"), (0, u "()Ljava/lang/Object;")] 19

def k34c0 : Code := { maxStack := 2, maxLocals := 2, code := jdk_49_method_1_code, exceptionTable := #[], attributes := #[] }
def k34m0 : Method := { name := "<init>", desc := "(Ljava/util/ArrayList;)V", sig := { parameters := [(.object "java/util/ArrayList")], returnType := none }, accessFlags := 0, code := some k34c0 }
def k34c1 : Code := { maxStack := 2, maxLocals := 1, code := jdk_49_method_2_code, exceptionTable := #[], attributes := #[] }
def k34m1 : Method := { name := "hasNext", desc := "()Z", sig := { parameters := [], returnType := some .boolean }, accessFlags := 1, code := some k34c1 }
def k34c2 : Code := { maxStack := 4, maxLocals := 3, code := jdk_49_method_3_code, exceptionTable := #[], attributes := #[] }
def k34m2 : Method := { name := "next", desc := "()Ljava/lang/Object;", sig := { parameters := [], returnType := some (.object "java/lang/Object") }, accessFlags := 1, code := some k34c2 }
def k34c3 : Code := { maxStack := 2, maxLocals := 1, code := jdk_49_method_6_code, exceptionTable := #[], attributes := #[] }
def k34m3 : Method := { name := "checkForComodification", desc := "()V", sig := { parameters := [], returnType := none }, accessFlags := 16, code := some k34c3 }
/-- java/util/ArrayList$Itr -/
def k34 : Class := { plain "java/util/ArrayList$Itr" (some 0) with
  accessFlags := 32
  interfaces := #[33]
  cf := some (fileOf pool34 2 #[.nestHost 18] #[{ accessFlags := 0, nameIndex := 11, descriptorIndex := 71, attributes := #[] }, { accessFlags := 1, nameIndex := 80, descriptorIndex := 81, attributes := #[] }, { accessFlags := 1, nameIndex := 83, descriptorIndex := 84, attributes := #[] }, { accessFlags := 16, nameIndex := 33, descriptorIndex := 12, attributes := #[] }] 32 8 #[69] #[{ accessFlags := 0, nameIndex := 27, descriptorIndex := 16, attributes := #[] }, { accessFlags := 0, nameIndex := 15, descriptorIndex := 16, attributes := #[] }, { accessFlags := 0, nameIndex := 24, descriptorIndex := 16, attributes := #[] }, { accessFlags := 4112, nameIndex := 5, descriptorIndex := 6, attributes := #[] }])
  fields := #[{ name := "cursor", type := .int, accessFlags := 0, slot := 0, constantValue := 0 }, { name := "lastRet", type := .int, accessFlags := 0, slot := 1, constantValue := 0 }, { name := "expectedModCount", type := .int, accessFlags := 0, slot := 2, constantValue := 0 }, { name := "this$0", type := (.object "java/util/ArrayList"), accessFlags := 4112, slot := 3, constantValue := 0 }]
  methods := #[k34m0, k34m1, k34m2, k34m3]
  instanceTypes := #[.int, .int, .int, (.object "java/util/ArrayList")]
  staticTypes := #[]
  resolved := Array.replicate 104 none
  statics := none }

def pool35 : Array CpInfo := pool [(1, .class_ 2), (0, u "java/util/ListIterator"), (0, .class_ 4), (0, u "java/lang/Object"), (0, .class_ 6), (0, u "java/util/Iterator")] 20

/-- java/util/ListIterator -/
def k35 : Class := { plain "java/util/ListIterator" (some 0) with
  accessFlags := 1537
  interfaces := #[33]
  cf := some (fileOf pool35 1 #[] #[] 1537 3 #[5] #[])
  fields := #[]
  methods := #[]
  instanceTypes := #[]
  staticTypes := #[]
  resolved := Array.replicate 27 none
  statics := none }

def pool36 : Array CpInfo := pool [(1, .methodref 2 3), (0, .class_ 4), (0, .nameAndType 5 6), (0, u "java/lang/Object"), (0, u "<init>"), (0, u "()V"), (0, .fieldref 8 9), (0, .class_ 10), (0, .nameAndType 11 12), (0, u "java/util/ImmutableCollections$ListItr"), (0, u "list"), (0, u "Ljava/util/List;"), (0, .fieldref 8 14), (0, .nameAndType 15 16), (0, u "size"), (0, u "I"), (0, .fieldref 8 18), (0, .nameAndType 19 16), (0, u "cursor"), (0, .fieldref 8 21), (0, .nameAndType 22 23), (0, u "isListIterator"), (0, u "Z"), (0, .interfaceMethodref 25 26), (0, .class_ 27), (0, .nameAndType 28 29), (0, u "java/util/List"), (0, u "get"), (0, u "(I)Ljava/lang/Object;"), (6, .class_ 38), (1, u "java/util/ImmutableCollections"), (2, .class_ 42), (0, u "java/util/ListIterator"), (4, u "(Ljava/util/List;I)V"), (11, u "hasNext"), (0, u "()Z"), (1, u "next"), (0, u "()Ljava/lang/Object;")] 22

def k36c0 : Code := { maxStack := 2, maxLocals := 3, code := jdk_53_method_1_code, exceptionTable := #[], attributes := #[] }
def k36m0 : Method := { name := "<init>", desc := "(Ljava/util/List;I)V", sig := { parameters := [(.object "java/util/List"), .int], returnType := none }, accessFlags := 0, code := some k36c0 }
def k36c1 : Code := { maxStack := 2, maxLocals := 1, code := jdk_53_method_3_code, exceptionTable := #[], attributes := #[] }
def k36m1 : Method := { name := "hasNext", desc := "()Z", sig := { parameters := [], returnType := some .boolean }, accessFlags := 1, code := some k36c1 }
def k36c2 : Code := { maxStack := 3, maxLocals := 3, code := jdk_53_method_4_code, exceptionTable := #[{ startPc := 0, endPc := 24, handlerPc := 25, catchType := 30 }], attributes := #[] }
def k36m2 : Method := { name := "next", desc := "()Ljava/lang/Object;", sig := { parameters := [], returnType := some (.object "java/lang/Object") }, accessFlags := 1, code := some k36c2 }
/-- java/util/ImmutableCollections$ListItr -/
def k36 : Class := { plain "java/util/ImmutableCollections$ListItr" (some 0) with
  accessFlags := 48
  interfaces := #[35]
  cf := some (fileOf pool36 8 #[.nestHost 36] #[{ accessFlags := 0, nameIndex := 5, descriptorIndex := 47, attributes := #[] }, { accessFlags := 1, nameIndex := 59, descriptorIndex := 60, attributes := #[] }, { accessFlags := 1, nameIndex := 62, descriptorIndex := 63, attributes := #[] }] 48 2 #[41] #[{ accessFlags := 18, nameIndex := 11, descriptorIndex := 12, attributes := #[] }, { accessFlags := 18, nameIndex := 15, descriptorIndex := 16, attributes := #[] }, { accessFlags := 18, nameIndex := 22, descriptorIndex := 23, attributes := #[] }, { accessFlags := 2, nameIndex := 19, descriptorIndex := 16, attributes := #[] }])
  fields := #[{ name := "list", type := (.object "java/util/List"), accessFlags := 18, slot := 0, constantValue := 0 }, { name := "size", type := .int, accessFlags := 18, slot := 1, constantValue := 0 }, { name := "isListIterator", type := .boolean, accessFlags := 18, slot := 2, constantValue := 0 }, { name := "cursor", type := .int, accessFlags := 2, slot := 3, constantValue := 0 }]
  methods := #[k36m0, k36m1, k36m2]
  instanceTypes := #[(.object "java/util/List"), .int, .boolean, .int]
  staticTypes := #[]
  resolved := Array.replicate 86 none
  statics := none }

def pool37 : Array CpInfo := pool [(1, u "java/lang/Class"), (0, .class_ 1), (0, u "java/lang/Object"), (0, .class_ 3)] 0

/-- java/lang/Class -/
def k37 : Class := { plain "java/lang/Class" (some 0) with
  accessFlags := 49
  interfaces := #[]
  cf := some (fileOf pool37 2 #[] #[] 49 4 #[] #[])
  fields := #[]
  methods := #[]
  instanceTypes := #[]
  staticTypes := #[]
  resolved := Array.replicate 5 none
  statics := none }

/-- the primitive byte -/
def k38 : Class := { plain "byte" none with kind := .primitive 'B', accessFlags := 0x411 }
/-- [B -/
def k39 : Class := { plain "[B" (some 0) with kind := .array 38 .byte, interfaces := #[19, 5], accessFlags := 1041 }

/-- the primitive int -/
def k40 : Class := { plain "int" none with kind := .primitive 'I', accessFlags := 0x411 }
/-- [I -/
def k41 : Class := { plain "[I" (some 0) with kind := .array 40 .int, interfaces := #[19, 5], accessFlags := 1041 }

/-- the primitive long -/
def k42 : Class := { plain "long" none with kind := .primitive 'J', accessFlags := 0x411 }
/-- [J -/
def k43 : Class := { plain "[J" (some 0) with kind := .array 42 .long, interfaces := #[19, 5], accessFlags := 1041 }

/-- [Ljava/lang/Object; -/
def k44 : Class := { plain "[Ljava/lang/Object;" (some 0) with kind := .array 0 (.object "java/lang/Object"), interfaces := #[19, 5], accessFlags := 1041, mirror := some 2 }

def heap : Heap := #[{ cls := 20, slots := #[.long 0, .int 0, .ref 6, .ref 7], vm := .statics 20 },
  { cls := 23, slots := #[.long 0, .int 0, .null, .ref 4, .ref 5, .null, .null, .null, .int 0, .int 1], vm := .statics 23 },
  { cls := 37, slots := #[], vm := .mirror 44 },
  { cls := 44, slots := #[], vm := .none },
  { cls := 0, slots := #[], vm := .none },
  { cls := 27, slots := #[.ref 3, .int 0], vm := .none },
  { cls := 44, slots := #[], vm := .none },
  { cls := 44, slots := #[], vm := .none }]
def classes : Array Class := #[k0, k1, k2, k3, k4, k5, k6, k7, k8, k9, k10, k11, k12, k13, k14, k15, k16, k17, k18, k19, k20, k21, k22, k23, k24, k25, k26, k27, k28, k29, k30, k31, k32, k33, k34, k35, k36, k37, k38, k39, k40, k41, k42, k43, k44]
def interned : List (Array UInt16 × Addr) := []
def slotsUsed : Nat := 16
def theMethod : MethodId := ⟨1, 4⟩
def args0 : Array Value := #[.long 167772180, .long 5, .long 6, .long 7, .int 1, .int 0]
def aboutOver (below : List Frame) : State where
  vm := { classes := classes, interned := interned.toArray }
  heap := heap
  slotsUsed := slotsUsed
  threads := #[{ frames := .invoking theMethod args0 :: below }]
def below0 : List Frame := [.native { method := ⟨0, 0⟩, args := #[] }]
def about1 : State := aboutOver below0
def p0 : Program := .bare "" "" ""
def e0 : Env := launch0.env 0 0 0
theorem w_frames : about1.frames = Frame.invoking theMethod args0 :: below0 := rfl
set_option maxRecDepth 65536 in
theorem w_args : argsFit about1.vm theMethod args0 = true := by decide +kernel
set_option maxRecDepth 65536 in
theorem w_heap : heapFits about1 = true := by decide +kernel
set_option maxRecDepth 65536 in
theorem w_runnable : about1.curStatus? = some .runnable := by decide +kernel
set_option maxRecDepth 65536 in
theorem w_alone : about1.alone = true := by decide +kernel
set_option maxRecDepth 65536 in
theorem w_named : about1.methodNamed? x = some theMethod := by decide +kernel
set_option maxRecDepth 65536 in
theorem w_hears : about1.hears theMethod below0 = true := by decide +kernel
set_option maxRecDepth 65536 in
theorem w_ripe : about1.ripe theMethod args0 below0 = true := by decide +kernel
theorem w_running : about1.status = .running := rfl
set_option maxRecDepth 65536 in
theorem w_room : about1.hasRoom e0.platform room_1 = true :=
  launch0.hasRoom_least _ room_1 (by decide +kernel) (by decide +kernel) (by decide +kernel) (by decide +kernel) (by decide +kernel) (by decide +kernel)
theorem allAtoms_all (ts : List Jvm.Cond) (a : Array Jvm.Value) (st : Jvm.State) : (allAtoms ts).before a st = ts.all (fun c => c.before a st) := by
  induction ts with
  | nil => rfl
  | cons c t ih =>
    show (Jvm.Cond.and c (allAtoms t)).before a st = _
    rw [Jvm.Cond.before_and, ih, List.all_cons]
def words1 : List Jvm.Cond := Jvm.Cond.code x code maxLocals ret :: tables_1
/-- a 'code' word, met by the world's own term for the bytes: nothing is compared byte by byte -/
theorem code_word {y : MethodName} {bytes : ByteArray} {mx : Nat} {rt : Option FieldType} {a : Array Value} {s : State} {m : MethodId} {meth : Method} {c : Code} (h1 : s.methodNamed? y = some m) (h2 : s.vm.method? m = some meth) (h3 : meth.code = some c) (h4 : c.code = bytes)
    (h5 : (c.maxLocals == mx && c.exceptionTable.isEmpty && decide (c.maxStack ≤ mostOperands) && decide (meth.sig.returnType = rt) && !meth.locks && decide (parseMethodDescriptor y.desc = some meth.sig)) = true) : (Jvm.Cond.code y bytes mx rt).before a s = true := by
  simp only [Bool.and_eq_true, beq_iff_eq, Bool.not_eq_true', decide_eq_true_eq] at h5
  obtain ⟨⟨⟨⟨⟨g1, g2⟩, g3⟩, g4⟩, g5⟩, g6⟩ := h5
  simp [Cond.before, Cond.holds, Cond.value, h1, h2, h3, h4, g1, g2, g3, g4, g5, g6]
def isCode : Jvm.Cond → Bool
  | .code _ _ _ _ => true
  | _ => false
theorem all_split {L : List Jvm.Cond} {P : Jvm.Cond → Bool} (h1 : L.all (fun c => isCode c || P c) = true) (h2 : ∀ c ∈ L.filter isCode, P c = true) : L.all P = true := by
  refine List.all_eq_true.mpr fun c hc => ?_
  have h := List.all_eq_true.mp h1 c hc
  rcases Bool.eq_false_or_eq_true (isCode c) with hi | hi
  · exact h2 c (List.mem_filter.mpr ⟨hc, hi⟩)
  · simpa [hi] using h
set_option maxRecDepth 65536 in
theorem w_c0 : (Jvm.Cond.code x code maxLocals ret).before args0 about1 = true := code_word (m := ⟨1, 4⟩) (meth := k1m4) (c := k1c4) (by decide +kernel) rfl rfl rfl (by decide +kernel)
set_option maxRecDepth 65536 in
theorem w_c1 : (Jvm.Cond.code ({ cls := "shadowsift/core/BoundsMeetPinLaw", name := "low", desc := "(JI)J" } : Jvm.MethodName) method_2_code (7 : Nat) (Option.some Jvm.ClassFile.FieldType.long)).before args0 about1 = true := code_word (m := ⟨1, 1⟩) (meth := k1m1) (c := k1c1) (by decide +kernel) rfl rfl rfl (by decide +kernel)
set_option maxRecDepth 65536 in
theorem w_c2 : (Jvm.Cond.code ({ cls := "java/lang/Math", name := "min", desc := "(JJ)J" } : Jvm.MethodName) jdk_29_method_70_code (4 : Nat) (Option.some Jvm.ClassFile.FieldType.long)).before args0 about1 = true := code_word (m := ⟨2, 4⟩) (meth := k2m4) (c := k2c4) (by decide +kernel) rfl rfl rfl (by decide +kernel)
set_option maxRecDepth 65536 in
theorem w_c3 : (Jvm.Cond.code ({ cls := "shadowsift/core/BoundsMeetPinLaw", name := "high", desc := "(JI)J" } : Jvm.MethodName) method_3_code (7 : Nat) (Option.some Jvm.ClassFile.FieldType.long)).before args0 about1 = true := code_word (m := ⟨1, 2⟩) (meth := k1m2) (c := k1c2) (by decide +kernel) rfl rfl rfl (by decide +kernel)
set_option maxRecDepth 65536 in
theorem w_c4 : (Jvm.Cond.code ({ cls := "java/lang/Math", name := "max", desc := "(JJ)J" } : Jvm.MethodName) jdk_29_method_66_code (4 : Nat) (Option.some Jvm.ClassFile.FieldType.long)).before args0 about1 = true := code_word (m := ⟨2, 2⟩) (meth := k2m2) (c := k2c2) (by decide +kernel) rfl rfl rfl (by decide +kernel)
set_option maxRecDepth 65536 in
theorem w_c5 : (Jvm.Cond.code ({ cls := "shadowsift/core/Decision", name := "<init>", desc := "(Ljava/lang/String;)V" } : Jvm.MethodName) prog_36_method_1_code (2 : Nat) (Option.none : Option Jvm.ClassFile.FieldType)).before args0 about1 = true := code_word (m := ⟨4, 0⟩) (meth := k4m0) (c := k4c0) (by decide +kernel) rfl rfl rfl (by decide +kernel)
set_option maxRecDepth 65536 in
theorem w_c6 : (Jvm.Cond.code ({ cls := "java/lang/Record", name := "<init>", desc := "()V" } : Jvm.MethodName) jdk_30_method_1_code (1 : Nat) (Option.none : Option Jvm.ClassFile.FieldType)).before args0 about1 = true := code_word (m := ⟨3, 0⟩) (meth := k3m0) (c := k3c0) (by decide +kernel) rfl rfl rfl (by decide +kernel)
set_option maxRecDepth 65536 in
theorem w_c7 : (Jvm.Cond.code ({ cls := "java/lang/Object", name := "<init>", desc := "()V" } : Jvm.MethodName) object_method_1_code (1 : Nat) (Option.none : Option Jvm.ClassFile.FieldType)).before args0 about1 = true := code_word (m := ⟨0, 0⟩) (meth := k0m0) (c := k0c0) (by decide +kernel) rfl rfl rfl (by decide +kernel)
set_option maxRecDepth 65536 in
theorem w_c8 : (Jvm.Cond.code ({ cls := "java/util/Objects", name := "requireNonNull", desc := "(Ljava/lang/Object;Ljava/lang/String;)Ljava/lang/Object;" } : Jvm.MethodName) jdk_31_method_11_code (2 : Nat) (Option.some (Jvm.ClassFile.FieldType.object "java/lang/Object"))).before args0 about1 = true := code_word (m := ⟨11, 2⟩) (meth := k11m2) (c := k11c2) (by decide +kernel) rfl rfl rfl (by decide +kernel)
set_option maxRecDepth 65536 in
theorem w_c9 : (Jvm.Cond.code ({ cls := "java/util/ArrayList", name := "<init>", desc := "()V" } : Jvm.MethodName) jdk_38_method_2_code (1 : Nat) (Option.none : Option Jvm.ClassFile.FieldType)).before args0 about1 = true := code_word (m := ⟨20, 0⟩) (meth := k20m0) (c := k20c0) (by decide +kernel) rfl rfl rfl (by decide +kernel)
set_option maxRecDepth 65536 in
theorem w_c10 : (Jvm.Cond.code ({ cls := "java/util/AbstractList", name := "<init>", desc := "()V" } : Jvm.MethodName) jdk_39_method_1_code (1 : Nat) (Option.none : Option Jvm.ClassFile.FieldType)).before args0 about1 = true := code_word (m := ⟨17, 0⟩) (meth := k17m0) (c := k17c0) (by decide +kernel) rfl rfl rfl (by decide +kernel)
set_option maxRecDepth 65536 in
theorem w_c11 : (Jvm.Cond.code ({ cls := "java/util/AbstractCollection", name := "<init>", desc := "()V" } : Jvm.MethodName) jdk_22_method_1_code (1 : Nat) (Option.none : Option Jvm.ClassFile.FieldType)).before args0 about1 = true := code_word (m := ⟨14, 0⟩) (meth := k14m0) (c := k14c0) (by decide +kernel) rfl rfl rfl (by decide +kernel)
set_option maxRecDepth 65536 in
theorem w_c12 : (Jvm.Cond.code ({ cls := "shadowsift/core/ValueSet", name := "range", desc := "(JJ)Lshadowsift/core/ValueSet;" } : Jvm.MethodName) prog_64_method_2_code (4 : Nat) (Option.some (Jvm.ClassFile.FieldType.object "shadowsift/core/ValueSet"))).before args0 about1 = true := code_word (m := ⟨21, 1⟩) (meth := k21m1) (c := k21c1) (by decide +kernel) rfl rfl rfl (by decide +kernel)
set_option maxRecDepth 65536 in
theorem w_c13 : (Jvm.Cond.code ({ cls := "shadowsift/core/ValueSet", name := "<init>", desc := "([J[J)V" } : Jvm.MethodName) prog_64_method_1_code (3 : Nat) (Option.none : Option Jvm.ClassFile.FieldType)).before args0 about1 = true := code_word (m := ⟨21, 0⟩) (meth := k21m0) (c := k21c0) (by decide +kernel) rfl rfl rfl (by decide +kernel)
set_option maxRecDepth 65536 in
theorem w_c14 : (Jvm.Cond.code ({ cls := "java/util/ArrayList", name := "add", desc := "(Ljava/lang/Object;)Z" } : Jvm.MethodName) jdk_38_method_25_code (2 : Nat) (Option.some Jvm.ClassFile.FieldType.boolean)).before args0 about1 = true := code_word (m := ⟨20, 7⟩) (meth := k20m7) (c := k20c7) (by decide +kernel) rfl rfl rfl (by decide +kernel)
set_option maxRecDepth 65536 in
theorem w_c15 : (Jvm.Cond.code ({ cls := "java/util/ArrayList", name := "add", desc := "(Ljava/lang/Object;[Ljava/lang/Object;I)V" } : Jvm.MethodName) jdk_38_method_24_code (4 : Nat) (Option.none : Option Jvm.ClassFile.FieldType)).before args0 about1 = true := code_word (m := ⟨20, 6⟩) (meth := k20m6) (c := k20c6) (by decide +kernel) rfl rfl rfl (by decide +kernel)
set_option maxRecDepth 65536 in
theorem w_c16 : (Jvm.Cond.code ({ cls := "java/util/ArrayList", name := "grow", desc := "()[Ljava/lang/Object;" } : Jvm.MethodName) jdk_38_method_7_code (1 : Nat) (Option.some (Jvm.ClassFile.FieldType.array (Jvm.ClassFile.FieldType.object "java/lang/Object")))).before args0 about1 = true := code_word (m := ⟨20, 2⟩) (meth := k20m2) (c := k20c2) (by decide +kernel) rfl rfl rfl (by decide +kernel)
set_option maxRecDepth 65536 in
theorem w_c17 : (Jvm.Cond.code ({ cls := "java/util/ArrayList", name := "grow", desc := "(I)[Ljava/lang/Object;" } : Jvm.MethodName) jdk_38_method_6_code (4 : Nat) (Option.some (Jvm.ClassFile.FieldType.array (Jvm.ClassFile.FieldType.object "java/lang/Object")))).before args0 about1 = true := code_word (m := ⟨20, 1⟩) (meth := k20m1) (c := k20c1) (by decide +kernel) rfl rfl rfl (by decide +kernel)
set_option maxRecDepth 65536 in
theorem w_c18 : (Jvm.Cond.code ({ cls := "java/lang/Math", name := "max", desc := "(II)I" } : Jvm.MethodName) jdk_29_method_65_code (2 : Nat) (Option.some Jvm.ClassFile.FieldType.int)).before args0 about1 = true := code_word (m := ⟨2, 1⟩) (meth := k2m1) (c := k2c1) (by decide +kernel) rfl rfl rfl (by decide +kernel)
set_option maxRecDepth 65536 in
theorem w_c19 : (Jvm.Cond.code ({ cls := "shadowsift/core/Box", name := "<init>", desc := "(Ljava/util/List;)V" } : Jvm.MethodName) prog_26_method_1_code (2 : Nat) (Option.none : Option Jvm.ClassFile.FieldType)).before args0 about1 = true := code_word (m := ⟨22, 0⟩) (meth := k22m0) (c := k22c0) (by decide +kernel) rfl rfl rfl (by decide +kernel)
set_option maxRecDepth 65536 in
theorem w_c20 : (Jvm.Cond.code ({ cls := "java/util/List", name := "copyOf", desc := "(Ljava/util/Collection;)Ljava/util/List;" } : Jvm.MethodName) jdk_40_method_48_code (1 : Nat) (Option.some (Jvm.ClassFile.FieldType.object "java/util/List"))).before args0 about1 = true := code_word (m := ⟨16, 5⟩) (meth := k16m5) (c := k16c5) (by decide +kernel) rfl rfl rfl (by decide +kernel)
set_option maxRecDepth 65536 in
theorem w_c21 : (Jvm.Cond.code ({ cls := "java/util/ImmutableCollections", name := "listCopy", desc := "(Ljava/util/Collection;)Ljava/util/List;" } : Jvm.MethodName) jdk_56_method_3_code (2 : Nat) (Option.some (Jvm.ClassFile.FieldType.object "java/util/List"))).before args0 about1 = true := code_word (m := ⟨23, 1⟩) (meth := k23m1) (c := k23c1) (by decide +kernel) rfl rfl rfl (by decide +kernel)
set_option maxRecDepth 65536 in
theorem w_c22 : (Jvm.Cond.code ({ cls := "java/util/ArrayList", name := "isEmpty", desc := "()Z" } : Jvm.MethodName) jdk_38_method_9_code (1 : Nat) (Option.some Jvm.ClassFile.FieldType.boolean)).before args0 about1 = true := code_word (m := ⟨20, 4⟩) (meth := k20m4) (c := k20c4) (by decide +kernel) rfl rfl rfl (by decide +kernel)
set_option maxRecDepth 65536 in
theorem w_c23 : (Jvm.Cond.code ({ cls := "java/util/ArrayList", name := "toArray", desc := "()[Ljava/lang/Object;" } : Jvm.MethodName) jdk_38_method_16_code (1 : Nat) (Option.some (Jvm.ClassFile.FieldType.array (Jvm.ClassFile.FieldType.object "java/lang/Object")))).before args0 about1 = true := code_word (m := ⟨20, 5⟩) (meth := k20m5) (c := k20c5) (by decide +kernel) rfl rfl rfl (by decide +kernel)
set_option maxRecDepth 65536 in
theorem w_c24 : (Jvm.Cond.code ({ cls := "java/util/Arrays", name := "copyOf", desc := "([Ljava/lang/Object;I)[Ljava/lang/Object;" } : Jvm.MethodName) jdk_65_method_119_code (2 : Nat) (Option.some (Jvm.ClassFile.FieldType.array (Jvm.ClassFile.FieldType.object "java/lang/Object")))).before args0 about1 = true := code_word (m := ⟨28, 1⟩) (meth := k28m1) (c := k28c1) (by decide +kernel) rfl rfl rfl (by decide +kernel)
set_option maxRecDepth 65536 in
theorem w_c25 : (Jvm.Cond.code ({ cls := "java/util/Arrays", name := "copyOf", desc := "([Ljava/lang/Object;ILjava/lang/Class;)[Ljava/lang/Object;" } : Jvm.MethodName) jdk_65_method_120_code (4 : Nat) (Option.some (Jvm.ClassFile.FieldType.array (Jvm.ClassFile.FieldType.object "java/lang/Object")))).before args0 about1 = true := code_word (m := ⟨28, 2⟩) (meth := k28m2) (c := k28c2) (by decide +kernel) rfl rfl rfl (by decide +kernel)
set_option maxRecDepth 65536 in
theorem w_c26 : (Jvm.Cond.code ({ cls := "java/lang/Math", name := "min", desc := "(II)I" } : Jvm.MethodName) jdk_29_method_69_code (2 : Nat) (Option.some Jvm.ClassFile.FieldType.int)).before args0 about1 = true := code_word (m := ⟨2, 3⟩) (meth := k2m3) (c := k2c3) (by decide +kernel) rfl rfl rfl (by decide +kernel)
set_option maxRecDepth 65536 in
theorem w_c27 : (Jvm.Cond.code ({ cls := "java/util/List", name := "of", desc := "([Ljava/lang/Object;)Ljava/util/List;" } : Jvm.MethodName) jdk_40_method_47_code (2 : Nat) (Option.some (Jvm.ClassFile.FieldType.object "java/util/List"))).before args0 about1 = true := code_word (m := ⟨16, 4⟩) (meth := k16m4) (c := k16c4) (by decide +kernel) rfl rfl rfl (by decide +kernel)
set_option maxRecDepth 65536 in
theorem w_c28 : (Jvm.Cond.code ({ cls := "java/util/ImmutableCollections$List12", name := "<init>", desc := "(Ljava/lang/Object;Ljava/lang/Object;)V" } : Jvm.MethodName) jdk_44_method_2_code (3 : Nat) (Option.none : Option Jvm.ClassFile.FieldType)).before args0 about1 = true := code_word (m := ⟨26, 1⟩) (meth := k26m1) (c := k26c1) (by decide +kernel) rfl rfl rfl (by decide +kernel)
set_option maxRecDepth 65536 in
theorem w_c29 : (Jvm.Cond.code ({ cls := "java/util/ImmutableCollections$AbstractImmutableList", name := "<init>", desc := "()V" } : Jvm.MethodName) jdk_46_method_1_code (1 : Nat) (Option.none : Option Jvm.ClassFile.FieldType)).before args0 about1 = true := code_word (m := ⟨25, 0⟩) (meth := k25m0) (c := k25c0) (by decide +kernel) rfl rfl rfl (by decide +kernel)
set_option maxRecDepth 65536 in
theorem w_c30 : (Jvm.Cond.code ({ cls := "java/util/ImmutableCollections$AbstractImmutableCollection", name := "<init>", desc := "()V" } : Jvm.MethodName) jdk_47_method_1_code (1 : Nat) (Option.none : Option Jvm.ClassFile.FieldType)).before args0 about1 = true := code_word (m := ⟨24, 0⟩) (meth := k24m0) (c := k24c0) (by decide +kernel) rfl rfl rfl (by decide +kernel)
set_option maxRecDepth 65536 in
theorem w_c31 : (Jvm.Cond.code ({ cls := "java/util/Objects", name := "requireNonNull", desc := "(Ljava/lang/Object;)Ljava/lang/Object;" } : Jvm.MethodName) jdk_31_method_10_code (1 : Nat) (Option.some (Jvm.ClassFile.FieldType.object "java/lang/Object"))).before args0 about1 = true := code_word (m := ⟨11, 1⟩) (meth := k11m1) (c := k11c1) (by decide +kernel) rfl rfl rfl (by decide +kernel)
set_option maxRecDepth 65536 in
theorem w_c32 : (Jvm.Cond.code ({ cls := "shadowsift/core/Rule", name := "<init>", desc := "(Lshadowsift/core/Decision;Ljava/util/List;)V" } : Jvm.MethodName) prog_52_method_2_code (3 : Nat) (Option.none : Option Jvm.ClassFile.FieldType)).before args0 about1 = true := code_word (m := ⟨30, 1⟩) (meth := k30m1) (c := k30c1) (by decide +kernel) rfl rfl rfl (by decide +kernel)
set_option maxRecDepth 65536 in
theorem w_c33 : (Jvm.Cond.code ({ cls := "java/util/Optional", name := "of", desc := "(Ljava/lang/Object;)Ljava/util/Optional;" } : Jvm.MethodName) jdk_32_method_3_code (1 : Nat) (Option.some (Jvm.ClassFile.FieldType.object "java/util/Optional"))).before args0 about1 = true := code_word (m := ⟨31, 1⟩) (meth := k31m1) (c := k31c1) (by decide +kernel) rfl rfl rfl (by decide +kernel)
set_option maxRecDepth 65536 in
theorem w_c34 : (Jvm.Cond.code ({ cls := "java/util/Optional", name := "<init>", desc := "(Ljava/lang/Object;)V" } : Jvm.MethodName) jdk_32_method_2_code (2 : Nat) (Option.none : Option Jvm.ClassFile.FieldType)).before args0 about1 = true := code_word (m := ⟨31, 0⟩) (meth := k31m0) (c := k31c0) (by decide +kernel) rfl rfl rfl (by decide +kernel)
set_option maxRecDepth 65536 in
theorem w_c35 : (Jvm.Cond.code ({ cls := "shadowsift/core/Rule", name := "<init>", desc := "(Ljava/util/Optional;Ljava/util/List;Z)V" } : Jvm.MethodName) prog_52_method_1_code (4 : Nat) (Option.none : Option Jvm.ClassFile.FieldType)).before args0 about1 = true := code_word (m := ⟨30, 0⟩) (meth := k30m0) (c := k30c0) (by decide +kernel) rfl rfl rfl (by decide +kernel)
set_option maxRecDepth 65536 in
theorem w_c36 : (Jvm.Cond.code ({ cls := "java/util/ImmutableCollections$List12", name := "<init>", desc := "(Ljava/lang/Object;)V" } : Jvm.MethodName) jdk_44_method_1_code (2 : Nat) (Option.none : Option Jvm.ClassFile.FieldType)).before args0 about1 = true := code_word (m := ⟨26, 0⟩) (meth := k26m0) (c := k26c0) (by decide +kernel) rfl rfl rfl (by decide +kernel)
set_option maxRecDepth 65536 in
theorem w_c37 : (Jvm.Cond.code ({ cls := "shadowsift/core/Bounds", name := "<init>", desc := "(ILjava/util/List;)V" } : Jvm.MethodName) prog_24_method_1_code (13 : Nat) (Option.none : Option Jvm.ClassFile.FieldType)).before args0 about1 = true := code_word (m := ⟨32, 0⟩) (meth := k32m0) (c := k32c0) (by decide +kernel) rfl rfl rfl (by decide +kernel)
set_option maxRecDepth 65536 in
theorem w_c38 : (Jvm.Cond.code ({ cls := "java/util/ArrayList", name := "size", desc := "()I" } : Jvm.MethodName) jdk_38_method_8_code (1 : Nat) (Option.some Jvm.ClassFile.FieldType.int)).before args0 about1 = true := code_word (m := ⟨20, 3⟩) (meth := k20m3) (c := k20c3) (by decide +kernel) rfl rfl rfl (by decide +kernel)
set_option maxRecDepth 65536 in
theorem w_c39 : (Jvm.Cond.code ({ cls := "java/util/ArrayList", name := "iterator", desc := "()Ljava/util/Iterator;" } : Jvm.MethodName) jdk_38_method_55_code (1 : Nat) (Option.some (Jvm.ClassFile.FieldType.object "java/util/Iterator"))).before args0 about1 = true := code_word (m := ⟨20, 8⟩) (meth := k20m8) (c := k20c8) (by decide +kernel) rfl rfl rfl (by decide +kernel)
set_option maxRecDepth 65536 in
theorem w_c40 : (Jvm.Cond.code ({ cls := "java/util/ArrayList$Itr", name := "<init>", desc := "(Ljava/util/ArrayList;)V" } : Jvm.MethodName) jdk_49_method_1_code (2 : Nat) (Option.none : Option Jvm.ClassFile.FieldType)).before args0 about1 = true := code_word (m := ⟨34, 0⟩) (meth := k34m0) (c := k34c0) (by decide +kernel) rfl rfl rfl (by decide +kernel)
set_option maxRecDepth 65536 in
theorem w_c41 : (Jvm.Cond.code ({ cls := "java/util/ArrayList$Itr", name := "hasNext", desc := "()Z" } : Jvm.MethodName) jdk_49_method_2_code (1 : Nat) (Option.some Jvm.ClassFile.FieldType.boolean)).before args0 about1 = true := code_word (m := ⟨34, 1⟩) (meth := k34m1) (c := k34c1) (by decide +kernel) rfl rfl rfl (by decide +kernel)
set_option maxRecDepth 65536 in
theorem w_c42 : (Jvm.Cond.code ({ cls := "java/util/ArrayList$Itr", name := "next", desc := "()Ljava/lang/Object;" } : Jvm.MethodName) jdk_49_method_3_code (3 : Nat) (Option.some (Jvm.ClassFile.FieldType.object "java/lang/Object"))).before args0 about1 = true := code_word (m := ⟨34, 2⟩) (meth := k34m2) (c := k34c2) (by decide +kernel) rfl rfl rfl (by decide +kernel)
set_option maxRecDepth 65536 in
theorem w_c43 : (Jvm.Cond.code ({ cls := "java/util/ArrayList$Itr", name := "checkForComodification", desc := "()V" } : Jvm.MethodName) jdk_49_method_6_code (1 : Nat) (Option.none : Option Jvm.ClassFile.FieldType)).before args0 about1 = true := code_word (m := ⟨34, 3⟩) (meth := k34m3) (c := k34c3) (by decide +kernel) rfl rfl rfl (by decide +kernel)
set_option maxRecDepth 65536 in
theorem w_c44 : (Jvm.Cond.code ({ cls := "shadowsift/core/Rule", name := "match", desc := "()Ljava/util/List;" } : Jvm.MethodName) prog_52_method_10_code (1 : Nat) (Option.some (Jvm.ClassFile.FieldType.object "java/util/List"))).before args0 about1 = true := code_word (m := ⟨30, 2⟩) (meth := k30m2) (c := k30c2) (by decide +kernel) rfl rfl rfl (by decide +kernel)
set_option maxRecDepth 65536 in
theorem w_c45 : (Jvm.Cond.code ({ cls := "java/util/ImmutableCollections$AbstractImmutableList", name := "iterator", desc := "()Ljava/util/Iterator;" } : Jvm.MethodName) jdk_46_method_10_code (1 : Nat) (Option.some (Jvm.ClassFile.FieldType.object "java/util/Iterator"))).before args0 about1 = true := code_word (m := ⟨25, 1⟩) (meth := k25m1) (c := k25c1) (by decide +kernel) rfl rfl rfl (by decide +kernel)
set_option maxRecDepth 65536 in
theorem w_c46 : (Jvm.Cond.code ({ cls := "java/util/ImmutableCollections$List12", name := "size", desc := "()I" } : Jvm.MethodName) jdk_44_method_3_code (1 : Nat) (Option.some Jvm.ClassFile.FieldType.int)).before args0 about1 = true := code_word (m := ⟨26, 2⟩) (meth := k26m2) (c := k26c2) (by decide +kernel) rfl rfl rfl (by decide +kernel)
set_option maxRecDepth 65536 in
theorem w_c47 : (Jvm.Cond.code ({ cls := "java/util/ImmutableCollections$ListItr", name := "<init>", desc := "(Ljava/util/List;I)V" } : Jvm.MethodName) jdk_53_method_1_code (3 : Nat) (Option.none : Option Jvm.ClassFile.FieldType)).before args0 about1 = true := code_word (m := ⟨36, 0⟩) (meth := k36m0) (c := k36c0) (by decide +kernel) rfl rfl rfl (by decide +kernel)
set_option maxRecDepth 65536 in
theorem w_c48 : (Jvm.Cond.code ({ cls := "java/util/ImmutableCollections$ListItr", name := "hasNext", desc := "()Z" } : Jvm.MethodName) jdk_53_method_3_code (1 : Nat) (Option.some Jvm.ClassFile.FieldType.boolean)).before args0 about1 = true := code_word (m := ⟨36, 1⟩) (meth := k36m1) (c := k36c1) (by decide +kernel) rfl rfl rfl (by decide +kernel)
set_option maxRecDepth 65536 in
theorem w_c49 : (Jvm.Cond.code ({ cls := "java/util/ImmutableCollections$List12", name := "get", desc := "(I)Ljava/lang/Object;" } : Jvm.MethodName) jdk_44_method_5_code (2 : Nat) (Option.some (Jvm.ClassFile.FieldType.object "java/lang/Object"))).before args0 about1 = true := code_word (m := ⟨26, 3⟩) (meth := k26m3) (c := k26c3) (by decide +kernel) rfl rfl rfl (by decide +kernel)
set_option maxRecDepth 65536 in
theorem w_c50 : (Jvm.Cond.code ({ cls := "shadowsift/core/Box", name := "sets", desc := "()Ljava/util/List;" } : Jvm.MethodName) prog_26_method_9_code (1 : Nat) (Option.some (Jvm.ClassFile.FieldType.object "java/util/List"))).before args0 about1 = true := code_word (m := ⟨22, 1⟩) (meth := k22m1) (c := k22c1) (by decide +kernel) rfl rfl rfl (by decide +kernel)
set_option maxRecDepth 65536 in
theorem w_c51 : (Jvm.Cond.code ({ cls := "shadowsift/core/ValueSet", name := "min", desc := "()J" } : Jvm.MethodName) prog_64_method_10_code (1 : Nat) (Option.some Jvm.ClassFile.FieldType.long)).before args0 about1 = true := code_word (m := ⟨21, 2⟩) (meth := k21m2) (c := k21c2) (by decide +kernel) rfl rfl rfl (by decide +kernel)
set_option maxRecDepth 65536 in
theorem w_c52 : (Jvm.Cond.code ({ cls := "shadowsift/core/ValueSet", name := "max", desc := "()J" } : Jvm.MethodName) prog_64_method_11_code (1 : Nat) (Option.some Jvm.ClassFile.FieldType.long)).before args0 about1 = true := code_word (m := ⟨21, 3⟩) (meth := k21m3) (c := k21c3) (by decide +kernel) rfl rfl rfl (by decide +kernel)
set_option maxRecDepth 65536 in
theorem w_c53 : (Jvm.Cond.code ({ cls := "shadowsift/core/BoundsMeetPinLaw", name := "overlap", desc := "(JJJJ)Z" } : Jvm.MethodName) method_4_code (8 : Nat) (Option.some Jvm.ClassFile.FieldType.boolean)).before args0 about1 = true := code_word (m := ⟨1, 3⟩) (meth := k1m3) (c := k1c3) (by decide +kernel) rfl rfl rfl (by decide +kernel)
set_option maxRecDepth 65536 in
theorem w_c54 : (Jvm.Cond.code ({ cls := "shadowsift/core/Bounds", name := "meet", desc := "(II)Z" } : Jvm.MethodName) prog_24_method_2_code (6 : Nat) (Option.some Jvm.ClassFile.FieldType.boolean)).before args0 about1 = true := code_word (m := ⟨32, 1⟩) (meth := k32m1) (c := k32c1) (by decide +kernel) rfl rfl rfl (by decide +kernel)
set_option maxRecDepth 65536 in
theorem w_c55 : (Jvm.Cond.code ({ cls := "java/util/List", name := "of", desc := "()Ljava/util/List;" } : Jvm.MethodName) jdk_40_method_36_code (0 : Nat) (Option.some (Jvm.ClassFile.FieldType.object "java/util/List"))).before args0 about1 = true := code_word (m := ⟨16, 3⟩) (meth := k16m3) (c := k16c3) (by decide +kernel) rfl rfl rfl (by decide +kernel)
set_option maxRecDepth 65536 in
theorem w_c56 : (Jvm.Cond.code ({ cls := "java/util/ImmutableCollections$ListN", name := "size", desc := "()I" } : Jvm.MethodName) jdk_45_method_3_code (1 : Nat) (Option.some Jvm.ClassFile.FieldType.int)).before args0 about1 = true := code_word (m := ⟨27, 0⟩) (meth := k27m0) (c := k27c0) (by decide +kernel) rfl rfl rfl (by decide +kernel)
def codes1 : List Jvm.Cond := [Jvm.Cond.code x code maxLocals ret, Jvm.Cond.code ({ cls := "shadowsift/core/BoundsMeetPinLaw", name := "low", desc := "(JI)J" } : Jvm.MethodName) method_2_code (7 : Nat) (Option.some Jvm.ClassFile.FieldType.long), Jvm.Cond.code ({ cls := "java/lang/Math", name := "min", desc := "(JJ)J" } : Jvm.MethodName) jdk_29_method_70_code (4 : Nat) (Option.some Jvm.ClassFile.FieldType.long), Jvm.Cond.code ({ cls := "shadowsift/core/BoundsMeetPinLaw", name := "high", desc := "(JI)J" } : Jvm.MethodName) method_3_code (7 : Nat) (Option.some Jvm.ClassFile.FieldType.long), Jvm.Cond.code ({ cls := "java/lang/Math", name := "max", desc := "(JJ)J" } : Jvm.MethodName) jdk_29_method_66_code (4 : Nat) (Option.some Jvm.ClassFile.FieldType.long), Jvm.Cond.code ({ cls := "shadowsift/core/Decision", name := "<init>", desc := "(Ljava/lang/String;)V" } : Jvm.MethodName) prog_36_method_1_code (2 : Nat) (Option.none : Option Jvm.ClassFile.FieldType), Jvm.Cond.code ({ cls := "java/lang/Record", name := "<init>", desc := "()V" } : Jvm.MethodName) jdk_30_method_1_code (1 : Nat) (Option.none : Option Jvm.ClassFile.FieldType), Jvm.Cond.code ({ cls := "java/lang/Object", name := "<init>", desc := "()V" } : Jvm.MethodName) object_method_1_code (1 : Nat) (Option.none : Option Jvm.ClassFile.FieldType), Jvm.Cond.code ({ cls := "java/util/Objects", name := "requireNonNull", desc := "(Ljava/lang/Object;Ljava/lang/String;)Ljava/lang/Object;" } : Jvm.MethodName) jdk_31_method_11_code (2 : Nat) (Option.some (Jvm.ClassFile.FieldType.object "java/lang/Object")), Jvm.Cond.code ({ cls := "java/util/ArrayList", name := "<init>", desc := "()V" } : Jvm.MethodName) jdk_38_method_2_code (1 : Nat) (Option.none : Option Jvm.ClassFile.FieldType), Jvm.Cond.code ({ cls := "java/util/AbstractList", name := "<init>", desc := "()V" } : Jvm.MethodName) jdk_39_method_1_code (1 : Nat) (Option.none : Option Jvm.ClassFile.FieldType), Jvm.Cond.code ({ cls := "java/util/AbstractCollection", name := "<init>", desc := "()V" } : Jvm.MethodName) jdk_22_method_1_code (1 : Nat) (Option.none : Option Jvm.ClassFile.FieldType), Jvm.Cond.code ({ cls := "shadowsift/core/ValueSet", name := "range", desc := "(JJ)Lshadowsift/core/ValueSet;" } : Jvm.MethodName) prog_64_method_2_code (4 : Nat) (Option.some (Jvm.ClassFile.FieldType.object "shadowsift/core/ValueSet")), Jvm.Cond.code ({ cls := "shadowsift/core/ValueSet", name := "<init>", desc := "([J[J)V" } : Jvm.MethodName) prog_64_method_1_code (3 : Nat) (Option.none : Option Jvm.ClassFile.FieldType), Jvm.Cond.code ({ cls := "java/util/ArrayList", name := "add", desc := "(Ljava/lang/Object;)Z" } : Jvm.MethodName) jdk_38_method_25_code (2 : Nat) (Option.some Jvm.ClassFile.FieldType.boolean), Jvm.Cond.code ({ cls := "java/util/ArrayList", name := "add", desc := "(Ljava/lang/Object;[Ljava/lang/Object;I)V" } : Jvm.MethodName) jdk_38_method_24_code (4 : Nat) (Option.none : Option Jvm.ClassFile.FieldType), Jvm.Cond.code ({ cls := "java/util/ArrayList", name := "grow", desc := "()[Ljava/lang/Object;" } : Jvm.MethodName) jdk_38_method_7_code (1 : Nat) (Option.some (Jvm.ClassFile.FieldType.array (Jvm.ClassFile.FieldType.object "java/lang/Object"))), Jvm.Cond.code ({ cls := "java/util/ArrayList", name := "grow", desc := "(I)[Ljava/lang/Object;" } : Jvm.MethodName) jdk_38_method_6_code (4 : Nat) (Option.some (Jvm.ClassFile.FieldType.array (Jvm.ClassFile.FieldType.object "java/lang/Object"))), Jvm.Cond.code ({ cls := "java/lang/Math", name := "max", desc := "(II)I" } : Jvm.MethodName) jdk_29_method_65_code (2 : Nat) (Option.some Jvm.ClassFile.FieldType.int), Jvm.Cond.code ({ cls := "shadowsift/core/Box", name := "<init>", desc := "(Ljava/util/List;)V" } : Jvm.MethodName) prog_26_method_1_code (2 : Nat) (Option.none : Option Jvm.ClassFile.FieldType), Jvm.Cond.code ({ cls := "java/util/List", name := "copyOf", desc := "(Ljava/util/Collection;)Ljava/util/List;" } : Jvm.MethodName) jdk_40_method_48_code (1 : Nat) (Option.some (Jvm.ClassFile.FieldType.object "java/util/List")), Jvm.Cond.code ({ cls := "java/util/ImmutableCollections", name := "listCopy", desc := "(Ljava/util/Collection;)Ljava/util/List;" } : Jvm.MethodName) jdk_56_method_3_code (2 : Nat) (Option.some (Jvm.ClassFile.FieldType.object "java/util/List")), Jvm.Cond.code ({ cls := "java/util/ArrayList", name := "isEmpty", desc := "()Z" } : Jvm.MethodName) jdk_38_method_9_code (1 : Nat) (Option.some Jvm.ClassFile.FieldType.boolean), Jvm.Cond.code ({ cls := "java/util/ArrayList", name := "toArray", desc := "()[Ljava/lang/Object;" } : Jvm.MethodName) jdk_38_method_16_code (1 : Nat) (Option.some (Jvm.ClassFile.FieldType.array (Jvm.ClassFile.FieldType.object "java/lang/Object"))), Jvm.Cond.code ({ cls := "java/util/Arrays", name := "copyOf", desc := "([Ljava/lang/Object;I)[Ljava/lang/Object;" } : Jvm.MethodName) jdk_65_method_119_code (2 : Nat) (Option.some (Jvm.ClassFile.FieldType.array (Jvm.ClassFile.FieldType.object "java/lang/Object"))), Jvm.Cond.code ({ cls := "java/util/Arrays", name := "copyOf", desc := "([Ljava/lang/Object;ILjava/lang/Class;)[Ljava/lang/Object;" } : Jvm.MethodName) jdk_65_method_120_code (4 : Nat) (Option.some (Jvm.ClassFile.FieldType.array (Jvm.ClassFile.FieldType.object "java/lang/Object"))), Jvm.Cond.code ({ cls := "java/lang/Math", name := "min", desc := "(II)I" } : Jvm.MethodName) jdk_29_method_69_code (2 : Nat) (Option.some Jvm.ClassFile.FieldType.int), Jvm.Cond.code ({ cls := "java/util/List", name := "of", desc := "([Ljava/lang/Object;)Ljava/util/List;" } : Jvm.MethodName) jdk_40_method_47_code (2 : Nat) (Option.some (Jvm.ClassFile.FieldType.object "java/util/List")), Jvm.Cond.code ({ cls := "java/util/ImmutableCollections$List12", name := "<init>", desc := "(Ljava/lang/Object;Ljava/lang/Object;)V" } : Jvm.MethodName) jdk_44_method_2_code (3 : Nat) (Option.none : Option Jvm.ClassFile.FieldType), Jvm.Cond.code ({ cls := "java/util/ImmutableCollections$AbstractImmutableList", name := "<init>", desc := "()V" } : Jvm.MethodName) jdk_46_method_1_code (1 : Nat) (Option.none : Option Jvm.ClassFile.FieldType), Jvm.Cond.code ({ cls := "java/util/ImmutableCollections$AbstractImmutableCollection", name := "<init>", desc := "()V" } : Jvm.MethodName) jdk_47_method_1_code (1 : Nat) (Option.none : Option Jvm.ClassFile.FieldType), Jvm.Cond.code ({ cls := "java/util/Objects", name := "requireNonNull", desc := "(Ljava/lang/Object;)Ljava/lang/Object;" } : Jvm.MethodName) jdk_31_method_10_code (1 : Nat) (Option.some (Jvm.ClassFile.FieldType.object "java/lang/Object")), Jvm.Cond.code ({ cls := "shadowsift/core/Rule", name := "<init>", desc := "(Lshadowsift/core/Decision;Ljava/util/List;)V" } : Jvm.MethodName) prog_52_method_2_code (3 : Nat) (Option.none : Option Jvm.ClassFile.FieldType), Jvm.Cond.code ({ cls := "java/util/Optional", name := "of", desc := "(Ljava/lang/Object;)Ljava/util/Optional;" } : Jvm.MethodName) jdk_32_method_3_code (1 : Nat) (Option.some (Jvm.ClassFile.FieldType.object "java/util/Optional")), Jvm.Cond.code ({ cls := "java/util/Optional", name := "<init>", desc := "(Ljava/lang/Object;)V" } : Jvm.MethodName) jdk_32_method_2_code (2 : Nat) (Option.none : Option Jvm.ClassFile.FieldType), Jvm.Cond.code ({ cls := "shadowsift/core/Rule", name := "<init>", desc := "(Ljava/util/Optional;Ljava/util/List;Z)V" } : Jvm.MethodName) prog_52_method_1_code (4 : Nat) (Option.none : Option Jvm.ClassFile.FieldType), Jvm.Cond.code ({ cls := "java/util/ImmutableCollections$List12", name := "<init>", desc := "(Ljava/lang/Object;)V" } : Jvm.MethodName) jdk_44_method_1_code (2 : Nat) (Option.none : Option Jvm.ClassFile.FieldType), Jvm.Cond.code ({ cls := "shadowsift/core/Bounds", name := "<init>", desc := "(ILjava/util/List;)V" } : Jvm.MethodName) prog_24_method_1_code (13 : Nat) (Option.none : Option Jvm.ClassFile.FieldType), Jvm.Cond.code ({ cls := "java/util/ArrayList", name := "size", desc := "()I" } : Jvm.MethodName) jdk_38_method_8_code (1 : Nat) (Option.some Jvm.ClassFile.FieldType.int), Jvm.Cond.code ({ cls := "java/util/ArrayList", name := "iterator", desc := "()Ljava/util/Iterator;" } : Jvm.MethodName) jdk_38_method_55_code (1 : Nat) (Option.some (Jvm.ClassFile.FieldType.object "java/util/Iterator")), Jvm.Cond.code ({ cls := "java/util/ArrayList$Itr", name := "<init>", desc := "(Ljava/util/ArrayList;)V" } : Jvm.MethodName) jdk_49_method_1_code (2 : Nat) (Option.none : Option Jvm.ClassFile.FieldType), Jvm.Cond.code ({ cls := "java/util/ArrayList$Itr", name := "hasNext", desc := "()Z" } : Jvm.MethodName) jdk_49_method_2_code (1 : Nat) (Option.some Jvm.ClassFile.FieldType.boolean), Jvm.Cond.code ({ cls := "java/util/ArrayList$Itr", name := "next", desc := "()Ljava/lang/Object;" } : Jvm.MethodName) jdk_49_method_3_code (3 : Nat) (Option.some (Jvm.ClassFile.FieldType.object "java/lang/Object")), Jvm.Cond.code ({ cls := "java/util/ArrayList$Itr", name := "checkForComodification", desc := "()V" } : Jvm.MethodName) jdk_49_method_6_code (1 : Nat) (Option.none : Option Jvm.ClassFile.FieldType), Jvm.Cond.code ({ cls := "shadowsift/core/Rule", name := "match", desc := "()Ljava/util/List;" } : Jvm.MethodName) prog_52_method_10_code (1 : Nat) (Option.some (Jvm.ClassFile.FieldType.object "java/util/List")), Jvm.Cond.code ({ cls := "java/util/ImmutableCollections$AbstractImmutableList", name := "iterator", desc := "()Ljava/util/Iterator;" } : Jvm.MethodName) jdk_46_method_10_code (1 : Nat) (Option.some (Jvm.ClassFile.FieldType.object "java/util/Iterator")), Jvm.Cond.code ({ cls := "java/util/ImmutableCollections$List12", name := "size", desc := "()I" } : Jvm.MethodName) jdk_44_method_3_code (1 : Nat) (Option.some Jvm.ClassFile.FieldType.int), Jvm.Cond.code ({ cls := "java/util/ImmutableCollections$ListItr", name := "<init>", desc := "(Ljava/util/List;I)V" } : Jvm.MethodName) jdk_53_method_1_code (3 : Nat) (Option.none : Option Jvm.ClassFile.FieldType), Jvm.Cond.code ({ cls := "java/util/ImmutableCollections$ListItr", name := "hasNext", desc := "()Z" } : Jvm.MethodName) jdk_53_method_3_code (1 : Nat) (Option.some Jvm.ClassFile.FieldType.boolean), Jvm.Cond.code ({ cls := "java/util/ImmutableCollections$List12", name := "get", desc := "(I)Ljava/lang/Object;" } : Jvm.MethodName) jdk_44_method_5_code (2 : Nat) (Option.some (Jvm.ClassFile.FieldType.object "java/lang/Object")), Jvm.Cond.code ({ cls := "shadowsift/core/Box", name := "sets", desc := "()Ljava/util/List;" } : Jvm.MethodName) prog_26_method_9_code (1 : Nat) (Option.some (Jvm.ClassFile.FieldType.object "java/util/List")), Jvm.Cond.code ({ cls := "shadowsift/core/ValueSet", name := "min", desc := "()J" } : Jvm.MethodName) prog_64_method_10_code (1 : Nat) (Option.some Jvm.ClassFile.FieldType.long), Jvm.Cond.code ({ cls := "shadowsift/core/ValueSet", name := "max", desc := "()J" } : Jvm.MethodName) prog_64_method_11_code (1 : Nat) (Option.some Jvm.ClassFile.FieldType.long), Jvm.Cond.code ({ cls := "shadowsift/core/BoundsMeetPinLaw", name := "overlap", desc := "(JJJJ)Z" } : Jvm.MethodName) method_4_code (8 : Nat) (Option.some Jvm.ClassFile.FieldType.boolean), Jvm.Cond.code ({ cls := "shadowsift/core/Bounds", name := "meet", desc := "(II)Z" } : Jvm.MethodName) prog_24_method_2_code (6 : Nat) (Option.some Jvm.ClassFile.FieldType.boolean), Jvm.Cond.code ({ cls := "java/util/List", name := "of", desc := "()Ljava/util/List;" } : Jvm.MethodName) jdk_40_method_36_code (0 : Nat) (Option.some (Jvm.ClassFile.FieldType.object "java/util/List")), Jvm.Cond.code ({ cls := "java/util/ImmutableCollections$ListN", name := "size", desc := "()I" } : Jvm.MethodName) jdk_45_method_3_code (1 : Nat) (Option.some Jvm.ClassFile.FieldType.int)]
set_option maxRecDepth 65536 in
theorem codes_eq : words1.filter isCode = codes1 := rfl
theorem w_codes : ∀ c ∈ words1.filter isCode, c.before args0 about1 = true := by
  rw [codes_eq]
  intro c hc
  simp only [codes1, List.mem_cons, List.not_mem_nil, or_false] at hc
  rcases hc with rfl | rfl | rfl | rfl | rfl | rfl | rfl | rfl | rfl | rfl | rfl | rfl | rfl | rfl | rfl | rfl | rfl | rfl | rfl | rfl | rfl | rfl | rfl | rfl | rfl | rfl | rfl | rfl | rfl | rfl | rfl | rfl | rfl | rfl | rfl | rfl | rfl | rfl | rfl | rfl | rfl | rfl | rfl | rfl | rfl | rfl | rfl | rfl | rfl | rfl | rfl | rfl | rfl | rfl | rfl | rfl | rfl
  · exact w_c0
  · exact w_c1
  · exact w_c2
  · exact w_c3
  · exact w_c4
  · exact w_c5
  · exact w_c6
  · exact w_c7
  · exact w_c8
  · exact w_c9
  · exact w_c10
  · exact w_c11
  · exact w_c12
  · exact w_c13
  · exact w_c14
  · exact w_c15
  · exact w_c16
  · exact w_c17
  · exact w_c18
  · exact w_c19
  · exact w_c20
  · exact w_c21
  · exact w_c22
  · exact w_c23
  · exact w_c24
  · exact w_c25
  · exact w_c26
  · exact w_c27
  · exact w_c28
  · exact w_c29
  · exact w_c30
  · exact w_c31
  · exact w_c32
  · exact w_c33
  · exact w_c34
  · exact w_c35
  · exact w_c36
  · exact w_c37
  · exact w_c38
  · exact w_c39
  · exact w_c40
  · exact w_c41
  · exact w_c42
  · exact w_c43
  · exact w_c44
  · exact w_c45
  · exact w_c46
  · exact w_c47
  · exact w_c48
  · exact w_c49
  · exact w_c50
  · exact w_c51
  · exact w_c52
  · exact w_c53
  · exact w_c54
  · exact w_c55
  · exact w_c56
set_option maxRecDepth 65536 in
theorem w_t1 : (words1.take 24).all (fun c => isCode c || c.before args0 about1) = true := by decide +kernel
set_option maxRecDepth 65536 in
theorem w_t2 : ((words1.drop 24).take 24).all (fun c => isCode c || c.before args0 about1) = true := by decide +kernel
set_option maxRecDepth 65536 in
theorem w_t3 : (((words1.drop 24).drop 24).take 24).all (fun c => isCode c || c.before args0 about1) = true := by decide +kernel
set_option maxRecDepth 65536 in
theorem w_t4 : ((((words1.drop 24).drop 24).drop 24).take 24).all (fun c => isCode c || c.before args0 about1) = true := by decide +kernel
set_option maxRecDepth 65536 in
theorem w_t5 : (((((words1.drop 24).drop 24).drop 24).drop 24).take 24).all (fun c => isCode c || c.before args0 about1) = true := by decide +kernel
set_option maxRecDepth 65536 in
theorem w_t6 : ((((((words1.drop 24).drop 24).drop 24).drop 24).drop 24).take 24).all (fun c => isCode c || c.before args0 about1) = true := by decide +kernel
set_option maxRecDepth 65536 in
theorem w_t7 : (((((((words1.drop 24).drop 24).drop 24).drop 24).drop 24).drop 24).take 24).all (fun c => isCode c || c.before args0 about1) = true := by decide +kernel
set_option maxRecDepth 65536 in
theorem w_t8 : ((((((((words1.drop 24).drop 24).drop 24).drop 24).drop 24).drop 24).drop 24).take 24).all (fun c => isCode c || c.before args0 about1) = true := by decide +kernel
set_option maxRecDepth 65536 in
theorem w_t9 : (((((((((words1.drop 24).drop 24).drop 24).drop 24).drop 24).drop 24).drop 24).drop 24).take 24).all (fun c => isCode c || c.before args0 about1) = true := by decide +kernel
set_option maxRecDepth 65536 in
theorem w_t10 : ((((((((((words1.drop 24).drop 24).drop 24).drop 24).drop 24).drop 24).drop 24).drop 24).drop 24).take 24).all (fun c => isCode c || c.before args0 about1) = true := by decide +kernel
set_option maxRecDepth 65536 in
theorem w_t11 : (((((((((((words1.drop 24).drop 24).drop 24).drop 24).drop 24).drop 24).drop 24).drop 24).drop 24).drop 24).take 24).all (fun c => isCode c || c.before args0 about1) = true := by decide +kernel
set_option maxRecDepth 65536 in
theorem w_t12 : ((((((((((((words1.drop 24).drop 24).drop 24).drop 24).drop 24).drop 24).drop 24).drop 24).drop 24).drop 24).drop 24).take 24).all (fun c => isCode c || c.before args0 about1) = true := by decide +kernel
set_option maxRecDepth 65536 in
theorem w_t13 : (((((((((((((words1.drop 24).drop 24).drop 24).drop 24).drop 24).drop 24).drop 24).drop 24).drop 24).drop 24).drop 24).drop 24).take 24).all (fun c => isCode c || c.before args0 about1) = true := by decide +kernel
set_option maxRecDepth 65536 in
theorem w_t14 : ((((((((((((((words1.drop 24).drop 24).drop 24).drop 24).drop 24).drop 24).drop 24).drop 24).drop 24).drop 24).drop 24).drop 24).drop 24).take 24).all (fun c => isCode c || c.before args0 about1) = true := by decide +kernel
set_option maxRecDepth 65536 in
theorem w_t15 : (((((((((((((((words1.drop 24).drop 24).drop 24).drop 24).drop 24).drop 24).drop 24).drop 24).drop 24).drop 24).drop 24).drop 24).drop 24).drop 24).take 24).all (fun c => isCode c || c.before args0 about1) = true := by decide +kernel
set_option maxRecDepth 65536 in
theorem w_t16 : ((((((((((((((((words1.drop 24).drop 24).drop 24).drop 24).drop 24).drop 24).drop 24).drop 24).drop 24).drop 24).drop 24).drop 24).drop 24).drop 24).drop 24).take 24).all (fun c => isCode c || c.before args0 about1) = true := by decide +kernel
set_option maxRecDepth 65536 in
theorem w_t17 : (((((((((((((((((words1.drop 24).drop 24).drop 24).drop 24).drop 24).drop 24).drop 24).drop 24).drop 24).drop 24).drop 24).drop 24).drop 24).drop 24).drop 24).drop 24).take 24).all (fun c => isCode c || c.before args0 about1) = true := by decide +kernel
set_option maxRecDepth 65536 in
theorem w_t18 : (((((((((((((((((words1.drop 24).drop 24).drop 24).drop 24).drop 24).drop 24).drop 24).drop 24).drop 24).drop 24).drop 24).drop 24).drop 24).drop 24).drop 24).drop 24).drop 24).all (fun c => isCode c || c.before args0 about1) = true := by decide +kernel
theorem w_tables : (allAtoms (Jvm.Cond.code x code maxLocals ret :: tables_1)).before args0 about1 = true := by
  rw [allAtoms_all]
  show words1.all (fun c => c.before args0 about1) = true
  refine all_split ?_ w_codes
  rw [← List.take_append_drop 24 words1, List.all_append, w_t1, ← List.take_append_drop 24 (words1.drop 24), List.all_append, w_t2, ← List.take_append_drop 24 ((words1.drop 24).drop 24), List.all_append, w_t3, ← List.take_append_drop 24 (((words1.drop 24).drop 24).drop 24), List.all_append, w_t4, ← List.take_append_drop 24 ((((words1.drop 24).drop 24).drop 24).drop 24), List.all_append, w_t5, ← List.take_append_drop 24 (((((words1.drop 24).drop 24).drop 24).drop 24).drop 24), List.all_append, w_t6, ← List.take_append_drop 24 ((((((words1.drop 24).drop 24).drop 24).drop 24).drop 24).drop 24), List.all_append, w_t7, ← List.take_append_drop 24 (((((((words1.drop 24).drop 24).drop 24).drop 24).drop 24).drop 24).drop 24), List.all_append, w_t8, ← List.take_append_drop 24 ((((((((words1.drop 24).drop 24).drop 24).drop 24).drop 24).drop 24).drop 24).drop 24), List.all_append, w_t9, ← List.take_append_drop 24 (((((((((words1.drop 24).drop 24).drop 24).drop 24).drop 24).drop 24).drop 24).drop 24).drop 24), List.all_append, w_t10, ← List.take_append_drop 24 ((((((((((words1.drop 24).drop 24).drop 24).drop 24).drop 24).drop 24).drop 24).drop 24).drop 24).drop 24), List.all_append, w_t11, ← List.take_append_drop 24 (((((((((((words1.drop 24).drop 24).drop 24).drop 24).drop 24).drop 24).drop 24).drop 24).drop 24).drop 24).drop 24), List.all_append, w_t12, ← List.take_append_drop 24 ((((((((((((words1.drop 24).drop 24).drop 24).drop 24).drop 24).drop 24).drop 24).drop 24).drop 24).drop 24).drop 24).drop 24), List.all_append, w_t13, ← List.take_append_drop 24 (((((((((((((words1.drop 24).drop 24).drop 24).drop 24).drop 24).drop 24).drop 24).drop 24).drop 24).drop 24).drop 24).drop 24).drop 24), List.all_append, w_t14, ← List.take_append_drop 24 ((((((((((((((words1.drop 24).drop 24).drop 24).drop 24).drop 24).drop 24).drop 24).drop 24).drop 24).drop 24).drop 24).drop 24).drop 24).drop 24), List.all_append, w_t15, ← List.take_append_drop 24 (((((((((((((((words1.drop 24).drop 24).drop 24).drop 24).drop 24).drop 24).drop 24).drop 24).drop 24).drop 24).drop 24).drop 24).drop 24).drop 24).drop 24), List.all_append, w_t16, ← List.take_append_drop 24 ((((((((((((((((words1.drop 24).drop 24).drop 24).drop 24).drop 24).drop 24).drop 24).drop 24).drop 24).drop 24).drop 24).drop 24).drop 24).drop 24).drop 24).drop 24), List.all_append, w_t17, w_t18]
  rfl
set_option maxRecDepth 65536 in
theorem w_rest : rest_1_c.before args0 about1 = true := by decide +kernel
set_option maxRecDepth 65536 in
theorem w_case : (Jvm.Cond.and given_1 narrow_1).before args0 about1 = true := by decide +kernel
theorem w_applies : (headSpec (Jvm.Cond.code x code maxLocals ret :: tables_1) room_1).applies x e0.platform about1 = true :=
  (Spec.applies_iff w_frames).mpr ⟨w_running, w_runnable, w_alone, w_named, w_hears, w_ripe, w_room, w_tables⟩
theorem atStart : AtStart classFile x code maxLocals ret World_1 tables_1 room_1 Calls_1 rest_1 Pre_1 launch0 p0 e0 about1 theMethod args0 below0 :=
  ⟨lists_1, trivial, launch0.admits_env _ _ _, launch0.least_env, fairChoices_fair.cas, fairChoices_fair.clock, w_frames, w_args, w_heap, w_applies, ⟨⟨44, k44, 2, by decide +kernel, rfl, rfl, _, rfl, rfl⟩, trivial⟩, w_rest, w_case⟩
end start1
theorem witness_1 : WitnessClaimed_1 := ⟨start1.p0, start1.e0, start1.about1, start1.theMethod, start1.args0, start1.below0, start1.atStart⟩
end Jvm.Pilot.@@N@@
