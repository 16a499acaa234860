import JvmDerived
import JvmDerived.Pilot.@@N@@Statement
import JvmDerived.Pilot.@@N@@Code
set_option linter.unusedVariables false
set_option linter.unusedSimpArgs false
namespace Jvm.Pilot.@@N@@
open Jvm Jvm.ClassFile Sem Op Lib Jvm.Free Jvm.Stand Jvm.LawKit Jvm.RoadKit Bundle Jvm.Pilot.@@N@@.Jvm.D
abbrev mn0 : MethodName := ⟨"java/util/AbstractCollection", "<init>", "()V"⟩
abbrev mn1 : MethodName := ⟨"com/example/lithe_checker/lithechecker/c/CType", "<init>", "()V"⟩
abbrev mn2 : MethodName := ⟨"java/util/ImmutableCollections$AbstractImmutableCollection", "<init>", "()V"⟩
abbrev mn3 : MethodName := ⟨"java/util/ImmutableCollections$AbstractImmutableList", "<init>", "()V"⟩
abbrev mn4 : MethodName := ⟨"java/lang/Math", "max", "(II)I"⟩
abbrev mn5 : MethodName := ⟨"java/lang/Math", "min", "(II)I"⟩
abbrev mn6 : MethodName := ⟨"java/util/AbstractList", "<init>", "()V"⟩
abbrev mn7 : MethodName := ⟨"java/util/ArrayList", "<init>", "()V"⟩
abbrev mn8 : MethodName := ⟨"java/util/ArrayList", "grow", "(I)[Ljava/lang/Object;"⟩
abbrev mn9 : MethodName := ⟨"java/util/ArrayList", "grow", "()[Ljava/lang/Object;"⟩
abbrev mn10 : MethodName := ⟨"java/util/ArrayList", "add", "(Ljava/lang/Object;[Ljava/lang/Object;I)V"⟩
abbrev mn11 : MethodName := ⟨"java/util/ArrayList", "add", "(Ljava/lang/Object;)Z"⟩
abbrev mn12 : MethodName := ⟨"java/util/ArrayList", "isEmpty", "()Z"⟩
abbrev mn13 : MethodName := ⟨"java/util/Arrays", "copyOf", "([Ljava/lang/Object;ILjava/lang/Class;)[Ljava/lang/Object;"⟩
abbrev mn14 : MethodName := ⟨"java/util/Arrays", "copyOf", "([Ljava/lang/Object;I)[Ljava/lang/Object;"⟩
abbrev mn15 : MethodName := ⟨"java/util/ArrayList", "toArray", "()[Ljava/lang/Object;"⟩
abbrev mn16 : MethodName := ⟨"java/util/Objects", "requireNonNull", "(Ljava/lang/Object;)Ljava/lang/Object;"⟩
abbrev mn17 : MethodName := ⟨"java/util/ImmutableCollections$List12", "<init>", "(Ljava/lang/Object;)V"⟩
abbrev mn18 : MethodName := ⟨"java/util/ImmutableCollections$List12", "<init>", "(Ljava/lang/Object;Ljava/lang/Object;)V"⟩
abbrev mn19 : MethodName := ⟨"java/util/ImmutableCollections$ListN", "<init>", "([Ljava/lang/Object;Z)V"⟩
abbrev mn20 : MethodName := ⟨"java/util/ImmutableCollections$ListN", "size", "()I"⟩
abbrev mn21 : MethodName := ⟨"java/util/ImmutableCollections$List12", "size", "()I"⟩
abbrev mn22 : MethodName := ⟨"java/util/ImmutableCollections", "listFromArray", "([Ljava/lang/Object;)Ljava/util/List;"⟩
abbrev mn23 : MethodName := ⟨"java/util/List", "of", "([Ljava/lang/Object;)Ljava/util/List;"⟩
abbrev mn24 : MethodName := ⟨"java/util/ImmutableCollections", "listCopy", "(Ljava/util/Collection;)Ljava/util/List;"⟩
abbrev mn25 : MethodName := ⟨"java/util/Collection", "isEmpty", "()Z"⟩
abbrev mn26 : MethodName := ⟨"java/util/Collection", "toArray", "()[Ljava/lang/Object;"⟩
abbrev mn27 : MethodName := ⟨"java/util/List", "copyOf", "(Ljava/util/Collection;)Ljava/util/List;"⟩
abbrev mn28 : MethodName := ⟨"java/util/List", "of", "()Ljava/util/List;"⟩
abbrev mn29 : MethodName := ⟨"com/example/lithe_checker/lithechecker/c/CType$StructType", "<init>", "(ZLjava/lang/String;)V"⟩
abbrev mn30 : MethodName := ⟨"com/example/lithe_checker/lithechecker/c/CType$StructType", "isComplete", "()Z"⟩
abbrev mn31 : MethodName := ⟨"com/example/lithe_checker/lithechecker/c/CType$StructType", "members", "()Ljava/util/List;"⟩
abbrev mn32 : MethodName := ⟨"com/example/lithe_checker/lithechecker/c/CType$StructType", "complete", "(Ljava/util/List;)V"⟩
abbrev mn33 : MethodName := ⟨"java/lang/StringUTF16", "compress", "([CI[BII)I"⟩
abbrev mn34 : MethodName := ⟨"java/lang/StringUTF16", "compress", "([CII)[B"⟩
abbrev mn35 : MethodName := ⟨"java/lang/StringUTF16", "coderFromArrayLen", "([BI)B"⟩
abbrev mn36 : MethodName := ⟨"java/lang/String", "<init>", "([CIILjava/lang/Void;)V"⟩
abbrev mn37 : MethodName := ⟨"java/lang/String", "<init>", "([C)V"⟩
abbrev mn38 : MethodName := ⟨"java/lang/StringLatin1", "canEncode", "(C)Z"⟩
abbrev mn39 : MethodName := ⟨"java/lang/StringLatin1", "toBytes", "(C)[B"⟩
abbrev mn40 : MethodName := ⟨"java/lang/String", "<init>", "([BB)V"⟩
abbrev mn41 : MethodName := ⟨"java/lang/String", "valueOf", "(C)Ljava/lang/String;"⟩
abbrev mn42 : MethodName := ⟨"com/example/lithe_checker/lithechecker/c/CType$Member", "<init>", "(Ljava/lang/String;Lcom/example/lithe_checker/lithechecker/c/CType;)V"⟩
abbrev mn43 : MethodName := ⟨"java/util/List", "size", "()I"⟩
/-- places of a frame's locals, in short -/
abbrev Iv (x : Int32) : Slot := .val (.int x)
abbrev Jv (x : Int64) : Slot := .val (.long x)
abbrev Rv (a : Addr) : Slot := .val (.ref a)
abbrev Nv : Slot := .val .null
abbrev Uv : Slot := .unset
abbrev Sv : Slot := .second
/-- the table words hold at Z -/
abbrev own_W (a0 : Array Value) (Z : State) : Prop := ∀ d ∈ tables_1, d.before a0 Z = true
/-- a table word by its number -/
theorem own_g {a0 : Array Value} {Z : State} (hw : ∀ d ∈ tables_1, d.before a0 Z = true) (i : Nat) {d : Jvm.Cond} (h : tables_1[i]? = some d := by rfl) : d.before a0 Z = true := hw _ (List.mem_of_getElem? h)
/-- .. and at a state whose tables are warmer -/
theorem own_m {a0 args : Array Value} {Z s : State} (hZ : Z.Warmed39 s.vm) (hw : ∀ d ∈ tables_1, d.before a0 Z = true) (i : Nat) {d : Jvm.Cond} (h : tables_1[i]? = some d := by rfl) (hd : (d.onTables && d.keepsFace) = true := by first | rfl | simp [Jvm.Cond.onTables, Jvm.Cond.keepsFace, Jvm.Cond.keeps, Jvm.Cond.steady]) : d.before args s = true := mvT hZ (hw _ (List.mem_of_getElem? h)) hd
theorem own_z {n W : Nat} (h : n = W) : 2 * 0 + n ≤ W := by omega
section Own
variable {p : Program} {l : Launch} {e : Env} {R : Room} {s : State} {m : MethodId} {args : Array Value} {below : List Frame} {meth : Method} {c : Code} {T T' : State} {locs : List Loc} {cells slots : Nat}
/-- from T with the frame f on top the method comes to its end; what it returns, the heap and the places written answer Q; at most C cells and N slots are new -/
def own_Fin (p : Program) (e : Env) (below : List Frame) (s : State) (C N : Nat) (Q : Option Value → Heap → List Loc → Prop) (T : State) (f : JFrame) : Prop :=
  ∃ s₂ o, Steps p.tables e below (T.setTop f) s₂ ∧ s₂.status = .running ∧ Ended s₂ below o ∧ ∃ v L, o = .returned v ∧ Q v s₂.heap L ∧ FrameEnd s o s₂ L C N
variable {C N : Nat} {Q : Option Value → Heap → List Loc → Prop} {f f' : JFrame}
theorem own_by (h : ∀ t, Steps p.tables e below (T'.setTop f') t → Steps p.tables e below (T.setTop f) t) (k : own_Fin p e below s C N Q T' f') : own_Fin p e below s C N Q T f := by
  obtain ⟨s2, o, h1, h2⟩ := k
  exact ⟨s2, o, h _ h1, h2⟩
theorem own_start (q : f = f') (k : own_Fin p e below s C N Q T f') : ∃ s₂ o, Steps p.tables e below (T.setTop f) s₂ ∧ s₂.status = .running ∧ Ended s₂ below o ∧ ∃ v L, o = .returned v ∧ Q v s₂.heap L ∧ FrameEnd s o s₂ L C N := by
  subst q; exact k
theorem own_leaf (X : Stand p l e R s m args below meth c T locs cells slots) (hlk : meth.locks = false) {v : Option Value} (hv : meth.sig.returnType = none → v = none)
    (hs : ∀ fs, (∀ (f : JFrame) (acts : List Action), f.method = m → f.locked = none → f.entered = [] → (doReturn e (T.setTop f) acts v).1 = T.setFrames fs) → Steps p.tables e below (T.setTop f) (T.setFrames fs))
    (hQ : Q v T.heap locs) (hc : cells ≤ C) (hn : slots ≤ N) : own_Fin p e below s C N Q T f := by
  obtain ⟨fs, hr, hrun, hended, hW, hsame⟩ := X.leave (v := v) hv hlk
  exact ⟨_, _, hs fs hr, hrun, hended, _, _, rfl, hQ, ⟨_, rfl⟩, hW, hsame.mono hc hn⟩
theorem own_retV (X : Stand p l e R s m args below meth c T locs cells slots) (hx : p.tables.exec = Jvm.exec) (hlk : meth.locks = false) {pc : Nat} {Ls : Array Slot} (hret : meth.sig.returnType = none) (hd : decode c.code pc = .ok (.return_, 1))
    (hQ : Q none T.heap locs) (hc : cells ≤ C) (hn : slots ≤ N) : own_Fin p e below s C N Q T (mkF m pc Ls []) :=
  own_leaf X hlk (fun _ => rfl) (fun fs hr => X.returnOut hx hret hd hr) hQ hc hn
theorem own_retZ (X : Stand p l e R s m args below meth c T locs cells slots) (hx : p.tables.exec = Jvm.exec) (hlk : meth.locks = false) {pc : Nat} {Ls : Array Slot} {z : Int32} {t : FieldType} {rest : List Value} (hret : meth.sig.returnType = some t) (ht : t = .boolean ∨ t = .byte ∨ t = .char ∨ t = .short) (hd : decode c.code pc = .ok (.ireturn, 1))
    (hQ : Q (some (.int (nar t z))) T.heap locs) (hc : cells ≤ C) (hn : slots ≤ N) : own_Fin p e below s C N Q T (mkF m pc Ls (.int z :: rest)) :=
  own_leaf X hlk (fun h => by rw [hret] at h; cases h) (fun fs hr => retN X hx hret ht hd hr) hQ hc hn
theorem own_retO (X : Stand p l e R s m args below meth c T locs cells slots) (hx : p.tables.exec = Jvm.exec) (hlk : meth.locks = false) {pc : Nat} {Ls : Array Slot} {w : Value} {t : FieldType} {i : Instr} {rest : List Value} (hret : meth.sig.returnType = some t) (hn' : narrow t w = w)
    (hi : (i = .ireturn ∧ (t = .int ∨ t = .boolean ∨ t = .byte ∨ t = .char ∨ t = .short) ∧ ∃ z, w = .int z) ∨ (i = .lreturn ∧ t = .long ∧ ∃ z, w = .long z) ∨ (i = .dreturn ∧ t = .double ∧ ∃ z, w = .double z) ∨ (i = .freturn ∧ t = .float ∧ ∃ z, w = .float z) ∨ (i = .areturn ∧ t.isReference = true ∧ w.isRef = true))
    (hd : decode c.code pc = .ok (i, 1)) (hQ : Q (some w) T.heap locs) (hc : cells ≤ C) (hn : slots ≤ N) : own_Fin p e below s C N Q T (mkF m pc Ls (w :: rest)) :=
  own_leaf X hlk (fun h => by rw [hret] at h; cases h) (fun fs hr => retOut X hx hret hn' hi hd hr) hQ hc hn
theorem own_retI (X : Stand p l e R s m args below meth c T locs cells slots) (hx : p.tables.exec = Jvm.exec) (hlk : meth.locks = false) {pc : Nat} {Ls : Array Slot} {z : Int32} {rest : List Value} (hret : meth.sig.returnType = some .int) (hd : decode c.code pc = .ok (.ireturn, 1))
    (hQ : Q (some (.int z)) T.heap locs) (hc : cells ≤ C) (hn : slots ≤ N) : own_Fin p e below s C N Q T (mkF m pc Ls (.int z :: rest)) :=
  own_retO X hx hlk hret rfl (Or.inl ⟨rfl, Or.inl rfl, _, rfl⟩) hd hQ hc hn
theorem own_retJ (X : Stand p l e R s m args below meth c T locs cells slots) (hx : p.tables.exec = Jvm.exec) (hlk : meth.locks = false) {pc : Nat} {Ls : Array Slot} {z : Int64} {rest : List Value} (hret : meth.sig.returnType = some .long) (hd : decode c.code pc = .ok (.lreturn, 1))
    (hQ : Q (some (.long z)) T.heap locs) (hc : cells ≤ C) (hn : slots ≤ N) : own_Fin p e below s C N Q T (mkF m pc Ls (.long z :: rest)) :=
  own_retO X hx hlk hret rfl (Or.inr (Or.inl ⟨rfl, rfl, _, rfl⟩)) hd hQ hc hn
theorem own_retA (X : Stand p l e R s m args below meth c T locs cells slots) (hx : p.tables.exec = Jvm.exec) (hlk : meth.locks = false) {pc : Nat} {Ls : Array Slot} {w : Value} {t : FieldType} {rest : List Value} (hret : meth.sig.returnType = some t) (hr : t.isReference = true) (hn' : narrow t w = w) (hw : w.isRef = true) (hd : decode c.code pc = .ok (.areturn, 1))
    (hQ : Q (some w) T.heap locs) (hc : cells ≤ C) (hn : slots ≤ N) : own_Fin p e below s C N Q T (mkF m pc Ls (w :: rest)) :=
  own_retO X hx hlk hret hn' (Or.inr (Or.inr (Or.inr (Or.inr ⟨rfl, hr, hw⟩)))) hd hQ hc hn
theorem own_mvM {Z : State} {a0 : Array Value} {own host : String} {y : MethodName} {index : Nat} (hZ : Z.Warmed39 s.vm) (w : (Jvm.Cond.methodLinkNest own index y host).before a0 Z = true) : (Jvm.Cond.methodLinkNest own index y host).before args s = true := (Jvm.Cond.methodLinkNest_wide hZ w :)
/-- a room by its four numbers -/
abbrev own_R (f c s l : Nat) : Room := { frames := f, cells := c, slots := s, locals := l }
/-- the contract's form: called with A at a heap h0 it returns, and Q holds of what it returns, the heap and the places written -/
abbrev own_Met (l : Launch) (Z : State) (y : MethodName) (code : ByteArray) (ml : Nat) (ret : Option FieldType) (ws : List Jvm.Cond) (R : Room) (A : Array Value) (h0 : Heap) (Q : Option Value → Heap → List Loc → Prop) : Prop :=
  MetFree l y (head1 (Jvm.Cond.code y code ml ret :: ws) R) (fun a U => a = A ∧ Z.Warmed39 U.vm ∧ U.heap = h0) (fun _ _ _ _ _ => True) (fun _ U o U' => ∃ v L, o = .returned v ∧ Q v U'.heap L ∧ FrameEnd U o U' L R.cells R.slots)
theorem own_enter {Z : State} {y : MethodName} {code : ByteArray} {ml : Nat} {ret : Option FieldType} {ws : List Jvm.Cond} {A : Array Value} {h0 : Heap} {f0 : MethodId → JFrame} (n0 : Nat) (hpl : plainFor y = true) (hef : ∀ m, entryFrame m A ml = f0 m)
    (H : ∀ (p : Program) (e : Env) (s : State) (m : MethodId) (below : List Frame) (meth : Method) (c : Code) (s₁ : State), p.tables.exec = Jvm.exec → c.code = code → meth.locks = false → c.maxLocals = ml → meth.sig.returnType = ret → s.vm.findClass y.cls = some m.cls → meth.name = y.name →
      Z.Warmed39 s.vm → Stand p l e R s m A below meth c s₁ [] 0 0 → s₁.heap = h0 → Fr n0 [] → own_Fin p e below s R.cells R.slots Q s₁ (f0 m)) : own_Met l Z y code ml ret ws R A h0 Q := by
  refine MetFree.of_bodySF hpl hisR ?_
  intro p e s m args below meth c s₁ Bd hml hP _
  obtain ⟨rfl, hZ, hh⟩ := hP
  have q := H p e s m below meth c s₁ Bd.exec Bd.bytes Bd.notSynchronized hml Bd.returns (findClass_of_methodNamed Bd.named) (name_of_methodNamed Bd.named Bd.method).1 hZ (Stand.of_body Bd) (by rw [← hh, Bd.state]; rfl) (Fr.nil n0)
  rw [hef m]
  exact q
end Own
section OwnM
variable {p : Program} {l : Launch} {e : Env} {R : Room} {s : State} {m : MethodId} {args : Array Value} {below : List Frame} {meth : Method} {c : Code} {T : State} {locs : List Loc} {cells slots : Nat} {Z : State} {a0 : Array Value} {h : Heap}
theorem own_ldcM (X : Stand p l e R s m args below meth c T locs cells slots) (hx : p.tables.exec = Jvm.exec) (hZ : Z.Warmed39 s.vm) {own C : String} {index : Nat} (hown : s.vm.findClass own = some m.cls) (w : (Jvm.Cond.classLink own index C).before a0 Z = true) (eT : T.heap = h) {mr : Addr} (M : Mir Z C mr)
    {g : JFrame} (hg : g.method = m) (hd : decode c.code g.pc = .ok (.ldc index, 2)) : ∃ T', Stand p l e R s m args below meth c T' locs cells slots ∧ T'.heap = h ∧ ∀ target, Steps p.tables e below (T'.setTop { g with pc := g.pc + 2, stack := .ref mr :: g.stack }) target → Steps p.tables e below (T.setTop g) target := by
  obtain ⟨cc, kc, m1, m2, m3, -⟩ := M
  obtain ⟨k', q, ek⟩ := hZ.alike.2.2 _ _ m2
  have f : s.vm.findClass C = some cc := by rw [hZ.alike.findClass]; exact m1
  have e3 : k'.mirror = some mr := by rw [ek]; exact m3
  have hev : (Term.mirror C).eval args s none [] s = some (.ref mr) := by simp [Term.eval, f, q, e3]
  obtain ⟨vm', X', st⟩ := X.ldcMirror hx hown (mv hZ w) hev hg hd
  exact ⟨_, X', eT, st⟩
/-- A, three superclasses above her, the last one none: A is not a K -/
theorem own_not4 {A B D O K : String} {n : Nat} (w1 : (Jvm.Cond.superclass A B).before a0 Z = true) (w2 : (Jvm.Cond.superclass B D).before a0 Z = true) (w3 : (Jvm.Cond.superclass D O).before a0 Z = true) (w4 : (Jvm.Cond.noSuperclass O).before a0 Z = true) (wi : (Jvm.Cond.instantiable K n).before a0 Z = true)
    (hA : A ≠ K) (hB : B ≠ K) (hD : D ≠ K) (hO : O ≠ K) : ∃ c t, Z.vm.findClass A = some c ∧ Z.vm.findClass K = some t ∧ Z.vm.assignable c t = false := by
  obtain ⟨t, kt, t1, t2, t3, t4, -⟩ := Cond.instantiable_spec wi
  have nO : NS Z O K := by
    obtain ⟨c, k, h1, h2, h3, -, -⟩ := Cond.noSuperclass_spec w4
    have ne := ids_ne h1 t1 hO
    refine ⟨c, t, h1, t1, fun fuel => ?_⟩
    cases fuel with
    | zero => rfl
    | succ f => simp [Vm.isSubclassAux, ne, h2, h3]
  have nA : NS Z A K := NS.step w1 (NS.step w2 (NS.step w3 nO hD) hB) hA
  obtain ⟨c, t', h0, g0, n3⟩ := nA
  cases t1.symm.trans g0
  obtain ⟨p, k, kp, h1, h2, h3, h4, h5, -, h7⟩ := Cond.superclass_spec h0 w1
  have ne := ids_ne h0 t1 hA
  have t5 : kt.isInterface = false := by
    cases hi : kt.isInterface with
    | false => rfl
    | true => rw [hi] at t4; simp at t4
  refine ⟨c, t, h0, t1, ?_⟩
  show Z.vm.assignableAux (255 + 1) c t = false
  simp [Vm.assignableAux, ne, h2, t2, h5, t3, t5, Vm.isSubclass, n3]
end OwnM
theorem own_vi {a b : Int32} (h : a = b) : some (Value.int a) = some (Value.int b) := h ▸ rfl
theorem own_b8 (x : Int32) : x.toInt8.toInt32.toInt8.toInt32 = x.toInt8.toInt32 := by
  apply Int32.toInt_inj.mp
  have a := c_i2b x
  have b := c_i2b x.toInt8.toInt32
  omega

def own_Env (Z : State) (cs : Int32) (da el ea em ci mm : Addr) (kd ke : ClassId) : Prop := Sta Z Z.heap "java/lang/String" "COMPACT_STRINGS" "Z" (.int cs) ∧ ¬ cs = (0 : Int32) ∧ Sta Z Z.heap "java/util/ArrayList" "DEFAULTCAPACITY_EMPTY_ELEMENTDATA" "[Ljava/lang/Object;" (.ref da) ∧ Arv Z Z.heap da kd (.object "java/lang/Object") (0 : Int32) [] .null ∧ Sta Z Z.heap "java/util/ImmutableCollections" "EMPTY_LIST" "Ljava/util/ImmutableCollections$ListN;" (.ref el) ∧ Exa Z Z.heap el "java/util/ImmutableCollections$ListN" ∧ Fld Z Z.heap el "java/util/ImmutableCollections$ListN" "elements" "[Ljava/lang/Object;" (.ref ea) ∧ Arv Z Z.heap ea ke (.object "java/lang/Object") (0 : Int32) [] .null ∧ Sta Z Z.heap "java/util/ImmutableCollections" "EMPTY" "Ljava/lang/Object;" (.ref em) ∧ Exa Z Z.heap em "java/lang/Object" ∧ Sta Z Z.heap "com/example/lithe_checker/lithechecker/c/CType" "INT" "Lcom/example/lithe_checker/lithechecker/c/CType$IntegerType;" (.ref ci) ∧ Exa Z Z.heap ci "com/example/lithe_checker/lithechecker/c/CType$IntegerType" ∧ Mir Z "[Ljava/lang/Object;" mm
theorem own_lat (x : Int32) : ¬ (255 : Int32) < (x &&& (255 : Int32)).toUInt32.toUInt16.toUInt32.toInt32 := by
  have m := c_mask x 255 8 (by decide) (by decide)
  have q := c_i2c (x &&& 255)
  have k : (255 : Int32).toInt = 255 := by decide
  rw [Int32.lt_iff_toInt_lt]
  simp only [Nat.reducePow] at m
  omega
theorem own_n4 (x : Int32) : ((x.toUInt32 >>> ((2 : Int32) &&& 31).toUInt32).toInt32 &&& (3 : Int32)) = 0 ∨ ((x.toUInt32 >>> ((2 : Int32) &&& 31).toUInt32).toInt32 &&& (3 : Int32)) = 1 ∨ ((x.toUInt32 >>> ((2 : Int32) &&& 31).toUInt32).toInt32 &&& (3 : Int32)) = 2 ∨ ((x.toUInt32 >>> ((2 : Int32) &&& 31).toUInt32).toInt32 &&& (3 : Int32)) = 3 := by
  generalize (x.toUInt32 >>> ((2 : Int32) &&& 31).toUInt32).toInt32 = y
  have m := c_mask y 3 2 (by decide) (by decide)
  generalize y &&& (3 : Int32) = z at m ⊢
  simp only [Nat.reducePow] at m
  simp only [← Int32.toInt_inj]
  have k0 : (0 : Int32).toInt = 0 := by decide
  have k1 : (1 : Int32).toInt = 1 := by decide
  have k2 : (2 : Int32).toInt = 2 := by decide
  have k3 : (3 : Int32).toInt = 3 := by decide
  omega
theorem own_pn1 : plainName "java/util/AbstractCollection" = true := by first | (simp [plainName, overriddenIn]; done) | decide +kernel
theorem d7_0 : decode jdk_22_method_1_code 0 = .ok (.aload_n 0, 1) := by decide +kernel
theorem d7_1 : decode jdk_22_method_1_code 1 = .ok (.invokespecial 1, 3) := by decide +kernel
theorem d7_4 : decode jdk_22_method_1_code 4 = .ok (.return_, 1) := by decide +kernel
theorem ef_R_1 (m : MethodId) (x0 : Addr) : entryFrame m #[(.ref x0)] 1 = mkF m 0 #[.val (.ref x0)] [] := by first | (simp [entryFrame, mkF, argsToLocals, Value.category]; done) | rfl
def own_Qv (h0 : Heap) (n0 : Nat) (v : Option Value) (h : Heap) (L : List Loc) : Prop := v = none ∧ Fr n0 L ∧ h = h0
theorem rmAC (l : Launch) (Z : State) (a0 : Array Value) (hw : own_W a0 Z) (ws : List Jvm.Cond) (a1 : Addr) (h0 : Heap) (n0 : Nat) (Z0 : n0 ≤ h0.size)  : own_Met l Z mn0 jdk_22_method_1_code 1 none ws (own_R 1 0 0 12) #[(.ref a1)] h0 (own_Qv h0 n0) := by
  refine own_enter n0 (plainFor_of_name own_pn1) (fun m => ef_R_1 m a1 ) (fun p e s m below meth c s₁ hx hby hlk hml hret hown hnm hZ X0 e0 N0 => ?_)
  show own_Fin _ _ _ _ _ _ _ s₁ (mkF m 0 #[Rv a1] [])
  obtain ⟨T1, X1, e1, st1⟩ := initO X0 hx hZ hown (own_g hw 44) (own_g hw 13) (own_g hw 14) e0 (g := (mkF m 1 #[Rv a1] [(.ref a1)])) rfl (by rw [hml]; rfl) rfl (hb hby d7_1) (by decide) (W := 0) (own_z rfl) (by decide)
  refine own_by (fun _ k => XS.aloadN X0.here hx rfl (hb hby d7_0) rfl rfl (st1 _ k)) ?_
  exact own_retV X1 hx hlk hret (hb hby d7_4) ⟨rfl, N0, e1⟩ (by decide) (by decide)
theorem own_pn5 : plainName "com/example/lithe_checker/lithechecker/c/CType" = true := by first | (simp [plainName, overriddenIn]; done) | decide +kernel
theorem d2_0 : decode prog_5_method_1_code 0 = .ok (.aload_n 0, 1) := by decide +kernel
theorem d2_1 : decode prog_5_method_1_code 1 = .ok (.invokespecial 1, 3) := by decide +kernel
theorem d2_4 : decode prog_5_method_1_code 4 = .ok (.return_, 1) := by decide +kernel
theorem rmCT (l : Launch) (Z : State) (a0 : Array Value) (hw : own_W a0 Z) (ws : List Jvm.Cond) (a1 : Addr) (h0 : Heap) (n0 : Nat) (Z0 : n0 ≤ h0.size)  : own_Met l Z mn1 prog_5_method_1_code 1 none ws (own_R 1 0 0 12) #[(.ref a1)] h0 (own_Qv h0 n0) := by
  refine own_enter n0 (plainFor_of_name own_pn5) (fun m => ef_R_1 m a1 ) (fun p e s m below meth c s₁ hx hby hlk hml hret hown hnm hZ X0 e0 N0 => ?_)
  show own_Fin _ _ _ _ _ _ _ s₁ (mkF m 0 #[Rv a1] [])
  obtain ⟨T2, X2, e2, st2⟩ := initO X0 hx hZ hown (own_g hw 12) (own_g hw 13) (own_g hw 14) e0 (g := (mkF m 1 #[Rv a1] [(.ref a1)])) rfl (by rw [hml]; rfl) rfl (hb hby d2_1) (by decide) (W := 0) (own_z rfl) (by decide)
  refine own_by (fun _ k => XS.aloadN X0.here hx rfl (hb hby d2_0) rfl rfl (st2 _ k)) ?_
  exact own_retV X2 hx hlk hret (hb hby d2_4) ⟨rfl, N0, e2⟩ (by decide) (by decide)
theorem own_pn9 : plainName "java/util/ImmutableCollections$AbstractImmutableCollection" = true := by first | (simp [plainName, overriddenIn]; done) | decide +kernel
theorem d32_0 : decode jdk_47_method_1_code 0 = .ok (.aload_n 0, 1) := by decide +kernel
theorem d32_1 : decode jdk_47_method_1_code 1 = .ok (.invokespecial 1, 3) := by decide +kernel
theorem own_pd12 : parseMethodDescriptor "()V" = some ⟨[], none⟩ := by decide +kernel
theorem d32_4 : decode jdk_47_method_1_code 4 = .ok (.return_, 1) := by decide +kernel
theorem rmIC (l : Launch) (Z : State) (a0 : Array Value) (hw : own_W a0 Z) (ws : List Jvm.Cond) (a1 : Addr) (h0 : Heap) (n0 : Nat) (Z0 : n0 ≤ h0.size)  : own_Met l Z mn2 jdk_47_method_1_code 1 none ws (own_R 2 0 0 24) #[(.ref a1)] h0 (own_Qv h0 n0) := by
  refine own_enter n0 (plainFor_of_name own_pn9) (fun m => ef_R_1 m a1 ) (fun p e s m below meth c s₁ hx hby hlk hml hret hown hnm hZ X0 e0 N0 => ?_)
  show own_Fin _ _ _ _ _ _ _ s₁ (mkF m 0 #[Rv a1] [])
  obtain ⟨_, _, ⟨T3, L3, k3, n3⟩, -, X3, ⟨Lc3, hQ3, l3, y3, z3⟩, st3⟩ := X0.specialBack hx (y := mn0) rfl hown (own_m hZ hw 219) (own_m hZ hw 39) (own_m hZ hw 43) (by decide) (backOf (W := 0) (rmAC l Z a0 hw [] a1 h0 n0 Z0 ) hZ (own_g hw 43) (own_g hw 42) (by decide) (by decide)) (g := (mkF m 1 #[Rv a1] [(.ref a1)])) rfl (by rw [hml]; rfl) (Steps.refl _) (a := a1) (argsL := []) (rest := []) (lenOf own_pd12 rfl) rfl (own_z rfl) (hb hby d32_1) (fun _ _ => ⟨rfl, e0, (by decide : 0 + 0 ≤ _), (by decide : 0 + 0 ≤ _)⟩)
  dsimp only [Pt.U, Pt.locs, Pt.cells, Pt.slots] at X3 l3 y3 z3 st3 hQ3
  subst l3 y3 z3
  obtain ⟨rfl, Nq3, eh3⟩ := hQ3
  have N3 := Fr.app N0 Nq3
  refine own_by (fun _ k => XS.aloadN X0.here hx rfl (hb hby d32_0) rfl rfl (st3.trans k)) ?_
  exact own_retV X3 hx hlk hret (hb hby d32_4) ⟨rfl, N3, eh3⟩ (by decide) (by decide)
theorem own_pn14 : plainName "java/util/ImmutableCollections$AbstractImmutableList" = true := by first | (simp [plainName, overriddenIn]; done) | decide +kernel
theorem d31_0 : decode jdk_46_method_1_code 0 = .ok (.aload_n 0, 1) := by decide +kernel
theorem d31_1 : decode jdk_46_method_1_code 1 = .ok (.invokespecial 1, 3) := by decide +kernel
theorem d31_4 : decode jdk_46_method_1_code 4 = .ok (.return_, 1) := by decide +kernel
theorem rmIL (l : Launch) (Z : State) (a0 : Array Value) (hw : own_W a0 Z) (ws : List Jvm.Cond) (a1 : Addr) (h0 : Heap) (n0 : Nat) (Z0 : n0 ≤ h0.size)  : own_Met l Z mn3 jdk_46_method_1_code 1 none ws (own_R 3 0 0 36) #[(.ref a1)] h0 (own_Qv h0 n0) := by
  refine own_enter n0 (plainFor_of_name own_pn14) (fun m => ef_R_1 m a1 ) (fun p e s m below meth c s₁ hx hby hlk hml hret hown hnm hZ X0 e0 N0 => ?_)
  show own_Fin _ _ _ _ _ _ _ s₁ (mkF m 0 #[Rv a1] [])
  obtain ⟨_, _, ⟨T4, L4, k4, n4⟩, -, X4, ⟨Lc4, hQ4, l4, y4, z4⟩, st4⟩ := X0.specialBack hx (y := mn2) rfl hown (own_m hZ hw 213) (own_m hZ hw 214) (own_m hZ hw 218) (by decide) (backOf (W := 0) (rmIC l Z a0 hw [] a1 h0 n0 Z0 ) hZ (own_g hw 218) (own_g hw 217) (by decide) (by decide)) (g := (mkF m 1 #[Rv a1] [(.ref a1)])) rfl (by rw [hml]; rfl) (Steps.refl _) (a := a1) (argsL := []) (rest := []) (lenOf own_pd12 rfl) rfl (own_z rfl) (hb hby d31_1) (fun _ _ => ⟨rfl, e0, (by decide : 0 + 0 ≤ _), (by decide : 0 + 0 ≤ _)⟩)
  dsimp only [Pt.U, Pt.locs, Pt.cells, Pt.slots] at X4 l4 y4 z4 st4 hQ4
  subst l4 y4 z4
  obtain ⟨rfl, Nq4, eh4⟩ := hQ4
  have N4 := Fr.app N0 Nq4
  refine own_by (fun _ k => XS.aloadN X0.here hx rfl (hb hby d31_0) rfl rfl (st4.trans k)) ?_
  exact own_retV X4 hx hlk hret (hb hby d31_4) ⟨rfl, N4, eh4⟩ (by decide) (by decide)
theorem d24_0 : decode jdk_29_method_65_code 0 = .ok (.iload_n 0, 1) := by decide +kernel
theorem d24_1 : decode jdk_29_method_65_code 1 = .ok (.iload_n 1, 1) := by decide +kernel
theorem d24_2 : decode jdk_29_method_65_code 2 = .ok (.if_icmp .lt 7, 3) := by decide +kernel
theorem d24_5 : decode jdk_29_method_65_code 5 = .ok (.iload_n 0, 1) := by decide +kernel
theorem d24_6 : decode jdk_29_method_65_code 6 = .ok (.goto 4, 3) := by decide +kernel
theorem d24_10 : decode jdk_29_method_65_code 10 = .ok (.ireturn, 1) := by decide +kernel
theorem ef_II_2 (m : MethodId) (x0 : Int32) (x1 : Int32) : entryFrame m #[(.int x0), (.int x1)] 2 = mkF m 0 #[.val (.int x0), .val (.int x1)] [] := by first | (simp [entryFrame, mkF, argsToLocals, Value.category]; done) | rfl
def own_Qrmmax_10_1 (h0 : Heap) (n0 : Nat) (v : Option Value) (h : Heap) (L : List Loc) : Prop := v = some (.int (10 : Int32)) ∧ Fr n0 L ∧ h = h0
theorem rmmax_10_1 (l : Launch) (Z : State) (a0 : Array Value) (hw : own_W a0 Z) (ws : List Jvm.Cond)  (h0 : Heap) (n0 : Nat) (Z0 : n0 ≤ h0.size)  : own_Met l Z mn4 jdk_29_method_65_code 2 (some .int) ws (own_R 0 0 0 0) #[(.int (10 : Int32)), (.int (1 : Int32))] h0 (own_Qrmmax_10_1 h0 n0) := by
  refine own_enter n0 (by decide +kernel) (fun m => ef_II_2 m (10 : Int32) (1 : Int32) ) (fun p e s m below meth c s₁ hx hby hlk hml hret hown hnm hZ X0 e0 N0 => ?_)
  show own_Fin _ _ _ _ _ _ _ s₁ (mkF m 0 #[Iv 10, Iv 1] [])
  refine own_by (fun _ k => XS.iloadN X0.here hx rfl (hb hby d24_0) rfl (XS.iloadN X0.here hx rfl (hb hby d24_1) rfl (XS.icmpNo X0.here hx rfl (hb hby d24_2) rfl (flt (by decide : ¬ ((10 : Int32) < (1 : Int32)))).1 (XS.iloadN X0.here hx rfl (hb hby d24_5) rfl (XS.goto X0.here hx rfl (pc0 := 6) (pc' := 10) rfl (hb hby d24_6) (by decide) (by decide) k))))) ?_
  exact own_retI X0 hx hlk hret (hb hby d24_10) ⟨rfl, N0, e0⟩ (by decide) (by decide)
theorem d28_0 : decode jdk_29_method_69_code 0 = .ok (.iload_n 0, 1) := by decide +kernel
theorem d28_1 : decode jdk_29_method_69_code 1 = .ok (.iload_n 1, 1) := by decide +kernel
theorem d28_2 : decode jdk_29_method_69_code 2 = .ok (.if_icmp .gt 7, 3) := by decide +kernel
theorem d28_9 : decode jdk_29_method_69_code 9 = .ok (.iload_n 1, 1) := by decide +kernel
theorem d28_10 : decode jdk_29_method_69_code 10 = .ok (.ireturn, 1) := by decide +kernel
def own_Qrmmin_10_1 (h0 : Heap) (n0 : Nat) (v : Option Value) (h : Heap) (L : List Loc) : Prop := v = some (.int (1 : Int32)) ∧ Fr n0 L ∧ h = h0
theorem rmmin_10_1 (l : Launch) (Z : State) (a0 : Array Value) (hw : own_W a0 Z) (ws : List Jvm.Cond)  (h0 : Heap) (n0 : Nat) (Z0 : n0 ≤ h0.size)  : own_Met l Z mn5 jdk_29_method_69_code 2 (some .int) ws (own_R 0 0 0 0) #[(.int (10 : Int32)), (.int (1 : Int32))] h0 (own_Qrmmin_10_1 h0 n0) := by
  refine own_enter n0 (by decide +kernel) (fun m => ef_II_2 m (10 : Int32) (1 : Int32) ) (fun p e s m below meth c s₁ hx hby hlk hml hret hown hnm hZ X0 e0 N0 => ?_)
  show own_Fin _ _ _ _ _ _ _ s₁ (mkF m 0 #[Iv 10, Iv 1] [])
  refine own_by (fun _ k => XS.iloadN X0.here hx rfl (hb hby d28_0) rfl (XS.iloadN X0.here hx rfl (hb hby d28_1) rfl (XS.icmpYes X0.here hx rfl (pc0 := 2) (pc' := 9) rfl (hb hby d28_2) rfl (tlt (by decide : (1 : Int32) < (10 : Int32))).2.2.1 (by decide) (by decide) (XS.iloadN X0.here hx rfl (hb hby d28_9) rfl k)))) ?_
  exact own_retI X0 hx hlk hret (hb hby d28_10) ⟨rfl, N0, e0⟩ (by decide) (by decide)
def own_Qrmmin_10_2 (h0 : Heap) (n0 : Nat) (v : Option Value) (h : Heap) (L : List Loc) : Prop := v = some (.int (2 : Int32)) ∧ Fr n0 L ∧ h = h0
theorem rmmin_10_2 (l : Launch) (Z : State) (a0 : Array Value) (hw : own_W a0 Z) (ws : List Jvm.Cond)  (h0 : Heap) (n0 : Nat) (Z0 : n0 ≤ h0.size)  : own_Met l Z mn5 jdk_29_method_69_code 2 (some .int) ws (own_R 0 0 0 0) #[(.int (10 : Int32)), (.int (2 : Int32))] h0 (own_Qrmmin_10_2 h0 n0) := by
  refine own_enter n0 (by decide +kernel) (fun m => ef_II_2 m (10 : Int32) (2 : Int32) ) (fun p e s m below meth c s₁ hx hby hlk hml hret hown hnm hZ X0 e0 N0 => ?_)
  show own_Fin _ _ _ _ _ _ _ s₁ (mkF m 0 #[Iv 10, Iv 2] [])
  refine own_by (fun _ k => XS.iloadN X0.here hx rfl (hb hby d28_0) rfl (XS.iloadN X0.here hx rfl (hb hby d28_1) rfl (XS.icmpYes X0.here hx rfl (pc0 := 2) (pc' := 9) rfl (hb hby d28_2) rfl (tlt (by decide : (2 : Int32) < (10 : Int32))).2.2.1 (by decide) (by decide) (XS.iloadN X0.here hx rfl (hb hby d28_9) rfl k)))) ?_
  exact own_retI X0 hx hlk hret (hb hby d28_10) ⟨rfl, N0, e0⟩ (by decide) (by decide)
def own_Qrmmin_10_3 (h0 : Heap) (n0 : Nat) (v : Option Value) (h : Heap) (L : List Loc) : Prop := v = some (.int (3 : Int32)) ∧ Fr n0 L ∧ h = h0
theorem rmmin_10_3 (l : Launch) (Z : State) (a0 : Array Value) (hw : own_W a0 Z) (ws : List Jvm.Cond)  (h0 : Heap) (n0 : Nat) (Z0 : n0 ≤ h0.size)  : own_Met l Z mn5 jdk_29_method_69_code 2 (some .int) ws (own_R 0 0 0 0) #[(.int (10 : Int32)), (.int (3 : Int32))] h0 (own_Qrmmin_10_3 h0 n0) := by
  refine own_enter n0 (by decide +kernel) (fun m => ef_II_2 m (10 : Int32) (3 : Int32) ) (fun p e s m below meth c s₁ hx hby hlk hml hret hown hnm hZ X0 e0 N0 => ?_)
  show own_Fin _ _ _ _ _ _ _ s₁ (mkF m 0 #[Iv 10, Iv 3] [])
  refine own_by (fun _ k => XS.iloadN X0.here hx rfl (hb hby d28_0) rfl (XS.iloadN X0.here hx rfl (hb hby d28_1) rfl (XS.icmpYes X0.here hx rfl (pc0 := 2) (pc' := 9) rfl (hb hby d28_2) rfl (tlt (by decide : (3 : Int32) < (10 : Int32))).2.2.1 (by decide) (by decide) (XS.iloadN X0.here hx rfl (hb hby d28_9) rfl k)))) ?_
  exact own_retI X0 hx hlk hret (hb hby d28_10) ⟨rfl, N0, e0⟩ (by decide) (by decide)
theorem own_pn30 : plainName "java/util/AbstractList" = true := by first | (simp [plainName, overriddenIn]; done) | decide +kernel
theorem d6_0 : decode jdk_39_method_1_code 0 = .ok (.aload_n 0, 1) := by decide +kernel
theorem d6_1 : decode jdk_39_method_1_code 1 = .ok (.invokespecial 1, 3) := by decide +kernel
theorem d6_4 : decode jdk_39_method_1_code 4 = .ok (.aload_n 0, 1) := by decide +kernel
theorem d6_5 : decode jdk_39_method_1_code 5 = .ok (.iconst 0, 1) := by decide +kernel
theorem d6_6 : decode jdk_39_method_1_code 6 = .ok (.putfield 7, 3) := by decide +kernel
theorem d6_9 : decode jdk_39_method_1_code 9 = .ok (.return_, 1) := by decide +kernel
def own_QBL (Z : State) (a1 : Addr) (h0 : Heap) (n0 : Nat) (v : Option Value) (h : Heap) (L : List Loc) : Prop := v = none ∧ Fr n0 L ∧ Keep h0 h [a1] ∧ Fld Z h a1 "java/util/AbstractList" "modCount" "I" (.int (0 : Int32)) ∧ Fld Z h a1 "java/util/ArrayList" "elementData" "[Ljava/lang/Object;" .null ∧ Fld Z h a1 "java/util/ArrayList" "size" "I" (.int (0 : Int32))
theorem rmBL (l : Launch) (Z : State) (a0 : Array Value) (hw : own_W a0 Z) (ws : List Jvm.Cond) (a1 : Addr) (h0 : Heap) (n0 : Nat) (Z0 : n0 ≤ h0.size) (E_a1 : Exa Z h0 a1 "java/util/ArrayList") (F_m : Fld Z h0 a1 "java/util/AbstractList" "modCount" "I" (.int (0 : Int32))) (F_e : Fld Z h0 a1 "java/util/ArrayList" "elementData" "[Ljava/lang/Object;" .null) (F_s : Fld Z h0 a1 "java/util/ArrayList" "size" "I" (.int (0 : Int32))) (g_1 : n0 ≤ a1) : own_Met l Z mn6 jdk_39_method_1_code 1 none ws (own_R 2 0 0 24) #[(.ref a1)] h0 (own_QBL Z a1 h0 n0) := by
  refine own_enter n0 (plainFor_of_name own_pn30) (fun m => ef_R_1 m a1 ) (fun p e s m below meth c s₁ hx hby hlk hml hret hown hnm hZ X0 e0 N0 => ?_)
  show own_Fin _ _ _ _ _ _ _ s₁ (mkF m 0 #[Rv a1] [])
  have Kp5 : Keep h0 h0 [a1] := Keep.refl h0 _
  obtain ⟨_, _, ⟨T6, L6, k6, n6⟩, -, X6, ⟨Lc6, hQ6, l6, y6, z6⟩, st6⟩ := X0.specialBack hx (y := mn0) rfl hown (own_m hZ hw 38) (own_m hZ hw 39) (own_m hZ hw 43) (by decide) (backOf (W := 0) (rmAC l Z a0 hw [] a1 h0 n0 Z0 ) hZ (own_g hw 43) (own_g hw 42) (by decide) (by decide)) (g := (mkF m 1 #[Rv a1] [(.ref a1)])) rfl (by rw [hml]; rfl) (Steps.refl _) (a := a1) (argsL := []) (rest := []) (lenOf own_pd12 rfl) rfl (own_z rfl) (hb hby d6_1) (fun _ _ => ⟨rfl, e0, (by decide : 0 + 0 ≤ _), (by decide : 0 + 0 ≤ _)⟩)
  dsimp only [Pt.U, Pt.locs, Pt.cells, Pt.slots] at X6 l6 y6 z6 st6 hQ6
  subst l6 y6 z6
  obtain ⟨rfl, Nq6, eh6⟩ := hQ6
  have N6 := Fr.app N0 Nq6
  obtain ⟨T7, h7, X7, e7, W7, st7⟩ := putF X6 hx hZ hown (host := "") (Or.inl (own_g hw 45)) Via.refl eh6 F_m E_a1 (Or.inl (own_g hw 46)) (own_g hw 27) (ty := .int) (by decide) rfl rfl (g := (mkF m 6 #[Rv a1] [(.int 0), (.ref a1)])) rfl rfl (hb hby d6_6)
  have Fw7 : Fld Z h7 a1 "java/util/AbstractList" "modCount" "I" (.int (0 : Int32)) := F_m.same W7
  have Kp7 : Keep h0 h7 [a1] := Kp5.wr W7 (Or.inl (List.mem_of_getElem? (i := 0) rfl))
  have Zs7 : n0 ≤ h7.size := Nat.le_trans Z0 (Keep.of_wr W7).1
  have N7 := Fr.snoc X7 N6 g_1
  have f8_0 : Exa Z h7 a1 "java/util/ArrayList" := E_a1.wr W7
  have f8_2 : Fld Z h7 a1 "java/util/ArrayList" "elementData" "[Ljava/lang/Object;" .null := F_e.other W7 (Or.inr (slot_ne (Or.inl (own_g hw 49)) (Or.inl (own_g hw 46)) (by decide) (t := (.array (.object "java/lang/Object"))) (t' := .int) (by decide) (by decide)))
  have f8_3 : Fld Z h7 a1 "java/util/ArrayList" "size" "I" (.int (0 : Int32)) := F_s.other W7 (Or.inr (slot_ne (Or.inl (own_g hw 79)) (Or.inl (own_g hw 46)) (by decide) (t := .int) (t' := .int) (by decide) (by decide)))
  refine own_by (fun _ k => XS.aloadN X0.here hx rfl (hb hby d6_0) rfl rfl (st6.trans (XS.aloadN X6.here hx rfl (hb hby d6_4) rfl rfl (XS.iconst X6.here hx rfl (hb hby d6_5) (st7 _ k))))) ?_
  exact own_retV X7 hx hlk hret (hb hby d6_9) (by rw [e7]; exact ⟨rfl, N7, Kp7, Fw7, f8_2, f8_3⟩) (by decide) (by decide)
theorem own_pn37 : plainName "java/util/ArrayList" = true := by first | (simp [plainName, overriddenIn]; done) | decide +kernel
theorem d5_0 : decode jdk_38_method_2_code 0 = .ok (.aload_n 0, 1) := by decide +kernel
theorem d5_1 : decode jdk_38_method_2_code 1 = .ok (.invokespecial 1, 3) := by decide +kernel
theorem d5_4 : decode jdk_38_method_2_code 4 = .ok (.aload_n 0, 1) := by decide +kernel
theorem d5_5 : decode jdk_38_method_2_code 5 = .ok (.getstatic 39, 3) := by decide +kernel
theorem d5_8 : decode jdk_38_method_2_code 8 = .ok (.putfield 9, 3) := by decide +kernel
theorem d5_11 : decode jdk_38_method_2_code 11 = .ok (.return_, 1) := by decide +kernel
def own_QALI (Z : State) (da a1 : Addr) (h0 : Heap) (n0 : Nat) (v : Option Value) (h : Heap) (L : List Loc) : Prop := v = none ∧ Fr n0 L ∧ Keep h0 h [a1] ∧ Fld Z h a1 "java/util/AbstractList" "modCount" "I" (.int (0 : Int32)) ∧ Fld Z h a1 "java/util/ArrayList" "elementData" "[Ljava/lang/Object;" (.ref da) ∧ Fld Z h a1 "java/util/ArrayList" "size" "I" (.int (0 : Int32))
theorem rmALI (l : Launch) (Z : State) (a0 : Array Value) (hw : own_W a0 Z) (ws : List Jvm.Cond) (cs : Int32) (da el ea em ci mm : Addr) (kd ke : ClassId) (a1 : Addr) (h0 : Heap) (n0 : Nat) (Z0 : n0 ≤ h0.size) (V_env : own_Env Z cs da el ea em ci mm kd ke) (Od : Old Z n0 h0) (E_a1 : Exa Z h0 a1 "java/util/ArrayList") (F_m : Fld Z h0 a1 "java/util/AbstractList" "modCount" "I" (.int (0 : Int32))) (F_e : Fld Z h0 a1 "java/util/ArrayList" "elementData" "[Ljava/lang/Object;" .null) (F_s : Fld Z h0 a1 "java/util/ArrayList" "size" "I" (.int (0 : Int32))) (g_1 : n0 ≤ a1) : own_Met l Z mn7 jdk_38_method_2_code 1 none ws (own_R 3 0 0 36) #[(.ref a1)] h0 (own_QALI Z da a1 h0 n0) := by
  refine own_enter n0 (plainFor_of_name own_pn37) (fun m => ef_R_1 m a1 ) (fun p e s m below meth c s₁ hx hby hlk hml hret hown hnm hZ X0 e0 N0 => ?_)
  show own_Fin _ _ _ _ _ _ _ s₁ (mkF m 0 #[Rv a1] [])
  have Kp9 : Keep h0 h0 [a1] := Keep.refl h0 _
  obtain ⟨_, _, ⟨T10, L10, k10, n10⟩, -, X10, ⟨Lc10, hQ10, l10, y10, z10⟩, st10⟩ := X0.specialBack hx (y := mn6) rfl hown (own_m hZ hw 32) (own_m hZ hw 33) (own_m hZ hw 37) (by decide) (backOf (W := 0) (rmBL l Z a0 hw [] a1 h0 n0 Z0 E_a1 F_m F_e F_s g_1) hZ (own_g hw 37) (own_g hw 36) (by decide) (by decide)) (g := (mkF m 1 #[Rv a1] [(.ref a1)])) rfl (by rw [hml]; rfl) (Steps.refl _) (a := a1) (argsL := []) (rest := []) (lenOf own_pd12 rfl) rfl (own_z rfl) (hb hby d5_1) (fun _ _ => ⟨rfl, e0, (by decide : 0 + 0 ≤ _), (by decide : 0 + 0 ≤ _)⟩)
  dsimp only [Pt.U, Pt.locs, Pt.cells, Pt.slots] at X10 l10 y10 z10 st10 hQ10
  subst l10 y10 z10
  obtain ⟨rfl, Nq10, K10, Gm10, Ge10, Gs10⟩ := hQ10
  have N10 := Fr.app N0 Nq10
  have Zs10 : n0 ≤ T10.heap.size := Nat.le_trans Z0 K10.1
  have Kp10 : Keep h0 T10.heap [a1] := Kp9.trans K10 (allS (Or.inl (List.mem_of_getElem? (i := 0) rfl)) all0)
  have f11_0 : Old Z n0 T10.heap := Od.keep K10 (allS g_1 all0)
  have f11_1 : Exa Z T10.heap a1 "java/util/ArrayList" := E_a1.keep K10
  obtain ⟨T12, X12, e12, st12⟩ := getS2 X10 hx hZ hown (host := "") (Or.inl (own_g hw 47)) Via.refl rfl (V_env.2.2.1.ext f11_0.2) (g := (mkF m 5 #[Rv a1] [(.ref a1)])) rfl (hb hby d5_5)
  obtain ⟨T13, h13, X13, e13, W13, st13⟩ := putF X12 hx hZ hown (host := "") (Or.inl (own_g hw 48)) Via.refl e12 Ge10 f11_1 (Or.inl (own_g hw 49)) (own_g hw 27) (ty := (.array (.object "java/lang/Object"))) (by decide) rfl rfl (g := (mkF m 8 #[Rv a1] [(.ref da), (.ref a1)])) rfl rfl (hb hby d5_8)
  have Fw13 : Fld Z h13 a1 "java/util/ArrayList" "elementData" "[Ljava/lang/Object;" (.ref da) := Ge10.same W13
  have Kp13 : Keep h0 h13 [a1] := Kp10.wr W13 (Or.inl (List.mem_of_getElem? (i := 0) rfl))
  have Zs13 : n0 ≤ h13.size := Nat.le_trans Zs10 (Keep.of_wr W13).1
  have N13 := Fr.snoc X13 N10 g_1
  have f14_0 : Old Z n0 h13 := f11_0.wr W13 g_1
  have f14_1 : Exa Z h13 a1 "java/util/ArrayList" := f11_1.wr W13
  have f14_2 : Fld Z h13 a1 "java/util/AbstractList" "modCount" "I" (.int (0 : Int32)) := Gm10.other W13 (Or.inr (slot_ne (Or.inl (own_g hw 46)) (Or.inl (own_g hw 49)) (by decide) (t := .int) (t' := (.array (.object "java/lang/Object"))) (by decide) (by decide)))
  have f14_4 : Fld Z h13 a1 "java/util/ArrayList" "size" "I" (.int (0 : Int32)) := Gs10.other W13 (Or.inr (slot_ne (Or.inl (own_g hw 79)) (Or.inl (own_g hw 49)) (by decide) (t := .int) (t' := (.array (.object "java/lang/Object"))) (by decide) (by decide)))
  refine own_by (fun _ k => XS.aloadN X0.here hx rfl (hb hby d5_0) rfl rfl (st10.trans (XS.aloadN X10.here hx rfl (hb hby d5_4) rfl rfl (st12 _ (st13 _ k))))) ?_
  exact own_retV X13 hx hlk hret (hb hby d5_11) (by rw [e13]; exact ⟨rfl, N13, Kp13, f14_2, Fw13, f14_4⟩) (by decide) (by decide)
theorem d23_0 : decode jdk_38_method_6_code 0 = .ok (.aload_n 0, 1) := by decide +kernel
theorem d23_1 : decode jdk_38_method_6_code 1 = .ok (.getfield 9, 3) := by decide +kernel
theorem d23_4 : decode jdk_38_method_6_code 4 = .ok (.arraylength, 1) := by decide +kernel
theorem d23_5 : decode jdk_38_method_6_code 5 = .ok (.istore_n 2, 1) := by decide +kernel
theorem d23_6 : decode jdk_38_method_6_code 6 = .ok (.iload_n 2, 1) := by decide +kernel
theorem d23_7 : decode jdk_38_method_6_code 7 = .ok (.ifCond .gt 13, 3) := by decide +kernel
theorem d23_10 : decode jdk_38_method_6_code 10 = .ok (.aload_n 0, 1) := by decide +kernel
theorem d23_11 : decode jdk_38_method_6_code 11 = .ok (.getfield 9, 3) := by decide +kernel
theorem d23_14 : decode jdk_38_method_6_code 14 = .ok (.getstatic 39, 3) := by decide +kernel
theorem d23_17 : decode jdk_38_method_6_code 17 = .ok (.if_acmp .eq 28, 3) := by decide +kernel
theorem d23_45 : decode jdk_38_method_6_code 45 = .ok (.aload_n 0, 1) := by decide +kernel
theorem d23_46 : decode jdk_38_method_6_code 46 = .ok (.bipush 10, 2) := by decide +kernel
theorem d23_48 : decode jdk_38_method_6_code 48 = .ok (.iload_n 1, 1) := by decide +kernel
theorem d23_49 : decode jdk_38_method_6_code 49 = .ok (.invokestatic 79, 3) := by decide +kernel
theorem own_pd59 : parseMethodDescriptor "(II)I" = some ⟨[.int, .int], some .int⟩ := by decide +kernel
theorem d23_52 : decode jdk_38_method_6_code 52 = .ok (.anewarray 7, 3) := by decide +kernel
theorem d23_55 : decode jdk_38_method_6_code 55 = .ok (.dup_x1, 1) := by decide +kernel
theorem d23_56 : decode jdk_38_method_6_code 56 = .ok (.putfield 9, 3) := by decide +kernel
theorem d23_59 : decode jdk_38_method_6_code 59 = .ok (.areturn, 1) := by decide +kernel
theorem ef_RI_4 (m : MethodId) (x0 : Addr) (x1 : Int32) : entryFrame m #[(.ref x0), (.int x1)] 4 = mkF m 0 #[.val (.ref x0), .val (.int x1), .unset, .unset] [] := by first | (simp [entryFrame, mkF, argsToLocals, Value.category]; done) | rfl
def own_QGI (Z : State) (a1 : Addr) (mc : Int32) (h0 : Heap) (n0 : Nat) (v : Option Value) (h : Heap) (L : List Loc) : Prop := ∃ (b : Addr) (k : ClassId), v = some (.ref b) ∧ Fr n0 L ∧ Keep h0 h [a1] ∧ h0.size ≤ b ∧ Fld Z h a1 "java/util/AbstractList" "modCount" "I" (.int mc) ∧ Fld Z h a1 "java/util/ArrayList" "elementData" "[Ljava/lang/Object;" (.ref b) ∧ Fld Z h a1 "java/util/ArrayList" "size" "I" (.int (0 : Int32)) ∧ Arv Z h b k (.object "java/lang/Object") (10 : Int32) [.null, .null, .null, .null, .null, .null, .null, .null, .null, .null] .null ∧ Exa Z h b "[Ljava/lang/Object;" ∧ Ovr Z k "java/lang/Object"
set_option maxRecDepth 65536 in
set_option maxHeartbeats 40000000 in
theorem rmGI (l : Launch) (Z : State) (a0 : Array Value) (hw : own_W a0 Z) (ws : List Jvm.Cond) (cs : Int32) (da el ea em ci mm : Addr) (kd ke : ClassId) (a1 : Addr) (mc : Int32) (h0 : Heap) (n0 : Nat) (Z0 : n0 ≤ h0.size) (V_env : own_Env Z cs da el ea em ci mm kd ke) (Od : Old Z n0 h0) (E_a1 : Exa Z h0 a1 "java/util/ArrayList") (F_m : Fld Z h0 a1 "java/util/AbstractList" "modCount" "I" (.int mc)) (F_e : Fld Z h0 a1 "java/util/ArrayList" "elementData" "[Ljava/lang/Object;" (.ref da)) (F_s : Fld Z h0 a1 "java/util/ArrayList" "size" "I" (.int (0 : Int32))) (g_1 : n0 ≤ a1) : own_Met l Z mn8 jdk_38_method_6_code 4 (some (.array (.object "java/lang/Object"))) ws (own_R 1 1 10 17) #[(.ref a1), (.int (1 : Int32))] h0 (own_QGI Z a1 mc h0 n0) := by
  refine own_enter n0 (plainFor_of_name own_pn37) (fun m => ef_RI_4 m a1 (1 : Int32) ) (fun p e s m below meth c s₁ hx hby hlk hml hret hown hnm hZ X0 e0 N0 => ?_)
  show own_Fin _ _ _ _ _ _ _ s₁ (mkF m 0 #[Rv a1, Iv 1, Uv, Uv] [])
  have ne1d : a1 ≠ da := (Old.ne Od V_env.2.2.2.1.lt g_1).symm
  have Kp15 : Keep h0 h0 [a1] := Keep.refl h0 _
  obtain ⟨T16, X16, e16, st16⟩ := getF X0 hx hZ hown (host := "") (Or.inl (own_g hw 48)) Via.refl e0 F_e (g := (mkF m 1 #[Rv a1, Iv 1, Uv, Uv] [(.ref a1)])) rfl rfl (hb hby d23_1)
  obtain ⟨cl17, Ar17, -, S17, M17, -, -⟩ := id (V_env.2.2.2.1.ext Od.2)
  refine own_by (fun _ k => XS.aloadN X0.here hx rfl (hb hby d23_0) rfl rfl (st16 _ (X16.arraylength hx (by rw [e16]; exact Ar17.1) (State.isArrayOf_alike hZ.alike Ar17.2.1) (g := (mkF m 4 #[Rv a1, Iv 1, Uv, Uv] [(.ref da)])) rfl rfl (hb hby d23_4) _ k))) ?_
  rw [len_of S17 M17]
  show own_Fin _ _ _ _ _ _ _ T16 (mkF m 5 #[Rv a1, Iv 1, Uv, Uv] [(.int 0)])
  obtain ⟨T18, X18, e18, st18⟩ := getF X16 hx hZ hown (host := "") (Or.inl (own_g hw 48)) Via.refl e16 F_e (g := (mkF m 11 #[Rv a1, Iv 1, Iv 0, Uv] [(.ref a1)])) rfl rfl (hb hby d23_11)
  obtain ⟨T19, X19, e19, st19⟩ := getS2 X18 hx hZ hown (host := "") (Or.inl (own_g hw 47)) Via.refl e18 (V_env.2.2.1.ext Od.2) (g := (mkF m 14 #[Rv a1, Iv 1, Iv 0, Uv] [(.ref da)])) rfl (hb hby d23_14)
  obtain ⟨_, _, ⟨T20, L20, k20, n20⟩, -, X20, ⟨Lc20, hQ20, l20, y20, z20⟩, st20⟩ := LawKit.callS X19 hx (y := mn4) hown (own_m hZ hw 160) (own_m hZ hw 161) (own_m hZ hw 162) (own_m hZ hw 163) (by decide) (backOf (W := 1) (rmmax_10_1 l Z a0 hw []  h0 n0 Z0 ) hZ (own_g hw 163) (own_g hw 162) (by decide) (by decide)) (g := (mkF m 49 #[Rv a1, Iv 1, Iv 0, Uv] [(.int 1), (.int 10), (.ref a1)])) rfl (by rw [hml]; rfl) (argsL := [(.int (10 : Int32)), (.int (1 : Int32))]) (rest := [(.ref a1)]) (lenOf own_pd59 rfl) rfl (own_z rfl) (hb hby d23_49) (fun _ _ => ⟨rfl, e19, (by decide : 0 + 0 ≤ _), (by decide : 0 + 0 ≤ _)⟩)
  dsimp only [Pt.U, Pt.locs, Pt.cells, Pt.slots] at X20 l20 y20 z20 st20 hQ20
  subst l20 y20 z20
  obtain ⟨rfl, Nq20, eh20⟩ := hQ20
  have N20 := Fr.app N0 Nq20
  refine own_by (fun _ k => XS.istoreN X16.here hx rfl (hb hby d23_5) rfl (l' := #[Rv a1, Iv 1, Iv 0, Uv]) rfl (XS.iloadN X16.here hx rfl (hb hby d23_6) rfl (XS.ifNo X16.here hx rfl (hb hby d23_7) rfl ((if0 _ _).trans (flt (by decide : ¬ ((0 : Int32) < (0 : Int32)))).2.2.1) (XS.aloadN X16.here hx rfl (hb hby d23_10) rfl rfl (st18 _ (st19 _ (Jvm.RoadKit.acmp (g := (mkF m 17 #[Rv a1, Iv 1, Iv 0, Uv] [(.ref da), (.ref da)])) X19 hx rfl rfl rfl (pc0 := 17) (pc' := 45) (same := true) rfl (hb hby d23_17) rfl (decide_eq_true rfl) (by decide) (by decide) (XS.aloadN X19.here hx rfl (hb hby d23_45) rfl rfl (XS.bipush X19.here hx rfl (hb hby d23_46) (XS.iloadN X19.here hx rfl (hb hby d23_48) rfl k)))))))))) ?_
  show own_Fin _ _ _ _ _ _ _ T19 (mkF m 49 #[Rv a1, Iv 1, Iv 0, Uv] [(.int 1), (.int 10), (.ref a1)])
  obtain ⟨T21, h21, k21, X21, e21, E21, A21, Ex21, Ov21, st21⟩ := newRE X20 hx hZ hown (own_g hw 164) (own_g hw 165) eh20 (g := (mkF m 52 #[Rv a1, Iv 1, Iv 0, Uv] [(.int 10), (.ref a1)])) rfl (hb hby d23_52) rfl (by decide) (cap := 10) (by decide) (by decide) (by decide) (by decide) (ad := "[Ljava/lang/Object;") (by decide +kernel)
  obtain ⟨b21, g21⟩ : ∃ z, z = h0.size := ⟨_, rfl⟩
  rw [← g21] at A21 Ex21 st21
  have V21 : Arv Z h21 b21 k21 (.object "java/lang/Object") (10 : Int32) [.null, .null, .null, .null, .null, .null, .null, .null, .null, .null] .null := (Arv.new A21 (by decide)).pad (pad_rep [] .null 10)
  have ne21_a1 : a1 ≠ b21 := Nat.ne_of_lt (Nat.lt_of_lt_of_le E_a1.lt (Nat.le_of_eq g21.symm))
  have ne21_da : da ≠ b21 := Nat.ne_of_lt (Nat.lt_of_lt_of_le (V_env.2.2.2.1.ext Od.2).lt (Nat.le_of_eq g21.symm))
  have ne21_el : el ≠ b21 := Nat.ne_of_lt (Nat.lt_of_lt_of_le (V_env.2.2.2.2.2.1.ext Od.2).lt (Nat.le_of_eq g21.symm))
  have ne21_ea : ea ≠ b21 := Nat.ne_of_lt (Nat.lt_of_lt_of_le (V_env.2.2.2.2.2.2.2.1.ext Od.2).lt (Nat.le_of_eq g21.symm))
  have ne21_em : em ≠ b21 := Nat.ne_of_lt (Nat.lt_of_lt_of_le (V_env.2.2.2.2.2.2.2.2.2.1.ext Od.2).lt (Nat.le_of_eq g21.symm))
  have ne21_ci : ci ≠ b21 := Nat.ne_of_lt (Nat.lt_of_lt_of_le (V_env.2.2.2.2.2.2.2.2.2.2.2.1.ext Od.2).lt (Nat.le_of_eq g21.symm))
  have gf21 : n0 ≤ b21 := Nat.le_trans Z0 (Nat.le_of_eq g21.symm)
  have Zs21 : n0 ≤ h21.size := Nat.le_trans Z0 E21.1
  have Kp21 : Keep h0 h21 [a1] := Kp15.ext E21
  have sz_b21 : h0.size ≤ b21 := Nat.le_trans Kp15.1 (Nat.le_of_eq g21.symm)
  have f22_0 : Old Z n0 h21 := Od.ext E21
  have f22_1 : Exa Z h21 a1 "java/util/ArrayList" := E_a1.ext E21
  have f22_2 : Fld Z h21 a1 "java/util/AbstractList" "modCount" "I" (.int mc) := F_m.ext E21
  have f22_3 : Fld Z h21 a1 "java/util/ArrayList" "elementData" "[Ljava/lang/Object;" (.ref da) := F_e.ext E21
  have f22_4 : Fld Z h21 a1 "java/util/ArrayList" "size" "I" (.int (0 : Int32)) := F_s.ext E21
  have f22_5 : Arv Z h21 da kd (.object "java/lang/Object") (0 : Int32) [] .null := (V_env.2.2.2.1.ext Od.2).ext E21
  have f22_6 : Exa Z h21 el "java/util/ImmutableCollections$ListN" := (V_env.2.2.2.2.2.1.ext Od.2).ext E21
  have f22_7 : Fld Z h21 el "java/util/ImmutableCollections$ListN" "elements" "[Ljava/lang/Object;" (.ref ea) := (V_env.2.2.2.2.2.2.1.ext Od.2).ext E21
  have f22_8 : Arv Z h21 ea ke (.object "java/lang/Object") (0 : Int32) [] .null := (V_env.2.2.2.2.2.2.2.1.ext Od.2).ext E21
  have f22_9 : Exa Z h21 em "java/lang/Object" := (V_env.2.2.2.2.2.2.2.2.2.1.ext Od.2).ext E21
  have f22_10 : Exa Z h21 ci "com/example/lithe_checker/lithechecker/c/CType$IntegerType" := (V_env.2.2.2.2.2.2.2.2.2.2.2.1.ext Od.2).ext E21
  obtain ⟨T23, h23, X23, e23, W23, st23⟩ := putF X21 hx hZ hown (host := "") (Or.inl (own_g hw 48)) Via.refl e21 f22_3 f22_1 (Or.inl (own_g hw 49)) (own_g hw 27) (ty := (.array (.object "java/lang/Object"))) (by decide) rfl rfl (g := (mkF m 56 #[Rv a1, Iv 1, Iv 0, Uv] [(.ref b21), (.ref a1), (.ref b21)])) rfl rfl (hb hby d23_56)
  have Fw23 : Fld Z h23 a1 "java/util/ArrayList" "elementData" "[Ljava/lang/Object;" (.ref b21) := f22_3.same W23
  have Kp23 : Keep h0 h23 [a1] := Kp21.wr W23 (Or.inl (List.mem_of_getElem? (i := 0) rfl))
  have Zs23 : n0 ≤ h23.size := Nat.le_trans Zs21 (Keep.of_wr W23).1
  have N23 := Fr.snoc X23 N20 g_1
  have f24_0 : Old Z n0 h23 := f22_0.wr W23 g_1
  have f24_1 : Exa Z h23 a1 "java/util/ArrayList" := f22_1.wr W23
  have f24_2 : Fld Z h23 a1 "java/util/AbstractList" "modCount" "I" (.int mc) := f22_2.other W23 (Or.inr (slot_ne (Or.inl (own_g hw 46)) (Or.inl (own_g hw 49)) (by decide) (t := .int) (t' := (.array (.object "java/lang/Object"))) (by decide) (by decide)))
  have f24_4 : Fld Z h23 a1 "java/util/ArrayList" "size" "I" (.int (0 : Int32)) := f22_4.other W23 (Or.inr (slot_ne (Or.inl (own_g hw 79)) (Or.inl (own_g hw 49)) (by decide) (t := .int) (t' := (.array (.object "java/lang/Object"))) (by decide) (by decide)))
  have f24_5 : Arv Z h23 da kd (.object "java/lang/Object") (0 : Int32) [] .null := f22_5.other W23 (Ne.symm ne1d)
  have f24_6 : Exa Z h23 el "java/util/ImmutableCollections$ListN" := f22_6.wr W23
  have f24_9 : Exa Z h23 em "java/lang/Object" := f22_9.wr W23
  have f24_10 : Exa Z h23 ci "com/example/lithe_checker/lithechecker/c/CType$IntegerType" := f22_10.wr W23
  have f24_11 : Arv Z h23 b21 k21 (.object "java/lang/Object") (10 : Int32) [.null, .null, .null, .null, .null, .null, .null, .null, .null, .null] .null := V21.other W23 (Ne.symm ne21_a1)
  have f24_12 : Exa Z h23 b21 "[Ljava/lang/Object;" := Ex21.wr W23
  refine own_by (fun _ k => st20 _ (st21 _ (XS.dupX1 X21.here hx rfl (hb hby d23_55) rfl rfl rfl (st23 _ k)))) ?_
  exact own_retA X23 hx hlk (t := (.array (.object "java/lang/Object"))) hret rfl rfl rfl (hb hby d23_59) (by rw [e23]; exact ⟨_, _, rfl, N23, Kp23, sz_b21, f24_2, Fw23, f24_4, f24_11, f24_12, Ov21⟩) (by decide) (by decide)
theorem d22_0 : decode jdk_38_method_7_code 0 = .ok (.aload_n 0, 1) := by decide +kernel
theorem d22_1 : decode jdk_38_method_7_code 1 = .ok (.aload_n 0, 1) := by decide +kernel
theorem d22_2 : decode jdk_38_method_7_code 2 = .ok (.getfield 48, 3) := by decide +kernel
theorem d22_5 : decode jdk_38_method_7_code 5 = .ok (.iconst 1, 1) := by decide +kernel
theorem d22_6 : decode jdk_38_method_7_code 6 = .ok (.iadd, 1) := by decide +kernel
theorem d22_7 : decode jdk_38_method_7_code 7 = .ok (.invokevirtual 69, 3) := by decide +kernel
theorem own_pd70 : parseMethodDescriptor "(I)[Ljava/lang/Object;" = some ⟨[.int], some (.array (.object "java/lang/Object"))⟩ := by decide +kernel
theorem d22_10 : decode jdk_38_method_7_code 10 = .ok (.areturn, 1) := by decide +kernel
set_option maxRecDepth 65536 in
set_option maxHeartbeats 40000000 in
theorem rmG (l : Launch) (Z : State) (a0 : Array Value) (hw : own_W a0 Z) (ws : List Jvm.Cond) (cs : Int32) (da el ea em ci mm : Addr) (kd ke : ClassId) (a1 : Addr) (mc : Int32) (h0 : Heap) (n0 : Nat) (Z0 : n0 ≤ h0.size) (V_env : own_Env Z cs da el ea em ci mm kd ke) (Od : Old Z n0 h0) (E_a1 : Exa Z h0 a1 "java/util/ArrayList") (F_m : Fld Z h0 a1 "java/util/AbstractList" "modCount" "I" (.int mc)) (F_e : Fld Z h0 a1 "java/util/ArrayList" "elementData" "[Ljava/lang/Object;" (.ref da)) (F_s : Fld Z h0 a1 "java/util/ArrayList" "size" "I" (.int (0 : Int32))) (g_1 : n0 ≤ a1) : own_Met l Z mn9 jdk_38_method_7_code 1 (some (.array (.object "java/lang/Object"))) ws (own_R 2 1 10 36) #[(.ref a1)] h0 (own_QGI Z a1 mc h0 n0) := by
  refine own_enter n0 (plainFor_of_name own_pn37) (fun m => ef_R_1 m a1 ) (fun p e s m below meth c s₁ hx hby hlk hml hret hown hnm hZ X0 e0 N0 => ?_)
  show own_Fin _ _ _ _ _ _ _ s₁ (mkF m 0 #[Rv a1] [])
  have ne1d : a1 ≠ da := (Old.ne Od V_env.2.2.2.1.lt g_1).symm
  have Kp25 : Keep h0 h0 [a1] := Keep.refl h0 _
  obtain ⟨T26, X26, e26, st26⟩ := getF X0 hx hZ hown (host := "") (Or.inl (own_g hw 78)) Via.refl e0 F_s (g := (mkF m 2 #[Rv a1] [(.ref a1), (.ref a1)])) rfl rfl (hb hby d22_2)
  refine own_by (fun _ k => XS.aloadN X0.here hx rfl (hb hby d22_0) rfl rfl (XS.aloadN X0.here hx rfl (hb hby d22_1) rfl rfl (st26 _ (XS.iconst X26.here hx rfl (hb hby d22_5) (XS.iadd X26.here hx rfl (hb hby d22_6) rfl k))))) ?_
  show own_Fin _ _ _ _ _ _ _ T26 (mkF m 7 #[Rv a1] [(.int ((0 : Int32) + (1 : Int32))), (.ref a1)])
  rw [(by decide : ((0 : Int32) + (1 : Int32)) = (1 : Int32))]
  show own_Fin _ _ _ _ _ _ _ T26 (mkF m 7 #[Rv a1] [(.int 1), (.ref a1)])
  obtain ⟨cq27, q27, q27'⟩ := E_a1.cell
  obtain ⟨_, _, ⟨T27, L27, k27, n27⟩, -, X27, ⟨Lc27, hQ27, l27, y27, z27⟩, st27⟩ := X26.privateBack hx (y := mn8) hown (own_m hZ hw 155) (own_m hZ hw 156) (own_m hZ hw 158) (Cond.privateMethod_at (mvP hZ (own_g hw 157) (args := #[]))) (own_m hZ hw 159) (by decide) (backOf (W := 0) (rmGI l Z a0 hw [] cs da el ea em ci mm kd ke a1 mc h0 n0 Z0 V_env Od E_a1 F_m F_e F_s g_1) hZ (own_g hw 159) (own_g hw 28) (by decide) (by decide)) (g := (mkF m 7 #[Rv a1] [(.int 1), (.ref a1)])) rfl (by rw [hml]; rfl) (Steps.refl _) (a := a1) (by rw [e26]; exact q27) q27' (argsL := [(.int (1 : Int32))]) (rest := []) (lenOf own_pd70 rfl) rfl (own_z rfl) (hb hby d22_7) (fun _ _ => ⟨rfl, e26, (by decide : 0 + 1 ≤ _), (by decide : 0 + 10 ≤ _)⟩)
  dsimp only [Pt.U, Pt.locs, Pt.cells, Pt.slots] at X27 l27 y27 z27 st27 hQ27
  subst l27 y27 z27
  obtain ⟨b27, k27, rfl, Nq27, K27, ge27, Gm27, Ge27, Gs27, V27, Eb27, Ov27⟩ := hQ27
  have N27 := Fr.app N0 Nq27
  have Zs27 : n0 ≤ T27.heap.size := Nat.le_trans Z0 K27.1
  have Kp27 : Keep h0 T27.heap [a1] := Kp25.trans K27 (allS (Or.inl (List.mem_of_getElem? (i := 0) rfl)) all0)
  have f28_0 : Old Z n0 T27.heap := Od.keep K27 (allS g_1 all0)
  have f28_1 : Exa Z T27.heap a1 "java/util/ArrayList" := E_a1.keep K27
  have f28_5 : Arv Z T27.heap da kd (.object "java/lang/Object") (0 : Int32) [] .null := (V_env.2.2.2.1.ext Od.2).keep K27 (ninS (Ne.symm ne1d) nin0)
  have f28_6 : Exa Z T27.heap el "java/util/ImmutableCollections$ListN" := (V_env.2.2.2.2.2.1.ext Od.2).keep K27
  have f28_9 : Exa Z T27.heap em "java/lang/Object" := (V_env.2.2.2.2.2.2.2.2.2.1.ext Od.2).keep K27
  have f28_10 : Exa Z T27.heap ci "com/example/lithe_checker/lithechecker/c/CType$IntegerType" := (V_env.2.2.2.2.2.2.2.2.2.2.2.1.ext Od.2).keep K27
  have ne27_a1 : a1 ≠ b27 := Nat.ne_of_lt (Nat.lt_of_lt_of_le E_a1.lt ge27)
  have ne27_da : da ≠ b27 := Nat.ne_of_lt (Nat.lt_of_lt_of_le (V_env.2.2.2.1.ext Od.2).lt ge27)
  have ne27_el : el ≠ b27 := Nat.ne_of_lt (Nat.lt_of_lt_of_le (V_env.2.2.2.2.2.1.ext Od.2).lt ge27)
  have ne27_ea : ea ≠ b27 := Nat.ne_of_lt (Nat.lt_of_lt_of_le (V_env.2.2.2.2.2.2.2.1.ext Od.2).lt ge27)
  have ne27_em : em ≠ b27 := Nat.ne_of_lt (Nat.lt_of_lt_of_le (V_env.2.2.2.2.2.2.2.2.2.1.ext Od.2).lt ge27)
  have ne27_ci : ci ≠ b27 := Nat.ne_of_lt (Nat.lt_of_lt_of_le (V_env.2.2.2.2.2.2.2.2.2.2.2.1.ext Od.2).lt ge27)
  have gf27 : n0 ≤ b27 := Nat.le_trans Z0 ge27
  have sz_b27 : h0.size ≤ b27 := Nat.le_trans Kp25.1 ge27
  refine own_by (fun _ k => st27.trans k) ?_
  exact own_retA X27 hx hlk (t := (.array (.object "java/lang/Object"))) hret rfl rfl rfl (hb hby d22_10) ⟨_, _, rfl, N27, Kp27, sz_b27, Gm27, Ge27, Gs27, V27, Eb27, Ov27⟩ (by decide) (by decide)
theorem d21_0 : decode jdk_38_method_24_code 0 = .ok (.iload_n 3, 1) := by decide +kernel
theorem d21_1 : decode jdk_38_method_24_code 1 = .ok (.aload_n 2, 1) := by decide +kernel
theorem d21_2 : decode jdk_38_method_24_code 2 = .ok (.arraylength, 1) := by decide +kernel
theorem d21_3 : decode jdk_38_method_24_code 3 = .ok (.if_icmp .ne 8, 3) := by decide +kernel
theorem d21_6 : decode jdk_38_method_24_code 6 = .ok (.aload_n 0, 1) := by decide +kernel
theorem d21_7 : decode jdk_38_method_24_code 7 = .ok (.invokevirtual 129, 3) := by decide +kernel
theorem own_pd79 : parseMethodDescriptor "()[Ljava/lang/Object;" = some ⟨[], some (.array (.object "java/lang/Object"))⟩ := by decide +kernel
theorem d21_10 : decode jdk_38_method_24_code 10 = .ok (.astore_n 2, 1) := by decide +kernel
theorem d21_11 : decode jdk_38_method_24_code 11 = .ok (.aload_n 2, 1) := by decide +kernel
theorem d21_12 : decode jdk_38_method_24_code 12 = .ok (.iload_n 3, 1) := by decide +kernel
theorem d21_13 : decode jdk_38_method_24_code 13 = .ok (.aload_n 1, 1) := by decide +kernel
theorem d21_14 : decode jdk_38_method_24_code 14 = .ok (.aastore, 1) := by decide +kernel
theorem d21_15 : decode jdk_38_method_24_code 15 = .ok (.aload_n 0, 1) := by decide +kernel
theorem d21_16 : decode jdk_38_method_24_code 16 = .ok (.iload_n 3, 1) := by decide +kernel
theorem d21_17 : decode jdk_38_method_24_code 17 = .ok (.iconst 1, 1) := by decide +kernel
theorem d21_18 : decode jdk_38_method_24_code 18 = .ok (.iadd, 1) := by decide +kernel
theorem d21_19 : decode jdk_38_method_24_code 19 = .ok (.putfield 48, 3) := by decide +kernel
theorem d21_22 : decode jdk_38_method_24_code 22 = .ok (.return_, 1) := by decide +kernel
theorem ef_RRRI_4 (m : MethodId) (x0 : Addr) (x1 : Addr) (x2 : Addr) (x3 : Int32) : entryFrame m #[(.ref x0), (.ref x1), (.ref x2), (.int x3)] 4 = mkF m 0 #[.val (.ref x0), .val (.ref x1), .val (.ref x2), .val (.int x3)] [] := by first | (simp [entryFrame, mkF, argsToLocals, Value.category]; done) | rfl
def own_QAD0 (Z : State) (a1 : Addr) (x0 : Addr) (mc : Int32) (h0 : Heap) (n0 : Nat) (v : Option Value) (h : Heap) (L : List Loc) : Prop := ∃ (b : Addr) (k : ClassId), v = none ∧ Fr n0 L ∧ Keep h0 h [a1] ∧ h0.size ≤ b ∧ Fld Z h a1 "java/util/AbstractList" "modCount" "I" (.int mc) ∧ Fld Z h a1 "java/util/ArrayList" "elementData" "[Ljava/lang/Object;" (.ref b) ∧ Fld Z h a1 "java/util/ArrayList" "size" "I" (.int (1 : Int32)) ∧ Arv Z h b k (.object "java/lang/Object") (10 : Int32) [(.ref x0), .null, .null, .null, .null, .null, .null, .null, .null, .null] .null ∧ Exa Z h b "[Ljava/lang/Object;" ∧ Ovr Z k "java/lang/Object"
set_option maxRecDepth 65536 in
set_option maxHeartbeats 40000000 in
theorem rmAD0 (l : Launch) (Z : State) (a0 : Array Value) (hw : own_W a0 Z) (ws : List Jvm.Cond) (cs : Int32) (da el ea em ci mm : Addr) (kd ke : ClassId) (a1 : Addr) (x0 : Addr) (mc : Int32) (h0 : Heap) (n0 : Nat) (Z0 : n0 ≤ h0.size) (V_env : own_Env Z cs da el ea em ci mm kd ke) (Od : Old Z n0 h0) (E_a1 : Exa Z h0 a1 "java/util/ArrayList") (F_m : Fld Z h0 a1 "java/util/AbstractList" "modCount" "I" (.int mc)) (F_e : Fld Z h0 a1 "java/util/ArrayList" "elementData" "[Ljava/lang/Object;" (.ref da)) (F_s : Fld Z h0 a1 "java/util/ArrayList" "size" "I" (.int (0 : Int32))) (g_1 : n0 ≤ a1) (E_x0 : Exa Z h0 x0 "com/example/lithe_checker/lithechecker/c/CType$Member") : own_Met l Z mn10 jdk_38_method_24_code 4 none ws (own_R 3 1 10 52) #[(.ref a1), (.ref x0), (.ref da), (.int (0 : Int32))] h0 (own_QAD0 Z a1 x0 mc h0 n0) := by
  refine own_enter n0 (plainFor_of_name own_pn37) (fun m => ef_RRRI_4 m a1 x0 da (0 : Int32) ) (fun p e s m below meth c s₁ hx hby hlk hml hret hown hnm hZ X0 e0 N0 => ?_)
  show own_Fin _ _ _ _ _ _ _ s₁ (mkF m 0 #[Rv a1, Rv x0, Rv da, Iv 0] [])
  have Kp29 : Keep h0 h0 [a1] := Keep.refl h0 _
  obtain ⟨cl30, Ar30, -, S30, M30, -, -⟩ := id (V_env.2.2.2.1.ext Od.2)
  refine own_by (fun _ k => XS.iloadN X0.here hx rfl (hb hby d21_0) rfl (XS.aloadN X0.here hx rfl (hb hby d21_1) rfl rfl (X0.arraylength hx (by rw [e0]; exact Ar30.1) (State.isArrayOf_alike hZ.alike Ar30.2.1) (g := (mkF m 2 #[Rv a1, Rv x0, Rv da, Iv 0] [(.ref da), (.int 0)])) rfl rfl (hb hby d21_2) _ k))) ?_
  rw [len_of S30 M30]
  show own_Fin _ _ _ _ _ _ _ s₁ (mkF m 3 #[Rv a1, Rv x0, Rv da, Iv 0] [(.int 0), (.int 0)])
  obtain ⟨cq31, q31, q31'⟩ := E_a1.cell
  obtain ⟨_, _, ⟨T31, L31, k31, n31⟩, -, X31, ⟨Lc31, hQ31, l31, y31, z31⟩, st31⟩ := X0.privateBack hx (y := mn9) hown (own_m hZ hw 150) (own_m hZ hw 151) (own_m hZ hw 153) (Cond.privateMethod_at (mvP hZ (own_g hw 152) (args := #[]))) (own_m hZ hw 154) (by decide) (backOf (W := 0) (rmG l Z a0 hw [] cs da el ea em ci mm kd ke a1 mc h0 n0 Z0 V_env Od E_a1 F_m F_e F_s g_1) hZ (own_g hw 154) (own_g hw 28) (by decide) (by decide)) (g := (mkF m 7 #[Rv a1, Rv x0, Rv da, Iv 0] [(.ref a1)])) rfl (by rw [hml]; rfl) (Steps.refl _) (a := a1) (by rw [e0]; exact q31) q31' (argsL := []) (rest := []) (lenOf own_pd79 rfl) rfl (own_z rfl) (hb hby d21_7) (fun _ _ => ⟨rfl, e0, (by decide : 0 + 1 ≤ _), (by decide : 0 + 10 ≤ _)⟩)
  dsimp only [Pt.U, Pt.locs, Pt.cells, Pt.slots] at X31 l31 y31 z31 st31 hQ31
  subst l31 y31 z31
  obtain ⟨b31, k31, rfl, Nq31, K31, ge31, Gm31, Ge31, Gs31, V31, Eb31, Ov31⟩ := hQ31
  have N31 := Fr.app N0 Nq31
  have Zs31 : n0 ≤ T31.heap.size := Nat.le_trans Z0 K31.1
  have Kp31 : Keep h0 T31.heap [a1] := Kp29.trans K31 (allS (Or.inl (List.mem_of_getElem? (i := 0) rfl)) all0)
  have f32_0 : Old Z n0 T31.heap := Od.keep K31 (allS g_1 all0)
  have f32_1 : Exa Z T31.heap a1 "java/util/ArrayList" := E_a1.keep K31
  have f32_5 : Exa Z T31.heap x0 "com/example/lithe_checker/lithechecker/c/CType$Member" := E_x0.keep K31
  have f32_7 : Exa Z T31.heap el "java/util/ImmutableCollections$ListN" := (V_env.2.2.2.2.2.1.ext Od.2).keep K31
  have f32_10 : Exa Z T31.heap em "java/lang/Object" := (V_env.2.2.2.2.2.2.2.2.2.1.ext Od.2).keep K31
  have f32_11 : Exa Z T31.heap ci "com/example/lithe_checker/lithechecker/c/CType$IntegerType" := (V_env.2.2.2.2.2.2.2.2.2.2.2.1.ext Od.2).keep K31
  have ne31_a1 : a1 ≠ b31 := Nat.ne_of_lt (Nat.lt_of_lt_of_le E_a1.lt ge31)
  have ne31_x0 : x0 ≠ b31 := Nat.ne_of_lt (Nat.lt_of_lt_of_le E_x0.lt ge31)
  have ne31_da : da ≠ b31 := Nat.ne_of_lt (Nat.lt_of_lt_of_le (V_env.2.2.2.1.ext Od.2).lt ge31)
  have ne31_el : el ≠ b31 := Nat.ne_of_lt (Nat.lt_of_lt_of_le (V_env.2.2.2.2.2.1.ext Od.2).lt ge31)
  have ne31_ea : ea ≠ b31 := Nat.ne_of_lt (Nat.lt_of_lt_of_le (V_env.2.2.2.2.2.2.2.1.ext Od.2).lt ge31)
  have ne31_em : em ≠ b31 := Nat.ne_of_lt (Nat.lt_of_lt_of_le (V_env.2.2.2.2.2.2.2.2.2.1.ext Od.2).lt ge31)
  have ne31_ci : ci ≠ b31 := Nat.ne_of_lt (Nat.lt_of_lt_of_le (V_env.2.2.2.2.2.2.2.2.2.2.2.1.ext Od.2).lt ge31)
  have gf31 : n0 ≤ b31 := Nat.le_trans Z0 ge31
  have sz_b31 : h0.size ≤ b31 := Nat.le_trans Kp29.1 ge31
  obtain ⟨cl33, Ar33, q33, S33, M33, H33, G33⟩ := id V31
  have hin33 : ¬ ((0 : Int32) < 0 ∨ cl33.slots.size ≤ ((0 : Int32)).toNatClampNeg) := inb_of S33 ⟨by decide, by decide⟩
  obtain ⟨T33, h33, X33, e33, W33, st33⟩ := stR X31 hx hZ rfl Ar33 (j := (0 : Int32)) (v := (.ref x0)) hin33 rfl (Sto.ofV Ar33 q33 Ov31 (Ins.of_exa f32_5 (own_g hw 166))) (g := (mkF m 14 #[Rv a1, Rv x0, Rv b31, Iv 0] [(.ref x0), (.int 0), (.ref b31)])) rfl rfl (hb hby d21_14)
  have V33 : Arv Z h33 b31 k31 (.object "java/lang/Object") (10 : Int32) [(.ref x0), .null, .null, .null, .null, .null, .null, .null, .null, .null] .null := Arv.set Ar33 q33 S33 M33 H33 G33 rfl W33 0 rfl (Nat.le_of_ble_eq_true rfl)
  have Kp33 : Keep h0 h33 [a1] := Kp31.wr W33 (Or.inr sz_b31)
  have Zs33 : n0 ≤ h33.size := Nat.le_trans Zs31 (Keep.of_wr W33).1
  have N33 := Fr.snoc X33 N31 gf31
  have f34_0 : Old Z n0 h33 := f32_0.wr W33 gf31
  have f34_1 : Exa Z h33 a1 "java/util/ArrayList" := f32_1.wr W33
  have f34_2 : Exa Z h33 x0 "com/example/lithe_checker/lithechecker/c/CType$Member" := f32_5.wr W33
  have f34_3 : Exa Z h33 el "java/util/ImmutableCollections$ListN" := f32_7.wr W33
  have f34_4 : Exa Z h33 em "java/lang/Object" := f32_10.wr W33
  have f34_5 : Exa Z h33 ci "com/example/lithe_checker/lithechecker/c/CType$IntegerType" := f32_11.wr W33
  have f34_6 : Fld Z h33 a1 "java/util/AbstractList" "modCount" "I" (.int mc) := Gm31.other W33 (Or.inl ne31_a1)
  have f34_7 : Fld Z h33 a1 "java/util/ArrayList" "elementData" "[Ljava/lang/Object;" (.ref b31) := Ge31.other W33 (Or.inl ne31_a1)
  have f34_8 : Fld Z h33 a1 "java/util/ArrayList" "size" "I" (.int (0 : Int32)) := Gs31.other W33 (Or.inl ne31_a1)
  have f34_10 : Exa Z h33 b31 "[Ljava/lang/Object;" := Eb31.wr W33
  refine own_by (fun _ k => XS.icmpNo X0.here hx rfl (hb hby d21_3) rfl (teq (by decide : (0 : Int32) = (0 : Int32))).2 (XS.aloadN X0.here hx rfl (hb hby d21_6) rfl rfl (st31.trans (XS.astoreN X31.here hx rfl (hb hby d21_10) rfl rfl (l' := #[Rv a1, Rv x0, Rv b31, Iv 0]) rfl (XS.aloadN X31.here hx rfl (hb hby d21_11) rfl rfl (XS.iloadN X31.here hx rfl (hb hby d21_12) rfl (XS.aloadN X31.here hx rfl (hb hby d21_13) rfl rfl (st33 _ (XS.aloadN X33.here hx rfl (hb hby d21_15) rfl rfl (XS.iloadN X33.here hx rfl (hb hby d21_16) rfl k)))))))))) ?_
  show own_Fin _ _ _ _ _ _ _ T33 (mkF m 17 #[Rv a1, Rv x0, Rv b31, Iv 0] [(.int 0), (.ref a1)])
  refine own_by (fun _ k => XS.iconst X33.here hx rfl (hb hby d21_17) (XS.iadd X33.here hx rfl (hb hby d21_18) rfl k)) ?_
  show own_Fin _ _ _ _ _ _ _ T33 (mkF m 19 #[Rv a1, Rv x0, Rv b31, Iv 0] [(.int ((0 : Int32) + (1 : Int32))), (.ref a1)])
  rw [(by decide : ((0 : Int32) + (1 : Int32)) = (1 : Int32))]
  show own_Fin _ _ _ _ _ _ _ T33 (mkF m 19 #[Rv a1, Rv x0, Rv b31, Iv 0] [(.int 1), (.ref a1)])
  obtain ⟨T35, h35, X35, e35, W35, st35⟩ := putF X33 hx hZ hown (host := "") (Or.inl (own_g hw 78)) Via.refl e33 f34_8 f34_1 (Or.inl (own_g hw 79)) (own_g hw 27) (ty := .int) (by decide) rfl rfl (g := (mkF m 19 #[Rv a1, Rv x0, Rv b31, Iv 0] [(.int 1), (.ref a1)])) rfl rfl (hb hby d21_19)
  have Fw35 : Fld Z h35 a1 "java/util/ArrayList" "size" "I" (.int (1 : Int32)) := f34_8.same W35
  have Kp35 : Keep h0 h35 [a1] := Kp33.wr W35 (Or.inl (List.mem_of_getElem? (i := 0) rfl))
  have Zs35 : n0 ≤ h35.size := Nat.le_trans Zs33 (Keep.of_wr W35).1
  have N35 := Fr.snoc X35 N33 g_1
  have f36_0 : Old Z n0 h35 := f34_0.wr W35 g_1
  have f36_1 : Exa Z h35 a1 "java/util/ArrayList" := f34_1.wr W35
  have f36_2 : Exa Z h35 x0 "com/example/lithe_checker/lithechecker/c/CType$Member" := f34_2.wr W35
  have f36_3 : Exa Z h35 el "java/util/ImmutableCollections$ListN" := f34_3.wr W35
  have f36_4 : Exa Z h35 em "java/lang/Object" := f34_4.wr W35
  have f36_5 : Exa Z h35 ci "com/example/lithe_checker/lithechecker/c/CType$IntegerType" := f34_5.wr W35
  have f36_6 : Fld Z h35 a1 "java/util/AbstractList" "modCount" "I" (.int mc) := f34_6.other W35 (Or.inr (slot_ne (Or.inl (own_g hw 46)) (Or.inl (own_g hw 79)) (by decide) (t := .int) (t' := .int) (by decide) (by decide)))
  have f36_7 : Fld Z h35 a1 "java/util/ArrayList" "elementData" "[Ljava/lang/Object;" (.ref b31) := f34_7.other W35 (Or.inr (slot_ne (Or.inl (own_g hw 49)) (Or.inl (own_g hw 79)) (by decide) (t := (.array (.object "java/lang/Object"))) (t' := .int) (by decide) (by decide)))
  have f36_9 : Exa Z h35 b31 "[Ljava/lang/Object;" := f34_10.wr W35
  have f36_10 : Arv Z h35 b31 k31 (.object "java/lang/Object") (10 : Int32) [(.ref x0), .null, .null, .null, .null, .null, .null, .null, .null, .null] .null := V33.other W35 (Ne.symm ne31_a1)
  refine own_by (fun _ k => st35 _ k) ?_
  exact own_retV X35 hx hlk hret (hb hby d21_22) (by rw [e35]; exact ⟨_, _, rfl, N35, Kp35, sz_b31, f36_6, f36_7, Fw35, f36_10, f36_9, Ov31⟩) (by decide) (by decide)
theorem d20_0 : decode jdk_38_method_25_code 0 = .ok (.aload_n 0, 1) := by decide +kernel
theorem d20_1 : decode jdk_38_method_25_code 1 = .ok (.dup, 1) := by decide +kernel
theorem d20_2 : decode jdk_38_method_25_code 2 = .ok (.getfield 63, 3) := by decide +kernel
theorem d20_5 : decode jdk_38_method_25_code 5 = .ok (.iconst 1, 1) := by decide +kernel
theorem d20_6 : decode jdk_38_method_25_code 6 = .ok (.iadd, 1) := by decide +kernel
theorem d20_7 : decode jdk_38_method_25_code 7 = .ok (.putfield 63, 3) := by decide +kernel
theorem d20_10 : decode jdk_38_method_25_code 10 = .ok (.aload_n 0, 1) := by decide +kernel
theorem d20_11 : decode jdk_38_method_25_code 11 = .ok (.aload_n 1, 1) := by decide +kernel
theorem d20_12 : decode jdk_38_method_25_code 12 = .ok (.aload_n 0, 1) := by decide +kernel
theorem d20_13 : decode jdk_38_method_25_code 13 = .ok (.getfield 9, 3) := by decide +kernel
theorem d20_16 : decode jdk_38_method_25_code 16 = .ok (.aload_n 0, 1) := by decide +kernel
theorem d20_17 : decode jdk_38_method_25_code 17 = .ok (.getfield 48, 3) := by decide +kernel
theorem d20_20 : decode jdk_38_method_25_code 20 = .ok (.invokevirtual 131, 3) := by decide +kernel
theorem own_pd105 : parseMethodDescriptor "(Ljava/lang/Object;[Ljava/lang/Object;I)V" = some ⟨[(.object "java/lang/Object"), (.array (.object "java/lang/Object")), .int], none⟩ := by decide +kernel
theorem d20_23 : decode jdk_38_method_25_code 23 = .ok (.iconst 1, 1) := by decide +kernel
theorem d20_24 : decode jdk_38_method_25_code 24 = .ok (.ireturn, 1) := by decide +kernel
theorem ef_RR_2 (m : MethodId) (x0 : Addr) (x1 : Addr) : entryFrame m #[(.ref x0), (.ref x1)] 2 = mkF m 0 #[.val (.ref x0), .val (.ref x1)] [] := by first | (simp [entryFrame, mkF, argsToLocals, Value.category]; done) | rfl
def own_QA0 (Z : State) (a1 : Addr) (x0 : Addr) (mc : Int32) (h0 : Heap) (n0 : Nat) (v : Option Value) (h : Heap) (L : List Loc) : Prop := ∃ (b : Addr) (k : ClassId), v = some (.int (1 : Int32)) ∧ Fr n0 L ∧ Keep h0 h [a1] ∧ h0.size ≤ b ∧ Fld Z h a1 "java/util/AbstractList" "modCount" "I" (.int (mc + (1 : Int32))) ∧ Fld Z h a1 "java/util/ArrayList" "elementData" "[Ljava/lang/Object;" (.ref b) ∧ Fld Z h a1 "java/util/ArrayList" "size" "I" (.int (1 : Int32)) ∧ Arv Z h b k (.object "java/lang/Object") (10 : Int32) [(.ref x0), .null, .null, .null, .null, .null, .null, .null, .null, .null] .null ∧ Exa Z h b "[Ljava/lang/Object;" ∧ Ovr Z k "java/lang/Object"
set_option maxRecDepth 65536 in
set_option maxHeartbeats 40000000 in
theorem rmA0 (l : Launch) (Z : State) (a0 : Array Value) (hw : own_W a0 Z) (ws : List Jvm.Cond) (cs : Int32) (da el ea em ci mm : Addr) (kd ke : ClassId) (a1 : Addr) (x0 : Addr) (mc : Int32) (h0 : Heap) (n0 : Nat) (Z0 : n0 ≤ h0.size) (V_env : own_Env Z cs da el ea em ci mm kd ke) (Od : Old Z n0 h0) (E_a1 : Exa Z h0 a1 "java/util/ArrayList") (F_m : Fld Z h0 a1 "java/util/AbstractList" "modCount" "I" (.int mc)) (F_e : Fld Z h0 a1 "java/util/ArrayList" "elementData" "[Ljava/lang/Object;" (.ref da)) (F_s : Fld Z h0 a1 "java/util/ArrayList" "size" "I" (.int (0 : Int32))) (g_1 : n0 ≤ a1) (E_x0 : Exa Z h0 x0 "com/example/lithe_checker/lithechecker/c/CType$Member") : own_Met l Z mn11 jdk_38_method_25_code 2 (some .boolean) ws (own_R 4 1 10 71) #[(.ref a1), (.ref x0)] h0 (own_QA0 Z a1 x0 mc h0 n0) := by
  refine own_enter n0 (plainFor_of_name own_pn37) (fun m => ef_RR_2 m a1 x0 ) (fun p e s m below meth c s₁ hx hby hlk hml hret hown hnm hZ X0 e0 N0 => ?_)
  show own_Fin _ _ _ _ _ _ _ s₁ (mkF m 0 #[Rv a1, Rv x0] [])
  have Kp37 : Keep h0 h0 [a1] := Keep.refl h0 _
  obtain ⟨T38, X38, e38, st38⟩ := getF X0 hx hZ hown (host := "") (Or.inl (own_g hw 143)) (Via.of (own_g hw 144)) e0 F_m (g := (mkF m 2 #[Rv a1, Rv x0] [(.ref a1), (.ref a1)])) rfl rfl (hb hby d20_2)
  obtain ⟨T39, h39, X39, e39, W39, st39⟩ := putF X38 hx hZ hown (host := "") (Or.inl (own_g hw 143)) (Via.of (own_g hw 144)) e38 F_m E_a1 (Or.inl (own_g hw 46)) (own_g hw 27) (ty := .int) (by decide) rfl rfl (g := (mkF m 7 #[Rv a1, Rv x0] [(.int (mc + (1 : Int32))), (.ref a1)])) rfl rfl (hb hby d20_7)
  have Fw39 : Fld Z h39 a1 "java/util/AbstractList" "modCount" "I" (.int (mc + (1 : Int32))) := F_m.same W39
  have Kp39 : Keep h0 h39 [a1] := Kp37.wr W39 (Or.inl (List.mem_of_getElem? (i := 0) rfl))
  have Zs39 : n0 ≤ h39.size := Nat.le_trans Z0 (Keep.of_wr W39).1
  have N39 := Fr.snoc X39 N0 g_1
  have f40_0 : Old Z n0 h39 := Od.wr W39 g_1
  have f40_1 : Exa Z h39 a1 "java/util/ArrayList" := E_a1.wr W39
  have f40_3 : Fld Z h39 a1 "java/util/ArrayList" "elementData" "[Ljava/lang/Object;" (.ref da) := F_e.other W39 (Or.inr (slot_ne (Or.inl (own_g hw 49)) (Or.inl (own_g hw 46)) (by decide) (t := (.array (.object "java/lang/Object"))) (t' := .int) (by decide) (by decide)))
  have f40_4 : Fld Z h39 a1 "java/util/ArrayList" "size" "I" (.int (0 : Int32)) := F_s.other W39 (Or.inr (slot_ne (Or.inl (own_g hw 79)) (Or.inl (own_g hw 46)) (by decide) (t := .int) (t' := .int) (by decide) (by decide)))
  have f40_5 : Exa Z h39 x0 "com/example/lithe_checker/lithechecker/c/CType$Member" := E_x0.wr W39
  have f40_7 : Exa Z h39 el "java/util/ImmutableCollections$ListN" := (V_env.2.2.2.2.2.1.ext Od.2).wr W39
  have f40_10 : Exa Z h39 em "java/lang/Object" := (V_env.2.2.2.2.2.2.2.2.2.1.ext Od.2).wr W39
  have f40_11 : Exa Z h39 ci "com/example/lithe_checker/lithechecker/c/CType$IntegerType" := (V_env.2.2.2.2.2.2.2.2.2.2.2.1.ext Od.2).wr W39
  obtain ⟨T41, X41, e41, st41⟩ := getF X39 hx hZ hown (host := "") (Or.inl (own_g hw 48)) Via.refl e39 f40_3 (g := (mkF m 13 #[Rv a1, Rv x0] [(.ref a1), (.ref x0), (.ref a1)])) rfl rfl (hb hby d20_13)
  refine own_by (fun _ k => XS.aloadN X0.here hx rfl (hb hby d20_0) rfl rfl (XS.dup X0.here hx rfl (hb hby d20_1) rfl rfl (st38 _ (XS.iconst X38.here hx rfl (hb hby d20_5) (XS.iadd X38.here hx rfl (hb hby d20_6) rfl (st39 _ (XS.aloadN X39.here hx rfl (hb hby d20_10) rfl rfl (XS.aloadN X39.here hx rfl (hb hby d20_11) rfl rfl (XS.aloadN X39.here hx rfl (hb hby d20_12) rfl rfl (st41 _ k)))))))))) ?_
  show own_Fin _ _ _ _ _ _ _ T41 (mkF m 16 #[Rv a1, Rv x0] [(.ref da), (.ref x0), (.ref a1)])
  obtain ⟨T42, X42, e42, st42⟩ := getF X41 hx hZ hown (host := "") (Or.inl (own_g hw 78)) Via.refl e41 f40_4 (g := (mkF m 17 #[Rv a1, Rv x0] [(.ref a1), (.ref da), (.ref x0), (.ref a1)])) rfl rfl (hb hby d20_17)
  obtain ⟨cq43, q43, q43'⟩ := f40_1.cell
  obtain ⟨_, _, ⟨T43, L43, k43, n43⟩, -, X43, ⟨Lc43, hQ43, l43, y43, z43⟩, st43⟩ := X42.privateBack hx (y := mn10) hown (own_m hZ hw 145) (own_m hZ hw 146) (own_m hZ hw 148) (Cond.privateMethod_at (mvP hZ (own_g hw 147) (args := #[]))) (own_m hZ hw 149) (by decide) (backOf (W := 0) (rmAD0 l Z a0 hw [] cs da el ea em ci mm kd ke a1 x0 (mc + (1 : Int32)) h39 n0 Zs39 V_env f40_0 f40_1 Fw39 f40_3 f40_4 g_1 f40_5) hZ (own_g hw 149) (own_g hw 28) (by decide) (by decide)) (g := (mkF m 20 #[Rv a1, Rv x0] [(.int 0), (.ref da), (.ref x0), (.ref a1)])) rfl (by rw [hml]; rfl) (Steps.refl _) (a := a1) (by rw [e42]; exact q43) q43' (argsL := [(.ref x0), (.ref da), (.int (0 : Int32))]) (rest := []) (lenOf own_pd105 rfl) rfl (own_z rfl) (hb hby d20_20) (fun _ _ => ⟨rfl, e42, (by decide : 0 + 1 ≤ _), (by decide : 0 + 10 ≤ _)⟩)
  dsimp only [Pt.U, Pt.locs, Pt.cells, Pt.slots] at X43 l43 y43 z43 st43 hQ43
  subst l43 y43 z43
  obtain ⟨b43, k43, rfl, Nq43, K43, ge43, Gm43, Ge43, Gs43, V43, Eb43, Ov43⟩ := hQ43
  have N43 := Fr.app N39 Nq43
  have Zs43 : n0 ≤ T43.heap.size := Nat.le_trans Zs39 K43.1
  have Kp43 : Keep h0 T43.heap [a1] := Kp39.trans K43 (allS (Or.inl (List.mem_of_getElem? (i := 0) rfl)) all0)
  have f44_0 : Old Z n0 T43.heap := f40_0.keep K43 (allS g_1 all0)
  have f44_1 : Exa Z T43.heap a1 "java/util/ArrayList" := f40_1.keep K43
  have f44_4 : Exa Z T43.heap x0 "com/example/lithe_checker/lithechecker/c/CType$Member" := f40_5.keep K43
  have f44_5 : Exa Z T43.heap el "java/util/ImmutableCollections$ListN" := f40_7.keep K43
  have f44_6 : Exa Z T43.heap em "java/lang/Object" := f40_10.keep K43
  have f44_7 : Exa Z T43.heap ci "com/example/lithe_checker/lithechecker/c/CType$IntegerType" := f40_11.keep K43
  have sz_b43 : h0.size ≤ b43 := Nat.le_trans Kp39.1 ge43
  refine own_by (fun _ k => XS.aloadN X41.here hx rfl (hb hby d20_16) rfl rfl (st42 _ (st43.trans (XS.iconst X43.here hx rfl (hb hby d20_23) k)))) ?_
  exact own_retZ X43 hx hlk (t := .boolean) hret (by simp) (hb hby d20_24) ⟨_, _, rfl, N43, Kp43, sz_b43, Gm43, Ge43, Gs43, V43, Eb43, Ov43⟩ (by decide) (by decide)
def own_QAD1 (Z : State) (a1 : Addr) (b : Addr) (k : ClassId) (x0 x1 : Addr) (mc : Int32) (h0 : Heap) (n0 : Nat) (v : Option Value) (h : Heap) (L : List Loc) : Prop := v = none ∧ Fr n0 L ∧ Keep h0 h [a1, b] ∧ Fld Z h a1 "java/util/AbstractList" "modCount" "I" (.int mc) ∧ Fld Z h a1 "java/util/ArrayList" "elementData" "[Ljava/lang/Object;" (.ref b) ∧ Fld Z h a1 "java/util/ArrayList" "size" "I" (.int (2 : Int32)) ∧ Arv Z h b k (.object "java/lang/Object") (10 : Int32) [(.ref x0), (.ref x1), .null, .null, .null, .null, .null, .null, .null, .null] .null ∧ Exa Z h b "[Ljava/lang/Object;"
set_option maxRecDepth 65536 in
set_option maxHeartbeats 40000000 in
theorem rmAD1 (l : Launch) (Z : State) (a0 : Array Value) (hw : own_W a0 Z) (ws : List Jvm.Cond) (cs : Int32) (da el ea em ci mm : Addr) (kd ke : ClassId) (a1 : Addr) (b : Addr) (k : ClassId) (x0 x1 : Addr) (mc : Int32) (h0 : Heap) (n0 : Nat) (Z0 : n0 ≤ h0.size) (V_env : own_Env Z cs da el ea em ci mm kd ke) (Od : Old Z n0 h0) (E_a1 : Exa Z h0 a1 "java/util/ArrayList") (F_m : Fld Z h0 a1 "java/util/AbstractList" "modCount" "I" (.int mc)) (F_e : Fld Z h0 a1 "java/util/ArrayList" "elementData" "[Ljava/lang/Object;" (.ref b)) (F_s : Fld Z h0 a1 "java/util/ArrayList" "size" "I" (.int (1 : Int32))) (g_1 : n0 ≤ a1) (V_b : Arv Z h0 b k (.object "java/lang/Object") (10 : Int32) [(.ref x0), .null, .null, .null, .null, .null, .null, .null, .null, .null] .null) (E_b : Exa Z h0 b "[Ljava/lang/Object;") (O_b : Ovr Z k "java/lang/Object") (g_b : n0 ≤ b) (ne1b : a1 ≠ b) (E_x1 : Exa Z h0 x1 "com/example/lithe_checker/lithechecker/c/CType$Member") : own_Met l Z mn10 jdk_38_method_24_code 4 none ws (own_R 3 0 0 52) #[(.ref a1), (.ref x1), (.ref b), (.int (1 : Int32))] h0 (own_QAD1 Z a1 b k x0 x1 mc h0 n0) := by
  refine own_enter n0 (plainFor_of_name own_pn37) (fun m => ef_RRRI_4 m a1 x1 b (1 : Int32) ) (fun p e s m below meth c s₁ hx hby hlk hml hret hown hnm hZ X0 e0 N0 => ?_)
  show own_Fin _ _ _ _ _ _ _ s₁ (mkF m 0 #[Rv a1, Rv x1, Rv b, Iv 1] [])
  have Kp45 : Keep h0 h0 [a1, b] := Keep.refl h0 _
  obtain ⟨cl46, Ar46, -, S46, M46, -, -⟩ := id V_b
  refine own_by (fun _ k => XS.iloadN X0.here hx rfl (hb hby d21_0) rfl (XS.aloadN X0.here hx rfl (hb hby d21_1) rfl rfl (X0.arraylength hx (by rw [e0]; exact Ar46.1) (State.isArrayOf_alike hZ.alike Ar46.2.1) (g := (mkF m 2 #[Rv a1, Rv x1, Rv b, Iv 1] [(.ref b), (.int 1)])) rfl rfl (hb hby d21_2) _ k))) ?_
  rw [len_of S46 M46]
  show own_Fin _ _ _ _ _ _ _ s₁ (mkF m 3 #[Rv a1, Rv x1, Rv b, Iv 1] [(.int 10), (.int 1)])
  obtain ⟨cl47, Ar47, q47, S47, M47, H47, G47⟩ := id V_b
  have hin47 : ¬ ((1 : Int32) < 0 ∨ cl47.slots.size ≤ ((1 : Int32)).toNatClampNeg) := inb_of S47 ⟨by decide, by decide⟩
  obtain ⟨T47, h47, X47, e47, W47, st47⟩ := stR X0 hx hZ e0 Ar47 (j := (1 : Int32)) (v := (.ref x1)) hin47 rfl (Sto.ofV Ar47 q47 O_b (Ins.of_exa E_x1 (own_g hw 166))) (g := (mkF m 14 #[Rv a1, Rv x1, Rv b, Iv 1] [(.ref x1), (.int 1), (.ref b)])) rfl rfl (hb hby d21_14)
  have V47 : Arv Z h47 b k (.object "java/lang/Object") (10 : Int32) [(.ref x0), (.ref x1), .null, .null, .null, .null, .null, .null, .null, .null] .null := Arv.set Ar47 q47 S47 M47 H47 G47 rfl W47 1 rfl (Nat.le_of_ble_eq_true rfl)
  have Kp47 : Keep h0 h47 [a1, b] := Kp45.wr W47 (Or.inl (List.mem_of_getElem? (i := 1) rfl))
  have Zs47 : n0 ≤ h47.size := Nat.le_trans Z0 (Keep.of_wr W47).1
  have N47 := Fr.snoc X47 N0 g_b
  have f48_0 : Old Z n0 h47 := Od.wr W47 g_b
  have f48_1 : Exa Z h47 a1 "java/util/ArrayList" := E_a1.wr W47
  have f48_2 : Fld Z h47 a1 "java/util/AbstractList" "modCount" "I" (.int mc) := F_m.other W47 (Or.inl ne1b)
  have f48_3 : Fld Z h47 a1 "java/util/ArrayList" "elementData" "[Ljava/lang/Object;" (.ref b) := F_e.other W47 (Or.inl ne1b)
  have f48_4 : Fld Z h47 a1 "java/util/ArrayList" "size" "I" (.int (1 : Int32)) := F_s.other W47 (Or.inl ne1b)
  have f48_5 : Exa Z h47 x1 "com/example/lithe_checker/lithechecker/c/CType$Member" := E_x1.wr W47
  have f48_7 : Exa Z h47 b "[Ljava/lang/Object;" := E_b.wr W47
  refine own_by (fun _ k => XS.icmpYes X0.here hx rfl (pc0 := 3) (pc' := 11) rfl (hb hby d21_3) rfl (feq (by decide : ¬ ((1 : Int32) = (10 : Int32)))).2 (by decide) (by decide) (XS.aloadN X0.here hx rfl (hb hby d21_11) rfl rfl (XS.iloadN X0.here hx rfl (hb hby d21_12) rfl (XS.aloadN X0.here hx rfl (hb hby d21_13) rfl rfl (st47 _ (XS.aloadN X47.here hx rfl (hb hby d21_15) rfl rfl (XS.iloadN X47.here hx rfl (hb hby d21_16) rfl (XS.iconst X47.here hx rfl (hb hby d21_17) (XS.iadd X47.here hx rfl (hb hby d21_18) rfl k))))))))) ?_
  show own_Fin _ _ _ _ _ _ _ T47 (mkF m 19 #[Rv a1, Rv x1, Rv b, Iv 1] [(.int ((1 : Int32) + (1 : Int32))), (.ref a1)])
  rw [(by decide : ((1 : Int32) + (1 : Int32)) = (2 : Int32))]
  show own_Fin _ _ _ _ _ _ _ T47 (mkF m 19 #[Rv a1, Rv x1, Rv b, Iv 1] [(.int 2), (.ref a1)])
  obtain ⟨T49, h49, X49, e49, W49, st49⟩ := putF X47 hx hZ hown (host := "") (Or.inl (own_g hw 78)) Via.refl e47 f48_4 f48_1 (Or.inl (own_g hw 79)) (own_g hw 27) (ty := .int) (by decide) rfl rfl (g := (mkF m 19 #[Rv a1, Rv x1, Rv b, Iv 1] [(.int 2), (.ref a1)])) rfl rfl (hb hby d21_19)
  have Fw49 : Fld Z h49 a1 "java/util/ArrayList" "size" "I" (.int (2 : Int32)) := f48_4.same W49
  have Kp49 : Keep h0 h49 [a1, b] := Kp47.wr W49 (Or.inl (List.mem_of_getElem? (i := 0) rfl))
  have Zs49 : n0 ≤ h49.size := Nat.le_trans Zs47 (Keep.of_wr W49).1
  have N49 := Fr.snoc X49 N47 g_1
  have f50_0 : Old Z n0 h49 := f48_0.wr W49 g_1
  have f50_1 : Exa Z h49 a1 "java/util/ArrayList" := f48_1.wr W49
  have f50_2 : Fld Z h49 a1 "java/util/AbstractList" "modCount" "I" (.int mc) := f48_2.other W49 (Or.inr (slot_ne (Or.inl (own_g hw 46)) (Or.inl (own_g hw 79)) (by decide) (t := .int) (t' := .int) (by decide) (by decide)))
  have f50_3 : Fld Z h49 a1 "java/util/ArrayList" "elementData" "[Ljava/lang/Object;" (.ref b) := f48_3.other W49 (Or.inr (slot_ne (Or.inl (own_g hw 49)) (Or.inl (own_g hw 79)) (by decide) (t := (.array (.object "java/lang/Object"))) (t' := .int) (by decide) (by decide)))
  have f50_5 : Exa Z h49 x1 "com/example/lithe_checker/lithechecker/c/CType$Member" := f48_5.wr W49
  have f50_6 : Exa Z h49 b "[Ljava/lang/Object;" := f48_7.wr W49
  have f50_7 : Arv Z h49 b k (.object "java/lang/Object") (10 : Int32) [(.ref x0), (.ref x1), .null, .null, .null, .null, .null, .null, .null, .null] .null := V47.other W49 (Ne.symm ne1b)
  refine own_by (fun _ k => st49 _ k) ?_
  exact own_retV X49 hx hlk hret (hb hby d21_22) (by rw [e49]; exact ⟨rfl, N49, Kp49, f50_2, f50_3, Fw49, f50_7, f50_6⟩) (by decide) (by decide)
def own_QA1 (Z : State) (a1 : Addr) (b : Addr) (k : ClassId) (x0 x1 : Addr) (mc : Int32) (h0 : Heap) (n0 : Nat) (v : Option Value) (h : Heap) (L : List Loc) : Prop := v = some (.int (1 : Int32)) ∧ Fr n0 L ∧ Keep h0 h [a1, b] ∧ Fld Z h a1 "java/util/AbstractList" "modCount" "I" (.int (mc + (1 : Int32))) ∧ Fld Z h a1 "java/util/ArrayList" "elementData" "[Ljava/lang/Object;" (.ref b) ∧ Fld Z h a1 "java/util/ArrayList" "size" "I" (.int (2 : Int32)) ∧ Arv Z h b k (.object "java/lang/Object") (10 : Int32) [(.ref x0), (.ref x1), .null, .null, .null, .null, .null, .null, .null, .null] .null ∧ Exa Z h b "[Ljava/lang/Object;"
set_option maxRecDepth 65536 in
set_option maxHeartbeats 40000000 in
theorem rmA1 (l : Launch) (Z : State) (a0 : Array Value) (hw : own_W a0 Z) (ws : List Jvm.Cond) (cs : Int32) (da el ea em ci mm : Addr) (kd ke : ClassId) (a1 : Addr) (b : Addr) (k : ClassId) (x0 x1 : Addr) (mc : Int32) (h0 : Heap) (n0 : Nat) (Z0 : n0 ≤ h0.size) (V_env : own_Env Z cs da el ea em ci mm kd ke) (Od : Old Z n0 h0) (E_a1 : Exa Z h0 a1 "java/util/ArrayList") (F_m : Fld Z h0 a1 "java/util/AbstractList" "modCount" "I" (.int mc)) (F_e : Fld Z h0 a1 "java/util/ArrayList" "elementData" "[Ljava/lang/Object;" (.ref b)) (F_s : Fld Z h0 a1 "java/util/ArrayList" "size" "I" (.int (1 : Int32))) (g_1 : n0 ≤ a1) (V_b : Arv Z h0 b k (.object "java/lang/Object") (10 : Int32) [(.ref x0), .null, .null, .null, .null, .null, .null, .null, .null, .null] .null) (E_b : Exa Z h0 b "[Ljava/lang/Object;") (O_b : Ovr Z k "java/lang/Object") (g_b : n0 ≤ b) (ne1b : a1 ≠ b) (E_x1 : Exa Z h0 x1 "com/example/lithe_checker/lithechecker/c/CType$Member") : own_Met l Z mn11 jdk_38_method_25_code 2 (some .boolean) ws (own_R 4 0 0 71) #[(.ref a1), (.ref x1)] h0 (own_QA1 Z a1 b k x0 x1 mc h0 n0) := by
  refine own_enter n0 (plainFor_of_name own_pn37) (fun m => ef_RR_2 m a1 x1 ) (fun p e s m below meth c s₁ hx hby hlk hml hret hown hnm hZ X0 e0 N0 => ?_)
  show own_Fin _ _ _ _ _ _ _ s₁ (mkF m 0 #[Rv a1, Rv x1] [])
  have Kp51 : Keep h0 h0 [a1, b] := Keep.refl h0 _
  obtain ⟨T52, X52, e52, st52⟩ := getF X0 hx hZ hown (host := "") (Or.inl (own_g hw 143)) (Via.of (own_g hw 144)) e0 F_m (g := (mkF m 2 #[Rv a1, Rv x1] [(.ref a1), (.ref a1)])) rfl rfl (hb hby d20_2)
  obtain ⟨T53, h53, X53, e53, W53, st53⟩ := putF X52 hx hZ hown (host := "") (Or.inl (own_g hw 143)) (Via.of (own_g hw 144)) e52 F_m E_a1 (Or.inl (own_g hw 46)) (own_g hw 27) (ty := .int) (by decide) rfl rfl (g := (mkF m 7 #[Rv a1, Rv x1] [(.int (mc + (1 : Int32))), (.ref a1)])) rfl rfl (hb hby d20_7)
  have Fw53 : Fld Z h53 a1 "java/util/AbstractList" "modCount" "I" (.int (mc + (1 : Int32))) := F_m.same W53
  have Kp53 : Keep h0 h53 [a1, b] := Kp51.wr W53 (Or.inl (List.mem_of_getElem? (i := 0) rfl))
  have Zs53 : n0 ≤ h53.size := Nat.le_trans Z0 (Keep.of_wr W53).1
  have N53 := Fr.snoc X53 N0 g_1
  have f54_0 : Old Z n0 h53 := Od.wr W53 g_1
  have f54_1 : Exa Z h53 a1 "java/util/ArrayList" := E_a1.wr W53
  have f54_3 : Fld Z h53 a1 "java/util/ArrayList" "elementData" "[Ljava/lang/Object;" (.ref b) := F_e.other W53 (Or.inr (slot_ne (Or.inl (own_g hw 49)) (Or.inl (own_g hw 46)) (by decide) (t := (.array (.object "java/lang/Object"))) (t' := .int) (by decide) (by decide)))
  have f54_4 : Fld Z h53 a1 "java/util/ArrayList" "size" "I" (.int (1 : Int32)) := F_s.other W53 (Or.inr (slot_ne (Or.inl (own_g hw 79)) (Or.inl (own_g hw 46)) (by decide) (t := .int) (t' := .int) (by decide) (by decide)))
  have f54_5 : Exa Z h53 x1 "com/example/lithe_checker/lithechecker/c/CType$Member" := E_x1.wr W53
  have f54_6 : Arv Z h53 b k (.object "java/lang/Object") (10 : Int32) [(.ref x0), .null, .null, .null, .null, .null, .null, .null, .null, .null] .null := V_b.other W53 (Ne.symm ne1b)
  have f54_7 : Exa Z h53 b "[Ljava/lang/Object;" := E_b.wr W53
  obtain ⟨T55, X55, e55, st55⟩ := getF X53 hx hZ hown (host := "") (Or.inl (own_g hw 48)) Via.refl e53 f54_3 (g := (mkF m 13 #[Rv a1, Rv x1] [(.ref a1), (.ref x1), (.ref a1)])) rfl rfl (hb hby d20_13)
  refine own_by (fun _ k => XS.aloadN X0.here hx rfl (hb hby d20_0) rfl rfl (XS.dup X0.here hx rfl (hb hby d20_1) rfl rfl (st52 _ (XS.iconst X52.here hx rfl (hb hby d20_5) (XS.iadd X52.here hx rfl (hb hby d20_6) rfl (st53 _ (XS.aloadN X53.here hx rfl (hb hby d20_10) rfl rfl (XS.aloadN X53.here hx rfl (hb hby d20_11) rfl rfl (XS.aloadN X53.here hx rfl (hb hby d20_12) rfl rfl (st55 _ k)))))))))) ?_
  show own_Fin _ _ _ _ _ _ _ T55 (mkF m 16 #[Rv a1, Rv x1] [(.ref b), (.ref x1), (.ref a1)])
  obtain ⟨T56, X56, e56, st56⟩ := getF X55 hx hZ hown (host := "") (Or.inl (own_g hw 78)) Via.refl e55 f54_4 (g := (mkF m 17 #[Rv a1, Rv x1] [(.ref a1), (.ref b), (.ref x1), (.ref a1)])) rfl rfl (hb hby d20_17)
  obtain ⟨cq57, q57, q57'⟩ := f54_1.cell
  obtain ⟨_, _, ⟨T57, L57, k57, n57⟩, -, X57, ⟨Lc57, hQ57, l57, y57, z57⟩, st57⟩ := X56.privateBack hx (y := mn10) hown (own_m hZ hw 145) (own_m hZ hw 146) (own_m hZ hw 148) (Cond.privateMethod_at (mvP hZ (own_g hw 147) (args := #[]))) (own_m hZ hw 149) (by decide) (backOf (W := 0) (rmAD1 l Z a0 hw [] cs da el ea em ci mm kd ke a1 b k x0 x1 (mc + (1 : Int32)) h53 n0 Zs53 V_env f54_0 f54_1 Fw53 f54_3 f54_4 g_1 f54_6 f54_7 O_b g_b ne1b f54_5) hZ (own_g hw 149) (own_g hw 28) (by decide) (by decide)) (g := (mkF m 20 #[Rv a1, Rv x1] [(.int 1), (.ref b), (.ref x1), (.ref a1)])) rfl (by rw [hml]; rfl) (Steps.refl _) (a := a1) (by rw [e56]; exact q57) q57' (argsL := [(.ref x1), (.ref b), (.int (1 : Int32))]) (rest := []) (lenOf own_pd105 rfl) rfl (own_z rfl) (hb hby d20_20) (fun _ _ => ⟨rfl, e56, (by decide : 0 + 0 ≤ _), (by decide : 0 + 0 ≤ _)⟩)
  dsimp only [Pt.U, Pt.locs, Pt.cells, Pt.slots] at X57 l57 y57 z57 st57 hQ57
  subst l57 y57 z57
  obtain ⟨rfl, Nq57, K57, Gm57, Ge57, Gs57, V57, Eb57⟩ := hQ57
  have N57 := Fr.app N53 Nq57
  have Zs57 : n0 ≤ T57.heap.size := Nat.le_trans Zs53 K57.1
  have Kp57 : Keep h0 T57.heap [a1, b] := Kp53.trans K57 (allS (Or.inl (List.mem_of_getElem? (i := 0) rfl)) (allS (Or.inl (List.mem_of_getElem? (i := 1) rfl)) all0))
  have f58_0 : Old Z n0 T57.heap := f54_0.keep K57 (allS g_1 (allS g_b all0))
  have f58_1 : Exa Z T57.heap a1 "java/util/ArrayList" := f54_1.keep K57
  have f58_4 : Exa Z T57.heap x1 "com/example/lithe_checker/lithechecker/c/CType$Member" := f54_5.keep K57
  have f58_6 : Exa Z T57.heap b "[Ljava/lang/Object;" := f54_7.keep K57
  refine own_by (fun _ k => XS.aloadN X55.here hx rfl (hb hby d20_16) rfl rfl (st56 _ (st57.trans (XS.iconst X57.here hx rfl (hb hby d20_23) k)))) ?_
  exact own_retZ X57 hx hlk (t := .boolean) hret (by simp) (hb hby d20_24) ⟨rfl, N57, Kp57, Gm57, Ge57, Gs57, V57, Eb57⟩ (by decide) (by decide)
def own_QAD2 (Z : State) (a1 : Addr) (b : Addr) (k : ClassId) (x0 x1 x2 : Addr) (mc : Int32) (h0 : Heap) (n0 : Nat) (v : Option Value) (h : Heap) (L : List Loc) : Prop := v = none ∧ Fr n0 L ∧ Keep h0 h [a1, b] ∧ Fld Z h a1 "java/util/AbstractList" "modCount" "I" (.int mc) ∧ Fld Z h a1 "java/util/ArrayList" "elementData" "[Ljava/lang/Object;" (.ref b) ∧ Fld Z h a1 "java/util/ArrayList" "size" "I" (.int (3 : Int32)) ∧ Arv Z h b k (.object "java/lang/Object") (10 : Int32) [(.ref x0), (.ref x1), (.ref x2), .null, .null, .null, .null, .null, .null, .null] .null ∧ Exa Z h b "[Ljava/lang/Object;"
set_option maxRecDepth 65536 in
set_option maxHeartbeats 40000000 in
theorem rmAD2 (l : Launch) (Z : State) (a0 : Array Value) (hw : own_W a0 Z) (ws : List Jvm.Cond) (cs : Int32) (da el ea em ci mm : Addr) (kd ke : ClassId) (a1 : Addr) (b : Addr) (k : ClassId) (x0 x1 x2 : Addr) (mc : Int32) (h0 : Heap) (n0 : Nat) (Z0 : n0 ≤ h0.size) (V_env : own_Env Z cs da el ea em ci mm kd ke) (Od : Old Z n0 h0) (E_a1 : Exa Z h0 a1 "java/util/ArrayList") (F_m : Fld Z h0 a1 "java/util/AbstractList" "modCount" "I" (.int mc)) (F_e : Fld Z h0 a1 "java/util/ArrayList" "elementData" "[Ljava/lang/Object;" (.ref b)) (F_s : Fld Z h0 a1 "java/util/ArrayList" "size" "I" (.int (2 : Int32))) (g_1 : n0 ≤ a1) (V_b : Arv Z h0 b k (.object "java/lang/Object") (10 : Int32) [(.ref x0), (.ref x1), .null, .null, .null, .null, .null, .null, .null, .null] .null) (E_b : Exa Z h0 b "[Ljava/lang/Object;") (O_b : Ovr Z k "java/lang/Object") (g_b : n0 ≤ b) (ne1b : a1 ≠ b) (E_x2 : Exa Z h0 x2 "com/example/lithe_checker/lithechecker/c/CType$Member") : own_Met l Z mn10 jdk_38_method_24_code 4 none ws (own_R 3 0 0 52) #[(.ref a1), (.ref x2), (.ref b), (.int (2 : Int32))] h0 (own_QAD2 Z a1 b k x0 x1 x2 mc h0 n0) := by
  refine own_enter n0 (plainFor_of_name own_pn37) (fun m => ef_RRRI_4 m a1 x2 b (2 : Int32) ) (fun p e s m below meth c s₁ hx hby hlk hml hret hown hnm hZ X0 e0 N0 => ?_)
  show own_Fin _ _ _ _ _ _ _ s₁ (mkF m 0 #[Rv a1, Rv x2, Rv b, Iv 2] [])
  have Kp59 : Keep h0 h0 [a1, b] := Keep.refl h0 _
  obtain ⟨cl60, Ar60, -, S60, M60, -, -⟩ := id V_b
  refine own_by (fun _ k => XS.iloadN X0.here hx rfl (hb hby d21_0) rfl (XS.aloadN X0.here hx rfl (hb hby d21_1) rfl rfl (X0.arraylength hx (by rw [e0]; exact Ar60.1) (State.isArrayOf_alike hZ.alike Ar60.2.1) (g := (mkF m 2 #[Rv a1, Rv x2, Rv b, Iv 2] [(.ref b), (.int 2)])) rfl rfl (hb hby d21_2) _ k))) ?_
  rw [len_of S60 M60]
  show own_Fin _ _ _ _ _ _ _ s₁ (mkF m 3 #[Rv a1, Rv x2, Rv b, Iv 2] [(.int 10), (.int 2)])
  obtain ⟨cl61, Ar61, q61, S61, M61, H61, G61⟩ := id V_b
  have hin61 : ¬ ((2 : Int32) < 0 ∨ cl61.slots.size ≤ ((2 : Int32)).toNatClampNeg) := inb_of S61 ⟨by decide, by decide⟩
  obtain ⟨T61, h61, X61, e61, W61, st61⟩ := stR X0 hx hZ e0 Ar61 (j := (2 : Int32)) (v := (.ref x2)) hin61 rfl (Sto.ofV Ar61 q61 O_b (Ins.of_exa E_x2 (own_g hw 166))) (g := (mkF m 14 #[Rv a1, Rv x2, Rv b, Iv 2] [(.ref x2), (.int 2), (.ref b)])) rfl rfl (hb hby d21_14)
  have V61 : Arv Z h61 b k (.object "java/lang/Object") (10 : Int32) [(.ref x0), (.ref x1), (.ref x2), .null, .null, .null, .null, .null, .null, .null] .null := Arv.set Ar61 q61 S61 M61 H61 G61 rfl W61 2 rfl (Nat.le_of_ble_eq_true rfl)
  have Kp61 : Keep h0 h61 [a1, b] := Kp59.wr W61 (Or.inl (List.mem_of_getElem? (i := 1) rfl))
  have Zs61 : n0 ≤ h61.size := Nat.le_trans Z0 (Keep.of_wr W61).1
  have N61 := Fr.snoc X61 N0 g_b
  have f62_0 : Old Z n0 h61 := Od.wr W61 g_b
  have f62_1 : Exa Z h61 a1 "java/util/ArrayList" := E_a1.wr W61
  have f62_2 : Fld Z h61 a1 "java/util/AbstractList" "modCount" "I" (.int mc) := F_m.other W61 (Or.inl ne1b)
  have f62_3 : Fld Z h61 a1 "java/util/ArrayList" "elementData" "[Ljava/lang/Object;" (.ref b) := F_e.other W61 (Or.inl ne1b)
  have f62_4 : Fld Z h61 a1 "java/util/ArrayList" "size" "I" (.int (2 : Int32)) := F_s.other W61 (Or.inl ne1b)
  have f62_5 : Exa Z h61 x2 "com/example/lithe_checker/lithechecker/c/CType$Member" := E_x2.wr W61
  have f62_7 : Exa Z h61 b "[Ljava/lang/Object;" := E_b.wr W61
  refine own_by (fun _ k => XS.icmpYes X0.here hx rfl (pc0 := 3) (pc' := 11) rfl (hb hby d21_3) rfl (feq (by decide : ¬ ((2 : Int32) = (10 : Int32)))).2 (by decide) (by decide) (XS.aloadN X0.here hx rfl (hb hby d21_11) rfl rfl (XS.iloadN X0.here hx rfl (hb hby d21_12) rfl (XS.aloadN X0.here hx rfl (hb hby d21_13) rfl rfl (st61 _ (XS.aloadN X61.here hx rfl (hb hby d21_15) rfl rfl (XS.iloadN X61.here hx rfl (hb hby d21_16) rfl (XS.iconst X61.here hx rfl (hb hby d21_17) (XS.iadd X61.here hx rfl (hb hby d21_18) rfl k))))))))) ?_
  show own_Fin _ _ _ _ _ _ _ T61 (mkF m 19 #[Rv a1, Rv x2, Rv b, Iv 2] [(.int ((2 : Int32) + (1 : Int32))), (.ref a1)])
  rw [(by decide : ((2 : Int32) + (1 : Int32)) = (3 : Int32))]
  show own_Fin _ _ _ _ _ _ _ T61 (mkF m 19 #[Rv a1, Rv x2, Rv b, Iv 2] [(.int 3), (.ref a1)])
  obtain ⟨T63, h63, X63, e63, W63, st63⟩ := putF X61 hx hZ hown (host := "") (Or.inl (own_g hw 78)) Via.refl e61 f62_4 f62_1 (Or.inl (own_g hw 79)) (own_g hw 27) (ty := .int) (by decide) rfl rfl (g := (mkF m 19 #[Rv a1, Rv x2, Rv b, Iv 2] [(.int 3), (.ref a1)])) rfl rfl (hb hby d21_19)
  have Fw63 : Fld Z h63 a1 "java/util/ArrayList" "size" "I" (.int (3 : Int32)) := f62_4.same W63
  have Kp63 : Keep h0 h63 [a1, b] := Kp61.wr W63 (Or.inl (List.mem_of_getElem? (i := 0) rfl))
  have Zs63 : n0 ≤ h63.size := Nat.le_trans Zs61 (Keep.of_wr W63).1
  have N63 := Fr.snoc X63 N61 g_1
  have f64_0 : Old Z n0 h63 := f62_0.wr W63 g_1
  have f64_1 : Exa Z h63 a1 "java/util/ArrayList" := f62_1.wr W63
  have f64_2 : Fld Z h63 a1 "java/util/AbstractList" "modCount" "I" (.int mc) := f62_2.other W63 (Or.inr (slot_ne (Or.inl (own_g hw 46)) (Or.inl (own_g hw 79)) (by decide) (t := .int) (t' := .int) (by decide) (by decide)))
  have f64_3 : Fld Z h63 a1 "java/util/ArrayList" "elementData" "[Ljava/lang/Object;" (.ref b) := f62_3.other W63 (Or.inr (slot_ne (Or.inl (own_g hw 49)) (Or.inl (own_g hw 79)) (by decide) (t := (.array (.object "java/lang/Object"))) (t' := .int) (by decide) (by decide)))
  have f64_5 : Exa Z h63 x2 "com/example/lithe_checker/lithechecker/c/CType$Member" := f62_5.wr W63
  have f64_6 : Exa Z h63 b "[Ljava/lang/Object;" := f62_7.wr W63
  have f64_7 : Arv Z h63 b k (.object "java/lang/Object") (10 : Int32) [(.ref x0), (.ref x1), (.ref x2), .null, .null, .null, .null, .null, .null, .null] .null := V61.other W63 (Ne.symm ne1b)
  refine own_by (fun _ k => st63 _ k) ?_
  exact own_retV X63 hx hlk hret (hb hby d21_22) (by rw [e63]; exact ⟨rfl, N63, Kp63, f64_2, f64_3, Fw63, f64_7, f64_6⟩) (by decide) (by decide)
def own_QA2 (Z : State) (a1 : Addr) (b : Addr) (k : ClassId) (x0 x1 x2 : Addr) (mc : Int32) (h0 : Heap) (n0 : Nat) (v : Option Value) (h : Heap) (L : List Loc) : Prop := v = some (.int (1 : Int32)) ∧ Fr n0 L ∧ Keep h0 h [a1, b] ∧ Fld Z h a1 "java/util/AbstractList" "modCount" "I" (.int (mc + (1 : Int32))) ∧ Fld Z h a1 "java/util/ArrayList" "elementData" "[Ljava/lang/Object;" (.ref b) ∧ Fld Z h a1 "java/util/ArrayList" "size" "I" (.int (3 : Int32)) ∧ Arv Z h b k (.object "java/lang/Object") (10 : Int32) [(.ref x0), (.ref x1), (.ref x2), .null, .null, .null, .null, .null, .null, .null] .null ∧ Exa Z h b "[Ljava/lang/Object;"
set_option maxRecDepth 65536 in
set_option maxHeartbeats 40000000 in
theorem rmA2 (l : Launch) (Z : State) (a0 : Array Value) (hw : own_W a0 Z) (ws : List Jvm.Cond) (cs : Int32) (da el ea em ci mm : Addr) (kd ke : ClassId) (a1 : Addr) (b : Addr) (k : ClassId) (x0 x1 x2 : Addr) (mc : Int32) (h0 : Heap) (n0 : Nat) (Z0 : n0 ≤ h0.size) (V_env : own_Env Z cs da el ea em ci mm kd ke) (Od : Old Z n0 h0) (E_a1 : Exa Z h0 a1 "java/util/ArrayList") (F_m : Fld Z h0 a1 "java/util/AbstractList" "modCount" "I" (.int mc)) (F_e : Fld Z h0 a1 "java/util/ArrayList" "elementData" "[Ljava/lang/Object;" (.ref b)) (F_s : Fld Z h0 a1 "java/util/ArrayList" "size" "I" (.int (2 : Int32))) (g_1 : n0 ≤ a1) (V_b : Arv Z h0 b k (.object "java/lang/Object") (10 : Int32) [(.ref x0), (.ref x1), .null, .null, .null, .null, .null, .null, .null, .null] .null) (E_b : Exa Z h0 b "[Ljava/lang/Object;") (O_b : Ovr Z k "java/lang/Object") (g_b : n0 ≤ b) (ne1b : a1 ≠ b) (E_x2 : Exa Z h0 x2 "com/example/lithe_checker/lithechecker/c/CType$Member") : own_Met l Z mn11 jdk_38_method_25_code 2 (some .boolean) ws (own_R 4 0 0 71) #[(.ref a1), (.ref x2)] h0 (own_QA2 Z a1 b k x0 x1 x2 mc h0 n0) := by
  refine own_enter n0 (plainFor_of_name own_pn37) (fun m => ef_RR_2 m a1 x2 ) (fun p e s m below meth c s₁ hx hby hlk hml hret hown hnm hZ X0 e0 N0 => ?_)
  show own_Fin _ _ _ _ _ _ _ s₁ (mkF m 0 #[Rv a1, Rv x2] [])
  have Kp65 : Keep h0 h0 [a1, b] := Keep.refl h0 _
  obtain ⟨T66, X66, e66, st66⟩ := getF X0 hx hZ hown (host := "") (Or.inl (own_g hw 143)) (Via.of (own_g hw 144)) e0 F_m (g := (mkF m 2 #[Rv a1, Rv x2] [(.ref a1), (.ref a1)])) rfl rfl (hb hby d20_2)
  obtain ⟨T67, h67, X67, e67, W67, st67⟩ := putF X66 hx hZ hown (host := "") (Or.inl (own_g hw 143)) (Via.of (own_g hw 144)) e66 F_m E_a1 (Or.inl (own_g hw 46)) (own_g hw 27) (ty := .int) (by decide) rfl rfl (g := (mkF m 7 #[Rv a1, Rv x2] [(.int (mc + (1 : Int32))), (.ref a1)])) rfl rfl (hb hby d20_7)
  have Fw67 : Fld Z h67 a1 "java/util/AbstractList" "modCount" "I" (.int (mc + (1 : Int32))) := F_m.same W67
  have Kp67 : Keep h0 h67 [a1, b] := Kp65.wr W67 (Or.inl (List.mem_of_getElem? (i := 0) rfl))
  have Zs67 : n0 ≤ h67.size := Nat.le_trans Z0 (Keep.of_wr W67).1
  have N67 := Fr.snoc X67 N0 g_1
  have f68_0 : Old Z n0 h67 := Od.wr W67 g_1
  have f68_1 : Exa Z h67 a1 "java/util/ArrayList" := E_a1.wr W67
  have f68_3 : Fld Z h67 a1 "java/util/ArrayList" "elementData" "[Ljava/lang/Object;" (.ref b) := F_e.other W67 (Or.inr (slot_ne (Or.inl (own_g hw 49)) (Or.inl (own_g hw 46)) (by decide) (t := (.array (.object "java/lang/Object"))) (t' := .int) (by decide) (by decide)))
  have f68_4 : Fld Z h67 a1 "java/util/ArrayList" "size" "I" (.int (2 : Int32)) := F_s.other W67 (Or.inr (slot_ne (Or.inl (own_g hw 79)) (Or.inl (own_g hw 46)) (by decide) (t := .int) (t' := .int) (by decide) (by decide)))
  have f68_5 : Exa Z h67 x2 "com/example/lithe_checker/lithechecker/c/CType$Member" := E_x2.wr W67
  have f68_6 : Arv Z h67 b k (.object "java/lang/Object") (10 : Int32) [(.ref x0), (.ref x1), .null, .null, .null, .null, .null, .null, .null, .null] .null := V_b.other W67 (Ne.symm ne1b)
  have f68_7 : Exa Z h67 b "[Ljava/lang/Object;" := E_b.wr W67
  obtain ⟨T69, X69, e69, st69⟩ := getF X67 hx hZ hown (host := "") (Or.inl (own_g hw 48)) Via.refl e67 f68_3 (g := (mkF m 13 #[Rv a1, Rv x2] [(.ref a1), (.ref x2), (.ref a1)])) rfl rfl (hb hby d20_13)
  refine own_by (fun _ k => XS.aloadN X0.here hx rfl (hb hby d20_0) rfl rfl (XS.dup X0.here hx rfl (hb hby d20_1) rfl rfl (st66 _ (XS.iconst X66.here hx rfl (hb hby d20_5) (XS.iadd X66.here hx rfl (hb hby d20_6) rfl (st67 _ (XS.aloadN X67.here hx rfl (hb hby d20_10) rfl rfl (XS.aloadN X67.here hx rfl (hb hby d20_11) rfl rfl (XS.aloadN X67.here hx rfl (hb hby d20_12) rfl rfl (st69 _ k)))))))))) ?_
  show own_Fin _ _ _ _ _ _ _ T69 (mkF m 16 #[Rv a1, Rv x2] [(.ref b), (.ref x2), (.ref a1)])
  obtain ⟨T70, X70, e70, st70⟩ := getF X69 hx hZ hown (host := "") (Or.inl (own_g hw 78)) Via.refl e69 f68_4 (g := (mkF m 17 #[Rv a1, Rv x2] [(.ref a1), (.ref b), (.ref x2), (.ref a1)])) rfl rfl (hb hby d20_17)
  obtain ⟨cq71, q71, q71'⟩ := f68_1.cell
  obtain ⟨_, _, ⟨T71, L71, k71, n71⟩, -, X71, ⟨Lc71, hQ71, l71, y71, z71⟩, st71⟩ := X70.privateBack hx (y := mn10) hown (own_m hZ hw 145) (own_m hZ hw 146) (own_m hZ hw 148) (Cond.privateMethod_at (mvP hZ (own_g hw 147) (args := #[]))) (own_m hZ hw 149) (by decide) (backOf (W := 0) (rmAD2 l Z a0 hw [] cs da el ea em ci mm kd ke a1 b k x0 x1 x2 (mc + (1 : Int32)) h67 n0 Zs67 V_env f68_0 f68_1 Fw67 f68_3 f68_4 g_1 f68_6 f68_7 O_b g_b ne1b f68_5) hZ (own_g hw 149) (own_g hw 28) (by decide) (by decide)) (g := (mkF m 20 #[Rv a1, Rv x2] [(.int 2), (.ref b), (.ref x2), (.ref a1)])) rfl (by rw [hml]; rfl) (Steps.refl _) (a := a1) (by rw [e70]; exact q71) q71' (argsL := [(.ref x2), (.ref b), (.int (2 : Int32))]) (rest := []) (lenOf own_pd105 rfl) rfl (own_z rfl) (hb hby d20_20) (fun _ _ => ⟨rfl, e70, (by decide : 0 + 0 ≤ _), (by decide : 0 + 0 ≤ _)⟩)
  dsimp only [Pt.U, Pt.locs, Pt.cells, Pt.slots] at X71 l71 y71 z71 st71 hQ71
  subst l71 y71 z71
  obtain ⟨rfl, Nq71, K71, Gm71, Ge71, Gs71, V71, Eb71⟩ := hQ71
  have N71 := Fr.app N67 Nq71
  have Zs71 : n0 ≤ T71.heap.size := Nat.le_trans Zs67 K71.1
  have Kp71 : Keep h0 T71.heap [a1, b] := Kp67.trans K71 (allS (Or.inl (List.mem_of_getElem? (i := 0) rfl)) (allS (Or.inl (List.mem_of_getElem? (i := 1) rfl)) all0))
  have f72_0 : Old Z n0 T71.heap := f68_0.keep K71 (allS g_1 (allS g_b all0))
  have f72_1 : Exa Z T71.heap a1 "java/util/ArrayList" := f68_1.keep K71
  have f72_4 : Exa Z T71.heap x2 "com/example/lithe_checker/lithechecker/c/CType$Member" := f68_5.keep K71
  have f72_6 : Exa Z T71.heap b "[Ljava/lang/Object;" := f68_7.keep K71
  refine own_by (fun _ k => XS.aloadN X69.here hx rfl (hb hby d20_16) rfl rfl (st70 _ (st71.trans (XS.iconst X71.here hx rfl (hb hby d20_23) k)))) ?_
  exact own_retZ X71 hx hlk (t := .boolean) hret (by simp) (hb hby d20_24) ⟨rfl, N71, Kp71, Gm71, Ge71, Gs71, V71, Eb71⟩ (by decide) (by decide)
theorem d11_0 : decode jdk_38_method_9_code 0 = .ok (.aload_n 0, 1) := by decide +kernel
theorem d11_1 : decode jdk_38_method_9_code 1 = .ok (.getfield 48, 3) := by decide +kernel
theorem d11_4 : decode jdk_38_method_9_code 4 = .ok (.ifCond .ne 7, 3) := by decide +kernel
theorem d11_7 : decode jdk_38_method_9_code 7 = .ok (.iconst 1, 1) := by decide +kernel
theorem d11_8 : decode jdk_38_method_9_code 8 = .ok (.goto 4, 3) := by decide +kernel
theorem d11_12 : decode jdk_38_method_9_code 12 = .ok (.ireturn, 1) := by decide +kernel
def own_QrmIE0 (h0 : Heap) (n0 : Nat) (v : Option Value) (h : Heap) (L : List Loc) : Prop := v = some (.int (1 : Int32)) ∧ Fr n0 L ∧ h = h0
theorem rmIE0 (l : Launch) (Z : State) (a0 : Array Value) (hw : own_W a0 Z) (ws : List Jvm.Cond) (a1 : Addr) (h0 : Heap) (n0 : Nat) (Z0 : n0 ≤ h0.size) (F_s : Fld Z h0 a1 "java/util/ArrayList" "size" "I" (.int (0 : Int32))) : own_Met l Z mn12 jdk_38_method_9_code 1 (some .boolean) ws (own_R 0 0 0 0) #[(.ref a1)] h0 (own_QrmIE0 h0 n0) := by
  refine own_enter n0 (plainFor_of_name own_pn37) (fun m => ef_R_1 m a1 ) (fun p e s m below meth c s₁ hx hby hlk hml hret hown hnm hZ X0 e0 N0 => ?_)
  show own_Fin _ _ _ _ _ _ _ s₁ (mkF m 0 #[Rv a1] [])
  obtain ⟨T73, X73, e73, st73⟩ := getF X0 hx hZ hown (host := "") (Or.inl (own_g hw 78)) Via.refl e0 F_s (g := (mkF m 1 #[Rv a1] [(.ref a1)])) rfl rfl (hb hby d11_1)
  refine own_by (fun _ k => XS.aloadN X0.here hx rfl (hb hby d11_0) rfl rfl (st73 _ (XS.ifNo X73.here hx rfl (hb hby d11_4) rfl ((if0 _ _).trans (teq (by decide : (0 : Int32) = (0 : Int32))).2) (XS.iconst X73.here hx rfl (hb hby d11_7) (XS.goto X73.here hx rfl (pc0 := 8) (pc' := 12) rfl (hb hby d11_8) (by decide) (by decide) k))))) ?_
  exact own_retZ X73 hx hlk (t := .boolean) hret (by simp) (hb hby d11_12) ⟨rfl, N0, e73⟩ (by decide) (by decide)
theorem d11_11 : decode jdk_38_method_9_code 11 = .ok (.iconst 0, 1) := by decide +kernel
def own_QrmIE1 (h0 : Heap) (n0 : Nat) (v : Option Value) (h : Heap) (L : List Loc) : Prop := v = some (.int (0 : Int32)) ∧ Fr n0 L ∧ h = h0
theorem rmIE1 (l : Launch) (Z : State) (a0 : Array Value) (hw : own_W a0 Z) (ws : List Jvm.Cond) (a1 : Addr) (h0 : Heap) (n0 : Nat) (Z0 : n0 ≤ h0.size) (F_s : Fld Z h0 a1 "java/util/ArrayList" "size" "I" (.int (1 : Int32))) : own_Met l Z mn12 jdk_38_method_9_code 1 (some .boolean) ws (own_R 0 0 0 0) #[(.ref a1)] h0 (own_QrmIE1 h0 n0) := by
  refine own_enter n0 (plainFor_of_name own_pn37) (fun m => ef_R_1 m a1 ) (fun p e s m below meth c s₁ hx hby hlk hml hret hown hnm hZ X0 e0 N0 => ?_)
  show own_Fin _ _ _ _ _ _ _ s₁ (mkF m 0 #[Rv a1] [])
  obtain ⟨T74, X74, e74, st74⟩ := getF X0 hx hZ hown (host := "") (Or.inl (own_g hw 78)) Via.refl e0 F_s (g := (mkF m 1 #[Rv a1] [(.ref a1)])) rfl rfl (hb hby d11_1)
  refine own_by (fun _ k => XS.aloadN X0.here hx rfl (hb hby d11_0) rfl rfl (st74 _ (XS.ifYes X74.here hx rfl (pc0 := 4) (pc' := 11) rfl (hb hby d11_4) rfl ((if0 _ _).trans (feq (by decide : ¬ ((1 : Int32) = (0 : Int32)))).2) (by decide) (by decide) (XS.iconst X74.here hx rfl (hb hby d11_11) k)))) ?_
  exact own_retZ X74 hx hlk (t := .boolean) hret (by simp) (hb hby d11_12) ⟨rfl, N0, e74⟩ (by decide) (by decide)
def own_QrmIE2 (h0 : Heap) (n0 : Nat) (v : Option Value) (h : Heap) (L : List Loc) : Prop := v = some (.int (0 : Int32)) ∧ Fr n0 L ∧ h = h0
theorem rmIE2 (l : Launch) (Z : State) (a0 : Array Value) (hw : own_W a0 Z) (ws : List Jvm.Cond) (a1 : Addr) (h0 : Heap) (n0 : Nat) (Z0 : n0 ≤ h0.size) (F_s : Fld Z h0 a1 "java/util/ArrayList" "size" "I" (.int (2 : Int32))) : own_Met l Z mn12 jdk_38_method_9_code 1 (some .boolean) ws (own_R 0 0 0 0) #[(.ref a1)] h0 (own_QrmIE2 h0 n0) := by
  refine own_enter n0 (plainFor_of_name own_pn37) (fun m => ef_R_1 m a1 ) (fun p e s m below meth c s₁ hx hby hlk hml hret hown hnm hZ X0 e0 N0 => ?_)
  show own_Fin _ _ _ _ _ _ _ s₁ (mkF m 0 #[Rv a1] [])
  obtain ⟨T75, X75, e75, st75⟩ := getF X0 hx hZ hown (host := "") (Or.inl (own_g hw 78)) Via.refl e0 F_s (g := (mkF m 1 #[Rv a1] [(.ref a1)])) rfl rfl (hb hby d11_1)
  refine own_by (fun _ k => XS.aloadN X0.here hx rfl (hb hby d11_0) rfl rfl (st75 _ (XS.ifYes X75.here hx rfl (pc0 := 4) (pc' := 11) rfl (hb hby d11_4) rfl ((if0 _ _).trans (feq (by decide : ¬ ((2 : Int32) = (0 : Int32)))).2) (by decide) (by decide) (XS.iconst X75.here hx rfl (hb hby d11_11) k)))) ?_
  exact own_retZ X75 hx hlk (t := .boolean) hret (by simp) (hb hby d11_12) ⟨rfl, N0, e75⟩ (by decide) (by decide)
def own_QrmIE3 (h0 : Heap) (n0 : Nat) (v : Option Value) (h : Heap) (L : List Loc) : Prop := v = some (.int (0 : Int32)) ∧ Fr n0 L ∧ h = h0
theorem rmIE3 (l : Launch) (Z : State) (a0 : Array Value) (hw : own_W a0 Z) (ws : List Jvm.Cond) (a1 : Addr) (h0 : Heap) (n0 : Nat) (Z0 : n0 ≤ h0.size) (F_s : Fld Z h0 a1 "java/util/ArrayList" "size" "I" (.int (3 : Int32))) : own_Met l Z mn12 jdk_38_method_9_code 1 (some .boolean) ws (own_R 0 0 0 0) #[(.ref a1)] h0 (own_QrmIE3 h0 n0) := by
  refine own_enter n0 (plainFor_of_name own_pn37) (fun m => ef_R_1 m a1 ) (fun p e s m below meth c s₁ hx hby hlk hml hret hown hnm hZ X0 e0 N0 => ?_)
  show own_Fin _ _ _ _ _ _ _ s₁ (mkF m 0 #[Rv a1] [])
  obtain ⟨T76, X76, e76, st76⟩ := getF X0 hx hZ hown (host := "") (Or.inl (own_g hw 78)) Via.refl e0 F_s (g := (mkF m 1 #[Rv a1] [(.ref a1)])) rfl rfl (hb hby d11_1)
  refine own_by (fun _ k => XS.aloadN X0.here hx rfl (hb hby d11_0) rfl rfl (st76 _ (XS.ifYes X76.here hx rfl (pc0 := 4) (pc' := 11) rfl (hb hby d11_4) rfl ((if0 _ _).trans (feq (by decide : ¬ ((3 : Int32) = (0 : Int32)))).2) (by decide) (by decide) (XS.iconst X76.here hx rfl (hb hby d11_11) k)))) ?_
  exact own_retZ X76 hx hlk (t := .boolean) hret (by simp) (hb hby d11_12) ⟨rfl, N0, e76⟩ (by decide) (by decide)
theorem own_pn116 : plainName "java/util/Arrays" = true := by first | (simp [plainName, overriddenIn]; done) | decide +kernel
theorem d27_0 : decode jdk_65_method_120_code 0 = .ok (.aload_n 2, 1) := by decide +kernel
theorem d27_1 : decode jdk_65_method_120_code 1 = .ok (.ldc 110, 2) := by decide +kernel
theorem d27_3 : decode jdk_65_method_120_code 3 = .ok (.if_acmp .ne 10, 3) := by decide +kernel
theorem d27_6 : decode jdk_65_method_120_code 6 = .ok (.iload_n 1, 1) := by decide +kernel
theorem d27_7 : decode jdk_65_method_120_code 7 = .ok (.anewarray 2, 3) := by decide +kernel
theorem d27_10 : decode jdk_65_method_120_code 10 = .ok (.goto 14, 3) := by decide +kernel
theorem d27_24 : decode jdk_65_method_120_code 24 = .ok (.astore_n 3, 1) := by decide +kernel
theorem d27_25 : decode jdk_65_method_120_code 25 = .ok (.aload_n 0, 1) := by decide +kernel
theorem d27_26 : decode jdk_65_method_120_code 26 = .ok (.iconst 0, 1) := by decide +kernel
theorem d27_27 : decode jdk_65_method_120_code 27 = .ok (.aload_n 3, 1) := by decide +kernel
theorem d27_28 : decode jdk_65_method_120_code 28 = .ok (.iconst 0, 1) := by decide +kernel
theorem d27_29 : decode jdk_65_method_120_code 29 = .ok (.aload_n 0, 1) := by decide +kernel
theorem d27_30 : decode jdk_65_method_120_code 30 = .ok (.arraylength, 1) := by decide +kernel
theorem d27_31 : decode jdk_65_method_120_code 31 = .ok (.iload_n 1, 1) := by decide +kernel
theorem d27_32 : decode jdk_65_method_120_code 32 = .ok (.invokestatic 304, 3) := by decide +kernel
theorem d27_35 : decode jdk_65_method_120_code 35 = .ok (.invokestatic 150, 3) := by decide +kernel
theorem d27_38 : decode jdk_65_method_120_code 38 = .ok (.aload_n 3, 1) := by decide +kernel
theorem d27_39 : decode jdk_65_method_120_code 39 = .ok (.areturn, 1) := by decide +kernel
theorem ef_RIR_4 (m : MethodId) (x0 : Addr) (x1 : Int32) (x2 : Addr) : entryFrame m #[(.ref x0), (.int x1), (.ref x2)] 4 = mkF m 0 #[.val (.ref x0), .val (.int x1), .val (.ref x2), .unset] [] := by first | (simp [entryFrame, mkF, argsToLocals, Value.category]; done) | rfl
def own_QNA1 (Z : State) (x0 : Addr) (h0 : Heap) (n0 : Nat) (v : Option Value) (h : Heap) (L : List Loc) : Prop := ∃ (a : Addr) (k : ClassId), v = some (.ref a) ∧ Fr n0 L ∧ Keep h0 h [] ∧ h0.size ≤ a ∧ Arv Z h a k (.object "java/lang/Object") (1 : Int32) [(.ref x0)] .null
set_option maxRecDepth 65536 in
set_option maxHeartbeats 40000000 in
theorem rmC3_1 (l : Launch) (Z : State) (a0 : Array Value) (hw : own_W a0 Z) (ws : List Jvm.Cond) (cs : Int32) (da el ea em ci mm : Addr) (kd ke : ClassId) (b : Addr) (k : ClassId) (x0 : Addr) (h0 : Heap) (n0 : Nat) (Z0 : n0 ≤ h0.size) (V_env : own_Env Z cs da el ea em ci mm kd ke) (Od : Old Z n0 h0) (V_b : Arv Z h0 b k (.object "java/lang/Object") (10 : Int32) [(.ref x0), .null, .null, .null, .null, .null, .null, .null, .null, .null] .null) (E_b : Exa Z h0 b "[Ljava/lang/Object;") (E_x0 : Exa Z h0 x0 "com/example/lithe_checker/lithechecker/c/CType$Member") : own_Met l Z mn13 jdk_65_method_120_code 4 (some (.array (.object "java/lang/Object"))) ws (own_R 1 1 1 46) #[(.ref b), (.int (1 : Int32)), (.ref mm)] h0 (own_QNA1 Z x0 h0 n0) := by
  refine own_enter n0 (plainFor_of_name own_pn116) (fun m => ef_RIR_4 m b (1 : Int32) mm ) (fun p e s m below meth c s₁ hx hby hlk hml hret hown hnm hZ X0 e0 N0 => ?_)
  show own_Fin _ _ _ _ _ _ _ s₁ (mkF m 0 #[Rv b, Iv 1, Rv mm, Uv] [])
  have Kp77 : Keep h0 h0 [] := Keep.refl h0 _
  obtain ⟨T78, X78, e78, st78⟩ := own_ldcM X0 hx hZ hown (own_g hw 188) e0 V_env.2.2.2.2.2.2.2.2.2.2.2.2 (g := (mkF m 1 #[Rv b, Iv 1, Rv mm, Uv] [(.ref mm)])) rfl (hb hby d27_1)
  obtain ⟨T79, h79, k79, X79, e79, E79, A79, Ex79, Ov79, st79⟩ := newRE X78 hx hZ hown (own_g hw 189) (own_g hw 165) e78 (g := (mkF m 7 #[Rv b, Iv 1, Rv mm, Uv] [(.int 1)])) rfl (hb hby d27_7) rfl (by decide) (cap := 1) (by decide) (by decide) (by decide) (by decide) (ad := "[Ljava/lang/Object;") (by decide +kernel)
  obtain ⟨b79, g79⟩ : ∃ z, z = h0.size := ⟨_, rfl⟩
  rw [← g79] at A79 Ex79 st79
  have V79 : Arv Z h79 b79 k79 (.object "java/lang/Object") (1 : Int32) [.null] .null := (Arv.new A79 (by decide)).pad (pad_rep [] .null 1)
  have ne79_b : b ≠ b79 := Nat.ne_of_lt (Nat.lt_of_lt_of_le V_b.lt (Nat.le_of_eq g79.symm))
  have ne79_x0 : x0 ≠ b79 := Nat.ne_of_lt (Nat.lt_of_lt_of_le E_x0.lt (Nat.le_of_eq g79.symm))
  have gf79 : n0 ≤ b79 := Nat.le_trans Z0 (Nat.le_of_eq g79.symm)
  have Zs79 : n0 ≤ h79.size := Nat.le_trans Z0 E79.1
  have Kp79 : Keep h0 h79 [] := Kp77.ext E79
  have sz_b79 : h0.size ≤ b79 := Nat.le_trans Kp77.1 (Nat.le_of_eq g79.symm)
  have f80_0 : Old Z n0 h79 := Od.ext E79
  have f80_1 : Arv Z h79 b k (.object "java/lang/Object") (10 : Int32) [(.ref x0), .null, .null, .null, .null, .null, .null, .null, .null, .null] .null := V_b.ext E79
  have f80_2 : Exa Z h79 b "[Ljava/lang/Object;" := E_b.ext E79
  have f80_3 : Exa Z h79 x0 "com/example/lithe_checker/lithechecker/c/CType$Member" := E_x0.ext E79
  refine own_by (fun _ k => XS.aloadN X0.here hx rfl (hb hby d27_0) rfl rfl (st78 _ (Jvm.RoadKit.acmp (g := (mkF m 3 #[Rv b, Iv 1, Rv mm, Uv] [(.ref mm), (.ref mm)])) X78 hx rfl rfl rfl (pc0 := 3) (pc' := 6) (same := true) rfl (hb hby d27_3) rfl (decide_eq_true rfl) (by decide) (by decide) (XS.iloadN X78.here hx rfl (hb hby d27_6) rfl (st79 _ (XS.goto X79.here hx rfl (pc0 := 10) (pc' := 24) rfl (hb hby d27_10) (by decide) (by decide) (XS.astoreN X79.here hx rfl (hb hby d27_24) rfl rfl (l' := #[Rv b, Iv 1, Rv mm, Rv b79]) rfl (XS.aloadN X79.here hx rfl (hb hby d27_25) rfl rfl (XS.iconst X79.here hx rfl (hb hby d27_26) (XS.aloadN X79.here hx rfl (hb hby d27_27) rfl rfl k)))))))))) ?_
  show own_Fin _ _ _ _ _ _ _ T79 (mkF m 28 #[Rv b, Iv 1, Rv mm, Rv b79] [(.ref b79), (.int 0), (.ref b)])
  obtain ⟨cl81, Ar81, -, S81, M81, -, -⟩ := id f80_1
  refine own_by (fun _ k => XS.iconst X79.here hx rfl (hb hby d27_28) (XS.aloadN X79.here hx rfl (hb hby d27_29) rfl rfl (X79.arraylength hx (by rw [e79]; exact Ar81.1) (State.isArrayOf_alike hZ.alike Ar81.2.1) (g := (mkF m 30 #[Rv b, Iv 1, Rv mm, Rv b79] [(.ref b), (.int 0), (.ref b79), (.int 0), (.ref b)])) rfl rfl (hb hby d27_30) _ k))) ?_
  rw [len_of S81 M81]
  show own_Fin _ _ _ _ _ _ _ T79 (mkF m 31 #[Rv b, Iv 1, Rv mm, Rv b79] [(.int 10), (.int 0), (.ref b79), (.int 0), (.ref b)])
  obtain ⟨_, _, ⟨T82, L82, k82, n82⟩, -, X82, ⟨Lc82, hQ82, l82, y82, z82⟩, st82⟩ := LawKit.callS X79 hx (y := mn5) hown (own_m hZ hw 190) (own_m hZ hw 191) (own_m hZ hw 162) (own_m hZ hw 192) (by decide) (backOf (W := 4) (rmmin_10_1 l Z a0 hw []  h79 n0 Zs79 ) hZ (own_g hw 192) (own_g hw 162) (by decide) (by decide)) (g := (mkF m 32 #[Rv b, Iv 1, Rv mm, Rv b79] [(.int 1), (.int 10), (.int 0), (.ref b79), (.int 0), (.ref b)])) rfl (by rw [hml]; rfl) (argsL := [(.int (10 : Int32)), (.int (1 : Int32))]) (rest := [(.int (0 : Int32)), (.ref b79), (.int (0 : Int32)), (.ref b)]) (lenOf own_pd59 rfl) rfl (own_z rfl) (hb hby d27_32) (fun _ _ => ⟨rfl, e79, (by decide : 1 + 0 ≤ _), (by decide : 1 + 0 ≤ _)⟩)
  dsimp only [Pt.U, Pt.locs, Pt.cells, Pt.slots] at X82 l82 y82 z82 st82 hQ82
  subst l82 y82 z82
  obtain ⟨rfl, Nq82, eh82⟩ := hQ82
  have N82 := Fr.app N0 Nq82
  obtain ⟨cl83, Ar83, q83, -⟩ := id V79
  obtain ⟨T83, h83, L83, X83, e83, N83, K83, Vc83, st83⟩ := cpA X82 hx hZ hown (own_g hw 193) (own_g hw 196) (own_g hw 194) (own_g hw 195) eh82 f80_1 V79 (us := [(.ref x0)]) (Or.inr ⟨rfl, rfl, ⟨Sto.ofV Ar83 q83 Ov79 (Ins.of_exa f80_3 (own_g hw 166)), trivial⟩⟩) (by decide) (by decide) (by decide) (by decide) (by decide) rfl (by decide) N82 gf79 (g := (mkF m 35 #[Rv b, Iv 1, Rv mm, Rv b79] [(.int 1), (.int 0), (.ref b79), (.int 0), (.ref b)])) rfl (by rw [hml]; rfl) rfl (hb hby d27_35) (by decide) (W := 0) (own_z rfl) (by decide)
  have V83 : Arv Z h83 b79 k79 (.object "java/lang/Object") (1 : Int32) [(.ref x0)] .null := Vc83
  have Zs83 : n0 ≤ h83.size := Nat.le_trans Zs79 K83.1
  have Kp83 : Keep h0 h83 [] := Kp79.trans K83 (allS (Or.inr sz_b79) all0)
  have f84_0 : Old Z n0 h83 := f80_0.keep K83 (allS gf79 all0)
  have f84_1 : Arv Z h83 b k (.object "java/lang/Object") (10 : Int32) [(.ref x0), .null, .null, .null, .null, .null, .null, .null, .null, .null] .null := f80_1.keep K83 (ninS ne79_b nin0)
  have f84_2 : Exa Z h83 b "[Ljava/lang/Object;" := f80_2.keep K83
  have f84_3 : Exa Z h83 x0 "com/example/lithe_checker/lithechecker/c/CType$Member" := f80_3.keep K83
  have f84_5 : Exa Z h83 b79 "[Ljava/lang/Object;" := Ex79.keep K83
  refine own_by (fun _ k => XS.iloadN X79.here hx rfl (hb hby d27_31) rfl (st82 _ (st83 _ (XS.aloadN X83.here hx rfl (hb hby d27_38) rfl rfl k)))) ?_
  exact own_retA X83 hx hlk (t := (.array (.object "java/lang/Object"))) hret rfl rfl rfl (hb hby d27_39) (by rw [e83]; exact ⟨_, _, rfl, N83, Kp83, sz_b79, V83⟩) (by decide) (by decide)
theorem d26_0 : decode jdk_65_method_119_code 0 = .ok (.aload_n 0, 1) := by decide +kernel
theorem d26_1 : decode jdk_65_method_119_code 1 = .ok (.iload_n 1, 1) := by decide +kernel
theorem d26_2 : decode jdk_65_method_119_code 2 = .ok (.aload_n 0, 1) := by decide +kernel
theorem d26_3 : decode jdk_65_method_119_code 3 = .ok (.invokevirtual 86, 3) := by decide +kernel
theorem d26_6 : decode jdk_65_method_119_code 6 = .ok (.invokestatic 300, 3) := by decide +kernel
theorem own_pd141 : parseMethodDescriptor "([Ljava/lang/Object;ILjava/lang/Class;)[Ljava/lang/Object;" = some ⟨[(.array (.object "java/lang/Object")), .int, (.object "java/lang/Class")], some (.array (.object "java/lang/Object"))⟩ := by decide +kernel
theorem d26_9 : decode jdk_65_method_119_code 9 = .ok (.areturn, 1) := by decide +kernel
theorem ef_RI_2 (m : MethodId) (x0 : Addr) (x1 : Int32) : entryFrame m #[(.ref x0), (.int x1)] 2 = mkF m 0 #[.val (.ref x0), .val (.int x1)] [] := by first | (simp [entryFrame, mkF, argsToLocals, Value.category]; done) | rfl
theorem rmC2_1 (l : Launch) (Z : State) (a0 : Array Value) (hw : own_W a0 Z) (ws : List Jvm.Cond) (cs : Int32) (da el ea em ci mm : Addr) (kd ke : ClassId) (b : Addr) (k : ClassId) (x0 : Addr) (h0 : Heap) (n0 : Nat) (Z0 : n0 ≤ h0.size) (V_env : own_Env Z cs da el ea em ci mm kd ke) (Od : Old Z n0 h0) (V_b : Arv Z h0 b k (.object "java/lang/Object") (10 : Int32) [(.ref x0), .null, .null, .null, .null, .null, .null, .null, .null, .null] .null) (E_b : Exa Z h0 b "[Ljava/lang/Object;") (E_x0 : Exa Z h0 x0 "com/example/lithe_checker/lithechecker/c/CType$Member") : own_Met l Z mn14 jdk_65_method_119_code 2 (some (.array (.object "java/lang/Object"))) ws (own_R 2 1 1 61) #[(.ref b), (.int (1 : Int32))] h0 (own_QNA1 Z x0 h0 n0) := by
  refine own_enter n0 (plainFor_of_name own_pn116) (fun m => ef_RI_2 m b (1 : Int32) ) (fun p e s m below meth c s₁ hx hby hlk hml hret hown hnm hZ X0 e0 N0 => ?_)
  show own_Fin _ _ _ _ _ _ _ s₁ (mkF m 0 #[Rv b, Iv 1] [])
  have Kp85 : Keep h0 h0 [] := Keep.refl h0 _
  obtain ⟨T86, X86, e86, st86⟩ := gcls X0 hx hZ hown (own_g hw 179) (own_g hw 180) (own_g hw 67) (own_g hw 182) (own_g hw 181) (own_g hw 183) e0 E_b V_env.2.2.2.2.2.2.2.2.2.2.2.2 (g := (mkF m 3 #[Rv b, Iv 1] [(.ref b), (.int 1), (.ref b)])) rfl (by rw [hml]; rfl) rfl (hb hby d26_3) (by decide) (W := 2) (own_z rfl) (by decide)
  obtain ⟨_, _, ⟨T87, L87, k87, n87⟩, -, X87, ⟨Lc87, hQ87, l87, y87, z87⟩, st87⟩ := LawKit.callS X86 hx (y := mn13) hown (own_m hZ hw 185) (own_m hZ hw 186) (own_m hZ hw 177) (own_m hZ hw 187) (by decide) (backOf (W := 0) (rmC3_1 l Z a0 hw [] cs da el ea em ci mm kd ke b k x0 h0 n0 Z0 V_env Od V_b E_b E_x0) hZ (own_g hw 187) (own_g hw 177) (by decide) (by decide)) (g := (mkF m 6 #[Rv b, Iv 1] [(.ref mm), (.int 1), (.ref b)])) rfl (by rw [hml]; rfl) (argsL := [(.ref b), (.int (1 : Int32)), (.ref mm)]) (rest := []) (lenOf own_pd141 rfl) rfl (own_z rfl) (hb hby d26_6) (fun _ _ => ⟨rfl, e86, (by decide : 0 + 1 ≤ _), (by decide : 0 + 1 ≤ _)⟩)
  dsimp only [Pt.U, Pt.locs, Pt.cells, Pt.slots] at X87 l87 y87 z87 st87 hQ87
  subst l87 y87 z87
  obtain ⟨b87, k87, rfl, Nq87, K87, ge87, V87⟩ := hQ87
  have N87 := Fr.app N0 Nq87
  have Zs87 : n0 ≤ T87.heap.size := Nat.le_trans Z0 K87.1
  have Kp87 : Keep h0 T87.heap [] := Kp85.trans K87 all0
  have f88_0 : Old Z n0 T87.heap := Od.keep K87 all0
  have f88_1 : Arv Z T87.heap b k (.object "java/lang/Object") (10 : Int32) [(.ref x0), .null, .null, .null, .null, .null, .null, .null, .null, .null] .null := V_b.keep K87 nin0
  have f88_2 : Exa Z T87.heap b "[Ljava/lang/Object;" := E_b.keep K87
  have f88_3 : Exa Z T87.heap x0 "com/example/lithe_checker/lithechecker/c/CType$Member" := E_x0.keep K87
  have ne87_b : b ≠ b87 := Nat.ne_of_lt (Nat.lt_of_lt_of_le V_b.lt ge87)
  have ne87_x0 : x0 ≠ b87 := Nat.ne_of_lt (Nat.lt_of_lt_of_le E_x0.lt ge87)
  have gf87 : n0 ≤ b87 := Nat.le_trans Z0 ge87
  have sz_b87 : h0.size ≤ b87 := Nat.le_trans Kp85.1 ge87
  refine own_by (fun _ k => XS.aloadN X0.here hx rfl (hb hby d26_0) rfl rfl (XS.iloadN X0.here hx rfl (hb hby d26_1) rfl (XS.aloadN X0.here hx rfl (hb hby d26_2) rfl rfl (st86 _ (st87 _ k))))) ?_
  exact own_retA X87 hx hlk (t := (.array (.object "java/lang/Object"))) hret rfl rfl rfl (hb hby d26_9) ⟨_, _, rfl, N87, Kp87, sz_b87, V87⟩ (by decide) (by decide)
theorem d25_0 : decode jdk_38_method_16_code 0 = .ok (.aload_n 0, 1) := by decide +kernel
theorem d25_1 : decode jdk_38_method_16_code 1 = .ok (.getfield 9, 3) := by decide +kernel
theorem d25_4 : decode jdk_38_method_16_code 4 = .ok (.aload_n 0, 1) := by decide +kernel
theorem d25_5 : decode jdk_38_method_16_code 5 = .ok (.getfield 48, 3) := by decide +kernel
theorem d25_8 : decode jdk_38_method_16_code 8 = .ok (.invokestatic 66, 3) := by decide +kernel
theorem own_pd148 : parseMethodDescriptor "([Ljava/lang/Object;I)[Ljava/lang/Object;" = some ⟨[(.array (.object "java/lang/Object")), .int], some (.array (.object "java/lang/Object"))⟩ := by decide +kernel
theorem d25_11 : decode jdk_38_method_16_code 11 = .ok (.areturn, 1) := by decide +kernel
theorem rmTA_1 (l : Launch) (Z : State) (a0 : Array Value) (hw : own_W a0 Z) (ws : List Jvm.Cond) (cs : Int32) (da el ea em ci mm : Addr) (kd ke : ClassId) (a1 b : Addr) (k : ClassId) (x0 : Addr) (h0 : Heap) (n0 : Nat) (Z0 : n0 ≤ h0.size) (V_env : own_Env Z cs da el ea em ci mm kd ke) (Od : Old Z n0 h0) (E_a1 : Exa Z h0 a1 "java/util/ArrayList") (F_e : Fld Z h0 a1 "java/util/ArrayList" "elementData" "[Ljava/lang/Object;" (.ref b)) (F_s : Fld Z h0 a1 "java/util/ArrayList" "size" "I" (.int (1 : Int32))) (V_b : Arv Z h0 b k (.object "java/lang/Object") (10 : Int32) [(.ref x0), .null, .null, .null, .null, .null, .null, .null, .null, .null] .null) (E_b : Exa Z h0 b "[Ljava/lang/Object;") (E_x0 : Exa Z h0 x0 "com/example/lithe_checker/lithechecker/c/CType$Member") : own_Met l Z mn15 jdk_38_method_16_code 1 (some (.array (.object "java/lang/Object"))) ws (own_R 3 1 1 74) #[(.ref a1)] h0 (own_QNA1 Z x0 h0 n0) := by
  refine own_enter n0 (plainFor_of_name own_pn37) (fun m => ef_R_1 m a1 ) (fun p e s m below meth c s₁ hx hby hlk hml hret hown hnm hZ X0 e0 N0 => ?_)
  show own_Fin _ _ _ _ _ _ _ s₁ (mkF m 0 #[Rv a1] [])
  have Kp89 : Keep h0 h0 [] := Keep.refl h0 _
  obtain ⟨T90, X90, e90, st90⟩ := getF X0 hx hZ hown (host := "") (Or.inl (own_g hw 48)) Via.refl e0 F_e (g := (mkF m 1 #[Rv a1] [(.ref a1)])) rfl rfl (hb hby d25_1)
  obtain ⟨T91, X91, e91, st91⟩ := getF X90 hx hZ hown (host := "") (Or.inl (own_g hw 78)) Via.refl e90 F_s (g := (mkF m 5 #[Rv a1] [(.ref a1), (.ref b)])) rfl rfl (hb hby d25_5)
  obtain ⟨_, _, ⟨T92, L92, k92, n92⟩, -, X92, ⟨Lc92, hQ92, l92, y92, z92⟩, st92⟩ := LawKit.callS X91 hx (y := mn14) hown (own_m hZ hw 175) (own_m hZ hw 176) (own_m hZ hw 177) (own_m hZ hw 178) (by decide) (backOf (W := 0) (rmC2_1 l Z a0 hw [] cs da el ea em ci mm kd ke b k x0 h0 n0 Z0 V_env Od V_b E_b E_x0) hZ (own_g hw 178) (own_g hw 177) (by decide) (by decide)) (g := (mkF m 8 #[Rv a1] [(.int 1), (.ref b)])) rfl (by rw [hml]; rfl) (argsL := [(.ref b), (.int (1 : Int32))]) (rest := []) (lenOf own_pd148 rfl) rfl (own_z rfl) (hb hby d25_8) (fun _ _ => ⟨rfl, e91, (by decide : 0 + 1 ≤ _), (by decide : 0 + 1 ≤ _)⟩)
  dsimp only [Pt.U, Pt.locs, Pt.cells, Pt.slots] at X92 l92 y92 z92 st92 hQ92
  subst l92 y92 z92
  obtain ⟨b92, k92, rfl, Nq92, K92, ge92, V92⟩ := hQ92
  have N92 := Fr.app N0 Nq92
  have Zs92 : n0 ≤ T92.heap.size := Nat.le_trans Z0 K92.1
  have Kp92 : Keep h0 T92.heap [] := Kp89.trans K92 all0
  have f93_0 : Old Z n0 T92.heap := Od.keep K92 all0
  have f93_1 : Arv Z T92.heap b k (.object "java/lang/Object") (10 : Int32) [(.ref x0), .null, .null, .null, .null, .null, .null, .null, .null, .null] .null := V_b.keep K92 nin0
  have f93_2 : Exa Z T92.heap b "[Ljava/lang/Object;" := E_b.keep K92
  have f93_3 : Exa Z T92.heap x0 "com/example/lithe_checker/lithechecker/c/CType$Member" := E_x0.keep K92
  have f93_4 : Exa Z T92.heap a1 "java/util/ArrayList" := E_a1.keep K92
  have f93_5 : Fld Z T92.heap a1 "java/util/ArrayList" "elementData" "[Ljava/lang/Object;" (.ref b) := F_e.keep K92 nin0
  have f93_6 : Fld Z T92.heap a1 "java/util/ArrayList" "size" "I" (.int (1 : Int32)) := F_s.keep K92 nin0
  have ne92_b : b ≠ b92 := Nat.ne_of_lt (Nat.lt_of_lt_of_le V_b.lt ge92)
  have ne92_x0 : x0 ≠ b92 := Nat.ne_of_lt (Nat.lt_of_lt_of_le E_x0.lt ge92)
  have ne92_a1 : a1 ≠ b92 := Nat.ne_of_lt (Nat.lt_of_lt_of_le E_a1.lt ge92)
  have gf92 : n0 ≤ b92 := Nat.le_trans Z0 ge92
  have sz_b92 : h0.size ≤ b92 := Nat.le_trans Kp89.1 ge92
  refine own_by (fun _ k => XS.aloadN X0.here hx rfl (hb hby d25_0) rfl rfl (st90 _ (XS.aloadN X90.here hx rfl (hb hby d25_4) rfl rfl (st91 _ (st92 _ k))))) ?_
  exact own_retA X92 hx hlk (t := (.array (.object "java/lang/Object"))) hret rfl rfl rfl (hb hby d25_11) ⟨_, _, rfl, N92, Kp92, sz_b92, V92⟩ (by decide) (by decide)
def own_QNA2 (Z : State) (x0 x1 : Addr) (h0 : Heap) (n0 : Nat) (v : Option Value) (h : Heap) (L : List Loc) : Prop := ∃ (a : Addr) (k : ClassId), v = some (.ref a) ∧ Fr n0 L ∧ Keep h0 h [] ∧ h0.size ≤ a ∧ Arv Z h a k (.object "java/lang/Object") (2 : Int32) [(.ref x0), (.ref x1)] .null
set_option maxRecDepth 65536 in
set_option maxHeartbeats 40000000 in
theorem rmC3_2 (l : Launch) (Z : State) (a0 : Array Value) (hw : own_W a0 Z) (ws : List Jvm.Cond) (cs : Int32) (da el ea em ci mm : Addr) (kd ke : ClassId) (b : Addr) (k : ClassId) (x0 x1 : Addr) (h0 : Heap) (n0 : Nat) (Z0 : n0 ≤ h0.size) (V_env : own_Env Z cs da el ea em ci mm kd ke) (Od : Old Z n0 h0) (V_b : Arv Z h0 b k (.object "java/lang/Object") (10 : Int32) [(.ref x0), (.ref x1), .null, .null, .null, .null, .null, .null, .null, .null] .null) (E_b : Exa Z h0 b "[Ljava/lang/Object;") (E_x0 : Exa Z h0 x0 "com/example/lithe_checker/lithechecker/c/CType$Member") (E_x1 : Exa Z h0 x1 "com/example/lithe_checker/lithechecker/c/CType$Member") : own_Met l Z mn13 jdk_65_method_120_code 4 (some (.array (.object "java/lang/Object"))) ws (own_R 1 1 2 46) #[(.ref b), (.int (2 : Int32)), (.ref mm)] h0 (own_QNA2 Z x0 x1 h0 n0) := by
  refine own_enter n0 (plainFor_of_name own_pn116) (fun m => ef_RIR_4 m b (2 : Int32) mm ) (fun p e s m below meth c s₁ hx hby hlk hml hret hown hnm hZ X0 e0 N0 => ?_)
  show own_Fin _ _ _ _ _ _ _ s₁ (mkF m 0 #[Rv b, Iv 2, Rv mm, Uv] [])
  have Kp94 : Keep h0 h0 [] := Keep.refl h0 _
  obtain ⟨T95, X95, e95, st95⟩ := own_ldcM X0 hx hZ hown (own_g hw 188) e0 V_env.2.2.2.2.2.2.2.2.2.2.2.2 (g := (mkF m 1 #[Rv b, Iv 2, Rv mm, Uv] [(.ref mm)])) rfl (hb hby d27_1)
  obtain ⟨T96, h96, k96, X96, e96, E96, A96, Ex96, Ov96, st96⟩ := newRE X95 hx hZ hown (own_g hw 189) (own_g hw 165) e95 (g := (mkF m 7 #[Rv b, Iv 2, Rv mm, Uv] [(.int 2)])) rfl (hb hby d27_7) rfl (by decide) (cap := 2) (by decide) (by decide) (by decide) (by decide) (ad := "[Ljava/lang/Object;") (by decide +kernel)
  obtain ⟨b96, g96⟩ : ∃ z, z = h0.size := ⟨_, rfl⟩
  rw [← g96] at A96 Ex96 st96
  have V96 : Arv Z h96 b96 k96 (.object "java/lang/Object") (2 : Int32) [.null, .null] .null := (Arv.new A96 (by decide)).pad (pad_rep [] .null 2)
  have ne96_b : b ≠ b96 := Nat.ne_of_lt (Nat.lt_of_lt_of_le V_b.lt (Nat.le_of_eq g96.symm))
  have ne96_x0 : x0 ≠ b96 := Nat.ne_of_lt (Nat.lt_of_lt_of_le E_x0.lt (Nat.le_of_eq g96.symm))
  have ne96_x1 : x1 ≠ b96 := Nat.ne_of_lt (Nat.lt_of_lt_of_le E_x1.lt (Nat.le_of_eq g96.symm))
  have gf96 : n0 ≤ b96 := Nat.le_trans Z0 (Nat.le_of_eq g96.symm)
  have Zs96 : n0 ≤ h96.size := Nat.le_trans Z0 E96.1
  have Kp96 : Keep h0 h96 [] := Kp94.ext E96
  have sz_b96 : h0.size ≤ b96 := Nat.le_trans Kp94.1 (Nat.le_of_eq g96.symm)
  have f97_0 : Old Z n0 h96 := Od.ext E96
  have f97_1 : Arv Z h96 b k (.object "java/lang/Object") (10 : Int32) [(.ref x0), (.ref x1), .null, .null, .null, .null, .null, .null, .null, .null] .null := V_b.ext E96
  have f97_2 : Exa Z h96 b "[Ljava/lang/Object;" := E_b.ext E96
  have f97_3 : Exa Z h96 x0 "com/example/lithe_checker/lithechecker/c/CType$Member" := E_x0.ext E96
  have f97_4 : Exa Z h96 x1 "com/example/lithe_checker/lithechecker/c/CType$Member" := E_x1.ext E96
  refine own_by (fun _ k => XS.aloadN X0.here hx rfl (hb hby d27_0) rfl rfl (st95 _ (Jvm.RoadKit.acmp (g := (mkF m 3 #[Rv b, Iv 2, Rv mm, Uv] [(.ref mm), (.ref mm)])) X95 hx rfl rfl rfl (pc0 := 3) (pc' := 6) (same := true) rfl (hb hby d27_3) rfl (decide_eq_true rfl) (by decide) (by decide) (XS.iloadN X95.here hx rfl (hb hby d27_6) rfl (st96 _ (XS.goto X96.here hx rfl (pc0 := 10) (pc' := 24) rfl (hb hby d27_10) (by decide) (by decide) (XS.astoreN X96.here hx rfl (hb hby d27_24) rfl rfl (l' := #[Rv b, Iv 2, Rv mm, Rv b96]) rfl (XS.aloadN X96.here hx rfl (hb hby d27_25) rfl rfl (XS.iconst X96.here hx rfl (hb hby d27_26) (XS.aloadN X96.here hx rfl (hb hby d27_27) rfl rfl k)))))))))) ?_
  show own_Fin _ _ _ _ _ _ _ T96 (mkF m 28 #[Rv b, Iv 2, Rv mm, Rv b96] [(.ref b96), (.int 0), (.ref b)])
  obtain ⟨cl98, Ar98, -, S98, M98, -, -⟩ := id f97_1
  refine own_by (fun _ k => XS.iconst X96.here hx rfl (hb hby d27_28) (XS.aloadN X96.here hx rfl (hb hby d27_29) rfl rfl (X96.arraylength hx (by rw [e96]; exact Ar98.1) (State.isArrayOf_alike hZ.alike Ar98.2.1) (g := (mkF m 30 #[Rv b, Iv 2, Rv mm, Rv b96] [(.ref b), (.int 0), (.ref b96), (.int 0), (.ref b)])) rfl rfl (hb hby d27_30) _ k))) ?_
  rw [len_of S98 M98]
  show own_Fin _ _ _ _ _ _ _ T96 (mkF m 31 #[Rv b, Iv 2, Rv mm, Rv b96] [(.int 10), (.int 0), (.ref b96), (.int 0), (.ref b)])
  obtain ⟨_, _, ⟨T99, L99, k99, n99⟩, -, X99, ⟨Lc99, hQ99, l99, y99, z99⟩, st99⟩ := LawKit.callS X96 hx (y := mn5) hown (own_m hZ hw 190) (own_m hZ hw 191) (own_m hZ hw 162) (own_m hZ hw 192) (by decide) (backOf (W := 4) (rmmin_10_2 l Z a0 hw []  h96 n0 Zs96 ) hZ (own_g hw 192) (own_g hw 162) (by decide) (by decide)) (g := (mkF m 32 #[Rv b, Iv 2, Rv mm, Rv b96] [(.int 2), (.int 10), (.int 0), (.ref b96), (.int 0), (.ref b)])) rfl (by rw [hml]; rfl) (argsL := [(.int (10 : Int32)), (.int (2 : Int32))]) (rest := [(.int (0 : Int32)), (.ref b96), (.int (0 : Int32)), (.ref b)]) (lenOf own_pd59 rfl) rfl (own_z rfl) (hb hby d27_32) (fun _ _ => ⟨rfl, e96, (by decide : 1 + 0 ≤ _), (by decide : 2 + 0 ≤ _)⟩)
  dsimp only [Pt.U, Pt.locs, Pt.cells, Pt.slots] at X99 l99 y99 z99 st99 hQ99
  subst l99 y99 z99
  obtain ⟨rfl, Nq99, eh99⟩ := hQ99
  have N99 := Fr.app N0 Nq99
  obtain ⟨cl100, Ar100, q100, -⟩ := id V96
  obtain ⟨T100, h100, L100, X100, e100, N100, K100, Vc100, st100⟩ := cpA X99 hx hZ hown (own_g hw 193) (own_g hw 196) (own_g hw 194) (own_g hw 195) eh99 f97_1 V96 (us := [(.ref x0), (.ref x1)]) (Or.inr ⟨rfl, rfl, ⟨Sto.ofV Ar100 q100 Ov96 (Ins.of_exa f97_3 (own_g hw 166)), ⟨Sto.ofV Ar100 q100 Ov96 (Ins.of_exa f97_4 (own_g hw 166)), trivial⟩⟩⟩) (by decide) (by decide) (by decide) (by decide) (by decide) rfl (by decide) N99 gf96 (g := (mkF m 35 #[Rv b, Iv 2, Rv mm, Rv b96] [(.int 2), (.int 0), (.ref b96), (.int 0), (.ref b)])) rfl (by rw [hml]; rfl) rfl (hb hby d27_35) (by decide) (W := 0) (own_z rfl) (by decide)
  have V100 : Arv Z h100 b96 k96 (.object "java/lang/Object") (2 : Int32) [(.ref x0), (.ref x1)] .null := Vc100
  have Zs100 : n0 ≤ h100.size := Nat.le_trans Zs96 K100.1
  have Kp100 : Keep h0 h100 [] := Kp96.trans K100 (allS (Or.inr sz_b96) all0)
  have f101_0 : Old Z n0 h100 := f97_0.keep K100 (allS gf96 all0)
  have f101_1 : Arv Z h100 b k (.object "java/lang/Object") (10 : Int32) [(.ref x0), (.ref x1), .null, .null, .null, .null, .null, .null, .null, .null] .null := f97_1.keep K100 (ninS ne96_b nin0)
  have f101_2 : Exa Z h100 b "[Ljava/lang/Object;" := f97_2.keep K100
  have f101_3 : Exa Z h100 x0 "com/example/lithe_checker/lithechecker/c/CType$Member" := f97_3.keep K100
  have f101_4 : Exa Z h100 x1 "com/example/lithe_checker/lithechecker/c/CType$Member" := f97_4.keep K100
  have f101_6 : Exa Z h100 b96 "[Ljava/lang/Object;" := Ex96.keep K100
  refine own_by (fun _ k => XS.iloadN X96.here hx rfl (hb hby d27_31) rfl (st99 _ (st100 _ (XS.aloadN X100.here hx rfl (hb hby d27_38) rfl rfl k)))) ?_
  exact own_retA X100 hx hlk (t := (.array (.object "java/lang/Object"))) hret rfl rfl rfl (hb hby d27_39) (by rw [e100]; exact ⟨_, _, rfl, N100, Kp100, sz_b96, V100⟩) (by decide) (by decide)
theorem rmC2_2 (l : Launch) (Z : State) (a0 : Array Value) (hw : own_W a0 Z) (ws : List Jvm.Cond) (cs : Int32) (da el ea em ci mm : Addr) (kd ke : ClassId) (b : Addr) (k : ClassId) (x0 x1 : Addr) (h0 : Heap) (n0 : Nat) (Z0 : n0 ≤ h0.size) (V_env : own_Env Z cs da el ea em ci mm kd ke) (Od : Old Z n0 h0) (V_b : Arv Z h0 b k (.object "java/lang/Object") (10 : Int32) [(.ref x0), (.ref x1), .null, .null, .null, .null, .null, .null, .null, .null] .null) (E_b : Exa Z h0 b "[Ljava/lang/Object;") (E_x0 : Exa Z h0 x0 "com/example/lithe_checker/lithechecker/c/CType$Member") (E_x1 : Exa Z h0 x1 "com/example/lithe_checker/lithechecker/c/CType$Member") : own_Met l Z mn14 jdk_65_method_119_code 2 (some (.array (.object "java/lang/Object"))) ws (own_R 2 1 2 61) #[(.ref b), (.int (2 : Int32))] h0 (own_QNA2 Z x0 x1 h0 n0) := by
  refine own_enter n0 (plainFor_of_name own_pn116) (fun m => ef_RI_2 m b (2 : Int32) ) (fun p e s m below meth c s₁ hx hby hlk hml hret hown hnm hZ X0 e0 N0 => ?_)
  show own_Fin _ _ _ _ _ _ _ s₁ (mkF m 0 #[Rv b, Iv 2] [])
  have Kp102 : Keep h0 h0 [] := Keep.refl h0 _
  obtain ⟨T103, X103, e103, st103⟩ := gcls X0 hx hZ hown (own_g hw 179) (own_g hw 180) (own_g hw 67) (own_g hw 182) (own_g hw 181) (own_g hw 183) e0 E_b V_env.2.2.2.2.2.2.2.2.2.2.2.2 (g := (mkF m 3 #[Rv b, Iv 2] [(.ref b), (.int 2), (.ref b)])) rfl (by rw [hml]; rfl) rfl (hb hby d26_3) (by decide) (W := 2) (own_z rfl) (by decide)
  obtain ⟨_, _, ⟨T104, L104, k104, n104⟩, -, X104, ⟨Lc104, hQ104, l104, y104, z104⟩, st104⟩ := LawKit.callS X103 hx (y := mn13) hown (own_m hZ hw 185) (own_m hZ hw 186) (own_m hZ hw 177) (own_m hZ hw 187) (by decide) (backOf (W := 0) (rmC3_2 l Z a0 hw [] cs da el ea em ci mm kd ke b k x0 x1 h0 n0 Z0 V_env Od V_b E_b E_x0 E_x1) hZ (own_g hw 187) (own_g hw 177) (by decide) (by decide)) (g := (mkF m 6 #[Rv b, Iv 2] [(.ref mm), (.int 2), (.ref b)])) rfl (by rw [hml]; rfl) (argsL := [(.ref b), (.int (2 : Int32)), (.ref mm)]) (rest := []) (lenOf own_pd141 rfl) rfl (own_z rfl) (hb hby d26_6) (fun _ _ => ⟨rfl, e103, (by decide : 0 + 1 ≤ _), (by decide : 0 + 2 ≤ _)⟩)
  dsimp only [Pt.U, Pt.locs, Pt.cells, Pt.slots] at X104 l104 y104 z104 st104 hQ104
  subst l104 y104 z104
  obtain ⟨b104, k104, rfl, Nq104, K104, ge104, V104⟩ := hQ104
  have N104 := Fr.app N0 Nq104
  have Zs104 : n0 ≤ T104.heap.size := Nat.le_trans Z0 K104.1
  have Kp104 : Keep h0 T104.heap [] := Kp102.trans K104 all0
  have f105_0 : Old Z n0 T104.heap := Od.keep K104 all0
  have f105_1 : Arv Z T104.heap b k (.object "java/lang/Object") (10 : Int32) [(.ref x0), (.ref x1), .null, .null, .null, .null, .null, .null, .null, .null] .null := V_b.keep K104 nin0
  have f105_2 : Exa Z T104.heap b "[Ljava/lang/Object;" := E_b.keep K104
  have f105_3 : Exa Z T104.heap x0 "com/example/lithe_checker/lithechecker/c/CType$Member" := E_x0.keep K104
  have f105_4 : Exa Z T104.heap x1 "com/example/lithe_checker/lithechecker/c/CType$Member" := E_x1.keep K104
  have ne104_b : b ≠ b104 := Nat.ne_of_lt (Nat.lt_of_lt_of_le V_b.lt ge104)
  have ne104_x0 : x0 ≠ b104 := Nat.ne_of_lt (Nat.lt_of_lt_of_le E_x0.lt ge104)
  have ne104_x1 : x1 ≠ b104 := Nat.ne_of_lt (Nat.lt_of_lt_of_le E_x1.lt ge104)
  have gf104 : n0 ≤ b104 := Nat.le_trans Z0 ge104
  have sz_b104 : h0.size ≤ b104 := Nat.le_trans Kp102.1 ge104
  refine own_by (fun _ k => XS.aloadN X0.here hx rfl (hb hby d26_0) rfl rfl (XS.iloadN X0.here hx rfl (hb hby d26_1) rfl (XS.aloadN X0.here hx rfl (hb hby d26_2) rfl rfl (st103 _ (st104 _ k))))) ?_
  exact own_retA X104 hx hlk (t := (.array (.object "java/lang/Object"))) hret rfl rfl rfl (hb hby d26_9) ⟨_, _, rfl, N104, Kp104, sz_b104, V104⟩ (by decide) (by decide)
set_option maxRecDepth 65536 in
set_option maxHeartbeats 40000000 in
theorem rmTA_2 (l : Launch) (Z : State) (a0 : Array Value) (hw : own_W a0 Z) (ws : List Jvm.Cond) (cs : Int32) (da el ea em ci mm : Addr) (kd ke : ClassId) (a1 b : Addr) (k : ClassId) (x0 x1 : Addr) (h0 : Heap) (n0 : Nat) (Z0 : n0 ≤ h0.size) (V_env : own_Env Z cs da el ea em ci mm kd ke) (Od : Old Z n0 h0) (E_a1 : Exa Z h0 a1 "java/util/ArrayList") (F_e : Fld Z h0 a1 "java/util/ArrayList" "elementData" "[Ljava/lang/Object;" (.ref b)) (F_s : Fld Z h0 a1 "java/util/ArrayList" "size" "I" (.int (2 : Int32))) (V_b : Arv Z h0 b k (.object "java/lang/Object") (10 : Int32) [(.ref x0), (.ref x1), .null, .null, .null, .null, .null, .null, .null, .null] .null) (E_b : Exa Z h0 b "[Ljava/lang/Object;") (E_x0 : Exa Z h0 x0 "com/example/lithe_checker/lithechecker/c/CType$Member") (E_x1 : Exa Z h0 x1 "com/example/lithe_checker/lithechecker/c/CType$Member") : own_Met l Z mn15 jdk_38_method_16_code 1 (some (.array (.object "java/lang/Object"))) ws (own_R 3 1 2 74) #[(.ref a1)] h0 (own_QNA2 Z x0 x1 h0 n0) := by
  refine own_enter n0 (plainFor_of_name own_pn37) (fun m => ef_R_1 m a1 ) (fun p e s m below meth c s₁ hx hby hlk hml hret hown hnm hZ X0 e0 N0 => ?_)
  show own_Fin _ _ _ _ _ _ _ s₁ (mkF m 0 #[Rv a1] [])
  have Kp106 : Keep h0 h0 [] := Keep.refl h0 _
  obtain ⟨T107, X107, e107, st107⟩ := getF X0 hx hZ hown (host := "") (Or.inl (own_g hw 48)) Via.refl e0 F_e (g := (mkF m 1 #[Rv a1] [(.ref a1)])) rfl rfl (hb hby d25_1)
  obtain ⟨T108, X108, e108, st108⟩ := getF X107 hx hZ hown (host := "") (Or.inl (own_g hw 78)) Via.refl e107 F_s (g := (mkF m 5 #[Rv a1] [(.ref a1), (.ref b)])) rfl rfl (hb hby d25_5)
  obtain ⟨_, _, ⟨T109, L109, k109, n109⟩, -, X109, ⟨Lc109, hQ109, l109, y109, z109⟩, st109⟩ := LawKit.callS X108 hx (y := mn14) hown (own_m hZ hw 175) (own_m hZ hw 176) (own_m hZ hw 177) (own_m hZ hw 178) (by decide) (backOf (W := 0) (rmC2_2 l Z a0 hw [] cs da el ea em ci mm kd ke b k x0 x1 h0 n0 Z0 V_env Od V_b E_b E_x0 E_x1) hZ (own_g hw 178) (own_g hw 177) (by decide) (by decide)) (g := (mkF m 8 #[Rv a1] [(.int 2), (.ref b)])) rfl (by rw [hml]; rfl) (argsL := [(.ref b), (.int (2 : Int32))]) (rest := []) (lenOf own_pd148 rfl) rfl (own_z rfl) (hb hby d25_8) (fun _ _ => ⟨rfl, e108, (by decide : 0 + 1 ≤ _), (by decide : 0 + 2 ≤ _)⟩)
  dsimp only [Pt.U, Pt.locs, Pt.cells, Pt.slots] at X109 l109 y109 z109 st109 hQ109
  subst l109 y109 z109
  obtain ⟨b109, k109, rfl, Nq109, K109, ge109, V109⟩ := hQ109
  have N109 := Fr.app N0 Nq109
  have Zs109 : n0 ≤ T109.heap.size := Nat.le_trans Z0 K109.1
  have Kp109 : Keep h0 T109.heap [] := Kp106.trans K109 all0
  have f110_0 : Old Z n0 T109.heap := Od.keep K109 all0
  have f110_1 : Arv Z T109.heap b k (.object "java/lang/Object") (10 : Int32) [(.ref x0), (.ref x1), .null, .null, .null, .null, .null, .null, .null, .null] .null := V_b.keep K109 nin0
  have f110_2 : Exa Z T109.heap b "[Ljava/lang/Object;" := E_b.keep K109
  have f110_3 : Exa Z T109.heap x0 "com/example/lithe_checker/lithechecker/c/CType$Member" := E_x0.keep K109
  have f110_4 : Exa Z T109.heap x1 "com/example/lithe_checker/lithechecker/c/CType$Member" := E_x1.keep K109
  have f110_5 : Exa Z T109.heap a1 "java/util/ArrayList" := E_a1.keep K109
  have f110_6 : Fld Z T109.heap a1 "java/util/ArrayList" "elementData" "[Ljava/lang/Object;" (.ref b) := F_e.keep K109 nin0
  have f110_7 : Fld Z T109.heap a1 "java/util/ArrayList" "size" "I" (.int (2 : Int32)) := F_s.keep K109 nin0
  have ne109_b : b ≠ b109 := Nat.ne_of_lt (Nat.lt_of_lt_of_le V_b.lt ge109)
  have ne109_x0 : x0 ≠ b109 := Nat.ne_of_lt (Nat.lt_of_lt_of_le E_x0.lt ge109)
  have ne109_x1 : x1 ≠ b109 := Nat.ne_of_lt (Nat.lt_of_lt_of_le E_x1.lt ge109)
  have ne109_a1 : a1 ≠ b109 := Nat.ne_of_lt (Nat.lt_of_lt_of_le E_a1.lt ge109)
  have gf109 : n0 ≤ b109 := Nat.le_trans Z0 ge109
  have sz_b109 : h0.size ≤ b109 := Nat.le_trans Kp106.1 ge109
  refine own_by (fun _ k => XS.aloadN X0.here hx rfl (hb hby d25_0) rfl rfl (st107 _ (XS.aloadN X107.here hx rfl (hb hby d25_4) rfl rfl (st108 _ (st109 _ k))))) ?_
  exact own_retA X109 hx hlk (t := (.array (.object "java/lang/Object"))) hret rfl rfl rfl (hb hby d25_11) ⟨_, _, rfl, N109, Kp109, sz_b109, V109⟩ (by decide) (by decide)
def own_QNA3 (Z : State) (x0 x1 x2 : Addr) (h0 : Heap) (n0 : Nat) (v : Option Value) (h : Heap) (L : List Loc) : Prop := ∃ (a : Addr) (k : ClassId), v = some (.ref a) ∧ Fr n0 L ∧ Keep h0 h [] ∧ h0.size ≤ a ∧ Arv Z h a k (.object "java/lang/Object") (3 : Int32) [(.ref x0), (.ref x1), (.ref x2)] .null
set_option maxRecDepth 65536 in
set_option maxHeartbeats 40000000 in
theorem rmC3_3 (l : Launch) (Z : State) (a0 : Array Value) (hw : own_W a0 Z) (ws : List Jvm.Cond) (cs : Int32) (da el ea em ci mm : Addr) (kd ke : ClassId) (b : Addr) (k : ClassId) (x0 x1 x2 : Addr) (h0 : Heap) (n0 : Nat) (Z0 : n0 ≤ h0.size) (V_env : own_Env Z cs da el ea em ci mm kd ke) (Od : Old Z n0 h0) (V_b : Arv Z h0 b k (.object "java/lang/Object") (10 : Int32) [(.ref x0), (.ref x1), (.ref x2), .null, .null, .null, .null, .null, .null, .null] .null) (E_b : Exa Z h0 b "[Ljava/lang/Object;") (E_x0 : Exa Z h0 x0 "com/example/lithe_checker/lithechecker/c/CType$Member") (E_x1 : Exa Z h0 x1 "com/example/lithe_checker/lithechecker/c/CType$Member") (E_x2 : Exa Z h0 x2 "com/example/lithe_checker/lithechecker/c/CType$Member") : own_Met l Z mn13 jdk_65_method_120_code 4 (some (.array (.object "java/lang/Object"))) ws (own_R 1 1 3 46) #[(.ref b), (.int (3 : Int32)), (.ref mm)] h0 (own_QNA3 Z x0 x1 x2 h0 n0) := by
  refine own_enter n0 (plainFor_of_name own_pn116) (fun m => ef_RIR_4 m b (3 : Int32) mm ) (fun p e s m below meth c s₁ hx hby hlk hml hret hown hnm hZ X0 e0 N0 => ?_)
  show own_Fin _ _ _ _ _ _ _ s₁ (mkF m 0 #[Rv b, Iv 3, Rv mm, Uv] [])
  have Kp111 : Keep h0 h0 [] := Keep.refl h0 _
  obtain ⟨T112, X112, e112, st112⟩ := own_ldcM X0 hx hZ hown (own_g hw 188) e0 V_env.2.2.2.2.2.2.2.2.2.2.2.2 (g := (mkF m 1 #[Rv b, Iv 3, Rv mm, Uv] [(.ref mm)])) rfl (hb hby d27_1)
  obtain ⟨T113, h113, k113, X113, e113, E113, A113, Ex113, Ov113, st113⟩ := newRE X112 hx hZ hown (own_g hw 189) (own_g hw 165) e112 (g := (mkF m 7 #[Rv b, Iv 3, Rv mm, Uv] [(.int 3)])) rfl (hb hby d27_7) rfl (by decide) (cap := 3) (by decide) (by decide) (by decide) (by decide) (ad := "[Ljava/lang/Object;") (by decide +kernel)
  obtain ⟨b113, g113⟩ : ∃ z, z = h0.size := ⟨_, rfl⟩
  rw [← g113] at A113 Ex113 st113
  have V113 : Arv Z h113 b113 k113 (.object "java/lang/Object") (3 : Int32) [.null, .null, .null] .null := (Arv.new A113 (by decide)).pad (pad_rep [] .null 3)
  have ne113_b : b ≠ b113 := Nat.ne_of_lt (Nat.lt_of_lt_of_le V_b.lt (Nat.le_of_eq g113.symm))
  have ne113_x0 : x0 ≠ b113 := Nat.ne_of_lt (Nat.lt_of_lt_of_le E_x0.lt (Nat.le_of_eq g113.symm))
  have ne113_x1 : x1 ≠ b113 := Nat.ne_of_lt (Nat.lt_of_lt_of_le E_x1.lt (Nat.le_of_eq g113.symm))
  have ne113_x2 : x2 ≠ b113 := Nat.ne_of_lt (Nat.lt_of_lt_of_le E_x2.lt (Nat.le_of_eq g113.symm))
  have gf113 : n0 ≤ b113 := Nat.le_trans Z0 (Nat.le_of_eq g113.symm)
  have Zs113 : n0 ≤ h113.size := Nat.le_trans Z0 E113.1
  have Kp113 : Keep h0 h113 [] := Kp111.ext E113
  have sz_b113 : h0.size ≤ b113 := Nat.le_trans Kp111.1 (Nat.le_of_eq g113.symm)
  have f114_0 : Old Z n0 h113 := Od.ext E113
  have f114_1 : Arv Z h113 b k (.object "java/lang/Object") (10 : Int32) [(.ref x0), (.ref x1), (.ref x2), .null, .null, .null, .null, .null, .null, .null] .null := V_b.ext E113
  have f114_2 : Exa Z h113 b "[Ljava/lang/Object;" := E_b.ext E113
  have f114_3 : Exa Z h113 x0 "com/example/lithe_checker/lithechecker/c/CType$Member" := E_x0.ext E113
  have f114_4 : Exa Z h113 x1 "com/example/lithe_checker/lithechecker/c/CType$Member" := E_x1.ext E113
  have f114_5 : Exa Z h113 x2 "com/example/lithe_checker/lithechecker/c/CType$Member" := E_x2.ext E113
  refine own_by (fun _ k => XS.aloadN X0.here hx rfl (hb hby d27_0) rfl rfl (st112 _ (Jvm.RoadKit.acmp (g := (mkF m 3 #[Rv b, Iv 3, Rv mm, Uv] [(.ref mm), (.ref mm)])) X112 hx rfl rfl rfl (pc0 := 3) (pc' := 6) (same := true) rfl (hb hby d27_3) rfl (decide_eq_true rfl) (by decide) (by decide) (XS.iloadN X112.here hx rfl (hb hby d27_6) rfl (st113 _ (XS.goto X113.here hx rfl (pc0 := 10) (pc' := 24) rfl (hb hby d27_10) (by decide) (by decide) (XS.astoreN X113.here hx rfl (hb hby d27_24) rfl rfl (l' := #[Rv b, Iv 3, Rv mm, Rv b113]) rfl (XS.aloadN X113.here hx rfl (hb hby d27_25) rfl rfl (XS.iconst X113.here hx rfl (hb hby d27_26) (XS.aloadN X113.here hx rfl (hb hby d27_27) rfl rfl k)))))))))) ?_
  show own_Fin _ _ _ _ _ _ _ T113 (mkF m 28 #[Rv b, Iv 3, Rv mm, Rv b113] [(.ref b113), (.int 0), (.ref b)])
  obtain ⟨cl115, Ar115, -, S115, M115, -, -⟩ := id f114_1
  refine own_by (fun _ k => XS.iconst X113.here hx rfl (hb hby d27_28) (XS.aloadN X113.here hx rfl (hb hby d27_29) rfl rfl (X113.arraylength hx (by rw [e113]; exact Ar115.1) (State.isArrayOf_alike hZ.alike Ar115.2.1) (g := (mkF m 30 #[Rv b, Iv 3, Rv mm, Rv b113] [(.ref b), (.int 0), (.ref b113), (.int 0), (.ref b)])) rfl rfl (hb hby d27_30) _ k))) ?_
  rw [len_of S115 M115]
  show own_Fin _ _ _ _ _ _ _ T113 (mkF m 31 #[Rv b, Iv 3, Rv mm, Rv b113] [(.int 10), (.int 0), (.ref b113), (.int 0), (.ref b)])
  obtain ⟨_, _, ⟨T116, L116, k116, n116⟩, -, X116, ⟨Lc116, hQ116, l116, y116, z116⟩, st116⟩ := LawKit.callS X113 hx (y := mn5) hown (own_m hZ hw 190) (own_m hZ hw 191) (own_m hZ hw 162) (own_m hZ hw 192) (by decide) (backOf (W := 4) (rmmin_10_3 l Z a0 hw []  h113 n0 Zs113 ) hZ (own_g hw 192) (own_g hw 162) (by decide) (by decide)) (g := (mkF m 32 #[Rv b, Iv 3, Rv mm, Rv b113] [(.int 3), (.int 10), (.int 0), (.ref b113), (.int 0), (.ref b)])) rfl (by rw [hml]; rfl) (argsL := [(.int (10 : Int32)), (.int (3 : Int32))]) (rest := [(.int (0 : Int32)), (.ref b113), (.int (0 : Int32)), (.ref b)]) (lenOf own_pd59 rfl) rfl (own_z rfl) (hb hby d27_32) (fun _ _ => ⟨rfl, e113, (by decide : 1 + 0 ≤ _), (by decide : 3 + 0 ≤ _)⟩)
  dsimp only [Pt.U, Pt.locs, Pt.cells, Pt.slots] at X116 l116 y116 z116 st116 hQ116
  subst l116 y116 z116
  obtain ⟨rfl, Nq116, eh116⟩ := hQ116
  have N116 := Fr.app N0 Nq116
  obtain ⟨cl117, Ar117, q117, -⟩ := id V113
  obtain ⟨T117, h117, L117, X117, e117, N117, K117, Vc117, st117⟩ := cpA X116 hx hZ hown (own_g hw 193) (own_g hw 196) (own_g hw 194) (own_g hw 195) eh116 f114_1 V113 (us := [(.ref x0), (.ref x1), (.ref x2)]) (Or.inr ⟨rfl, rfl, ⟨Sto.ofV Ar117 q117 Ov113 (Ins.of_exa f114_3 (own_g hw 166)), ⟨Sto.ofV Ar117 q117 Ov113 (Ins.of_exa f114_4 (own_g hw 166)), ⟨Sto.ofV Ar117 q117 Ov113 (Ins.of_exa f114_5 (own_g hw 166)), trivial⟩⟩⟩⟩) (by decide) (by decide) (by decide) (by decide) (by decide) rfl (by decide) N116 gf113 (g := (mkF m 35 #[Rv b, Iv 3, Rv mm, Rv b113] [(.int 3), (.int 0), (.ref b113), (.int 0), (.ref b)])) rfl (by rw [hml]; rfl) rfl (hb hby d27_35) (by decide) (W := 0) (own_z rfl) (by decide)
  have V117 : Arv Z h117 b113 k113 (.object "java/lang/Object") (3 : Int32) [(.ref x0), (.ref x1), (.ref x2)] .null := Vc117
  have Zs117 : n0 ≤ h117.size := Nat.le_trans Zs113 K117.1
  have Kp117 : Keep h0 h117 [] := Kp113.trans K117 (allS (Or.inr sz_b113) all0)
  have f118_0 : Old Z n0 h117 := f114_0.keep K117 (allS gf113 all0)
  have f118_1 : Arv Z h117 b k (.object "java/lang/Object") (10 : Int32) [(.ref x0), (.ref x1), (.ref x2), .null, .null, .null, .null, .null, .null, .null] .null := f114_1.keep K117 (ninS ne113_b nin0)
  have f118_2 : Exa Z h117 b "[Ljava/lang/Object;" := f114_2.keep K117
  have f118_3 : Exa Z h117 x0 "com/example/lithe_checker/lithechecker/c/CType$Member" := f114_3.keep K117
  have f118_4 : Exa Z h117 x1 "com/example/lithe_checker/lithechecker/c/CType$Member" := f114_4.keep K117
  have f118_5 : Exa Z h117 x2 "com/example/lithe_checker/lithechecker/c/CType$Member" := f114_5.keep K117
  have f118_7 : Exa Z h117 b113 "[Ljava/lang/Object;" := Ex113.keep K117
  refine own_by (fun _ k => XS.iloadN X113.here hx rfl (hb hby d27_31) rfl (st116 _ (st117 _ (XS.aloadN X117.here hx rfl (hb hby d27_38) rfl rfl k)))) ?_
  exact own_retA X117 hx hlk (t := (.array (.object "java/lang/Object"))) hret rfl rfl rfl (hb hby d27_39) (by rw [e117]; exact ⟨_, _, rfl, N117, Kp117, sz_b113, V117⟩) (by decide) (by decide)
set_option maxRecDepth 65536 in
set_option maxHeartbeats 40000000 in
theorem rmC2_3 (l : Launch) (Z : State) (a0 : Array Value) (hw : own_W a0 Z) (ws : List Jvm.Cond) (cs : Int32) (da el ea em ci mm : Addr) (kd ke : ClassId) (b : Addr) (k : ClassId) (x0 x1 x2 : Addr) (h0 : Heap) (n0 : Nat) (Z0 : n0 ≤ h0.size) (V_env : own_Env Z cs da el ea em ci mm kd ke) (Od : Old Z n0 h0) (V_b : Arv Z h0 b k (.object "java/lang/Object") (10 : Int32) [(.ref x0), (.ref x1), (.ref x2), .null, .null, .null, .null, .null, .null, .null] .null) (E_b : Exa Z h0 b "[Ljava/lang/Object;") (E_x0 : Exa Z h0 x0 "com/example/lithe_checker/lithechecker/c/CType$Member") (E_x1 : Exa Z h0 x1 "com/example/lithe_checker/lithechecker/c/CType$Member") (E_x2 : Exa Z h0 x2 "com/example/lithe_checker/lithechecker/c/CType$Member") : own_Met l Z mn14 jdk_65_method_119_code 2 (some (.array (.object "java/lang/Object"))) ws (own_R 2 1 3 61) #[(.ref b), (.int (3 : Int32))] h0 (own_QNA3 Z x0 x1 x2 h0 n0) := by
  refine own_enter n0 (plainFor_of_name own_pn116) (fun m => ef_RI_2 m b (3 : Int32) ) (fun p e s m below meth c s₁ hx hby hlk hml hret hown hnm hZ X0 e0 N0 => ?_)
  show own_Fin _ _ _ _ _ _ _ s₁ (mkF m 0 #[Rv b, Iv 3] [])
  have Kp119 : Keep h0 h0 [] := Keep.refl h0 _
  obtain ⟨T120, X120, e120, st120⟩ := gcls X0 hx hZ hown (own_g hw 179) (own_g hw 180) (own_g hw 67) (own_g hw 182) (own_g hw 181) (own_g hw 183) e0 E_b V_env.2.2.2.2.2.2.2.2.2.2.2.2 (g := (mkF m 3 #[Rv b, Iv 3] [(.ref b), (.int 3), (.ref b)])) rfl (by rw [hml]; rfl) rfl (hb hby d26_3) (by decide) (W := 2) (own_z rfl) (by decide)
  obtain ⟨_, _, ⟨T121, L121, k121, n121⟩, -, X121, ⟨Lc121, hQ121, l121, y121, z121⟩, st121⟩ := LawKit.callS X120 hx (y := mn13) hown (own_m hZ hw 185) (own_m hZ hw 186) (own_m hZ hw 177) (own_m hZ hw 187) (by decide) (backOf (W := 0) (rmC3_3 l Z a0 hw [] cs da el ea em ci mm kd ke b k x0 x1 x2 h0 n0 Z0 V_env Od V_b E_b E_x0 E_x1 E_x2) hZ (own_g hw 187) (own_g hw 177) (by decide) (by decide)) (g := (mkF m 6 #[Rv b, Iv 3] [(.ref mm), (.int 3), (.ref b)])) rfl (by rw [hml]; rfl) (argsL := [(.ref b), (.int (3 : Int32)), (.ref mm)]) (rest := []) (lenOf own_pd141 rfl) rfl (own_z rfl) (hb hby d26_6) (fun _ _ => ⟨rfl, e120, (by decide : 0 + 1 ≤ _), (by decide : 0 + 3 ≤ _)⟩)
  dsimp only [Pt.U, Pt.locs, Pt.cells, Pt.slots] at X121 l121 y121 z121 st121 hQ121
  subst l121 y121 z121
  obtain ⟨b121, k121, rfl, Nq121, K121, ge121, V121⟩ := hQ121
  have N121 := Fr.app N0 Nq121
  have Zs121 : n0 ≤ T121.heap.size := Nat.le_trans Z0 K121.1
  have Kp121 : Keep h0 T121.heap [] := Kp119.trans K121 all0
  have f122_0 : Old Z n0 T121.heap := Od.keep K121 all0
  have f122_1 : Arv Z T121.heap b k (.object "java/lang/Object") (10 : Int32) [(.ref x0), (.ref x1), (.ref x2), .null, .null, .null, .null, .null, .null, .null] .null := V_b.keep K121 nin0
  have f122_2 : Exa Z T121.heap b "[Ljava/lang/Object;" := E_b.keep K121
  have f122_3 : Exa Z T121.heap x0 "com/example/lithe_checker/lithechecker/c/CType$Member" := E_x0.keep K121
  have f122_4 : Exa Z T121.heap x1 "com/example/lithe_checker/lithechecker/c/CType$Member" := E_x1.keep K121
  have f122_5 : Exa Z T121.heap x2 "com/example/lithe_checker/lithechecker/c/CType$Member" := E_x2.keep K121
  have ne121_b : b ≠ b121 := Nat.ne_of_lt (Nat.lt_of_lt_of_le V_b.lt ge121)
  have ne121_x0 : x0 ≠ b121 := Nat.ne_of_lt (Nat.lt_of_lt_of_le E_x0.lt ge121)
  have ne121_x1 : x1 ≠ b121 := Nat.ne_of_lt (Nat.lt_of_lt_of_le E_x1.lt ge121)
  have ne121_x2 : x2 ≠ b121 := Nat.ne_of_lt (Nat.lt_of_lt_of_le E_x2.lt ge121)
  have gf121 : n0 ≤ b121 := Nat.le_trans Z0 ge121
  have sz_b121 : h0.size ≤ b121 := Nat.le_trans Kp119.1 ge121
  refine own_by (fun _ k => XS.aloadN X0.here hx rfl (hb hby d26_0) rfl rfl (XS.iloadN X0.here hx rfl (hb hby d26_1) rfl (XS.aloadN X0.here hx rfl (hb hby d26_2) rfl rfl (st120 _ (st121 _ k))))) ?_
  exact own_retA X121 hx hlk (t := (.array (.object "java/lang/Object"))) hret rfl rfl rfl (hb hby d26_9) ⟨_, _, rfl, N121, Kp121, sz_b121, V121⟩ (by decide) (by decide)
set_option maxRecDepth 65536 in
set_option maxHeartbeats 40000000 in
theorem rmTA_3 (l : Launch) (Z : State) (a0 : Array Value) (hw : own_W a0 Z) (ws : List Jvm.Cond) (cs : Int32) (da el ea em ci mm : Addr) (kd ke : ClassId) (a1 b : Addr) (k : ClassId) (x0 x1 x2 : Addr) (h0 : Heap) (n0 : Nat) (Z0 : n0 ≤ h0.size) (V_env : own_Env Z cs da el ea em ci mm kd ke) (Od : Old Z n0 h0) (E_a1 : Exa Z h0 a1 "java/util/ArrayList") (F_e : Fld Z h0 a1 "java/util/ArrayList" "elementData" "[Ljava/lang/Object;" (.ref b)) (F_s : Fld Z h0 a1 "java/util/ArrayList" "size" "I" (.int (3 : Int32))) (V_b : Arv Z h0 b k (.object "java/lang/Object") (10 : Int32) [(.ref x0), (.ref x1), (.ref x2), .null, .null, .null, .null, .null, .null, .null] .null) (E_b : Exa Z h0 b "[Ljava/lang/Object;") (E_x0 : Exa Z h0 x0 "com/example/lithe_checker/lithechecker/c/CType$Member") (E_x1 : Exa Z h0 x1 "com/example/lithe_checker/lithechecker/c/CType$Member") (E_x2 : Exa Z h0 x2 "com/example/lithe_checker/lithechecker/c/CType$Member") : own_Met l Z mn15 jdk_38_method_16_code 1 (some (.array (.object "java/lang/Object"))) ws (own_R 3 1 3 74) #[(.ref a1)] h0 (own_QNA3 Z x0 x1 x2 h0 n0) := by
  refine own_enter n0 (plainFor_of_name own_pn37) (fun m => ef_R_1 m a1 ) (fun p e s m below meth c s₁ hx hby hlk hml hret hown hnm hZ X0 e0 N0 => ?_)
  show own_Fin _ _ _ _ _ _ _ s₁ (mkF m 0 #[Rv a1] [])
  have Kp123 : Keep h0 h0 [] := Keep.refl h0 _
  obtain ⟨T124, X124, e124, st124⟩ := getF X0 hx hZ hown (host := "") (Or.inl (own_g hw 48)) Via.refl e0 F_e (g := (mkF m 1 #[Rv a1] [(.ref a1)])) rfl rfl (hb hby d25_1)
  obtain ⟨T125, X125, e125, st125⟩ := getF X124 hx hZ hown (host := "") (Or.inl (own_g hw 78)) Via.refl e124 F_s (g := (mkF m 5 #[Rv a1] [(.ref a1), (.ref b)])) rfl rfl (hb hby d25_5)
  obtain ⟨_, _, ⟨T126, L126, k126, n126⟩, -, X126, ⟨Lc126, hQ126, l126, y126, z126⟩, st126⟩ := LawKit.callS X125 hx (y := mn14) hown (own_m hZ hw 175) (own_m hZ hw 176) (own_m hZ hw 177) (own_m hZ hw 178) (by decide) (backOf (W := 0) (rmC2_3 l Z a0 hw [] cs da el ea em ci mm kd ke b k x0 x1 x2 h0 n0 Z0 V_env Od V_b E_b E_x0 E_x1 E_x2) hZ (own_g hw 178) (own_g hw 177) (by decide) (by decide)) (g := (mkF m 8 #[Rv a1] [(.int 3), (.ref b)])) rfl (by rw [hml]; rfl) (argsL := [(.ref b), (.int (3 : Int32))]) (rest := []) (lenOf own_pd148 rfl) rfl (own_z rfl) (hb hby d25_8) (fun _ _ => ⟨rfl, e125, (by decide : 0 + 1 ≤ _), (by decide : 0 + 3 ≤ _)⟩)
  dsimp only [Pt.U, Pt.locs, Pt.cells, Pt.slots] at X126 l126 y126 z126 st126 hQ126
  subst l126 y126 z126
  obtain ⟨b126, k126, rfl, Nq126, K126, ge126, V126⟩ := hQ126
  have N126 := Fr.app N0 Nq126
  have Zs126 : n0 ≤ T126.heap.size := Nat.le_trans Z0 K126.1
  have Kp126 : Keep h0 T126.heap [] := Kp123.trans K126 all0
  have f127_0 : Old Z n0 T126.heap := Od.keep K126 all0
  have f127_1 : Arv Z T126.heap b k (.object "java/lang/Object") (10 : Int32) [(.ref x0), (.ref x1), (.ref x2), .null, .null, .null, .null, .null, .null, .null] .null := V_b.keep K126 nin0
  have f127_2 : Exa Z T126.heap b "[Ljava/lang/Object;" := E_b.keep K126
  have f127_3 : Exa Z T126.heap x0 "com/example/lithe_checker/lithechecker/c/CType$Member" := E_x0.keep K126
  have f127_4 : Exa Z T126.heap x1 "com/example/lithe_checker/lithechecker/c/CType$Member" := E_x1.keep K126
  have f127_5 : Exa Z T126.heap x2 "com/example/lithe_checker/lithechecker/c/CType$Member" := E_x2.keep K126
  have f127_6 : Exa Z T126.heap a1 "java/util/ArrayList" := E_a1.keep K126
  have f127_7 : Fld Z T126.heap a1 "java/util/ArrayList" "elementData" "[Ljava/lang/Object;" (.ref b) := F_e.keep K126 nin0
  have f127_8 : Fld Z T126.heap a1 "java/util/ArrayList" "size" "I" (.int (3 : Int32)) := F_s.keep K126 nin0
  have ne126_b : b ≠ b126 := Nat.ne_of_lt (Nat.lt_of_lt_of_le V_b.lt ge126)
  have ne126_x0 : x0 ≠ b126 := Nat.ne_of_lt (Nat.lt_of_lt_of_le E_x0.lt ge126)
  have ne126_x1 : x1 ≠ b126 := Nat.ne_of_lt (Nat.lt_of_lt_of_le E_x1.lt ge126)
  have ne126_x2 : x2 ≠ b126 := Nat.ne_of_lt (Nat.lt_of_lt_of_le E_x2.lt ge126)
  have ne126_a1 : a1 ≠ b126 := Nat.ne_of_lt (Nat.lt_of_lt_of_le E_a1.lt ge126)
  have gf126 : n0 ≤ b126 := Nat.le_trans Z0 ge126
  have sz_b126 : h0.size ≤ b126 := Nat.le_trans Kp123.1 ge126
  refine own_by (fun _ k => XS.aloadN X0.here hx rfl (hb hby d25_0) rfl rfl (st124 _ (XS.aloadN X124.here hx rfl (hb hby d25_4) rfl rfl (st125 _ (st126 _ k))))) ?_
  exact own_retA X126 hx hlk (t := (.array (.object "java/lang/Object"))) hret rfl rfl rfl (hb hby d25_11) ⟨_, _, rfl, N126, Kp126, sz_b126, V126⟩ (by decide) (by decide)
theorem own_pn150 : plainName "java/util/Objects" = true := by first | (simp [plainName, overriddenIn]; done) | decide +kernel
theorem d33_0 : decode jdk_31_method_10_code 0 = .ok (.aload_n 0, 1) := by decide +kernel
theorem d33_1 : decode jdk_31_method_10_code 1 = .ok (.ifnonnull 11, 3) := by decide +kernel
theorem d33_12 : decode jdk_31_method_10_code 12 = .ok (.aload_n 0, 1) := by decide +kernel
theorem d33_13 : decode jdk_31_method_10_code 13 = .ok (.areturn, 1) := by decide +kernel
def own_QRN (a1 : Addr) (h0 : Heap) (n0 : Nat) (v : Option Value) (h : Heap) (L : List Loc) : Prop := v = some (.ref a1) ∧ Fr n0 L ∧ h = h0
theorem rmRN (l : Launch) (Z : State) (a0 : Array Value) (hw : own_W a0 Z) (ws : List Jvm.Cond) (a1 : Addr) (h0 : Heap) (n0 : Nat) (Z0 : n0 ≤ h0.size)  : own_Met l Z mn16 jdk_31_method_10_code 1 (some (.object "java/lang/Object")) ws (own_R 0 0 0 0) #[(.ref a1)] h0 (own_QRN a1 h0 n0) := by
  refine own_enter n0 (plainFor_of_name own_pn150) (fun m => ef_R_1 m a1 ) (fun p e s m below meth c s₁ hx hby hlk hml hret hown hnm hZ X0 e0 N0 => ?_)
  show own_Fin _ _ _ _ _ _ _ s₁ (mkF m 0 #[Rv a1] [])
  refine own_by (fun _ k => XS.aloadN X0.here hx rfl (hb hby d33_0) rfl rfl (XS.ifnonnullYes X0.here hx rfl (pc0 := 1) (pc' := 12) rfl (hb hby d33_1) rfl (by decide) (by decide) (XS.aloadN X0.here hx rfl (hb hby d33_12) rfl rfl k))) ?_
  exact own_retA X0 hx hlk (t := (.object "java/lang/Object")) hret rfl rfl rfl (hb hby d33_13) ⟨rfl, N0, e0⟩ (by decide) (by decide)
theorem own_pn155 : plainName "java/util/ImmutableCollections$List12" = true := by first | (simp [plainName, overriddenIn]; done) | decide +kernel
theorem d30_0 : decode jdk_44_method_1_code 0 = .ok (.aload_n 0, 1) := by decide +kernel
theorem d30_1 : decode jdk_44_method_1_code 1 = .ok (.invokespecial 1, 3) := by decide +kernel
theorem d30_4 : decode jdk_44_method_1_code 4 = .ok (.aload_n 0, 1) := by decide +kernel
theorem d30_5 : decode jdk_44_method_1_code 5 = .ok (.aload_n 1, 1) := by decide +kernel
theorem d30_6 : decode jdk_44_method_1_code 6 = .ok (.invokestatic 7, 3) := by decide +kernel
theorem own_pd161 : parseMethodDescriptor "(Ljava/lang/Object;)Ljava/lang/Object;" = some ⟨[(.object "java/lang/Object")], some (.object "java/lang/Object")⟩ := by decide +kernel
theorem d30_9 : decode jdk_44_method_1_code 9 = .ok (.putfield 13, 3) := by decide +kernel
theorem d30_12 : decode jdk_44_method_1_code 12 = .ok (.aload_n 0, 1) := by decide +kernel
theorem d30_13 : decode jdk_44_method_1_code 13 = .ok (.getstatic 19, 3) := by decide +kernel
theorem d30_16 : decode jdk_44_method_1_code 16 = .ok (.putfield 24, 3) := by decide +kernel
theorem d30_19 : decode jdk_44_method_1_code 19 = .ok (.return_, 1) := by decide +kernel
def own_Q12_1 (Z : State) (em a1 x0 : Addr) (h0 : Heap) (n0 : Nat) (v : Option Value) (h : Heap) (L : List Loc) : Prop := v = none ∧ Fr n0 L ∧ Keep h0 h [a1] ∧ Fld Z h a1 "java/util/ImmutableCollections$List12" "e1" "Ljava/lang/Object;" (.ref em)
set_option maxRecDepth 65536 in
set_option maxHeartbeats 40000000 in
theorem rm12_1 (l : Launch) (Z : State) (a0 : Array Value) (hw : own_W a0 Z) (ws : List Jvm.Cond) (cs : Int32) (da el ea em ci mm : Addr) (kd ke : ClassId) (a1 x0 : Addr) (h0 : Heap) (n0 : Nat) (Z0 : n0 ≤ h0.size) (V_env : own_Env Z cs da el ea em ci mm kd ke) (Od : Old Z n0 h0) (E_a1 : Exa Z h0 a1 "java/util/ImmutableCollections$List12") (F_0 : Fld Z h0 a1 "java/util/ImmutableCollections$List12" "e0" "Ljava/lang/Object;" .null) (F_1 : Fld Z h0 a1 "java/util/ImmutableCollections$List12" "e1" "Ljava/lang/Object;" .null) (g_1 : n0 ≤ a1) : own_Met l Z mn17 jdk_44_method_1_code 2 none ws (own_R 4 0 0 48) #[(.ref a1), (.ref x0)] h0 (own_Q12_1 Z em a1 x0 h0 n0) := by
  refine own_enter n0 (plainFor_of_name own_pn155) (fun m => ef_RR_2 m a1 x0 ) (fun p e s m below meth c s₁ hx hby hlk hml hret hown hnm hZ X0 e0 N0 => ?_)
  show own_Fin _ _ _ _ _ _ _ s₁ (mkF m 0 #[Rv a1, Rv x0] [])
  have Kp128 : Keep h0 h0 [a1] := Keep.refl h0 _
  obtain ⟨_, _, ⟨T129, L129, k129, n129⟩, -, X129, ⟨Lc129, hQ129, l129, y129, z129⟩, st129⟩ := X0.specialBack hx (y := mn3) rfl hown (own_m hZ hw 207) (own_m hZ hw 208) (own_m hZ hw 212) (by decide) (backOf (W := 0) (rmIL l Z a0 hw [] a1 h0 n0 Z0 ) hZ (own_g hw 212) (own_g hw 211) (by decide) (by decide)) (g := (mkF m 1 #[Rv a1, Rv x0] [(.ref a1)])) rfl (by rw [hml]; rfl) (Steps.refl _) (a := a1) (argsL := []) (rest := []) (lenOf own_pd12 rfl) rfl (own_z rfl) (hb hby d30_1) (fun _ _ => ⟨rfl, e0, (by decide : 0 + 0 ≤ _), (by decide : 0 + 0 ≤ _)⟩)
  dsimp only [Pt.U, Pt.locs, Pt.cells, Pt.slots] at X129 l129 y129 z129 st129 hQ129
  subst l129 y129 z129
  obtain ⟨rfl, Nq129, eh129⟩ := hQ129
  have N129 := Fr.app N0 Nq129
  obtain ⟨_, _, ⟨T130, L130, k130, n130⟩, -, X130, ⟨Lc130, hQ130, l130, y130, z130⟩, st130⟩ := LawKit.callS X129 hx (y := mn16) hown (own_m hZ hw 221) (own_m hZ hw 222) (own_m hZ hw 223) (own_m hZ hw 224) (by decide) (backOf (W := 1) (rmRN l Z a0 hw [] x0 h0 n0 Z0 ) hZ (own_g hw 224) (own_g hw 223) (by decide) (by decide)) (g := (mkF m 6 #[Rv a1, Rv x0] [(.ref x0), (.ref a1)])) rfl (by rw [hml]; rfl) (argsL := [(.ref x0)]) (rest := [(.ref a1)]) (lenOf own_pd161 rfl) rfl (own_z rfl) (hb hby d30_6) (fun _ _ => ⟨rfl, eh129, (by decide : 0 + 0 ≤ _), (by decide : 0 + 0 ≤ _)⟩)
  dsimp only [Pt.U, Pt.locs, Pt.cells, Pt.slots] at X130 l130 y130 z130 st130 hQ130
  subst l130 y130 z130
  obtain ⟨rfl, Nq130, eh130⟩ := hQ130
  have N130 := Fr.app N129 Nq130
  obtain ⟨T131, h131, X131, e131, W131, st131⟩ := putF X130 hx hZ hown (host := "") (Or.inl (own_g hw 225)) Via.refl eh130 F_0 E_a1 (Or.inr ⟨(own_g hw 226), rfl, hnm⟩) (own_g hw 201) (ty := (.object "java/lang/Object")) (by decide) rfl rfl (g := (mkF m 9 #[Rv a1, Rv x0] [(.ref x0), (.ref a1)])) rfl rfl (hb hby d30_9)
  have Fw131 : Fld Z h131 a1 "java/util/ImmutableCollections$List12" "e0" "Ljava/lang/Object;" (.ref x0) := F_0.same W131
  have Kp131 : Keep h0 h131 [a1] := Kp128.wr W131 (Or.inl (List.mem_of_getElem? (i := 0) rfl))
  have Zs131 : n0 ≤ h131.size := Nat.le_trans Z0 (Keep.of_wr W131).1
  have N131 := Fr.snoc X131 N130 g_1
  have f132_0 : Old Z n0 h131 := Od.wr W131 g_1
  have f132_1 : Exa Z h131 a1 "java/util/ImmutableCollections$List12" := E_a1.wr W131
  have f132_3 : Fld Z h131 a1 "java/util/ImmutableCollections$List12" "e1" "Ljava/lang/Object;" .null := F_1.other W131 (Or.inr (slot_ne (Or.inr (own_g hw 229)) (Or.inr (own_g hw 226)) (by decide) (t := (.object "java/lang/Object")) (t' := (.object "java/lang/Object")) (by decide) (by decide)))
  obtain ⟨T133, X133, e133, st133⟩ := getS2 X131 hx hZ hown (Or.inr (own_g hw 227)) Via.refl e131 (V_env.2.2.2.2.2.2.2.2.1.ext f132_0.2) (g := (mkF m 13 #[Rv a1, Rv x0] [(.ref a1)])) rfl (hb hby d30_13)
  obtain ⟨T134, h134, X134, e134, W134, st134⟩ := putF X133 hx hZ hown (host := "") (Or.inl (own_g hw 228)) Via.refl e133 f132_3 f132_1 (Or.inr ⟨(own_g hw 229), rfl, hnm⟩) (own_g hw 201) (ty := (.object "java/lang/Object")) (by decide) rfl rfl (g := (mkF m 16 #[Rv a1, Rv x0] [(.ref em), (.ref a1)])) rfl rfl (hb hby d30_16)
  have Fw134 : Fld Z h134 a1 "java/util/ImmutableCollections$List12" "e1" "Ljava/lang/Object;" (.ref em) := f132_3.same W134
  have Kp134 : Keep h0 h134 [a1] := Kp131.wr W134 (Or.inl (List.mem_of_getElem? (i := 0) rfl))
  have Zs134 : n0 ≤ h134.size := Nat.le_trans Zs131 (Keep.of_wr W134).1
  have N134 := Fr.snoc X134 N131 g_1
  have f135_0 : Old Z n0 h134 := f132_0.wr W134 g_1
  have f135_1 : Exa Z h134 a1 "java/util/ImmutableCollections$List12" := f132_1.wr W134
  have f135_3 : Fld Z h134 a1 "java/util/ImmutableCollections$List12" "e0" "Ljava/lang/Object;" (.ref x0) := Fw131.other W134 (Or.inr (slot_ne (Or.inr (own_g hw 226)) (Or.inr (own_g hw 229)) (by decide) (t := (.object "java/lang/Object")) (t' := (.object "java/lang/Object")) (by decide) (by decide)))
  refine own_by (fun _ k => XS.aloadN X0.here hx rfl (hb hby d30_0) rfl rfl (st129.trans (XS.aloadN X129.here hx rfl (hb hby d30_4) rfl rfl (XS.aloadN X129.here hx rfl (hb hby d30_5) rfl rfl (st130 _ (st131 _ (XS.aloadN X131.here hx rfl (hb hby d30_12) rfl rfl (st133 _ (st134 _ k))))))))) ?_
  exact own_retV X134 hx hlk hret (hb hby d30_19) (by rw [e134]; exact ⟨rfl, N134, Kp134, Fw134⟩) (by decide) (by decide)
theorem d42_0 : decode jdk_44_method_2_code 0 = .ok (.aload_n 0, 1) := by decide +kernel
theorem d42_1 : decode jdk_44_method_2_code 1 = .ok (.invokespecial 1, 3) := by decide +kernel
theorem d42_4 : decode jdk_44_method_2_code 4 = .ok (.aload_n 0, 1) := by decide +kernel
theorem d42_5 : decode jdk_44_method_2_code 5 = .ok (.aload_n 1, 1) := by decide +kernel
theorem d42_6 : decode jdk_44_method_2_code 6 = .ok (.invokestatic 7, 3) := by decide +kernel
theorem d42_9 : decode jdk_44_method_2_code 9 = .ok (.putfield 13, 3) := by decide +kernel
theorem d42_12 : decode jdk_44_method_2_code 12 = .ok (.aload_n 0, 1) := by decide +kernel
theorem d42_13 : decode jdk_44_method_2_code 13 = .ok (.aload_n 2, 1) := by decide +kernel
theorem d42_14 : decode jdk_44_method_2_code 14 = .ok (.invokestatic 7, 3) := by decide +kernel
theorem d42_17 : decode jdk_44_method_2_code 17 = .ok (.putfield 24, 3) := by decide +kernel
theorem d42_20 : decode jdk_44_method_2_code 20 = .ok (.return_, 1) := by decide +kernel
theorem ef_RRR_3 (m : MethodId) (x0 : Addr) (x1 : Addr) (x2 : Addr) : entryFrame m #[(.ref x0), (.ref x1), (.ref x2)] 3 = mkF m 0 #[.val (.ref x0), .val (.ref x1), .val (.ref x2)] [] := by first | (simp [entryFrame, mkF, argsToLocals, Value.category]; done) | rfl
def own_Q12_2 (Z : State) (em a1 x0 x1 : Addr) (h0 : Heap) (n0 : Nat) (v : Option Value) (h : Heap) (L : List Loc) : Prop := v = none ∧ Fr n0 L ∧ Keep h0 h [a1] ∧ Fld Z h a1 "java/util/ImmutableCollections$List12" "e1" "Ljava/lang/Object;" (.ref x1)
set_option maxRecDepth 65536 in
set_option maxHeartbeats 40000000 in
theorem rm12_2 (l : Launch) (Z : State) (a0 : Array Value) (hw : own_W a0 Z) (ws : List Jvm.Cond) (cs : Int32) (da el ea em ci mm : Addr) (kd ke : ClassId) (a1 x0 x1 : Addr) (h0 : Heap) (n0 : Nat) (Z0 : n0 ≤ h0.size) (V_env : own_Env Z cs da el ea em ci mm kd ke) (Od : Old Z n0 h0) (E_a1 : Exa Z h0 a1 "java/util/ImmutableCollections$List12") (F_0 : Fld Z h0 a1 "java/util/ImmutableCollections$List12" "e0" "Ljava/lang/Object;" .null) (F_1 : Fld Z h0 a1 "java/util/ImmutableCollections$List12" "e1" "Ljava/lang/Object;" .null) (g_1 : n0 ≤ a1) : own_Met l Z mn18 jdk_44_method_2_code 3 none ws (own_R 4 0 0 48) #[(.ref a1), (.ref x0), (.ref x1)] h0 (own_Q12_2 Z em a1 x0 x1 h0 n0) := by
  refine own_enter n0 (plainFor_of_name own_pn155) (fun m => ef_RRR_3 m a1 x0 x1 ) (fun p e s m below meth c s₁ hx hby hlk hml hret hown hnm hZ X0 e0 N0 => ?_)
  show own_Fin _ _ _ _ _ _ _ s₁ (mkF m 0 #[Rv a1, Rv x0, Rv x1] [])
  have Kp136 : Keep h0 h0 [a1] := Keep.refl h0 _
  obtain ⟨_, _, ⟨T137, L137, k137, n137⟩, -, X137, ⟨Lc137, hQ137, l137, y137, z137⟩, st137⟩ := X0.specialBack hx (y := mn3) rfl hown (own_m hZ hw 207) (own_m hZ hw 208) (own_m hZ hw 212) (by decide) (backOf (W := 0) (rmIL l Z a0 hw [] a1 h0 n0 Z0 ) hZ (own_g hw 212) (own_g hw 211) (by decide) (by decide)) (g := (mkF m 1 #[Rv a1, Rv x0, Rv x1] [(.ref a1)])) rfl (by rw [hml]; rfl) (Steps.refl _) (a := a1) (argsL := []) (rest := []) (lenOf own_pd12 rfl) rfl (own_z rfl) (hb hby d42_1) (fun _ _ => ⟨rfl, e0, (by decide : 0 + 0 ≤ _), (by decide : 0 + 0 ≤ _)⟩)
  dsimp only [Pt.U, Pt.locs, Pt.cells, Pt.slots] at X137 l137 y137 z137 st137 hQ137
  subst l137 y137 z137
  obtain ⟨rfl, Nq137, eh137⟩ := hQ137
  have N137 := Fr.app N0 Nq137
  obtain ⟨_, _, ⟨T138, L138, k138, n138⟩, -, X138, ⟨Lc138, hQ138, l138, y138, z138⟩, st138⟩ := LawKit.callS X137 hx (y := mn16) hown (own_m hZ hw 221) (own_m hZ hw 222) (own_m hZ hw 223) (own_m hZ hw 224) (by decide) (backOf (W := 1) (rmRN l Z a0 hw [] x0 h0 n0 Z0 ) hZ (own_g hw 224) (own_g hw 223) (by decide) (by decide)) (g := (mkF m 6 #[Rv a1, Rv x0, Rv x1] [(.ref x0), (.ref a1)])) rfl (by rw [hml]; rfl) (argsL := [(.ref x0)]) (rest := [(.ref a1)]) (lenOf own_pd161 rfl) rfl (own_z rfl) (hb hby d42_6) (fun _ _ => ⟨rfl, eh137, (by decide : 0 + 0 ≤ _), (by decide : 0 + 0 ≤ _)⟩)
  dsimp only [Pt.U, Pt.locs, Pt.cells, Pt.slots] at X138 l138 y138 z138 st138 hQ138
  subst l138 y138 z138
  obtain ⟨rfl, Nq138, eh138⟩ := hQ138
  have N138 := Fr.app N137 Nq138
  obtain ⟨T139, h139, X139, e139, W139, st139⟩ := putF X138 hx hZ hown (host := "") (Or.inl (own_g hw 225)) Via.refl eh138 F_0 E_a1 (Or.inr ⟨(own_g hw 226), rfl, hnm⟩) (own_g hw 201) (ty := (.object "java/lang/Object")) (by decide) rfl rfl (g := (mkF m 9 #[Rv a1, Rv x0, Rv x1] [(.ref x0), (.ref a1)])) rfl rfl (hb hby d42_9)
  have Fw139 : Fld Z h139 a1 "java/util/ImmutableCollections$List12" "e0" "Ljava/lang/Object;" (.ref x0) := F_0.same W139
  have Kp139 : Keep h0 h139 [a1] := Kp136.wr W139 (Or.inl (List.mem_of_getElem? (i := 0) rfl))
  have Zs139 : n0 ≤ h139.size := Nat.le_trans Z0 (Keep.of_wr W139).1
  have N139 := Fr.snoc X139 N138 g_1
  have f140_0 : Old Z n0 h139 := Od.wr W139 g_1
  have f140_1 : Exa Z h139 a1 "java/util/ImmutableCollections$List12" := E_a1.wr W139
  have f140_3 : Fld Z h139 a1 "java/util/ImmutableCollections$List12" "e1" "Ljava/lang/Object;" .null := F_1.other W139 (Or.inr (slot_ne (Or.inr (own_g hw 229)) (Or.inr (own_g hw 226)) (by decide) (t := (.object "java/lang/Object")) (t' := (.object "java/lang/Object")) (by decide) (by decide)))
  obtain ⟨_, _, ⟨T141, L141, k141, n141⟩, -, X141, ⟨Lc141, hQ141, l141, y141, z141⟩, st141⟩ := LawKit.callS X139 hx (y := mn16) hown (own_m hZ hw 221) (own_m hZ hw 222) (own_m hZ hw 223) (own_m hZ hw 224) (by decide) (backOf (W := 1) (rmRN l Z a0 hw [] x1 h139 n0 Zs139 ) hZ (own_g hw 224) (own_g hw 223) (by decide) (by decide)) (g := (mkF m 14 #[Rv a1, Rv x0, Rv x1] [(.ref x1), (.ref a1)])) rfl (by rw [hml]; rfl) (argsL := [(.ref x1)]) (rest := [(.ref a1)]) (lenOf own_pd161 rfl) rfl (own_z rfl) (hb hby d42_14) (fun _ _ => ⟨rfl, e139, (by decide : 0 + 0 ≤ _), (by decide : 0 + 0 ≤ _)⟩)
  dsimp only [Pt.U, Pt.locs, Pt.cells, Pt.slots] at X141 l141 y141 z141 st141 hQ141
  subst l141 y141 z141
  obtain ⟨rfl, Nq141, eh141⟩ := hQ141
  have N141 := Fr.app N139 Nq141
  obtain ⟨T142, h142, X142, e142, W142, st142⟩ := putF X141 hx hZ hown (host := "") (Or.inl (own_g hw 228)) Via.refl eh141 f140_3 f140_1 (Or.inr ⟨(own_g hw 229), rfl, hnm⟩) (own_g hw 201) (ty := (.object "java/lang/Object")) (by decide) rfl rfl (g := (mkF m 17 #[Rv a1, Rv x0, Rv x1] [(.ref x1), (.ref a1)])) rfl rfl (hb hby d42_17)
  have Fw142 : Fld Z h142 a1 "java/util/ImmutableCollections$List12" "e1" "Ljava/lang/Object;" (.ref x1) := f140_3.same W142
  have Kp142 : Keep h0 h142 [a1] := Kp139.wr W142 (Or.inl (List.mem_of_getElem? (i := 0) rfl))
  have Zs142 : n0 ≤ h142.size := Nat.le_trans Zs139 (Keep.of_wr W142).1
  have N142 := Fr.snoc X142 N141 g_1
  have f143_0 : Old Z n0 h142 := f140_0.wr W142 g_1
  have f143_1 : Exa Z h142 a1 "java/util/ImmutableCollections$List12" := f140_1.wr W142
  have f143_3 : Fld Z h142 a1 "java/util/ImmutableCollections$List12" "e0" "Ljava/lang/Object;" (.ref x0) := Fw139.other W142 (Or.inr (slot_ne (Or.inr (own_g hw 226)) (Or.inr (own_g hw 229)) (by decide) (t := (.object "java/lang/Object")) (t' := (.object "java/lang/Object")) (by decide) (by decide)))
  refine own_by (fun _ k => XS.aloadN X0.here hx rfl (hb hby d42_0) rfl rfl (st137.trans (XS.aloadN X137.here hx rfl (hb hby d42_4) rfl rfl (XS.aloadN X137.here hx rfl (hb hby d42_5) rfl rfl (st138 _ (st139 _ (XS.aloadN X139.here hx rfl (hb hby d42_12) rfl rfl (XS.aloadN X139.here hx rfl (hb hby d42_13) rfl rfl (st141 _ (st142 _ k)))))))))) ?_
  exact own_retV X142 hx hlk hret (hb hby d42_20) (by rw [e142]; exact ⟨rfl, N142, Kp142, Fw142⟩) (by decide) (by decide)
theorem own_pn180 : plainName "java/util/ImmutableCollections$ListN" = true := by first | (simp [plainName, overriddenIn]; done) | decide +kernel
theorem d41_0 : decode jdk_45_method_1_code 0 = .ok (.aload_n 0, 1) := by decide +kernel
theorem d41_1 : decode jdk_45_method_1_code 1 = .ok (.invokespecial 1, 3) := by decide +kernel
theorem d41_4 : decode jdk_45_method_1_code 4 = .ok (.aload_n 0, 1) := by decide +kernel
theorem d41_5 : decode jdk_45_method_1_code 5 = .ok (.aload_n 1, 1) := by decide +kernel
theorem d41_6 : decode jdk_45_method_1_code 6 = .ok (.putfield 7, 3) := by decide +kernel
theorem d41_9 : decode jdk_45_method_1_code 9 = .ok (.aload_n 0, 1) := by decide +kernel
theorem d41_10 : decode jdk_45_method_1_code 10 = .ok (.iload_n 2, 1) := by decide +kernel
theorem d41_11 : decode jdk_45_method_1_code 11 = .ok (.putfield 13, 3) := by decide +kernel
theorem d41_14 : decode jdk_45_method_1_code 14 = .ok (.return_, 1) := by decide +kernel
theorem ef_RRI_3 (m : MethodId) (x0 : Addr) (x1 : Addr) (x2 : Int32) : entryFrame m #[(.ref x0), (.ref x1), (.int x2)] 3 = mkF m 0 #[.val (.ref x0), .val (.ref x1), .val (.int x2)] [] := by first | (simp [entryFrame, mkF, argsToLocals, Value.category]; done) | rfl
def own_QLN (Z : State) (a1 v1 : Addr) (h0 : Heap) (n0 : Nat) (v : Option Value) (h : Heap) (L : List Loc) : Prop := v = none ∧ Fr n0 L ∧ Keep h0 h [a1] ∧ Fld Z h a1 "java/util/ImmutableCollections$ListN" "elements" "[Ljava/lang/Object;" (.ref v1)
set_option maxRecDepth 65536 in
set_option maxHeartbeats 40000000 in
theorem rmLN (l : Launch) (Z : State) (a0 : Array Value) (hw : own_W a0 Z) (ws : List Jvm.Cond) (a1 v1 : Addr) (h0 : Heap) (n0 : Nat) (Z0 : n0 ≤ h0.size) (E_a1 : Exa Z h0 a1 "java/util/ImmutableCollections$ListN") (F_0 : Fld Z h0 a1 "java/util/ImmutableCollections$ListN" "elements" "[Ljava/lang/Object;" .null) (F_1 : Fld Z h0 a1 "java/util/ImmutableCollections$ListN" "allowNulls" "Z" (.int (0 : Int32))) (g_1 : n0 ≤ a1) : own_Met l Z mn19 jdk_45_method_1_code 3 none ws (own_R 4 0 0 48) #[(.ref a1), (.ref v1), (.int (0 : Int32))] h0 (own_QLN Z a1 v1 h0 n0) := by
  refine own_enter n0 (plainFor_of_name own_pn180) (fun m => ef_RRI_3 m a1 v1 (0 : Int32) ) (fun p e s m below meth c s₁ hx hby hlk hml hret hown hnm hZ X0 e0 N0 => ?_)
  show own_Fin _ _ _ _ _ _ _ s₁ (mkF m 0 #[Rv a1, Rv v1, Iv 0] [])
  have Kp144 : Keep h0 h0 [a1] := Keep.refl h0 _
  obtain ⟨_, _, ⟨T145, L145, k145, n145⟩, -, X145, ⟨Lc145, hQ145, l145, y145, z145⟩, st145⟩ := X0.specialBack hx (y := mn3) rfl hown (own_m hZ hw 263) (own_m hZ hw 208) (own_m hZ hw 212) (by decide) (backOf (W := 0) (rmIL l Z a0 hw [] a1 h0 n0 Z0 ) hZ (own_g hw 212) (own_g hw 211) (by decide) (by decide)) (g := (mkF m 1 #[Rv a1, Rv v1, Iv 0] [(.ref a1)])) rfl (by rw [hml]; rfl) (Steps.refl _) (a := a1) (argsL := []) (rest := []) (lenOf own_pd12 rfl) rfl (own_z rfl) (hb hby d41_1) (fun _ _ => ⟨rfl, e0, (by decide : 0 + 0 ≤ _), (by decide : 0 + 0 ≤ _)⟩)
  dsimp only [Pt.U, Pt.locs, Pt.cells, Pt.slots] at X145 l145 y145 z145 st145 hQ145
  subst l145 y145 z145
  obtain ⟨rfl, Nq145, eh145⟩ := hQ145
  have N145 := Fr.app N0 Nq145
  obtain ⟨T146, h146, X146, e146, W146, st146⟩ := putF X145 hx hZ hown (host := "") (Or.inl (own_g hw 99)) Via.refl eh145 F_0 E_a1 (Or.inr ⟨(own_g hw 100), rfl, hnm⟩) (own_g hw 258) (ty := (.array (.object "java/lang/Object"))) (by decide) rfl rfl (g := (mkF m 6 #[Rv a1, Rv v1, Iv 0] [(.ref v1), (.ref a1)])) rfl rfl (hb hby d41_6)
  have Fw146 : Fld Z h146 a1 "java/util/ImmutableCollections$ListN" "elements" "[Ljava/lang/Object;" (.ref v1) := F_0.same W146
  have Kp146 : Keep h0 h146 [a1] := Kp144.wr W146 (Or.inl (List.mem_of_getElem? (i := 0) rfl))
  have Zs146 : n0 ≤ h146.size := Nat.le_trans Z0 (Keep.of_wr W146).1
  have N146 := Fr.snoc X146 N145 g_1
  have f147_0 : Exa Z h146 a1 "java/util/ImmutableCollections$ListN" := E_a1.wr W146
  have f147_2 : Fld Z h146 a1 "java/util/ImmutableCollections$ListN" "allowNulls" "Z" (.int (0 : Int32)) := F_1.other W146 (Or.inr (slot_ne (Or.inr (own_g hw 268)) (Or.inr (own_g hw 100)) (by decide) (t := .boolean) (t' := (.array (.object "java/lang/Object"))) (by decide) (by decide)))
  obtain ⟨T148, h148, X148, e148, W148, st148⟩ := putFN X146 hx hZ hown (own_g hw 267) Via.refl e146 f147_2 f147_0 (Or.inr ⟨(own_g hw 268), rfl, hnm⟩) (own_g hw 258) (ty := .boolean) (v' := (.int (0 : Int32))) (by decide) rfl (by decide) (g := (mkF m 11 #[Rv a1, Rv v1, Iv 0] [(.int 0), (.ref a1)])) rfl rfl (hb hby d41_11)
  have Fw148 : Fld Z h148 a1 "java/util/ImmutableCollections$ListN" "allowNulls" "Z" (.int (0 : Int32)) := f147_2.same W148
  have Kp148 : Keep h0 h148 [a1] := Kp146.wr W148 (Or.inl (List.mem_of_getElem? (i := 0) rfl))
  have Zs148 : n0 ≤ h148.size := Nat.le_trans Zs146 (Keep.of_wr W148).1
  have N148 := Fr.snoc X148 N146 g_1
  have f149_0 : Exa Z h148 a1 "java/util/ImmutableCollections$ListN" := f147_0.wr W148
  have f149_2 : Fld Z h148 a1 "java/util/ImmutableCollections$ListN" "elements" "[Ljava/lang/Object;" (.ref v1) := Fw146.other W148 (Or.inr (slot_ne (Or.inr (own_g hw 100)) (Or.inr (own_g hw 268)) (by decide) (t := (.array (.object "java/lang/Object"))) (t' := .boolean) (by decide) (by decide)))
  refine own_by (fun _ k => XS.aloadN X0.here hx rfl (hb hby d41_0) rfl rfl (st145.trans (XS.aloadN X145.here hx rfl (hb hby d41_4) rfl rfl (XS.aloadN X145.here hx rfl (hb hby d41_5) rfl rfl (st146 _ (XS.aloadN X146.here hx rfl (hb hby d41_9) rfl rfl (XS.iloadN X146.here hx rfl (hb hby d41_10) rfl (st148 _ k)))))))) ?_
  exact own_retV X148 hx hlk hret (hb hby d41_14) (by rw [e148]; exact ⟨rfl, N148, Kp148, f149_2⟩) (by decide) (by decide)
theorem d14_0 : decode jdk_45_method_3_code 0 = .ok (.aload_n 0, 1) := by decide +kernel
theorem d14_1 : decode jdk_45_method_3_code 1 = .ok (.getfield 7, 3) := by decide +kernel
theorem d14_4 : decode jdk_45_method_3_code 4 = .ok (.arraylength, 1) := by decide +kernel
theorem d14_5 : decode jdk_45_method_3_code 5 = .ok (.ireturn, 1) := by decide +kernel
def own_QrmZN (z : Int32) (h0 : Heap) (n0 : Nat) (v : Option Value) (h : Heap) (L : List Loc) : Prop := v = some (.int z) ∧ Fr n0 L ∧ h = h0
theorem rmZN (l : Launch) (Z : State) (a0 : Array Value) (hw : own_W a0 Z) (ws : List Jvm.Cond) (a1 v1 : Addr) (k1 : ClassId) (z : Int32) (vs : List Value) (h0 : Heap) (n0 : Nat) (Z0 : n0 ≤ h0.size) (F_0 : Fld Z h0 a1 "java/util/ImmutableCollections$ListN" "elements" "[Ljava/lang/Object;" (.ref v1)) (V1 : Arv Z h0 v1 k1 (.object "java/lang/Object") z vs .null) : own_Met l Z mn20 jdk_45_method_3_code 1 (some .int) ws (own_R 0 0 0 0) #[(.ref a1)] h0 (own_QrmZN z h0 n0) := by
  refine own_enter n0 (plainFor_of_name own_pn180) (fun m => ef_R_1 m a1 ) (fun p e s m below meth c s₁ hx hby hlk hml hret hown hnm hZ X0 e0 N0 => ?_)
  show own_Fin _ _ _ _ _ _ _ s₁ (mkF m 0 #[Rv a1] [])
  obtain ⟨T150, X150, e150, st150⟩ := getF X0 hx hZ hown (host := "") (Or.inl (own_g hw 99)) Via.refl e0 F_0 (g := (mkF m 1 #[Rv a1] [(.ref a1)])) rfl rfl (hb hby d14_1)
  obtain ⟨cl151, Ar151, -, S151, M151, -, -⟩ := id V1
  refine own_by (fun _ k => XS.aloadN X0.here hx rfl (hb hby d14_0) rfl rfl (st150 _ (X150.arraylength hx (by rw [e150]; exact Ar151.1) (State.isArrayOf_alike hZ.alike Ar151.2.1) (g := (mkF m 4 #[Rv a1] [(.ref v1)])) rfl rfl (hb hby d14_4) _ k))) ?_
  rw [len_of S151 M151]
  show own_Fin _ _ _ _ _ _ _ T150 (mkF m 5 #[Rv a1] [(.int z)])
  exact own_retI X150 hx hlk hret (hb hby d14_5) ⟨rfl, N0, e150⟩ (by decide) (by decide)
theorem d34_0 : decode jdk_44_method_3_code 0 = .ok (.aload_n 0, 1) := by decide +kernel
theorem d34_1 : decode jdk_44_method_3_code 1 = .ok (.getfield 24, 3) := by decide +kernel
theorem d34_4 : decode jdk_44_method_3_code 4 = .ok (.getstatic 19, 3) := by decide +kernel
theorem d34_7 : decode jdk_44_method_3_code 7 = .ok (.if_acmp .eq 7, 3) := by decide +kernel
theorem d34_14 : decode jdk_44_method_3_code 14 = .ok (.iconst 1, 1) := by decide +kernel
theorem d34_15 : decode jdk_44_method_3_code 15 = .ok (.ireturn, 1) := by decide +kernel
def own_QrmZ1 (h0 : Heap) (n0 : Nat) (v : Option Value) (h : Heap) (L : List Loc) : Prop := v = some (.int (1 : Int32)) ∧ Fr n0 L ∧ h = h0
theorem rmZ1 (l : Launch) (Z : State) (a0 : Array Value) (hw : own_W a0 Z) (ws : List Jvm.Cond) (cs : Int32) (da el ea em ci mm : Addr) (kd ke : ClassId) (a1 : Addr) (h0 : Heap) (n0 : Nat) (Z0 : n0 ≤ h0.size) (V_env : own_Env Z cs da el ea em ci mm kd ke) (Od : Old Z n0 h0) (F_1 : Fld Z h0 a1 "java/util/ImmutableCollections$List12" "e1" "Ljava/lang/Object;" (.ref em)) : own_Met l Z mn21 jdk_44_method_3_code 1 (some .int) ws (own_R 0 0 0 0) #[(.ref a1)] h0 (own_QrmZ1 h0 n0) := by
  refine own_enter n0 (plainFor_of_name own_pn155) (fun m => ef_R_1 m a1 ) (fun p e s m below meth c s₁ hx hby hlk hml hret hown hnm hZ X0 e0 N0 => ?_)
  show own_Fin _ _ _ _ _ _ _ s₁ (mkF m 0 #[Rv a1] [])
  obtain ⟨T152, X152, e152, st152⟩ := getF X0 hx hZ hown (host := "") (Or.inl (own_g hw 228)) Via.refl e0 F_1 (g := (mkF m 1 #[Rv a1] [(.ref a1)])) rfl rfl (hb hby d34_1)
  obtain ⟨T153, X153, e153, st153⟩ := getS2 X152 hx hZ hown (Or.inr (own_g hw 227)) Via.refl e152 (V_env.2.2.2.2.2.2.2.2.1.ext Od.2) (g := (mkF m 4 #[Rv a1] [(.ref em)])) rfl (hb hby d34_4)
  refine own_by (fun _ k => XS.aloadN X0.here hx rfl (hb hby d34_0) rfl rfl (st152 _ (st153 _ (Jvm.RoadKit.acmp (g := (mkF m 7 #[Rv a1] [(.ref em), (.ref em)])) X153 hx rfl rfl rfl (pc0 := 7) (pc' := 14) (same := true) rfl (hb hby d34_7) rfl (decide_eq_true rfl) (by decide) (by decide) (XS.iconst X153.here hx rfl (hb hby d34_14) k))))) ?_
  exact own_retI X153 hx hlk hret (hb hby d34_15) ⟨rfl, N0, e153⟩ (by decide) (by decide)
theorem d34_10 : decode jdk_44_method_3_code 10 = .ok (.iconst 2, 1) := by decide +kernel
theorem d34_11 : decode jdk_44_method_3_code 11 = .ok (.goto 4, 3) := by decide +kernel
def own_QrmZ2 (h0 : Heap) (n0 : Nat) (v : Option Value) (h : Heap) (L : List Loc) : Prop := v = some (.int (2 : Int32)) ∧ Fr n0 L ∧ h = h0
theorem rmZ2 (l : Launch) (Z : State) (a0 : Array Value) (hw : own_W a0 Z) (ws : List Jvm.Cond) (cs : Int32) (da el ea em ci mm : Addr) (kd ke : ClassId) (a1 x1 : Addr) (h0 : Heap) (n0 : Nat) (Z0 : n0 ≤ h0.size) (V_env : own_Env Z cs da el ea em ci mm kd ke) (Od : Old Z n0 h0) (F_1 : Fld Z h0 a1 "java/util/ImmutableCollections$List12" "e1" "Ljava/lang/Object;" (.ref x1)) (ne : x1 ≠ em) : own_Met l Z mn21 jdk_44_method_3_code 1 (some .int) ws (own_R 0 0 0 0) #[(.ref a1)] h0 (own_QrmZ2 h0 n0) := by
  refine own_enter n0 (plainFor_of_name own_pn155) (fun m => ef_R_1 m a1 ) (fun p e s m below meth c s₁ hx hby hlk hml hret hown hnm hZ X0 e0 N0 => ?_)
  show own_Fin _ _ _ _ _ _ _ s₁ (mkF m 0 #[Rv a1] [])
  obtain ⟨T154, X154, e154, st154⟩ := getF X0 hx hZ hown (host := "") (Or.inl (own_g hw 228)) Via.refl e0 F_1 (g := (mkF m 1 #[Rv a1] [(.ref a1)])) rfl rfl (hb hby d34_1)
  obtain ⟨T155, X155, e155, st155⟩ := getS2 X154 hx hZ hown (Or.inr (own_g hw 227)) Via.refl e154 (V_env.2.2.2.2.2.2.2.2.1.ext Od.2) (g := (mkF m 4 #[Rv a1] [(.ref x1)])) rfl (hb hby d34_4)
  refine own_by (fun _ k => XS.aloadN X0.here hx rfl (hb hby d34_0) rfl rfl (st154 _ (st155 _ (Jvm.RoadKit.acmp (g := (mkF m 7 #[Rv a1] [(.ref em), (.ref x1)])) X155 hx rfl rfl rfl (pc0 := 7) (pc' := 10) (same := false) rfl (hb hby d34_7) rfl (decide_eq_false fun q => ne (Value.ref.inj q)) (by decide) (by decide) (XS.iconst X155.here hx rfl (hb hby d34_10) (XS.goto X155.here hx rfl (pc0 := 11) (pc' := 15) rfl (hb hby d34_11) (by decide) (by decide) k)))))) ?_
  exact own_retI X155 hx hlk hret (hb hby d34_15) ⟨rfl, N0, e155⟩ (by decide) (by decide)
theorem own_pn203 : plainName "java/util/ImmutableCollections" = true := by first | (simp [plainName, overriddenIn]; done) | decide +kernel
theorem d40_0 : decode jdk_56_method_4_code 0 = .ok (.aload_n 0, 1) := by decide +kernel
theorem d40_1 : decode jdk_56_method_4_code 1 = .ok (.arraylength, 1) := by decide +kernel
theorem d40_2 : decode jdk_56_method_4_code 2 = .ok (.anewarray 2, 3) := by decide +kernel
theorem d40_5 : decode jdk_56_method_4_code 5 = .ok (.astore_n 1, 1) := by decide +kernel
theorem d40_6 : decode jdk_56_method_4_code 6 = .ok (.iconst 0, 1) := by decide +kernel
theorem d40_7 : decode jdk_56_method_4_code 7 = .ok (.istore_n 2, 1) := by decide +kernel
theorem d40_8 : decode jdk_56_method_4_code 8 = .ok (.iload_n 2, 1) := by decide +kernel
theorem d40_9 : decode jdk_56_method_4_code 9 = .ok (.aload_n 0, 1) := by decide +kernel
theorem d40_10 : decode jdk_56_method_4_code 10 = .ok (.arraylength, 1) := by decide +kernel
theorem d40_11 : decode jdk_56_method_4_code 11 = .ok (.if_icmp .ge 18, 3) := by decide +kernel
theorem d40_14 : decode jdk_56_method_4_code 14 = .ok (.aload_n 1, 1) := by decide +kernel
theorem d40_15 : decode jdk_56_method_4_code 15 = .ok (.iload_n 2, 1) := by decide +kernel
theorem d40_16 : decode jdk_56_method_4_code 16 = .ok (.aload_n 0, 1) := by decide +kernel
theorem d40_17 : decode jdk_56_method_4_code 17 = .ok (.iload_n 2, 1) := by decide +kernel
theorem d40_18 : decode jdk_56_method_4_code 18 = .ok (.aaload, 1) := by decide +kernel
theorem d40_19 : decode jdk_56_method_4_code 19 = .ok (.invokestatic 37, 3) := by decide +kernel
theorem d40_22 : decode jdk_56_method_4_code 22 = .ok (.aastore, 1) := by decide +kernel
theorem d40_23 : decode jdk_56_method_4_code 23 = .ok (.iinc 2 1, 3) := by decide +kernel
theorem d40_26 : decode jdk_56_method_4_code 26 = .ok (.goto (-18), 3) := by decide +kernel
theorem d40_29 : decode jdk_56_method_4_code 29 = .ok (.new 12, 3) := by decide +kernel
theorem d40_32 : decode jdk_56_method_4_code 32 = .ok (.dup, 1) := by decide +kernel
theorem d40_33 : decode jdk_56_method_4_code 33 = .ok (.aload_n 1, 1) := by decide +kernel
theorem d40_34 : decode jdk_56_method_4_code 34 = .ok (.iconst 0, 1) := by decide +kernel
theorem d40_35 : decode jdk_56_method_4_code 35 = .ok (.invokespecial 43, 3) := by decide +kernel
theorem own_pd228 : parseMethodDescriptor "([Ljava/lang/Object;Z)V" = some ⟨[(.array (.object "java/lang/Object")), .boolean], none⟩ := by decide +kernel
theorem d40_38 : decode jdk_56_method_4_code 38 = .ok (.areturn, 1) := by decide +kernel
theorem ef_R_3 (m : MethodId) (x0 : Addr) : entryFrame m #[(.ref x0)] 3 = mkF m 0 #[.val (.ref x0), .unset, .unset] [] := by first | (simp [entryFrame, mkF, argsToLocals, Value.category]; done) | rfl
def own_QL3 (Z : State) (x0 x1 x2 : Addr) (h0 : Heap) (n0 : Nat) (v : Option Value) (h : Heap) (L : List Loc) : Prop := ∃ (q v1 : Addr) (k1 : ClassId), v = some (.ref q) ∧ Fr n0 L ∧ Keep h0 h [] ∧ h0.size ≤ q ∧ Exa Z h q "java/util/ImmutableCollections$ListN" ∧ Fld Z h q "java/util/ImmutableCollections$ListN" "elements" "[Ljava/lang/Object;" (.ref v1) ∧ Arv Z h v1 k1 (.object "java/lang/Object") (3 : Int32) [(.ref x0), (.ref x1), (.ref x2)] .null ∧ h0.size ≤ v1
set_option maxRecDepth 65536 in
set_option maxHeartbeats 40000000 in
theorem rmLF (l : Launch) (Z : State) (a0 : Array Value) (hw : own_W a0 Z) (ws : List Jvm.Cond) (cs : Int32) (da el ea em ci mm : Addr) (kd ke : ClassId) (b : Addr) (k : ClassId) (x0 x1 x2 : Addr) (h0 : Heap) (n0 : Nat) (Z0 : n0 ≤ h0.size) (V_env : own_Env Z cs da el ea em ci mm kd ke) (Od : Old Z n0 h0) (V_b : Arv Z h0 b k (.object "java/lang/Object") (3 : Int32) [(.ref x0), (.ref x1), (.ref x2)] .null) (E_x0 : Exa Z h0 x0 "com/example/lithe_checker/lithechecker/c/CType$Member") (E_x1 : Exa Z h0 x1 "com/example/lithe_checker/lithechecker/c/CType$Member") (E_x2 : Exa Z h0 x2 "com/example/lithe_checker/lithechecker/c/CType$Member") : own_Met l Z mn22 jdk_56_method_4_code 3 (some (.object "java/util/List")) ws (own_R 5 2 5 66) #[(.ref b)] h0 (own_QL3 Z x0 x1 x2 h0 n0) := by
  refine own_enter n0 (plainFor_of_name own_pn203) (fun m => ef_R_3 m b ) (fun p e s m below meth c s₁ hx hby hlk hml hret hown hnm hZ X0 e0 N0 => ?_)
  show own_Fin _ _ _ _ _ _ _ s₁ (mkF m 0 #[Rv b, Uv, Uv] [])
  have Kp156 : Keep h0 h0 [] := Keep.refl h0 _
  obtain ⟨cl157, Ar157, -, S157, M157, -, -⟩ := id V_b
  refine own_by (fun _ k => XS.aloadN X0.here hx rfl (hb hby d40_0) rfl rfl (X0.arraylength hx (by rw [e0]; exact Ar157.1) (State.isArrayOf_alike hZ.alike Ar157.2.1) (g := (mkF m 1 #[Rv b, Uv, Uv] [(.ref b)])) rfl rfl (hb hby d40_1) _ k)) ?_
  rw [len_of S157 M157]
  show own_Fin _ _ _ _ _ _ _ s₁ (mkF m 2 #[Rv b, Uv, Uv] [(.int 3)])
  obtain ⟨T158, h158, k158, X158, e158, E158, A158, Ex158, Ov158, st158⟩ := newRE X0 hx hZ hown (own_g hw 256) (own_g hw 165) e0 (g := (mkF m 2 #[Rv b, Uv, Uv] [(.int 3)])) rfl (hb hby d40_2) rfl (by decide) (cap := 3) (by decide) (by decide) (by decide) (by decide) (ad := "[Ljava/lang/Object;") (by decide +kernel)
  obtain ⟨b158, g158⟩ : ∃ z, z = h0.size := ⟨_, rfl⟩
  rw [← g158] at A158 Ex158 st158
  have V158 : Arv Z h158 b158 k158 (.object "java/lang/Object") (3 : Int32) [.null, .null, .null] .null := (Arv.new A158 (by decide)).pad (pad_rep [] .null 3)
  have ne158_b : b ≠ b158 := Nat.ne_of_lt (Nat.lt_of_lt_of_le V_b.lt (Nat.le_of_eq g158.symm))
  have ne158_x0 : x0 ≠ b158 := Nat.ne_of_lt (Nat.lt_of_lt_of_le E_x0.lt (Nat.le_of_eq g158.symm))
  have ne158_x1 : x1 ≠ b158 := Nat.ne_of_lt (Nat.lt_of_lt_of_le E_x1.lt (Nat.le_of_eq g158.symm))
  have ne158_x2 : x2 ≠ b158 := Nat.ne_of_lt (Nat.lt_of_lt_of_le E_x2.lt (Nat.le_of_eq g158.symm))
  have gf158 : n0 ≤ b158 := Nat.le_trans Z0 (Nat.le_of_eq g158.symm)
  have Zs158 : n0 ≤ h158.size := Nat.le_trans Z0 E158.1
  have Kp158 : Keep h0 h158 [] := Kp156.ext E158
  have sz_b158 : h0.size ≤ b158 := Nat.le_trans Kp156.1 (Nat.le_of_eq g158.symm)
  have f159_0 : Old Z n0 h158 := Od.ext E158
  have f159_1 : Arv Z h158 b k (.object "java/lang/Object") (3 : Int32) [(.ref x0), (.ref x1), (.ref x2)] .null := V_b.ext E158
  have f159_2 : Exa Z h158 x0 "com/example/lithe_checker/lithechecker/c/CType$Member" := E_x0.ext E158
  have f159_3 : Exa Z h158 x1 "com/example/lithe_checker/lithechecker/c/CType$Member" := E_x1.ext E158
  have f159_4 : Exa Z h158 x2 "com/example/lithe_checker/lithechecker/c/CType$Member" := E_x2.ext E158
  obtain ⟨cl160, Ar160, -, S160, M160, -, -⟩ := id f159_1
  refine own_by (fun _ k => st158 _ (XS.astoreN X158.here hx rfl (hb hby d40_5) rfl rfl (l' := #[Rv b, Rv b158, Uv]) rfl (XS.iconst X158.here hx rfl (hb hby d40_6) (XS.istoreN X158.here hx rfl (hb hby d40_7) rfl (l' := #[Rv b, Rv b158, Iv 0]) rfl (XS.iloadN X158.here hx rfl (hb hby d40_8) rfl (XS.aloadN X158.here hx rfl (hb hby d40_9) rfl rfl (X158.arraylength hx (by rw [e158]; exact Ar160.1) (State.isArrayOf_alike hZ.alike Ar160.2.1) (g := (mkF m 10 #[Rv b, Rv b158, Iv 0] [(.ref b), (.int 0)])) rfl rfl (hb hby d40_10) _ k))))))) ?_
  rw [len_of S160 M160]
  show own_Fin _ _ _ _ _ _ _ T158 (mkF m 11 #[Rv b, Rv b158, Iv 0] [(.int 3), (.int 0)])
  obtain ⟨cl161, Ar161, -, S161, M161, H161, -⟩ := id f159_1
  have hin161 : ¬ ((0 : Int32) < 0 ∨ cl161.slots.size ≤ ((0 : Int32)).toNatClampNeg) := inb_of S161 ⟨by decide, by decide⟩
  have hat161 : cl161.slots[((0 : Int32)).toNatClampNeg]? = some (.ref x0) := Has.at H161 hin161 rfl
  obtain ⟨_, _, ⟨T162, L162, k162, n162⟩, -, X162, ⟨Lc162, hQ162, l162, y162, z162⟩, st162⟩ := LawKit.callS X158 hx (y := mn16) hown (own_m hZ hw 257) (own_m hZ hw 222) (own_m hZ hw 223) (own_m hZ hw 224) (by decide) (backOf (W := 2) (rmRN l Z a0 hw [] x0 h158 n0 Zs158 ) hZ (own_g hw 224) (own_g hw 223) (by decide) (by decide)) (g := (mkF m 19 #[Rv b, Rv b158, Iv 0] [(.ref x0), (.int 0), (.ref b158)])) rfl (by rw [hml]; rfl) (argsL := [(.ref x0)]) (rest := [(.int (0 : Int32)), (.ref b158)]) (lenOf own_pd161 rfl) rfl (own_z rfl) (hb hby d40_19) (fun _ _ => ⟨rfl, e158, (by decide : 1 + 0 ≤ _), (by decide : 3 + 0 ≤ _)⟩)
  dsimp only [Pt.U, Pt.locs, Pt.cells, Pt.slots] at X162 l162 y162 z162 st162 hQ162
  subst l162 y162 z162
  obtain ⟨rfl, Nq162, eh162⟩ := hQ162
  have N162 := Fr.app N0 Nq162
  obtain ⟨cl163, Ar163, q163, S163, M163, H163, G163⟩ := id V158
  have hin163 : ¬ ((0 : Int32) < 0 ∨ cl163.slots.size ≤ ((0 : Int32)).toNatClampNeg) := inb_of S163 ⟨by decide, by decide⟩
  obtain ⟨T163, h163, X163, e163, W163, st163⟩ := stR X162 hx hZ eh162 Ar163 (j := (0 : Int32)) (v := (.ref x0)) hin163 rfl (Sto.ofV Ar163 q163 Ov158 (Ins.of_exa f159_2 (own_g hw 166))) (g := (mkF m 22 #[Rv b, Rv b158, Iv 0] [(.ref x0), (.int 0), (.ref b158)])) rfl rfl (hb hby d40_22)
  have V163 : Arv Z h163 b158 k158 (.object "java/lang/Object") (3 : Int32) [(.ref x0), .null, .null] .null := Arv.set Ar163 q163 S163 M163 H163 G163 rfl W163 0 rfl (Nat.le_of_ble_eq_true rfl)
  have Kp163 : Keep h0 h163 [] := Kp158.wr W163 (Or.inr sz_b158)
  have Zs163 : n0 ≤ h163.size := Nat.le_trans Zs158 (Keep.of_wr W163).1
  have N163 := Fr.snoc X163 N162 gf158
  have f164_0 : Old Z n0 h163 := f159_0.wr W163 gf158
  have f164_1 : Arv Z h163 b k (.object "java/lang/Object") (3 : Int32) [(.ref x0), (.ref x1), (.ref x2)] .null := f159_1.other W163 ne158_b
  have f164_2 : Exa Z h163 x0 "com/example/lithe_checker/lithechecker/c/CType$Member" := f159_2.wr W163
  have f164_3 : Exa Z h163 x1 "com/example/lithe_checker/lithechecker/c/CType$Member" := f159_3.wr W163
  have f164_4 : Exa Z h163 x2 "com/example/lithe_checker/lithechecker/c/CType$Member" := f159_4.wr W163
  have f164_6 : Exa Z h163 b158 "[Ljava/lang/Object;" := Ex158.wr W163
  refine own_by (fun _ k => XS.icmpNo X158.here hx rfl (hb hby d40_11) rfl (tlt (by decide : (0 : Int32) < (3 : Int32))).2.1 (XS.aloadN X158.here hx rfl (hb hby d40_14) rfl rfl (XS.iloadN X158.here hx rfl (hb hby d40_15) rfl (XS.aloadN X158.here hx rfl (hb hby d40_16) rfl rfl (XS.iloadN X158.here hx rfl (hb hby d40_17) rfl (X158.aaload hx (j := (0 : Int32)) (v := (.ref x0)) (by rw [e158]; exact Ar161.1) (State.isArrayOf_alike hZ.alike Ar161.2.1) rfl Ar161.2.2 hin161 hat161 (g := (mkF m 18 #[Rv b, Rv b158, Iv 0] [(.int 0), (.ref b), (.int 0), (.ref b158)])) rfl rfl (hb hby d40_18) _ (st162 _ (st163 _ (XS.iinc X163.here hx rfl (hb hby d40_23) rfl (l' := #[Rv b, Rv b158, Iv ((0 : Int32) + (1 : Int32))]) rfl k))))))))) ?_
  show own_Fin _ _ _ _ _ _ _ T163 (mkF m 26 #[Rv b, Rv b158, Iv ((0 : Int32) + (1 : Int32))] [])
  rw [(by decide : ((0 : Int32) + (1 : Int32)) = (1 : Int32))]
  show own_Fin _ _ _ _ _ _ _ T163 (mkF m 26 #[Rv b, Rv b158, Iv 1] [])
  obtain ⟨cl165, Ar165, -, S165, M165, -, -⟩ := id f164_1
  refine own_by (fun _ k => XS.goto X163.here hx rfl (pc0 := 26) (pc' := 8) rfl (hb hby d40_26) (by decide) (by decide) (XS.iloadN X163.here hx rfl (hb hby d40_8) rfl (XS.aloadN X163.here hx rfl (hb hby d40_9) rfl rfl (X163.arraylength hx (by rw [e163]; exact Ar165.1) (State.isArrayOf_alike hZ.alike Ar165.2.1) (g := (mkF m 10 #[Rv b, Rv b158, Iv 1] [(.ref b), (.int 1)])) rfl rfl (hb hby d40_10) _ k)))) ?_
  rw [len_of S165 M165]
  show own_Fin _ _ _ _ _ _ _ T163 (mkF m 11 #[Rv b, Rv b158, Iv 1] [(.int 3), (.int 1)])
  obtain ⟨cl166, Ar166, -, S166, M166, H166, -⟩ := id f164_1
  have hin166 : ¬ ((1 : Int32) < 0 ∨ cl166.slots.size ≤ ((1 : Int32)).toNatClampNeg) := inb_of S166 ⟨by decide, by decide⟩
  have hat166 : cl166.slots[((1 : Int32)).toNatClampNeg]? = some (.ref x1) := Has.at H166 hin166 rfl
  obtain ⟨_, _, ⟨T167, L167, k167, n167⟩, -, X167, ⟨Lc167, hQ167, l167, y167, z167⟩, st167⟩ := LawKit.callS X163 hx (y := mn16) hown (own_m hZ hw 257) (own_m hZ hw 222) (own_m hZ hw 223) (own_m hZ hw 224) (by decide) (backOf (W := 2) (rmRN l Z a0 hw [] x1 h163 n0 Zs163 ) hZ (own_g hw 224) (own_g hw 223) (by decide) (by decide)) (g := (mkF m 19 #[Rv b, Rv b158, Iv 1] [(.ref x1), (.int 1), (.ref b158)])) rfl (by rw [hml]; rfl) (argsL := [(.ref x1)]) (rest := [(.int (1 : Int32)), (.ref b158)]) (lenOf own_pd161 rfl) rfl (own_z rfl) (hb hby d40_19) (fun _ _ => ⟨rfl, e163, (by decide : 1 + 0 ≤ _), (by decide : 3 + 0 ≤ _)⟩)
  dsimp only [Pt.U, Pt.locs, Pt.cells, Pt.slots] at X167 l167 y167 z167 st167 hQ167
  subst l167 y167 z167
  obtain ⟨rfl, Nq167, eh167⟩ := hQ167
  have N167 := Fr.app N163 Nq167
  obtain ⟨cl168, Ar168, q168, S168, M168, H168, G168⟩ := id V163
  have hin168 : ¬ ((1 : Int32) < 0 ∨ cl168.slots.size ≤ ((1 : Int32)).toNatClampNeg) := inb_of S168 ⟨by decide, by decide⟩
  obtain ⟨T168, h168, X168, e168, W168, st168⟩ := stR X167 hx hZ eh167 Ar168 (j := (1 : Int32)) (v := (.ref x1)) hin168 rfl (Sto.ofV Ar168 q168 Ov158 (Ins.of_exa f164_3 (own_g hw 166))) (g := (mkF m 22 #[Rv b, Rv b158, Iv 1] [(.ref x1), (.int 1), (.ref b158)])) rfl rfl (hb hby d40_22)
  have V168 : Arv Z h168 b158 k158 (.object "java/lang/Object") (3 : Int32) [(.ref x0), (.ref x1), .null] .null := Arv.set Ar168 q168 S168 M168 H168 G168 rfl W168 1 rfl (Nat.le_of_ble_eq_true rfl)
  have Kp168 : Keep h0 h168 [] := Kp163.wr W168 (Or.inr sz_b158)
  have Zs168 : n0 ≤ h168.size := Nat.le_trans Zs163 (Keep.of_wr W168).1
  have N168 := Fr.snoc X168 N167 gf158
  have f169_0 : Old Z n0 h168 := f164_0.wr W168 gf158
  have f169_1 : Arv Z h168 b k (.object "java/lang/Object") (3 : Int32) [(.ref x0), (.ref x1), (.ref x2)] .null := f164_1.other W168 ne158_b
  have f169_2 : Exa Z h168 x0 "com/example/lithe_checker/lithechecker/c/CType$Member" := f164_2.wr W168
  have f169_3 : Exa Z h168 x1 "com/example/lithe_checker/lithechecker/c/CType$Member" := f164_3.wr W168
  have f169_4 : Exa Z h168 x2 "com/example/lithe_checker/lithechecker/c/CType$Member" := f164_4.wr W168
  have f169_5 : Exa Z h168 b158 "[Ljava/lang/Object;" := f164_6.wr W168
  refine own_by (fun _ k => XS.icmpNo X163.here hx rfl (hb hby d40_11) rfl (tlt (by decide : (1 : Int32) < (3 : Int32))).2.1 (XS.aloadN X163.here hx rfl (hb hby d40_14) rfl rfl (XS.iloadN X163.here hx rfl (hb hby d40_15) rfl (XS.aloadN X163.here hx rfl (hb hby d40_16) rfl rfl (XS.iloadN X163.here hx rfl (hb hby d40_17) rfl (X163.aaload hx (j := (1 : Int32)) (v := (.ref x1)) (by rw [e163]; exact Ar166.1) (State.isArrayOf_alike hZ.alike Ar166.2.1) rfl Ar166.2.2 hin166 hat166 (g := (mkF m 18 #[Rv b, Rv b158, Iv 1] [(.int 1), (.ref b), (.int 1), (.ref b158)])) rfl rfl (hb hby d40_18) _ (st167 _ (st168 _ (XS.iinc X168.here hx rfl (hb hby d40_23) rfl (l' := #[Rv b, Rv b158, Iv ((1 : Int32) + (1 : Int32))]) rfl k))))))))) ?_
  show own_Fin _ _ _ _ _ _ _ T168 (mkF m 26 #[Rv b, Rv b158, Iv ((1 : Int32) + (1 : Int32))] [])
  rw [(by decide : ((1 : Int32) + (1 : Int32)) = (2 : Int32))]
  show own_Fin _ _ _ _ _ _ _ T168 (mkF m 26 #[Rv b, Rv b158, Iv 2] [])
  obtain ⟨cl170, Ar170, -, S170, M170, -, -⟩ := id f169_1
  refine own_by (fun _ k => XS.goto X168.here hx rfl (pc0 := 26) (pc' := 8) rfl (hb hby d40_26) (by decide) (by decide) (XS.iloadN X168.here hx rfl (hb hby d40_8) rfl (XS.aloadN X168.here hx rfl (hb hby d40_9) rfl rfl (X168.arraylength hx (by rw [e168]; exact Ar170.1) (State.isArrayOf_alike hZ.alike Ar170.2.1) (g := (mkF m 10 #[Rv b, Rv b158, Iv 2] [(.ref b), (.int 2)])) rfl rfl (hb hby d40_10) _ k)))) ?_
  rw [len_of S170 M170]
  show own_Fin _ _ _ _ _ _ _ T168 (mkF m 11 #[Rv b, Rv b158, Iv 2] [(.int 3), (.int 2)])
  obtain ⟨cl171, Ar171, -, S171, M171, H171, -⟩ := id f169_1
  have hin171 : ¬ ((2 : Int32) < 0 ∨ cl171.slots.size ≤ ((2 : Int32)).toNatClampNeg) := inb_of S171 ⟨by decide, by decide⟩
  have hat171 : cl171.slots[((2 : Int32)).toNatClampNeg]? = some (.ref x2) := Has.at H171 hin171 rfl
  obtain ⟨_, _, ⟨T172, L172, k172, n172⟩, -, X172, ⟨Lc172, hQ172, l172, y172, z172⟩, st172⟩ := LawKit.callS X168 hx (y := mn16) hown (own_m hZ hw 257) (own_m hZ hw 222) (own_m hZ hw 223) (own_m hZ hw 224) (by decide) (backOf (W := 2) (rmRN l Z a0 hw [] x2 h168 n0 Zs168 ) hZ (own_g hw 224) (own_g hw 223) (by decide) (by decide)) (g := (mkF m 19 #[Rv b, Rv b158, Iv 2] [(.ref x2), (.int 2), (.ref b158)])) rfl (by rw [hml]; rfl) (argsL := [(.ref x2)]) (rest := [(.int (2 : Int32)), (.ref b158)]) (lenOf own_pd161 rfl) rfl (own_z rfl) (hb hby d40_19) (fun _ _ => ⟨rfl, e168, (by decide : 1 + 0 ≤ _), (by decide : 3 + 0 ≤ _)⟩)
  dsimp only [Pt.U, Pt.locs, Pt.cells, Pt.slots] at X172 l172 y172 z172 st172 hQ172
  subst l172 y172 z172
  obtain ⟨rfl, Nq172, eh172⟩ := hQ172
  have N172 := Fr.app N168 Nq172
  obtain ⟨cl173, Ar173, q173, S173, M173, H173, G173⟩ := id V168
  have hin173 : ¬ ((2 : Int32) < 0 ∨ cl173.slots.size ≤ ((2 : Int32)).toNatClampNeg) := inb_of S173 ⟨by decide, by decide⟩
  obtain ⟨T173, h173, X173, e173, W173, st173⟩ := stR X172 hx hZ eh172 Ar173 (j := (2 : Int32)) (v := (.ref x2)) hin173 rfl (Sto.ofV Ar173 q173 Ov158 (Ins.of_exa f169_4 (own_g hw 166))) (g := (mkF m 22 #[Rv b, Rv b158, Iv 2] [(.ref x2), (.int 2), (.ref b158)])) rfl rfl (hb hby d40_22)
  have V173 : Arv Z h173 b158 k158 (.object "java/lang/Object") (3 : Int32) [(.ref x0), (.ref x1), (.ref x2)] .null := Arv.set Ar173 q173 S173 M173 H173 G173 rfl W173 2 rfl (Nat.le_of_ble_eq_true rfl)
  have Kp173 : Keep h0 h173 [] := Kp168.wr W173 (Or.inr sz_b158)
  have Zs173 : n0 ≤ h173.size := Nat.le_trans Zs168 (Keep.of_wr W173).1
  have N173 := Fr.snoc X173 N172 gf158
  have f174_0 : Old Z n0 h173 := f169_0.wr W173 gf158
  have f174_1 : Arv Z h173 b k (.object "java/lang/Object") (3 : Int32) [(.ref x0), (.ref x1), (.ref x2)] .null := f169_1.other W173 ne158_b
  have f174_2 : Exa Z h173 x0 "com/example/lithe_checker/lithechecker/c/CType$Member" := f169_2.wr W173
  have f174_3 : Exa Z h173 x1 "com/example/lithe_checker/lithechecker/c/CType$Member" := f169_3.wr W173
  have f174_4 : Exa Z h173 x2 "com/example/lithe_checker/lithechecker/c/CType$Member" := f169_4.wr W173
  have f174_5 : Exa Z h173 b158 "[Ljava/lang/Object;" := f169_5.wr W173
  refine own_by (fun _ k => XS.icmpNo X168.here hx rfl (hb hby d40_11) rfl (tlt (by decide : (2 : Int32) < (3 : Int32))).2.1 (XS.aloadN X168.here hx rfl (hb hby d40_14) rfl rfl (XS.iloadN X168.here hx rfl (hb hby d40_15) rfl (XS.aloadN X168.here hx rfl (hb hby d40_16) rfl rfl (XS.iloadN X168.here hx rfl (hb hby d40_17) rfl (X168.aaload hx (j := (2 : Int32)) (v := (.ref x2)) (by rw [e168]; exact Ar171.1) (State.isArrayOf_alike hZ.alike Ar171.2.1) rfl Ar171.2.2 hin171 hat171 (g := (mkF m 18 #[Rv b, Rv b158, Iv 2] [(.int 2), (.ref b), (.int 2), (.ref b158)])) rfl rfl (hb hby d40_18) _ (st172 _ (st173 _ (XS.iinc X173.here hx rfl (hb hby d40_23) rfl (l' := #[Rv b, Rv b158, Iv ((2 : Int32) + (1 : Int32))]) rfl k))))))))) ?_
  show own_Fin _ _ _ _ _ _ _ T173 (mkF m 26 #[Rv b, Rv b158, Iv ((2 : Int32) + (1 : Int32))] [])
  rw [(by decide : ((2 : Int32) + (1 : Int32)) = (3 : Int32))]
  show own_Fin _ _ _ _ _ _ _ T173 (mkF m 26 #[Rv b, Rv b158, Iv 3] [])
  obtain ⟨cl175, Ar175, -, S175, M175, -, -⟩ := id f174_1
  refine own_by (fun _ k => XS.goto X173.here hx rfl (pc0 := 26) (pc' := 8) rfl (hb hby d40_26) (by decide) (by decide) (XS.iloadN X173.here hx rfl (hb hby d40_8) rfl (XS.aloadN X173.here hx rfl (hb hby d40_9) rfl rfl (X173.arraylength hx (by rw [e173]; exact Ar175.1) (State.isArrayOf_alike hZ.alike Ar175.2.1) (g := (mkF m 10 #[Rv b, Rv b158, Iv 3] [(.ref b), (.int 3)])) rfl rfl (hb hby d40_10) _ k)))) ?_
  rw [len_of S175 M175]
  show own_Fin _ _ _ _ _ _ _ T173 (mkF m 11 #[Rv b, Rv b158, Iv 3] [(.int 3), (.int 3)])
  obtain ⟨T176, h176, X176, e176, E176, A176, D176, -, st176⟩ := newO X173 hx hZ hown (own_g hw 68) (own_g hw 258) (own_g hw 97) e173 (g := (mkF m 29 #[Rv b, Rv b158, Iv 3] [])) rfl (hb hby d40_29) (by decide) (by decide)
  obtain ⟨b176, g176⟩ : ∃ z, z = h173.size := ⟨_, rfl⟩
  rw [← g176] at A176 D176 st176
  have ne176_b : b ≠ b176 := Nat.ne_of_lt (Nat.lt_of_lt_of_le f174_1.lt (Nat.le_of_eq g176.symm))
  have ne176_x0 : x0 ≠ b176 := Nat.ne_of_lt (Nat.lt_of_lt_of_le f174_2.lt (Nat.le_of_eq g176.symm))
  have ne176_x1 : x1 ≠ b176 := Nat.ne_of_lt (Nat.lt_of_lt_of_le f174_3.lt (Nat.le_of_eq g176.symm))
  have ne176_x2 : x2 ≠ b176 := Nat.ne_of_lt (Nat.lt_of_lt_of_le f174_4.lt (Nat.le_of_eq g176.symm))
  have ne176_b158 : b158 ≠ b176 := Nat.ne_of_lt (Nat.lt_of_lt_of_le f174_5.lt (Nat.le_of_eq g176.symm))
  have gf176 : n0 ≤ b176 := Nat.le_trans Zs173 (Nat.le_of_eq g176.symm)
  have Zs176 : n0 ≤ h176.size := Nat.le_trans Zs173 E176.1
  have Kp176 : Keep h0 h176 [] := Kp173.ext E176
  have sz_b176 : h0.size ≤ b176 := Nat.le_trans Kp173.1 (Nat.le_of_eq g176.symm)
  have f177_0 : Old Z n0 h176 := f174_0.ext E176
  have f177_1 : Arv Z h176 b k (.object "java/lang/Object") (3 : Int32) [(.ref x0), (.ref x1), (.ref x2)] .null := f174_1.ext E176
  have f177_2 : Exa Z h176 x0 "com/example/lithe_checker/lithechecker/c/CType$Member" := f174_2.ext E176
  have f177_3 : Exa Z h176 x1 "com/example/lithe_checker/lithechecker/c/CType$Member" := f174_3.ext E176
  have f177_4 : Exa Z h176 x2 "com/example/lithe_checker/lithechecker/c/CType$Member" := f174_4.ext E176
  have f177_5 : Exa Z h176 b158 "[Ljava/lang/Object;" := f174_5.ext E176
  have f177_6 : Arv Z h176 b158 k158 (.object "java/lang/Object") (3 : Int32) [(.ref x0), (.ref x1), (.ref x2)] .null := V173.ext E176
  have F176_elements : Fld Z h176 b176 "java/util/ImmutableCollections$ListN" "elements" "[Ljava/lang/Object;" .null := D176 (Or.inr (own_g hw 100)) (ty := (.array (.object "java/lang/Object"))) (by decide)
  have F176_allowNulls : Fld Z h176 b176 "java/util/ImmutableCollections$ListN" "allowNulls" "Z" (.int (0 : Int32)) := D176 (Or.inr (own_g hw 268)) (ty := .boolean) (by decide)
  obtain ⟨_, _, ⟨T178, L178, k178, n178⟩, -, X178, ⟨Lc178, hQ178, l178, y178, z178⟩, st178⟩ := X176.specialBackNest hx (y := mn19) rfl hown (own_mvM hZ (own_g hw 259)) (own_m hZ hw 260) (own_m hZ hw 262) (by decide) (backOf (W := 1) (rmLN l Z a0 hw [] b176 b158 h176 n0 Zs176 A176 F176_elements F176_allowNulls gf176) hZ (own_g hw 262) (own_g hw 97) (by decide) (by decide)) (g := (mkF m 35 #[Rv b, Rv b158, Iv 3] [(.int 0), (.ref b158), (.ref b176), (.ref b176)])) rfl (by rw [hml]; rfl) (Steps.refl _) (a := b176) (argsL := [(.ref b158), (.int (0 : Int32))]) (rest := [(.ref b176)]) (lenOf own_pd228 rfl) rfl (own_z rfl) (hb hby d40_35) (fun _ _ => ⟨rfl, e176, (by decide : 2 + 0 ≤ _), (by decide : 5 + 0 ≤ _)⟩)
  dsimp only [Pt.U, Pt.locs, Pt.cells, Pt.slots] at X178 l178 y178 z178 st178 hQ178
  subst l178 y178 z178
  obtain ⟨rfl, Nq178, K178, Gf178⟩ := hQ178
  have N178 := Fr.app N173 Nq178
  have Zs178 : n0 ≤ T178.heap.size := Nat.le_trans Zs176 K178.1
  have Kp178 : Keep h0 T178.heap [] := Kp176.trans K178 (allS (Or.inr sz_b176) all0)
  have f179_0 : Old Z n0 T178.heap := f177_0.keep K178 (allS gf176 all0)
  have f179_1 : Arv Z T178.heap b k (.object "java/lang/Object") (3 : Int32) [(.ref x0), (.ref x1), (.ref x2)] .null := f177_1.keep K178 (ninS ne176_b nin0)
  have f179_2 : Exa Z T178.heap x0 "com/example/lithe_checker/lithechecker/c/CType$Member" := f177_2.keep K178
  have f179_3 : Exa Z T178.heap x1 "com/example/lithe_checker/lithechecker/c/CType$Member" := f177_3.keep K178
  have f179_4 : Exa Z T178.heap x2 "com/example/lithe_checker/lithechecker/c/CType$Member" := f177_4.keep K178
  have f179_5 : Exa Z T178.heap b158 "[Ljava/lang/Object;" := f177_5.keep K178
  have f179_6 : Arv Z T178.heap b158 k158 (.object "java/lang/Object") (3 : Int32) [(.ref x0), (.ref x1), (.ref x2)] .null := f177_6.keep K178 (ninS ne176_b158 nin0)
  have f179_7 : Exa Z T178.heap b176 "java/util/ImmutableCollections$ListN" := A176.keep K178
  refine own_by (fun _ k => XS.icmpYes X173.here hx rfl (pc0 := 11) (pc' := 29) rfl (hb hby d40_11) rfl (flt (by decide : ¬ ((3 : Int32) < (3 : Int32)))).2.1 (by decide) (by decide) (st176 _ (XS.dup X176.here hx rfl (hb hby d40_32) rfl rfl (XS.aloadN X176.here hx rfl (hb hby d40_33) rfl rfl (XS.iconst X176.here hx rfl (hb hby d40_34) (st178.trans k)))))) ?_
  exact own_retA X178 hx hlk (t := (.object "java/util/List")) hret rfl rfl rfl (hb hby d40_38) ⟨_, _, _, rfl, N178, Kp178, sz_b176, f179_7, Gf178, f179_6, sz_b158⟩ (by decide) (by decide)
theorem own_pn231 : plainName "java/util/List" = true := by first | (simp [plainName, overriddenIn]; done) | decide +kernel
theorem d29_0 : decode jdk_40_method_47_code 0 = .ok (.aload_n 0, 1) := by decide +kernel
theorem d29_1 : decode jdk_40_method_47_code 1 = .ok (.arraylength, 1) := by decide +kernel
theorem d29_2 : decode jdk_40_method_47_code 2 = .ok (.tableswitch 57 0 2 #[26, 32, 43], 26) := by decide +kernel
theorem d29_34 : decode jdk_40_method_47_code 34 = .ok (.new 96, 3) := by decide +kernel
theorem d29_37 : decode jdk_40_method_47_code 37 = .ok (.dup, 1) := by decide +kernel
theorem d29_38 : decode jdk_40_method_47_code 38 = .ok (.aload_n 0, 1) := by decide +kernel
theorem d29_39 : decode jdk_40_method_47_code 39 = .ok (.iconst 0, 1) := by decide +kernel
theorem d29_40 : decode jdk_40_method_47_code 40 = .ok (.aaload, 1) := by decide +kernel
theorem d29_41 : decode jdk_40_method_47_code 41 = .ok (.invokespecial 98, 3) := by decide +kernel
theorem own_pd241 : parseMethodDescriptor "(Ljava/lang/Object;)V" = some ⟨[(.object "java/lang/Object")], none⟩ := by decide +kernel
theorem d29_44 : decode jdk_40_method_47_code 44 = .ok (.areturn, 1) := by decide +kernel
theorem ef_R_2 (m : MethodId) (x0 : Addr) : entryFrame m #[(.ref x0)] 2 = mkF m 0 #[.val (.ref x0), .unset] [] := by first | (simp [entryFrame, mkF, argsToLocals, Value.category]; done) | rfl
def own_QL1 (Z : State) (em : Addr) (x0 : Addr) (h0 : Heap) (n0 : Nat) (v : Option Value) (h : Heap) (L : List Loc) : Prop := ∃ q : Addr, v = some (.ref q) ∧ Fr n0 L ∧ Keep h0 h [] ∧ h0.size ≤ q ∧ Exa Z h q "java/util/ImmutableCollections$List12" ∧ Fld Z h q "java/util/ImmutableCollections$List12" "e1" "Ljava/lang/Object;" (.ref em)
set_option maxRecDepth 65536 in
set_option maxHeartbeats 40000000 in
theorem rmLO1 (l : Launch) (Z : State) (a0 : Array Value) (hw : own_W a0 Z) (ws : List Jvm.Cond) (cs : Int32) (da el ea em ci mm : Addr) (kd ke : ClassId) (b : Addr) (k : ClassId) (x0 : Addr) (h0 : Heap) (n0 : Nat) (Z0 : n0 ≤ h0.size) (V_env : own_Env Z cs da el ea em ci mm kd ke) (Od : Old Z n0 h0) (V_b : Arv Z h0 b k (.object "java/lang/Object") (1 : Int32) [(.ref x0)] .null) (E_x0 : Exa Z h0 x0 "com/example/lithe_checker/lithechecker/c/CType$Member") : own_Met l Z mn23 jdk_40_method_47_code 2 (some (.object "java/util/List")) ws (own_R 5 1 2 65) #[(.ref b)] h0 (own_QL1 Z em x0 h0 n0) := by
  refine own_enter n0 (plainFor_of_name own_pn231) (fun m => ef_R_2 m b ) (fun p e s m below meth c s₁ hx hby hlk hml hret hown hnm hZ X0 e0 N0 => ?_)
  show own_Fin _ _ _ _ _ _ _ s₁ (mkF m 0 #[Rv b, Uv] [])
  have Kp180 : Keep h0 h0 [] := Keep.refl h0 _
  obtain ⟨cl181, Ar181, -, S181, M181, -, -⟩ := id V_b
  refine own_by (fun _ k => XS.aloadN X0.here hx rfl (hb hby d29_0) rfl rfl (X0.arraylength hx (by rw [e0]; exact Ar181.1) (State.isArrayOf_alike hZ.alike Ar181.2.1) (g := (mkF m 1 #[Rv b, Uv] [(.ref b)])) rfl rfl (hb hby d29_1) _ k)) ?_
  rw [len_of S181 M181]
  show own_Fin _ _ _ _ _ _ _ s₁ (mkF m 2 #[Rv b, Uv] [(.int 1)])
  obtain ⟨T182, h182, X182, e182, E182, A182, D182, -, st182⟩ := newO X0 hx hZ hown (own_g hw 200) (own_g hw 201) (own_g hw 202) e0 (g := (mkF m 34 #[Rv b, Uv] [])) rfl (hb hby d29_34) (by decide) (by decide)
  obtain ⟨b182, g182⟩ : ∃ z, z = h0.size := ⟨_, rfl⟩
  rw [← g182] at A182 D182 st182
  have ne182_b : b ≠ b182 := Nat.ne_of_lt (Nat.lt_of_lt_of_le V_b.lt (Nat.le_of_eq g182.symm))
  have ne182_x0 : x0 ≠ b182 := Nat.ne_of_lt (Nat.lt_of_lt_of_le E_x0.lt (Nat.le_of_eq g182.symm))
  have gf182 : n0 ≤ b182 := Nat.le_trans Z0 (Nat.le_of_eq g182.symm)
  have Zs182 : n0 ≤ h182.size := Nat.le_trans Z0 E182.1
  have Kp182 : Keep h0 h182 [] := Kp180.ext E182
  have sz_b182 : h0.size ≤ b182 := Nat.le_trans Kp180.1 (Nat.le_of_eq g182.symm)
  have f183_0 : Old Z n0 h182 := Od.ext E182
  have f183_1 : Arv Z h182 b k (.object "java/lang/Object") (1 : Int32) [(.ref x0)] .null := V_b.ext E182
  have f183_2 : Exa Z h182 x0 "com/example/lithe_checker/lithechecker/c/CType$Member" := E_x0.ext E182
  have F182_e0 : Fld Z h182 b182 "java/util/ImmutableCollections$List12" "e0" "Ljava/lang/Object;" .null := D182 (Or.inr (own_g hw 226)) (ty := (.object "java/lang/Object")) (by decide)
  have F182_e1 : Fld Z h182 b182 "java/util/ImmutableCollections$List12" "e1" "Ljava/lang/Object;" .null := D182 (Or.inr (own_g hw 229)) (ty := (.object "java/lang/Object")) (by decide)
  obtain ⟨cl184, Ar184, -, S184, M184, H184, -⟩ := id f183_1
  have hin184 : ¬ ((0 : Int32) < 0 ∨ cl184.slots.size ≤ ((0 : Int32)).toNatClampNeg) := inb_of S184 ⟨by decide, by decide⟩
  have hat184 : cl184.slots[((0 : Int32)).toNatClampNeg]? = some (.ref x0) := Has.at H184 hin184 rfl
  obtain ⟨_, _, ⟨T185, L185, k185, n185⟩, -, X185, ⟨Lc185, hQ185, l185, y185, z185⟩, st185⟩ := X182.specialBack hx (y := mn17) rfl hown (own_m hZ hw 203) (own_m hZ hw 204) (own_m hZ hw 206) (by decide) (backOf (W := 1) (rm12_1 l Z a0 hw [] cs da el ea em ci mm kd ke b182 x0 h182 n0 Zs182 V_env f183_0 A182 F182_e0 F182_e1 gf182) hZ (own_g hw 206) (own_g hw 202) (by decide) (by decide)) (g := (mkF m 41 #[Rv b, Uv] [(.ref x0), (.ref b182), (.ref b182)])) rfl (by rw [hml]; rfl) (Steps.refl _) (a := b182) (argsL := [(.ref x0)]) (rest := [(.ref b182)]) (lenOf own_pd241 rfl) rfl (own_z rfl) (hb hby d29_41) (fun _ _ => ⟨rfl, e182, (by decide : 1 + 0 ≤ _), (by decide : 2 + 0 ≤ _)⟩)
  dsimp only [Pt.U, Pt.locs, Pt.cells, Pt.slots] at X185 l185 y185 z185 st185 hQ185
  subst l185 y185 z185
  obtain ⟨rfl, Nq185, K185, Gf185⟩ := hQ185
  have N185 := Fr.app N0 Nq185
  have Zs185 : n0 ≤ T185.heap.size := Nat.le_trans Zs182 K185.1
  have Kp185 : Keep h0 T185.heap [] := Kp182.trans K185 (allS (Or.inr sz_b182) all0)
  have f186_0 : Old Z n0 T185.heap := f183_0.keep K185 (allS gf182 all0)
  have f186_1 : Arv Z T185.heap b k (.object "java/lang/Object") (1 : Int32) [(.ref x0)] .null := f183_1.keep K185 (ninS ne182_b nin0)
  have f186_2 : Exa Z T185.heap x0 "com/example/lithe_checker/lithechecker/c/CType$Member" := f183_2.keep K185
  have f186_3 : Exa Z T185.heap b182 "java/util/ImmutableCollections$List12" := A182.keep K185
  refine own_by (fun _ k => XS.tswIn X0.here hx rfl (o := 32) (pc0 := 2) (pc' := 34) rfl (hb hby d29_2) rfl (by decide) (by decide) (by decide) (by decide) (st182 _ (XS.dup X182.here hx rfl (hb hby d29_37) rfl rfl (XS.aloadN X182.here hx rfl (hb hby d29_38) rfl rfl (XS.iconst X182.here hx rfl (hb hby d29_39) (X182.aaload hx (j := (0 : Int32)) (v := (.ref x0)) (by rw [e182]; exact Ar184.1) (State.isArrayOf_alike hZ.alike Ar184.2.1) rfl Ar184.2.2 hin184 hat184 (g := (mkF m 40 #[Rv b, Uv] [(.int 0), (.ref b), (.ref b182), (.ref b182)])) rfl rfl (hb hby d29_40) _ (st185.trans k))))))) ?_
  exact own_retA X185 hx hlk (t := (.object "java/util/List")) hret rfl rfl rfl (hb hby d29_44) ⟨_, rfl, N185, Kp185, sz_b182, f186_3, Gf185⟩ (by decide) (by decide)
theorem d10_0 : decode jdk_56_method_3_code 0 = .ok (.aload_n 0, 1) := by decide +kernel
theorem d10_1 : decode jdk_56_method_3_code 1 = .ok (.instanceof 10, 3) := by decide +kernel
theorem d10_4 : decode jdk_56_method_3_code 4 = .ok (.ifCond .ne 22, 3) := by decide +kernel
theorem d10_7 : decode jdk_56_method_3_code 7 = .ok (.aload_n 0, 1) := by decide +kernel
theorem d10_8 : decode jdk_56_method_3_code 8 = .ok (.instanceof 12, 3) := by decide +kernel
theorem d10_11 : decode jdk_56_method_3_code 11 = .ok (.ifCond .eq 20, 3) := by decide +kernel
theorem d10_31 : decode jdk_56_method_3_code 31 = .ok (.aload_n 0, 1) := by decide +kernel
theorem d10_32 : decode jdk_56_method_3_code 32 = .ok (.invokeinterface 20 1, 5) := by decide +kernel
theorem own_pd251 : parseMethodDescriptor "()Z" = some ⟨[], some .boolean⟩ := by decide +kernel
theorem d10_37 : decode jdk_56_method_3_code 37 = .ok (.ifCond .eq 7, 3) := by decide +kernel
theorem d10_44 : decode jdk_56_method_3_code 44 = .ok (.aload_n 0, 1) := by decide +kernel
theorem d10_45 : decode jdk_56_method_3_code 45 = .ok (.invokeinterface 30 1, 5) := by decide +kernel
theorem d10_50 : decode jdk_56_method_3_code 50 = .ok (.invokestatic 34, 3) := by decide +kernel
theorem own_pd256 : parseMethodDescriptor "([Ljava/lang/Object;)Ljava/util/List;" = some ⟨[(.array (.object "java/lang/Object"))], some (.object "java/util/List")⟩ := by decide +kernel
theorem d10_53 : decode jdk_56_method_3_code 53 = .ok (.areturn, 1) := by decide +kernel
set_option maxRecDepth 65536 in
set_option maxHeartbeats 40000000 in
theorem rmLC1 (l : Launch) (Z : State) (a0 : Array Value) (hw : own_W a0 Z) (ws : List Jvm.Cond) (cs : Int32) (da el ea em ci mm : Addr) (kd ke : ClassId) (a1 b : Addr) (k : ClassId) (x0 : Addr) (h0 : Heap) (n0 : Nat) (Z0 : n0 ≤ h0.size) (V_env : own_Env Z cs da el ea em ci mm kd ke) (Od : Old Z n0 h0) (E_a1 : Exa Z h0 a1 "java/util/ArrayList") (F_e : Fld Z h0 a1 "java/util/ArrayList" "elementData" "[Ljava/lang/Object;" (.ref b)) (F_s : Fld Z h0 a1 "java/util/ArrayList" "size" "I" (.int (1 : Int32))) (V_b : Arv Z h0 b k (.object "java/lang/Object") (10 : Int32) [(.ref x0), .null, .null, .null, .null, .null, .null, .null, .null, .null] .null) (E_b : Exa Z h0 b "[Ljava/lang/Object;") (E_x0 : Exa Z h0 x0 "com/example/lithe_checker/lithechecker/c/CType$Member") : own_Met l Z mn24 jdk_56_method_3_code 2 (some (.object "java/util/List")) ws (own_R 6 2 3 90) #[(.ref a1)] h0 (own_QL1 Z em x0 h0 n0) := by
  refine own_enter n0 (plainFor_of_name own_pn203) (fun m => ef_R_2 m a1 ) (fun p e s m below meth c s₁ hx hby hlk hml hret hown hnm hZ X0 e0 N0 => ?_)
  show own_Fin _ _ _ _ _ _ _ s₁ (mkF m 0 #[Rv a1, Uv] [])
  have Kp187 : Keep h0 h0 [] := Keep.refl h0 _
  obtain ⟨T188, X188, e188, st188⟩ := instNo X0 hx hZ hown (own_g hw 63) e0 E_a1 (own_not4 (own_g hw 64) (own_g hw 65) (own_g hw 66) (own_g hw 67) (own_g hw 201) (by decide) (by decide) (by decide) (by decide)) (g := (mkF m 1 #[Rv a1, Uv] [(.ref a1)])) rfl rfl (hb hby d10_1)
  obtain ⟨T189, X189, e189, st189⟩ := instNo X188 hx hZ hown (own_g hw 68) e188 E_a1 (own_not4 (own_g hw 64) (own_g hw 65) (own_g hw 66) (own_g hw 67) (own_g hw 258) (by decide) (by decide) (by decide) (by decide)) (g := (mkF m 8 #[Rv a1, Uv] [(.ref a1)])) rfl rfl (hb hby d10_8)
  obtain ⟨cq190, kq190, q190a, q190b, q190c⟩ := isOf hZ e189 E_a1
  obtain ⟨_, _, ⟨T190, L190, k190, n190⟩, -, X190, ⟨Lc190, hQ190, l190, y190, z190⟩, st190⟩ := X189.interfaceBack hx (xi := mn25) (y := mn12) hown (own_m hZ hw 69) (own_m hZ hw 70) (own_m hZ hw 71) (own_m hZ hw 72) (own_m hZ hw 73) (own_m hZ hw 74) (own_m hZ hw 75) (own_m hZ hw 76) (by decide) (backOf (W := 0) (rmIE1 l Z a0 hw [] a1 h0 n0 Z0 F_s) hZ (own_g hw 77) (own_g hw 28) (by decide) (by decide)) q190a q190b q190c (g := (mkF m 32 #[Rv a1, Uv] [(.ref a1)])) rfl (by rw [hml]; rfl) (Steps.refl _) (argsL := []) (rest := []) (lenOf own_pd251 rfl) rfl (own_z rfl) (hb hby d10_32) (fun _ _ => ⟨rfl, e189, (by decide : 0 + 0 ≤ _), (by decide : 0 + 0 ≤ _)⟩)
  dsimp only [Pt.U, Pt.locs, Pt.cells, Pt.slots] at X190 l190 y190 z190 st190 hQ190
  subst l190 y190 z190
  obtain ⟨rfl, Nq190, eh190⟩ := hQ190
  have N190 := Fr.app N0 Nq190
  obtain ⟨cq191, kq191, q191a, q191b, q191c⟩ := isOf hZ eh190 E_a1
  obtain ⟨_, _, ⟨T191, L191, k191, n191⟩, -, X191, ⟨Lc191, hQ191, l191, y191, z191⟩, st191⟩ := X190.interfaceBack hx (xi := mn26) (y := mn15) hown (own_m hZ hw 167) (own_m hZ hw 168) (own_m hZ hw 169) (own_m hZ hw 170) (own_m hZ hw 171) (own_m hZ hw 172) (own_m hZ hw 173) (own_m hZ hw 76) (by decide) (backOf (W := 0) (rmTA_1 l Z a0 hw [] cs da el ea em ci mm kd ke a1 b k x0 h0 n0 Z0 V_env Od E_a1 F_e F_s V_b E_b E_x0) hZ (own_g hw 174) (own_g hw 28) (by decide) (by decide)) q191a q191b q191c (g := (mkF m 45 #[Rv a1, Uv] [(.ref a1)])) rfl (by rw [hml]; rfl) (Steps.refl _) (argsL := []) (rest := []) (lenOf own_pd79 rfl) rfl (own_z rfl) (hb hby d10_45) (fun _ _ => ⟨rfl, eh190, (by decide : 0 + 1 ≤ _), (by decide : 0 + 1 ≤ _)⟩)
  dsimp only [Pt.U, Pt.locs, Pt.cells, Pt.slots] at X191 l191 y191 z191 st191 hQ191
  subst l191 y191 z191
  obtain ⟨b191, k191, rfl, Nq191, K191, ge191, V191⟩ := hQ191
  have N191 := Fr.app N190 Nq191
  refine own_by (fun _ k => XS.aloadN X0.here hx rfl (hb hby d10_0) rfl rfl (st188 _ (XS.ifNo X188.here hx rfl (hb hby d10_4) rfl ((if0 _ _).trans (teq (by decide : (0 : Int32) = (0 : Int32))).2) (XS.aloadN X188.here hx rfl (hb hby d10_7) rfl rfl (st189 _ (XS.ifYes X189.here hx rfl (pc0 := 11) (pc' := 31) rfl (hb hby d10_11) rfl ((if0 _ _).trans (teq (by decide : (0 : Int32) = (0 : Int32))).1) (by decide) (by decide) (XS.aloadN X189.here hx rfl (hb hby d10_31) rfl rfl (st190.trans (XS.ifYes X190.here hx rfl (pc0 := 37) (pc' := 44) rfl (hb hby d10_37) rfl ((if0 _ _).trans (teq (by decide : (0 : Int32) = (0 : Int32))).1) (by decide) (by decide) (XS.aloadN X190.here hx rfl (hb hby d10_44) rfl rfl k)))))))))) ?_
  show own_Fin _ _ _ _ _ _ _ T190 (mkF m 45 #[Rv a1, Uv] [(.ref a1)])
  have Zs191 : n0 ≤ T191.heap.size := Nat.le_trans Z0 K191.1
  have Kp191 : Keep h0 T191.heap [] := Kp187.trans K191 all0
  have f192_0 : Old Z n0 T191.heap := Od.keep K191 all0
  have f192_1 : Arv Z T191.heap b k (.object "java/lang/Object") (10 : Int32) [(.ref x0), .null, .null, .null, .null, .null, .null, .null, .null, .null] .null := V_b.keep K191 nin0
  have f192_2 : Exa Z T191.heap b "[Ljava/lang/Object;" := E_b.keep K191
  have f192_3 : Exa Z T191.heap a1 "java/util/ArrayList" := E_a1.keep K191
  have f192_4 : Fld Z T191.heap a1 "java/util/ArrayList" "elementData" "[Ljava/lang/Object;" (.ref b) := F_e.keep K191 nin0
  have f192_5 : Fld Z T191.heap a1 "java/util/ArrayList" "size" "I" (.int (1 : Int32)) := F_s.keep K191 nin0
  have f192_6 : Exa Z T191.heap x0 "com/example/lithe_checker/lithechecker/c/CType$Member" := E_x0.keep K191
  have ne191_b : b ≠ b191 := Nat.ne_of_lt (Nat.lt_of_lt_of_le V_b.lt ge191)
  have ne191_a1 : a1 ≠ b191 := Nat.ne_of_lt (Nat.lt_of_lt_of_le E_a1.lt ge191)
  have ne191_x0 : x0 ≠ b191 := Nat.ne_of_lt (Nat.lt_of_lt_of_le E_x0.lt ge191)
  have gf191 : n0 ≤ b191 := Nat.le_trans Z0 ge191
  have sz_b191 : h0.size ≤ b191 := Nat.le_trans Kp187.1 ge191
  obtain ⟨_, _, ⟨T193, L193, k193, n193⟩, -, X193, ⟨Lc193, hQ193, l193, y193, z193⟩, st193⟩ := LawKit.callS X191 hx (y := mn23) hown (own_m hZ hw 197) (own_m hZ hw 198) (own_m hZ hw 57) (own_m hZ hw 199) (by decide) (backOf (W := 0) (rmLO1 l Z a0 hw [] cs da el ea em ci mm kd ke b191 k191 x0 T191.heap n0 Zs191 V_env f192_0 V191 f192_6) hZ (own_g hw 199) (own_g hw 57) (by decide) (by decide)) (g := (mkF m 50 #[Rv a1, Uv] [(.ref b191)])) rfl (by rw [hml]; rfl) (argsL := [(.ref b191)]) (rest := []) (lenOf own_pd256 rfl) rfl (own_z rfl) (hb hby d10_50) (fun _ _ => ⟨rfl, rfl, (by decide : 1 + 1 ≤ _), (by decide : 1 + 2 ≤ _)⟩)
  dsimp only [Pt.U, Pt.locs, Pt.cells, Pt.slots] at X193 l193 y193 z193 st193 hQ193
  subst l193 y193 z193
  obtain ⟨b193, rfl, Nq193, K193, ge193, E193, G193⟩ := hQ193
  have N193 := Fr.app N191 Nq193
  have Zs193 : n0 ≤ T193.heap.size := Nat.le_trans Zs191 K193.1
  have Kp193 : Keep h0 T193.heap [] := Kp191.trans K193 all0
  have f194_0 : Old Z n0 T193.heap := f192_0.keep K193 all0
  have f194_1 : Arv Z T193.heap b k (.object "java/lang/Object") (10 : Int32) [(.ref x0), .null, .null, .null, .null, .null, .null, .null, .null, .null] .null := f192_1.keep K193 nin0
  have f194_2 : Exa Z T193.heap b "[Ljava/lang/Object;" := f192_2.keep K193
  have f194_3 : Exa Z T193.heap a1 "java/util/ArrayList" := f192_3.keep K193
  have f194_4 : Fld Z T193.heap a1 "java/util/ArrayList" "elementData" "[Ljava/lang/Object;" (.ref b) := f192_4.keep K193 nin0
  have f194_5 : Fld Z T193.heap a1 "java/util/ArrayList" "size" "I" (.int (1 : Int32)) := f192_5.keep K193 nin0
  have f194_6 : Exa Z T193.heap x0 "com/example/lithe_checker/lithechecker/c/CType$Member" := f192_6.keep K193
  have f194_7 : Arv Z T193.heap b191 k191 (.object "java/lang/Object") (1 : Int32) [(.ref x0)] .null := V191.keep K193 nin0
  have sz_b193 : h0.size ≤ b193 := Nat.le_trans Kp191.1 ge193
  refine own_by (fun _ k => st191.trans (st193 _ k)) ?_
  exact own_retA X193 hx hlk (t := (.object "java/util/List")) hret rfl rfl rfl (hb hby d10_53) ⟨_, rfl, N193, Kp193, sz_b193, E193, G193⟩ (by decide) (by decide)
theorem d9_0 : decode jdk_40_method_48_code 0 = .ok (.aload_n 0, 1) := by decide +kernel
theorem d9_1 : decode jdk_40_method_48_code 1 = .ok (.invokestatic 112, 3) := by decide +kernel
theorem own_pd260 : parseMethodDescriptor "(Ljava/util/Collection;)Ljava/util/List;" = some ⟨[(.object "java/util/Collection")], some (.object "java/util/List")⟩ := by decide +kernel
theorem d9_4 : decode jdk_40_method_48_code 4 = .ok (.areturn, 1) := by decide +kernel
theorem rmCP1 (l : Launch) (Z : State) (a0 : Array Value) (hw : own_W a0 Z) (ws : List Jvm.Cond) (cs : Int32) (da el ea em ci mm : Addr) (kd ke : ClassId) (a1 b : Addr) (k : ClassId) (x0 : Addr) (h0 : Heap) (n0 : Nat) (Z0 : n0 ≤ h0.size) (V_env : own_Env Z cs da el ea em ci mm kd ke) (Od : Old Z n0 h0) (E_a1 : Exa Z h0 a1 "java/util/ArrayList") (F_e : Fld Z h0 a1 "java/util/ArrayList" "elementData" "[Ljava/lang/Object;" (.ref b)) (F_s : Fld Z h0 a1 "java/util/ArrayList" "size" "I" (.int (1 : Int32))) (V_b : Arv Z h0 b k (.object "java/lang/Object") (10 : Int32) [(.ref x0), .null, .null, .null, .null, .null, .null, .null, .null, .null] .null) (E_b : Exa Z h0 b "[Ljava/lang/Object;") (E_x0 : Exa Z h0 x0 "com/example/lithe_checker/lithechecker/c/CType$Member") : own_Met l Z mn27 jdk_40_method_48_code 1 (some (.object "java/util/List")) ws (own_R 7 2 3 107) #[(.ref a1)] h0 (own_QL1 Z em x0 h0 n0) := by
  refine own_enter n0 (plainFor_of_name own_pn231) (fun m => ef_R_1 m a1 ) (fun p e s m below meth c s₁ hx hby hlk hml hret hown hnm hZ X0 e0 N0 => ?_)
  show own_Fin _ _ _ _ _ _ _ s₁ (mkF m 0 #[Rv a1] [])
  have Kp195 : Keep h0 h0 [] := Keep.refl h0 _
  obtain ⟨_, _, ⟨T196, L196, k196, n196⟩, -, X196, ⟨Lc196, hQ196, l196, y196, z196⟩, st196⟩ := LawKit.callS X0 hx (y := mn24) hown (own_m hZ hw 59) (own_m hZ hw 60) (own_m hZ hw 61) (own_m hZ hw 62) (by decide) (backOf (W := 0) (rmLC1 l Z a0 hw [] cs da el ea em ci mm kd ke a1 b k x0 h0 n0 Z0 V_env Od E_a1 F_e F_s V_b E_b E_x0) hZ (own_g hw 62) (own_g hw 61) (by decide) (by decide)) (g := (mkF m 1 #[Rv a1] [(.ref a1)])) rfl (by rw [hml]; rfl) (argsL := [(.ref a1)]) (rest := []) (lenOf own_pd260 rfl) rfl (own_z rfl) (hb hby d9_1) (fun _ _ => ⟨rfl, e0, (by decide : 0 + 2 ≤ _), (by decide : 0 + 3 ≤ _)⟩)
  dsimp only [Pt.U, Pt.locs, Pt.cells, Pt.slots] at X196 l196 y196 z196 st196 hQ196
  subst l196 y196 z196
  obtain ⟨b196, rfl, Nq196, K196, ge196, E196, G196⟩ := hQ196
  have N196 := Fr.app N0 Nq196
  have Zs196 : n0 ≤ T196.heap.size := Nat.le_trans Z0 K196.1
  have Kp196 : Keep h0 T196.heap [] := Kp195.trans K196 all0
  have f197_0 : Old Z n0 T196.heap := Od.keep K196 all0
  have f197_1 : Arv Z T196.heap b k (.object "java/lang/Object") (10 : Int32) [(.ref x0), .null, .null, .null, .null, .null, .null, .null, .null, .null] .null := V_b.keep K196 nin0
  have f197_2 : Exa Z T196.heap b "[Ljava/lang/Object;" := E_b.keep K196
  have f197_3 : Exa Z T196.heap a1 "java/util/ArrayList" := E_a1.keep K196
  have f197_4 : Fld Z T196.heap a1 "java/util/ArrayList" "elementData" "[Ljava/lang/Object;" (.ref b) := F_e.keep K196 nin0
  have f197_5 : Fld Z T196.heap a1 "java/util/ArrayList" "size" "I" (.int (1 : Int32)) := F_s.keep K196 nin0
  have f197_6 : Exa Z T196.heap x0 "com/example/lithe_checker/lithechecker/c/CType$Member" := E_x0.keep K196
  have sz_b196 : h0.size ≤ b196 := Nat.le_trans Kp195.1 ge196
  refine own_by (fun _ k => XS.aloadN X0.here hx rfl (hb hby d9_0) rfl rfl (st196 _ k)) ?_
  exact own_retA X196 hx hlk (t := (.object "java/util/List")) hret rfl rfl rfl (hb hby d9_4) ⟨_, rfl, N196, Kp196, sz_b196, E196, G196⟩ (by decide) (by decide)
theorem d29_45 : decode jdk_40_method_47_code 45 = .ok (.new 96, 3) := by decide +kernel
theorem d29_48 : decode jdk_40_method_47_code 48 = .ok (.dup, 1) := by decide +kernel
theorem d29_49 : decode jdk_40_method_47_code 49 = .ok (.aload_n 0, 1) := by decide +kernel
theorem d29_50 : decode jdk_40_method_47_code 50 = .ok (.iconst 0, 1) := by decide +kernel
theorem d29_51 : decode jdk_40_method_47_code 51 = .ok (.aaload, 1) := by decide +kernel
theorem d29_52 : decode jdk_40_method_47_code 52 = .ok (.aload_n 0, 1) := by decide +kernel
theorem d29_53 : decode jdk_40_method_47_code 53 = .ok (.iconst 1, 1) := by decide +kernel
theorem d29_54 : decode jdk_40_method_47_code 54 = .ok (.aaload, 1) := by decide +kernel
theorem d29_55 : decode jdk_40_method_47_code 55 = .ok (.invokespecial 100, 3) := by decide +kernel
theorem own_pd271 : parseMethodDescriptor "(Ljava/lang/Object;Ljava/lang/Object;)V" = some ⟨[(.object "java/lang/Object"), (.object "java/lang/Object")], none⟩ := by decide +kernel
theorem d29_58 : decode jdk_40_method_47_code 58 = .ok (.areturn, 1) := by decide +kernel
def own_QL2 (Z : State) (x0 x1 : Addr) (h0 : Heap) (n0 : Nat) (v : Option Value) (h : Heap) (L : List Loc) : Prop := ∃ q : Addr, v = some (.ref q) ∧ Fr n0 L ∧ Keep h0 h [] ∧ h0.size ≤ q ∧ Exa Z h q "java/util/ImmutableCollections$List12" ∧ Fld Z h q "java/util/ImmutableCollections$List12" "e1" "Ljava/lang/Object;" (.ref x1)
set_option maxRecDepth 65536 in
set_option maxHeartbeats 40000000 in
theorem rmLO2 (l : Launch) (Z : State) (a0 : Array Value) (hw : own_W a0 Z) (ws : List Jvm.Cond) (cs : Int32) (da el ea em ci mm : Addr) (kd ke : ClassId) (b : Addr) (k : ClassId) (x0 x1 : Addr) (h0 : Heap) (n0 : Nat) (Z0 : n0 ≤ h0.size) (V_env : own_Env Z cs da el ea em ci mm kd ke) (Od : Old Z n0 h0) (V_b : Arv Z h0 b k (.object "java/lang/Object") (2 : Int32) [(.ref x0), (.ref x1)] .null) (E_x0 : Exa Z h0 x0 "com/example/lithe_checker/lithechecker/c/CType$Member") (E_x1 : Exa Z h0 x1 "com/example/lithe_checker/lithechecker/c/CType$Member") : own_Met l Z mn23 jdk_40_method_47_code 2 (some (.object "java/util/List")) ws (own_R 5 1 2 66) #[(.ref b)] h0 (own_QL2 Z x0 x1 h0 n0) := by
  refine own_enter n0 (plainFor_of_name own_pn231) (fun m => ef_R_2 m b ) (fun p e s m below meth c s₁ hx hby hlk hml hret hown hnm hZ X0 e0 N0 => ?_)
  show own_Fin _ _ _ _ _ _ _ s₁ (mkF m 0 #[Rv b, Uv] [])
  have Kp198 : Keep h0 h0 [] := Keep.refl h0 _
  obtain ⟨cl199, Ar199, -, S199, M199, -, -⟩ := id V_b
  refine own_by (fun _ k => XS.aloadN X0.here hx rfl (hb hby d29_0) rfl rfl (X0.arraylength hx (by rw [e0]; exact Ar199.1) (State.isArrayOf_alike hZ.alike Ar199.2.1) (g := (mkF m 1 #[Rv b, Uv] [(.ref b)])) rfl rfl (hb hby d29_1) _ k)) ?_
  rw [len_of S199 M199]
  show own_Fin _ _ _ _ _ _ _ s₁ (mkF m 2 #[Rv b, Uv] [(.int 2)])
  obtain ⟨T200, h200, X200, e200, E200, A200, D200, -, st200⟩ := newO X0 hx hZ hown (own_g hw 200) (own_g hw 201) (own_g hw 202) e0 (g := (mkF m 45 #[Rv b, Uv] [])) rfl (hb hby d29_45) (by decide) (by decide)
  obtain ⟨b200, g200⟩ : ∃ z, z = h0.size := ⟨_, rfl⟩
  rw [← g200] at A200 D200 st200
  have ne200_b : b ≠ b200 := Nat.ne_of_lt (Nat.lt_of_lt_of_le V_b.lt (Nat.le_of_eq g200.symm))
  have ne200_x0 : x0 ≠ b200 := Nat.ne_of_lt (Nat.lt_of_lt_of_le E_x0.lt (Nat.le_of_eq g200.symm))
  have ne200_x1 : x1 ≠ b200 := Nat.ne_of_lt (Nat.lt_of_lt_of_le E_x1.lt (Nat.le_of_eq g200.symm))
  have gf200 : n0 ≤ b200 := Nat.le_trans Z0 (Nat.le_of_eq g200.symm)
  have Zs200 : n0 ≤ h200.size := Nat.le_trans Z0 E200.1
  have Kp200 : Keep h0 h200 [] := Kp198.ext E200
  have sz_b200 : h0.size ≤ b200 := Nat.le_trans Kp198.1 (Nat.le_of_eq g200.symm)
  have f201_0 : Old Z n0 h200 := Od.ext E200
  have f201_1 : Arv Z h200 b k (.object "java/lang/Object") (2 : Int32) [(.ref x0), (.ref x1)] .null := V_b.ext E200
  have f201_2 : Exa Z h200 x0 "com/example/lithe_checker/lithechecker/c/CType$Member" := E_x0.ext E200
  have f201_3 : Exa Z h200 x1 "com/example/lithe_checker/lithechecker/c/CType$Member" := E_x1.ext E200
  have F200_e0 : Fld Z h200 b200 "java/util/ImmutableCollections$List12" "e0" "Ljava/lang/Object;" .null := D200 (Or.inr (own_g hw 226)) (ty := (.object "java/lang/Object")) (by decide)
  have F200_e1 : Fld Z h200 b200 "java/util/ImmutableCollections$List12" "e1" "Ljava/lang/Object;" .null := D200 (Or.inr (own_g hw 229)) (ty := (.object "java/lang/Object")) (by decide)
  obtain ⟨cl202, Ar202, -, S202, M202, H202, -⟩ := id f201_1
  have hin202 : ¬ ((0 : Int32) < 0 ∨ cl202.slots.size ≤ ((0 : Int32)).toNatClampNeg) := inb_of S202 ⟨by decide, by decide⟩
  have hat202 : cl202.slots[((0 : Int32)).toNatClampNeg]? = some (.ref x0) := Has.at H202 hin202 rfl
  obtain ⟨cl203, Ar203, -, S203, M203, H203, -⟩ := id f201_1
  have hin203 : ¬ ((1 : Int32) < 0 ∨ cl203.slots.size ≤ ((1 : Int32)).toNatClampNeg) := inb_of S203 ⟨by decide, by decide⟩
  have hat203 : cl203.slots[((1 : Int32)).toNatClampNeg]? = some (.ref x1) := Has.at H203 hin203 rfl
  obtain ⟨_, _, ⟨T204, L204, k204, n204⟩, -, X204, ⟨Lc204, hQ204, l204, y204, z204⟩, st204⟩ := X200.specialBack hx (y := mn18) rfl hown (own_m hZ hw 269) (own_m hZ hw 270) (own_m hZ hw 271) (by decide) (backOf (W := 1) (rm12_2 l Z a0 hw [] cs da el ea em ci mm kd ke b200 x0 x1 h200 n0 Zs200 V_env f201_0 A200 F200_e0 F200_e1 gf200) hZ (own_g hw 271) (own_g hw 202) (by decide) (by decide)) (g := (mkF m 55 #[Rv b, Uv] [(.ref x1), (.ref x0), (.ref b200), (.ref b200)])) rfl (by rw [hml]; rfl) (Steps.refl _) (a := b200) (argsL := [(.ref x0), (.ref x1)]) (rest := [(.ref b200)]) (lenOf own_pd271 rfl) rfl (own_z rfl) (hb hby d29_55) (fun _ _ => ⟨rfl, e200, (by decide : 1 + 0 ≤ _), (by decide : 2 + 0 ≤ _)⟩)
  dsimp only [Pt.U, Pt.locs, Pt.cells, Pt.slots] at X204 l204 y204 z204 st204 hQ204
  subst l204 y204 z204
  obtain ⟨rfl, Nq204, K204, Gf204⟩ := hQ204
  have N204 := Fr.app N0 Nq204
  have Zs204 : n0 ≤ T204.heap.size := Nat.le_trans Zs200 K204.1
  have Kp204 : Keep h0 T204.heap [] := Kp200.trans K204 (allS (Or.inr sz_b200) all0)
  have f205_0 : Old Z n0 T204.heap := f201_0.keep K204 (allS gf200 all0)
  have f205_1 : Arv Z T204.heap b k (.object "java/lang/Object") (2 : Int32) [(.ref x0), (.ref x1)] .null := f201_1.keep K204 (ninS ne200_b nin0)
  have f205_2 : Exa Z T204.heap x0 "com/example/lithe_checker/lithechecker/c/CType$Member" := f201_2.keep K204
  have f205_3 : Exa Z T204.heap x1 "com/example/lithe_checker/lithechecker/c/CType$Member" := f201_3.keep K204
  have f205_4 : Exa Z T204.heap b200 "java/util/ImmutableCollections$List12" := A200.keep K204
  refine own_by (fun _ k => XS.tswIn X0.here hx rfl (o := 43) (pc0 := 2) (pc' := 45) rfl (hb hby d29_2) rfl (by decide) (by decide) (by decide) (by decide) (st200 _ (XS.dup X200.here hx rfl (hb hby d29_48) rfl rfl (XS.aloadN X200.here hx rfl (hb hby d29_49) rfl rfl (XS.iconst X200.here hx rfl (hb hby d29_50) (X200.aaload hx (j := (0 : Int32)) (v := (.ref x0)) (by rw [e200]; exact Ar202.1) (State.isArrayOf_alike hZ.alike Ar202.2.1) rfl Ar202.2.2 hin202 hat202 (g := (mkF m 51 #[Rv b, Uv] [(.int 0), (.ref b), (.ref b200), (.ref b200)])) rfl rfl (hb hby d29_51) _ (XS.aloadN X200.here hx rfl (hb hby d29_52) rfl rfl (XS.iconst X200.here hx rfl (hb hby d29_53) (X200.aaload hx (j := (1 : Int32)) (v := (.ref x1)) (by rw [e200]; exact Ar203.1) (State.isArrayOf_alike hZ.alike Ar203.2.1) rfl Ar203.2.2 hin203 hat203 (g := (mkF m 54 #[Rv b, Uv] [(.int 1), (.ref b), (.ref x0), (.ref b200), (.ref b200)])) rfl rfl (hb hby d29_54) _ (st204.trans k)))))))))) ?_
  exact own_retA X204 hx hlk (t := (.object "java/util/List")) hret rfl rfl rfl (hb hby d29_58) ⟨_, rfl, N204, Kp204, sz_b200, f205_4, Gf204⟩ (by decide) (by decide)
set_option maxRecDepth 65536 in
set_option maxHeartbeats 40000000 in
theorem rmLC2 (l : Launch) (Z : State) (a0 : Array Value) (hw : own_W a0 Z) (ws : List Jvm.Cond) (cs : Int32) (da el ea em ci mm : Addr) (kd ke : ClassId) (a1 b : Addr) (k : ClassId) (x0 x1 : Addr) (h0 : Heap) (n0 : Nat) (Z0 : n0 ≤ h0.size) (V_env : own_Env Z cs da el ea em ci mm kd ke) (Od : Old Z n0 h0) (E_a1 : Exa Z h0 a1 "java/util/ArrayList") (F_e : Fld Z h0 a1 "java/util/ArrayList" "elementData" "[Ljava/lang/Object;" (.ref b)) (F_s : Fld Z h0 a1 "java/util/ArrayList" "size" "I" (.int (2 : Int32))) (V_b : Arv Z h0 b k (.object "java/lang/Object") (10 : Int32) [(.ref x0), (.ref x1), .null, .null, .null, .null, .null, .null, .null, .null] .null) (E_b : Exa Z h0 b "[Ljava/lang/Object;") (E_x0 : Exa Z h0 x0 "com/example/lithe_checker/lithechecker/c/CType$Member") (E_x1 : Exa Z h0 x1 "com/example/lithe_checker/lithechecker/c/CType$Member") : own_Met l Z mn24 jdk_56_method_3_code 2 (some (.object "java/util/List")) ws (own_R 6 2 4 90) #[(.ref a1)] h0 (own_QL2 Z x0 x1 h0 n0) := by
  refine own_enter n0 (plainFor_of_name own_pn203) (fun m => ef_R_2 m a1 ) (fun p e s m below meth c s₁ hx hby hlk hml hret hown hnm hZ X0 e0 N0 => ?_)
  show own_Fin _ _ _ _ _ _ _ s₁ (mkF m 0 #[Rv a1, Uv] [])
  have Kp206 : Keep h0 h0 [] := Keep.refl h0 _
  obtain ⟨T207, X207, e207, st207⟩ := instNo X0 hx hZ hown (own_g hw 63) e0 E_a1 (own_not4 (own_g hw 64) (own_g hw 65) (own_g hw 66) (own_g hw 67) (own_g hw 201) (by decide) (by decide) (by decide) (by decide)) (g := (mkF m 1 #[Rv a1, Uv] [(.ref a1)])) rfl rfl (hb hby d10_1)
  obtain ⟨T208, X208, e208, st208⟩ := instNo X207 hx hZ hown (own_g hw 68) e207 E_a1 (own_not4 (own_g hw 64) (own_g hw 65) (own_g hw 66) (own_g hw 67) (own_g hw 258) (by decide) (by decide) (by decide) (by decide)) (g := (mkF m 8 #[Rv a1, Uv] [(.ref a1)])) rfl rfl (hb hby d10_8)
  obtain ⟨cq209, kq209, q209a, q209b, q209c⟩ := isOf hZ e208 E_a1
  obtain ⟨_, _, ⟨T209, L209, k209, n209⟩, -, X209, ⟨Lc209, hQ209, l209, y209, z209⟩, st209⟩ := X208.interfaceBack hx (xi := mn25) (y := mn12) hown (own_m hZ hw 69) (own_m hZ hw 70) (own_m hZ hw 71) (own_m hZ hw 72) (own_m hZ hw 73) (own_m hZ hw 74) (own_m hZ hw 75) (own_m hZ hw 76) (by decide) (backOf (W := 0) (rmIE2 l Z a0 hw [] a1 h0 n0 Z0 F_s) hZ (own_g hw 77) (own_g hw 28) (by decide) (by decide)) q209a q209b q209c (g := (mkF m 32 #[Rv a1, Uv] [(.ref a1)])) rfl (by rw [hml]; rfl) (Steps.refl _) (argsL := []) (rest := []) (lenOf own_pd251 rfl) rfl (own_z rfl) (hb hby d10_32) (fun _ _ => ⟨rfl, e208, (by decide : 0 + 0 ≤ _), (by decide : 0 + 0 ≤ _)⟩)
  dsimp only [Pt.U, Pt.locs, Pt.cells, Pt.slots] at X209 l209 y209 z209 st209 hQ209
  subst l209 y209 z209
  obtain ⟨rfl, Nq209, eh209⟩ := hQ209
  have N209 := Fr.app N0 Nq209
  obtain ⟨cq210, kq210, q210a, q210b, q210c⟩ := isOf hZ eh209 E_a1
  obtain ⟨_, _, ⟨T210, L210, k210, n210⟩, -, X210, ⟨Lc210, hQ210, l210, y210, z210⟩, st210⟩ := X209.interfaceBack hx (xi := mn26) (y := mn15) hown (own_m hZ hw 167) (own_m hZ hw 168) (own_m hZ hw 169) (own_m hZ hw 170) (own_m hZ hw 171) (own_m hZ hw 172) (own_m hZ hw 173) (own_m hZ hw 76) (by decide) (backOf (W := 0) (rmTA_2 l Z a0 hw [] cs da el ea em ci mm kd ke a1 b k x0 x1 h0 n0 Z0 V_env Od E_a1 F_e F_s V_b E_b E_x0 E_x1) hZ (own_g hw 174) (own_g hw 28) (by decide) (by decide)) q210a q210b q210c (g := (mkF m 45 #[Rv a1, Uv] [(.ref a1)])) rfl (by rw [hml]; rfl) (Steps.refl _) (argsL := []) (rest := []) (lenOf own_pd79 rfl) rfl (own_z rfl) (hb hby d10_45) (fun _ _ => ⟨rfl, eh209, (by decide : 0 + 1 ≤ _), (by decide : 0 + 2 ≤ _)⟩)
  dsimp only [Pt.U, Pt.locs, Pt.cells, Pt.slots] at X210 l210 y210 z210 st210 hQ210
  subst l210 y210 z210
  obtain ⟨b210, k210, rfl, Nq210, K210, ge210, V210⟩ := hQ210
  have N210 := Fr.app N209 Nq210
  refine own_by (fun _ k => XS.aloadN X0.here hx rfl (hb hby d10_0) rfl rfl (st207 _ (XS.ifNo X207.here hx rfl (hb hby d10_4) rfl ((if0 _ _).trans (teq (by decide : (0 : Int32) = (0 : Int32))).2) (XS.aloadN X207.here hx rfl (hb hby d10_7) rfl rfl (st208 _ (XS.ifYes X208.here hx rfl (pc0 := 11) (pc' := 31) rfl (hb hby d10_11) rfl ((if0 _ _).trans (teq (by decide : (0 : Int32) = (0 : Int32))).1) (by decide) (by decide) (XS.aloadN X208.here hx rfl (hb hby d10_31) rfl rfl (st209.trans (XS.ifYes X209.here hx rfl (pc0 := 37) (pc' := 44) rfl (hb hby d10_37) rfl ((if0 _ _).trans (teq (by decide : (0 : Int32) = (0 : Int32))).1) (by decide) (by decide) (XS.aloadN X209.here hx rfl (hb hby d10_44) rfl rfl k)))))))))) ?_
  show own_Fin _ _ _ _ _ _ _ T209 (mkF m 45 #[Rv a1, Uv] [(.ref a1)])
  have Zs210 : n0 ≤ T210.heap.size := Nat.le_trans Z0 K210.1
  have Kp210 : Keep h0 T210.heap [] := Kp206.trans K210 all0
  have f211_0 : Old Z n0 T210.heap := Od.keep K210 all0
  have f211_1 : Arv Z T210.heap b k (.object "java/lang/Object") (10 : Int32) [(.ref x0), (.ref x1), .null, .null, .null, .null, .null, .null, .null, .null] .null := V_b.keep K210 nin0
  have f211_2 : Exa Z T210.heap b "[Ljava/lang/Object;" := E_b.keep K210
  have f211_3 : Exa Z T210.heap a1 "java/util/ArrayList" := E_a1.keep K210
  have f211_4 : Fld Z T210.heap a1 "java/util/ArrayList" "elementData" "[Ljava/lang/Object;" (.ref b) := F_e.keep K210 nin0
  have f211_5 : Fld Z T210.heap a1 "java/util/ArrayList" "size" "I" (.int (2 : Int32)) := F_s.keep K210 nin0
  have f211_6 : Exa Z T210.heap x0 "com/example/lithe_checker/lithechecker/c/CType$Member" := E_x0.keep K210
  have f211_7 : Exa Z T210.heap x1 "com/example/lithe_checker/lithechecker/c/CType$Member" := E_x1.keep K210
  have ne210_b : b ≠ b210 := Nat.ne_of_lt (Nat.lt_of_lt_of_le V_b.lt ge210)
  have ne210_a1 : a1 ≠ b210 := Nat.ne_of_lt (Nat.lt_of_lt_of_le E_a1.lt ge210)
  have ne210_x0 : x0 ≠ b210 := Nat.ne_of_lt (Nat.lt_of_lt_of_le E_x0.lt ge210)
  have ne210_x1 : x1 ≠ b210 := Nat.ne_of_lt (Nat.lt_of_lt_of_le E_x1.lt ge210)
  have gf210 : n0 ≤ b210 := Nat.le_trans Z0 ge210
  have sz_b210 : h0.size ≤ b210 := Nat.le_trans Kp206.1 ge210
  obtain ⟨_, _, ⟨T212, L212, k212, n212⟩, -, X212, ⟨Lc212, hQ212, l212, y212, z212⟩, st212⟩ := LawKit.callS X210 hx (y := mn23) hown (own_m hZ hw 197) (own_m hZ hw 198) (own_m hZ hw 57) (own_m hZ hw 199) (by decide) (backOf (W := 0) (rmLO2 l Z a0 hw [] cs da el ea em ci mm kd ke b210 k210 x0 x1 T210.heap n0 Zs210 V_env f211_0 V210 f211_6 f211_7) hZ (own_g hw 199) (own_g hw 57) (by decide) (by decide)) (g := (mkF m 50 #[Rv a1, Uv] [(.ref b210)])) rfl (by rw [hml]; rfl) (argsL := [(.ref b210)]) (rest := []) (lenOf own_pd256 rfl) rfl (own_z rfl) (hb hby d10_50) (fun _ _ => ⟨rfl, rfl, (by decide : 1 + 1 ≤ _), (by decide : 2 + 2 ≤ _)⟩)
  dsimp only [Pt.U, Pt.locs, Pt.cells, Pt.slots] at X212 l212 y212 z212 st212 hQ212
  subst l212 y212 z212
  obtain ⟨b212, rfl, Nq212, K212, ge212, E212, G212⟩ := hQ212
  have N212 := Fr.app N210 Nq212
  have Zs212 : n0 ≤ T212.heap.size := Nat.le_trans Zs210 K212.1
  have Kp212 : Keep h0 T212.heap [] := Kp210.trans K212 all0
  have f213_0 : Old Z n0 T212.heap := f211_0.keep K212 all0
  have f213_1 : Arv Z T212.heap b k (.object "java/lang/Object") (10 : Int32) [(.ref x0), (.ref x1), .null, .null, .null, .null, .null, .null, .null, .null] .null := f211_1.keep K212 nin0
  have f213_2 : Exa Z T212.heap b "[Ljava/lang/Object;" := f211_2.keep K212
  have f213_3 : Exa Z T212.heap a1 "java/util/ArrayList" := f211_3.keep K212
  have f213_4 : Fld Z T212.heap a1 "java/util/ArrayList" "elementData" "[Ljava/lang/Object;" (.ref b) := f211_4.keep K212 nin0
  have f213_5 : Fld Z T212.heap a1 "java/util/ArrayList" "size" "I" (.int (2 : Int32)) := f211_5.keep K212 nin0
  have f213_6 : Exa Z T212.heap x0 "com/example/lithe_checker/lithechecker/c/CType$Member" := f211_6.keep K212
  have f213_7 : Exa Z T212.heap x1 "com/example/lithe_checker/lithechecker/c/CType$Member" := f211_7.keep K212
  have f213_8 : Arv Z T212.heap b210 k210 (.object "java/lang/Object") (2 : Int32) [(.ref x0), (.ref x1)] .null := V210.keep K212 nin0
  have sz_b212 : h0.size ≤ b212 := Nat.le_trans Kp210.1 ge212
  refine own_by (fun _ k => st210.trans (st212 _ k)) ?_
  exact own_retA X212 hx hlk (t := (.object "java/util/List")) hret rfl rfl rfl (hb hby d10_53) ⟨_, rfl, N212, Kp212, sz_b212, E212, G212⟩ (by decide) (by decide)
theorem rmCP2 (l : Launch) (Z : State) (a0 : Array Value) (hw : own_W a0 Z) (ws : List Jvm.Cond) (cs : Int32) (da el ea em ci mm : Addr) (kd ke : ClassId) (a1 b : Addr) (k : ClassId) (x0 x1 : Addr) (h0 : Heap) (n0 : Nat) (Z0 : n0 ≤ h0.size) (V_env : own_Env Z cs da el ea em ci mm kd ke) (Od : Old Z n0 h0) (E_a1 : Exa Z h0 a1 "java/util/ArrayList") (F_e : Fld Z h0 a1 "java/util/ArrayList" "elementData" "[Ljava/lang/Object;" (.ref b)) (F_s : Fld Z h0 a1 "java/util/ArrayList" "size" "I" (.int (2 : Int32))) (V_b : Arv Z h0 b k (.object "java/lang/Object") (10 : Int32) [(.ref x0), (.ref x1), .null, .null, .null, .null, .null, .null, .null, .null] .null) (E_b : Exa Z h0 b "[Ljava/lang/Object;") (E_x0 : Exa Z h0 x0 "com/example/lithe_checker/lithechecker/c/CType$Member") (E_x1 : Exa Z h0 x1 "com/example/lithe_checker/lithechecker/c/CType$Member") : own_Met l Z mn27 jdk_40_method_48_code 1 (some (.object "java/util/List")) ws (own_R 7 2 4 107) #[(.ref a1)] h0 (own_QL2 Z x0 x1 h0 n0) := by
  refine own_enter n0 (plainFor_of_name own_pn231) (fun m => ef_R_1 m a1 ) (fun p e s m below meth c s₁ hx hby hlk hml hret hown hnm hZ X0 e0 N0 => ?_)
  show own_Fin _ _ _ _ _ _ _ s₁ (mkF m 0 #[Rv a1] [])
  have Kp214 : Keep h0 h0 [] := Keep.refl h0 _
  obtain ⟨_, _, ⟨T215, L215, k215, n215⟩, -, X215, ⟨Lc215, hQ215, l215, y215, z215⟩, st215⟩ := LawKit.callS X0 hx (y := mn24) hown (own_m hZ hw 59) (own_m hZ hw 60) (own_m hZ hw 61) (own_m hZ hw 62) (by decide) (backOf (W := 0) (rmLC2 l Z a0 hw [] cs da el ea em ci mm kd ke a1 b k x0 x1 h0 n0 Z0 V_env Od E_a1 F_e F_s V_b E_b E_x0 E_x1) hZ (own_g hw 62) (own_g hw 61) (by decide) (by decide)) (g := (mkF m 1 #[Rv a1] [(.ref a1)])) rfl (by rw [hml]; rfl) (argsL := [(.ref a1)]) (rest := []) (lenOf own_pd260 rfl) rfl (own_z rfl) (hb hby d9_1) (fun _ _ => ⟨rfl, e0, (by decide : 0 + 2 ≤ _), (by decide : 0 + 4 ≤ _)⟩)
  dsimp only [Pt.U, Pt.locs, Pt.cells, Pt.slots] at X215 l215 y215 z215 st215 hQ215
  subst l215 y215 z215
  obtain ⟨b215, rfl, Nq215, K215, ge215, E215, G215⟩ := hQ215
  have N215 := Fr.app N0 Nq215
  have Zs215 : n0 ≤ T215.heap.size := Nat.le_trans Z0 K215.1
  have Kp215 : Keep h0 T215.heap [] := Kp214.trans K215 all0
  have f216_0 : Old Z n0 T215.heap := Od.keep K215 all0
  have f216_1 : Arv Z T215.heap b k (.object "java/lang/Object") (10 : Int32) [(.ref x0), (.ref x1), .null, .null, .null, .null, .null, .null, .null, .null] .null := V_b.keep K215 nin0
  have f216_2 : Exa Z T215.heap b "[Ljava/lang/Object;" := E_b.keep K215
  have f216_3 : Exa Z T215.heap a1 "java/util/ArrayList" := E_a1.keep K215
  have f216_4 : Fld Z T215.heap a1 "java/util/ArrayList" "elementData" "[Ljava/lang/Object;" (.ref b) := F_e.keep K215 nin0
  have f216_5 : Fld Z T215.heap a1 "java/util/ArrayList" "size" "I" (.int (2 : Int32)) := F_s.keep K215 nin0
  have f216_6 : Exa Z T215.heap x0 "com/example/lithe_checker/lithechecker/c/CType$Member" := E_x0.keep K215
  have f216_7 : Exa Z T215.heap x1 "com/example/lithe_checker/lithechecker/c/CType$Member" := E_x1.keep K215
  have sz_b215 : h0.size ≤ b215 := Nat.le_trans Kp214.1 ge215
  refine own_by (fun _ k => XS.aloadN X0.here hx rfl (hb hby d9_0) rfl rfl (st215 _ k)) ?_
  exact own_retA X215 hx hlk (t := (.object "java/util/List")) hret rfl rfl rfl (hb hby d9_4) ⟨_, rfl, N215, Kp215, sz_b215, E215, G215⟩ (by decide) (by decide)
theorem d29_59 : decode jdk_40_method_47_code 59 = .ok (.aload_n 0, 1) := by decide +kernel
theorem d29_60 : decode jdk_40_method_47_code 60 = .ok (.invokestatic 109, 3) := by decide +kernel
theorem d29_63 : decode jdk_40_method_47_code 63 = .ok (.areturn, 1) := by decide +kernel
theorem rmLO3 (l : Launch) (Z : State) (a0 : Array Value) (hw : own_W a0 Z) (ws : List Jvm.Cond) (cs : Int32) (da el ea em ci mm : Addr) (kd ke : ClassId) (b : Addr) (k : ClassId) (x0 x1 x2 : Addr) (h0 : Heap) (n0 : Nat) (Z0 : n0 ≤ h0.size) (V_env : own_Env Z cs da el ea em ci mm kd ke) (Od : Old Z n0 h0) (V_b : Arv Z h0 b k (.object "java/lang/Object") (3 : Int32) [(.ref x0), (.ref x1), (.ref x2)] .null) (E_x0 : Exa Z h0 x0 "com/example/lithe_checker/lithechecker/c/CType$Member") (E_x1 : Exa Z h0 x1 "com/example/lithe_checker/lithechecker/c/CType$Member") (E_x2 : Exa Z h0 x2 "com/example/lithe_checker/lithechecker/c/CType$Member") : own_Met l Z mn23 jdk_40_method_47_code 2 (some (.object "java/util/List")) ws (own_R 6 2 5 84) #[(.ref b)] h0 (own_QL3 Z x0 x1 x2 h0 n0) := by
  refine own_enter n0 (plainFor_of_name own_pn231) (fun m => ef_R_2 m b ) (fun p e s m below meth c s₁ hx hby hlk hml hret hown hnm hZ X0 e0 N0 => ?_)
  show own_Fin _ _ _ _ _ _ _ s₁ (mkF m 0 #[Rv b, Uv] [])
  have Kp217 : Keep h0 h0 [] := Keep.refl h0 _
  obtain ⟨cl218, Ar218, -, S218, M218, -, -⟩ := id V_b
  refine own_by (fun _ k => XS.aloadN X0.here hx rfl (hb hby d29_0) rfl rfl (X0.arraylength hx (by rw [e0]; exact Ar218.1) (State.isArrayOf_alike hZ.alike Ar218.2.1) (g := (mkF m 1 #[Rv b, Uv] [(.ref b)])) rfl rfl (hb hby d29_1) _ k)) ?_
  rw [len_of S218 M218]
  show own_Fin _ _ _ _ _ _ _ s₁ (mkF m 2 #[Rv b, Uv] [(.int 3)])
  obtain ⟨_, _, ⟨T219, L219, k219, n219⟩, -, X219, ⟨Lc219, hQ219, l219, y219, z219⟩, st219⟩ := LawKit.callS X0 hx (y := mn22) hown (own_m hZ hw 253) (own_m hZ hw 254) (own_m hZ hw 61) (own_m hZ hw 255) (by decide) (backOf (W := 0) (rmLF l Z a0 hw [] cs da el ea em ci mm kd ke b k x0 x1 x2 h0 n0 Z0 V_env Od V_b E_x0 E_x1 E_x2) hZ (own_g hw 255) (own_g hw 61) (by decide) (by decide)) (g := (mkF m 60 #[Rv b, Uv] [(.ref b)])) rfl (by rw [hml]; rfl) (argsL := [(.ref b)]) (rest := []) (lenOf own_pd256 rfl) rfl (own_z rfl) (hb hby d29_60) (fun _ _ => ⟨rfl, e0, (by decide : 0 + 2 ≤ _), (by decide : 0 + 5 ≤ _)⟩)
  dsimp only [Pt.U, Pt.locs, Pt.cells, Pt.slots] at X219 l219 y219 z219 st219 hQ219
  subst l219 y219 z219
  obtain ⟨b219, v219, k219, rfl, Nq219, K219, ge219, E219, G219, V219, gv219⟩ := hQ219
  have N219 := Fr.app N0 Nq219
  have Zs219 : n0 ≤ T219.heap.size := Nat.le_trans Z0 K219.1
  have Kp219 : Keep h0 T219.heap [] := Kp217.trans K219 all0
  have f220_0 : Old Z n0 T219.heap := Od.keep K219 all0
  have f220_1 : Arv Z T219.heap b k (.object "java/lang/Object") (3 : Int32) [(.ref x0), (.ref x1), (.ref x2)] .null := V_b.keep K219 nin0
  have f220_2 : Exa Z T219.heap x0 "com/example/lithe_checker/lithechecker/c/CType$Member" := E_x0.keep K219
  have f220_3 : Exa Z T219.heap x1 "com/example/lithe_checker/lithechecker/c/CType$Member" := E_x1.keep K219
  have f220_4 : Exa Z T219.heap x2 "com/example/lithe_checker/lithechecker/c/CType$Member" := E_x2.keep K219
  have sz_v219 : h0.size ≤ v219 := Nat.le_trans Kp217.1 gv219
  have sz_b219 : h0.size ≤ b219 := Nat.le_trans Kp217.1 ge219
  refine own_by (fun _ k => XS.tswOut X0.here hx rfl (pc0 := 2) (pc' := 59) rfl (hb hby d29_2) rfl (by decide) (by decide) (by decide) (XS.aloadN X0.here hx rfl (hb hby d29_59) rfl rfl (st219 _ k))) ?_
  exact own_retA X219 hx hlk (t := (.object "java/util/List")) hret rfl rfl rfl (hb hby d29_63) ⟨_, _, _, rfl, N219, Kp219, sz_b219, E219, G219, V219, sz_v219⟩ (by decide) (by decide)
set_option maxRecDepth 65536 in
set_option maxHeartbeats 40000000 in
theorem rmLC3 (l : Launch) (Z : State) (a0 : Array Value) (hw : own_W a0 Z) (ws : List Jvm.Cond) (cs : Int32) (da el ea em ci mm : Addr) (kd ke : ClassId) (a1 b : Addr) (k : ClassId) (x0 x1 x2 : Addr) (h0 : Heap) (n0 : Nat) (Z0 : n0 ≤ h0.size) (V_env : own_Env Z cs da el ea em ci mm kd ke) (Od : Old Z n0 h0) (E_a1 : Exa Z h0 a1 "java/util/ArrayList") (F_e : Fld Z h0 a1 "java/util/ArrayList" "elementData" "[Ljava/lang/Object;" (.ref b)) (F_s : Fld Z h0 a1 "java/util/ArrayList" "size" "I" (.int (3 : Int32))) (V_b : Arv Z h0 b k (.object "java/lang/Object") (10 : Int32) [(.ref x0), (.ref x1), (.ref x2), .null, .null, .null, .null, .null, .null, .null] .null) (E_b : Exa Z h0 b "[Ljava/lang/Object;") (E_x0 : Exa Z h0 x0 "com/example/lithe_checker/lithechecker/c/CType$Member") (E_x1 : Exa Z h0 x1 "com/example/lithe_checker/lithechecker/c/CType$Member") (E_x2 : Exa Z h0 x2 "com/example/lithe_checker/lithechecker/c/CType$Member") : own_Met l Z mn24 jdk_56_method_3_code 2 (some (.object "java/util/List")) ws (own_R 7 3 8 101) #[(.ref a1)] h0 (own_QL3 Z x0 x1 x2 h0 n0) := by
  refine own_enter n0 (plainFor_of_name own_pn203) (fun m => ef_R_2 m a1 ) (fun p e s m below meth c s₁ hx hby hlk hml hret hown hnm hZ X0 e0 N0 => ?_)
  show own_Fin _ _ _ _ _ _ _ s₁ (mkF m 0 #[Rv a1, Uv] [])
  have Kp221 : Keep h0 h0 [] := Keep.refl h0 _
  obtain ⟨T222, X222, e222, st222⟩ := instNo X0 hx hZ hown (own_g hw 63) e0 E_a1 (own_not4 (own_g hw 64) (own_g hw 65) (own_g hw 66) (own_g hw 67) (own_g hw 201) (by decide) (by decide) (by decide) (by decide)) (g := (mkF m 1 #[Rv a1, Uv] [(.ref a1)])) rfl rfl (hb hby d10_1)
  obtain ⟨T223, X223, e223, st223⟩ := instNo X222 hx hZ hown (own_g hw 68) e222 E_a1 (own_not4 (own_g hw 64) (own_g hw 65) (own_g hw 66) (own_g hw 67) (own_g hw 258) (by decide) (by decide) (by decide) (by decide)) (g := (mkF m 8 #[Rv a1, Uv] [(.ref a1)])) rfl rfl (hb hby d10_8)
  obtain ⟨cq224, kq224, q224a, q224b, q224c⟩ := isOf hZ e223 E_a1
  obtain ⟨_, _, ⟨T224, L224, k224, n224⟩, -, X224, ⟨Lc224, hQ224, l224, y224, z224⟩, st224⟩ := X223.interfaceBack hx (xi := mn25) (y := mn12) hown (own_m hZ hw 69) (own_m hZ hw 70) (own_m hZ hw 71) (own_m hZ hw 72) (own_m hZ hw 73) (own_m hZ hw 74) (own_m hZ hw 75) (own_m hZ hw 76) (by decide) (backOf (W := 0) (rmIE3 l Z a0 hw [] a1 h0 n0 Z0 F_s) hZ (own_g hw 77) (own_g hw 28) (by decide) (by decide)) q224a q224b q224c (g := (mkF m 32 #[Rv a1, Uv] [(.ref a1)])) rfl (by rw [hml]; rfl) (Steps.refl _) (argsL := []) (rest := []) (lenOf own_pd251 rfl) rfl (own_z rfl) (hb hby d10_32) (fun _ _ => ⟨rfl, e223, (by decide : 0 + 0 ≤ _), (by decide : 0 + 0 ≤ _)⟩)
  dsimp only [Pt.U, Pt.locs, Pt.cells, Pt.slots] at X224 l224 y224 z224 st224 hQ224
  subst l224 y224 z224
  obtain ⟨rfl, Nq224, eh224⟩ := hQ224
  have N224 := Fr.app N0 Nq224
  obtain ⟨cq225, kq225, q225a, q225b, q225c⟩ := isOf hZ eh224 E_a1
  obtain ⟨_, _, ⟨T225, L225, k225, n225⟩, -, X225, ⟨Lc225, hQ225, l225, y225, z225⟩, st225⟩ := X224.interfaceBack hx (xi := mn26) (y := mn15) hown (own_m hZ hw 167) (own_m hZ hw 168) (own_m hZ hw 169) (own_m hZ hw 170) (own_m hZ hw 171) (own_m hZ hw 172) (own_m hZ hw 173) (own_m hZ hw 76) (by decide) (backOf (W := 0) (rmTA_3 l Z a0 hw [] cs da el ea em ci mm kd ke a1 b k x0 x1 x2 h0 n0 Z0 V_env Od E_a1 F_e F_s V_b E_b E_x0 E_x1 E_x2) hZ (own_g hw 174) (own_g hw 28) (by decide) (by decide)) q225a q225b q225c (g := (mkF m 45 #[Rv a1, Uv] [(.ref a1)])) rfl (by rw [hml]; rfl) (Steps.refl _) (argsL := []) (rest := []) (lenOf own_pd79 rfl) rfl (own_z rfl) (hb hby d10_45) (fun _ _ => ⟨rfl, eh224, (by decide : 0 + 1 ≤ _), (by decide : 0 + 3 ≤ _)⟩)
  dsimp only [Pt.U, Pt.locs, Pt.cells, Pt.slots] at X225 l225 y225 z225 st225 hQ225
  subst l225 y225 z225
  obtain ⟨b225, k225, rfl, Nq225, K225, ge225, V225⟩ := hQ225
  have N225 := Fr.app N224 Nq225
  refine own_by (fun _ k => XS.aloadN X0.here hx rfl (hb hby d10_0) rfl rfl (st222 _ (XS.ifNo X222.here hx rfl (hb hby d10_4) rfl ((if0 _ _).trans (teq (by decide : (0 : Int32) = (0 : Int32))).2) (XS.aloadN X222.here hx rfl (hb hby d10_7) rfl rfl (st223 _ (XS.ifYes X223.here hx rfl (pc0 := 11) (pc' := 31) rfl (hb hby d10_11) rfl ((if0 _ _).trans (teq (by decide : (0 : Int32) = (0 : Int32))).1) (by decide) (by decide) (XS.aloadN X223.here hx rfl (hb hby d10_31) rfl rfl (st224.trans (XS.ifYes X224.here hx rfl (pc0 := 37) (pc' := 44) rfl (hb hby d10_37) rfl ((if0 _ _).trans (teq (by decide : (0 : Int32) = (0 : Int32))).1) (by decide) (by decide) (XS.aloadN X224.here hx rfl (hb hby d10_44) rfl rfl k)))))))))) ?_
  show own_Fin _ _ _ _ _ _ _ T224 (mkF m 45 #[Rv a1, Uv] [(.ref a1)])
  have Zs225 : n0 ≤ T225.heap.size := Nat.le_trans Z0 K225.1
  have Kp225 : Keep h0 T225.heap [] := Kp221.trans K225 all0
  have f226_0 : Old Z n0 T225.heap := Od.keep K225 all0
  have f226_1 : Arv Z T225.heap b k (.object "java/lang/Object") (10 : Int32) [(.ref x0), (.ref x1), (.ref x2), .null, .null, .null, .null, .null, .null, .null] .null := V_b.keep K225 nin0
  have f226_2 : Exa Z T225.heap b "[Ljava/lang/Object;" := E_b.keep K225
  have f226_3 : Exa Z T225.heap a1 "java/util/ArrayList" := E_a1.keep K225
  have f226_4 : Fld Z T225.heap a1 "java/util/ArrayList" "elementData" "[Ljava/lang/Object;" (.ref b) := F_e.keep K225 nin0
  have f226_5 : Fld Z T225.heap a1 "java/util/ArrayList" "size" "I" (.int (3 : Int32)) := F_s.keep K225 nin0
  have f226_6 : Exa Z T225.heap x0 "com/example/lithe_checker/lithechecker/c/CType$Member" := E_x0.keep K225
  have f226_7 : Exa Z T225.heap x1 "com/example/lithe_checker/lithechecker/c/CType$Member" := E_x1.keep K225
  have f226_8 : Exa Z T225.heap x2 "com/example/lithe_checker/lithechecker/c/CType$Member" := E_x2.keep K225
  have ne225_b : b ≠ b225 := Nat.ne_of_lt (Nat.lt_of_lt_of_le V_b.lt ge225)
  have ne225_a1 : a1 ≠ b225 := Nat.ne_of_lt (Nat.lt_of_lt_of_le E_a1.lt ge225)
  have ne225_x0 : x0 ≠ b225 := Nat.ne_of_lt (Nat.lt_of_lt_of_le E_x0.lt ge225)
  have ne225_x1 : x1 ≠ b225 := Nat.ne_of_lt (Nat.lt_of_lt_of_le E_x1.lt ge225)
  have ne225_x2 : x2 ≠ b225 := Nat.ne_of_lt (Nat.lt_of_lt_of_le E_x2.lt ge225)
  have gf225 : n0 ≤ b225 := Nat.le_trans Z0 ge225
  have sz_b225 : h0.size ≤ b225 := Nat.le_trans Kp221.1 ge225
  obtain ⟨_, _, ⟨T227, L227, k227, n227⟩, -, X227, ⟨Lc227, hQ227, l227, y227, z227⟩, st227⟩ := LawKit.callS X225 hx (y := mn23) hown (own_m hZ hw 197) (own_m hZ hw 198) (own_m hZ hw 57) (own_m hZ hw 199) (by decide) (backOf (W := 0) (rmLO3 l Z a0 hw [] cs da el ea em ci mm kd ke b225 k225 x0 x1 x2 T225.heap n0 Zs225 V_env f226_0 V225 f226_6 f226_7 f226_8) hZ (own_g hw 199) (own_g hw 57) (by decide) (by decide)) (g := (mkF m 50 #[Rv a1, Uv] [(.ref b225)])) rfl (by rw [hml]; rfl) (argsL := [(.ref b225)]) (rest := []) (lenOf own_pd256 rfl) rfl (own_z rfl) (hb hby d10_50) (fun _ _ => ⟨rfl, rfl, (by decide : 1 + 2 ≤ _), (by decide : 3 + 5 ≤ _)⟩)
  dsimp only [Pt.U, Pt.locs, Pt.cells, Pt.slots] at X227 l227 y227 z227 st227 hQ227
  subst l227 y227 z227
  obtain ⟨b227, v227, k227, rfl, Nq227, K227, ge227, E227, G227, V227, gv227⟩ := hQ227
  have N227 := Fr.app N225 Nq227
  have Zs227 : n0 ≤ T227.heap.size := Nat.le_trans Zs225 K227.1
  have Kp227 : Keep h0 T227.heap [] := Kp225.trans K227 all0
  have f228_0 : Old Z n0 T227.heap := f226_0.keep K227 all0
  have f228_1 : Arv Z T227.heap b k (.object "java/lang/Object") (10 : Int32) [(.ref x0), (.ref x1), (.ref x2), .null, .null, .null, .null, .null, .null, .null] .null := f226_1.keep K227 nin0
  have f228_2 : Exa Z T227.heap b "[Ljava/lang/Object;" := f226_2.keep K227
  have f228_3 : Exa Z T227.heap a1 "java/util/ArrayList" := f226_3.keep K227
  have f228_4 : Fld Z T227.heap a1 "java/util/ArrayList" "elementData" "[Ljava/lang/Object;" (.ref b) := f226_4.keep K227 nin0
  have f228_5 : Fld Z T227.heap a1 "java/util/ArrayList" "size" "I" (.int (3 : Int32)) := f226_5.keep K227 nin0
  have f228_6 : Exa Z T227.heap x0 "com/example/lithe_checker/lithechecker/c/CType$Member" := f226_6.keep K227
  have f228_7 : Exa Z T227.heap x1 "com/example/lithe_checker/lithechecker/c/CType$Member" := f226_7.keep K227
  have f228_8 : Exa Z T227.heap x2 "com/example/lithe_checker/lithechecker/c/CType$Member" := f226_8.keep K227
  have f228_9 : Arv Z T227.heap b225 k225 (.object "java/lang/Object") (3 : Int32) [(.ref x0), (.ref x1), (.ref x2)] .null := V225.keep K227 nin0
  have sz_v227 : h0.size ≤ v227 := Nat.le_trans Kp225.1 gv227
  have sz_b227 : h0.size ≤ b227 := Nat.le_trans Kp225.1 ge227
  refine own_by (fun _ k => st225.trans (st227 _ k)) ?_
  exact own_retA X227 hx hlk (t := (.object "java/util/List")) hret rfl rfl rfl (hb hby d10_53) ⟨_, _, _, rfl, N227, Kp227, sz_b227, E227, G227, V227, sz_v227⟩ (by decide) (by decide)
theorem rmCP3 (l : Launch) (Z : State) (a0 : Array Value) (hw : own_W a0 Z) (ws : List Jvm.Cond) (cs : Int32) (da el ea em ci mm : Addr) (kd ke : ClassId) (a1 b : Addr) (k : ClassId) (x0 x1 x2 : Addr) (h0 : Heap) (n0 : Nat) (Z0 : n0 ≤ h0.size) (V_env : own_Env Z cs da el ea em ci mm kd ke) (Od : Old Z n0 h0) (E_a1 : Exa Z h0 a1 "java/util/ArrayList") (F_e : Fld Z h0 a1 "java/util/ArrayList" "elementData" "[Ljava/lang/Object;" (.ref b)) (F_s : Fld Z h0 a1 "java/util/ArrayList" "size" "I" (.int (3 : Int32))) (V_b : Arv Z h0 b k (.object "java/lang/Object") (10 : Int32) [(.ref x0), (.ref x1), (.ref x2), .null, .null, .null, .null, .null, .null, .null] .null) (E_b : Exa Z h0 b "[Ljava/lang/Object;") (E_x0 : Exa Z h0 x0 "com/example/lithe_checker/lithechecker/c/CType$Member") (E_x1 : Exa Z h0 x1 "com/example/lithe_checker/lithechecker/c/CType$Member") (E_x2 : Exa Z h0 x2 "com/example/lithe_checker/lithechecker/c/CType$Member") : own_Met l Z mn27 jdk_40_method_48_code 1 (some (.object "java/util/List")) ws (own_R 8 3 8 118) #[(.ref a1)] h0 (own_QL3 Z x0 x1 x2 h0 n0) := by
  refine own_enter n0 (plainFor_of_name own_pn231) (fun m => ef_R_1 m a1 ) (fun p e s m below meth c s₁ hx hby hlk hml hret hown hnm hZ X0 e0 N0 => ?_)
  show own_Fin _ _ _ _ _ _ _ s₁ (mkF m 0 #[Rv a1] [])
  have Kp229 : Keep h0 h0 [] := Keep.refl h0 _
  obtain ⟨_, _, ⟨T230, L230, k230, n230⟩, -, X230, ⟨Lc230, hQ230, l230, y230, z230⟩, st230⟩ := LawKit.callS X0 hx (y := mn24) hown (own_m hZ hw 59) (own_m hZ hw 60) (own_m hZ hw 61) (own_m hZ hw 62) (by decide) (backOf (W := 0) (rmLC3 l Z a0 hw [] cs da el ea em ci mm kd ke a1 b k x0 x1 x2 h0 n0 Z0 V_env Od E_a1 F_e F_s V_b E_b E_x0 E_x1 E_x2) hZ (own_g hw 62) (own_g hw 61) (by decide) (by decide)) (g := (mkF m 1 #[Rv a1] [(.ref a1)])) rfl (by rw [hml]; rfl) (argsL := [(.ref a1)]) (rest := []) (lenOf own_pd260 rfl) rfl (own_z rfl) (hb hby d9_1) (fun _ _ => ⟨rfl, e0, (by decide : 0 + 3 ≤ _), (by decide : 0 + 8 ≤ _)⟩)
  dsimp only [Pt.U, Pt.locs, Pt.cells, Pt.slots] at X230 l230 y230 z230 st230 hQ230
  subst l230 y230 z230
  obtain ⟨b230, v230, k230, rfl, Nq230, K230, ge230, E230, G230, V230, gv230⟩ := hQ230
  have N230 := Fr.app N0 Nq230
  have Zs230 : n0 ≤ T230.heap.size := Nat.le_trans Z0 K230.1
  have Kp230 : Keep h0 T230.heap [] := Kp229.trans K230 all0
  have f231_0 : Old Z n0 T230.heap := Od.keep K230 all0
  have f231_1 : Arv Z T230.heap b k (.object "java/lang/Object") (10 : Int32) [(.ref x0), (.ref x1), (.ref x2), .null, .null, .null, .null, .null, .null, .null] .null := V_b.keep K230 nin0
  have f231_2 : Exa Z T230.heap b "[Ljava/lang/Object;" := E_b.keep K230
  have f231_3 : Exa Z T230.heap a1 "java/util/ArrayList" := E_a1.keep K230
  have f231_4 : Fld Z T230.heap a1 "java/util/ArrayList" "elementData" "[Ljava/lang/Object;" (.ref b) := F_e.keep K230 nin0
  have f231_5 : Fld Z T230.heap a1 "java/util/ArrayList" "size" "I" (.int (3 : Int32)) := F_s.keep K230 nin0
  have f231_6 : Exa Z T230.heap x0 "com/example/lithe_checker/lithechecker/c/CType$Member" := E_x0.keep K230
  have f231_7 : Exa Z T230.heap x1 "com/example/lithe_checker/lithechecker/c/CType$Member" := E_x1.keep K230
  have f231_8 : Exa Z T230.heap x2 "com/example/lithe_checker/lithechecker/c/CType$Member" := E_x2.keep K230
  have sz_v230 : h0.size ≤ v230 := Nat.le_trans Kp229.1 gv230
  have sz_b230 : h0.size ≤ b230 := Nat.le_trans Kp229.1 ge230
  refine own_by (fun _ k => XS.aloadN X0.here hx rfl (hb hby d9_0) rfl rfl (st230 _ k)) ?_
  exact own_retA X230 hx hlk (t := (.object "java/util/List")) hret rfl rfl rfl (hb hby d9_4) ⟨_, _, _, rfl, N230, Kp230, sz_b230, E230, G230, V230, sz_v230⟩ (by decide) (by decide)
theorem d12_0 : decode jdk_40_method_36_code 0 = .ok (.getstatic 90, 3) := by decide +kernel
theorem d12_3 : decode jdk_40_method_36_code 3 = .ok (.areturn, 1) := by decide +kernel
theorem ef__0 (m : MethodId)  : entryFrame m #[] 0 = mkF m 0 #[] [] := by first | (simp [entryFrame, mkF, argsToLocals, Value.category]; done) | rfl
def own_QO0 (el : Addr) (h0 : Heap) (n0 : Nat) (v : Option Value) (h : Heap) (L : List Loc) : Prop := v = some (.ref el) ∧ Fr n0 L ∧ h = h0
theorem rmLO0 (l : Launch) (Z : State) (a0 : Array Value) (hw : own_W a0 Z) (ws : List Jvm.Cond) (cs : Int32) (da el ea em ci mm : Addr) (kd ke : ClassId)  (h0 : Heap) (n0 : Nat) (Z0 : n0 ≤ h0.size) (V_env : own_Env Z cs da el ea em ci mm kd ke) (Od : Old Z n0 h0) : own_Met l Z mn28 jdk_40_method_36_code 0 (some (.object "java/util/List")) ws (own_R 0 0 0 0) #[] h0 (own_QO0 el h0 n0) := by
  refine own_enter n0 (plainFor_of_name own_pn231) (fun m => ef__0 m  ) (fun p e s m below meth c s₁ hx hby hlk hml hret hown hnm hZ X0 e0 N0 => ?_)
  show own_Fin _ _ _ _ _ _ _ s₁ (mkF m 0 #[] [])
  obtain ⟨T232, X232, e232, st232⟩ := getS2 X0 hx hZ hown (host := "") (Or.inl (own_g hw 83)) Via.refl e0 (V_env.2.2.2.2.1.ext Od.2) (g := (mkF m 0 #[] [])) rfl (hb hby d12_0)
  refine own_by (fun _ k => st232 _ k) ?_
  exact own_retA X232 hx hlk (t := (.object "java/util/List")) hret rfl rfl rfl (hb hby d12_3) ⟨rfl, N0, e232⟩ (by decide) (by decide)
theorem d10_40 : decode jdk_56_method_3_code 40 = .ok (.invokestatic 26, 3) := by decide +kernel
theorem own_pd280 : parseMethodDescriptor "()Ljava/util/List;" = some ⟨[], some (.object "java/util/List")⟩ := by decide +kernel
theorem d10_43 : decode jdk_56_method_3_code 43 = .ok (.areturn, 1) := by decide +kernel
theorem rmLC0 (l : Launch) (Z : State) (a0 : Array Value) (hw : own_W a0 Z) (ws : List Jvm.Cond) (cs : Int32) (da el ea em ci mm : Addr) (kd ke : ClassId) (a1 : Addr) (h0 : Heap) (n0 : Nat) (Z0 : n0 ≤ h0.size) (V_env : own_Env Z cs da el ea em ci mm kd ke) (Od : Old Z n0 h0) (E_a1 : Exa Z h0 a1 "java/util/ArrayList") (F_s : Fld Z h0 a1 "java/util/ArrayList" "size" "I" (.int (0 : Int32))) : own_Met l Z mn24 jdk_56_method_3_code 2 (some (.object "java/util/List")) ws (own_R 1 0 0 16) #[(.ref a1)] h0 (own_QO0 el h0 n0) := by
  refine own_enter n0 (plainFor_of_name own_pn203) (fun m => ef_R_2 m a1 ) (fun p e s m below meth c s₁ hx hby hlk hml hret hown hnm hZ X0 e0 N0 => ?_)
  show own_Fin _ _ _ _ _ _ _ s₁ (mkF m 0 #[Rv a1, Uv] [])
  obtain ⟨T233, X233, e233, st233⟩ := instNo X0 hx hZ hown (own_g hw 63) e0 E_a1 (own_not4 (own_g hw 64) (own_g hw 65) (own_g hw 66) (own_g hw 67) (own_g hw 201) (by decide) (by decide) (by decide) (by decide)) (g := (mkF m 1 #[Rv a1, Uv] [(.ref a1)])) rfl rfl (hb hby d10_1)
  obtain ⟨T234, X234, e234, st234⟩ := instNo X233 hx hZ hown (own_g hw 68) e233 E_a1 (own_not4 (own_g hw 64) (own_g hw 65) (own_g hw 66) (own_g hw 67) (own_g hw 258) (by decide) (by decide) (by decide) (by decide)) (g := (mkF m 8 #[Rv a1, Uv] [(.ref a1)])) rfl rfl (hb hby d10_8)
  obtain ⟨cq235, kq235, q235a, q235b, q235c⟩ := isOf hZ e234 E_a1
  obtain ⟨_, _, ⟨T235, L235, k235, n235⟩, -, X235, ⟨Lc235, hQ235, l235, y235, z235⟩, st235⟩ := X234.interfaceBack hx (xi := mn25) (y := mn12) hown (own_m hZ hw 69) (own_m hZ hw 70) (own_m hZ hw 71) (own_m hZ hw 72) (own_m hZ hw 73) (own_m hZ hw 74) (own_m hZ hw 75) (own_m hZ hw 76) (by decide) (backOf (W := 0) (rmIE0 l Z a0 hw [] a1 h0 n0 Z0 F_s) hZ (own_g hw 77) (own_g hw 28) (by decide) (by decide)) q235a q235b q235c (g := (mkF m 32 #[Rv a1, Uv] [(.ref a1)])) rfl (by rw [hml]; rfl) (Steps.refl _) (argsL := []) (rest := []) (lenOf own_pd251 rfl) rfl (own_z rfl) (hb hby d10_32) (fun _ _ => ⟨rfl, e234, (by decide : 0 + 0 ≤ _), (by decide : 0 + 0 ≤ _)⟩)
  dsimp only [Pt.U, Pt.locs, Pt.cells, Pt.slots] at X235 l235 y235 z235 st235 hQ235
  subst l235 y235 z235
  obtain ⟨rfl, Nq235, eh235⟩ := hQ235
  have N235 := Fr.app N0 Nq235
  obtain ⟨_, _, ⟨T236, L236, k236, n236⟩, -, X236, ⟨Lc236, hQ236, l236, y236, z236⟩, st236⟩ := LawKit.callS X235 hx (y := mn28) hown (own_m hZ hw 80) (own_m hZ hw 81) (own_m hZ hw 57) (own_m hZ hw 82) (by decide) (backOf (W := 0) (rmLO0 l Z a0 hw [] cs da el ea em ci mm kd ke h0 n0 Z0 V_env Od) hZ (own_g hw 82) (own_g hw 57) (by decide) (by decide)) (g := (mkF m 40 #[Rv a1, Uv] [])) rfl (by rw [hml]; rfl) (argsL := []) (rest := []) (lenOf own_pd280 rfl) rfl (own_z rfl) (hb hby d10_40) (fun _ _ => ⟨rfl, eh235, (by decide : 0 + 0 ≤ _), (by decide : 0 + 0 ≤ _)⟩)
  dsimp only [Pt.U, Pt.locs, Pt.cells, Pt.slots] at X236 l236 y236 z236 st236 hQ236
  subst l236 y236 z236
  obtain ⟨rfl, Nq236, eh236⟩ := hQ236
  have N236 := Fr.app N235 Nq236
  refine own_by (fun _ k => XS.aloadN X0.here hx rfl (hb hby d10_0) rfl rfl (st233 _ (XS.ifNo X233.here hx rfl (hb hby d10_4) rfl ((if0 _ _).trans (teq (by decide : (0 : Int32) = (0 : Int32))).2) (XS.aloadN X233.here hx rfl (hb hby d10_7) rfl rfl (st234 _ (XS.ifYes X234.here hx rfl (pc0 := 11) (pc' := 31) rfl (hb hby d10_11) rfl ((if0 _ _).trans (teq (by decide : (0 : Int32) = (0 : Int32))).1) (by decide) (by decide) (XS.aloadN X234.here hx rfl (hb hby d10_31) rfl rfl (st235.trans (XS.ifNo X235.here hx rfl (hb hby d10_37) rfl ((if0 _ _).trans (feq (by decide : ¬ ((1 : Int32) = (0 : Int32)))).1) (st236 _ k)))))))))) ?_
  exact own_retA X236 hx hlk (t := (.object "java/util/List")) hret rfl rfl rfl (hb hby d10_43) ⟨rfl, N236, eh236⟩ (by decide) (by decide)
theorem rmCP0 (l : Launch) (Z : State) (a0 : Array Value) (hw : own_W a0 Z) (ws : List Jvm.Cond) (cs : Int32) (da el ea em ci mm : Addr) (kd ke : ClassId) (a1 : Addr) (h0 : Heap) (n0 : Nat) (Z0 : n0 ≤ h0.size) (V_env : own_Env Z cs da el ea em ci mm kd ke) (Od : Old Z n0 h0) (E_a1 : Exa Z h0 a1 "java/util/ArrayList") (F_s : Fld Z h0 a1 "java/util/ArrayList" "size" "I" (.int (0 : Int32))) : own_Met l Z mn27 jdk_40_method_48_code 1 (some (.object "java/util/List")) ws (own_R 2 0 0 33) #[(.ref a1)] h0 (own_QO0 el h0 n0) := by
  refine own_enter n0 (plainFor_of_name own_pn231) (fun m => ef_R_1 m a1 ) (fun p e s m below meth c s₁ hx hby hlk hml hret hown hnm hZ X0 e0 N0 => ?_)
  show own_Fin _ _ _ _ _ _ _ s₁ (mkF m 0 #[Rv a1] [])
  obtain ⟨_, _, ⟨T237, L237, k237, n237⟩, -, X237, ⟨Lc237, hQ237, l237, y237, z237⟩, st237⟩ := LawKit.callS X0 hx (y := mn24) hown (own_m hZ hw 59) (own_m hZ hw 60) (own_m hZ hw 61) (own_m hZ hw 62) (by decide) (backOf (W := 0) (rmLC0 l Z a0 hw [] cs da el ea em ci mm kd ke a1 h0 n0 Z0 V_env Od E_a1 F_s) hZ (own_g hw 62) (own_g hw 61) (by decide) (by decide)) (g := (mkF m 1 #[Rv a1] [(.ref a1)])) rfl (by rw [hml]; rfl) (argsL := [(.ref a1)]) (rest := []) (lenOf own_pd260 rfl) rfl (own_z rfl) (hb hby d9_1) (fun _ _ => ⟨rfl, e0, (by decide : 0 + 0 ≤ _), (by decide : 0 + 0 ≤ _)⟩)
  dsimp only [Pt.U, Pt.locs, Pt.cells, Pt.slots] at X237 l237 y237 z237 st237 hQ237
  subst l237 y237 z237
  obtain ⟨rfl, Nq237, eh237⟩ := hQ237
  have N237 := Fr.app N0 Nq237
  refine own_by (fun _ k => XS.aloadN X0.here hx rfl (hb hby d9_0) rfl rfl (st237 _ k)) ?_
  exact own_retA X237 hx hlk (t := (.object "java/util/List")) hret rfl rfl rfl (hb hby d9_4) ⟨rfl, N237, eh237⟩ (by decide) (by decide)
theorem own_pn283 : plainName "com/example/lithe_checker/lithechecker/c/CType$StructType" = true := by first | (simp [plainName, overriddenIn]; done) | decide +kernel
theorem d1_0 : decode prog_11_method_1_code 0 = .ok (.aload_n 0, 1) := by decide +kernel
theorem d1_1 : decode prog_11_method_1_code 1 = .ok (.invokespecial 1, 3) := by decide +kernel
theorem d1_4 : decode prog_11_method_1_code 4 = .ok (.aload_n 0, 1) := by decide +kernel
theorem d1_5 : decode prog_11_method_1_code 5 = .ok (.iload_n 1, 1) := by decide +kernel
theorem d1_6 : decode prog_11_method_1_code 6 = .ok (.putfield 7, 3) := by decide +kernel
theorem d1_9 : decode prog_11_method_1_code 9 = .ok (.aload_n 0, 1) := by decide +kernel
theorem d1_10 : decode prog_11_method_1_code 10 = .ok (.aload_n 2, 1) := by decide +kernel
theorem d1_11 : decode prog_11_method_1_code 11 = .ok (.putfield 13, 3) := by decide +kernel
theorem d1_14 : decode prog_11_method_1_code 14 = .ok (.return_, 1) := by decide +kernel
theorem ef_RIV_3 (m : MethodId) (x0 : Addr) (x1 : Int32) (x2 : Value) (hx2 : x2.category = 1) : entryFrame m #[(.ref x0), (.int x1), x2] 3 = mkF m 0 #[.val (.ref x0), .val (.int x1), .val x2] [] := by first | (simp [entryFrame, mkF, argsToLocals, Value.category, hx2]; done) | rfl | (cases x2 <;> first | rfl | (simp [Value.category] at hx2; done))
def own_QSI (Z : State) (a1 : Addr) (h0 : Heap) (n0 : Nat) (v : Option Value) (h : Heap) (L : List Loc) : Prop := v = none ∧ Fr n0 L ∧ Keep h0 h [a1] ∧ Fld Z h a1 "com/example/lithe_checker/lithechecker/c/CType$StructType" "members" "Ljava/util/List;" .null
set_option maxRecDepth 65536 in
set_option maxHeartbeats 40000000 in
theorem rmSI (l : Launch) (Z : State) (a0 : Array Value) (hw : own_W a0 Z) (ws : List Jvm.Cond) (a1 : Addr) (u : Int32) (tg : Value) (h0 : Heap) (n0 : Nat) (Z0 : n0 ≤ h0.size) (E_a1 : Exa Z h0 a1 "com/example/lithe_checker/lithechecker/c/CType$StructType") (F_u : Fld Z h0 a1 "com/example/lithe_checker/lithechecker/c/CType$StructType" "union" "Z" (.int (0 : Int32))) (F_t : Fld Z h0 a1 "com/example/lithe_checker/lithechecker/c/CType$StructType" "tag" "Ljava/lang/String;" .null) (F_m : Fld Z h0 a1 "com/example/lithe_checker/lithechecker/c/CType$StructType" "members" "Ljava/util/List;" .null) (g_1 : n0 ≤ a1) (htg : tg.isRef = true) : own_Met l Z mn29 prog_11_method_1_code 3 none ws (own_R 2 0 0 24) #[(.ref a1), (.int u), tg] h0 (own_QSI Z a1 h0 n0) := by
  refine own_enter n0 (plainFor_of_name own_pn283) (fun m => ef_RIV_3 m a1 u tg (by rcases ref_cases (by assumption : (tg).isRef = true) with h | ⟨_, h⟩ <;> rw [h] <;> rfl)) (fun p e s m below meth c s₁ hx hby hlk hml hret hown hnm hZ X0 e0 N0 => ?_)
  show own_Fin _ _ _ _ _ _ _ s₁ (mkF m 0 #[Rv a1, Iv u, .val tg] [])
  have Kp238 : Keep h0 h0 [a1] := Keep.refl h0 _
  obtain ⟨_, _, ⟨T239, L239, k239, n239⟩, -, X239, ⟨Lc239, hQ239, l239, y239, z239⟩, st239⟩ := X0.specialBackNest hx (y := mn1) rfl hown (own_mvM hZ (own_g hw 7)) (own_m hZ hw 8) (own_m hZ hw 11) (by decide) (backOf (W := 0) (rmCT l Z a0 hw [] a1 h0 n0 Z0 ) hZ (own_g hw 11) (own_g hw 10) (by decide) (by decide)) (g := (mkF m 1 #[Rv a1, Iv u, .val tg] [(.ref a1)])) rfl (by rw [hml]; rfl) (Steps.refl _) (a := a1) (argsL := []) (rest := []) (lenOf own_pd12 rfl) rfl (own_z rfl) (hb hby d1_1) (fun _ _ => ⟨rfl, e0, (by decide : 0 + 0 ≤ _), (by decide : 0 + 0 ≤ _)⟩)
  dsimp only [Pt.U, Pt.locs, Pt.cells, Pt.slots] at X239 l239 y239 z239 st239 hQ239
  subst l239 y239 z239
  obtain ⟨rfl, Nq239, eh239⟩ := hQ239
  have N239 := Fr.app N0 Nq239
  obtain ⟨T240, h240, X240, e240, W240, st240⟩ := putFN X239 hx hZ hown (own_g hw 15) Via.refl eh239 F_u E_a1 (Or.inr ⟨(own_g hw 16), rfl, hnm⟩) (own_g hw 2) (ty := .boolean) (v' := (.int (nar .boolean u))) (by decide) rfl (fits_nar_bool _) (g := (mkF m 6 #[Rv a1, Iv u, .val tg] [(.int u), (.ref a1)])) rfl rfl (hb hby d1_6)
  have Fw240 : Fld Z h240 a1 "com/example/lithe_checker/lithechecker/c/CType$StructType" "union" "Z" (.int (nar .boolean u)) := F_u.same W240
  have Kp240 : Keep h0 h240 [a1] := Kp238.wr W240 (Or.inl (List.mem_of_getElem? (i := 0) rfl))
  have Zs240 : n0 ≤ h240.size := Nat.le_trans Z0 (Keep.of_wr W240).1
  have N240 := Fr.snoc X240 N239 g_1
  have f241_0 : Exa Z h240 a1 "com/example/lithe_checker/lithechecker/c/CType$StructType" := E_a1.wr W240
  have f241_2 : Fld Z h240 a1 "com/example/lithe_checker/lithechecker/c/CType$StructType" "tag" "Ljava/lang/String;" .null := F_t.other W240 (Or.inr (slot_ne (Or.inr (own_g hw 18)) (Or.inr (own_g hw 16)) (by decide) (t := (.object "java/lang/String")) (t' := .boolean) (by decide) (by decide)))
  have f241_3 : Fld Z h240 a1 "com/example/lithe_checker/lithechecker/c/CType$StructType" "members" "Ljava/util/List;" .null := F_m.other W240 (Or.inr (slot_ne (Or.inl (own_g hw 25)) (Or.inr (own_g hw 16)) (by decide) (t := (.object "java/util/List")) (t' := .boolean) (by decide) (by decide)))
  obtain ⟨T242, h242, X242, e242, W242, st242⟩ := putF X240 hx hZ hown (host := "") (Or.inl (own_g hw 17)) Via.refl e240 f241_2 f241_0 (Or.inr ⟨(own_g hw 18), rfl, hnm⟩) (own_g hw 2) (ty := (.object "java/lang/String")) (by decide) rfl (by rcases ref_cases (by assumption : (tg).isRef = true) with q | ⟨_, q⟩ <;> rw [q] <;> rfl) (g := (mkF m 11 #[Rv a1, Iv u, .val tg] [tg, (.ref a1)])) rfl rfl (hb hby d1_11)
  have Fw242 : Fld Z h242 a1 "com/example/lithe_checker/lithechecker/c/CType$StructType" "tag" "Ljava/lang/String;" tg := f241_2.same W242
  have Kp242 : Keep h0 h242 [a1] := Kp240.wr W242 (Or.inl (List.mem_of_getElem? (i := 0) rfl))
  have Zs242 : n0 ≤ h242.size := Nat.le_trans Zs240 (Keep.of_wr W242).1
  have N242 := Fr.snoc X242 N240 g_1
  have f243_0 : Exa Z h242 a1 "com/example/lithe_checker/lithechecker/c/CType$StructType" := f241_0.wr W242
  have f243_2 : Fld Z h242 a1 "com/example/lithe_checker/lithechecker/c/CType$StructType" "members" "Ljava/util/List;" .null := f241_3.other W242 (Or.inr (slot_ne (Or.inl (own_g hw 25)) (Or.inr (own_g hw 18)) (by decide) (t := (.object "java/util/List")) (t' := (.object "java/lang/String")) (by decide) (by decide)))
  have f243_3 : Fld Z h242 a1 "com/example/lithe_checker/lithechecker/c/CType$StructType" "union" "Z" (.int (nar .boolean u)) := Fw240.other W242 (Or.inr (slot_ne (Or.inr (own_g hw 16)) (Or.inr (own_g hw 18)) (by decide) (t := .boolean) (t' := (.object "java/lang/String")) (by decide) (by decide)))
  refine own_by (fun _ k => XS.aloadN X0.here hx rfl (hb hby d1_0) rfl rfl (st239.trans (XS.aloadN X239.here hx rfl (hb hby d1_4) rfl rfl (XS.iloadN X239.here hx rfl (hb hby d1_5) rfl (st240 _ (XS.aloadN X240.here hx rfl (hb hby d1_9) rfl rfl (XS.aloadN X240.here hx rfl (hb hby d1_10) rfl (by assumption) (st242 _ k)))))))) ?_
  exact own_retV X242 hx hlk hret (hb hby d1_14) (by rw [e242]; exact ⟨rfl, N242, Kp242, f243_2⟩) (by decide) (by decide)
theorem d4_0 : decode prog_11_method_5_code 0 = .ok (.aload_n 0, 1) := by decide +kernel
theorem d4_1 : decode prog_11_method_5_code 1 = .ok (.getfield 23, 3) := by decide +kernel
theorem d4_4 : decode prog_11_method_5_code 4 = .ok (.ifnull 7, 3) := by decide +kernel
theorem d4_11 : decode prog_11_method_5_code 11 = .ok (.iconst 0, 1) := by decide +kernel
theorem d4_12 : decode prog_11_method_5_code 12 = .ok (.ireturn, 1) := by decide +kernel
def own_QrmIc0 (h0 : Heap) (n0 : Nat) (v : Option Value) (h : Heap) (L : List Loc) : Prop := v = some (.int (0 : Int32)) ∧ Fr n0 L ∧ h = h0
theorem rmIc0 (l : Launch) (Z : State) (a0 : Array Value) (hw : own_W a0 Z) (ws : List Jvm.Cond) (a1 : Addr) (h0 : Heap) (n0 : Nat) (Z0 : n0 ≤ h0.size) (F_m : Fld Z h0 a1 "com/example/lithe_checker/lithechecker/c/CType$StructType" "members" "Ljava/util/List;" .null) : own_Met l Z mn30 prog_11_method_5_code 1 (some .boolean) ws (own_R 0 0 0 0) #[(.ref a1)] h0 (own_QrmIc0 h0 n0) := by
  refine own_enter n0 (plainFor_of_name own_pn283) (fun m => ef_R_1 m a1 ) (fun p e s m below meth c s₁ hx hby hlk hml hret hown hnm hZ X0 e0 N0 => ?_)
  show own_Fin _ _ _ _ _ _ _ s₁ (mkF m 0 #[Rv a1] [])
  obtain ⟨T244, X244, e244, st244⟩ := getF X0 hx hZ hown (host := "") (Or.inl (own_g hw 24)) Via.refl e0 F_m (g := (mkF m 1 #[Rv a1] [(.ref a1)])) rfl rfl (hb hby d4_1)
  refine own_by (fun _ k => XS.aloadN X0.here hx rfl (hb hby d4_0) rfl rfl (st244 _ (XS.ifnullYes X244.here hx rfl (pc0 := 4) (pc' := 11) rfl (hb hby d4_4) rfl (by decide) (by decide) (XS.iconst X244.here hx rfl (hb hby d4_11) k)))) ?_
  exact own_retZ X244 hx hlk (t := .boolean) hret (by simp) (hb hby d4_12) ⟨rfl, N0, e244⟩ (by decide) (by decide)
theorem d4_7 : decode prog_11_method_5_code 7 = .ok (.iconst 1, 1) := by decide +kernel
theorem d4_8 : decode prog_11_method_5_code 8 = .ok (.goto 4, 3) := by decide +kernel
def own_QrmIc1 (h0 : Heap) (n0 : Nat) (v : Option Value) (h : Heap) (L : List Loc) : Prop := v = some (.int (1 : Int32)) ∧ Fr n0 L ∧ h = h0
theorem rmIc1 (l : Launch) (Z : State) (a0 : Array Value) (hw : own_W a0 Z) (ws : List Jvm.Cond) (a1 : Addr) (y1 : Addr) (h0 : Heap) (n0 : Nat) (Z0 : n0 ≤ h0.size) (F_m : Fld Z h0 a1 "com/example/lithe_checker/lithechecker/c/CType$StructType" "members" "Ljava/util/List;" (.ref y1)) : own_Met l Z mn30 prog_11_method_5_code 1 (some .boolean) ws (own_R 0 0 0 0) #[(.ref a1)] h0 (own_QrmIc1 h0 n0) := by
  refine own_enter n0 (plainFor_of_name own_pn283) (fun m => ef_R_1 m a1 ) (fun p e s m below meth c s₁ hx hby hlk hml hret hown hnm hZ X0 e0 N0 => ?_)
  show own_Fin _ _ _ _ _ _ _ s₁ (mkF m 0 #[Rv a1] [])
  obtain ⟨T245, X245, e245, st245⟩ := getF X0 hx hZ hown (host := "") (Or.inl (own_g hw 24)) Via.refl e0 F_m (g := (mkF m 1 #[Rv a1] [(.ref a1)])) rfl rfl (hb hby d4_1)
  refine own_by (fun _ k => XS.aloadN X0.here hx rfl (hb hby d4_0) rfl rfl (st245 _ (XS.ifnullNo X245.here hx rfl (hb hby d4_4) rfl (XS.iconst X245.here hx rfl (hb hby d4_7) (XS.goto X245.here hx rfl (pc0 := 8) (pc' := 12) rfl (hb hby d4_8) (by decide) (by decide) k))))) ?_
  exact own_retZ X245 hx hlk (t := .boolean) hret (by simp) (hb hby d4_12) ⟨rfl, N0, e245⟩ (by decide) (by decide)
theorem d13_0 : decode prog_11_method_6_code 0 = .ok (.aload_n 0, 1) := by decide +kernel
theorem d13_1 : decode prog_11_method_6_code 1 = .ok (.getfield 23, 3) := by decide +kernel
theorem d13_4 : decode prog_11_method_6_code 4 = .ok (.ifnonnull 9, 3) := by decide +kernel
theorem d13_13 : decode prog_11_method_6_code 13 = .ok (.aload_n 0, 1) := by decide +kernel
theorem d13_14 : decode prog_11_method_6_code 14 = .ok (.getfield 23, 3) := by decide +kernel
theorem d13_17 : decode prog_11_method_6_code 17 = .ok (.areturn, 1) := by decide +kernel
def own_QMb (y1 : Addr) (h0 : Heap) (n0 : Nat) (v : Option Value) (h : Heap) (L : List Loc) : Prop := v = some (.ref y1) ∧ Fr n0 L ∧ h = h0
theorem rmMb (l : Launch) (Z : State) (a0 : Array Value) (hw : own_W a0 Z) (ws : List Jvm.Cond) (a1 y1 : Addr) (h0 : Heap) (n0 : Nat) (Z0 : n0 ≤ h0.size) (F_m : Fld Z h0 a1 "com/example/lithe_checker/lithechecker/c/CType$StructType" "members" "Ljava/util/List;" (.ref y1)) : own_Met l Z mn31 prog_11_method_6_code 1 (some (.object "java/util/List")) ws (own_R 0 0 0 0) #[(.ref a1)] h0 (own_QMb y1 h0 n0) := by
  refine own_enter n0 (plainFor_of_name own_pn283) (fun m => ef_R_1 m a1 ) (fun p e s m below meth c s₁ hx hby hlk hml hret hown hnm hZ X0 e0 N0 => ?_)
  show own_Fin _ _ _ _ _ _ _ s₁ (mkF m 0 #[Rv a1] [])
  obtain ⟨T246, X246, e246, st246⟩ := getF X0 hx hZ hown (host := "") (Or.inl (own_g hw 24)) Via.refl e0 F_m (g := (mkF m 1 #[Rv a1] [(.ref a1)])) rfl rfl (hb hby d13_1)
  obtain ⟨T247, X247, e247, st247⟩ := getF X246 hx hZ hown (host := "") (Or.inl (own_g hw 24)) Via.refl e246 F_m (g := (mkF m 14 #[Rv a1] [(.ref a1)])) rfl rfl (hb hby d13_14)
  refine own_by (fun _ k => XS.aloadN X0.here hx rfl (hb hby d13_0) rfl rfl (st246 _ (XS.ifnonnullYes X246.here hx rfl (pc0 := 4) (pc' := 13) rfl (hb hby d13_4) rfl (by decide) (by decide) (XS.aloadN X246.here hx rfl (hb hby d13_13) rfl rfl (st247 _ k))))) ?_
  exact own_retA X247 hx hlk (t := (.object "java/util/List")) hret rfl rfl rfl (hb hby d13_17) ⟨rfl, N0, e247⟩ (by decide) (by decide)
theorem d8_0 : decode prog_11_method_2_code 0 = .ok (.aload_n 0, 1) := by decide +kernel
theorem d8_1 : decode prog_11_method_2_code 1 = .ok (.aload_n 1, 1) := by decide +kernel
theorem d8_2 : decode prog_11_method_2_code 2 = .ok (.invokestatic 17, 3) := by decide +kernel
theorem d8_5 : decode prog_11_method_2_code 5 = .ok (.putfield 23, 3) := by decide +kernel
theorem d8_8 : decode prog_11_method_2_code 8 = .ok (.return_, 1) := by decide +kernel
def own_QCo0 (Z : State) (el : Addr) (a1 : Addr)  (h0 : Heap) (n0 : Nat) (v : Option Value) (h : Heap) (L : List Loc) : Prop := v = none ∧ Fr n0 L ∧ Keep h0 h [a1] ∧ Fld Z h a1 "com/example/lithe_checker/lithechecker/c/CType$StructType" "members" "Ljava/util/List;" (.ref el)
theorem rmCo0 (l : Launch) (Z : State) (a0 : Array Value) (hw : own_W a0 Z) (ws : List Jvm.Cond) (cs : Int32) (da el ea em ci mm : Addr) (kd ke : ClassId) (a1 a2 : Addr)  (h0 : Heap) (n0 : Nat) (Z0 : n0 ≤ h0.size) (V_env : own_Env Z cs da el ea em ci mm kd ke) (Od : Old Z n0 h0) (E_s : Exa Z h0 a1 "com/example/lithe_checker/lithechecker/c/CType$StructType") (F_m : Fld Z h0 a1 "com/example/lithe_checker/lithechecker/c/CType$StructType" "members" "Ljava/util/List;" .null) (g_1 : n0 ≤ a1) (E_a2 : Exa Z h0 a2 "java/util/ArrayList") (F_s : Fld Z h0 a2 "java/util/ArrayList" "size" "I" (.int (0 : Int32))) (ne12 : a1 ≠ a2) : own_Met l Z mn32 prog_11_method_2_code 2 none ws (own_R 3 0 0 49) #[(.ref a1), (.ref a2)] h0 (own_QCo0 Z el a1  h0 n0) := by
  refine own_enter n0 (plainFor_of_name own_pn283) (fun m => ef_RR_2 m a1 a2 ) (fun p e s m below meth c s₁ hx hby hlk hml hret hown hnm hZ X0 e0 N0 => ?_)
  show own_Fin _ _ _ _ _ _ _ s₁ (mkF m 0 #[Rv a1, Rv a2] [])
  have Kp248 : Keep h0 h0 [a1] := Keep.refl h0 _
  obtain ⟨_, _, ⟨T249, L249, k249, n249⟩, -, X249, ⟨Lc249, hQ249, l249, y249, z249⟩, st249⟩ := LawKit.callS X0 hx (y := mn27) hown (own_m hZ hw 55) (own_m hZ hw 56) (own_m hZ hw 57) (own_m hZ hw 58) (by decide) (backOf (W := 1) (rmCP0 l Z a0 hw [] cs da el ea em ci mm kd ke a2 h0 n0 Z0 V_env Od E_a2 F_s) hZ (own_g hw 58) (own_g hw 57) (by decide) (by decide)) (g := (mkF m 2 #[Rv a1, Rv a2] [(.ref a2), (.ref a1)])) rfl (by rw [hml]; rfl) (argsL := [(.ref a2)]) (rest := [(.ref a1)]) (lenOf own_pd260 rfl) rfl (own_z rfl) (hb hby d8_2) (fun _ _ => ⟨rfl, e0, (by decide : 0 + 0 ≤ _), (by decide : 0 + 0 ≤ _)⟩)
  dsimp only [Pt.U, Pt.locs, Pt.cells, Pt.slots] at X249 l249 y249 z249 st249 hQ249
  subst l249 y249 z249
  obtain ⟨rfl, Nq249, eh249⟩ := hQ249
  have N249 := Fr.app N0 Nq249
  obtain ⟨T250, h250, X250, e250, W250, st250⟩ := putF X249 hx hZ hown (host := "") (Or.inl (own_g hw 24)) Via.refl eh249 F_m E_s (Or.inl (own_g hw 25)) (own_g hw 2) (ty := (.object "java/util/List")) (by decide) rfl rfl (g := (mkF m 5 #[Rv a1, Rv a2] [(.ref el), (.ref a1)])) rfl rfl (hb hby d8_5)
  have Fw250 : Fld Z h250 a1 "com/example/lithe_checker/lithechecker/c/CType$StructType" "members" "Ljava/util/List;" (.ref el) := F_m.same W250
  have Kp250 : Keep h0 h250 [a1] := Kp248.wr W250 (Or.inl (List.mem_of_getElem? (i := 0) rfl))
  have Zs250 : n0 ≤ h250.size := Nat.le_trans Z0 (Keep.of_wr W250).1
  have N250 := Fr.snoc X250 N249 g_1
  have f251_0 : Old Z n0 h250 := Od.wr W250 g_1
  have f251_1 : Exa Z h250 a1 "com/example/lithe_checker/lithechecker/c/CType$StructType" := E_s.wr W250
  have f251_3 : Exa Z h250 a2 "java/util/ArrayList" := E_a2.wr W250
  have f251_4 : Fld Z h250 a2 "java/util/ArrayList" "size" "I" (.int (0 : Int32)) := F_s.other W250 (Or.inl (Ne.symm ne12))
  refine own_by (fun _ k => XS.aloadN X0.here hx rfl (hb hby d8_0) rfl rfl (XS.aloadN X0.here hx rfl (hb hby d8_1) rfl rfl (st249 _ (st250 _ k)))) ?_
  exact own_retV X250 hx hlk hret (hb hby d8_8) (by rw [e250]; exact ⟨rfl, N250, Kp250, Fw250⟩) (by decide) (by decide)
def own_QCo1 (Z : State) (em : Addr) (a1 : Addr) (x0 : Addr) (h0 : Heap) (n0 : Nat) (v : Option Value) (h : Heap) (L : List Loc) : Prop := ∃ q : Addr, v = none ∧ Fr n0 L ∧ Keep h0 h [a1] ∧ Fld Z h a1 "com/example/lithe_checker/lithechecker/c/CType$StructType" "members" "Ljava/util/List;" (.ref q) ∧ Exa Z h q "java/util/ImmutableCollections$List12" ∧ Fld Z h q "java/util/ImmutableCollections$List12" "e1" "Ljava/lang/Object;" (.ref em)
set_option maxRecDepth 65536 in
set_option maxHeartbeats 40000000 in
theorem rmCo1 (l : Launch) (Z : State) (a0 : Array Value) (hw : own_W a0 Z) (ws : List Jvm.Cond) (cs : Int32) (da el ea em ci mm : Addr) (kd ke : ClassId) (a1 a2 : Addr) (b : Addr) (k : ClassId) (x0 : Addr) (h0 : Heap) (n0 : Nat) (Z0 : n0 ≤ h0.size) (V_env : own_Env Z cs da el ea em ci mm kd ke) (Od : Old Z n0 h0) (E_s : Exa Z h0 a1 "com/example/lithe_checker/lithechecker/c/CType$StructType") (F_m : Fld Z h0 a1 "com/example/lithe_checker/lithechecker/c/CType$StructType" "members" "Ljava/util/List;" .null) (g_1 : n0 ≤ a1) (E_a2 : Exa Z h0 a2 "java/util/ArrayList") (F_e : Fld Z h0 a2 "java/util/ArrayList" "elementData" "[Ljava/lang/Object;" (.ref b)) (F_s : Fld Z h0 a2 "java/util/ArrayList" "size" "I" (.int (1 : Int32))) (V_b : Arv Z h0 b k (.object "java/lang/Object") (10 : Int32) [(.ref x0), .null, .null, .null, .null, .null, .null, .null, .null, .null] .null) (E_b : Exa Z h0 b "[Ljava/lang/Object;") (E_x0 : Exa Z h0 x0 "com/example/lithe_checker/lithechecker/c/CType$Member") (ne12 : a1 ≠ a2) : own_Met l Z mn32 prog_11_method_2_code 2 none ws (own_R 8 2 3 123) #[(.ref a1), (.ref a2)] h0 (own_QCo1 Z em a1 x0 h0 n0) := by
  refine own_enter n0 (plainFor_of_name own_pn283) (fun m => ef_RR_2 m a1 a2 ) (fun p e s m below meth c s₁ hx hby hlk hml hret hown hnm hZ X0 e0 N0 => ?_)
  show own_Fin _ _ _ _ _ _ _ s₁ (mkF m 0 #[Rv a1, Rv a2] [])
  have Kp252 : Keep h0 h0 [a1] := Keep.refl h0 _
  obtain ⟨_, _, ⟨T253, L253, k253, n253⟩, -, X253, ⟨Lc253, hQ253, l253, y253, z253⟩, st253⟩ := LawKit.callS X0 hx (y := mn27) hown (own_m hZ hw 55) (own_m hZ hw 56) (own_m hZ hw 57) (own_m hZ hw 58) (by decide) (backOf (W := 1) (rmCP1 l Z a0 hw [] cs da el ea em ci mm kd ke a2 b k x0 h0 n0 Z0 V_env Od E_a2 F_e F_s V_b E_b E_x0) hZ (own_g hw 58) (own_g hw 57) (by decide) (by decide)) (g := (mkF m 2 #[Rv a1, Rv a2] [(.ref a2), (.ref a1)])) rfl (by rw [hml]; rfl) (argsL := [(.ref a2)]) (rest := [(.ref a1)]) (lenOf own_pd260 rfl) rfl (own_z rfl) (hb hby d8_2) (fun _ _ => ⟨rfl, e0, (by decide : 0 + 2 ≤ _), (by decide : 0 + 3 ≤ _)⟩)
  dsimp only [Pt.U, Pt.locs, Pt.cells, Pt.slots] at X253 l253 y253 z253 st253 hQ253
  subst l253 y253 z253
  obtain ⟨b253, rfl, Nq253, K253, ge253, E253, G253⟩ := hQ253
  have N253 := Fr.app N0 Nq253
  have Zs253 : n0 ≤ T253.heap.size := Nat.le_trans Z0 K253.1
  have Kp253 : Keep h0 T253.heap [a1] := Kp252.trans K253 all0
  have f254_0 : Old Z n0 T253.heap := Od.keep K253 all0
  have f254_1 : Exa Z T253.heap a1 "com/example/lithe_checker/lithechecker/c/CType$StructType" := E_s.keep K253
  have f254_2 : Fld Z T253.heap a1 "com/example/lithe_checker/lithechecker/c/CType$StructType" "members" "Ljava/util/List;" .null := F_m.keep K253 nin0
  have f254_3 : Exa Z T253.heap a2 "java/util/ArrayList" := E_a2.keep K253
  have f254_4 : Fld Z T253.heap a2 "java/util/ArrayList" "size" "I" (.int (1 : Int32)) := F_s.keep K253 nin0
  have f254_5 : Fld Z T253.heap a2 "java/util/ArrayList" "elementData" "[Ljava/lang/Object;" (.ref b) := F_e.keep K253 nin0
  have f254_6 : Arv Z T253.heap b k (.object "java/lang/Object") (10 : Int32) [(.ref x0), .null, .null, .null, .null, .null, .null, .null, .null, .null] .null := V_b.keep K253 nin0
  have f254_7 : Exa Z T253.heap b "[Ljava/lang/Object;" := E_b.keep K253
  have f254_8 : Exa Z T253.heap x0 "com/example/lithe_checker/lithechecker/c/CType$Member" := E_x0.keep K253
  have sz_b253 : h0.size ≤ b253 := Nat.le_trans Kp252.1 ge253
  have nq253 : a1 ≠ b253 := Nat.ne_of_lt (Nat.lt_of_lt_of_le E_s.lt ge253)
  obtain ⟨T255, h255, X255, e255, W255, st255⟩ := putF X253 hx hZ hown (host := "") (Or.inl (own_g hw 24)) Via.refl rfl f254_2 f254_1 (Or.inl (own_g hw 25)) (own_g hw 2) (ty := (.object "java/util/List")) (by decide) rfl rfl (g := (mkF m 5 #[Rv a1, Rv a2] [(.ref b253), (.ref a1)])) rfl rfl (hb hby d8_5)
  have Fw255 : Fld Z h255 a1 "com/example/lithe_checker/lithechecker/c/CType$StructType" "members" "Ljava/util/List;" (.ref b253) := f254_2.same W255
  have Kp255 : Keep h0 h255 [a1] := Kp253.wr W255 (Or.inl (List.mem_of_getElem? (i := 0) rfl))
  have Zs255 : n0 ≤ h255.size := Nat.le_trans Zs253 (Keep.of_wr W255).1
  have N255 := Fr.snoc X255 N253 g_1
  have f256_0 : Old Z n0 h255 := f254_0.wr W255 g_1
  have f256_1 : Exa Z h255 a1 "com/example/lithe_checker/lithechecker/c/CType$StructType" := f254_1.wr W255
  have f256_3 : Exa Z h255 a2 "java/util/ArrayList" := f254_3.wr W255
  have f256_4 : Fld Z h255 a2 "java/util/ArrayList" "size" "I" (.int (1 : Int32)) := f254_4.other W255 (Or.inl (Ne.symm ne12))
  have f256_5 : Fld Z h255 a2 "java/util/ArrayList" "elementData" "[Ljava/lang/Object;" (.ref b) := f254_5.other W255 (Or.inl (Ne.symm ne12))
  have f256_7 : Exa Z h255 b "[Ljava/lang/Object;" := f254_7.wr W255
  have f256_8 : Exa Z h255 x0 "com/example/lithe_checker/lithechecker/c/CType$Member" := f254_8.wr W255
  have f256_9 : Exa Z h255 b253 "java/util/ImmutableCollections$List12" := E253.wr W255
  have f256_10 : Fld Z h255 b253 "java/util/ImmutableCollections$List12" "e1" "Ljava/lang/Object;" (.ref em) := G253.other W255 (Or.inl (Ne.symm nq253))
  refine own_by (fun _ k => XS.aloadN X0.here hx rfl (hb hby d8_0) rfl rfl (XS.aloadN X0.here hx rfl (hb hby d8_1) rfl rfl (st253 _ (st255 _ k)))) ?_
  exact own_retV X255 hx hlk hret (hb hby d8_8) (by rw [e255]; exact ⟨_, rfl, N255, Kp255, Fw255, f256_9, f256_10⟩) (by decide) (by decide)
def own_QCo2 (Z : State) (a1 : Addr) (x0 x1 : Addr) (h0 : Heap) (n0 : Nat) (v : Option Value) (h : Heap) (L : List Loc) : Prop := ∃ q : Addr, v = none ∧ Fr n0 L ∧ Keep h0 h [a1] ∧ Fld Z h a1 "com/example/lithe_checker/lithechecker/c/CType$StructType" "members" "Ljava/util/List;" (.ref q) ∧ Exa Z h q "java/util/ImmutableCollections$List12" ∧ Fld Z h q "java/util/ImmutableCollections$List12" "e1" "Ljava/lang/Object;" (.ref x1)
set_option maxRecDepth 65536 in
set_option maxHeartbeats 40000000 in
theorem rmCo2 (l : Launch) (Z : State) (a0 : Array Value) (hw : own_W a0 Z) (ws : List Jvm.Cond) (cs : Int32) (da el ea em ci mm : Addr) (kd ke : ClassId) (a1 a2 : Addr) (b : Addr) (k : ClassId) (x0 x1 : Addr) (h0 : Heap) (n0 : Nat) (Z0 : n0 ≤ h0.size) (V_env : own_Env Z cs da el ea em ci mm kd ke) (Od : Old Z n0 h0) (E_s : Exa Z h0 a1 "com/example/lithe_checker/lithechecker/c/CType$StructType") (F_m : Fld Z h0 a1 "com/example/lithe_checker/lithechecker/c/CType$StructType" "members" "Ljava/util/List;" .null) (g_1 : n0 ≤ a1) (E_a2 : Exa Z h0 a2 "java/util/ArrayList") (F_e : Fld Z h0 a2 "java/util/ArrayList" "elementData" "[Ljava/lang/Object;" (.ref b)) (F_s : Fld Z h0 a2 "java/util/ArrayList" "size" "I" (.int (2 : Int32))) (V_b : Arv Z h0 b k (.object "java/lang/Object") (10 : Int32) [(.ref x0), (.ref x1), .null, .null, .null, .null, .null, .null, .null, .null] .null) (E_b : Exa Z h0 b "[Ljava/lang/Object;") (E_x0 : Exa Z h0 x0 "com/example/lithe_checker/lithechecker/c/CType$Member") (E_x1 : Exa Z h0 x1 "com/example/lithe_checker/lithechecker/c/CType$Member") (ne12 : a1 ≠ a2) : own_Met l Z mn32 prog_11_method_2_code 2 none ws (own_R 8 2 4 123) #[(.ref a1), (.ref a2)] h0 (own_QCo2 Z  a1 x0 x1 h0 n0) := by
  refine own_enter n0 (plainFor_of_name own_pn283) (fun m => ef_RR_2 m a1 a2 ) (fun p e s m below meth c s₁ hx hby hlk hml hret hown hnm hZ X0 e0 N0 => ?_)
  show own_Fin _ _ _ _ _ _ _ s₁ (mkF m 0 #[Rv a1, Rv a2] [])
  have Kp257 : Keep h0 h0 [a1] := Keep.refl h0 _
  obtain ⟨_, _, ⟨T258, L258, k258, n258⟩, -, X258, ⟨Lc258, hQ258, l258, y258, z258⟩, st258⟩ := LawKit.callS X0 hx (y := mn27) hown (own_m hZ hw 55) (own_m hZ hw 56) (own_m hZ hw 57) (own_m hZ hw 58) (by decide) (backOf (W := 1) (rmCP2 l Z a0 hw [] cs da el ea em ci mm kd ke a2 b k x0 x1 h0 n0 Z0 V_env Od E_a2 F_e F_s V_b E_b E_x0 E_x1) hZ (own_g hw 58) (own_g hw 57) (by decide) (by decide)) (g := (mkF m 2 #[Rv a1, Rv a2] [(.ref a2), (.ref a1)])) rfl (by rw [hml]; rfl) (argsL := [(.ref a2)]) (rest := [(.ref a1)]) (lenOf own_pd260 rfl) rfl (own_z rfl) (hb hby d8_2) (fun _ _ => ⟨rfl, e0, (by decide : 0 + 2 ≤ _), (by decide : 0 + 4 ≤ _)⟩)
  dsimp only [Pt.U, Pt.locs, Pt.cells, Pt.slots] at X258 l258 y258 z258 st258 hQ258
  subst l258 y258 z258
  obtain ⟨b258, rfl, Nq258, K258, ge258, E258, G258⟩ := hQ258
  have N258 := Fr.app N0 Nq258
  have Zs258 : n0 ≤ T258.heap.size := Nat.le_trans Z0 K258.1
  have Kp258 : Keep h0 T258.heap [a1] := Kp257.trans K258 all0
  have f259_0 : Old Z n0 T258.heap := Od.keep K258 all0
  have f259_1 : Exa Z T258.heap a1 "com/example/lithe_checker/lithechecker/c/CType$StructType" := E_s.keep K258
  have f259_2 : Fld Z T258.heap a1 "com/example/lithe_checker/lithechecker/c/CType$StructType" "members" "Ljava/util/List;" .null := F_m.keep K258 nin0
  have f259_3 : Exa Z T258.heap a2 "java/util/ArrayList" := E_a2.keep K258
  have f259_4 : Fld Z T258.heap a2 "java/util/ArrayList" "size" "I" (.int (2 : Int32)) := F_s.keep K258 nin0
  have f259_5 : Fld Z T258.heap a2 "java/util/ArrayList" "elementData" "[Ljava/lang/Object;" (.ref b) := F_e.keep K258 nin0
  have f259_6 : Arv Z T258.heap b k (.object "java/lang/Object") (10 : Int32) [(.ref x0), (.ref x1), .null, .null, .null, .null, .null, .null, .null, .null] .null := V_b.keep K258 nin0
  have f259_7 : Exa Z T258.heap b "[Ljava/lang/Object;" := E_b.keep K258
  have f259_8 : Exa Z T258.heap x0 "com/example/lithe_checker/lithechecker/c/CType$Member" := E_x0.keep K258
  have f259_9 : Exa Z T258.heap x1 "com/example/lithe_checker/lithechecker/c/CType$Member" := E_x1.keep K258
  have sz_b258 : h0.size ≤ b258 := Nat.le_trans Kp257.1 ge258
  have nq258 : a1 ≠ b258 := Nat.ne_of_lt (Nat.lt_of_lt_of_le E_s.lt ge258)
  obtain ⟨T260, h260, X260, e260, W260, st260⟩ := putF X258 hx hZ hown (host := "") (Or.inl (own_g hw 24)) Via.refl rfl f259_2 f259_1 (Or.inl (own_g hw 25)) (own_g hw 2) (ty := (.object "java/util/List")) (by decide) rfl rfl (g := (mkF m 5 #[Rv a1, Rv a2] [(.ref b258), (.ref a1)])) rfl rfl (hb hby d8_5)
  have Fw260 : Fld Z h260 a1 "com/example/lithe_checker/lithechecker/c/CType$StructType" "members" "Ljava/util/List;" (.ref b258) := f259_2.same W260
  have Kp260 : Keep h0 h260 [a1] := Kp258.wr W260 (Or.inl (List.mem_of_getElem? (i := 0) rfl))
  have Zs260 : n0 ≤ h260.size := Nat.le_trans Zs258 (Keep.of_wr W260).1
  have N260 := Fr.snoc X260 N258 g_1
  have f261_0 : Old Z n0 h260 := f259_0.wr W260 g_1
  have f261_1 : Exa Z h260 a1 "com/example/lithe_checker/lithechecker/c/CType$StructType" := f259_1.wr W260
  have f261_3 : Exa Z h260 a2 "java/util/ArrayList" := f259_3.wr W260
  have f261_4 : Fld Z h260 a2 "java/util/ArrayList" "size" "I" (.int (2 : Int32)) := f259_4.other W260 (Or.inl (Ne.symm ne12))
  have f261_5 : Fld Z h260 a2 "java/util/ArrayList" "elementData" "[Ljava/lang/Object;" (.ref b) := f259_5.other W260 (Or.inl (Ne.symm ne12))
  have f261_7 : Exa Z h260 b "[Ljava/lang/Object;" := f259_7.wr W260
  have f261_8 : Exa Z h260 x0 "com/example/lithe_checker/lithechecker/c/CType$Member" := f259_8.wr W260
  have f261_9 : Exa Z h260 x1 "com/example/lithe_checker/lithechecker/c/CType$Member" := f259_9.wr W260
  have f261_10 : Exa Z h260 b258 "java/util/ImmutableCollections$List12" := E258.wr W260
  have f261_11 : Fld Z h260 b258 "java/util/ImmutableCollections$List12" "e1" "Ljava/lang/Object;" (.ref x1) := G258.other W260 (Or.inl (Ne.symm nq258))
  refine own_by (fun _ k => XS.aloadN X0.here hx rfl (hb hby d8_0) rfl rfl (XS.aloadN X0.here hx rfl (hb hby d8_1) rfl rfl (st258 _ (st260 _ k)))) ?_
  exact own_retV X260 hx hlk hret (hb hby d8_8) (by rw [e260]; exact ⟨_, rfl, N260, Kp260, Fw260, f261_10, f261_11⟩) (by decide) (by decide)
def own_QCo3 (Z : State) (a1 : Addr) (x0 x1 x2 : Addr) (h0 : Heap) (n0 : Nat) (v : Option Value) (h : Heap) (L : List Loc) : Prop := ∃ (q v1 : Addr) (k1 : ClassId), v = none ∧ Fr n0 L ∧ Keep h0 h [a1] ∧ Fld Z h a1 "com/example/lithe_checker/lithechecker/c/CType$StructType" "members" "Ljava/util/List;" (.ref q) ∧ Exa Z h q "java/util/ImmutableCollections$ListN" ∧ Fld Z h q "java/util/ImmutableCollections$ListN" "elements" "[Ljava/lang/Object;" (.ref v1) ∧ Arv Z h v1 k1 (.object "java/lang/Object") (3 : Int32) [(.ref x0), (.ref x1), (.ref x2)] .null ∧ h0.size ≤ v1
set_option maxRecDepth 65536 in
set_option maxHeartbeats 40000000 in
theorem rmCo3 (l : Launch) (Z : State) (a0 : Array Value) (hw : own_W a0 Z) (ws : List Jvm.Cond) (cs : Int32) (da el ea em ci mm : Addr) (kd ke : ClassId) (a1 a2 : Addr) (b : Addr) (k : ClassId) (x0 x1 x2 : Addr) (h0 : Heap) (n0 : Nat) (Z0 : n0 ≤ h0.size) (V_env : own_Env Z cs da el ea em ci mm kd ke) (Od : Old Z n0 h0) (E_s : Exa Z h0 a1 "com/example/lithe_checker/lithechecker/c/CType$StructType") (F_m : Fld Z h0 a1 "com/example/lithe_checker/lithechecker/c/CType$StructType" "members" "Ljava/util/List;" .null) (g_1 : n0 ≤ a1) (E_a2 : Exa Z h0 a2 "java/util/ArrayList") (F_e : Fld Z h0 a2 "java/util/ArrayList" "elementData" "[Ljava/lang/Object;" (.ref b)) (F_s : Fld Z h0 a2 "java/util/ArrayList" "size" "I" (.int (3 : Int32))) (V_b : Arv Z h0 b k (.object "java/lang/Object") (10 : Int32) [(.ref x0), (.ref x1), (.ref x2), .null, .null, .null, .null, .null, .null, .null] .null) (E_b : Exa Z h0 b "[Ljava/lang/Object;") (E_x0 : Exa Z h0 x0 "com/example/lithe_checker/lithechecker/c/CType$Member") (E_x1 : Exa Z h0 x1 "com/example/lithe_checker/lithechecker/c/CType$Member") (E_x2 : Exa Z h0 x2 "com/example/lithe_checker/lithechecker/c/CType$Member") (ne12 : a1 ≠ a2) : own_Met l Z mn32 prog_11_method_2_code 2 none ws (own_R 9 3 8 134) #[(.ref a1), (.ref a2)] h0 (own_QCo3 Z  a1 x0 x1 x2 h0 n0) := by
  refine own_enter n0 (plainFor_of_name own_pn283) (fun m => ef_RR_2 m a1 a2 ) (fun p e s m below meth c s₁ hx hby hlk hml hret hown hnm hZ X0 e0 N0 => ?_)
  show own_Fin _ _ _ _ _ _ _ s₁ (mkF m 0 #[Rv a1, Rv a2] [])
  have Kp262 : Keep h0 h0 [a1] := Keep.refl h0 _
  obtain ⟨_, _, ⟨T263, L263, k263, n263⟩, -, X263, ⟨Lc263, hQ263, l263, y263, z263⟩, st263⟩ := LawKit.callS X0 hx (y := mn27) hown (own_m hZ hw 55) (own_m hZ hw 56) (own_m hZ hw 57) (own_m hZ hw 58) (by decide) (backOf (W := 1) (rmCP3 l Z a0 hw [] cs da el ea em ci mm kd ke a2 b k x0 x1 x2 h0 n0 Z0 V_env Od E_a2 F_e F_s V_b E_b E_x0 E_x1 E_x2) hZ (own_g hw 58) (own_g hw 57) (by decide) (by decide)) (g := (mkF m 2 #[Rv a1, Rv a2] [(.ref a2), (.ref a1)])) rfl (by rw [hml]; rfl) (argsL := [(.ref a2)]) (rest := [(.ref a1)]) (lenOf own_pd260 rfl) rfl (own_z rfl) (hb hby d8_2) (fun _ _ => ⟨rfl, e0, (by decide : 0 + 3 ≤ _), (by decide : 0 + 8 ≤ _)⟩)
  dsimp only [Pt.U, Pt.locs, Pt.cells, Pt.slots] at X263 l263 y263 z263 st263 hQ263
  subst l263 y263 z263
  obtain ⟨b263, v263, k263, rfl, Nq263, K263, ge263, E263, G263, V263, gv263⟩ := hQ263
  have N263 := Fr.app N0 Nq263
  have Zs263 : n0 ≤ T263.heap.size := Nat.le_trans Z0 K263.1
  have Kp263 : Keep h0 T263.heap [a1] := Kp262.trans K263 all0
  have f264_0 : Old Z n0 T263.heap := Od.keep K263 all0
  have f264_1 : Exa Z T263.heap a1 "com/example/lithe_checker/lithechecker/c/CType$StructType" := E_s.keep K263
  have f264_2 : Fld Z T263.heap a1 "com/example/lithe_checker/lithechecker/c/CType$StructType" "members" "Ljava/util/List;" .null := F_m.keep K263 nin0
  have f264_3 : Exa Z T263.heap a2 "java/util/ArrayList" := E_a2.keep K263
  have f264_4 : Fld Z T263.heap a2 "java/util/ArrayList" "size" "I" (.int (3 : Int32)) := F_s.keep K263 nin0
  have f264_5 : Fld Z T263.heap a2 "java/util/ArrayList" "elementData" "[Ljava/lang/Object;" (.ref b) := F_e.keep K263 nin0
  have f264_6 : Arv Z T263.heap b k (.object "java/lang/Object") (10 : Int32) [(.ref x0), (.ref x1), (.ref x2), .null, .null, .null, .null, .null, .null, .null] .null := V_b.keep K263 nin0
  have f264_7 : Exa Z T263.heap b "[Ljava/lang/Object;" := E_b.keep K263
  have f264_8 : Exa Z T263.heap x0 "com/example/lithe_checker/lithechecker/c/CType$Member" := E_x0.keep K263
  have f264_9 : Exa Z T263.heap x1 "com/example/lithe_checker/lithechecker/c/CType$Member" := E_x1.keep K263
  have f264_10 : Exa Z T263.heap x2 "com/example/lithe_checker/lithechecker/c/CType$Member" := E_x2.keep K263
  have sz_v263 : h0.size ≤ v263 := Nat.le_trans Kp262.1 gv263
  have sz_b263 : h0.size ≤ b263 := Nat.le_trans Kp262.1 ge263
  have nq263 : a1 ≠ b263 := Nat.ne_of_lt (Nat.lt_of_lt_of_le E_s.lt ge263)
  have nv263 : a1 ≠ v263 := Nat.ne_of_lt (Nat.lt_of_lt_of_le E_s.lt gv263)
  obtain ⟨T265, h265, X265, e265, W265, st265⟩ := putF X263 hx hZ hown (host := "") (Or.inl (own_g hw 24)) Via.refl rfl f264_2 f264_1 (Or.inl (own_g hw 25)) (own_g hw 2) (ty := (.object "java/util/List")) (by decide) rfl rfl (g := (mkF m 5 #[Rv a1, Rv a2] [(.ref b263), (.ref a1)])) rfl rfl (hb hby d8_5)
  have Fw265 : Fld Z h265 a1 "com/example/lithe_checker/lithechecker/c/CType$StructType" "members" "Ljava/util/List;" (.ref b263) := f264_2.same W265
  have Kp265 : Keep h0 h265 [a1] := Kp263.wr W265 (Or.inl (List.mem_of_getElem? (i := 0) rfl))
  have Zs265 : n0 ≤ h265.size := Nat.le_trans Zs263 (Keep.of_wr W265).1
  have N265 := Fr.snoc X265 N263 g_1
  have f266_0 : Old Z n0 h265 := f264_0.wr W265 g_1
  have f266_1 : Exa Z h265 a1 "com/example/lithe_checker/lithechecker/c/CType$StructType" := f264_1.wr W265
  have f266_3 : Exa Z h265 a2 "java/util/ArrayList" := f264_3.wr W265
  have f266_4 : Fld Z h265 a2 "java/util/ArrayList" "size" "I" (.int (3 : Int32)) := f264_4.other W265 (Or.inl (Ne.symm ne12))
  have f266_5 : Fld Z h265 a2 "java/util/ArrayList" "elementData" "[Ljava/lang/Object;" (.ref b) := f264_5.other W265 (Or.inl (Ne.symm ne12))
  have f266_7 : Exa Z h265 b "[Ljava/lang/Object;" := f264_7.wr W265
  have f266_8 : Exa Z h265 x0 "com/example/lithe_checker/lithechecker/c/CType$Member" := f264_8.wr W265
  have f266_9 : Exa Z h265 x1 "com/example/lithe_checker/lithechecker/c/CType$Member" := f264_9.wr W265
  have f266_10 : Exa Z h265 x2 "com/example/lithe_checker/lithechecker/c/CType$Member" := f264_10.wr W265
  have f266_11 : Exa Z h265 b263 "java/util/ImmutableCollections$ListN" := E263.wr W265
  have f266_12 : Fld Z h265 b263 "java/util/ImmutableCollections$ListN" "elements" "[Ljava/lang/Object;" (.ref v263) := G263.other W265 (Or.inl (Ne.symm nq263))
  have f266_13 : Arv Z h265 v263 k263 (.object "java/lang/Object") (3 : Int32) [(.ref x0), (.ref x1), (.ref x2)] .null := V263.other W265 (Ne.symm nv263)
  refine own_by (fun _ k => XS.aloadN X0.here hx rfl (hb hby d8_0) rfl rfl (XS.aloadN X0.here hx rfl (hb hby d8_1) rfl rfl (st263 _ (st265 _ k)))) ?_
  exact own_retV X265 hx hlk hret (hb hby d8_8) (by rw [e265]; exact ⟨_, _, _, rfl, N265, Kp265, Fw265, f266_11, f266_12, f266_13, sz_v263⟩) (by decide) (by decide)
theorem own_pn312 : plainName "java/lang/StringUTF16" = true := by first | (simp [plainName, overriddenIn]; done) | decide +kernel
theorem d38_0 : decode jdk_52_method_21_code 0 = .ok (.iconst 0, 1) := by decide +kernel
theorem d38_1 : decode jdk_52_method_21_code 1 = .ok (.istore 5, 2) := by decide +kernel
theorem d38_3 : decode jdk_52_method_21_code 3 = .ok (.iload 5, 2) := by decide +kernel
theorem d38_5 : decode jdk_52_method_21_code 5 = .ok (.iload 4, 2) := by decide +kernel
theorem d38_7 : decode jdk_52_method_21_code 7 = .ok (.if_icmp .ge 37, 3) := by decide +kernel
theorem d38_10 : decode jdk_52_method_21_code 10 = .ok (.aload_n 0, 1) := by decide +kernel
theorem d38_11 : decode jdk_52_method_21_code 11 = .ok (.iload_n 1, 1) := by decide +kernel
theorem d38_12 : decode jdk_52_method_21_code 12 = .ok (.caload, 1) := by decide +kernel
theorem d38_13 : decode jdk_52_method_21_code 13 = .ok (.istore 6, 2) := by decide +kernel
theorem d38_15 : decode jdk_52_method_21_code 15 = .ok (.iload 6, 2) := by decide +kernel
theorem d38_17 : decode jdk_52_method_21_code 17 = .ok (.sipush 255, 3) := by decide +kernel
theorem d38_20 : decode jdk_52_method_21_code 20 = .ok (.if_icmp .le 6, 3) := by decide +kernel
theorem d38_26 : decode jdk_52_method_21_code 26 = .ok (.aload_n 2, 1) := by decide +kernel
theorem d38_27 : decode jdk_52_method_21_code 27 = .ok (.iload_n 3, 1) := by decide +kernel
theorem d38_28 : decode jdk_52_method_21_code 28 = .ok (.iload 6, 2) := by decide +kernel
theorem d38_30 : decode jdk_52_method_21_code 30 = .ok (.i2b, 1) := by decide +kernel
theorem d38_31 : decode jdk_52_method_21_code 31 = .ok (.bastore, 1) := by decide +kernel
theorem d38_32 : decode jdk_52_method_21_code 32 = .ok (.iinc 1 1, 3) := by decide +kernel
theorem d38_35 : decode jdk_52_method_21_code 35 = .ok (.iinc 3 1, 3) := by decide +kernel
theorem d38_38 : decode jdk_52_method_21_code 38 = .ok (.iinc 5 1, 3) := by decide +kernel
theorem d38_41 : decode jdk_52_method_21_code 41 = .ok (.goto (-38), 3) := by decide +kernel
theorem d38_44 : decode jdk_52_method_21_code 44 = .ok (.iload 4, 2) := by decide +kernel
theorem d38_46 : decode jdk_52_method_21_code 46 = .ok (.ireturn, 1) := by decide +kernel
theorem ef_RIRII_7 (m : MethodId) (x0 : Addr) (x1 : Int32) (x2 : Addr) (x3 : Int32) (x4 : Int32) : entryFrame m #[(.ref x0), (.int x1), (.ref x2), (.int x3), (.int x4)] 7 = mkF m 0 #[.val (.ref x0), .val (.int x1), .val (.ref x2), .val (.int x3), .val (.int x4), .unset, .unset] [] := by first | (simp [entryFrame, mkF, argsToLocals, Value.category]; done) | rfl
def own_Qci2 (Z : State) (a3 : Addr) (kb : ClassId) (x0 x1 : Int32) (h0 : Heap) (n0 : Nat) (v : Option Value) (h : Heap) (L : List Loc) : Prop := v = some (.int (2 : Int32)) ∧ Fr n0 L ∧ Keep h0 h [a3] ∧ Arv Z h a3 kb .byte (2 : Int32) [(.int x0.toInt8.toInt32), (.int x1.toInt8.toInt32)] (.int (0 : Int32))
set_option maxRecDepth 65536 in
set_option maxHeartbeats 40000000 in
theorem rmCI2 (l : Launch) (Z : State) (a0 : Array Value) (hw : own_W a0 Z) (ws : List Jvm.Cond) (a1 a3 : Addr) (kc kb : ClassId) (x0 x1 : Int32) (h0 : Heap) (n0 : Nat) (Z0 : n0 ≤ h0.size) (V1 : Arv Z h0 a1 kc .char (2 : Int32) [(.int x0), (.int x1)] (.int (0 : Int32))) (V3 : Arv Z h0 a3 kb .byte (2 : Int32) [(.int (0 : Int32)), (.int (0 : Int32))] (.int (0 : Int32))) (ne13 : a1 ≠ a3) (g_3 : n0 ≤ a3) (hx0 : ¬ (255 : Int32) < x0) (hx1 : ¬ (255 : Int32) < x1) : own_Met l Z mn33 jdk_52_method_21_code 7 (some .int) ws (own_R 0 0 0 0) #[(.ref a1), (.int (0 : Int32)), (.ref a3), (.int (0 : Int32)), (.int (2 : Int32))] h0 (own_Qci2 Z a3 kb x0 x1 h0 n0) := by
  refine own_enter n0 (plainFor_of_name own_pn312) (fun m => ef_RIRII_7 m a1 (0 : Int32) a3 (0 : Int32) (2 : Int32) ) (fun p e s m below meth c s₁ hx hby hlk hml hret hown hnm hZ X0 e0 N0 => ?_)
  show own_Fin _ _ _ _ _ _ _ s₁ (mkF m 0 #[Rv a1, Iv 0, Rv a3, Iv 0, Iv 2, Uv, Uv] [])
  have Kp267 : Keep h0 h0 [a3] := Keep.refl h0 _
  obtain ⟨cl268, Ar268, -, S268, M268, H268, -⟩ := id V1
  have hin268 : ¬ ((0 : Int32) < 0 ∨ cl268.slots.size ≤ ((0 : Int32)).toNatClampNeg) := inb_of S268 ⟨by decide, by decide⟩
  have hat268 : cl268.slots[((0 : Int32)).toNatClampNeg]? = some (.int x0) := Has.at H268 hin268 rfl
  refine own_by (fun _ k => XS.iconst X0.here hx rfl (hb hby d38_0) (XS.istore X0.here hx rfl (hb hby d38_1) rfl (l' := #[Rv a1, Iv 0, Rv a3, Iv 0, Iv 2, Iv 0, Uv]) rfl (XS.iload X0.here hx rfl (hb hby d38_3) rfl (XS.iload X0.here hx rfl (hb hby d38_5) rfl (XS.icmpNo X0.here hx rfl (hb hby d38_7) rfl (tlt (by decide : (0 : Int32) < (2 : Int32))).2.1 (XS.aloadN X0.here hx rfl (hb hby d38_10) rfl rfl (XS.iloadN X0.here hx rfl (hb hby d38_11) rfl (X0.caload hx (j := (0 : Int32)) (v := (.int x0)) (by rw [e0]; exact Ar268.1) (State.isArrayOf_alike hZ.alike Ar268.2.1) Ar268.2.2 hin268 hat268 (g := (mkF m 12 #[Rv a1, Iv 0, Rv a3, Iv 0, Iv 2, Iv 0, Uv] [(.int 0), (.ref a1)])) rfl rfl (hb hby d38_12) _ (XS.istore X0.here hx rfl (hb hby d38_13) rfl (l' := #[Rv a1, Iv 0, Rv a3, Iv 0, Iv 2, Iv 0, Iv x0]) rfl (XS.iload X0.here hx rfl (hb hby d38_15) rfl k)))))))))) ?_
  show own_Fin _ _ _ _ _ _ _ s₁ (mkF m 17 #[Rv a1, Iv 0, Rv a3, Iv 0, Iv 2, Iv 0, Iv x0] [(.int x0)])
  obtain ⟨cl269, Ar269, q269, S269, M269, H269, G269⟩ := id V3
  have hin269 : ¬ ((0 : Int32) < 0 ∨ cl269.slots.size ≤ ((0 : Int32)).toNatClampNeg) := inb_of S269 ⟨by decide, by decide⟩
  obtain ⟨T269, h269, X269, e269, W269, st269⟩ := stB X0 hx hZ e0 Ar269 (j := (0 : Int32)) hin269 (g := (mkF m 31 #[Rv a1, Iv 0, Rv a3, Iv 0, Iv 2, Iv 0, Iv x0] [(.int (x0.toInt8.toInt32)), (.int 0), (.ref a3)])) rfl rfl (hb hby d38_31)
  have V269 : Arv Z h269 a3 kb .byte (2 : Int32) [(.int (x0.toInt8.toInt32).toInt8.toInt32), (.int (0 : Int32))] (.int (0 : Int32)) := Arv.set Ar269 q269 S269 M269 H269 G269 (fits_nar_byte _) W269 0 rfl (Nat.le_of_ble_eq_true rfl)
  have Kp269 : Keep h0 h269 [a3] := Kp267.wr W269 (Or.inl (List.mem_of_getElem? (i := 0) rfl))
  have Zs269 : n0 ≤ h269.size := Nat.le_trans Z0 (Keep.of_wr W269).1
  have N269 := Fr.snoc X269 N0 g_3
  have f270_0 : Arv Z h269 a1 kc .char (2 : Int32) [(.int x0), (.int x1)] (.int (0 : Int32)) := V1.other W269 ne13
  refine own_by (fun _ k => XS.sipush X0.here hx rfl (hb hby d38_17) (XS.icmpYes X0.here hx rfl (pc0 := 20) (pc' := 26) rfl (hb hby d38_20) rfl (flt hx0).2.2.2 (by decide) (by decide) (XS.aloadN X0.here hx rfl (hb hby d38_26) rfl rfl (XS.iloadN X0.here hx rfl (hb hby d38_27) rfl (XS.iload X0.here hx rfl (hb hby d38_28) rfl (XS.i2b X0.here hx rfl (hb hby d38_30) rfl (st269 _ (XS.iinc X269.here hx rfl (hb hby d38_32) rfl (l' := #[Rv a1, Iv ((0 : Int32) + (1 : Int32)), Rv a3, Iv 0, Iv 2, Iv 0, Iv x0]) rfl k)))))))) ?_
  show own_Fin _ _ _ _ _ _ _ T269 (mkF m 35 #[Rv a1, Iv ((0 : Int32) + (1 : Int32)), Rv a3, Iv 0, Iv 2, Iv 0, Iv x0] [])
  rw [(by decide : ((0 : Int32) + (1 : Int32)) = (1 : Int32))]
  show own_Fin _ _ _ _ _ _ _ T269 (mkF m 35 #[Rv a1, Iv 1, Rv a3, Iv 0, Iv 2, Iv 0, Iv x0] [])
  refine own_by (fun _ k => XS.iinc X269.here hx rfl (hb hby d38_35) rfl (l' := #[Rv a1, Iv 1, Rv a3, Iv ((0 : Int32) + (1 : Int32)), Iv 2, Iv 0, Iv x0]) rfl k) ?_
  show own_Fin _ _ _ _ _ _ _ T269 (mkF m 38 #[Rv a1, Iv 1, Rv a3, Iv ((0 : Int32) + (1 : Int32)), Iv 2, Iv 0, Iv x0] [])
  rw [(by decide : ((0 : Int32) + (1 : Int32)) = (1 : Int32))]
  show own_Fin _ _ _ _ _ _ _ T269 (mkF m 38 #[Rv a1, Iv 1, Rv a3, Iv 1, Iv 2, Iv 0, Iv x0] [])
  refine own_by (fun _ k => XS.iinc X269.here hx rfl (hb hby d38_38) rfl (l' := #[Rv a1, Iv 1, Rv a3, Iv 1, Iv 2, Iv ((0 : Int32) + (1 : Int32)), Iv x0]) rfl k) ?_
  show own_Fin _ _ _ _ _ _ _ T269 (mkF m 41 #[Rv a1, Iv 1, Rv a3, Iv 1, Iv 2, Iv ((0 : Int32) + (1 : Int32)), Iv x0] [])
  rw [(by decide : ((0 : Int32) + (1 : Int32)) = (1 : Int32))]
  show own_Fin _ _ _ _ _ _ _ T269 (mkF m 41 #[Rv a1, Iv 1, Rv a3, Iv 1, Iv 2, Iv 1, Iv x0] [])
  obtain ⟨cl271, Ar271, -, S271, M271, H271, -⟩ := id f270_0
  have hin271 : ¬ ((1 : Int32) < 0 ∨ cl271.slots.size ≤ ((1 : Int32)).toNatClampNeg) := inb_of S271 ⟨by decide, by decide⟩
  have hat271 : cl271.slots[((1 : Int32)).toNatClampNeg]? = some (.int x1) := Has.at H271 hin271 rfl
  refine own_by (fun _ k => XS.goto X269.here hx rfl (pc0 := 41) (pc' := 3) rfl (hb hby d38_41) (by decide) (by decide) (XS.iload X269.here hx rfl (hb hby d38_3) rfl (XS.iload X269.here hx rfl (hb hby d38_5) rfl (XS.icmpNo X269.here hx rfl (hb hby d38_7) rfl (tlt (by decide : (1 : Int32) < (2 : Int32))).2.1 (XS.aloadN X269.here hx rfl (hb hby d38_10) rfl rfl (XS.iloadN X269.here hx rfl (hb hby d38_11) rfl (X269.caload hx (j := (1 : Int32)) (v := (.int x1)) (by rw [e269]; exact Ar271.1) (State.isArrayOf_alike hZ.alike Ar271.2.1) Ar271.2.2 hin271 hat271 (g := (mkF m 12 #[Rv a1, Iv 1, Rv a3, Iv 1, Iv 2, Iv 1, Iv x0] [(.int 1), (.ref a1)])) rfl rfl (hb hby d38_12) _ (XS.istore X269.here hx rfl (hb hby d38_13) rfl (l' := #[Rv a1, Iv 1, Rv a3, Iv 1, Iv 2, Iv 1, Iv x1]) rfl (XS.iload X269.here hx rfl (hb hby d38_15) rfl (XS.sipush X269.here hx rfl (hb hby d38_17) k)))))))))) ?_
  show own_Fin _ _ _ _ _ _ _ T269 (mkF m 20 #[Rv a1, Iv 1, Rv a3, Iv 1, Iv 2, Iv 1, Iv x1] [(.int 255), (.int x1)])
  obtain ⟨cl272, Ar272, q272, S272, M272, H272, G272⟩ := id V269
  have hin272 : ¬ ((1 : Int32) < 0 ∨ cl272.slots.size ≤ ((1 : Int32)).toNatClampNeg) := inb_of S272 ⟨by decide, by decide⟩
  obtain ⟨T272, h272, X272, e272, W272, st272⟩ := stB X269 hx hZ e269 Ar272 (j := (1 : Int32)) hin272 (g := (mkF m 31 #[Rv a1, Iv 1, Rv a3, Iv 1, Iv 2, Iv 1, Iv x1] [(.int (x1.toInt8.toInt32)), (.int 1), (.ref a3)])) rfl rfl (hb hby d38_31)
  have V272 : Arv Z h272 a3 kb .byte (2 : Int32) [(.int (x0.toInt8.toInt32).toInt8.toInt32), (.int (x1.toInt8.toInt32).toInt8.toInt32)] (.int (0 : Int32)) := Arv.set Ar272 q272 S272 M272 H272 G272 (fits_nar_byte _) W272 1 rfl (Nat.le_of_ble_eq_true rfl)
  have Kp272 : Keep h0 h272 [a3] := Kp269.wr W272 (Or.inl (List.mem_of_getElem? (i := 0) rfl))
  have Zs272 : n0 ≤ h272.size := Nat.le_trans Zs269 (Keep.of_wr W272).1
  have N272 := Fr.snoc X272 N269 g_3
  have f273_0 : Arv Z h272 a1 kc .char (2 : Int32) [(.int x0), (.int x1)] (.int (0 : Int32)) := f270_0.other W272 ne13
  refine own_by (fun _ k => XS.icmpYes X269.here hx rfl (pc0 := 20) (pc' := 26) rfl (hb hby d38_20) rfl (flt hx1).2.2.2 (by decide) (by decide) (XS.aloadN X269.here hx rfl (hb hby d38_26) rfl rfl (XS.iloadN X269.here hx rfl (hb hby d38_27) rfl (XS.iload X269.here hx rfl (hb hby d38_28) rfl (XS.i2b X269.here hx rfl (hb hby d38_30) rfl (st272 _ (XS.iinc X272.here hx rfl (hb hby d38_32) rfl (l' := #[Rv a1, Iv ((1 : Int32) + (1 : Int32)), Rv a3, Iv 1, Iv 2, Iv 1, Iv x1]) rfl k))))))) ?_
  show own_Fin _ _ _ _ _ _ _ T272 (mkF m 35 #[Rv a1, Iv ((1 : Int32) + (1 : Int32)), Rv a3, Iv 1, Iv 2, Iv 1, Iv x1] [])
  rw [(by decide : ((1 : Int32) + (1 : Int32)) = (2 : Int32))]
  show own_Fin _ _ _ _ _ _ _ T272 (mkF m 35 #[Rv a1, Iv 2, Rv a3, Iv 1, Iv 2, Iv 1, Iv x1] [])
  refine own_by (fun _ k => XS.iinc X272.here hx rfl (hb hby d38_35) rfl (l' := #[Rv a1, Iv 2, Rv a3, Iv ((1 : Int32) + (1 : Int32)), Iv 2, Iv 1, Iv x1]) rfl k) ?_
  show own_Fin _ _ _ _ _ _ _ T272 (mkF m 38 #[Rv a1, Iv 2, Rv a3, Iv ((1 : Int32) + (1 : Int32)), Iv 2, Iv 1, Iv x1] [])
  rw [(by decide : ((1 : Int32) + (1 : Int32)) = (2 : Int32))]
  show own_Fin _ _ _ _ _ _ _ T272 (mkF m 38 #[Rv a1, Iv 2, Rv a3, Iv 2, Iv 2, Iv 1, Iv x1] [])
  refine own_by (fun _ k => XS.iinc X272.here hx rfl (hb hby d38_38) rfl (l' := #[Rv a1, Iv 2, Rv a3, Iv 2, Iv 2, Iv ((1 : Int32) + (1 : Int32)), Iv x1]) rfl k) ?_
  show own_Fin _ _ _ _ _ _ _ T272 (mkF m 41 #[Rv a1, Iv 2, Rv a3, Iv 2, Iv 2, Iv ((1 : Int32) + (1 : Int32)), Iv x1] [])
  rw [(by decide : ((1 : Int32) + (1 : Int32)) = (2 : Int32))]
  show own_Fin _ _ _ _ _ _ _ T272 (mkF m 41 #[Rv a1, Iv 2, Rv a3, Iv 2, Iv 2, Iv 2, Iv x1] [])
  refine own_by (fun _ k => XS.goto X272.here hx rfl (pc0 := 41) (pc' := 3) rfl (hb hby d38_41) (by decide) (by decide) (XS.iload X272.here hx rfl (hb hby d38_3) rfl (XS.iload X272.here hx rfl (hb hby d38_5) rfl (XS.icmpYes X272.here hx rfl (pc0 := 7) (pc' := 44) rfl (hb hby d38_7) rfl (flt (by decide : ¬ ((2 : Int32) < (2 : Int32)))).2.1 (by decide) (by decide) (XS.iload X272.here hx rfl (hb hby d38_44) rfl k))))) ?_
  exact own_retI X272 hx hlk hret (hb hby d38_46) (by rw [e272]; exact ⟨rfl, N272, Kp272, (by have q := V272; simp only [own_b8] at q; exact q)⟩) (by decide) (by decide)
theorem d37_0 : decode jdk_52_method_16_code 0 = .ok (.iload_n 2, 1) := by decide +kernel
theorem d37_1 : decode jdk_52_method_16_code 1 = .ok (.newarray .byte, 2) := by decide +kernel
theorem d37_3 : decode jdk_52_method_16_code 3 = .ok (.astore_n 3, 1) := by decide +kernel
theorem d37_4 : decode jdk_52_method_16_code 4 = .ok (.aload_n 0, 1) := by decide +kernel
theorem d37_5 : decode jdk_52_method_16_code 5 = .ok (.iload_n 1, 1) := by decide +kernel
theorem d37_6 : decode jdk_52_method_16_code 6 = .ok (.aload_n 3, 1) := by decide +kernel
theorem d37_7 : decode jdk_52_method_16_code 7 = .ok (.iconst 0, 1) := by decide +kernel
theorem d37_8 : decode jdk_52_method_16_code 8 = .ok (.iload_n 2, 1) := by decide +kernel
theorem d37_9 : decode jdk_52_method_16_code 9 = .ok (.invokestatic 115, 3) := by decide +kernel
theorem own_pd346 : parseMethodDescriptor "([CI[BII)I" = some ⟨[(.array .char), .int, (.array .byte), .int, .int], some .int⟩ := by decide +kernel
theorem d37_12 : decode jdk_52_method_16_code 12 = .ok (.istore 4, 2) := by decide +kernel
theorem d37_14 : decode jdk_52_method_16_code 14 = .ok (.iload 4, 2) := by decide +kernel
theorem d37_16 : decode jdk_52_method_16_code 16 = .ok (.iload_n 2, 1) := by decide +kernel
theorem d37_17 : decode jdk_52_method_16_code 17 = .ok (.if_icmp .eq 40, 3) := by decide +kernel
theorem d37_57 : decode jdk_52_method_16_code 57 = .ok (.aload_n 3, 1) := by decide +kernel
theorem d37_58 : decode jdk_52_method_16_code 58 = .ok (.areturn, 1) := by decide +kernel
theorem ef_RII_6 (m : MethodId) (x0 : Addr) (x1 : Int32) (x2 : Int32) : entryFrame m #[(.ref x0), (.int x1), (.int x2)] 6 = mkF m 0 #[.val (.ref x0), .val (.int x1), .val (.int x2), .unset, .unset, .unset] [] := by first | (simp [entryFrame, mkF, argsToLocals, Value.category]; done) | rfl
def own_Qco2 (Z : State) (x0 x1 : Int32) (h0 : Heap) (n0 : Nat) (v : Option Value) (h : Heap) (L : List Loc) : Prop := ∃ (a : Addr) (k : ClassId), v = some (.ref a) ∧ Fr n0 L ∧ Keep h0 h [] ∧ h0.size ≤ a ∧ Arv Z h a k .byte (2 : Int32) [(.int x0.toInt8.toInt32), (.int x1.toInt8.toInt32)] (.int (0 : Int32))
set_option maxRecDepth 65536 in
set_option maxHeartbeats 40000000 in
theorem rmCO2 (l : Launch) (Z : State) (a0 : Array Value) (hw : own_W a0 Z) (ws : List Jvm.Cond) (a1 : Addr) (kc : ClassId) (x0 x1 : Int32) (h0 : Heap) (n0 : Nat) (Z0 : n0 ≤ h0.size) (V1 : Arv Z h0 a1 kc .char (2 : Int32) [(.int x0), (.int x1)] (.int (0 : Int32))) (hx0 : ¬ (255 : Int32) < x0) (hx1 : ¬ (255 : Int32) < x1) : own_Met l Z mn34 jdk_52_method_16_code 6 (some (.array .byte)) ws (own_R 1 1 2 20) #[(.ref a1), (.int (0 : Int32)), (.int (2 : Int32))] h0 (own_Qco2 Z x0 x1 h0 n0) := by
  refine own_enter n0 (plainFor_of_name own_pn312) (fun m => ef_RII_6 m a1 (0 : Int32) (2 : Int32) ) (fun p e s m below meth c s₁ hx hby hlk hml hret hown hnm hZ X0 e0 N0 => ?_)
  show own_Fin _ _ _ _ _ _ _ s₁ (mkF m 0 #[Rv a1, Iv 0, Iv 2, Uv, Uv, Uv] [])
  have Kp274 : Keep h0 h0 [] := Keep.refl h0 _
  obtain ⟨T275, h275, k275, X275, e275, E275, A275, st275⟩ := newP X0 hx hZ (own_g hw 118) e0 (g := (mkF m 1 #[Rv a1, Iv 0, Iv 2, Uv, Uv, Uv] [(.int 2)])) rfl (hb hby d37_1) rfl (by decide) (cap := 2) (by decide) (by decide) (by decide) (by decide)
  obtain ⟨b275, g275⟩ : ∃ z, z = h0.size := ⟨_, rfl⟩
  rw [← g275] at A275 st275
  have V275 : Arv Z h275 b275 k275 .byte (2 : Int32) [(.int (0 : Int32)), (.int (0 : Int32))] (.int (0 : Int32)) := (Arv.new A275 (by decide)).pad (pad_rep [] (.int (0 : Int32)) 2)
  have ne275_a1 : a1 ≠ b275 := Nat.ne_of_lt (Nat.lt_of_lt_of_le V1.lt (Nat.le_of_eq g275.symm))
  have gf275 : n0 ≤ b275 := Nat.le_trans Z0 (Nat.le_of_eq g275.symm)
  have Zs275 : n0 ≤ h275.size := Nat.le_trans Z0 E275.1
  have Kp275 : Keep h0 h275 [] := Kp274.ext E275
  have sz_b275 : h0.size ≤ b275 := Nat.le_trans Kp274.1 (Nat.le_of_eq g275.symm)
  have f276_0 : Arv Z h275 a1 kc .char (2 : Int32) [(.int x0), (.int x1)] (.int (0 : Int32)) := V1.ext E275
  obtain ⟨_, _, ⟨T277, L277, k277, n277⟩, -, X277, ⟨Lc277, hQ277, l277, y277, z277⟩, st277⟩ := LawKit.callS X275 hx (y := mn33) hown (own_m hZ hw 247) (own_m hZ hw 248) (own_m hZ hw 245) (own_m hZ hw 249) (by decide) (backOf (W := 0) (rmCI2 l Z a0 hw [] a1 b275 kc k275 x0 x1 h275 n0 Zs275 f276_0 V275 ne275_a1 gf275 hx0 hx1) hZ (own_g hw 249) (own_g hw 245) (by decide) (by decide)) (g := (mkF m 9 #[Rv a1, Iv 0, Iv 2, Rv b275, Uv, Uv] [(.int 2), (.int 0), (.ref b275), (.int 0), (.ref a1)])) rfl (by rw [hml]; rfl) (argsL := [(.ref a1), (.int (0 : Int32)), (.ref b275), (.int (0 : Int32)), (.int (2 : Int32))]) (rest := []) (lenOf own_pd346 rfl) rfl (own_z rfl) (hb hby d37_9) (fun _ _ => ⟨rfl, e275, (by decide : 1 + 0 ≤ _), (by decide : 2 + 0 ≤ _)⟩)
  dsimp only [Pt.U, Pt.locs, Pt.cells, Pt.slots] at X277 l277 y277 z277 st277 hQ277
  subst l277 y277 z277
  obtain ⟨rfl, Nq277, K277, Vr277⟩ := hQ277
  have N277 := Fr.app N0 Nq277
  have Zs277 : n0 ≤ T277.heap.size := Nat.le_trans Zs275 K277.1
  have Kp277 : Keep h0 T277.heap [] := Kp275.trans K277 (allS (Or.inr sz_b275) all0)
  have f278_0 : Arv Z T277.heap a1 kc .char (2 : Int32) [(.int x0), (.int x1)] (.int (0 : Int32)) := f276_0.keep K277 (ninS ne275_a1 nin0)
  refine own_by (fun _ k => XS.iloadN X0.here hx rfl (hb hby d37_0) rfl (st275 _ (XS.astoreN X275.here hx rfl (hb hby d37_3) rfl rfl (l' := #[Rv a1, Iv 0, Iv 2, Rv b275, Uv, Uv]) rfl (XS.aloadN X275.here hx rfl (hb hby d37_4) rfl rfl (XS.iloadN X275.here hx rfl (hb hby d37_5) rfl (XS.aloadN X275.here hx rfl (hb hby d37_6) rfl rfl (XS.iconst X275.here hx rfl (hb hby d37_7) (XS.iloadN X275.here hx rfl (hb hby d37_8) rfl (st277 _ (XS.istore X277.here hx rfl (hb hby d37_12) rfl (l' := #[Rv a1, Iv 0, Iv 2, Rv b275, Iv 2, Uv]) rfl k)))))))))) ?_
  show own_Fin _ _ _ _ _ _ _ T277 (mkF m 14 #[Rv a1, Iv 0, Iv 2, Rv b275, Iv 2, Uv] [])
  refine own_by (fun _ k => XS.iload X277.here hx rfl (hb hby d37_14) rfl (XS.iloadN X277.here hx rfl (hb hby d37_16) rfl (XS.icmpYes X277.here hx rfl (pc0 := 17) (pc' := 57) rfl (hb hby d37_17) rfl (teq (by decide : (2 : Int32) = (2 : Int32))).1 (by decide) (by decide) (XS.aloadN X277.here hx rfl (hb hby d37_57) rfl rfl k)))) ?_
  exact own_retA X277 hx hlk (t := (.array .byte)) hret rfl rfl rfl (hb hby d37_58) ⟨_, _, rfl, N277, Kp277, sz_b275, Vr277⟩ (by decide) (by decide)
theorem d39_0 : decode jdk_52_method_15_code 0 = .ok (.iload_n 1, 1) := by decide +kernel
theorem d39_1 : decode jdk_52_method_15_code 1 = .ok (.aload_n 0, 1) := by decide +kernel
theorem d39_2 : decode jdk_52_method_15_code 2 = .ok (.arraylength, 1) := by decide +kernel
theorem d39_3 : decode jdk_52_method_15_code 3 = .ok (.isub, 1) := by decide +kernel
theorem d39_4 : decode jdk_52_method_15_code 4 = .ok (.bipush 31, 2) := by decide +kernel
theorem d39_6 : decode jdk_52_method_15_code 6 = .ok (.iushr, 1) := by decide +kernel
theorem d39_7 : decode jdk_52_method_15_code 7 = .ok (.i2b, 1) := by decide +kernel
theorem d39_8 : decode jdk_52_method_15_code 8 = .ok (.ireturn, 1) := by decide +kernel
def own_Qcl2_2 (h0 : Heap) (n0 : Nat) (v : Option Value) (h : Heap) (L : List Loc) : Prop := v = some (.int (0 : Int32)) ∧ Fr n0 L ∧ h = h0
theorem rmCL2_2 (l : Launch) (Z : State) (a0 : Array Value) (hw : own_W a0 Z) (ws : List Jvm.Cond) (a1 : Addr) (k1 : ClassId) (vs : List Value) (h0 : Heap) (n0 : Nat) (Z0 : n0 ≤ h0.size) (V1 : Arv Z h0 a1 k1 .byte (2 : Int32) vs (.int (0 : Int32))) : own_Met l Z mn35 jdk_52_method_15_code 2 (some .byte) ws (own_R 0 0 0 0) #[(.ref a1), (.int (2 : Int32))] h0 (own_Qcl2_2 h0 n0) := by
  refine own_enter n0 (plainFor_of_name own_pn312) (fun m => ef_RI_2 m a1 (2 : Int32) ) (fun p e s m below meth c s₁ hx hby hlk hml hret hown hnm hZ X0 e0 N0 => ?_)
  show own_Fin _ _ _ _ _ _ _ s₁ (mkF m 0 #[Rv a1, Iv 2] [])
  obtain ⟨cl279, Ar279, -, S279, M279, -, -⟩ := id V1
  refine own_by (fun _ k => XS.iloadN X0.here hx rfl (hb hby d39_0) rfl (XS.aloadN X0.here hx rfl (hb hby d39_1) rfl rfl (X0.arraylength hx (by rw [e0]; exact Ar279.1) (State.isArrayOf_alike hZ.alike Ar279.2.1) (g := (mkF m 2 #[Rv a1, Iv 2] [(.ref a1), (.int 2)])) rfl rfl (hb hby d39_2) _ k))) ?_
  rw [len_of S279 M279]
  show own_Fin _ _ _ _ _ _ _ s₁ (mkF m 3 #[Rv a1, Iv 2] [(.int 2), (.int 2)])
  refine own_by (fun _ k => XS.isub X0.here hx rfl (hb hby d39_3) rfl k) ?_
  show own_Fin _ _ _ _ _ _ _ s₁ (mkF m 4 #[Rv a1, Iv 2] [(.int ((2 : Int32) - (2 : Int32)))])
  rw [(by decide : ((2 : Int32) - (2 : Int32)) = (0 : Int32))]
  show own_Fin _ _ _ _ _ _ _ s₁ (mkF m 4 #[Rv a1, Iv 2] [(.int 0)])
  refine own_by (fun _ k => XS.bipush X0.here hx rfl (hb hby d39_4) (XS.iushr X0.here hx rfl (hb hby d39_6) rfl k)) ?_
  show own_Fin _ _ _ _ _ _ _ s₁ (mkF m 7 #[Rv a1, Iv 2] [(.int (((0 : Int32).toUInt32 >>> ((31 : Int32) &&& 31).toUInt32).toInt32))])
  rw [(by decide : (((0 : Int32).toUInt32 >>> ((31 : Int32) &&& 31).toUInt32).toInt32) = (0 : Int32))]
  show own_Fin _ _ _ _ _ _ _ s₁ (mkF m 7 #[Rv a1, Iv 2] [(.int 0)])
  refine own_by (fun _ k => XS.i2b X0.here hx rfl (hb hby d39_7) rfl k) ?_
  show own_Fin _ _ _ _ _ _ _ s₁ (mkF m 8 #[Rv a1, Iv 2] [(.int ((0 : Int32).toInt8.toInt32))])
  rw [(by decide : ((0 : Int32).toInt8.toInt32) = (0 : Int32))]
  show own_Fin _ _ _ _ _ _ _ s₁ (mkF m 8 #[Rv a1, Iv 2] [(.int 0)])
  exact own_retZ X0 hx hlk (t := .byte) hret (by simp) (hb hby d39_8) ⟨rfl, N0, e0⟩ (by decide) (by decide)
theorem own_pn362 : plainName "java/lang/String" = true := by first | (simp [plainName, overriddenIn]; done) | decide +kernel
theorem d36_0 : decode jdk_42_method_149_code 0 = .ok (.aload_n 0, 1) := by decide +kernel
theorem d36_1 : decode jdk_42_method_149_code 1 = .ok (.invokespecial 1, 3) := by decide +kernel
theorem d36_4 : decode jdk_42_method_149_code 4 = .ok (.iload_n 3, 1) := by decide +kernel
theorem d36_5 : decode jdk_42_method_149_code 5 = .ok (.ifCond .ne 22, 3) := by decide +kernel
theorem d36_27 : decode jdk_42_method_149_code 27 = .ok (.getstatic 38, 3) := by decide +kernel
theorem d36_30 : decode jdk_42_method_149_code 30 = .ok (.ifCond .eq 28, 3) := by decide +kernel
theorem d36_33 : decode jdk_42_method_149_code 33 = .ok (.aload_n 1, 1) := by decide +kernel
theorem d36_34 : decode jdk_42_method_149_code 34 = .ok (.iload_n 2, 1) := by decide +kernel
theorem d36_35 : decode jdk_42_method_149_code 35 = .ok (.iload_n 3, 1) := by decide +kernel
theorem d36_36 : decode jdk_42_method_149_code 36 = .ok (.invokestatic 177, 3) := by decide +kernel
theorem own_pd373 : parseMethodDescriptor "([CII)[B" = some ⟨[(.array .char), .int, .int], some (.array .byte)⟩ := by decide +kernel
theorem d36_39 : decode jdk_42_method_149_code 39 = .ok (.astore 5, 2) := by decide +kernel
theorem d36_41 : decode jdk_42_method_149_code 41 = .ok (.aload_n 0, 1) := by decide +kernel
theorem d36_42 : decode jdk_42_method_149_code 42 = .ok (.aload 5, 2) := by decide +kernel
theorem d36_44 : decode jdk_42_method_149_code 44 = .ok (.iload_n 3, 1) := by decide +kernel
theorem d36_45 : decode jdk_42_method_149_code 45 = .ok (.invokestatic 47, 3) := by decide +kernel
theorem own_pd379 : parseMethodDescriptor "([BI)B" = some ⟨[(.array .byte), .int], some .byte⟩ := by decide +kernel
theorem d36_48 : decode jdk_42_method_149_code 48 = .ok (.putfield 15, 3) := by decide +kernel
theorem d36_51 : decode jdk_42_method_149_code 51 = .ok (.aload_n 0, 1) := by decide +kernel
theorem d36_52 : decode jdk_42_method_149_code 52 = .ok (.aload 5, 2) := by decide +kernel
theorem d36_54 : decode jdk_42_method_149_code 54 = .ok (.putfield 9, 3) := by decide +kernel
theorem d36_57 : decode jdk_42_method_149_code 57 = .ok (.return_, 1) := by decide +kernel
theorem ef_RRIIN_6 (m : MethodId) (x0 : Addr) (x1 : Addr) (x2 : Int32) (x3 : Int32) : entryFrame m #[(.ref x0), (.ref x1), (.int x2), (.int x3), .null] 6 = mkF m 0 #[.val (.ref x0), .val (.ref x1), .val (.int x2), .val (.int x3), .val .null, .unset] [] := by first | (simp [entryFrame, mkF, argsToLocals, Value.category]; done) | rfl
def own_Qsi2 (Z : State) (a1 : Addr) (x0 x1 : Int32) (h0 : Heap) (n0 : Nat) (v : Option Value) (h : Heap) (L : List Loc) : Prop := ∃ (b : Addr) (k : ClassId), v = none ∧ Fr n0 L ∧ Keep h0 h [a1] ∧ Fld Z h a1 "java/lang/String" "coder" "B" (.int (0 : Int32)) ∧ Fld Z h a1 "java/lang/String" "value" "[B" (.ref b) ∧ Arv Z h b k .byte (2 : Int32) [(.int x0.toInt8.toInt32), (.int x1.toInt8.toInt32)] (.int (0 : Int32))
set_option maxRecDepth 65536 in
set_option maxHeartbeats 40000000 in
theorem rmSI2 (l : Launch) (Z : State) (a0 : Array Value) (hw : own_W a0 Z) (ws : List Jvm.Cond) (a1 a2 : Addr) (kc : ClassId) (cs : Int32) (x0 x1 : Int32) (h0 : Heap) (n0 : Nat) (Z0 : n0 ≤ h0.size) (E_a1 : Exa Z h0 a1 "java/lang/String") (F_v : Fld Z h0 a1 "java/lang/String" "value" "[B" .null) (F_c : Fld Z h0 a1 "java/lang/String" "coder" "B" (.int (0 : Int32))) (g_a1 : n0 ≤ a1) (V2 : Arv Z h0 a2 kc .char (2 : Int32) [(.int x0), (.int x1)] (.int (0 : Int32))) (ne12 : a2 ≠ a1) (hx0 : ¬ (255 : Int32) < x0) (hx1 : ¬ (255 : Int32) < x1) (S_cs : Sta Z h0 "java/lang/String" "COMPACT_STRINGS" "Z" (.int cs)) (hcs : ¬ cs = (0 : Int32)) : own_Met l Z mn36 jdk_42_method_149_code 6 none ws (own_R 2 1 2 45) #[(.ref a1), (.ref a2), (.int (0 : Int32)), (.int (2 : Int32)), .null] h0 (own_Qsi2 Z a1 x0 x1 h0 n0) := by
  refine own_enter n0 (plainFor_of_name own_pn362) (fun m => ef_RRIIN_6 m a1 a2 (0 : Int32) (2 : Int32) ) (fun p e s m below meth c s₁ hx hby hlk hml hret hown hnm hZ X0 e0 N0 => ?_)
  show own_Fin _ _ _ _ _ _ _ s₁ (mkF m 0 #[Rv a1, Rv a2, Iv 0, Iv 2, Nv, Uv] [])
  have Kp280 : Keep h0 h0 [a1] := Keep.refl h0 _
  obtain ⟨T281, X281, e281, st281⟩ := initO X0 hx hZ hown (own_g hw 123) (own_g hw 13) (own_g hw 14) e0 (g := (mkF m 1 #[Rv a1, Rv a2, Iv 0, Iv 2, Nv, Uv] [(.ref a1)])) rfl (by rw [hml]; rfl) rfl (hb hby d36_1) (by decide) (W := 0) (own_z rfl) (by decide)
  obtain ⟨T282, X282, e282, st282⟩ := getS2 X281 hx hZ hown (host := "") (Or.inl (own_g hw 108)) Via.refl e281 S_cs (g := (mkF m 27 #[Rv a1, Rv a2, Iv 0, Iv 2, Nv, Uv] [])) rfl (hb hby d36_27)
  obtain ⟨_, _, ⟨T283, L283, k283, n283⟩, -, X283, ⟨Lc283, hQ283, l283, y283, z283⟩, st283⟩ := LawKit.callS X282 hx (y := mn34) hown (own_m hZ hw 243) (own_m hZ hw 244) (own_m hZ hw 245) (own_m hZ hw 246) (by decide) (backOf (W := 0) (rmCO2 l Z a0 hw [] a2 kc x0 x1 h0 n0 Z0 V2 hx0 hx1) hZ (own_g hw 246) (own_g hw 245) (by decide) (by decide)) (g := (mkF m 36 #[Rv a1, Rv a2, Iv 0, Iv 2, Nv, Uv] [(.int 2), (.int 0), (.ref a2)])) rfl (by rw [hml]; rfl) (argsL := [(.ref a2), (.int (0 : Int32)), (.int (2 : Int32))]) (rest := []) (lenOf own_pd373 rfl) rfl (own_z rfl) (hb hby d36_36) (fun _ _ => ⟨rfl, e282, (by decide : 0 + 1 ≤ _), (by decide : 0 + 2 ≤ _)⟩)
  dsimp only [Pt.U, Pt.locs, Pt.cells, Pt.slots] at X283 l283 y283 z283 st283 hQ283
  subst l283 y283 z283
  obtain ⟨b283, k283, rfl, Nq283, K283, ge283, V283⟩ := hQ283
  have N283 := Fr.app N0 Nq283
  have Zs283 : n0 ≤ T283.heap.size := Nat.le_trans Z0 K283.1
  have Kp283 : Keep h0 T283.heap [a1] := Kp280.trans K283 all0
  have f284_0 : Exa Z T283.heap a1 "java/lang/String" := E_a1.keep K283
  have f284_1 : Fld Z T283.heap a1 "java/lang/String" "value" "[B" .null := F_v.keep K283 nin0
  have f284_2 : Fld Z T283.heap a1 "java/lang/String" "coder" "B" (.int (0 : Int32)) := F_c.keep K283 nin0
  have f284_3 : Arv Z T283.heap a2 kc .char (2 : Int32) [(.int x0), (.int x1)] (.int (0 : Int32)) := V2.keep K283 nin0
  have ne283_a1 : a1 ≠ b283 := Nat.ne_of_lt (Nat.lt_of_lt_of_le E_a1.lt ge283)
  have ne283_a2 : a2 ≠ b283 := Nat.ne_of_lt (Nat.lt_of_lt_of_le V2.lt ge283)
  refine own_by (fun _ k => XS.aloadN X0.here hx rfl (hb hby d36_0) rfl rfl (st281 _ (XS.iloadN X281.here hx rfl (hb hby d36_4) rfl (XS.ifYes X281.here hx rfl (pc0 := 5) (pc' := 27) rfl (hb hby d36_5) rfl ((if0 _ _).trans (feq (by decide : ¬ ((2 : Int32) = (0 : Int32)))).2) (by decide) (by decide) (st282 _ (XS.ifNo X282.here hx rfl (hb hby d36_30) rfl ((if0 _ _).trans (feq hcs).1) (XS.aloadN X282.here hx rfl (hb hby d36_33) rfl rfl (XS.iloadN X282.here hx rfl (hb hby d36_34) rfl (XS.iloadN X282.here hx rfl (hb hby d36_35) rfl (st283 _ k)))))))))) ?_
  show own_Fin _ _ _ _ _ _ _ T283 (mkF m 39 #[Rv a1, Rv a2, Iv 0, Iv 2, Nv, Uv] [(.ref b283)])
  obtain ⟨_, _, ⟨T285, L285, k285, n285⟩, -, X285, ⟨Lc285, hQ285, l285, y285, z285⟩, st285⟩ := LawKit.callS X283 hx (y := mn35) hown (own_m hZ hw 250) (own_m hZ hw 251) (own_m hZ hw 245) (own_m hZ hw 252) (by decide) (backOf (W := 1) (rmCL2_2 l Z a0 hw [] b283 k283 [(.int x0.toInt8.toInt32), (.int x1.toInt8.toInt32)] T283.heap n0 Zs283 V283) hZ (own_g hw 252) (own_g hw 245) (by decide) (by decide)) (g := (mkF m 45 #[Rv a1, Rv a2, Iv 0, Iv 2, Nv, Rv b283] [(.int 2), (.ref b283), (.ref a1)])) rfl (by rw [hml]; rfl) (argsL := [(.ref b283), (.int (2 : Int32))]) (rest := [(.ref a1)]) (lenOf own_pd379 rfl) rfl (own_z rfl) (hb hby d36_45) (fun _ _ => ⟨rfl, rfl, (by decide : 1 + 0 ≤ _), (by decide : 2 + 0 ≤ _)⟩)
  dsimp only [Pt.U, Pt.locs, Pt.cells, Pt.slots] at X285 l285 y285 z285 st285 hQ285
  subst l285 y285 z285
  obtain ⟨rfl, Nq285, eh285⟩ := hQ285
  have N285 := Fr.app N283 Nq285
  obtain ⟨T286, h286, X286, e286, W286, st286⟩ := putFN X285 hx hZ hown (own_g hw 126) Via.refl eh285 f284_2 f284_0 (Or.inr ⟨(own_g hw 127), rfl, hnm⟩) (own_g hw 114) (ty := .byte) (v' := (.int (0 : Int32))) (by decide) rfl (by decide) (g := (mkF m 48 #[Rv a1, Rv a2, Iv 0, Iv 2, Nv, Rv b283] [(.int 0), (.ref a1)])) rfl rfl (hb hby d36_48)
  have Fw286 : Fld Z h286 a1 "java/lang/String" "coder" "B" (.int (0 : Int32)) := f284_2.same W286
  have Kp286 : Keep h0 h286 [a1] := Kp283.wr W286 (Or.inl (List.mem_of_getElem? (i := 0) rfl))
  have Zs286 : n0 ≤ h286.size := Nat.le_trans Zs283 (Keep.of_wr W286).1
  have N286 := Fr.snoc X286 N285 g_a1
  have f287_0 : Exa Z h286 a1 "java/lang/String" := f284_0.wr W286
  have f287_1 : Fld Z h286 a1 "java/lang/String" "value" "[B" .null := f284_1.other W286 (Or.inr (slot_ne (Or.inr (own_g hw 125)) (Or.inr (own_g hw 127)) (by decide) (t := (.array .byte)) (t' := .byte) (by decide) (by decide)))
  have f287_3 : Arv Z h286 a2 kc .char (2 : Int32) [(.int x0), (.int x1)] (.int (0 : Int32)) := f284_3.other W286 ne12
  have f287_4 : Arv Z h286 b283 k283 .byte (2 : Int32) [(.int x0.toInt8.toInt32), (.int x1.toInt8.toInt32)] (.int (0 : Int32)) := V283.other W286 (Ne.symm ne283_a1)
  obtain ⟨T288, h288, X288, e288, W288, st288⟩ := putF X286 hx hZ hown (host := "") (Or.inl (own_g hw 124)) Via.refl e286 f287_1 f287_0 (Or.inr ⟨(own_g hw 125), rfl, hnm⟩) (own_g hw 114) (ty := (.array .byte)) (by decide) rfl rfl (g := (mkF m 54 #[Rv a1, Rv a2, Iv 0, Iv 2, Nv, Rv b283] [(.ref b283), (.ref a1)])) rfl rfl (hb hby d36_54)
  have Fw288 : Fld Z h288 a1 "java/lang/String" "value" "[B" (.ref b283) := f287_1.same W288
  have Kp288 : Keep h0 h288 [a1] := Kp286.wr W288 (Or.inl (List.mem_of_getElem? (i := 0) rfl))
  have Zs288 : n0 ≤ h288.size := Nat.le_trans Zs286 (Keep.of_wr W288).1
  have N288 := Fr.snoc X288 N286 g_a1
  have f289_0 : Exa Z h288 a1 "java/lang/String" := f287_0.wr W288
  have f289_2 : Arv Z h288 a2 kc .char (2 : Int32) [(.int x0), (.int x1)] (.int (0 : Int32)) := f287_3.other W288 ne12
  have f289_3 : Arv Z h288 b283 k283 .byte (2 : Int32) [(.int x0.toInt8.toInt32), (.int x1.toInt8.toInt32)] (.int (0 : Int32)) := f287_4.other W288 (Ne.symm ne283_a1)
  have f289_4 : Fld Z h288 a1 "java/lang/String" "coder" "B" (.int (0 : Int32)) := Fw286.other W288 (Or.inr (slot_ne (Or.inr (own_g hw 127)) (Or.inr (own_g hw 125)) (by decide) (t := .byte) (t' := (.array .byte)) (by decide) (by decide)))
  refine own_by (fun _ k => XS.astore X283.here hx rfl (hb hby d36_39) rfl rfl (l' := #[Rv a1, Rv a2, Iv 0, Iv 2, Nv, Rv b283]) rfl (XS.aloadN X283.here hx rfl (hb hby d36_41) rfl rfl (XS.aload X283.here hx rfl (hb hby d36_42) rfl rfl (XS.iloadN X283.here hx rfl (hb hby d36_44) rfl (st285 _ (st286 _ (XS.aloadN X286.here hx rfl (hb hby d36_51) rfl rfl (XS.aload X286.here hx rfl (hb hby d36_52) rfl rfl (st288 _ k))))))))) ?_
  exact own_retV X288 hx hlk hret (hb hby d36_57) (by rw [e288]; exact ⟨_, _, rfl, N288, Kp288, f289_4, Fw288, f289_3⟩) (by decide) (by decide)
theorem d35_0 : decode jdk_42_method_3_code 0 = .ok (.aload_n 0, 1) := by decide +kernel
theorem d35_1 : decode jdk_42_method_3_code 1 = .ok (.aload_n 1, 1) := by decide +kernel
theorem d35_2 : decode jdk_42_method_3_code 2 = .ok (.iconst 0, 1) := by decide +kernel
theorem d35_3 : decode jdk_42_method_3_code 3 = .ok (.aload_n 1, 1) := by decide +kernel
theorem d35_4 : decode jdk_42_method_3_code 4 = .ok (.arraylength, 1) := by decide +kernel
theorem d35_5 : decode jdk_42_method_3_code 5 = .ok (.aconst_null, 1) := by decide +kernel
theorem d35_6 : decode jdk_42_method_3_code 6 = .ok (.invokespecial 27, 3) := by decide +kernel
theorem own_pd392 : parseMethodDescriptor "([CIILjava/lang/Void;)V" = some ⟨[(.array .char), .int, .int, (.object "java/lang/Void")], none⟩ := by decide +kernel
theorem d35_9 : decode jdk_42_method_3_code 9 = .ok (.return_, 1) := by decide +kernel
theorem rmSC2 (l : Launch) (Z : State) (a0 : Array Value) (hw : own_W a0 Z) (ws : List Jvm.Cond) (a1 a2 : Addr) (kc : ClassId) (cs : Int32) (x0 x1 : Int32) (h0 : Heap) (n0 : Nat) (Z0 : n0 ≤ h0.size) (E_a1 : Exa Z h0 a1 "java/lang/String") (F_v : Fld Z h0 a1 "java/lang/String" "value" "[B" .null) (F_c : Fld Z h0 a1 "java/lang/String" "coder" "B" (.int (0 : Int32))) (g_a1 : n0 ≤ a1) (V2 : Arv Z h0 a2 kc .char (2 : Int32) [(.int x0), (.int x1)] (.int (0 : Int32))) (ne12 : a2 ≠ a1) (hx0 : ¬ (255 : Int32) < x0) (hx1 : ¬ (255 : Int32) < x1) (S_cs : Sta Z h0 "java/lang/String" "COMPACT_STRINGS" "Z" (.int cs)) (hcs : ¬ cs = (0 : Int32)) : own_Met l Z mn37 jdk_42_method_3_code 2 none ws (own_R 3 1 2 64) #[(.ref a1), (.ref a2)] h0 (own_Qsi2 Z a1 x0 x1 h0 n0) := by
  refine own_enter n0 (plainFor_of_name own_pn362) (fun m => ef_RR_2 m a1 a2 ) (fun p e s m below meth c s₁ hx hby hlk hml hret hown hnm hZ X0 e0 N0 => ?_)
  show own_Fin _ _ _ _ _ _ _ s₁ (mkF m 0 #[Rv a1, Rv a2] [])
  have Kp290 : Keep h0 h0 [a1] := Keep.refl h0 _
  obtain ⟨cl291, Ar291, -, S291, M291, -, -⟩ := id V2
  refine own_by (fun _ k => XS.aloadN X0.here hx rfl (hb hby d35_0) rfl rfl (XS.aloadN X0.here hx rfl (hb hby d35_1) rfl rfl (XS.iconst X0.here hx rfl (hb hby d35_2) (XS.aloadN X0.here hx rfl (hb hby d35_3) rfl rfl (X0.arraylength hx (by rw [e0]; exact Ar291.1) (State.isArrayOf_alike hZ.alike Ar291.2.1) (g := (mkF m 4 #[Rv a1, Rv a2] [(.ref a2), (.int 0), (.ref a2), (.ref a1)])) rfl rfl (hb hby d35_4) _ k))))) ?_
  rw [len_of S291 M291]
  show own_Fin _ _ _ _ _ _ _ s₁ (mkF m 5 #[Rv a1, Rv a2] [(.int 2), (.int 0), (.ref a2), (.ref a1)])
  obtain ⟨_, _, ⟨T292, L292, k292, n292⟩, -, X292, ⟨Lc292, hQ292, l292, y292, z292⟩, st292⟩ := X0.specialBack hx (y := mn36) rfl hown (own_m hZ hw 240) (own_m hZ hw 241) (own_m hZ hw 242) (by decide) (backOf (W := 0) (rmSI2 l Z a0 hw [] a1 a2 kc cs x0 x1 h0 n0 Z0 E_a1 F_v F_c g_a1 V2 ne12 hx0 hx1 S_cs hcs) hZ (own_g hw 242) (own_g hw 106) (by decide) (by decide)) (g := (mkF m 6 #[Rv a1, Rv a2] [.null, (.int 2), (.int 0), (.ref a2), (.ref a1)])) rfl (by rw [hml]; rfl) (Steps.refl _) (a := a1) (argsL := [(.ref a2), (.int (0 : Int32)), (.int (2 : Int32)), .null]) (rest := []) (lenOf own_pd392 rfl) rfl (own_z rfl) (hb hby d35_6) (fun _ _ => ⟨rfl, e0, (by decide : 0 + 1 ≤ _), (by decide : 0 + 2 ≤ _)⟩)
  dsimp only [Pt.U, Pt.locs, Pt.cells, Pt.slots] at X292 l292 y292 z292 st292 hQ292
  subst l292 y292 z292
  obtain ⟨b292, k292, rfl, Nq292, K292, Gc292, Gv292, V292⟩ := hQ292
  have N292 := Fr.app N0 Nq292
  have Zs292 : n0 ≤ T292.heap.size := Nat.le_trans Z0 K292.1
  have Kp292 : Keep h0 T292.heap [a1] := Kp290.trans K292 (allS (Or.inl (List.mem_of_getElem? (i := 0) rfl)) all0)
  have f293_0 : Exa Z T292.heap a1 "java/lang/String" := E_a1.keep K292
  have f293_3 : Arv Z T292.heap a2 kc .char (2 : Int32) [(.int x0), (.int x1)] (.int (0 : Int32)) := V2.keep K292 (ninS ne12 nin0)
  refine own_by (fun _ k => XS.aconstNull X0.here hx rfl (hb hby d35_5) (st292.trans k)) ?_
  exact own_retV X292 hx hlk hret (hb hby d35_9) ⟨_, _, rfl, N292, Kp292, Gc292, Gv292, V292⟩ (by decide) (by decide)
theorem own_pn395 : plainName "java/lang/StringLatin1" = true := by first | (simp [plainName, overriddenIn]; done) | decide +kernel
theorem d16_0 : decode jdk_43_method_3_code 0 = .ok (.iload_n 0, 1) := by decide +kernel
theorem d16_1 : decode jdk_43_method_3_code 1 = .ok (.sipush 255, 3) := by decide +kernel
theorem d16_4 : decode jdk_43_method_3_code 4 = .ok (.if_icmp .gt 7, 3) := by decide +kernel
theorem d16_7 : decode jdk_43_method_3_code 7 = .ok (.iconst 1, 1) := by decide +kernel
theorem d16_8 : decode jdk_43_method_3_code 8 = .ok (.goto 4, 3) := by decide +kernel
theorem d16_12 : decode jdk_43_method_3_code 12 = .ok (.ireturn, 1) := by decide +kernel
theorem ef_I_1 (m : MethodId) (x0 : Int32) : entryFrame m #[(.int x0)] 1 = mkF m 0 #[.val (.int x0)] [] := by first | (simp [entryFrame, mkF, argsToLocals, Value.category]; done) | rfl
def own_QrmCEL (h0 : Heap) (n0 : Nat) (v : Option Value) (h : Heap) (L : List Loc) : Prop := v = some (.int (1 : Int32)) ∧ Fr n0 L ∧ h = h0
theorem rmCEL (l : Launch) (Z : State) (a0 : Array Value) (hw : own_W a0 Z) (ws : List Jvm.Cond) (p1 : Int32) (h0 : Heap) (n0 : Nat) (Z0 : n0 ≤ h0.size) (hb1 : ¬ (255 : Int32) < p1) : own_Met l Z mn38 jdk_43_method_3_code 1 (some .boolean) ws (own_R 0 0 0 0) #[(.int p1)] h0 (own_QrmCEL h0 n0) := by
  refine own_enter n0 (plainFor_of_name own_pn395) (fun m => ef_I_1 m p1 ) (fun p e s m below meth c s₁ hx hby hlk hml hret hown hnm hZ X0 e0 N0 => ?_)
  show own_Fin _ _ _ _ _ _ _ s₁ (mkF m 0 #[Iv p1] [])
  refine own_by (fun _ k => XS.iloadN X0.here hx rfl (hb hby d16_0) rfl (XS.sipush X0.here hx rfl (hb hby d16_1) (XS.icmpNo X0.here hx rfl (hb hby d16_4) rfl (flt hb1).2.2.1 (XS.iconst X0.here hx rfl (hb hby d16_7) (XS.goto X0.here hx rfl (pc0 := 8) (pc' := 12) rfl (hb hby d16_8) (by decide) (by decide) k))))) ?_
  exact own_retZ X0 hx hlk (t := .boolean) hret (by simp) (hb hby d16_12) ⟨rfl, N0, e0⟩ (by decide) (by decide)
theorem d17_0 : decode jdk_43_method_46_code 0 = .ok (.iconst 1, 1) := by decide +kernel
theorem d17_1 : decode jdk_43_method_46_code 1 = .ok (.newarray .byte, 2) := by decide +kernel
theorem d17_3 : decode jdk_43_method_46_code 3 = .ok (.dup, 1) := by decide +kernel
theorem d17_4 : decode jdk_43_method_46_code 4 = .ok (.iconst 0, 1) := by decide +kernel
theorem d17_5 : decode jdk_43_method_46_code 5 = .ok (.iload_n 0, 1) := by decide +kernel
theorem d17_6 : decode jdk_43_method_46_code 6 = .ok (.i2b, 1) := by decide +kernel
theorem d17_7 : decode jdk_43_method_46_code 7 = .ok (.bastore, 1) := by decide +kernel
theorem d17_8 : decode jdk_43_method_46_code 8 = .ok (.areturn, 1) := by decide +kernel
def own_QTBL (Z : State) (p1 : Int32) (h0 : Heap) (n0 : Nat) (v : Option Value) (h : Heap) (L : List Loc) : Prop := ∃ (a : Addr) (k : ClassId), v = some (.ref a) ∧ Fr n0 L ∧ Keep h0 h [] ∧ h0.size ≤ a ∧ Arv Z h a k .byte (1 : Int32) [(.int p1.toInt8.toInt32)] (.int (0 : Int32))
theorem rmTBL (l : Launch) (Z : State) (a0 : Array Value) (hw : own_W a0 Z) (ws : List Jvm.Cond) (p1 : Int32) (h0 : Heap) (n0 : Nat) (Z0 : n0 ≤ h0.size)  : own_Met l Z mn39 jdk_43_method_46_code 1 (some (.array .byte)) ws (own_R 0 1 1 0) #[(.int p1)] h0 (own_QTBL Z p1 h0 n0) := by
  refine own_enter n0 (plainFor_of_name own_pn395) (fun m => ef_I_1 m p1 ) (fun p e s m below meth c s₁ hx hby hlk hml hret hown hnm hZ X0 e0 N0 => ?_)
  show own_Fin _ _ _ _ _ _ _ s₁ (mkF m 0 #[Iv p1] [])
  have Kp294 : Keep h0 h0 [] := Keep.refl h0 _
  obtain ⟨T295, h295, k295, X295, e295, E295, A295, st295⟩ := newP X0 hx hZ (own_g hw 118) e0 (g := (mkF m 1 #[Iv p1] [(.int 1)])) rfl (hb hby d17_1) rfl (by decide) (cap := 1) (by decide) (by decide) (by decide) (by decide)
  obtain ⟨b295, g295⟩ : ∃ z, z = h0.size := ⟨_, rfl⟩
  rw [← g295] at A295 st295
  have V295 : Arv Z h295 b295 k295 .byte (1 : Int32) [(.int (0 : Int32))] (.int (0 : Int32)) := (Arv.new A295 (by decide)).pad (pad_rep [] (.int (0 : Int32)) 1)
  have gf295 : n0 ≤ b295 := Nat.le_trans Z0 (Nat.le_of_eq g295.symm)
  have Zs295 : n0 ≤ h295.size := Nat.le_trans Z0 E295.1
  have Kp295 : Keep h0 h295 [] := Kp294.ext E295
  have sz_b295 : h0.size ≤ b295 := Nat.le_trans Kp294.1 (Nat.le_of_eq g295.symm)
  obtain ⟨cl297, Ar297, q297, S297, M297, H297, G297⟩ := id V295
  have hin297 : ¬ ((0 : Int32) < 0 ∨ cl297.slots.size ≤ ((0 : Int32)).toNatClampNeg) := inb_of S297 ⟨by decide, by decide⟩
  obtain ⟨T297, h297, X297, e297, W297, st297⟩ := stB X295 hx hZ e295 Ar297 (j := (0 : Int32)) hin297 (g := (mkF m 7 #[Iv p1] [(.int (p1.toInt8.toInt32)), (.int 0), (.ref b295), (.ref b295)])) rfl rfl (hb hby d17_7)
  have V297 : Arv Z h297 b295 k295 .byte (1 : Int32) [(.int (p1.toInt8.toInt32).toInt8.toInt32)] (.int (0 : Int32)) := Arv.set Ar297 q297 S297 M297 H297 G297 (fits_nar_byte _) W297 0 rfl (Nat.le_of_ble_eq_true rfl)
  have Kp297 : Keep h0 h297 [] := Kp295.wr W297 (Or.inr sz_b295)
  have Zs297 : n0 ≤ h297.size := Nat.le_trans Zs295 (Keep.of_wr W297).1
  have N297 := Fr.snoc X297 N0 gf295
  refine own_by (fun _ k => XS.iconst X0.here hx rfl (hb hby d17_0) (st295 _ (XS.dup X295.here hx rfl (hb hby d17_3) rfl rfl (XS.iconst X295.here hx rfl (hb hby d17_4) (XS.iloadN X295.here hx rfl (hb hby d17_5) rfl (XS.i2b X295.here hx rfl (hb hby d17_6) rfl (st297 _ k))))))) ?_
  exact own_retA X297 hx hlk (t := (.array .byte)) hret rfl rfl rfl (hb hby d17_8) (by rw [e297]; exact ⟨_, _, rfl, N297, Kp297, sz_b295, (by have q := V297; simp only [own_b8] at q; exact q)⟩) (by decide) (by decide)
theorem d18_0 : decode jdk_42_method_151_code 0 = .ok (.aload_n 0, 1) := by decide +kernel
theorem d18_1 : decode jdk_42_method_151_code 1 = .ok (.invokespecial 1, 3) := by decide +kernel
theorem d18_4 : decode jdk_42_method_151_code 4 = .ok (.aload_n 0, 1) := by decide +kernel
theorem d18_5 : decode jdk_42_method_151_code 5 = .ok (.aload_n 1, 1) := by decide +kernel
theorem d18_6 : decode jdk_42_method_151_code 6 = .ok (.putfield 9, 3) := by decide +kernel
theorem d18_9 : decode jdk_42_method_151_code 9 = .ok (.aload_n 0, 1) := by decide +kernel
theorem d18_10 : decode jdk_42_method_151_code 10 = .ok (.iload_n 2, 1) := by decide +kernel
theorem d18_11 : decode jdk_42_method_151_code 11 = .ok (.putfield 15, 3) := by decide +kernel
theorem d18_14 : decode jdk_42_method_151_code 14 = .ok (.return_, 1) := by decide +kernel
def own_QBB (Z : State) (a1 : Addr) (h0 : Heap) (n0 : Nat) (v : Option Value) (h : Heap) (L : List Loc) : Prop := v = none ∧ Fr n0 L ∧ Keep h0 h [a1]
theorem rmBB (l : Launch) (Z : State) (a0 : Array Value) (hw : own_W a0 Z) (ws : List Jvm.Cond) (a1 a2 : Addr) (h0 : Heap) (n0 : Nat) (Z0 : n0 ≤ h0.size) (E_a1 : Exa Z h0 a1 "java/lang/String") (F_v : Fld Z h0 a1 "java/lang/String" "value" "[B" .null) (F_c : Fld Z h0 a1 "java/lang/String" "coder" "B" (.int (0 : Int32))) (g_a1 : n0 ≤ a1) : own_Met l Z mn40 jdk_42_method_151_code 3 none ws (own_R 1 0 0 12) #[(.ref a1), (.ref a2), (.int (0 : Int32))] h0 (own_QBB Z a1 h0 n0) := by
  refine own_enter n0 (plainFor_of_name own_pn362) (fun m => ef_RRI_3 m a1 a2 (0 : Int32) ) (fun p e s m below meth c s₁ hx hby hlk hml hret hown hnm hZ X0 e0 N0 => ?_)
  show own_Fin _ _ _ _ _ _ _ s₁ (mkF m 0 #[Rv a1, Rv a2, Iv 0] [])
  have Kp299 : Keep h0 h0 [a1] := Keep.refl h0 _
  obtain ⟨T300, X300, e300, st300⟩ := initO X0 hx hZ hown (own_g hw 123) (own_g hw 13) (own_g hw 14) e0 (g := (mkF m 1 #[Rv a1, Rv a2, Iv 0] [(.ref a1)])) rfl (by rw [hml]; rfl) rfl (hb hby d18_1) (by decide) (W := 0) (own_z rfl) (by decide)
  obtain ⟨T301, h301, X301, e301, W301, st301⟩ := putF X300 hx hZ hown (host := "") (Or.inl (own_g hw 124)) Via.refl e300 F_v E_a1 (Or.inr ⟨(own_g hw 125), rfl, hnm⟩) (own_g hw 114) (ty := (.array .byte)) (by decide) rfl rfl (g := (mkF m 6 #[Rv a1, Rv a2, Iv 0] [(.ref a2), (.ref a1)])) rfl rfl (hb hby d18_6)
  have Fw301 : Fld Z h301 a1 "java/lang/String" "value" "[B" (.ref a2) := F_v.same W301
  have Kp301 : Keep h0 h301 [a1] := Kp299.wr W301 (Or.inl (List.mem_of_getElem? (i := 0) rfl))
  have Zs301 : n0 ≤ h301.size := Nat.le_trans Z0 (Keep.of_wr W301).1
  have N301 := Fr.snoc X301 N0 g_a1
  have f302_0 : Exa Z h301 a1 "java/lang/String" := E_a1.wr W301
  have f302_2 : Fld Z h301 a1 "java/lang/String" "coder" "B" (.int (0 : Int32)) := F_c.other W301 (Or.inr (slot_ne (Or.inr (own_g hw 127)) (Or.inr (own_g hw 125)) (by decide) (t := .byte) (t' := (.array .byte)) (by decide) (by decide)))
  obtain ⟨T303, h303, X303, e303, W303, st303⟩ := putFN X301 hx hZ hown (own_g hw 126) Via.refl e301 f302_2 f302_0 (Or.inr ⟨(own_g hw 127), rfl, hnm⟩) (own_g hw 114) (ty := .byte) (v' := (.int (0 : Int32))) (by decide) rfl (by decide) (g := (mkF m 11 #[Rv a1, Rv a2, Iv 0] [(.int 0), (.ref a1)])) rfl rfl (hb hby d18_11)
  have Fw303 : Fld Z h303 a1 "java/lang/String" "coder" "B" (.int (0 : Int32)) := f302_2.same W303
  have Kp303 : Keep h0 h303 [a1] := Kp301.wr W303 (Or.inl (List.mem_of_getElem? (i := 0) rfl))
  have Zs303 : n0 ≤ h303.size := Nat.le_trans Zs301 (Keep.of_wr W303).1
  have N303 := Fr.snoc X303 N301 g_a1
  have f304_0 : Exa Z h303 a1 "java/lang/String" := f302_0.wr W303
  have f304_2 : Fld Z h303 a1 "java/lang/String" "value" "[B" (.ref a2) := Fw301.other W303 (Or.inr (slot_ne (Or.inr (own_g hw 125)) (Or.inr (own_g hw 127)) (by decide) (t := (.array .byte)) (t' := .byte) (by decide) (by decide)))
  refine own_by (fun _ k => XS.aloadN X0.here hx rfl (hb hby d18_0) rfl rfl (st300 _ (XS.aloadN X300.here hx rfl (hb hby d18_4) rfl rfl (XS.aloadN X300.here hx rfl (hb hby d18_5) rfl rfl (st301 _ (XS.aloadN X301.here hx rfl (hb hby d18_9) rfl rfl (XS.iloadN X301.here hx rfl (hb hby d18_10) rfl (st303 _ k)))))))) ?_
  exact own_retV X303 hx hlk hret (hb hby d18_14) (by rw [e303]; exact ⟨rfl, N303, Kp303⟩) (by decide) (by decide)
theorem d15_0 : decode jdk_42_method_139_code 0 = .ok (.getstatic 38, 3) := by decide +kernel
theorem d15_3 : decode jdk_42_method_139_code 3 = .ok (.ifCond .eq 23, 3) := by decide +kernel
theorem d15_6 : decode jdk_42_method_139_code 6 = .ok (.iload_n 0, 1) := by decide +kernel
theorem d15_7 : decode jdk_42_method_139_code 7 = .ok (.invokestatic 1015, 3) := by decide +kernel
theorem own_pd423 : parseMethodDescriptor "(C)Z" = some ⟨[.char], some .boolean⟩ := by decide +kernel
theorem d15_10 : decode jdk_42_method_139_code 10 = .ok (.ifCond .eq 16, 3) := by decide +kernel
theorem d15_13 : decode jdk_42_method_139_code 13 = .ok (.new 10, 3) := by decide +kernel
theorem d15_16 : decode jdk_42_method_139_code 16 = .ok (.dup, 1) := by decide +kernel
theorem d15_17 : decode jdk_42_method_139_code 17 = .ok (.iload_n 0, 1) := by decide +kernel
theorem d15_18 : decode jdk_42_method_139_code 18 = .ok (.invokestatic 1018, 3) := by decide +kernel
theorem own_pd429 : parseMethodDescriptor "(C)[B" = some ⟨[.char], some (.array .byte)⟩ := by decide +kernel
theorem d15_21 : decode jdk_42_method_139_code 21 = .ok (.iconst 0, 1) := by decide +kernel
theorem d15_22 : decode jdk_42_method_139_code 22 = .ok (.invokespecial 209, 3) := by decide +kernel
theorem own_pd432 : parseMethodDescriptor "([BB)V" = some ⟨[(.array .byte), .byte], none⟩ := by decide +kernel
theorem d15_25 : decode jdk_42_method_139_code 25 = .ok (.areturn, 1) := by decide +kernel
def own_QVO (Z : State)  (h0 : Heap) (n0 : Nat) (v : Option Value) (h : Heap) (L : List Loc) : Prop := ∃ a : Addr, v = some (.ref a) ∧ Fr n0 L ∧ Keep h0 h [] ∧ h0.size ≤ a ∧ Exa Z h a "java/lang/String"
set_option maxRecDepth 65536 in
set_option maxHeartbeats 40000000 in
theorem rmVO (l : Launch) (Z : State) (a0 : Array Value) (hw : own_W a0 Z) (ws : List Jvm.Cond) (cs : Int32) (da el ea em ci mm : Addr) (kd ke : ClassId) (p1 : Int32) (h0 : Heap) (n0 : Nat) (Z0 : n0 ≤ h0.size) (V_env : own_Env Z cs da el ea em ci mm kd ke) (Od : Old Z n0 h0) (hb1 : ¬ (255 : Int32) < p1) : own_Met l Z mn41 jdk_42_method_139_code 1 (some (.object "java/lang/String")) ws (own_R 2 2 5 30) #[(.int p1)] h0 (own_QVO Z h0 n0) := by
  refine own_enter n0 (plainFor_of_name own_pn362) (fun m => ef_I_1 m p1 ) (fun p e s m below meth c s₁ hx hby hlk hml hret hown hnm hZ X0 e0 N0 => ?_)
  show own_Fin _ _ _ _ _ _ _ s₁ (mkF m 0 #[Iv p1] [])
  have Kp305 : Keep h0 h0 [] := Keep.refl h0 _
  obtain ⟨T306, X306, e306, st306⟩ := getS2 X0 hx hZ hown (host := "") (Or.inl (own_g hw 108)) Via.refl e0 (V_env.1.ext Od.2) (g := (mkF m 0 #[Iv p1] [])) rfl (hb hby d15_0)
  obtain ⟨_, _, ⟨T307, L307, k307, n307⟩, -, X307, ⟨Lc307, hQ307, l307, y307, z307⟩, st307⟩ := LawKit.callS X306 hx (y := mn38) hown (own_m hZ hw 109) (own_m hZ hw 110) (own_m hZ hw 111) (own_m hZ hw 112) (by decide) (backOf (W := 0) (rmCEL l Z a0 hw [] p1 h0 n0 Z0 hb1) hZ (own_g hw 112) (own_g hw 111) (by decide) (by decide)) (g := (mkF m 7 #[Iv p1] [(.int p1)])) rfl (by rw [hml]; rfl) (argsL := [(.int p1)]) (rest := []) (lenOf own_pd423 rfl) rfl (own_z rfl) (hb hby d15_7) (fun _ _ => ⟨rfl, e306, (by decide : 0 + 0 ≤ _), (by decide : 0 + 0 ≤ _)⟩)
  dsimp only [Pt.U, Pt.locs, Pt.cells, Pt.slots] at X307 l307 y307 z307 st307 hQ307
  subst l307 y307 z307
  obtain ⟨rfl, Nq307, eh307⟩ := hQ307
  have N307 := Fr.app N0 Nq307
  obtain ⟨T308, h308, X308, e308, E308, A308, D308, -, st308⟩ := newO X307 hx hZ hown (own_g hw 113) (own_g hw 114) (own_g hw 106) eh307 (g := (mkF m 13 #[Iv p1] [])) rfl (hb hby d15_13) (by decide) (by decide)
  obtain ⟨b308, g308⟩ : ∃ z, z = h0.size := ⟨_, rfl⟩
  rw [← g308] at A308 D308 st308
  have gf308 : n0 ≤ b308 := Nat.le_trans Z0 (Nat.le_of_eq g308.symm)
  have Zs308 : n0 ≤ h308.size := Nat.le_trans Z0 E308.1
  have Kp308 : Keep h0 h308 [] := Kp305.ext E308
  have sz_b308 : h0.size ≤ b308 := Nat.le_trans Kp305.1 (Nat.le_of_eq g308.symm)
  have f309_0 : Old Z n0 h308 := Od.ext E308
  have F308_value : Fld Z h308 b308 "java/lang/String" "value" "[B" .null := D308 (Or.inr (own_g hw 125)) (ty := (.array .byte)) (by decide)
  have F308_coder : Fld Z h308 b308 "java/lang/String" "coder" "B" (.int (0 : Int32)) := D308 (Or.inr (own_g hw 127)) (ty := .byte) (by decide)
  obtain ⟨_, _, ⟨T310, L310, k310, n310⟩, -, X310, ⟨Lc310, hQ310, l310, y310, z310⟩, st310⟩ := LawKit.callS X308 hx (y := mn39) hown (own_m hZ hw 115) (own_m hZ hw 116) (own_m hZ hw 111) (own_m hZ hw 117) (by decide) (backOf (W := 2) (rmTBL l Z a0 hw [] p1 h308 n0 Zs308 ) hZ (own_g hw 117) (own_g hw 111) (by decide) (by decide)) (g := (mkF m 18 #[Iv p1] [(.int p1), (.ref b308), (.ref b308)])) rfl (by rw [hml]; rfl) (argsL := [(.int p1)]) (rest := [(.ref b308), (.ref b308)]) (lenOf own_pd429 rfl) rfl (own_z rfl) (hb hby d15_18) (fun _ _ => ⟨rfl, e308, (by decide : 1 + 1 ≤ _), (by decide : 4 + 1 ≤ _)⟩)
  dsimp only [Pt.U, Pt.locs, Pt.cells, Pt.slots] at X310 l310 y310 z310 st310 hQ310
  subst l310 y310 z310
  obtain ⟨b310, k310, rfl, Nq310, K310, ge310, V310⟩ := hQ310
  have N310 := Fr.app N307 Nq310
  have Zs310 : n0 ≤ T310.heap.size := Nat.le_trans Zs308 K310.1
  have Kp310 : Keep h0 T310.heap [] := Kp308.trans K310 all0
  have f311_0 : Old Z n0 T310.heap := f309_0.keep K310 all0
  have f311_1 : Exa Z T310.heap b308 "java/lang/String" := A308.keep K310
  have f311_2 : Fld Z T310.heap b308 "java/lang/String" "value" "[B" .null := F308_value.keep K310 nin0
  have f311_3 : Fld Z T310.heap b308 "java/lang/String" "coder" "B" (.int (0 : Int32)) := F308_coder.keep K310 nin0
  have ne310_b308 : b308 ≠ b310 := Nat.ne_of_lt (Nat.lt_of_lt_of_le A308.lt ge310)
  have gf310 : n0 ≤ b310 := Nat.le_trans Zs308 ge310
  have sz_b310 : h0.size ≤ b310 := Nat.le_trans Kp308.1 ge310
  obtain ⟨_, _, ⟨T312, L312, k312, n312⟩, -, X312, ⟨Lc312, hQ312, l312, y312, z312⟩, st312⟩ := X310.specialBack hx (y := mn40) rfl hown (own_m hZ hw 119) (own_m hZ hw 120) (own_m hZ hw 122) (by decide) (backOf (W := 1) (rmBB l Z a0 hw [] b308 b310 T310.heap n0 Zs310 f311_1 f311_2 f311_3 gf308) hZ (own_g hw 122) (own_g hw 106) (by decide) (by decide)) (g := (mkF m 22 #[Iv p1] [(.int 0), (.ref b310), (.ref b308), (.ref b308)])) rfl (by rw [hml]; rfl) (Steps.refl _) (a := b308) (argsL := [(.ref b310), (.int (0 : Int32))]) (rest := [(.ref b308)]) (lenOf own_pd432 rfl) rfl (own_z rfl) (hb hby d15_22) (fun _ _ => ⟨rfl, rfl, (by decide : 2 + 0 ≤ _), (by decide : 5 + 0 ≤ _)⟩)
  dsimp only [Pt.U, Pt.locs, Pt.cells, Pt.slots] at X312 l312 y312 z312 st312 hQ312
  subst l312 y312 z312
  obtain ⟨rfl, Nq312, K312⟩ := hQ312
  have N312 := Fr.app N310 Nq312
  refine own_by (fun _ k => st306 _ (XS.ifNo X306.here hx rfl (hb hby d15_3) rfl ((if0 _ _).trans (feq V_env.2.1).1) (XS.iloadN X306.here hx rfl (hb hby d15_6) rfl (st307 _ (XS.ifNo X307.here hx rfl (hb hby d15_10) rfl ((if0 _ _).trans (feq (by decide : ¬ ((1 : Int32) = (0 : Int32)))).1) (st308 _ (XS.dup X308.here hx rfl (hb hby d15_16) rfl rfl (XS.iloadN X308.here hx rfl (hb hby d15_17) rfl (st310 _ (XS.iconst X310.here hx rfl (hb hby d15_21) k)))))))))) ?_
  show own_Fin _ _ _ _ _ _ _ T310 (mkF m 22 #[Iv p1] [(.int 0), (.ref b310), (.ref b308), (.ref b308)])
  have Zs312 : n0 ≤ T312.heap.size := Nat.le_trans Zs310 K312.1
  have Kp312 : Keep h0 T312.heap [] := Kp310.trans K312 (allS (Or.inr sz_b308) all0)
  have f313_0 : Old Z n0 T312.heap := f311_0.keep K312 (allS gf308 all0)
  have f313_1 : Exa Z T312.heap b308 "java/lang/String" := f311_1.keep K312
  have f313_4 : Arv Z T312.heap b310 k310 .byte (1 : Int32) [(.int p1.toInt8.toInt32)] (.int (0 : Int32)) := V310.keep K312 (ninS (Ne.symm ne310_b308) nin0)
  refine own_by (fun _ k => st312.trans k) ?_
  exact own_retA X312 hx hlk (t := (.object "java/lang/String")) hret rfl rfl rfl (hb hby d15_25) ⟨_, rfl, N312, Kp312, sz_b308, f313_1⟩ (by decide) (by decide)
theorem own_pn434 : plainName "com/example/lithe_checker/lithechecker/c/CType$Member" = true := by first | (simp [plainName, overriddenIn]; done) | decide +kernel
theorem d19_0 : decode prog_9_method_1_code 0 = .ok (.aload_n 0, 1) := by decide +kernel
theorem d19_1 : decode prog_9_method_1_code 1 = .ok (.invokespecial 1, 3) := by decide +kernel
theorem d19_4 : decode prog_9_method_1_code 4 = .ok (.aload_n 0, 1) := by decide +kernel
theorem d19_5 : decode prog_9_method_1_code 5 = .ok (.aload_n 1, 1) := by decide +kernel
theorem d19_6 : decode prog_9_method_1_code 6 = .ok (.putfield 7, 3) := by decide +kernel
theorem d19_9 : decode prog_9_method_1_code 9 = .ok (.aload_n 0, 1) := by decide +kernel
theorem d19_10 : decode prog_9_method_1_code 10 = .ok (.aload_n 2, 1) := by decide +kernel
theorem d19_11 : decode prog_9_method_1_code 11 = .ok (.putfield 13, 3) := by decide +kernel
theorem d19_14 : decode prog_9_method_1_code 14 = .ok (.return_, 1) := by decide +kernel
def own_QMI (Z : State) (a1 : Addr) (h0 : Heap) (n0 : Nat) (v : Option Value) (h : Heap) (L : List Loc) : Prop := v = none ∧ Fr n0 L ∧ Keep h0 h [a1]
theorem rmMI (l : Launch) (Z : State) (a0 : Array Value) (hw : own_W a0 Z) (ws : List Jvm.Cond) (a1 a2 a3 : Addr) (h0 : Heap) (n0 : Nat) (Z0 : n0 ≤ h0.size) (E_a1 : Exa Z h0 a1 "com/example/lithe_checker/lithechecker/c/CType$Member") (F_n : Fld Z h0 a1 "com/example/lithe_checker/lithechecker/c/CType$Member" "name" "Ljava/lang/String;" .null) (F_t : Fld Z h0 a1 "com/example/lithe_checker/lithechecker/c/CType$Member" "type" "Lcom/example/lithe_checker/lithechecker/c/CType;" .null) (g_1 : n0 ≤ a1) : own_Met l Z mn42 prog_9_method_1_code 3 none ws (own_R 1 0 0 12) #[(.ref a1), (.ref a2), (.ref a3)] h0 (own_QMI Z a1 h0 n0) := by
  refine own_enter n0 (plainFor_of_name own_pn434) (fun m => ef_RRR_3 m a1 a2 a3 ) (fun p e s m below meth c s₁ hx hby hlk hml hret hown hnm hZ X0 e0 N0 => ?_)
  show own_Fin _ _ _ _ _ _ _ s₁ (mkF m 0 #[Rv a1, Rv a2, Rv a3] [])
  have Kp314 : Keep h0 h0 [a1] := Keep.refl h0 _
  obtain ⟨T315, X315, e315, st315⟩ := initO X0 hx hZ hown (own_g hw 133) (own_g hw 13) (own_g hw 14) e0 (g := (mkF m 1 #[Rv a1, Rv a2, Rv a3] [(.ref a1)])) rfl (by rw [hml]; rfl) rfl (hb hby d19_1) (by decide) (W := 0) (own_z rfl) (by decide)
  obtain ⟨T316, h316, X316, e316, W316, st316⟩ := putF X315 hx hZ hown (host := "") (Or.inl (own_g hw 134)) Via.refl e315 F_n E_a1 (Or.inr ⟨(own_g hw 135), rfl, hnm⟩) (own_g hw 102) (ty := (.object "java/lang/String")) (by decide) rfl rfl (g := (mkF m 6 #[Rv a1, Rv a2, Rv a3] [(.ref a2), (.ref a1)])) rfl rfl (hb hby d19_6)
  have Fw316 : Fld Z h316 a1 "com/example/lithe_checker/lithechecker/c/CType$Member" "name" "Ljava/lang/String;" (.ref a2) := F_n.same W316
  have Kp316 : Keep h0 h316 [a1] := Kp314.wr W316 (Or.inl (List.mem_of_getElem? (i := 0) rfl))
  have Zs316 : n0 ≤ h316.size := Nat.le_trans Z0 (Keep.of_wr W316).1
  have N316 := Fr.snoc X316 N0 g_1
  have f317_0 : Exa Z h316 a1 "com/example/lithe_checker/lithechecker/c/CType$Member" := E_a1.wr W316
  have f317_2 : Fld Z h316 a1 "com/example/lithe_checker/lithechecker/c/CType$Member" "type" "Lcom/example/lithe_checker/lithechecker/c/CType;" .null := F_t.other W316 (Or.inr (slot_ne (Or.inr (own_g hw 137)) (Or.inr (own_g hw 135)) (by decide) (t := (.object "com/example/lithe_checker/lithechecker/c/CType")) (t' := (.object "java/lang/String")) (by decide) (by decide)))
  obtain ⟨T318, h318, X318, e318, W318, st318⟩ := putF X316 hx hZ hown (host := "") (Or.inl (own_g hw 136)) Via.refl e316 f317_2 f317_0 (Or.inr ⟨(own_g hw 137), rfl, hnm⟩) (own_g hw 102) (ty := (.object "com/example/lithe_checker/lithechecker/c/CType")) (by decide) rfl rfl (g := (mkF m 11 #[Rv a1, Rv a2, Rv a3] [(.ref a3), (.ref a1)])) rfl rfl (hb hby d19_11)
  have Fw318 : Fld Z h318 a1 "com/example/lithe_checker/lithechecker/c/CType$Member" "type" "Lcom/example/lithe_checker/lithechecker/c/CType;" (.ref a3) := f317_2.same W318
  have Kp318 : Keep h0 h318 [a1] := Kp316.wr W318 (Or.inl (List.mem_of_getElem? (i := 0) rfl))
  have Zs318 : n0 ≤ h318.size := Nat.le_trans Zs316 (Keep.of_wr W318).1
  have N318 := Fr.snoc X318 N316 g_1
  have f319_0 : Exa Z h318 a1 "com/example/lithe_checker/lithechecker/c/CType$Member" := f317_0.wr W318
  have f319_2 : Fld Z h318 a1 "com/example/lithe_checker/lithechecker/c/CType$Member" "name" "Ljava/lang/String;" (.ref a2) := Fw316.other W318 (Or.inr (slot_ne (Or.inr (own_g hw 135)) (Or.inr (own_g hw 137)) (by decide) (t := (.object "java/lang/String")) (t' := (.object "com/example/lithe_checker/lithechecker/c/CType")) (by decide) (by decide)))
  refine own_by (fun _ k => XS.aloadN X0.here hx rfl (hb hby d19_0) rfl rfl (st315 _ (XS.aloadN X315.here hx rfl (hb hby d19_4) rfl rfl (XS.aloadN X315.here hx rfl (hb hby d19_5) rfl rfl (st316 _ (XS.aloadN X316.here hx rfl (hb hby d19_9) rfl rfl (XS.aloadN X316.here hx rfl (hb hby d19_10) rfl rfl (st318 _ k)))))))) ?_
  exact own_retV X318 hx hlk hret (hb hby d19_14) (by rw [e318]; exact ⟨rfl, N318, Kp318⟩) (by decide) (by decide)
theorem own_c16 (x : Int32) : x.toUInt32.toUInt16.toUInt32.toInt32.toUInt32.toUInt16.toUInt32.toInt32 = x.toUInt32.toUInt16.toUInt32.toInt32 := by
  have a := c_i2c x
  have b := c_i2c x.toUInt32.toUInt16.toUInt32.toInt32
  exact Int32.toInt_inj.mp (by omega)
theorem own_pn445 : plainName "com/example/lithe_checker/lithechecker/c/StructTypeIsCompletePinLaw" = true := by first | (simp [plainName, overriddenIn]; done) | decide +kernel
theorem own_pd446 : parseMethodDescriptor "(ZLjava/lang/String;)V" = some ⟨[.boolean, (.object "java/lang/String")], none⟩ := by decide +kernel
theorem own_pd447 : parseMethodDescriptor "(Ljava/util/List;)V" = some ⟨[(.object "java/util/List")], none⟩ := by decide +kernel
theorem own_pd448 : parseMethodDescriptor "()I" = some ⟨[], some .int⟩ := by decide +kernel
theorem own_pd449 : parseMethodDescriptor "([C)V" = some ⟨[(.array .char)], none⟩ := by decide +kernel
theorem own_pd450 : parseMethodDescriptor "(C)Ljava/lang/String;" = some ⟨[.char], some (.object "java/lang/String")⟩ := by decide +kernel
theorem own_pd451 : parseMethodDescriptor "(Ljava/lang/String;Lcom/example/lithe_checker/lithechecker/c/CType;)V" = some ⟨[(.object "java/lang/String"), (.object "com/example/lithe_checker/lithechecker/c/CType")], none⟩ := by decide +kernel
theorem own_pd452 : parseMethodDescriptor "(Ljava/lang/Object;)Z" = some ⟨[(.object "java/lang/Object")], some .boolean⟩ := by decide +kernel
theorem ef_III_13l (m : MethodId) (x0 : Int32) (x1 : Int32) (x2 : Int32) : entryFrame m #[(.int x0), (.int x1), (.int x2)] maxLocals = mkF m 0 #[.val (.int x0), .val (.int x1), .val (.int x2), .unset, .unset, .unset, .unset, .unset, .unset, .unset, .unset, .unset, .unset] [] := by first | (simp [entryFrame, mkF, argsToLocals, Value.category, maxLocals]; done) | rfl
def own_Q0 (n0 : Nat) (v : Option Value) (h : Heap) (L : List Loc) : Prop := v = some (.int (1 : Int32)) ∧ Fr n0 L
set_option maxRecDepth 65536 in
set_option maxHeartbeats 40000000 in
theorem rm0 (l : Launch) (Z : State) (a0 : Array Value) (hw : own_W a0 Z) (ws : List Jvm.Cond) (p1 p2 p3 : Int32) (cs : Int32) (da el ea em ci mm : Addr) (kd ke : ClassId) (h0 : Heap) (n0 : Nat) (Z0 : n0 ≤ h0.size) (V_env : own_Env Z cs da el ea em ci mm kd ke) (Od : Old Z n0 h0) :
    MetFree l x (head1 (Jvm.Cond.code x code maxLocals ret :: ws) room_1) (fun a U => a = #[(.int p1), (.int p2), (.int p3)] ∧ Z.Warmed39 U.vm ∧ U.heap = h0) (fun _ _ _ _ _ => True) (fun _ U o U' => ∃ v L, o = .returned v ∧ own_Q0 n0 v U'.heap L ∧ FrameEnd U o U' L room_1.cells room_1.slots) := by
  refine MetFree.of_bodySF (plainFor_of_name own_pn445) hisR ?_
  intro p e s m args below meth c s₁ Bd hml0 hP hK
  obtain ⟨rfl, hZ, hh⟩ := hP
  have hx := Bd.exec
  have hby := Bd.bytes
  have hlk := Bd.notSynchronized
  have hml : c.maxLocals = 13 := hml0
  have hown : s.vm.findClass "com/example/lithe_checker/lithechecker/c/StructTypeIsCompletePinLaw" = some m.cls := findClass_of_methodNamed Bd.named
  have hnm := (name_of_methodNamed Bd.named Bd.method).1
  have X0 : Stand p l e room_1 s m #[(.int p1), (.int p2), (.int p3)] below meth c s₁ [] 0 0 := Stand.of_body Bd
  have e0 : s₁.heap = h0 := by rw [← hh, Bd.state]; rfl
  have N0 := Fr.nil n0
  refine own_start (Q := own_Q0 n0) (C := room_1.cells) (N := room_1.slots) (ef_III_13l m p1 p2 p3 ) ?_
  show own_Fin _ _ _ _ _ _ _ s₁ (mkF m 0 #[Iv p1, Iv p2, Iv p3, Uv, Uv, Uv, Uv, Uv, Uv, Uv, Uv, Uv, Uv] [])
  have J11_320 : ∀ (u : Int32) , own_Fin p e below s room_1.cells room_1.slots (own_Q0 n0) s₁ (mkF m 11 #[Iv p1, Iv p2, Iv p3, Uv, Uv, Uv, Uv, Uv, Uv, Uv, Uv, Uv, Uv] [(.int u)]) := by
    intro u
    show own_Fin _ _ _ _ _ _ _ s₁ (mkF m 11 #[Iv p1, Iv p2, Iv p3, Uv, Uv, Uv, Uv, Uv, Uv, Uv, Uv, Uv, Uv] [(.int u)])
    refine own_by (fun _ k => XS.istoreN X0.here hx rfl (hb hby at_11) rfl (l' := #[Iv p1, Iv p2, Iv p3, Iv u, Uv, Uv, Uv, Uv, Uv, Uv, Uv, Uv, Uv]) rfl k) ?_
    show own_Fin _ _ _ _ _ _ _ s₁ (mkF m 12 #[Iv p1, Iv p2, Iv p3, Iv u, Uv, Uv, Uv, Uv, Uv, Uv, Uv, Uv, Uv] [])
    have J23_321 : ∀ (tgd : Int32) , own_Fin p e below s room_1.cells room_1.slots (own_Q0 n0) s₁ (mkF m 23 #[Iv p1, Iv p2, Iv p3, Iv u, Uv, Uv, Uv, Uv, Uv, Uv, Uv, Uv, Uv] [(.int tgd)]) := by
      intro tgd
      show own_Fin _ _ _ _ _ _ _ s₁ (mkF m 23 #[Iv p1, Iv p2, Iv p3, Iv u, Uv, Uv, Uv, Uv, Uv, Uv, Uv, Uv, Uv] [(.int tgd)])
      refine own_by (fun _ k => XS.istore X0.here hx rfl (hb hby at_23) rfl (l' := #[Iv p1, Iv p2, Iv p3, Iv u, Iv tgd, Uv, Uv, Uv, Uv, Uv, Uv, Uv, Uv]) rfl (XS.iloadN X0.here hx rfl (hb hby at_25) rfl (XS.iconst X0.here hx rfl (hb hby at_26) (XS.iushr X0.here hx rfl (hb hby at_27) rfl (XS.iconst X0.here hx rfl (hb hby at_28) (XS.iand X0.here hx rfl (hb hby at_29) rfl (XS.istore X0.here hx rfl (hb hby at_30) rfl (l' := #[Iv p1, Iv p2, Iv p3, Iv u, Iv tgd, Iv (((p1.toUInt32 >>> ((2 : Int32) &&& 31).toUInt32).toInt32) &&& (3 : Int32)), Uv, Uv, Uv, Uv, Uv, Uv, Uv]) rfl k))))))) ?_
      show own_Fin _ _ _ _ _ _ _ s₁ (mkF m 32 #[Iv p1, Iv p2, Iv p3, Iv u, Iv tgd, Iv (((p1.toUInt32 >>> ((2 : Int32) &&& 31).toUInt32).toInt32) &&& (3 : Int32)), Uv, Uv, Uv, Uv, Uv, Uv, Uv] [])
      rcases own_n4 p1 with hn | hn | hn | hn
      · show own_Fin _ _ _ _ _ _ _ s₁ (mkF m 32 #[Iv p1, Iv p2, Iv p3, Iv u, Iv tgd, Iv (((p1.toUInt32 >>> ((2 : Int32) &&& 31).toUInt32).toInt32) &&& (3 : Int32)), Uv, Uv, Uv, Uv, Uv, Uv, Uv] [])
        rw [hn]
        show own_Fin _ _ _ _ _ _ _ s₁ (mkF m 32 #[Iv p1, Iv p2, Iv p3, Iv u, Iv tgd, Iv 0, Uv, Uv, Uv, Uv, Uv, Uv, Uv] [])
        obtain ⟨T322, h322, k322, X322, e322, E322, A322, st322⟩ := newP X0 hx hZ (own_g hw 0) e0 (g := (mkF m 33 #[Iv p1, Iv p2, Iv p3, Iv u, Iv tgd, Iv 0, Uv, Uv, Uv, Uv, Uv, Uv, Uv] [(.int 2)])) rfl (hb hby at_33) rfl (by decide) (cap := 2) (by decide) (by decide) (by decide) (by decide)
        obtain ⟨b322, g322⟩ : ∃ z, z = h0.size := ⟨_, rfl⟩
        rw [← g322] at A322 st322
        have V322 : Arv Z h322 b322 k322 .char (2 : Int32) [(.int (0 : Int32)), (.int (0 : Int32))] (.int (0 : Int32)) := (Arv.new A322 (by decide)).pad (pad_rep [] (.int (0 : Int32)) 2)
        have gf322 : n0 ≤ b322 := Nat.le_trans Z0 (Nat.le_of_eq g322.symm)
        have Zs322 : n0 ≤ h322.size := Nat.le_trans Z0 E322.1
        have f323_0 : Old Z n0 h322 := Od.ext E322
        obtain ⟨cl324, Ar324, q324, S324, M324, H324, G324⟩ := id V322
        have hin324 : ¬ ((0 : Int32) < 0 ∨ cl324.slots.size ≤ ((0 : Int32)).toNatClampNeg) := inb_of S324 ⟨by decide, by decide⟩
        obtain ⟨T324, h324, X324, e324, W324, st324⟩ := stC X322 hx hZ e322 Ar324 (j := (0 : Int32)) hin324 (g := (mkF m 43 #[Iv p1, Iv p2, Iv p3, Iv u, Iv tgd, Iv 0, Uv, Uv, Uv, Uv, Uv, Uv, Uv] [(.int ((p2 &&& (255 : Int32)).toUInt32.toUInt16.toUInt32.toInt32)), (.int 0), (.ref b322), (.ref b322)])) rfl rfl (hb hby at_43)
        have V324 : Arv Z h324 b322 k322 .char (2 : Int32) [(.int ((p2 &&& (255 : Int32)).toUInt32.toUInt16.toUInt32.toInt32).toUInt32.toUInt16.toUInt32.toInt32), (.int (0 : Int32))] (.int (0 : Int32)) := Arv.set Ar324 q324 S324 M324 H324 G324 (fits_nar_char _) W324 0 rfl (Nat.le_of_ble_eq_true rfl)
        have Zs324 : n0 ≤ h324.size := Nat.le_trans Zs322 (Keep.of_wr W324).1
        have N324 := Fr.snoc X324 N0 gf322
        have f325_0 : Old Z n0 h324 := f323_0.wr W324 gf322
        refine own_by (fun _ k => XS.iconst X0.here hx rfl (hb hby at_32) (st322 _ (XS.dup X322.here hx rfl (hb hby at_35) rfl rfl (XS.iconst X322.here hx rfl (hb hby at_36) (XS.iloadN X322.here hx rfl (hb hby at_37) rfl (XS.sipush X322.here hx rfl (hb hby at_38) (XS.iand X322.here hx rfl (hb hby at_41) rfl (XS.i2c X322.here hx rfl (hb hby at_42) rfl (st324 _ (XS.dup X324.here hx rfl (hb hby at_44) rfl rfl k)))))))))) ?_
        show own_Fin _ _ _ _ _ _ _ T324 (mkF m 45 #[Iv p1, Iv p2, Iv p3, Iv u, Iv tgd, Iv 0, Uv, Uv, Uv, Uv, Uv, Uv, Uv] [(.ref b322), (.ref b322)])
        obtain ⟨cl326, Ar326, q326, S326, M326, H326, G326⟩ := id V324
        have hin326 : ¬ ((1 : Int32) < 0 ∨ cl326.slots.size ≤ ((1 : Int32)).toNatClampNeg) := inb_of S326 ⟨by decide, by decide⟩
        obtain ⟨T326, h326, X326, e326, W326, st326⟩ := stC X324 hx hZ e324 Ar326 (j := (1 : Int32)) hin326 (g := (mkF m 52 #[Iv p1, Iv p2, Iv p3, Iv u, Iv tgd, Iv 0, Uv, Uv, Uv, Uv, Uv, Uv, Uv] [(.int ((p3 &&& (255 : Int32)).toUInt32.toUInt16.toUInt32.toInt32)), (.int 1), (.ref b322), (.ref b322)])) rfl rfl (hb hby at_52)
        have V326 : Arv Z h326 b322 k322 .char (2 : Int32) [(.int ((p2 &&& (255 : Int32)).toUInt32.toUInt16.toUInt32.toInt32).toUInt32.toUInt16.toUInt32.toInt32), (.int ((p3 &&& (255 : Int32)).toUInt32.toUInt16.toUInt32.toInt32).toUInt32.toUInt16.toUInt32.toInt32)] (.int (0 : Int32)) := Arv.set Ar326 q326 S326 M326 H326 G326 (fits_nar_char _) W326 1 rfl (Nat.le_of_ble_eq_true rfl)
        have Zs326 : n0 ≤ h326.size := Nat.le_trans Zs324 (Keep.of_wr W326).1
        have N326 := Fr.snoc X326 N324 gf322
        have f327_0 : Old Z n0 h326 := f325_0.wr W326 gf322
        refine own_by (fun _ k => XS.iconst X324.here hx rfl (hb hby at_45) (XS.iloadN X324.here hx rfl (hb hby at_46) rfl (XS.sipush X324.here hx rfl (hb hby at_47) (XS.iand X324.here hx rfl (hb hby at_50) rfl (XS.i2c X324.here hx rfl (hb hby at_51) rfl (st326 _ (XS.astore X326.here hx rfl (hb hby at_53) rfl rfl (l' := #[Iv p1, Iv p2, Iv p3, Iv u, Iv tgd, Iv 0, Rv b322, Uv, Uv, Uv, Uv, Uv, Uv]) rfl (XS.iload X326.here hx rfl (hb hby at_55) rfl k)))))))) ?_
        show own_Fin _ _ _ _ _ _ _ T326 (mkF m 57 #[Iv p1, Iv p2, Iv p3, Iv u, Iv tgd, Iv 0, Rv b322, Uv, Uv, Uv, Uv, Uv, Uv] [(.int tgd)])
        by_cases hc57_328 : tgd = (0 : Int32)
        · show own_Fin _ _ _ _ _ _ _ T326 (mkF m 57 #[Iv p1, Iv p2, Iv p3, Iv u, Iv tgd, Iv 0, Rv b322, Uv, Uv, Uv, Uv, Uv, Uv] [(.int tgd)])
          obtain ⟨T329, h329, X329, e329, E329, A329, D329, -, st329⟩ := newO X326 hx hZ hown (own_g hw 1) (own_g hw 2) (own_g hw 3) e326 (g := (mkF m 75 #[Iv p1, Iv p2, Iv p3, Iv u, Iv tgd, Iv 0, Rv b322, Nv, Uv, Uv, Uv, Uv, Uv] [])) rfl (hb hby at_75) (by decide) (by decide)
          obtain ⟨b329, g329⟩ : ∃ z, z = h326.size := ⟨_, rfl⟩
          rw [← g329] at A329 D329 st329
          have ne329_b322 : b322 ≠ b329 := Nat.ne_of_lt (Nat.lt_of_lt_of_le V326.lt (Nat.le_of_eq g329.symm))
          have gf329 : n0 ≤ b329 := Nat.le_trans Zs326 (Nat.le_of_eq g329.symm)
          have Zs329 : n0 ≤ h329.size := Nat.le_trans Zs326 E329.1
          have f330_0 : Old Z n0 h329 := f327_0.ext E329
          have f330_1 : Arv Z h329 b322 k322 .char (2 : Int32) [(.int ((p2 &&& (255 : Int32)).toUInt32.toUInt16.toUInt32.toInt32).toUInt32.toUInt16.toUInt32.toInt32), (.int ((p3 &&& (255 : Int32)).toUInt32.toUInt16.toUInt32.toInt32).toUInt32.toUInt16.toUInt32.toInt32)] (.int (0 : Int32)) := V326.ext E329
          have F329_union : Fld Z h329 b329 "com/example/lithe_checker/lithechecker/c/CType$StructType" "union" "Z" (.int (0 : Int32)) := D329 (Or.inr (own_g hw 16)) (ty := .boolean) (by decide)
          have F329_tag : Fld Z h329 b329 "com/example/lithe_checker/lithechecker/c/CType$StructType" "tag" "Ljava/lang/String;" .null := D329 (Or.inr (own_g hw 18)) (ty := (.object "java/lang/String")) (by decide)
          have F329_members : Fld Z h329 b329 "com/example/lithe_checker/lithechecker/c/CType$StructType" "members" "Ljava/util/List;" .null := D329 (Or.inl (own_g hw 25)) (ty := (.object "java/util/List")) (by decide)
          obtain ⟨_, _, ⟨T331, L331, k331, n331⟩, -, X331, ⟨Lc331, hQ331, l331, y331, z331⟩, st331⟩ := X329.specialBack hx (y := mn29) rfl hown (own_m hZ hw 4) (own_m hZ hw 5) (own_m hZ hw 6) (by decide) (backOf (W := 1) (rmSI l Z a0 hw [] b329 u .null h329 n0 Zs329 A329 F329_union F329_tag F329_members gf329 rfl) hZ (own_g hw 6) (own_g hw 3) (by decide) (by decide)) (g := (mkF m 82 #[Iv p1, Iv p2, Iv p3, Iv u, Iv tgd, Iv 0, Rv b322, Nv, Uv, Uv, Uv, Uv, Uv] [.null, (.int u), (.ref b329), (.ref b329)])) rfl (by rw [hml]; rfl) (Steps.refl _) (a := b329) (argsL := [(.int u), .null]) (rest := [(.ref b329)]) (lenOf own_pd446 rfl) rfl (own_z rfl) (hb hby at_82) (fun _ _ => ⟨rfl, e329, (by decide : 2 + 0 ≤ _), (by decide : 5 + 0 ≤ _)⟩)
          dsimp only [Pt.U, Pt.locs, Pt.cells, Pt.slots] at X331 l331 y331 z331 st331 hQ331
          subst l331 y331 z331
          obtain ⟨rfl, Nq331, K331, Gm331⟩ := hQ331
          have N331 := Fr.app N326 Nq331
          have Zs331 : n0 ≤ T331.heap.size := Nat.le_trans Zs329 K331.1
          have f332_0 : Old Z n0 T331.heap := f330_0.keep K331 (allS gf329 all0)
          have f332_1 : Arv Z T331.heap b322 k322 .char (2 : Int32) [(.int ((p2 &&& (255 : Int32)).toUInt32.toUInt16.toUInt32.toInt32).toUInt32.toUInt16.toUInt32.toInt32), (.int ((p3 &&& (255 : Int32)).toUInt32.toUInt16.toUInt32.toInt32).toUInt32.toUInt16.toUInt32.toInt32)] (.int (0 : Int32)) := f330_1.keep K331 (ninS ne329_b322 nin0)
          have f332_2 : Exa Z T331.heap b329 "com/example/lithe_checker/lithechecker/c/CType$StructType" := A329.keep K331
          obtain ⟨cq333, kq333, q333a, q333b, q333c⟩ := isOf hZ rfl f332_2
          obtain ⟨_, _, ⟨T333, L333, k333, n333⟩, -, X333, ⟨Lc333, hQ333, l333, y333, z333⟩, st333⟩ := X331.virtualBack hx (y := mn30) (z := mn30) hown (own_m hZ hw 19) (own_m hZ hw 20) (notFace_of_selects (args := #[]) (own_m hZ hw 22)) (own_m hZ hw 22) (own_m hZ hw 21) (by decide) (backOf (W := 0) (rmIc0 l Z a0 hw [] b329 T331.heap n0 Zs331 Gm331) hZ (own_g hw 23) (own_g hw 3) (by decide) (by decide)) q333a q333c (g := (mkF m 89 #[Iv p1, Iv p2, Iv p3, Iv u, Iv tgd, Iv 0, Rv b322, Nv, Rv b329, Uv, Uv, Uv, Uv] [(.ref b329)])) rfl (by rw [hml]; rfl) (Steps.refl _) (argsL := []) (rest := []) (lenOf own_pd251 rfl) rfl (own_z rfl) (hb hby at_89) (fun _ _ => ⟨rfl, rfl, (by decide : 2 + 0 ≤ _), (by decide : 5 + 0 ≤ _)⟩)
          dsimp only [Pt.U, Pt.locs, Pt.cells, Pt.slots] at X333 l333 y333 z333 st333 hQ333
          subst l333 y333 z333
          obtain ⟨rfl, Nq333, eh333⟩ := hQ333
          have N333 := Fr.app N331 Nq333
          refine own_by (fun _ k => XS.ifYes X326.here hx rfl (pc0 := 57) (pc' := 72) rfl (hb hby at_57) rfl ((if0 _ _).trans (teq hc57_328).1) (by decide) (by decide) (XS.aconstNull X326.here hx rfl (hb hby at_72) (XS.astore X326.here hx rfl (hb hby at_73) rfl rfl (l' := #[Iv p1, Iv p2, Iv p3, Iv u, Iv tgd, Iv 0, Rv b322, Nv, Uv, Uv, Uv, Uv, Uv]) rfl (st329 _ (XS.dup X329.here hx rfl (hb hby at_78) rfl rfl (XS.iloadN X329.here hx rfl (hb hby at_79) rfl (XS.aload X329.here hx rfl (hb hby at_80) rfl rfl (st331.trans (XS.astore X331.here hx rfl (hb hby at_85) rfl rfl (l' := #[Iv p1, Iv p2, Iv p3, Iv u, Iv tgd, Iv 0, Rv b322, Nv, Rv b329, Uv, Uv, Uv, Uv]) rfl (XS.aload X331.here hx rfl (hb hby at_87) rfl rfl k)))))))))) ?_
          show own_Fin _ _ _ _ _ _ _ T331 (mkF m 89 #[Iv p1, Iv p2, Iv p3, Iv u, Iv tgd, Iv 0, Rv b322, Nv, Rv b329, Uv, Uv, Uv, Uv] [(.ref b329)])
          obtain ⟨T334, h334, X334, e334, E334, A334, D334, -, st334⟩ := newO X333 hx hZ hown (own_g hw 26) (own_g hw 27) (own_g hw 28) eh333 (g := (mkF m 102 #[Iv p1, Iv p2, Iv p3, Iv u, Iv tgd, Iv 0, Rv b322, Nv, Rv b329, Iv 1, Uv, Uv, Uv] [])) rfl (hb hby at_102) (by decide) (by decide)
          obtain ⟨b334, g334⟩ : ∃ z, z = T331.heap.size := ⟨_, rfl⟩
          rw [← g334] at A334 D334 st334
          have ne334_b322 : b322 ≠ b334 := Nat.ne_of_lt (Nat.lt_of_lt_of_le f332_1.lt (Nat.le_of_eq g334.symm))
          have ne334_b329 : b329 ≠ b334 := Nat.ne_of_lt (Nat.lt_of_lt_of_le f332_2.lt (Nat.le_of_eq g334.symm))
          have gf334 : n0 ≤ b334 := Nat.le_trans Zs331 (Nat.le_of_eq g334.symm)
          have Zs334 : n0 ≤ h334.size := Nat.le_trans Zs331 E334.1
          have f335_0 : Old Z n0 h334 := f332_0.ext E334
          have f335_1 : Arv Z h334 b322 k322 .char (2 : Int32) [(.int ((p2 &&& (255 : Int32)).toUInt32.toUInt16.toUInt32.toInt32).toUInt32.toUInt16.toUInt32.toInt32), (.int ((p3 &&& (255 : Int32)).toUInt32.toUInt16.toUInt32.toInt32).toUInt32.toUInt16.toUInt32.toInt32)] (.int (0 : Int32)) := f332_1.ext E334
          have f335_2 : Exa Z h334 b329 "com/example/lithe_checker/lithechecker/c/CType$StructType" := f332_2.ext E334
          have f335_3 : Fld Z h334 b329 "com/example/lithe_checker/lithechecker/c/CType$StructType" "members" "Ljava/util/List;" .null := Gm331.ext E334
          have F334_modCount : Fld Z h334 b334 "java/util/AbstractList" "modCount" "I" (.int (0 : Int32)) := D334 (Or.inl (own_g hw 46)) (ty := .int) (by decide)
          have F334_elementData : Fld Z h334 b334 "java/util/ArrayList" "elementData" "[Ljava/lang/Object;" .null := D334 (Or.inl (own_g hw 49)) (ty := (.array (.object "java/lang/Object"))) (by decide)
          have F334_size : Fld Z h334 b334 "java/util/ArrayList" "size" "I" (.int (0 : Int32)) := D334 (Or.inl (own_g hw 79)) (ty := .int) (by decide)
          obtain ⟨_, _, ⟨T336, L336, k336, n336⟩, -, X336, ⟨Lc336, hQ336, l336, y336, z336⟩, st336⟩ := X334.specialBack hx (y := mn7) rfl hown (own_m hZ hw 29) (own_m hZ hw 30) (own_m hZ hw 31) (by decide) (backOf (W := 1) (rmALI l Z a0 hw [] cs da el ea em ci mm kd ke b334 h334 n0 Zs334 V_env f335_0 A334 F334_modCount F334_elementData F334_size gf334) hZ (own_g hw 31) (own_g hw 28) (by decide) (by decide)) (g := (mkF m 106 #[Iv p1, Iv p2, Iv p3, Iv u, Iv tgd, Iv 0, Rv b322, Nv, Rv b329, Iv 1, Uv, Uv, Uv] [(.ref b334), (.ref b334)])) rfl (by rw [hml]; rfl) (Steps.refl _) (a := b334) (argsL := []) (rest := [(.ref b334)]) (lenOf own_pd12 rfl) rfl (own_z rfl) (hb hby at_106) (fun _ _ => ⟨rfl, e334, (by decide : 3 + 0 ≤ _), (by decide : 8 + 0 ≤ _)⟩)
          dsimp only [Pt.U, Pt.locs, Pt.cells, Pt.slots] at X336 l336 y336 z336 st336 hQ336
          subst l336 y336 z336
          obtain ⟨rfl, Nq336, K336, Gm336, Ge336, Gs336⟩ := hQ336
          have N336 := Fr.app N333 Nq336
          have Zs336 : n0 ≤ T336.heap.size := Nat.le_trans Zs334 K336.1
          have f337_0 : Old Z n0 T336.heap := f335_0.keep K336 (allS gf334 all0)
          have f337_1 : Arv Z T336.heap b322 k322 .char (2 : Int32) [(.int ((p2 &&& (255 : Int32)).toUInt32.toUInt16.toUInt32.toInt32).toUInt32.toUInt16.toUInt32.toInt32), (.int ((p3 &&& (255 : Int32)).toUInt32.toUInt16.toUInt32.toInt32).toUInt32.toUInt16.toUInt32.toInt32)] (.int (0 : Int32)) := f335_1.keep K336 (ninS ne334_b322 nin0)
          have f337_2 : Exa Z T336.heap b329 "com/example/lithe_checker/lithechecker/c/CType$StructType" := f335_2.keep K336
          have f337_3 : Fld Z T336.heap b329 "com/example/lithe_checker/lithechecker/c/CType$StructType" "members" "Ljava/util/List;" .null := f335_3.keep K336 (ninS ne334_b329 nin0)
          have f337_4 : Exa Z T336.heap b334 "java/util/ArrayList" := A334.keep K336
          refine own_by (fun _ k => st333.trans (XS.ifNo X333.here hx rfl (hb hby at_92) rfl ((if0 _ _).trans (teq (by decide : (0 : Int32) = (0 : Int32))).2) (XS.iconst X333.here hx rfl (hb hby at_95) (XS.goto X333.here hx rfl (pc0 := 96) (pc' := 100) rfl (hb hby at_96) (by decide) (by decide) (XS.istore X333.here hx rfl (hb hby at_100) rfl (l' := #[Iv p1, Iv p2, Iv p3, Iv u, Iv tgd, Iv 0, Rv b322, Nv, Rv b329, Iv 1, Uv, Uv, Uv]) rfl (st334 _ (XS.dup X334.here hx rfl (hb hby at_105) rfl rfl (st336.trans (XS.astore X336.here hx rfl (hb hby at_109) rfl rfl (l' := #[Iv p1, Iv p2, Iv p3, Iv u, Iv tgd, Iv 0, Rv b322, Nv, Rv b329, Iv 1, Rv b334, Uv, Uv]) rfl (XS.iload X336.here hx rfl (hb hby at_111) rfl k)))))))))) ?_
          show own_Fin _ _ _ _ _ _ _ T336 (mkF m 113 #[Iv p1, Iv p2, Iv p3, Iv u, Iv tgd, Iv 0, Rv b322, Nv, Rv b329, Iv 1, Rv b334, Uv, Uv] [(.int 0)])
          obtain ⟨cq338, kq338, q338a, q338b, q338c⟩ := isOf hZ rfl f337_2
          obtain ⟨_, _, ⟨T338, L338, k338, n338⟩, -, X338, ⟨Lc338, hQ338, l338, y338, z338⟩, st338⟩ := X336.virtualBack hx (y := mn32) (z := mn32) hown (own_m hZ hw 50) (own_m hZ hw 51) (notFace_of_selects (args := #[]) (own_m hZ hw 53)) (own_m hZ hw 53) (own_m hZ hw 52) (by decide) (backOf (W := 0) (rmCo0 l Z a0 hw [] cs da el ea em ci mm kd ke b329 b334  T336.heap n0 Zs336 V_env f337_0 f337_2 f337_3 gf329 f337_4 Gs336  ne334_b329) hZ (own_g hw 54) (own_g hw 3) (by decide) (by decide)) q338a q338c (g := (mkF m 208 #[Iv p1, Iv p2, Iv p3, Iv u, Iv tgd, Iv 0, Rv b322, Nv, Rv b329, Iv 1, Rv b334, Uv, Uv] [(.ref b334), (.ref b329)])) rfl (by rw [hml]; rfl) (Steps.refl _) (argsL := [(.ref b334)]) (rest := []) (lenOf own_pd447 rfl) rfl (own_z rfl) (hb hby at_208) (fun _ _ => ⟨rfl, rfl, (by decide : 3 + 0 ≤ _), (by decide : 8 + 0 ≤ _)⟩)
          dsimp only [Pt.U, Pt.locs, Pt.cells, Pt.slots] at X338 l338 y338 z338 st338 hQ338
          subst l338 y338 z338
          obtain ⟨rfl, Nq338, K338, Gm338⟩ := hQ338
          have N338 := Fr.app N336 Nq338
          refine own_by (fun _ k => XS.iconst X336.here hx rfl (hb hby at_113) (XS.icmpYes X336.here hx rfl (pc0 := 114) (pc' := 142) rfl (hb hby at_114) rfl (tlt (by decide : (0 : Int32) < (1 : Int32))).1 (by decide) (by decide) (XS.iload X336.here hx rfl (hb hby at_142) rfl (XS.iconst X336.here hx rfl (hb hby at_144) (XS.icmpYes X336.here hx rfl (pc0 := 145) (pc' := 173) rfl (hb hby at_145) rfl (tlt (by decide : (0 : Int32) < (2 : Int32))).1 (by decide) (by decide) (XS.iload X336.here hx rfl (hb hby at_173) rfl (XS.iconst X336.here hx rfl (hb hby at_175) (XS.icmpYes X336.here hx rfl (pc0 := 176) (pc' := 204) rfl (hb hby at_176) rfl (tlt (by decide : (0 : Int32) < (3 : Int32))).1 (by decide) (by decide) (XS.aload X336.here hx rfl (hb hby at_204) rfl rfl (XS.aload X336.here hx rfl (hb hby at_206) rfl rfl k)))))))))) ?_
          show own_Fin _ _ _ _ _ _ _ T336 (mkF m 208 #[Iv p1, Iv p2, Iv p3, Iv u, Iv tgd, Iv 0, Rv b322, Nv, Rv b329, Iv 1, Rv b334, Uv, Uv] [(.ref b334), (.ref b329)])
          have Zs338 : n0 ≤ T338.heap.size := Nat.le_trans Zs336 K338.1
          have f339_0 : Old Z n0 T338.heap := f337_0.keep K338 (allS gf329 all0)
          have f339_1 : Arv Z T338.heap b322 k322 .char (2 : Int32) [(.int ((p2 &&& (255 : Int32)).toUInt32.toUInt16.toUInt32.toInt32).toUInt32.toUInt16.toUInt32.toInt32), (.int ((p3 &&& (255 : Int32)).toUInt32.toUInt16.toUInt32.toInt32).toUInt32.toUInt16.toUInt32.toInt32)] (.int (0 : Int32)) := f337_1.keep K338 (ninS ne329_b322 nin0)
          have f339_2 : Exa Z T338.heap b329 "com/example/lithe_checker/lithechecker/c/CType$StructType" := f337_2.keep K338
          have f339_4 : Exa Z T338.heap b334 "java/util/ArrayList" := f337_4.keep K338
          have f339_5 : Fld Z T338.heap b334 "java/util/AbstractList" "modCount" "I" (.int (0 : Int32)) := Gm336.keep K338 (ninS (Ne.symm ne334_b329) nin0)
          have f339_6 : Fld Z T338.heap b334 "java/util/ArrayList" "elementData" "[Ljava/lang/Object;" (.ref da) := Ge336.keep K338 (ninS (Ne.symm ne334_b329) nin0)
          have f339_7 : Fld Z T338.heap b334 "java/util/ArrayList" "size" "I" (.int (0 : Int32)) := Gs336.keep K338 (ninS (Ne.symm ne334_b329) nin0)
          obtain ⟨cq340, kq340, q340a, q340b, q340c⟩ := isOf hZ rfl f339_2
          obtain ⟨_, _, ⟨T340, L340, k340, n340⟩, -, X340, ⟨Lc340, hQ340, l340, y340, z340⟩, st340⟩ := X338.virtualBack hx (y := mn30) (z := mn30) hown (own_m hZ hw 19) (own_m hZ hw 20) (notFace_of_selects (args := #[]) (own_m hZ hw 22)) (own_m hZ hw 22) (own_m hZ hw 21) (by decide) (backOf (W := 0) (rmIc1 l Z a0 hw [] b329 el T338.heap n0 Zs338 Gm338) hZ (own_g hw 23) (own_g hw 3) (by decide) (by decide)) q340a q340c (g := (mkF m 213 #[Iv p1, Iv p2, Iv p3, Iv u, Iv tgd, Iv 0, Rv b322, Nv, Rv b329, Iv 1, Rv b334, Uv, Uv] [(.ref b329)])) rfl (by rw [hml]; rfl) (Steps.refl _) (argsL := []) (rest := []) (lenOf own_pd251 rfl) rfl (own_z rfl) (hb hby at_213) (fun _ _ => ⟨rfl, rfl, (by decide : 3 + 0 ≤ _), (by decide : 8 + 0 ≤ _)⟩)
          dsimp only [Pt.U, Pt.locs, Pt.cells, Pt.slots] at X340 l340 y340 z340 st340 hQ340
          subst l340 y340 z340
          obtain ⟨rfl, Nq340, eh340⟩ := hQ340
          have N340 := Fr.app N338 Nq340
          obtain ⟨cq341, kq341, q341a, q341b, q341c⟩ := isOf hZ eh340 f339_2
          obtain ⟨_, _, ⟨T341, L341, k341, n341⟩, -, X341, ⟨Lc341, hQ341, l341, y341, z341⟩, st341⟩ := X340.virtualBack hx (y := mn31) (z := mn31) hown (own_m hZ hw 84) (own_m hZ hw 85) (notFace_of_selects (args := #[]) (own_m hZ hw 87)) (own_m hZ hw 87) (own_m hZ hw 86) (by decide) (backOf (W := 0) (rmMb l Z a0 hw [] b329 el T338.heap n0 Zs338 Gm338) hZ (own_g hw 88) (own_g hw 3) (by decide) (by decide)) q341a q341c (g := (mkF m 220 #[Iv p1, Iv p2, Iv p3, Iv u, Iv tgd, Iv 0, Rv b322, Nv, Rv b329, Iv 1, Rv b334, Iv 1, Uv] [(.ref b329)])) rfl (by rw [hml]; rfl) (Steps.refl _) (argsL := []) (rest := []) (lenOf own_pd280 rfl) rfl (own_z rfl) (hb hby at_220) (fun _ _ => ⟨rfl, eh340, (by decide : 3 + 0 ≤ _), (by decide : 8 + 0 ≤ _)⟩)
          dsimp only [Pt.U, Pt.locs, Pt.cells, Pt.slots] at X341 l341 y341 z341 st341 hQ341
          subst l341 y341 z341
          obtain ⟨rfl, Nq341, eh341⟩ := hQ341
          have N341 := Fr.app N340 Nq341
          obtain ⟨cq342, kq342, q342a, q342b, q342c⟩ := isOf hZ eh341 (V_env.2.2.2.2.2.1.ext f339_0.2)
          obtain ⟨_, _, ⟨T342, L342, k342, n342⟩, -, X342, ⟨Lc342, hQ342, l342, y342, z342⟩, st342⟩ := X341.interfaceBack hx (xi := mn43) (y := mn20) hown (own_m hZ hw 89) (own_m hZ hw 90) (own_m hZ hw 91) (own_m hZ hw 92) (own_m hZ hw 93) (own_m hZ hw 94) (own_m hZ hw 95) (own_m hZ hw 96) (by decide) (backOf (W := 0) (rmZN l Z a0 hw [] el ea ke (0 : Int32) [] T338.heap n0 Zs338 (V_env.2.2.2.2.2.2.1.ext f339_0.2) (V_env.2.2.2.2.2.2.2.1.ext f339_0.2)) hZ (own_g hw 98) (own_g hw 97) (by decide) (by decide)) q342a q342b q342c (g := (mkF m 223 #[Iv p1, Iv p2, Iv p3, Iv u, Iv tgd, Iv 0, Rv b322, Nv, Rv b329, Iv 1, Rv b334, Iv 1, Uv] [(.ref el)])) rfl (by rw [hml]; rfl) (Steps.refl _) (argsL := []) (rest := []) (lenOf own_pd448 rfl) rfl (own_z rfl) (hb hby at_223) (fun _ _ => ⟨rfl, eh341, (by decide : 3 + 0 ≤ _), (by decide : 8 + 0 ≤ _)⟩)
          dsimp only [Pt.U, Pt.locs, Pt.cells, Pt.slots] at X342 l342 y342 z342 st342 hQ342
          subst l342 y342 z342
          obtain ⟨rfl, Nq342, eh342⟩ := hQ342
          have N342 := Fr.app N341 Nq342
          refine own_by (fun _ k => st338.trans (XS.aload X338.here hx rfl (hb hby at_211) rfl rfl (st340.trans (XS.istore X340.here hx rfl (hb hby at_216) rfl (l' := #[Iv p1, Iv p2, Iv p3, Iv u, Iv tgd, Iv 0, Rv b322, Nv, Rv b329, Iv 1, Rv b334, Iv 1, Uv]) rfl (XS.aload X340.here hx rfl (hb hby at_218) rfl rfl (st341.trans (st342.trans (XS.iload X342.here hx rfl (hb hby at_228) rfl (XS.icmpNo X342.here hx rfl (hb hby at_230) rfl (teq (by decide : (0 : Int32) = (0 : Int32))).2 (XS.iconst X342.here hx rfl (hb hby at_233) k)))))))))) ?_
          show own_Fin _ _ _ _ _ _ _ T342 (mkF m 234 #[Iv p1, Iv p2, Iv p3, Iv u, Iv tgd, Iv 0, Rv b322, Nv, Rv b329, Iv 1, Rv b334, Iv 1, Uv] [(.int 1)])
          refine own_by (fun _ k => XS.goto X342.here hx rfl (pc0 := 234) (pc' := 238) rfl (hb hby at_234) (by decide) (by decide) (XS.istore X342.here hx rfl (hb hby at_238) rfl (l' := #[Iv p1, Iv p2, Iv p3, Iv u, Iv tgd, Iv 0, Rv b322, Nv, Rv b329, Iv 1, Rv b334, Iv 1, Iv 1]) rfl (XS.iload X342.here hx rfl (hb hby at_240) rfl (XS.ifNo X342.here hx rfl (hb hby at_242) rfl ((if0 _ _).trans (feq (by decide : ¬ ((1 : Int32) = (0 : Int32)))).1) (XS.iload X342.here hx rfl (hb hby at_245) rfl (XS.ifNo X342.here hx rfl (hb hby at_247) rfl ((if0 _ _).trans (feq (by decide : ¬ ((1 : Int32) = (0 : Int32)))).1) (XS.iload X342.here hx rfl (hb hby at_250) rfl (XS.ifNo X342.here hx rfl (hb hby at_252) rfl ((if0 _ _).trans (feq (by decide : ¬ ((1 : Int32) = (0 : Int32)))).1) (XS.iconst X342.here hx rfl (hb hby at_255) (XS.goto X342.here hx rfl (pc0 := 256) (pc' := 260) rfl (hb hby at_256) (by decide) (by decide) k)))))))))) ?_
          exact own_retZ X342 hx hlk (t := .boolean) Bd.returns (by simp) (hb hby at_260) ⟨rfl, N342⟩ (by decide) (by decide)
        · show own_Fin _ _ _ _ _ _ _ T326 (mkF m 57 #[Iv p1, Iv p2, Iv p3, Iv u, Iv tgd, Iv 0, Rv b322, Uv, Uv, Uv, Uv, Uv, Uv] [(.int tgd)])
          obtain ⟨T343, h343, X343, e343, E343, A343, D343, -, st343⟩ := newO X326 hx hZ hown (own_g hw 236) (own_g hw 114) (own_g hw 106) e326 (g := (mkF m 60 #[Iv p1, Iv p2, Iv p3, Iv u, Iv tgd, Iv 0, Rv b322, Uv, Uv, Uv, Uv, Uv, Uv] [])) rfl (hb hby at_60) (by decide) (by decide)
          obtain ⟨b343, g343⟩ : ∃ z, z = h326.size := ⟨_, rfl⟩
          rw [← g343] at A343 D343 st343
          have ne343_b322 : b322 ≠ b343 := Nat.ne_of_lt (Nat.lt_of_lt_of_le V326.lt (Nat.le_of_eq g343.symm))
          have gf343 : n0 ≤ b343 := Nat.le_trans Zs326 (Nat.le_of_eq g343.symm)
          have Zs343 : n0 ≤ h343.size := Nat.le_trans Zs326 E343.1
          have f344_0 : Old Z n0 h343 := f327_0.ext E343
          have f344_1 : Arv Z h343 b322 k322 .char (2 : Int32) [(.int ((p2 &&& (255 : Int32)).toUInt32.toUInt16.toUInt32.toInt32).toUInt32.toUInt16.toUInt32.toInt32), (.int ((p3 &&& (255 : Int32)).toUInt32.toUInt16.toUInt32.toInt32).toUInt32.toUInt16.toUInt32.toInt32)] (.int (0 : Int32)) := V326.ext E343
          have F343_value : Fld Z h343 b343 "java/lang/String" "value" "[B" .null := D343 (Or.inr (own_g hw 125)) (ty := (.array .byte)) (by decide)
          have F343_coder : Fld Z h343 b343 "java/lang/String" "coder" "B" (.int (0 : Int32)) := D343 (Or.inr (own_g hw 127)) (ty := .byte) (by decide)
          have Vt345 : Arv Z h343 b322 k322 .char (2 : Int32) [(.int ((p2 &&& (255 : Int32)).toUInt32.toUInt16.toUInt32.toInt32)), (.int ((p3 &&& (255 : Int32)).toUInt32.toUInt16.toUInt32.toInt32))] (.int (0 : Int32)) := by have q := f344_1; simp only [own_c16] at q; exact q
          obtain ⟨_, _, ⟨T346, L346, k346, n346⟩, -, X346, ⟨Lc346, hQ346, l346, y346, z346⟩, st346⟩ := X343.specialBack hx (y := mn37) rfl hown (own_m hZ hw 237) (own_m hZ hw 238) (own_m hZ hw 239) (by decide) (backOf (W := 1) (rmSC2 l Z a0 hw [] b343 b322 k322 cs ((p2 &&& (255 : Int32)).toUInt32.toUInt16.toUInt32.toInt32) ((p3 &&& (255 : Int32)).toUInt32.toUInt16.toUInt32.toInt32) h343 n0 Zs343 A343 F343_value F343_coder gf343 Vt345 ne343_b322 (own_lat p2) (own_lat p3) (V_env.1.ext f344_0.2) V_env.2.1) hZ (own_g hw 239) (own_g hw 106) (by decide) (by decide)) (g := (mkF m 66 #[Iv p1, Iv p2, Iv p3, Iv u, Iv tgd, Iv 0, Rv b322, Uv, Uv, Uv, Uv, Uv, Uv] [(.ref b322), (.ref b343), (.ref b343)])) rfl (by rw [hml]; rfl) (Steps.refl _) (a := b343) (argsL := [(.ref b322)]) (rest := [(.ref b343)]) (lenOf own_pd449 rfl) rfl (own_z rfl) (hb hby at_66) (fun _ _ => ⟨rfl, e343, (by decide : 2 + 1 ≤ _), (by decide : 6 + 2 ≤ _)⟩)
          dsimp only [Pt.U, Pt.locs, Pt.cells, Pt.slots] at X346 l346 y346 z346 st346 hQ346
          subst l346 y346 z346
          obtain ⟨bs346, ks346, rfl, Nq346, K346, Gc346, Gv346, Vs346⟩ := hQ346
          have N346 := Fr.app N326 Nq346
          have Zs346 : n0 ≤ T346.heap.size := Nat.le_trans Zs343 K346.1
          have f347_0 : Old Z n0 T346.heap := f344_0.keep K346 (allS gf343 all0)
          have f347_1 : Arv Z T346.heap b322 k322 .char (2 : Int32) [(.int ((p2 &&& (255 : Int32)).toUInt32.toUInt16.toUInt32.toInt32).toUInt32.toUInt16.toUInt32.toInt32), (.int ((p3 &&& (255 : Int32)).toUInt32.toUInt16.toUInt32.toInt32).toUInt32.toUInt16.toUInt32.toInt32)] (.int (0 : Int32)) := f344_1.keep K346 (ninS ne343_b322 nin0)
          have f347_2 : Exa Z T346.heap b343 "java/lang/String" := A343.keep K346
          obtain ⟨T348, h348, X348, e348, E348, A348, D348, -, st348⟩ := newO X346 hx hZ hown (own_g hw 1) (own_g hw 2) (own_g hw 3) rfl (g := (mkF m 75 #[Iv p1, Iv p2, Iv p3, Iv u, Iv tgd, Iv 0, Rv b322, Rv b343, Uv, Uv, Uv, Uv, Uv] [])) rfl (hb hby at_75) (by decide) (by decide)
          obtain ⟨b348, g348⟩ : ∃ z, z = T346.heap.size := ⟨_, rfl⟩
          rw [← g348] at A348 D348 st348
          have ne348_b322 : b322 ≠ b348 := Nat.ne_of_lt (Nat.lt_of_lt_of_le f347_1.lt (Nat.le_of_eq g348.symm))
          have ne348_b343 : b343 ≠ b348 := Nat.ne_of_lt (Nat.lt_of_lt_of_le f347_2.lt (Nat.le_of_eq g348.symm))
          have gf348 : n0 ≤ b348 := Nat.le_trans Zs346 (Nat.le_of_eq g348.symm)
          have Zs348 : n0 ≤ h348.size := Nat.le_trans Zs346 E348.1
          have f349_0 : Old Z n0 h348 := f347_0.ext E348
          have f349_1 : Arv Z h348 b322 k322 .char (2 : Int32) [(.int ((p2 &&& (255 : Int32)).toUInt32.toUInt16.toUInt32.toInt32).toUInt32.toUInt16.toUInt32.toInt32), (.int ((p3 &&& (255 : Int32)).toUInt32.toUInt16.toUInt32.toInt32).toUInt32.toUInt16.toUInt32.toInt32)] (.int (0 : Int32)) := f347_1.ext E348
          have f349_2 : Exa Z h348 b343 "java/lang/String" := f347_2.ext E348
          have F348_union : Fld Z h348 b348 "com/example/lithe_checker/lithechecker/c/CType$StructType" "union" "Z" (.int (0 : Int32)) := D348 (Or.inr (own_g hw 16)) (ty := .boolean) (by decide)
          have F348_tag : Fld Z h348 b348 "com/example/lithe_checker/lithechecker/c/CType$StructType" "tag" "Ljava/lang/String;" .null := D348 (Or.inr (own_g hw 18)) (ty := (.object "java/lang/String")) (by decide)
          have F348_members : Fld Z h348 b348 "com/example/lithe_checker/lithechecker/c/CType$StructType" "members" "Ljava/util/List;" .null := D348 (Or.inl (own_g hw 25)) (ty := (.object "java/util/List")) (by decide)
          refine own_by (fun _ k => XS.ifNo X326.here hx rfl (hb hby at_57) rfl ((if0 _ _).trans (feq hc57_328).1) (st343 _ (XS.dup X343.here hx rfl (hb hby at_63) rfl rfl (XS.aload X343.here hx rfl (hb hby at_64) rfl rfl (st346.trans (XS.goto X346.here hx rfl (pc0 := 69) (pc' := 73) rfl (hb hby at_69) (by decide) (by decide) (XS.astore X346.here hx rfl (hb hby at_73) rfl rfl (l' := #[Iv p1, Iv p2, Iv p3, Iv u, Iv tgd, Iv 0, Rv b322, Rv b343, Uv, Uv, Uv, Uv, Uv]) rfl (st348 _ (XS.dup X348.here hx rfl (hb hby at_78) rfl rfl (XS.iloadN X348.here hx rfl (hb hby at_79) rfl k)))))))))) ?_
          show own_Fin _ _ _ _ _ _ _ T348 (mkF m 80 #[Iv p1, Iv p2, Iv p3, Iv u, Iv tgd, Iv 0, Rv b322, Rv b343, Uv, Uv, Uv, Uv, Uv] [(.int u), (.ref b348), (.ref b348)])
          obtain ⟨_, _, ⟨T350, L350, k350, n350⟩, -, X350, ⟨Lc350, hQ350, l350, y350, z350⟩, st350⟩ := X348.specialBack hx (y := mn29) rfl hown (own_m hZ hw 4) (own_m hZ hw 5) (own_m hZ hw 6) (by decide) (backOf (W := 1) (rmSI l Z a0 hw [] b348 u (.ref b343) h348 n0 Zs348 A348 F348_union F348_tag F348_members gf348 rfl) hZ (own_g hw 6) (own_g hw 3) (by decide) (by decide)) (g := (mkF m 82 #[Iv p1, Iv p2, Iv p3, Iv u, Iv tgd, Iv 0, Rv b322, Rv b343, Uv, Uv, Uv, Uv, Uv] [(.ref b343), (.int u), (.ref b348), (.ref b348)])) rfl (by rw [hml]; rfl) (Steps.refl _) (a := b348) (argsL := [(.int u), (.ref b343)]) (rest := [(.ref b348)]) (lenOf own_pd446 rfl) rfl (own_z rfl) (hb hby at_82) (fun _ _ => ⟨rfl, e348, (by decide : 4 + 0 ≤ _), (by decide : 11 + 0 ≤ _)⟩)
          dsimp only [Pt.U, Pt.locs, Pt.cells, Pt.slots] at X350 l350 y350 z350 st350 hQ350
          subst l350 y350 z350
          obtain ⟨rfl, Nq350, K350, Gm350⟩ := hQ350
          have N350 := Fr.app N346 Nq350
          have Zs350 : n0 ≤ T350.heap.size := Nat.le_trans Zs348 K350.1
          have f351_0 : Old Z n0 T350.heap := f349_0.keep K350 (allS gf348 all0)
          have f351_1 : Arv Z T350.heap b322 k322 .char (2 : Int32) [(.int ((p2 &&& (255 : Int32)).toUInt32.toUInt16.toUInt32.toInt32).toUInt32.toUInt16.toUInt32.toInt32), (.int ((p3 &&& (255 : Int32)).toUInt32.toUInt16.toUInt32.toInt32).toUInt32.toUInt16.toUInt32.toInt32)] (.int (0 : Int32)) := f349_1.keep K350 (ninS ne348_b322 nin0)
          have f351_2 : Exa Z T350.heap b343 "java/lang/String" := f349_2.keep K350
          have f351_3 : Exa Z T350.heap b348 "com/example/lithe_checker/lithechecker/c/CType$StructType" := A348.keep K350
          obtain ⟨cq352, kq352, q352a, q352b, q352c⟩ := isOf hZ rfl f351_3
          obtain ⟨_, _, ⟨T352, L352, k352, n352⟩, -, X352, ⟨Lc352, hQ352, l352, y352, z352⟩, st352⟩ := X350.virtualBack hx (y := mn30) (z := mn30) hown (own_m hZ hw 19) (own_m hZ hw 20) (notFace_of_selects (args := #[]) (own_m hZ hw 22)) (own_m hZ hw 22) (own_m hZ hw 21) (by decide) (backOf (W := 0) (rmIc0 l Z a0 hw [] b348 T350.heap n0 Zs350 Gm350) hZ (own_g hw 23) (own_g hw 3) (by decide) (by decide)) q352a q352c (g := (mkF m 89 #[Iv p1, Iv p2, Iv p3, Iv u, Iv tgd, Iv 0, Rv b322, Rv b343, Rv b348, Uv, Uv, Uv, Uv] [(.ref b348)])) rfl (by rw [hml]; rfl) (Steps.refl _) (argsL := []) (rest := []) (lenOf own_pd251 rfl) rfl (own_z rfl) (hb hby at_89) (fun _ _ => ⟨rfl, rfl, (by decide : 4 + 0 ≤ _), (by decide : 11 + 0 ≤ _)⟩)
          dsimp only [Pt.U, Pt.locs, Pt.cells, Pt.slots] at X352 l352 y352 z352 st352 hQ352
          subst l352 y352 z352
          obtain ⟨rfl, Nq352, eh352⟩ := hQ352
          have N352 := Fr.app N350 Nq352
          obtain ⟨T353, h353, X353, e353, E353, A353, D353, -, st353⟩ := newO X352 hx hZ hown (own_g hw 26) (own_g hw 27) (own_g hw 28) eh352 (g := (mkF m 102 #[Iv p1, Iv p2, Iv p3, Iv u, Iv tgd, Iv 0, Rv b322, Rv b343, Rv b348, Iv 1, Uv, Uv, Uv] [])) rfl (hb hby at_102) (by decide) (by decide)
          obtain ⟨b353, g353⟩ : ∃ z, z = T350.heap.size := ⟨_, rfl⟩
          rw [← g353] at A353 D353 st353
          have ne353_b322 : b322 ≠ b353 := Nat.ne_of_lt (Nat.lt_of_lt_of_le f351_1.lt (Nat.le_of_eq g353.symm))
          have ne353_b343 : b343 ≠ b353 := Nat.ne_of_lt (Nat.lt_of_lt_of_le f351_2.lt (Nat.le_of_eq g353.symm))
          have ne353_b348 : b348 ≠ b353 := Nat.ne_of_lt (Nat.lt_of_lt_of_le f351_3.lt (Nat.le_of_eq g353.symm))
          have gf353 : n0 ≤ b353 := Nat.le_trans Zs350 (Nat.le_of_eq g353.symm)
          have Zs353 : n0 ≤ h353.size := Nat.le_trans Zs350 E353.1
          have f354_0 : Old Z n0 h353 := f351_0.ext E353
          have f354_1 : Arv Z h353 b322 k322 .char (2 : Int32) [(.int ((p2 &&& (255 : Int32)).toUInt32.toUInt16.toUInt32.toInt32).toUInt32.toUInt16.toUInt32.toInt32), (.int ((p3 &&& (255 : Int32)).toUInt32.toUInt16.toUInt32.toInt32).toUInt32.toUInt16.toUInt32.toInt32)] (.int (0 : Int32)) := f351_1.ext E353
          have f354_2 : Exa Z h353 b343 "java/lang/String" := f351_2.ext E353
          have f354_3 : Exa Z h353 b348 "com/example/lithe_checker/lithechecker/c/CType$StructType" := f351_3.ext E353
          have f354_4 : Fld Z h353 b348 "com/example/lithe_checker/lithechecker/c/CType$StructType" "members" "Ljava/util/List;" .null := Gm350.ext E353
          have F353_modCount : Fld Z h353 b353 "java/util/AbstractList" "modCount" "I" (.int (0 : Int32)) := D353 (Or.inl (own_g hw 46)) (ty := .int) (by decide)
          have F353_elementData : Fld Z h353 b353 "java/util/ArrayList" "elementData" "[Ljava/lang/Object;" .null := D353 (Or.inl (own_g hw 49)) (ty := (.array (.object "java/lang/Object"))) (by decide)
          have F353_size : Fld Z h353 b353 "java/util/ArrayList" "size" "I" (.int (0 : Int32)) := D353 (Or.inl (own_g hw 79)) (ty := .int) (by decide)
          refine own_by (fun _ k => XS.aload X348.here hx rfl (hb hby at_80) rfl rfl (st350.trans (XS.astore X350.here hx rfl (hb hby at_85) rfl rfl (l' := #[Iv p1, Iv p2, Iv p3, Iv u, Iv tgd, Iv 0, Rv b322, Rv b343, Rv b348, Uv, Uv, Uv, Uv]) rfl (XS.aload X350.here hx rfl (hb hby at_87) rfl rfl (st352.trans (XS.ifNo X352.here hx rfl (hb hby at_92) rfl ((if0 _ _).trans (teq (by decide : (0 : Int32) = (0 : Int32))).2) (XS.iconst X352.here hx rfl (hb hby at_95) (XS.goto X352.here hx rfl (pc0 := 96) (pc' := 100) rfl (hb hby at_96) (by decide) (by decide) (XS.istore X352.here hx rfl (hb hby at_100) rfl (l' := #[Iv p1, Iv p2, Iv p3, Iv u, Iv tgd, Iv 0, Rv b322, Rv b343, Rv b348, Iv 1, Uv, Uv, Uv]) rfl (st353 _ k)))))))))) ?_
          show own_Fin _ _ _ _ _ _ _ T353 (mkF m 105 #[Iv p1, Iv p2, Iv p3, Iv u, Iv tgd, Iv 0, Rv b322, Rv b343, Rv b348, Iv 1, Uv, Uv, Uv] [(.ref b353)])
          obtain ⟨_, _, ⟨T355, L355, k355, n355⟩, -, X355, ⟨Lc355, hQ355, l355, y355, z355⟩, st355⟩ := X353.specialBack hx (y := mn7) rfl hown (own_m hZ hw 29) (own_m hZ hw 30) (own_m hZ hw 31) (by decide) (backOf (W := 1) (rmALI l Z a0 hw [] cs da el ea em ci mm kd ke b353 h353 n0 Zs353 V_env f354_0 A353 F353_modCount F353_elementData F353_size gf353) hZ (own_g hw 31) (own_g hw 28) (by decide) (by decide)) (g := (mkF m 106 #[Iv p1, Iv p2, Iv p3, Iv u, Iv tgd, Iv 0, Rv b322, Rv b343, Rv b348, Iv 1, Uv, Uv, Uv] [(.ref b353), (.ref b353)])) rfl (by rw [hml]; rfl) (Steps.refl _) (a := b353) (argsL := []) (rest := [(.ref b353)]) (lenOf own_pd12 rfl) rfl (own_z rfl) (hb hby at_106) (fun _ _ => ⟨rfl, e353, (by decide : 5 + 0 ≤ _), (by decide : 14 + 0 ≤ _)⟩)
          dsimp only [Pt.U, Pt.locs, Pt.cells, Pt.slots] at X355 l355 y355 z355 st355 hQ355
          subst l355 y355 z355
          obtain ⟨rfl, Nq355, K355, Gm355, Ge355, Gs355⟩ := hQ355
          have N355 := Fr.app N352 Nq355
          have Zs355 : n0 ≤ T355.heap.size := Nat.le_trans Zs353 K355.1
          have f356_0 : Old Z n0 T355.heap := f354_0.keep K355 (allS gf353 all0)
          have f356_1 : Arv Z T355.heap b322 k322 .char (2 : Int32) [(.int ((p2 &&& (255 : Int32)).toUInt32.toUInt16.toUInt32.toInt32).toUInt32.toUInt16.toUInt32.toInt32), (.int ((p3 &&& (255 : Int32)).toUInt32.toUInt16.toUInt32.toInt32).toUInt32.toUInt16.toUInt32.toInt32)] (.int (0 : Int32)) := f354_1.keep K355 (ninS ne353_b322 nin0)
          have f356_2 : Exa Z T355.heap b343 "java/lang/String" := f354_2.keep K355
          have f356_3 : Exa Z T355.heap b348 "com/example/lithe_checker/lithechecker/c/CType$StructType" := f354_3.keep K355
          have f356_4 : Fld Z T355.heap b348 "com/example/lithe_checker/lithechecker/c/CType$StructType" "members" "Ljava/util/List;" .null := f354_4.keep K355 (ninS ne353_b348 nin0)
          have f356_5 : Exa Z T355.heap b353 "java/util/ArrayList" := A353.keep K355
          refine own_by (fun _ k => XS.dup X353.here hx rfl (hb hby at_105) rfl rfl (st355.trans (XS.astore X355.here hx rfl (hb hby at_109) rfl rfl (l' := #[Iv p1, Iv p2, Iv p3, Iv u, Iv tgd, Iv 0, Rv b322, Rv b343, Rv b348, Iv 1, Rv b353, Uv, Uv]) rfl (XS.iload X355.here hx rfl (hb hby at_111) rfl (XS.iconst X355.here hx rfl (hb hby at_113) (XS.icmpYes X355.here hx rfl (pc0 := 114) (pc' := 142) rfl (hb hby at_114) rfl (tlt (by decide : (0 : Int32) < (1 : Int32))).1 (by decide) (by decide) (XS.iload X355.here hx rfl (hb hby at_142) rfl (XS.iconst X355.here hx rfl (hb hby at_144) (XS.icmpYes X355.here hx rfl (pc0 := 145) (pc' := 173) rfl (hb hby at_145) rfl (tlt (by decide : (0 : Int32) < (2 : Int32))).1 (by decide) (by decide) (XS.iload X355.here hx rfl (hb hby at_173) rfl k)))))))))) ?_
          show own_Fin _ _ _ _ _ _ _ T355 (mkF m 175 #[Iv p1, Iv p2, Iv p3, Iv u, Iv tgd, Iv 0, Rv b322, Rv b343, Rv b348, Iv 1, Rv b353, Uv, Uv] [(.int 0)])
          obtain ⟨cq357, kq357, q357a, q357b, q357c⟩ := isOf hZ rfl f356_3
          obtain ⟨_, _, ⟨T357, L357, k357, n357⟩, -, X357, ⟨Lc357, hQ357, l357, y357, z357⟩, st357⟩ := X355.virtualBack hx (y := mn32) (z := mn32) hown (own_m hZ hw 50) (own_m hZ hw 51) (notFace_of_selects (args := #[]) (own_m hZ hw 53)) (own_m hZ hw 53) (own_m hZ hw 52) (by decide) (backOf (W := 0) (rmCo0 l Z a0 hw [] cs da el ea em ci mm kd ke b348 b353  T355.heap n0 Zs355 V_env f356_0 f356_3 f356_4 gf348 f356_5 Gs355  ne353_b348) hZ (own_g hw 54) (own_g hw 3) (by decide) (by decide)) q357a q357c (g := (mkF m 208 #[Iv p1, Iv p2, Iv p3, Iv u, Iv tgd, Iv 0, Rv b322, Rv b343, Rv b348, Iv 1, Rv b353, Uv, Uv] [(.ref b353), (.ref b348)])) rfl (by rw [hml]; rfl) (Steps.refl _) (argsL := [(.ref b353)]) (rest := []) (lenOf own_pd447 rfl) rfl (own_z rfl) (hb hby at_208) (fun _ _ => ⟨rfl, rfl, (by decide : 5 + 0 ≤ _), (by decide : 14 + 0 ≤ _)⟩)
          dsimp only [Pt.U, Pt.locs, Pt.cells, Pt.slots] at X357 l357 y357 z357 st357 hQ357
          subst l357 y357 z357
          obtain ⟨rfl, Nq357, K357, Gm357⟩ := hQ357
          have N357 := Fr.app N355 Nq357
          have Zs357 : n0 ≤ T357.heap.size := Nat.le_trans Zs355 K357.1
          have f358_0 : Old Z n0 T357.heap := f356_0.keep K357 (allS gf348 all0)
          have f358_1 : Arv Z T357.heap b322 k322 .char (2 : Int32) [(.int ((p2 &&& (255 : Int32)).toUInt32.toUInt16.toUInt32.toInt32).toUInt32.toUInt16.toUInt32.toInt32), (.int ((p3 &&& (255 : Int32)).toUInt32.toUInt16.toUInt32.toInt32).toUInt32.toUInt16.toUInt32.toInt32)] (.int (0 : Int32)) := f356_1.keep K357 (ninS ne348_b322 nin0)
          have f358_2 : Exa Z T357.heap b343 "java/lang/String" := f356_2.keep K357
          have f358_3 : Exa Z T357.heap b348 "com/example/lithe_checker/lithechecker/c/CType$StructType" := f356_3.keep K357
          have f358_5 : Exa Z T357.heap b353 "java/util/ArrayList" := f356_5.keep K357
          have f358_6 : Fld Z T357.heap b353 "java/util/AbstractList" "modCount" "I" (.int (0 : Int32)) := Gm355.keep K357 (ninS (Ne.symm ne353_b348) nin0)
          have f358_7 : Fld Z T357.heap b353 "java/util/ArrayList" "elementData" "[Ljava/lang/Object;" (.ref da) := Ge355.keep K357 (ninS (Ne.symm ne353_b348) nin0)
          have f358_8 : Fld Z T357.heap b353 "java/util/ArrayList" "size" "I" (.int (0 : Int32)) := Gs355.keep K357 (ninS (Ne.symm ne353_b348) nin0)
          obtain ⟨cq359, kq359, q359a, q359b, q359c⟩ := isOf hZ rfl f358_3
          obtain ⟨_, _, ⟨T359, L359, k359, n359⟩, -, X359, ⟨Lc359, hQ359, l359, y359, z359⟩, st359⟩ := X357.virtualBack hx (y := mn30) (z := mn30) hown (own_m hZ hw 19) (own_m hZ hw 20) (notFace_of_selects (args := #[]) (own_m hZ hw 22)) (own_m hZ hw 22) (own_m hZ hw 21) (by decide) (backOf (W := 0) (rmIc1 l Z a0 hw [] b348 el T357.heap n0 Zs357 Gm357) hZ (own_g hw 23) (own_g hw 3) (by decide) (by decide)) q359a q359c (g := (mkF m 213 #[Iv p1, Iv p2, Iv p3, Iv u, Iv tgd, Iv 0, Rv b322, Rv b343, Rv b348, Iv 1, Rv b353, Uv, Uv] [(.ref b348)])) rfl (by rw [hml]; rfl) (Steps.refl _) (argsL := []) (rest := []) (lenOf own_pd251 rfl) rfl (own_z rfl) (hb hby at_213) (fun _ _ => ⟨rfl, rfl, (by decide : 5 + 0 ≤ _), (by decide : 14 + 0 ≤ _)⟩)
          dsimp only [Pt.U, Pt.locs, Pt.cells, Pt.slots] at X359 l359 y359 z359 st359 hQ359
          subst l359 y359 z359
          obtain ⟨rfl, Nq359, eh359⟩ := hQ359
          have N359 := Fr.app N357 Nq359
          obtain ⟨cq360, kq360, q360a, q360b, q360c⟩ := isOf hZ eh359 f358_3
          obtain ⟨_, _, ⟨T360, L360, k360, n360⟩, -, X360, ⟨Lc360, hQ360, l360, y360, z360⟩, st360⟩ := X359.virtualBack hx (y := mn31) (z := mn31) hown (own_m hZ hw 84) (own_m hZ hw 85) (notFace_of_selects (args := #[]) (own_m hZ hw 87)) (own_m hZ hw 87) (own_m hZ hw 86) (by decide) (backOf (W := 0) (rmMb l Z a0 hw [] b348 el T357.heap n0 Zs357 Gm357) hZ (own_g hw 88) (own_g hw 3) (by decide) (by decide)) q360a q360c (g := (mkF m 220 #[Iv p1, Iv p2, Iv p3, Iv u, Iv tgd, Iv 0, Rv b322, Rv b343, Rv b348, Iv 1, Rv b353, Iv 1, Uv] [(.ref b348)])) rfl (by rw [hml]; rfl) (Steps.refl _) (argsL := []) (rest := []) (lenOf own_pd280 rfl) rfl (own_z rfl) (hb hby at_220) (fun _ _ => ⟨rfl, eh359, (by decide : 5 + 0 ≤ _), (by decide : 14 + 0 ≤ _)⟩)
          dsimp only [Pt.U, Pt.locs, Pt.cells, Pt.slots] at X360 l360 y360 z360 st360 hQ360
          subst l360 y360 z360
          obtain ⟨rfl, Nq360, eh360⟩ := hQ360
          have N360 := Fr.app N359 Nq360
          obtain ⟨cq361, kq361, q361a, q361b, q361c⟩ := isOf hZ eh360 (V_env.2.2.2.2.2.1.ext f358_0.2)
          obtain ⟨_, _, ⟨T361, L361, k361, n361⟩, -, X361, ⟨Lc361, hQ361, l361, y361, z361⟩, st361⟩ := X360.interfaceBack hx (xi := mn43) (y := mn20) hown (own_m hZ hw 89) (own_m hZ hw 90) (own_m hZ hw 91) (own_m hZ hw 92) (own_m hZ hw 93) (own_m hZ hw 94) (own_m hZ hw 95) (own_m hZ hw 96) (by decide) (backOf (W := 0) (rmZN l Z a0 hw [] el ea ke (0 : Int32) [] T357.heap n0 Zs357 (V_env.2.2.2.2.2.2.1.ext f358_0.2) (V_env.2.2.2.2.2.2.2.1.ext f358_0.2)) hZ (own_g hw 98) (own_g hw 97) (by decide) (by decide)) q361a q361b q361c (g := (mkF m 223 #[Iv p1, Iv p2, Iv p3, Iv u, Iv tgd, Iv 0, Rv b322, Rv b343, Rv b348, Iv 1, Rv b353, Iv 1, Uv] [(.ref el)])) rfl (by rw [hml]; rfl) (Steps.refl _) (argsL := []) (rest := []) (lenOf own_pd448 rfl) rfl (own_z rfl) (hb hby at_223) (fun _ _ => ⟨rfl, eh360, (by decide : 5 + 0 ≤ _), (by decide : 14 + 0 ≤ _)⟩)
          dsimp only [Pt.U, Pt.locs, Pt.cells, Pt.slots] at X361 l361 y361 z361 st361 hQ361
          subst l361 y361 z361
          obtain ⟨rfl, Nq361, eh361⟩ := hQ361
          have N361 := Fr.app N360 Nq361
          refine own_by (fun _ k => XS.iconst X355.here hx rfl (hb hby at_175) (XS.icmpYes X355.here hx rfl (pc0 := 176) (pc' := 204) rfl (hb hby at_176) rfl (tlt (by decide : (0 : Int32) < (3 : Int32))).1 (by decide) (by decide) (XS.aload X355.here hx rfl (hb hby at_204) rfl rfl (XS.aload X355.here hx rfl (hb hby at_206) rfl rfl (st357.trans (XS.aload X357.here hx rfl (hb hby at_211) rfl rfl (st359.trans (XS.istore X359.here hx rfl (hb hby at_216) rfl (l' := #[Iv p1, Iv p2, Iv p3, Iv u, Iv tgd, Iv 0, Rv b322, Rv b343, Rv b348, Iv 1, Rv b353, Iv 1, Uv]) rfl (XS.aload X359.here hx rfl (hb hby at_218) rfl rfl (st360.trans k)))))))))) ?_
          show own_Fin _ _ _ _ _ _ _ T360 (mkF m 223 #[Iv p1, Iv p2, Iv p3, Iv u, Iv tgd, Iv 0, Rv b322, Rv b343, Rv b348, Iv 1, Rv b353, Iv 1, Uv] [(.ref el)])
          refine own_by (fun _ k => st361.trans (XS.iload X361.here hx rfl (hb hby at_228) rfl (XS.icmpNo X361.here hx rfl (hb hby at_230) rfl (teq (by decide : (0 : Int32) = (0 : Int32))).2 (XS.iconst X361.here hx rfl (hb hby at_233) (XS.goto X361.here hx rfl (pc0 := 234) (pc' := 238) rfl (hb hby at_234) (by decide) (by decide) (XS.istore X361.here hx rfl (hb hby at_238) rfl (l' := #[Iv p1, Iv p2, Iv p3, Iv u, Iv tgd, Iv 0, Rv b322, Rv b343, Rv b348, Iv 1, Rv b353, Iv 1, Iv 1]) rfl (XS.iload X361.here hx rfl (hb hby at_240) rfl (XS.ifNo X361.here hx rfl (hb hby at_242) rfl ((if0 _ _).trans (feq (by decide : ¬ ((1 : Int32) = (0 : Int32)))).1) (XS.iload X361.here hx rfl (hb hby at_245) rfl (XS.ifNo X361.here hx rfl (hb hby at_247) rfl ((if0 _ _).trans (feq (by decide : ¬ ((1 : Int32) = (0 : Int32)))).1) k)))))))))) ?_
          show own_Fin _ _ _ _ _ _ _ T361 (mkF m 250 #[Iv p1, Iv p2, Iv p3, Iv u, Iv tgd, Iv 0, Rv b322, Rv b343, Rv b348, Iv 1, Rv b353, Iv 1, Iv 1] [])
          refine own_by (fun _ k => XS.iload X361.here hx rfl (hb hby at_250) rfl (XS.ifNo X361.here hx rfl (hb hby at_252) rfl ((if0 _ _).trans (feq (by decide : ¬ ((1 : Int32) = (0 : Int32)))).1) (XS.iconst X361.here hx rfl (hb hby at_255) (XS.goto X361.here hx rfl (pc0 := 256) (pc' := 260) rfl (hb hby at_256) (by decide) (by decide) k)))) ?_
          exact own_retZ X361 hx hlk (t := .boolean) Bd.returns (by simp) (hb hby at_260) ⟨rfl, N361⟩ (by decide) (by decide)
      · show own_Fin _ _ _ _ _ _ _ s₁ (mkF m 32 #[Iv p1, Iv p2, Iv p3, Iv u, Iv tgd, Iv (((p1.toUInt32 >>> ((2 : Int32) &&& 31).toUInt32).toInt32) &&& (3 : Int32)), Uv, Uv, Uv, Uv, Uv, Uv, Uv] [])
        rw [hn]
        show own_Fin _ _ _ _ _ _ _ s₁ (mkF m 32 #[Iv p1, Iv p2, Iv p3, Iv u, Iv tgd, Iv 1, Uv, Uv, Uv, Uv, Uv, Uv, Uv] [])
        obtain ⟨T362, h362, k362, X362, e362, E362, A362, st362⟩ := newP X0 hx hZ (own_g hw 0) e0 (g := (mkF m 33 #[Iv p1, Iv p2, Iv p3, Iv u, Iv tgd, Iv 1, Uv, Uv, Uv, Uv, Uv, Uv, Uv] [(.int 2)])) rfl (hb hby at_33) rfl (by decide) (cap := 2) (by decide) (by decide) (by decide) (by decide)
        obtain ⟨b362, g362⟩ : ∃ z, z = h0.size := ⟨_, rfl⟩
        rw [← g362] at A362 st362
        have V362 : Arv Z h362 b362 k362 .char (2 : Int32) [(.int (0 : Int32)), (.int (0 : Int32))] (.int (0 : Int32)) := (Arv.new A362 (by decide)).pad (pad_rep [] (.int (0 : Int32)) 2)
        have gf362 : n0 ≤ b362 := Nat.le_trans Z0 (Nat.le_of_eq g362.symm)
        have Zs362 : n0 ≤ h362.size := Nat.le_trans Z0 E362.1
        have f363_0 : Old Z n0 h362 := Od.ext E362
        obtain ⟨cl364, Ar364, q364, S364, M364, H364, G364⟩ := id V362
        have hin364 : ¬ ((0 : Int32) < 0 ∨ cl364.slots.size ≤ ((0 : Int32)).toNatClampNeg) := inb_of S364 ⟨by decide, by decide⟩
        obtain ⟨T364, h364, X364, e364, W364, st364⟩ := stC X362 hx hZ e362 Ar364 (j := (0 : Int32)) hin364 (g := (mkF m 43 #[Iv p1, Iv p2, Iv p3, Iv u, Iv tgd, Iv 1, Uv, Uv, Uv, Uv, Uv, Uv, Uv] [(.int ((p2 &&& (255 : Int32)).toUInt32.toUInt16.toUInt32.toInt32)), (.int 0), (.ref b362), (.ref b362)])) rfl rfl (hb hby at_43)
        have V364 : Arv Z h364 b362 k362 .char (2 : Int32) [(.int ((p2 &&& (255 : Int32)).toUInt32.toUInt16.toUInt32.toInt32).toUInt32.toUInt16.toUInt32.toInt32), (.int (0 : Int32))] (.int (0 : Int32)) := Arv.set Ar364 q364 S364 M364 H364 G364 (fits_nar_char _) W364 0 rfl (Nat.le_of_ble_eq_true rfl)
        have Zs364 : n0 ≤ h364.size := Nat.le_trans Zs362 (Keep.of_wr W364).1
        have N364 := Fr.snoc X364 N0 gf362
        have f365_0 : Old Z n0 h364 := f363_0.wr W364 gf362
        refine own_by (fun _ k => XS.iconst X0.here hx rfl (hb hby at_32) (st362 _ (XS.dup X362.here hx rfl (hb hby at_35) rfl rfl (XS.iconst X362.here hx rfl (hb hby at_36) (XS.iloadN X362.here hx rfl (hb hby at_37) rfl (XS.sipush X362.here hx rfl (hb hby at_38) (XS.iand X362.here hx rfl (hb hby at_41) rfl (XS.i2c X362.here hx rfl (hb hby at_42) rfl (st364 _ (XS.dup X364.here hx rfl (hb hby at_44) rfl rfl k)))))))))) ?_
        show own_Fin _ _ _ _ _ _ _ T364 (mkF m 45 #[Iv p1, Iv p2, Iv p3, Iv u, Iv tgd, Iv 1, Uv, Uv, Uv, Uv, Uv, Uv, Uv] [(.ref b362), (.ref b362)])
        obtain ⟨cl366, Ar366, q366, S366, M366, H366, G366⟩ := id V364
        have hin366 : ¬ ((1 : Int32) < 0 ∨ cl366.slots.size ≤ ((1 : Int32)).toNatClampNeg) := inb_of S366 ⟨by decide, by decide⟩
        obtain ⟨T366, h366, X366, e366, W366, st366⟩ := stC X364 hx hZ e364 Ar366 (j := (1 : Int32)) hin366 (g := (mkF m 52 #[Iv p1, Iv p2, Iv p3, Iv u, Iv tgd, Iv 1, Uv, Uv, Uv, Uv, Uv, Uv, Uv] [(.int ((p3 &&& (255 : Int32)).toUInt32.toUInt16.toUInt32.toInt32)), (.int 1), (.ref b362), (.ref b362)])) rfl rfl (hb hby at_52)
        have V366 : Arv Z h366 b362 k362 .char (2 : Int32) [(.int ((p2 &&& (255 : Int32)).toUInt32.toUInt16.toUInt32.toInt32).toUInt32.toUInt16.toUInt32.toInt32), (.int ((p3 &&& (255 : Int32)).toUInt32.toUInt16.toUInt32.toInt32).toUInt32.toUInt16.toUInt32.toInt32)] (.int (0 : Int32)) := Arv.set Ar366 q366 S366 M366 H366 G366 (fits_nar_char _) W366 1 rfl (Nat.le_of_ble_eq_true rfl)
        have Zs366 : n0 ≤ h366.size := Nat.le_trans Zs364 (Keep.of_wr W366).1
        have N366 := Fr.snoc X366 N364 gf362
        have f367_0 : Old Z n0 h366 := f365_0.wr W366 gf362
        refine own_by (fun _ k => XS.iconst X364.here hx rfl (hb hby at_45) (XS.iloadN X364.here hx rfl (hb hby at_46) rfl (XS.sipush X364.here hx rfl (hb hby at_47) (XS.iand X364.here hx rfl (hb hby at_50) rfl (XS.i2c X364.here hx rfl (hb hby at_51) rfl (st366 _ (XS.astore X366.here hx rfl (hb hby at_53) rfl rfl (l' := #[Iv p1, Iv p2, Iv p3, Iv u, Iv tgd, Iv 1, Rv b362, Uv, Uv, Uv, Uv, Uv, Uv]) rfl (XS.iload X366.here hx rfl (hb hby at_55) rfl k)))))))) ?_
        show own_Fin _ _ _ _ _ _ _ T366 (mkF m 57 #[Iv p1, Iv p2, Iv p3, Iv u, Iv tgd, Iv 1, Rv b362, Uv, Uv, Uv, Uv, Uv, Uv] [(.int tgd)])
        by_cases hc57_368 : tgd = (0 : Int32)
        · show own_Fin _ _ _ _ _ _ _ T366 (mkF m 57 #[Iv p1, Iv p2, Iv p3, Iv u, Iv tgd, Iv 1, Rv b362, Uv, Uv, Uv, Uv, Uv, Uv] [(.int tgd)])
          obtain ⟨T369, h369, X369, e369, E369, A369, D369, -, st369⟩ := newO X366 hx hZ hown (own_g hw 1) (own_g hw 2) (own_g hw 3) e366 (g := (mkF m 75 #[Iv p1, Iv p2, Iv p3, Iv u, Iv tgd, Iv 1, Rv b362, Nv, Uv, Uv, Uv, Uv, Uv] [])) rfl (hb hby at_75) (by decide) (by decide)
          obtain ⟨b369, g369⟩ : ∃ z, z = h366.size := ⟨_, rfl⟩
          rw [← g369] at A369 D369 st369
          have ne369_b362 : b362 ≠ b369 := Nat.ne_of_lt (Nat.lt_of_lt_of_le V366.lt (Nat.le_of_eq g369.symm))
          have gf369 : n0 ≤ b369 := Nat.le_trans Zs366 (Nat.le_of_eq g369.symm)
          have Zs369 : n0 ≤ h369.size := Nat.le_trans Zs366 E369.1
          have f370_0 : Old Z n0 h369 := f367_0.ext E369
          have f370_1 : Arv Z h369 b362 k362 .char (2 : Int32) [(.int ((p2 &&& (255 : Int32)).toUInt32.toUInt16.toUInt32.toInt32).toUInt32.toUInt16.toUInt32.toInt32), (.int ((p3 &&& (255 : Int32)).toUInt32.toUInt16.toUInt32.toInt32).toUInt32.toUInt16.toUInt32.toInt32)] (.int (0 : Int32)) := V366.ext E369
          have F369_union : Fld Z h369 b369 "com/example/lithe_checker/lithechecker/c/CType$StructType" "union" "Z" (.int (0 : Int32)) := D369 (Or.inr (own_g hw 16)) (ty := .boolean) (by decide)
          have F369_tag : Fld Z h369 b369 "com/example/lithe_checker/lithechecker/c/CType$StructType" "tag" "Ljava/lang/String;" .null := D369 (Or.inr (own_g hw 18)) (ty := (.object "java/lang/String")) (by decide)
          have F369_members : Fld Z h369 b369 "com/example/lithe_checker/lithechecker/c/CType$StructType" "members" "Ljava/util/List;" .null := D369 (Or.inl (own_g hw 25)) (ty := (.object "java/util/List")) (by decide)
          obtain ⟨_, _, ⟨T371, L371, k371, n371⟩, -, X371, ⟨Lc371, hQ371, l371, y371, z371⟩, st371⟩ := X369.specialBack hx (y := mn29) rfl hown (own_m hZ hw 4) (own_m hZ hw 5) (own_m hZ hw 6) (by decide) (backOf (W := 1) (rmSI l Z a0 hw [] b369 u .null h369 n0 Zs369 A369 F369_union F369_tag F369_members gf369 rfl) hZ (own_g hw 6) (own_g hw 3) (by decide) (by decide)) (g := (mkF m 82 #[Iv p1, Iv p2, Iv p3, Iv u, Iv tgd, Iv 1, Rv b362, Nv, Uv, Uv, Uv, Uv, Uv] [.null, (.int u), (.ref b369), (.ref b369)])) rfl (by rw [hml]; rfl) (Steps.refl _) (a := b369) (argsL := [(.int u), .null]) (rest := [(.ref b369)]) (lenOf own_pd446 rfl) rfl (own_z rfl) (hb hby at_82) (fun _ _ => ⟨rfl, e369, (by decide : 2 + 0 ≤ _), (by decide : 5 + 0 ≤ _)⟩)
          dsimp only [Pt.U, Pt.locs, Pt.cells, Pt.slots] at X371 l371 y371 z371 st371 hQ371
          subst l371 y371 z371
          obtain ⟨rfl, Nq371, K371, Gm371⟩ := hQ371
          have N371 := Fr.app N366 Nq371
          have Zs371 : n0 ≤ T371.heap.size := Nat.le_trans Zs369 K371.1
          have f372_0 : Old Z n0 T371.heap := f370_0.keep K371 (allS gf369 all0)
          have f372_1 : Arv Z T371.heap b362 k362 .char (2 : Int32) [(.int ((p2 &&& (255 : Int32)).toUInt32.toUInt16.toUInt32.toInt32).toUInt32.toUInt16.toUInt32.toInt32), (.int ((p3 &&& (255 : Int32)).toUInt32.toUInt16.toUInt32.toInt32).toUInt32.toUInt16.toUInt32.toInt32)] (.int (0 : Int32)) := f370_1.keep K371 (ninS ne369_b362 nin0)
          have f372_2 : Exa Z T371.heap b369 "com/example/lithe_checker/lithechecker/c/CType$StructType" := A369.keep K371
          obtain ⟨cq373, kq373, q373a, q373b, q373c⟩ := isOf hZ rfl f372_2
          obtain ⟨_, _, ⟨T373, L373, k373, n373⟩, -, X373, ⟨Lc373, hQ373, l373, y373, z373⟩, st373⟩ := X371.virtualBack hx (y := mn30) (z := mn30) hown (own_m hZ hw 19) (own_m hZ hw 20) (notFace_of_selects (args := #[]) (own_m hZ hw 22)) (own_m hZ hw 22) (own_m hZ hw 21) (by decide) (backOf (W := 0) (rmIc0 l Z a0 hw [] b369 T371.heap n0 Zs371 Gm371) hZ (own_g hw 23) (own_g hw 3) (by decide) (by decide)) q373a q373c (g := (mkF m 89 #[Iv p1, Iv p2, Iv p3, Iv u, Iv tgd, Iv 1, Rv b362, Nv, Rv b369, Uv, Uv, Uv, Uv] [(.ref b369)])) rfl (by rw [hml]; rfl) (Steps.refl _) (argsL := []) (rest := []) (lenOf own_pd251 rfl) rfl (own_z rfl) (hb hby at_89) (fun _ _ => ⟨rfl, rfl, (by decide : 2 + 0 ≤ _), (by decide : 5 + 0 ≤ _)⟩)
          dsimp only [Pt.U, Pt.locs, Pt.cells, Pt.slots] at X373 l373 y373 z373 st373 hQ373
          subst l373 y373 z373
          obtain ⟨rfl, Nq373, eh373⟩ := hQ373
          have N373 := Fr.app N371 Nq373
          refine own_by (fun _ k => XS.ifYes X366.here hx rfl (pc0 := 57) (pc' := 72) rfl (hb hby at_57) rfl ((if0 _ _).trans (teq hc57_368).1) (by decide) (by decide) (XS.aconstNull X366.here hx rfl (hb hby at_72) (XS.astore X366.here hx rfl (hb hby at_73) rfl rfl (l' := #[Iv p1, Iv p2, Iv p3, Iv u, Iv tgd, Iv 1, Rv b362, Nv, Uv, Uv, Uv, Uv, Uv]) rfl (st369 _ (XS.dup X369.here hx rfl (hb hby at_78) rfl rfl (XS.iloadN X369.here hx rfl (hb hby at_79) rfl (XS.aload X369.here hx rfl (hb hby at_80) rfl rfl (st371.trans (XS.astore X371.here hx rfl (hb hby at_85) rfl rfl (l' := #[Iv p1, Iv p2, Iv p3, Iv u, Iv tgd, Iv 1, Rv b362, Nv, Rv b369, Uv, Uv, Uv, Uv]) rfl (XS.aload X371.here hx rfl (hb hby at_87) rfl rfl k)))))))))) ?_
          show own_Fin _ _ _ _ _ _ _ T371 (mkF m 89 #[Iv p1, Iv p2, Iv p3, Iv u, Iv tgd, Iv 1, Rv b362, Nv, Rv b369, Uv, Uv, Uv, Uv] [(.ref b369)])
          obtain ⟨T374, h374, X374, e374, E374, A374, D374, -, st374⟩ := newO X373 hx hZ hown (own_g hw 26) (own_g hw 27) (own_g hw 28) eh373 (g := (mkF m 102 #[Iv p1, Iv p2, Iv p3, Iv u, Iv tgd, Iv 1, Rv b362, Nv, Rv b369, Iv 1, Uv, Uv, Uv] [])) rfl (hb hby at_102) (by decide) (by decide)
          obtain ⟨b374, g374⟩ : ∃ z, z = T371.heap.size := ⟨_, rfl⟩
          rw [← g374] at A374 D374 st374
          have ne374_b362 : b362 ≠ b374 := Nat.ne_of_lt (Nat.lt_of_lt_of_le f372_1.lt (Nat.le_of_eq g374.symm))
          have ne374_b369 : b369 ≠ b374 := Nat.ne_of_lt (Nat.lt_of_lt_of_le f372_2.lt (Nat.le_of_eq g374.symm))
          have gf374 : n0 ≤ b374 := Nat.le_trans Zs371 (Nat.le_of_eq g374.symm)
          have Zs374 : n0 ≤ h374.size := Nat.le_trans Zs371 E374.1
          have f375_0 : Old Z n0 h374 := f372_0.ext E374
          have f375_1 : Arv Z h374 b362 k362 .char (2 : Int32) [(.int ((p2 &&& (255 : Int32)).toUInt32.toUInt16.toUInt32.toInt32).toUInt32.toUInt16.toUInt32.toInt32), (.int ((p3 &&& (255 : Int32)).toUInt32.toUInt16.toUInt32.toInt32).toUInt32.toUInt16.toUInt32.toInt32)] (.int (0 : Int32)) := f372_1.ext E374
          have f375_2 : Exa Z h374 b369 "com/example/lithe_checker/lithechecker/c/CType$StructType" := f372_2.ext E374
          have f375_3 : Fld Z h374 b369 "com/example/lithe_checker/lithechecker/c/CType$StructType" "members" "Ljava/util/List;" .null := Gm371.ext E374
          have F374_modCount : Fld Z h374 b374 "java/util/AbstractList" "modCount" "I" (.int (0 : Int32)) := D374 (Or.inl (own_g hw 46)) (ty := .int) (by decide)
          have F374_elementData : Fld Z h374 b374 "java/util/ArrayList" "elementData" "[Ljava/lang/Object;" .null := D374 (Or.inl (own_g hw 49)) (ty := (.array (.object "java/lang/Object"))) (by decide)
          have F374_size : Fld Z h374 b374 "java/util/ArrayList" "size" "I" (.int (0 : Int32)) := D374 (Or.inl (own_g hw 79)) (ty := .int) (by decide)
          obtain ⟨_, _, ⟨T376, L376, k376, n376⟩, -, X376, ⟨Lc376, hQ376, l376, y376, z376⟩, st376⟩ := X374.specialBack hx (y := mn7) rfl hown (own_m hZ hw 29) (own_m hZ hw 30) (own_m hZ hw 31) (by decide) (backOf (W := 1) (rmALI l Z a0 hw [] cs da el ea em ci mm kd ke b374 h374 n0 Zs374 V_env f375_0 A374 F374_modCount F374_elementData F374_size gf374) hZ (own_g hw 31) (own_g hw 28) (by decide) (by decide)) (g := (mkF m 106 #[Iv p1, Iv p2, Iv p3, Iv u, Iv tgd, Iv 1, Rv b362, Nv, Rv b369, Iv 1, Uv, Uv, Uv] [(.ref b374), (.ref b374)])) rfl (by rw [hml]; rfl) (Steps.refl _) (a := b374) (argsL := []) (rest := [(.ref b374)]) (lenOf own_pd12 rfl) rfl (own_z rfl) (hb hby at_106) (fun _ _ => ⟨rfl, e374, (by decide : 3 + 0 ≤ _), (by decide : 8 + 0 ≤ _)⟩)
          dsimp only [Pt.U, Pt.locs, Pt.cells, Pt.slots] at X376 l376 y376 z376 st376 hQ376
          subst l376 y376 z376
          obtain ⟨rfl, Nq376, K376, Gm376, Ge376, Gs376⟩ := hQ376
          have N376 := Fr.app N373 Nq376
          have Zs376 : n0 ≤ T376.heap.size := Nat.le_trans Zs374 K376.1
          have f377_0 : Old Z n0 T376.heap := f375_0.keep K376 (allS gf374 all0)
          have f377_1 : Arv Z T376.heap b362 k362 .char (2 : Int32) [(.int ((p2 &&& (255 : Int32)).toUInt32.toUInt16.toUInt32.toInt32).toUInt32.toUInt16.toUInt32.toInt32), (.int ((p3 &&& (255 : Int32)).toUInt32.toUInt16.toUInt32.toInt32).toUInt32.toUInt16.toUInt32.toInt32)] (.int (0 : Int32)) := f375_1.keep K376 (ninS ne374_b362 nin0)
          have f377_2 : Exa Z T376.heap b369 "com/example/lithe_checker/lithechecker/c/CType$StructType" := f375_2.keep K376
          have f377_3 : Fld Z T376.heap b369 "com/example/lithe_checker/lithechecker/c/CType$StructType" "members" "Ljava/util/List;" .null := f375_3.keep K376 (ninS ne374_b369 nin0)
          have f377_4 : Exa Z T376.heap b374 "java/util/ArrayList" := A374.keep K376
          refine own_by (fun _ k => st373.trans (XS.ifNo X373.here hx rfl (hb hby at_92) rfl ((if0 _ _).trans (teq (by decide : (0 : Int32) = (0 : Int32))).2) (XS.iconst X373.here hx rfl (hb hby at_95) (XS.goto X373.here hx rfl (pc0 := 96) (pc' := 100) rfl (hb hby at_96) (by decide) (by decide) (XS.istore X373.here hx rfl (hb hby at_100) rfl (l' := #[Iv p1, Iv p2, Iv p3, Iv u, Iv tgd, Iv 1, Rv b362, Nv, Rv b369, Iv 1, Uv, Uv, Uv]) rfl (st374 _ (XS.dup X374.here hx rfl (hb hby at_105) rfl rfl (st376.trans (XS.astore X376.here hx rfl (hb hby at_109) rfl rfl (l' := #[Iv p1, Iv p2, Iv p3, Iv u, Iv tgd, Iv 1, Rv b362, Nv, Rv b369, Iv 1, Rv b374, Uv, Uv]) rfl (XS.iload X376.here hx rfl (hb hby at_111) rfl k)))))))))) ?_
          show own_Fin _ _ _ _ _ _ _ T376 (mkF m 113 #[Iv p1, Iv p2, Iv p3, Iv u, Iv tgd, Iv 1, Rv b362, Nv, Rv b369, Iv 1, Rv b374, Uv, Uv] [(.int 1)])
          obtain ⟨T378, h378, X378, e378, E378, A378, D378, -, st378⟩ := newO X376 hx hZ hown (own_g hw 101) (own_g hw 102) (own_g hw 103) rfl (g := (mkF m 119 #[Iv p1, Iv p2, Iv p3, Iv u, Iv tgd, Iv 1, Rv b362, Nv, Rv b369, Iv 1, Rv b374, Uv, Uv] [(.ref b374)])) rfl (hb hby at_119) (by decide) (by decide)
          obtain ⟨b378, g378⟩ : ∃ z, z = T376.heap.size := ⟨_, rfl⟩
          rw [← g378] at A378 D378 st378
          have ne378_b362 : b362 ≠ b378 := Nat.ne_of_lt (Nat.lt_of_lt_of_le f377_1.lt (Nat.le_of_eq g378.symm))
          have ne378_b369 : b369 ≠ b378 := Nat.ne_of_lt (Nat.lt_of_lt_of_le f377_2.lt (Nat.le_of_eq g378.symm))
          have ne378_b374 : b374 ≠ b378 := Nat.ne_of_lt (Nat.lt_of_lt_of_le f377_4.lt (Nat.le_of_eq g378.symm))
          have gf378 : n0 ≤ b378 := Nat.le_trans Zs376 (Nat.le_of_eq g378.symm)
          have Zs378 : n0 ≤ h378.size := Nat.le_trans Zs376 E378.1
          have f379_0 : Old Z n0 h378 := f377_0.ext E378
          have f379_1 : Arv Z h378 b362 k362 .char (2 : Int32) [(.int ((p2 &&& (255 : Int32)).toUInt32.toUInt16.toUInt32.toInt32).toUInt32.toUInt16.toUInt32.toInt32), (.int ((p3 &&& (255 : Int32)).toUInt32.toUInt16.toUInt32.toInt32).toUInt32.toUInt16.toUInt32.toInt32)] (.int (0 : Int32)) := f377_1.ext E378
          have f379_2 : Exa Z h378 b369 "com/example/lithe_checker/lithechecker/c/CType$StructType" := f377_2.ext E378
          have f379_3 : Fld Z h378 b369 "com/example/lithe_checker/lithechecker/c/CType$StructType" "members" "Ljava/util/List;" .null := f377_3.ext E378
          have f379_4 : Exa Z h378 b374 "java/util/ArrayList" := f377_4.ext E378
          have f379_5 : Fld Z h378 b374 "java/util/AbstractList" "modCount" "I" (.int (0 : Int32)) := Gm376.ext E378
          have f379_6 : Fld Z h378 b374 "java/util/ArrayList" "elementData" "[Ljava/lang/Object;" (.ref da) := Ge376.ext E378
          have f379_7 : Fld Z h378 b374 "java/util/ArrayList" "size" "I" (.int (0 : Int32)) := Gs376.ext E378
          have F378_name : Fld Z h378 b378 "com/example/lithe_checker/lithechecker/c/CType$Member" "name" "Ljava/lang/String;" .null := D378 (Or.inr (own_g hw 135)) (ty := (.object "java/lang/String")) (by decide)
          have F378_type : Fld Z h378 b378 "com/example/lithe_checker/lithechecker/c/CType$Member" "type" "Lcom/example/lithe_checker/lithechecker/c/CType;" .null := D378 (Or.inr (own_g hw 137)) (ty := (.object "com/example/lithe_checker/lithechecker/c/CType")) (by decide)
          obtain ⟨_, _, ⟨T380, L380, k380, n380⟩, -, X380, ⟨Lc380, hQ380, l380, y380, z380⟩, st380⟩ := LawKit.callS X378 hx (y := mn41) hown (own_m hZ hw 104) (own_m hZ hw 105) (own_m hZ hw 106) (own_m hZ hw 107) (by decide) (backOf (W := 3) (rmVO l Z a0 hw [] cs da el ea em ci mm kd ke ((p2 &&& (255 : Int32)).toUInt32.toUInt16.toUInt32.toInt32) h378 n0 Zs378 V_env f379_0 (own_lat p2)) hZ (own_g hw 107) (own_g hw 106) (by decide) (by decide)) (g := (mkF m 129 #[Iv p1, Iv p2, Iv p3, Iv u, Iv tgd, Iv 1, Rv b362, Nv, Rv b369, Iv 1, Rv b374, Uv, Uv] [(.int ((p2 &&& (255 : Int32)).toUInt32.toUInt16.toUInt32.toInt32)), (.ref b378), (.ref b378), (.ref b374)])) rfl (by rw [hml]; rfl) (argsL := [(.int ((p2 &&& (255 : Int32)).toUInt32.toUInt16.toUInt32.toInt32))]) (rest := [(.ref b378), (.ref b378), (.ref b374)]) (lenOf own_pd450 rfl) rfl (own_z rfl) (hb hby at_129) (fun _ _ => ⟨rfl, e378, (by decide : 4 + 2 ≤ _), (by decide : 10 + 5 ≤ _)⟩)
          dsimp only [Pt.U, Pt.locs, Pt.cells, Pt.slots] at X380 l380 y380 z380 st380 hQ380
          subst l380 y380 z380
          obtain ⟨b380, rfl, Nq380, K380, ge380, Ev380⟩ := hQ380
          have N380 := Fr.app N376 Nq380
          have Zs380 : n0 ≤ T380.heap.size := Nat.le_trans Zs378 K380.1
          have f381_0 : Old Z n0 T380.heap := f379_0.keep K380 all0
          have f381_1 : Arv Z T380.heap b362 k362 .char (2 : Int32) [(.int ((p2 &&& (255 : Int32)).toUInt32.toUInt16.toUInt32.toInt32).toUInt32.toUInt16.toUInt32.toInt32), (.int ((p3 &&& (255 : Int32)).toUInt32.toUInt16.toUInt32.toInt32).toUInt32.toUInt16.toUInt32.toInt32)] (.int (0 : Int32)) := f379_1.keep K380 nin0
          have f381_2 : Exa Z T380.heap b369 "com/example/lithe_checker/lithechecker/c/CType$StructType" := f379_2.keep K380
          have f381_3 : Fld Z T380.heap b369 "com/example/lithe_checker/lithechecker/c/CType$StructType" "members" "Ljava/util/List;" .null := f379_3.keep K380 nin0
          have f381_4 : Exa Z T380.heap b374 "java/util/ArrayList" := f379_4.keep K380
          have f381_5 : Fld Z T380.heap b374 "java/util/AbstractList" "modCount" "I" (.int (0 : Int32)) := f379_5.keep K380 nin0
          have f381_6 : Fld Z T380.heap b374 "java/util/ArrayList" "elementData" "[Ljava/lang/Object;" (.ref da) := f379_6.keep K380 nin0
          have f381_7 : Fld Z T380.heap b374 "java/util/ArrayList" "size" "I" (.int (0 : Int32)) := f379_7.keep K380 nin0
          have f381_8 : Exa Z T380.heap b378 "com/example/lithe_checker/lithechecker/c/CType$Member" := A378.keep K380
          have f381_9 : Fld Z T380.heap b378 "com/example/lithe_checker/lithechecker/c/CType$Member" "name" "Ljava/lang/String;" .null := F378_name.keep K380 nin0
          have f381_10 : Fld Z T380.heap b378 "com/example/lithe_checker/lithechecker/c/CType$Member" "type" "Lcom/example/lithe_checker/lithechecker/c/CType;" .null := F378_type.keep K380 nin0
          obtain ⟨T382, X382, e382, st382⟩ := getS2 X380 hx hZ hown (host := "") (Or.inl (own_g hw 128)) Via.refl rfl (V_env.2.2.2.2.2.2.2.2.2.2.1.ext f381_0.2) (g := (mkF m 132 #[Iv p1, Iv p2, Iv p3, Iv u, Iv tgd, Iv 1, Rv b362, Nv, Rv b369, Iv 1, Rv b374, Uv, Uv] [(.ref b380), (.ref b378), (.ref b378), (.ref b374)])) rfl (hb hby at_132)
          refine own_by (fun _ k => XS.iconst X376.here hx rfl (hb hby at_113) (XS.icmpNo X376.here hx rfl (hb hby at_114) rfl (flt (by decide : ¬ ((1 : Int32) < (1 : Int32)))).1 (XS.aload X376.here hx rfl (hb hby at_117) rfl rfl (st378 _ (XS.dup X378.here hx rfl (hb hby at_122) rfl rfl (XS.iloadN X378.here hx rfl (hb hby at_123) rfl (XS.sipush X378.here hx rfl (hb hby at_124) (XS.iand X378.here hx rfl (hb hby at_127) rfl (XS.i2c X378.here hx rfl (hb hby at_128) rfl (st380 _ k)))))))))) ?_
          show own_Fin _ _ _ _ _ _ _ T380 (mkF m 132 #[Iv p1, Iv p2, Iv p3, Iv u, Iv tgd, Iv 1, Rv b362, Nv, Rv b369, Iv 1, Rv b374, Uv, Uv] [(.ref b380), (.ref b378), (.ref b378), (.ref b374)])
          obtain ⟨_, _, ⟨T383, L383, k383, n383⟩, -, X383, ⟨Lc383, hQ383, l383, y383, z383⟩, st383⟩ := X382.specialBack hx (y := mn42) rfl hown (own_m hZ hw 130) (own_m hZ hw 131) (own_m hZ hw 132) (by decide) (backOf (W := 2) (rmMI l Z a0 hw [] b378 b380 ci T380.heap n0 Zs380 f381_8 f381_9 f381_10 gf378) hZ (own_g hw 132) (own_g hw 103) (by decide) (by decide)) (g := (mkF m 135 #[Iv p1, Iv p2, Iv p3, Iv u, Iv tgd, Iv 1, Rv b362, Nv, Rv b369, Iv 1, Rv b374, Uv, Uv] [(.ref ci), (.ref b380), (.ref b378), (.ref b378), (.ref b374)])) rfl (by rw [hml]; rfl) (Steps.refl _) (a := b378) (argsL := [(.ref b380), (.ref ci)]) (rest := [(.ref b378), (.ref b374)]) (lenOf own_pd451 rfl) rfl (own_z rfl) (hb hby at_135) (fun _ _ => ⟨rfl, e382, (by decide : 6 + 0 ≤ _), (by decide : 15 + 0 ≤ _)⟩)
          dsimp only [Pt.U, Pt.locs, Pt.cells, Pt.slots] at X383 l383 y383 z383 st383 hQ383
          subst l383 y383 z383
          obtain ⟨rfl, Nq383, K383⟩ := hQ383
          have N383 := Fr.app N380 Nq383
          have Zs383 : n0 ≤ T383.heap.size := Nat.le_trans Zs380 K383.1
          have f384_0 : Old Z n0 T383.heap := f381_0.keep K383 (allS gf378 all0)
          have f384_1 : Arv Z T383.heap b362 k362 .char (2 : Int32) [(.int ((p2 &&& (255 : Int32)).toUInt32.toUInt16.toUInt32.toInt32).toUInt32.toUInt16.toUInt32.toInt32), (.int ((p3 &&& (255 : Int32)).toUInt32.toUInt16.toUInt32.toInt32).toUInt32.toUInt16.toUInt32.toInt32)] (.int (0 : Int32)) := f381_1.keep K383 (ninS ne378_b362 nin0)
          have f384_2 : Exa Z T383.heap b369 "com/example/lithe_checker/lithechecker/c/CType$StructType" := f381_2.keep K383
          have f384_3 : Fld Z T383.heap b369 "com/example/lithe_checker/lithechecker/c/CType$StructType" "members" "Ljava/util/List;" .null := f381_3.keep K383 (ninS ne378_b369 nin0)
          have f384_4 : Exa Z T383.heap b374 "java/util/ArrayList" := f381_4.keep K383
          have f384_5 : Fld Z T383.heap b374 "java/util/AbstractList" "modCount" "I" (.int (0 : Int32)) := f381_5.keep K383 (ninS ne378_b374 nin0)
          have f384_6 : Fld Z T383.heap b374 "java/util/ArrayList" "elementData" "[Ljava/lang/Object;" (.ref da) := f381_6.keep K383 (ninS ne378_b374 nin0)
          have f384_7 : Fld Z T383.heap b374 "java/util/ArrayList" "size" "I" (.int (0 : Int32)) := f381_7.keep K383 (ninS ne378_b374 nin0)
          have f384_8 : Exa Z T383.heap b378 "com/example/lithe_checker/lithechecker/c/CType$Member" := f381_8.keep K383
          have f384_11 : Exa Z T383.heap b380 "java/lang/String" := Ev380.keep K383
          obtain ⟨cq385, kq385, q385a, q385b, q385c⟩ := isOf hZ rfl f384_4
          obtain ⟨_, _, ⟨T385, L385, k385, n385⟩, -, X385, ⟨Lc385, hQ385, l385, y385, z385⟩, st385⟩ := X383.virtualBack hx (y := mn11) (z := mn11) hown (own_m hZ hw 138) (own_m hZ hw 139) (notFace_of_selects (args := #[]) (own_m hZ hw 141)) (own_m hZ hw 141) (own_m hZ hw 140) (by decide) (backOf (W := 0) (rmA0 l Z a0 hw [] cs da el ea em ci mm kd ke b374 b378 (0 : Int32) T383.heap n0 Zs383 V_env f384_0 f384_4 f384_5 f384_6 f384_7 gf374 f384_8) hZ (own_g hw 142) (own_g hw 28) (by decide) (by decide)) q385a q385c (g := (mkF m 138 #[Iv p1, Iv p2, Iv p3, Iv u, Iv tgd, Iv 1, Rv b362, Nv, Rv b369, Iv 1, Rv b374, Uv, Uv] [(.ref b378), (.ref b374)])) rfl (by rw [hml]; rfl) (Steps.refl _) (argsL := [(.ref b378)]) (rest := []) (lenOf own_pd452 rfl) rfl (own_z rfl) (hb hby at_138) (fun _ _ => ⟨rfl, rfl, (by decide : 6 + 1 ≤ _), (by decide : 15 + 10 ≤ _)⟩)
          dsimp only [Pt.U, Pt.locs, Pt.cells, Pt.slots] at X385 l385 y385 z385 st385 hQ385
          subst l385 y385 z385
          obtain ⟨b385, k385, rfl, Nq385, K385, ge385, Gm385, Ge385, Gs385, V385, Eb385, Ov385⟩ := hQ385
          have N385 := Fr.app N383 Nq385
          have Zs385 : n0 ≤ T385.heap.size := Nat.le_trans Zs383 K385.1
          have f386_0 : Old Z n0 T385.heap := f384_0.keep K385 (allS gf374 all0)
          have f386_1 : Arv Z T385.heap b362 k362 .char (2 : Int32) [(.int ((p2 &&& (255 : Int32)).toUInt32.toUInt16.toUInt32.toInt32).toUInt32.toUInt16.toUInt32.toInt32), (.int ((p3 &&& (255 : Int32)).toUInt32.toUInt16.toUInt32.toInt32).toUInt32.toUInt16.toUInt32.toInt32)] (.int (0 : Int32)) := f384_1.keep K385 (ninS ne374_b362 nin0)
          have f386_2 : Exa Z T385.heap b369 "com/example/lithe_checker/lithechecker/c/CType$StructType" := f384_2.keep K385
          have f386_3 : Fld Z T385.heap b369 "com/example/lithe_checker/lithechecker/c/CType$StructType" "members" "Ljava/util/List;" .null := f384_3.keep K385 (ninS ne374_b369 nin0)
          have f386_4 : Exa Z T385.heap b374 "java/util/ArrayList" := f384_4.keep K385
          have f386_8 : Exa Z T385.heap b378 "com/example/lithe_checker/lithechecker/c/CType$Member" := f384_8.keep K385
          have f386_9 : Exa Z T385.heap b380 "java/lang/String" := f384_11.keep K385
          have ne385_b362 : b362 ≠ b385 := Nat.ne_of_lt (Nat.lt_of_lt_of_le f384_1.lt ge385)
          have ne385_b369 : b369 ≠ b385 := Nat.ne_of_lt (Nat.lt_of_lt_of_le f384_2.lt ge385)
          have ne385_b374 : b374 ≠ b385 := Nat.ne_of_lt (Nat.lt_of_lt_of_le f384_4.lt ge385)
          have ne385_b378 : b378 ≠ b385 := Nat.ne_of_lt (Nat.lt_of_lt_of_le f384_8.lt ge385)
          have ne385_b380 : b380 ≠ b385 := Nat.ne_of_lt (Nat.lt_of_lt_of_le f384_11.lt ge385)
          have gf385 : n0 ≤ b385 := Nat.le_trans Zs383 ge385
          refine own_by (fun _ k => st382 _ (st383.trans (st385.trans (XS.pop X385.here hx rfl (hb hby at_141) rfl rfl (XS.iload X385.here hx rfl (hb hby at_142) rfl (XS.iconst X385.here hx rfl (hb hby at_144) (XS.icmpYes X385.here hx rfl (pc0 := 145) (pc' := 173) rfl (hb hby at_145) rfl (tlt (by decide : (1 : Int32) < (2 : Int32))).1 (by decide) (by decide) (XS.iload X385.here hx rfl (hb hby at_173) rfl (XS.iconst X385.here hx rfl (hb hby at_175) (XS.icmpYes X385.here hx rfl (pc0 := 176) (pc' := 204) rfl (hb hby at_176) rfl (tlt (by decide : (1 : Int32) < (3 : Int32))).1 (by decide) (by decide) k)))))))))) ?_
          show own_Fin _ _ _ _ _ _ _ T385 (mkF m 204 #[Iv p1, Iv p2, Iv p3, Iv u, Iv tgd, Iv 1, Rv b362, Nv, Rv b369, Iv 1, Rv b374, Uv, Uv] [])
          obtain ⟨cq387, kq387, q387a, q387b, q387c⟩ := isOf hZ rfl f386_2
          obtain ⟨_, _, ⟨T387, L387, k387, n387⟩, -, X387, ⟨Lc387, hQ387, l387, y387, z387⟩, st387⟩ := X385.virtualBack hx (y := mn32) (z := mn32) hown (own_m hZ hw 50) (own_m hZ hw 51) (notFace_of_selects (args := #[]) (own_m hZ hw 53)) (own_m hZ hw 53) (own_m hZ hw 52) (by decide) (backOf (W := 0) (rmCo1 l Z a0 hw [] cs da el ea em ci mm kd ke b369 b374 b385 k385 b378 T385.heap n0 Zs385 V_env f386_0 f386_2 f386_3 gf369 f386_4 Ge385 Gs385 V385 Eb385 f386_8 ne374_b369) hZ (own_g hw 54) (own_g hw 3) (by decide) (by decide)) q387a q387c (g := (mkF m 208 #[Iv p1, Iv p2, Iv p3, Iv u, Iv tgd, Iv 1, Rv b362, Nv, Rv b369, Iv 1, Rv b374, Uv, Uv] [(.ref b374), (.ref b369)])) rfl (by rw [hml]; rfl) (Steps.refl _) (argsL := [(.ref b374)]) (rest := []) (lenOf own_pd447 rfl) rfl (own_z rfl) (hb hby at_208) (fun _ _ => ⟨rfl, rfl, (by decide : 7 + 2 ≤ _), (by decide : 25 + 3 ≤ _)⟩)
          dsimp only [Pt.U, Pt.locs, Pt.cells, Pt.slots] at X387 l387 y387 z387 st387 hQ387
          subst l387 y387 z387
          obtain ⟨q387, rfl, Nq387, K387, Gm387, Eq387, Gq387⟩ := hQ387
          have N387 := Fr.app N385 Nq387
          have Zs387 : n0 ≤ T387.heap.size := Nat.le_trans Zs385 K387.1
          have f388_0 : Old Z n0 T387.heap := f386_0.keep K387 (allS gf369 all0)
          have f388_1 : Arv Z T387.heap b362 k362 .char (2 : Int32) [(.int ((p2 &&& (255 : Int32)).toUInt32.toUInt16.toUInt32.toInt32).toUInt32.toUInt16.toUInt32.toInt32), (.int ((p3 &&& (255 : Int32)).toUInt32.toUInt16.toUInt32.toInt32).toUInt32.toUInt16.toUInt32.toInt32)] (.int (0 : Int32)) := f386_1.keep K387 (ninS ne369_b362 nin0)
          have f388_2 : Exa Z T387.heap b369 "com/example/lithe_checker/lithechecker/c/CType$StructType" := f386_2.keep K387
          have f388_4 : Exa Z T387.heap b374 "java/util/ArrayList" := f386_4.keep K387
          have f388_5 : Exa Z T387.heap b378 "com/example/lithe_checker/lithechecker/c/CType$Member" := f386_8.keep K387
          have f388_6 : Exa Z T387.heap b380 "java/lang/String" := f386_9.keep K387
          have f388_7 : Fld Z T387.heap b374 "java/util/AbstractList" "modCount" "I" (.int ((0 : Int32) + (1 : Int32))) := Gm385.keep K387 (ninS (Ne.symm ne374_b369) nin0)
          have f388_8 : Fld Z T387.heap b374 "java/util/ArrayList" "elementData" "[Ljava/lang/Object;" (.ref b385) := Ge385.keep K387 (ninS (Ne.symm ne374_b369) nin0)
          have f388_9 : Fld Z T387.heap b374 "java/util/ArrayList" "size" "I" (.int (1 : Int32)) := Gs385.keep K387 (ninS (Ne.symm ne374_b369) nin0)
          have f388_10 : Arv Z T387.heap b385 k385 (.object "java/lang/Object") (10 : Int32) [(.ref b378), .null, .null, .null, .null, .null, .null, .null, .null, .null] .null := V385.keep K387 (ninS (Ne.symm ne385_b369) nin0)
          have f388_11 : Exa Z T387.heap b385 "[Ljava/lang/Object;" := Eb385.keep K387
          obtain ⟨cq389, kq389, q389a, q389b, q389c⟩ := isOf hZ rfl f388_2
          obtain ⟨_, _, ⟨T389, L389, k389, n389⟩, -, X389, ⟨Lc389, hQ389, l389, y389, z389⟩, st389⟩ := X387.virtualBack hx (y := mn30) (z := mn30) hown (own_m hZ hw 19) (own_m hZ hw 20) (notFace_of_selects (args := #[]) (own_m hZ hw 22)) (own_m hZ hw 22) (own_m hZ hw 21) (by decide) (backOf (W := 0) (rmIc1 l Z a0 hw [] b369 q387 T387.heap n0 Zs387 Gm387) hZ (own_g hw 23) (own_g hw 3) (by decide) (by decide)) q389a q389c (g := (mkF m 213 #[Iv p1, Iv p2, Iv p3, Iv u, Iv tgd, Iv 1, Rv b362, Nv, Rv b369, Iv 1, Rv b374, Uv, Uv] [(.ref b369)])) rfl (by rw [hml]; rfl) (Steps.refl _) (argsL := []) (rest := []) (lenOf own_pd251 rfl) rfl (own_z rfl) (hb hby at_213) (fun _ _ => ⟨rfl, rfl, (by decide : 9 + 0 ≤ _), (by decide : 28 + 0 ≤ _)⟩)
          dsimp only [Pt.U, Pt.locs, Pt.cells, Pt.slots] at X389 l389 y389 z389 st389 hQ389
          subst l389 y389 z389
          obtain ⟨rfl, Nq389, eh389⟩ := hQ389
          have N389 := Fr.app N387 Nq389
          obtain ⟨cq390, kq390, q390a, q390b, q390c⟩ := isOf hZ eh389 f388_2
          obtain ⟨_, _, ⟨T390, L390, k390, n390⟩, -, X390, ⟨Lc390, hQ390, l390, y390, z390⟩, st390⟩ := X389.virtualBack hx (y := mn31) (z := mn31) hown (own_m hZ hw 84) (own_m hZ hw 85) (notFace_of_selects (args := #[]) (own_m hZ hw 87)) (own_m hZ hw 87) (own_m hZ hw 86) (by decide) (backOf (W := 0) (rmMb l Z a0 hw [] b369 q387 T387.heap n0 Zs387 Gm387) hZ (own_g hw 88) (own_g hw 3) (by decide) (by decide)) q390a q390c (g := (mkF m 220 #[Iv p1, Iv p2, Iv p3, Iv u, Iv tgd, Iv 1, Rv b362, Nv, Rv b369, Iv 1, Rv b374, Iv 1, Uv] [(.ref b369)])) rfl (by rw [hml]; rfl) (Steps.refl _) (argsL := []) (rest := []) (lenOf own_pd280 rfl) rfl (own_z rfl) (hb hby at_220) (fun _ _ => ⟨rfl, eh389, (by decide : 9 + 0 ≤ _), (by decide : 28 + 0 ≤ _)⟩)
          dsimp only [Pt.U, Pt.locs, Pt.cells, Pt.slots] at X390 l390 y390 z390 st390 hQ390
          subst l390 y390 z390
          obtain ⟨rfl, Nq390, eh390⟩ := hQ390
          have N390 := Fr.app N389 Nq390
          obtain ⟨cq391, kq391, q391a, q391b, q391c⟩ := isOf hZ eh390 Eq387
          obtain ⟨_, _, ⟨T391, L391, k391, n391⟩, -, X391, ⟨Lc391, hQ391, l391, y391, z391⟩, st391⟩ := X390.interfaceBack hx (xi := mn43) (y := mn21) hown (own_m hZ hw 89) (own_m hZ hw 90) (own_m hZ hw 91) (own_m hZ hw 230) (own_m hZ hw 231) (own_m hZ hw 232) (own_m hZ hw 233) (own_m hZ hw 234) (by decide) (backOf (W := 0) (rmZ1 l Z a0 hw [] cs da el ea em ci mm kd ke q387 T387.heap n0 Zs387 V_env f388_0 Gq387) hZ (own_g hw 235) (own_g hw 202) (by decide) (by decide)) q391a q391b q391c (g := (mkF m 223 #[Iv p1, Iv p2, Iv p3, Iv u, Iv tgd, Iv 1, Rv b362, Nv, Rv b369, Iv 1, Rv b374, Iv 1, Uv] [(.ref q387)])) rfl (by rw [hml]; rfl) (Steps.refl _) (argsL := []) (rest := []) (lenOf own_pd448 rfl) rfl (own_z rfl) (hb hby at_223) (fun _ _ => ⟨rfl, eh390, (by decide : 9 + 0 ≤ _), (by decide : 28 + 0 ≤ _)⟩)
          dsimp only [Pt.U, Pt.locs, Pt.cells, Pt.slots] at X391 l391 y391 z391 st391 hQ391
          subst l391 y391 z391
          obtain ⟨rfl, Nq391, eh391⟩ := hQ391
          have N391 := Fr.app N390 Nq391
          refine own_by (fun _ k => XS.aload X385.here hx rfl (hb hby at_204) rfl rfl (XS.aload X385.here hx rfl (hb hby at_206) rfl rfl (st387.trans (XS.aload X387.here hx rfl (hb hby at_211) rfl rfl (st389.trans (XS.istore X389.here hx rfl (hb hby at_216) rfl (l' := #[Iv p1, Iv p2, Iv p3, Iv u, Iv tgd, Iv 1, Rv b362, Nv, Rv b369, Iv 1, Rv b374, Iv 1, Uv]) rfl (XS.aload X389.here hx rfl (hb hby at_218) rfl rfl (st390.trans (st391.trans (XS.iload X391.here hx rfl (hb hby at_228) rfl k)))))))))) ?_
          show own_Fin _ _ _ _ _ _ _ T391 (mkF m 230 #[Iv p1, Iv p2, Iv p3, Iv u, Iv tgd, Iv 1, Rv b362, Nv, Rv b369, Iv 1, Rv b374, Iv 1, Uv] [(.int 1), (.int 1)])
          refine own_by (fun _ k => XS.icmpNo X391.here hx rfl (hb hby at_230) rfl (teq (by decide : (1 : Int32) = (1 : Int32))).2 (XS.iconst X391.here hx rfl (hb hby at_233) (XS.goto X391.here hx rfl (pc0 := 234) (pc' := 238) rfl (hb hby at_234) (by decide) (by decide) (XS.istore X391.here hx rfl (hb hby at_238) rfl (l' := #[Iv p1, Iv p2, Iv p3, Iv u, Iv tgd, Iv 1, Rv b362, Nv, Rv b369, Iv 1, Rv b374, Iv 1, Iv 1]) rfl (XS.iload X391.here hx rfl (hb hby at_240) rfl (XS.ifNo X391.here hx rfl (hb hby at_242) rfl ((if0 _ _).trans (feq (by decide : ¬ ((1 : Int32) = (0 : Int32)))).1) (XS.iload X391.here hx rfl (hb hby at_245) rfl (XS.ifNo X391.here hx rfl (hb hby at_247) rfl ((if0 _ _).trans (feq (by decide : ¬ ((1 : Int32) = (0 : Int32)))).1) (XS.iload X391.here hx rfl (hb hby at_250) rfl (XS.ifNo X391.here hx rfl (hb hby at_252) rfl ((if0 _ _).trans (feq (by decide : ¬ ((1 : Int32) = (0 : Int32)))).1) k)))))))))) ?_
          show own_Fin _ _ _ _ _ _ _ T391 (mkF m 255 #[Iv p1, Iv p2, Iv p3, Iv u, Iv tgd, Iv 1, Rv b362, Nv, Rv b369, Iv 1, Rv b374, Iv 1, Iv 1] [])
          refine own_by (fun _ k => XS.iconst X391.here hx rfl (hb hby at_255) (XS.goto X391.here hx rfl (pc0 := 256) (pc' := 260) rfl (hb hby at_256) (by decide) (by decide) k)) ?_
          exact own_retZ X391 hx hlk (t := .boolean) Bd.returns (by simp) (hb hby at_260) ⟨rfl, N391⟩ (by decide) (by decide)
        · show own_Fin _ _ _ _ _ _ _ T366 (mkF m 57 #[Iv p1, Iv p2, Iv p3, Iv u, Iv tgd, Iv 1, Rv b362, Uv, Uv, Uv, Uv, Uv, Uv] [(.int tgd)])
          obtain ⟨T392, h392, X392, e392, E392, A392, D392, -, st392⟩ := newO X366 hx hZ hown (own_g hw 236) (own_g hw 114) (own_g hw 106) e366 (g := (mkF m 60 #[Iv p1, Iv p2, Iv p3, Iv u, Iv tgd, Iv 1, Rv b362, Uv, Uv, Uv, Uv, Uv, Uv] [])) rfl (hb hby at_60) (by decide) (by decide)
          obtain ⟨b392, g392⟩ : ∃ z, z = h366.size := ⟨_, rfl⟩
          rw [← g392] at A392 D392 st392
          have ne392_b362 : b362 ≠ b392 := Nat.ne_of_lt (Nat.lt_of_lt_of_le V366.lt (Nat.le_of_eq g392.symm))
          have gf392 : n0 ≤ b392 := Nat.le_trans Zs366 (Nat.le_of_eq g392.symm)
          have Zs392 : n0 ≤ h392.size := Nat.le_trans Zs366 E392.1
          have f393_0 : Old Z n0 h392 := f367_0.ext E392
          have f393_1 : Arv Z h392 b362 k362 .char (2 : Int32) [(.int ((p2 &&& (255 : Int32)).toUInt32.toUInt16.toUInt32.toInt32).toUInt32.toUInt16.toUInt32.toInt32), (.int ((p3 &&& (255 : Int32)).toUInt32.toUInt16.toUInt32.toInt32).toUInt32.toUInt16.toUInt32.toInt32)] (.int (0 : Int32)) := V366.ext E392
          have F392_value : Fld Z h392 b392 "java/lang/String" "value" "[B" .null := D392 (Or.inr (own_g hw 125)) (ty := (.array .byte)) (by decide)
          have F392_coder : Fld Z h392 b392 "java/lang/String" "coder" "B" (.int (0 : Int32)) := D392 (Or.inr (own_g hw 127)) (ty := .byte) (by decide)
          have Vt394 : Arv Z h392 b362 k362 .char (2 : Int32) [(.int ((p2 &&& (255 : Int32)).toUInt32.toUInt16.toUInt32.toInt32)), (.int ((p3 &&& (255 : Int32)).toUInt32.toUInt16.toUInt32.toInt32))] (.int (0 : Int32)) := by have q := f393_1; simp only [own_c16] at q; exact q
          obtain ⟨_, _, ⟨T395, L395, k395, n395⟩, -, X395, ⟨Lc395, hQ395, l395, y395, z395⟩, st395⟩ := X392.specialBack hx (y := mn37) rfl hown (own_m hZ hw 237) (own_m hZ hw 238) (own_m hZ hw 239) (by decide) (backOf (W := 1) (rmSC2 l Z a0 hw [] b392 b362 k362 cs ((p2 &&& (255 : Int32)).toUInt32.toUInt16.toUInt32.toInt32) ((p3 &&& (255 : Int32)).toUInt32.toUInt16.toUInt32.toInt32) h392 n0 Zs392 A392 F392_value F392_coder gf392 Vt394 ne392_b362 (own_lat p2) (own_lat p3) (V_env.1.ext f393_0.2) V_env.2.1) hZ (own_g hw 239) (own_g hw 106) (by decide) (by decide)) (g := (mkF m 66 #[Iv p1, Iv p2, Iv p3, Iv u, Iv tgd, Iv 1, Rv b362, Uv, Uv, Uv, Uv, Uv, Uv] [(.ref b362), (.ref b392), (.ref b392)])) rfl (by rw [hml]; rfl) (Steps.refl _) (a := b392) (argsL := [(.ref b362)]) (rest := [(.ref b392)]) (lenOf own_pd449 rfl) rfl (own_z rfl) (hb hby at_66) (fun _ _ => ⟨rfl, e392, (by decide : 2 + 1 ≤ _), (by decide : 6 + 2 ≤ _)⟩)
          dsimp only [Pt.U, Pt.locs, Pt.cells, Pt.slots] at X395 l395 y395 z395 st395 hQ395
          subst l395 y395 z395
          obtain ⟨bs395, ks395, rfl, Nq395, K395, Gc395, Gv395, Vs395⟩ := hQ395
          have N395 := Fr.app N366 Nq395
          have Zs395 : n0 ≤ T395.heap.size := Nat.le_trans Zs392 K395.1
          have f396_0 : Old Z n0 T395.heap := f393_0.keep K395 (allS gf392 all0)
          have f396_1 : Arv Z T395.heap b362 k362 .char (2 : Int32) [(.int ((p2 &&& (255 : Int32)).toUInt32.toUInt16.toUInt32.toInt32).toUInt32.toUInt16.toUInt32.toInt32), (.int ((p3 &&& (255 : Int32)).toUInt32.toUInt16.toUInt32.toInt32).toUInt32.toUInt16.toUInt32.toInt32)] (.int (0 : Int32)) := f393_1.keep K395 (ninS ne392_b362 nin0)
          have f396_2 : Exa Z T395.heap b392 "java/lang/String" := A392.keep K395
          obtain ⟨T397, h397, X397, e397, E397, A397, D397, -, st397⟩ := newO X395 hx hZ hown (own_g hw 1) (own_g hw 2) (own_g hw 3) rfl (g := (mkF m 75 #[Iv p1, Iv p2, Iv p3, Iv u, Iv tgd, Iv 1, Rv b362, Rv b392, Uv, Uv, Uv, Uv, Uv] [])) rfl (hb hby at_75) (by decide) (by decide)
          obtain ⟨b397, g397⟩ : ∃ z, z = T395.heap.size := ⟨_, rfl⟩
          rw [← g397] at A397 D397 st397
          have ne397_b362 : b362 ≠ b397 := Nat.ne_of_lt (Nat.lt_of_lt_of_le f396_1.lt (Nat.le_of_eq g397.symm))
          have ne397_b392 : b392 ≠ b397 := Nat.ne_of_lt (Nat.lt_of_lt_of_le f396_2.lt (Nat.le_of_eq g397.symm))
          have gf397 : n0 ≤ b397 := Nat.le_trans Zs395 (Nat.le_of_eq g397.symm)
          have Zs397 : n0 ≤ h397.size := Nat.le_trans Zs395 E397.1
          have f398_0 : Old Z n0 h397 := f396_0.ext E397
          have f398_1 : Arv Z h397 b362 k362 .char (2 : Int32) [(.int ((p2 &&& (255 : Int32)).toUInt32.toUInt16.toUInt32.toInt32).toUInt32.toUInt16.toUInt32.toInt32), (.int ((p3 &&& (255 : Int32)).toUInt32.toUInt16.toUInt32.toInt32).toUInt32.toUInt16.toUInt32.toInt32)] (.int (0 : Int32)) := f396_1.ext E397
          have f398_2 : Exa Z h397 b392 "java/lang/String" := f396_2.ext E397
          have F397_union : Fld Z h397 b397 "com/example/lithe_checker/lithechecker/c/CType$StructType" "union" "Z" (.int (0 : Int32)) := D397 (Or.inr (own_g hw 16)) (ty := .boolean) (by decide)
          have F397_tag : Fld Z h397 b397 "com/example/lithe_checker/lithechecker/c/CType$StructType" "tag" "Ljava/lang/String;" .null := D397 (Or.inr (own_g hw 18)) (ty := (.object "java/lang/String")) (by decide)
          have F397_members : Fld Z h397 b397 "com/example/lithe_checker/lithechecker/c/CType$StructType" "members" "Ljava/util/List;" .null := D397 (Or.inl (own_g hw 25)) (ty := (.object "java/util/List")) (by decide)
          refine own_by (fun _ k => XS.ifNo X366.here hx rfl (hb hby at_57) rfl ((if0 _ _).trans (feq hc57_368).1) (st392 _ (XS.dup X392.here hx rfl (hb hby at_63) rfl rfl (XS.aload X392.here hx rfl (hb hby at_64) rfl rfl (st395.trans (XS.goto X395.here hx rfl (pc0 := 69) (pc' := 73) rfl (hb hby at_69) (by decide) (by decide) (XS.astore X395.here hx rfl (hb hby at_73) rfl rfl (l' := #[Iv p1, Iv p2, Iv p3, Iv u, Iv tgd, Iv 1, Rv b362, Rv b392, Uv, Uv, Uv, Uv, Uv]) rfl (st397 _ (XS.dup X397.here hx rfl (hb hby at_78) rfl rfl (XS.iloadN X397.here hx rfl (hb hby at_79) rfl k)))))))))) ?_
          show own_Fin _ _ _ _ _ _ _ T397 (mkF m 80 #[Iv p1, Iv p2, Iv p3, Iv u, Iv tgd, Iv 1, Rv b362, Rv b392, Uv, Uv, Uv, Uv, Uv] [(.int u), (.ref b397), (.ref b397)])
          obtain ⟨_, _, ⟨T399, L399, k399, n399⟩, -, X399, ⟨Lc399, hQ399, l399, y399, z399⟩, st399⟩ := X397.specialBack hx (y := mn29) rfl hown (own_m hZ hw 4) (own_m hZ hw 5) (own_m hZ hw 6) (by decide) (backOf (W := 1) (rmSI l Z a0 hw [] b397 u (.ref b392) h397 n0 Zs397 A397 F397_union F397_tag F397_members gf397 rfl) hZ (own_g hw 6) (own_g hw 3) (by decide) (by decide)) (g := (mkF m 82 #[Iv p1, Iv p2, Iv p3, Iv u, Iv tgd, Iv 1, Rv b362, Rv b392, Uv, Uv, Uv, Uv, Uv] [(.ref b392), (.int u), (.ref b397), (.ref b397)])) rfl (by rw [hml]; rfl) (Steps.refl _) (a := b397) (argsL := [(.int u), (.ref b392)]) (rest := [(.ref b397)]) (lenOf own_pd446 rfl) rfl (own_z rfl) (hb hby at_82) (fun _ _ => ⟨rfl, e397, (by decide : 4 + 0 ≤ _), (by decide : 11 + 0 ≤ _)⟩)
          dsimp only [Pt.U, Pt.locs, Pt.cells, Pt.slots] at X399 l399 y399 z399 st399 hQ399
          subst l399 y399 z399
          obtain ⟨rfl, Nq399, K399, Gm399⟩ := hQ399
          have N399 := Fr.app N395 Nq399
          have Zs399 : n0 ≤ T399.heap.size := Nat.le_trans Zs397 K399.1
          have f400_0 : Old Z n0 T399.heap := f398_0.keep K399 (allS gf397 all0)
          have f400_1 : Arv Z T399.heap b362 k362 .char (2 : Int32) [(.int ((p2 &&& (255 : Int32)).toUInt32.toUInt16.toUInt32.toInt32).toUInt32.toUInt16.toUInt32.toInt32), (.int ((p3 &&& (255 : Int32)).toUInt32.toUInt16.toUInt32.toInt32).toUInt32.toUInt16.toUInt32.toInt32)] (.int (0 : Int32)) := f398_1.keep K399 (ninS ne397_b362 nin0)
          have f400_2 : Exa Z T399.heap b392 "java/lang/String" := f398_2.keep K399
          have f400_3 : Exa Z T399.heap b397 "com/example/lithe_checker/lithechecker/c/CType$StructType" := A397.keep K399
          obtain ⟨cq401, kq401, q401a, q401b, q401c⟩ := isOf hZ rfl f400_3
          obtain ⟨_, _, ⟨T401, L401, k401, n401⟩, -, X401, ⟨Lc401, hQ401, l401, y401, z401⟩, st401⟩ := X399.virtualBack hx (y := mn30) (z := mn30) hown (own_m hZ hw 19) (own_m hZ hw 20) (notFace_of_selects (args := #[]) (own_m hZ hw 22)) (own_m hZ hw 22) (own_m hZ hw 21) (by decide) (backOf (W := 0) (rmIc0 l Z a0 hw [] b397 T399.heap n0 Zs399 Gm399) hZ (own_g hw 23) (own_g hw 3) (by decide) (by decide)) q401a q401c (g := (mkF m 89 #[Iv p1, Iv p2, Iv p3, Iv u, Iv tgd, Iv 1, Rv b362, Rv b392, Rv b397, Uv, Uv, Uv, Uv] [(.ref b397)])) rfl (by rw [hml]; rfl) (Steps.refl _) (argsL := []) (rest := []) (lenOf own_pd251 rfl) rfl (own_z rfl) (hb hby at_89) (fun _ _ => ⟨rfl, rfl, (by decide : 4 + 0 ≤ _), (by decide : 11 + 0 ≤ _)⟩)
          dsimp only [Pt.U, Pt.locs, Pt.cells, Pt.slots] at X401 l401 y401 z401 st401 hQ401
          subst l401 y401 z401
          obtain ⟨rfl, Nq401, eh401⟩ := hQ401
          have N401 := Fr.app N399 Nq401
          obtain ⟨T402, h402, X402, e402, E402, A402, D402, -, st402⟩ := newO X401 hx hZ hown (own_g hw 26) (own_g hw 27) (own_g hw 28) eh401 (g := (mkF m 102 #[Iv p1, Iv p2, Iv p3, Iv u, Iv tgd, Iv 1, Rv b362, Rv b392, Rv b397, Iv 1, Uv, Uv, Uv] [])) rfl (hb hby at_102) (by decide) (by decide)
          obtain ⟨b402, g402⟩ : ∃ z, z = T399.heap.size := ⟨_, rfl⟩
          rw [← g402] at A402 D402 st402
          have ne402_b362 : b362 ≠ b402 := Nat.ne_of_lt (Nat.lt_of_lt_of_le f400_1.lt (Nat.le_of_eq g402.symm))
          have ne402_b392 : b392 ≠ b402 := Nat.ne_of_lt (Nat.lt_of_lt_of_le f400_2.lt (Nat.le_of_eq g402.symm))
          have ne402_b397 : b397 ≠ b402 := Nat.ne_of_lt (Nat.lt_of_lt_of_le f400_3.lt (Nat.le_of_eq g402.symm))
          have gf402 : n0 ≤ b402 := Nat.le_trans Zs399 (Nat.le_of_eq g402.symm)
          have Zs402 : n0 ≤ h402.size := Nat.le_trans Zs399 E402.1
          have f403_0 : Old Z n0 h402 := f400_0.ext E402
          have f403_1 : Arv Z h402 b362 k362 .char (2 : Int32) [(.int ((p2 &&& (255 : Int32)).toUInt32.toUInt16.toUInt32.toInt32).toUInt32.toUInt16.toUInt32.toInt32), (.int ((p3 &&& (255 : Int32)).toUInt32.toUInt16.toUInt32.toInt32).toUInt32.toUInt16.toUInt32.toInt32)] (.int (0 : Int32)) := f400_1.ext E402
          have f403_2 : Exa Z h402 b392 "java/lang/String" := f400_2.ext E402
          have f403_3 : Exa Z h402 b397 "com/example/lithe_checker/lithechecker/c/CType$StructType" := f400_3.ext E402
          have f403_4 : Fld Z h402 b397 "com/example/lithe_checker/lithechecker/c/CType$StructType" "members" "Ljava/util/List;" .null := Gm399.ext E402
          have F402_modCount : Fld Z h402 b402 "java/util/AbstractList" "modCount" "I" (.int (0 : Int32)) := D402 (Or.inl (own_g hw 46)) (ty := .int) (by decide)
          have F402_elementData : Fld Z h402 b402 "java/util/ArrayList" "elementData" "[Ljava/lang/Object;" .null := D402 (Or.inl (own_g hw 49)) (ty := (.array (.object "java/lang/Object"))) (by decide)
          have F402_size : Fld Z h402 b402 "java/util/ArrayList" "size" "I" (.int (0 : Int32)) := D402 (Or.inl (own_g hw 79)) (ty := .int) (by decide)
          refine own_by (fun _ k => XS.aload X397.here hx rfl (hb hby at_80) rfl rfl (st399.trans (XS.astore X399.here hx rfl (hb hby at_85) rfl rfl (l' := #[Iv p1, Iv p2, Iv p3, Iv u, Iv tgd, Iv 1, Rv b362, Rv b392, Rv b397, Uv, Uv, Uv, Uv]) rfl (XS.aload X399.here hx rfl (hb hby at_87) rfl rfl (st401.trans (XS.ifNo X401.here hx rfl (hb hby at_92) rfl ((if0 _ _).trans (teq (by decide : (0 : Int32) = (0 : Int32))).2) (XS.iconst X401.here hx rfl (hb hby at_95) (XS.goto X401.here hx rfl (pc0 := 96) (pc' := 100) rfl (hb hby at_96) (by decide) (by decide) (XS.istore X401.here hx rfl (hb hby at_100) rfl (l' := #[Iv p1, Iv p2, Iv p3, Iv u, Iv tgd, Iv 1, Rv b362, Rv b392, Rv b397, Iv 1, Uv, Uv, Uv]) rfl (st402 _ k)))))))))) ?_
          show own_Fin _ _ _ _ _ _ _ T402 (mkF m 105 #[Iv p1, Iv p2, Iv p3, Iv u, Iv tgd, Iv 1, Rv b362, Rv b392, Rv b397, Iv 1, Uv, Uv, Uv] [(.ref b402)])
          obtain ⟨_, _, ⟨T404, L404, k404, n404⟩, -, X404, ⟨Lc404, hQ404, l404, y404, z404⟩, st404⟩ := X402.specialBack hx (y := mn7) rfl hown (own_m hZ hw 29) (own_m hZ hw 30) (own_m hZ hw 31) (by decide) (backOf (W := 1) (rmALI l Z a0 hw [] cs da el ea em ci mm kd ke b402 h402 n0 Zs402 V_env f403_0 A402 F402_modCount F402_elementData F402_size gf402) hZ (own_g hw 31) (own_g hw 28) (by decide) (by decide)) (g := (mkF m 106 #[Iv p1, Iv p2, Iv p3, Iv u, Iv tgd, Iv 1, Rv b362, Rv b392, Rv b397, Iv 1, Uv, Uv, Uv] [(.ref b402), (.ref b402)])) rfl (by rw [hml]; rfl) (Steps.refl _) (a := b402) (argsL := []) (rest := [(.ref b402)]) (lenOf own_pd12 rfl) rfl (own_z rfl) (hb hby at_106) (fun _ _ => ⟨rfl, e402, (by decide : 5 + 0 ≤ _), (by decide : 14 + 0 ≤ _)⟩)
          dsimp only [Pt.U, Pt.locs, Pt.cells, Pt.slots] at X404 l404 y404 z404 st404 hQ404
          subst l404 y404 z404
          obtain ⟨rfl, Nq404, K404, Gm404, Ge404, Gs404⟩ := hQ404
          have N404 := Fr.app N401 Nq404
          have Zs404 : n0 ≤ T404.heap.size := Nat.le_trans Zs402 K404.1
          have f405_0 : Old Z n0 T404.heap := f403_0.keep K404 (allS gf402 all0)
          have f405_1 : Arv Z T404.heap b362 k362 .char (2 : Int32) [(.int ((p2 &&& (255 : Int32)).toUInt32.toUInt16.toUInt32.toInt32).toUInt32.toUInt16.toUInt32.toInt32), (.int ((p3 &&& (255 : Int32)).toUInt32.toUInt16.toUInt32.toInt32).toUInt32.toUInt16.toUInt32.toInt32)] (.int (0 : Int32)) := f403_1.keep K404 (ninS ne402_b362 nin0)
          have f405_2 : Exa Z T404.heap b392 "java/lang/String" := f403_2.keep K404
          have f405_3 : Exa Z T404.heap b397 "com/example/lithe_checker/lithechecker/c/CType$StructType" := f403_3.keep K404
          have f405_4 : Fld Z T404.heap b397 "com/example/lithe_checker/lithechecker/c/CType$StructType" "members" "Ljava/util/List;" .null := f403_4.keep K404 (ninS ne402_b397 nin0)
          have f405_5 : Exa Z T404.heap b402 "java/util/ArrayList" := A402.keep K404
          obtain ⟨T406, h406, X406, e406, E406, A406, D406, -, st406⟩ := newO X404 hx hZ hown (own_g hw 101) (own_g hw 102) (own_g hw 103) rfl (g := (mkF m 119 #[Iv p1, Iv p2, Iv p3, Iv u, Iv tgd, Iv 1, Rv b362, Rv b392, Rv b397, Iv 1, Rv b402, Uv, Uv] [(.ref b402)])) rfl (hb hby at_119) (by decide) (by decide)
          obtain ⟨b406, g406⟩ : ∃ z, z = T404.heap.size := ⟨_, rfl⟩
          rw [← g406] at A406 D406 st406
          have ne406_b362 : b362 ≠ b406 := Nat.ne_of_lt (Nat.lt_of_lt_of_le f405_1.lt (Nat.le_of_eq g406.symm))
          have ne406_b392 : b392 ≠ b406 := Nat.ne_of_lt (Nat.lt_of_lt_of_le f405_2.lt (Nat.le_of_eq g406.symm))
          have ne406_b397 : b397 ≠ b406 := Nat.ne_of_lt (Nat.lt_of_lt_of_le f405_3.lt (Nat.le_of_eq g406.symm))
          have ne406_b402 : b402 ≠ b406 := Nat.ne_of_lt (Nat.lt_of_lt_of_le f405_5.lt (Nat.le_of_eq g406.symm))
          have gf406 : n0 ≤ b406 := Nat.le_trans Zs404 (Nat.le_of_eq g406.symm)
          have Zs406 : n0 ≤ h406.size := Nat.le_trans Zs404 E406.1
          have f407_0 : Old Z n0 h406 := f405_0.ext E406
          have f407_1 : Arv Z h406 b362 k362 .char (2 : Int32) [(.int ((p2 &&& (255 : Int32)).toUInt32.toUInt16.toUInt32.toInt32).toUInt32.toUInt16.toUInt32.toInt32), (.int ((p3 &&& (255 : Int32)).toUInt32.toUInt16.toUInt32.toInt32).toUInt32.toUInt16.toUInt32.toInt32)] (.int (0 : Int32)) := f405_1.ext E406
          have f407_2 : Exa Z h406 b392 "java/lang/String" := f405_2.ext E406
          have f407_3 : Exa Z h406 b397 "com/example/lithe_checker/lithechecker/c/CType$StructType" := f405_3.ext E406
          have f407_4 : Fld Z h406 b397 "com/example/lithe_checker/lithechecker/c/CType$StructType" "members" "Ljava/util/List;" .null := f405_4.ext E406
          have f407_5 : Exa Z h406 b402 "java/util/ArrayList" := f405_5.ext E406
          have f407_6 : Fld Z h406 b402 "java/util/AbstractList" "modCount" "I" (.int (0 : Int32)) := Gm404.ext E406
          have f407_7 : Fld Z h406 b402 "java/util/ArrayList" "elementData" "[Ljava/lang/Object;" (.ref da) := Ge404.ext E406
          have f407_8 : Fld Z h406 b402 "java/util/ArrayList" "size" "I" (.int (0 : Int32)) := Gs404.ext E406
          have F406_name : Fld Z h406 b406 "com/example/lithe_checker/lithechecker/c/CType$Member" "name" "Ljava/lang/String;" .null := D406 (Or.inr (own_g hw 135)) (ty := (.object "java/lang/String")) (by decide)
          have F406_type : Fld Z h406 b406 "com/example/lithe_checker/lithechecker/c/CType$Member" "type" "Lcom/example/lithe_checker/lithechecker/c/CType;" .null := D406 (Or.inr (own_g hw 137)) (ty := (.object "com/example/lithe_checker/lithechecker/c/CType")) (by decide)
          refine own_by (fun _ k => XS.dup X402.here hx rfl (hb hby at_105) rfl rfl (st404.trans (XS.astore X404.here hx rfl (hb hby at_109) rfl rfl (l' := #[Iv p1, Iv p2, Iv p3, Iv u, Iv tgd, Iv 1, Rv b362, Rv b392, Rv b397, Iv 1, Rv b402, Uv, Uv]) rfl (XS.iload X404.here hx rfl (hb hby at_111) rfl (XS.iconst X404.here hx rfl (hb hby at_113) (XS.icmpNo X404.here hx rfl (hb hby at_114) rfl (flt (by decide : ¬ ((1 : Int32) < (1 : Int32)))).1 (XS.aload X404.here hx rfl (hb hby at_117) rfl rfl (st406 _ (XS.dup X406.here hx rfl (hb hby at_122) rfl rfl (XS.iloadN X406.here hx rfl (hb hby at_123) rfl k)))))))))) ?_
          show own_Fin _ _ _ _ _ _ _ T406 (mkF m 124 #[Iv p1, Iv p2, Iv p3, Iv u, Iv tgd, Iv 1, Rv b362, Rv b392, Rv b397, Iv 1, Rv b402, Uv, Uv] [(.int p2), (.ref b406), (.ref b406), (.ref b402)])
          obtain ⟨_, _, ⟨T408, L408, k408, n408⟩, -, X408, ⟨Lc408, hQ408, l408, y408, z408⟩, st408⟩ := LawKit.callS X406 hx (y := mn41) hown (own_m hZ hw 104) (own_m hZ hw 105) (own_m hZ hw 106) (own_m hZ hw 107) (by decide) (backOf (W := 3) (rmVO l Z a0 hw [] cs da el ea em ci mm kd ke ((p2 &&& (255 : Int32)).toUInt32.toUInt16.toUInt32.toInt32) h406 n0 Zs406 V_env f407_0 (own_lat p2)) hZ (own_g hw 107) (own_g hw 106) (by decide) (by decide)) (g := (mkF m 129 #[Iv p1, Iv p2, Iv p3, Iv u, Iv tgd, Iv 1, Rv b362, Rv b392, Rv b397, Iv 1, Rv b402, Uv, Uv] [(.int ((p2 &&& (255 : Int32)).toUInt32.toUInt16.toUInt32.toInt32)), (.ref b406), (.ref b406), (.ref b402)])) rfl (by rw [hml]; rfl) (argsL := [(.int ((p2 &&& (255 : Int32)).toUInt32.toUInt16.toUInt32.toInt32))]) (rest := [(.ref b406), (.ref b406), (.ref b402)]) (lenOf own_pd450 rfl) rfl (own_z rfl) (hb hby at_129) (fun _ _ => ⟨rfl, e406, (by decide : 6 + 2 ≤ _), (by decide : 16 + 5 ≤ _)⟩)
          dsimp only [Pt.U, Pt.locs, Pt.cells, Pt.slots] at X408 l408 y408 z408 st408 hQ408
          subst l408 y408 z408
          obtain ⟨b408, rfl, Nq408, K408, ge408, Ev408⟩ := hQ408
          have N408 := Fr.app N404 Nq408
          have Zs408 : n0 ≤ T408.heap.size := Nat.le_trans Zs406 K408.1
          have f409_0 : Old Z n0 T408.heap := f407_0.keep K408 all0
          have f409_1 : Arv Z T408.heap b362 k362 .char (2 : Int32) [(.int ((p2 &&& (255 : Int32)).toUInt32.toUInt16.toUInt32.toInt32).toUInt32.toUInt16.toUInt32.toInt32), (.int ((p3 &&& (255 : Int32)).toUInt32.toUInt16.toUInt32.toInt32).toUInt32.toUInt16.toUInt32.toInt32)] (.int (0 : Int32)) := f407_1.keep K408 nin0
          have f409_2 : Exa Z T408.heap b392 "java/lang/String" := f407_2.keep K408
          have f409_3 : Exa Z T408.heap b397 "com/example/lithe_checker/lithechecker/c/CType$StructType" := f407_3.keep K408
          have f409_4 : Fld Z T408.heap b397 "com/example/lithe_checker/lithechecker/c/CType$StructType" "members" "Ljava/util/List;" .null := f407_4.keep K408 nin0
          have f409_5 : Exa Z T408.heap b402 "java/util/ArrayList" := f407_5.keep K408
          have f409_6 : Fld Z T408.heap b402 "java/util/AbstractList" "modCount" "I" (.int (0 : Int32)) := f407_6.keep K408 nin0
          have f409_7 : Fld Z T408.heap b402 "java/util/ArrayList" "elementData" "[Ljava/lang/Object;" (.ref da) := f407_7.keep K408 nin0
          have f409_8 : Fld Z T408.heap b402 "java/util/ArrayList" "size" "I" (.int (0 : Int32)) := f407_8.keep K408 nin0
          have f409_9 : Exa Z T408.heap b406 "com/example/lithe_checker/lithechecker/c/CType$Member" := A406.keep K408
          have f409_10 : Fld Z T408.heap b406 "com/example/lithe_checker/lithechecker/c/CType$Member" "name" "Ljava/lang/String;" .null := F406_name.keep K408 nin0
          have f409_11 : Fld Z T408.heap b406 "com/example/lithe_checker/lithechecker/c/CType$Member" "type" "Lcom/example/lithe_checker/lithechecker/c/CType;" .null := F406_type.keep K408 nin0
          obtain ⟨T410, X410, e410, st410⟩ := getS2 X408 hx hZ hown (host := "") (Or.inl (own_g hw 128)) Via.refl rfl (V_env.2.2.2.2.2.2.2.2.2.2.1.ext f409_0.2) (g := (mkF m 132 #[Iv p1, Iv p2, Iv p3, Iv u, Iv tgd, Iv 1, Rv b362, Rv b392, Rv b397, Iv 1, Rv b402, Uv, Uv] [(.ref b408), (.ref b406), (.ref b406), (.ref b402)])) rfl (hb hby at_132)
          obtain ⟨_, _, ⟨T411, L411, k411, n411⟩, -, X411, ⟨Lc411, hQ411, l411, y411, z411⟩, st411⟩ := X410.specialBack hx (y := mn42) rfl hown (own_m hZ hw 130) (own_m hZ hw 131) (own_m hZ hw 132) (by decide) (backOf (W := 2) (rmMI l Z a0 hw [] b406 b408 ci T408.heap n0 Zs408 f409_9 f409_10 f409_11 gf406) hZ (own_g hw 132) (own_g hw 103) (by decide) (by decide)) (g := (mkF m 135 #[Iv p1, Iv p2, Iv p3, Iv u, Iv tgd, Iv 1, Rv b362, Rv b392, Rv b397, Iv 1, Rv b402, Uv, Uv] [(.ref ci), (.ref b408), (.ref b406), (.ref b406), (.ref b402)])) rfl (by rw [hml]; rfl) (Steps.refl _) (a := b406) (argsL := [(.ref b408), (.ref ci)]) (rest := [(.ref b406), (.ref b402)]) (lenOf own_pd451 rfl) rfl (own_z rfl) (hb hby at_135) (fun _ _ => ⟨rfl, e410, (by decide : 8 + 0 ≤ _), (by decide : 21 + 0 ≤ _)⟩)
          dsimp only [Pt.U, Pt.locs, Pt.cells, Pt.slots] at X411 l411 y411 z411 st411 hQ411
          subst l411 y411 z411
          obtain ⟨rfl, Nq411, K411⟩ := hQ411
          have N411 := Fr.app N408 Nq411
          have Zs411 : n0 ≤ T411.heap.size := Nat.le_trans Zs408 K411.1
          have f412_0 : Old Z n0 T411.heap := f409_0.keep K411 (allS gf406 all0)
          have f412_1 : Arv Z T411.heap b362 k362 .char (2 : Int32) [(.int ((p2 &&& (255 : Int32)).toUInt32.toUInt16.toUInt32.toInt32).toUInt32.toUInt16.toUInt32.toInt32), (.int ((p3 &&& (255 : Int32)).toUInt32.toUInt16.toUInt32.toInt32).toUInt32.toUInt16.toUInt32.toInt32)] (.int (0 : Int32)) := f409_1.keep K411 (ninS ne406_b362 nin0)
          have f412_2 : Exa Z T411.heap b392 "java/lang/String" := f409_2.keep K411
          have f412_3 : Exa Z T411.heap b397 "com/example/lithe_checker/lithechecker/c/CType$StructType" := f409_3.keep K411
          have f412_4 : Fld Z T411.heap b397 "com/example/lithe_checker/lithechecker/c/CType$StructType" "members" "Ljava/util/List;" .null := f409_4.keep K411 (ninS ne406_b397 nin0)
          have f412_5 : Exa Z T411.heap b402 "java/util/ArrayList" := f409_5.keep K411
          have f412_6 : Fld Z T411.heap b402 "java/util/AbstractList" "modCount" "I" (.int (0 : Int32)) := f409_6.keep K411 (ninS ne406_b402 nin0)
          have f412_7 : Fld Z T411.heap b402 "java/util/ArrayList" "elementData" "[Ljava/lang/Object;" (.ref da) := f409_7.keep K411 (ninS ne406_b402 nin0)
          have f412_8 : Fld Z T411.heap b402 "java/util/ArrayList" "size" "I" (.int (0 : Int32)) := f409_8.keep K411 (ninS ne406_b402 nin0)
          have f412_9 : Exa Z T411.heap b406 "com/example/lithe_checker/lithechecker/c/CType$Member" := f409_9.keep K411
          have f412_12 : Exa Z T411.heap b408 "java/lang/String" := Ev408.keep K411
          obtain ⟨cq413, kq413, q413a, q413b, q413c⟩ := isOf hZ rfl f412_5
          obtain ⟨_, _, ⟨T413, L413, k413, n413⟩, -, X413, ⟨Lc413, hQ413, l413, y413, z413⟩, st413⟩ := X411.virtualBack hx (y := mn11) (z := mn11) hown (own_m hZ hw 138) (own_m hZ hw 139) (notFace_of_selects (args := #[]) (own_m hZ hw 141)) (own_m hZ hw 141) (own_m hZ hw 140) (by decide) (backOf (W := 0) (rmA0 l Z a0 hw [] cs da el ea em ci mm kd ke b402 b406 (0 : Int32) T411.heap n0 Zs411 V_env f412_0 f412_5 f412_6 f412_7 f412_8 gf402 f412_9) hZ (own_g hw 142) (own_g hw 28) (by decide) (by decide)) q413a q413c (g := (mkF m 138 #[Iv p1, Iv p2, Iv p3, Iv u, Iv tgd, Iv 1, Rv b362, Rv b392, Rv b397, Iv 1, Rv b402, Uv, Uv] [(.ref b406), (.ref b402)])) rfl (by rw [hml]; rfl) (Steps.refl _) (argsL := [(.ref b406)]) (rest := []) (lenOf own_pd452 rfl) rfl (own_z rfl) (hb hby at_138) (fun _ _ => ⟨rfl, rfl, (by decide : 8 + 1 ≤ _), (by decide : 21 + 10 ≤ _)⟩)
          dsimp only [Pt.U, Pt.locs, Pt.cells, Pt.slots] at X413 l413 y413 z413 st413 hQ413
          subst l413 y413 z413
          obtain ⟨b413, k413, rfl, Nq413, K413, ge413, Gm413, Ge413, Gs413, V413, Eb413, Ov413⟩ := hQ413
          have N413 := Fr.app N411 Nq413
          have Zs413 : n0 ≤ T413.heap.size := Nat.le_trans Zs411 K413.1
          have f414_0 : Old Z n0 T413.heap := f412_0.keep K413 (allS gf402 all0)
          have f414_1 : Arv Z T413.heap b362 k362 .char (2 : Int32) [(.int ((p2 &&& (255 : Int32)).toUInt32.toUInt16.toUInt32.toInt32).toUInt32.toUInt16.toUInt32.toInt32), (.int ((p3 &&& (255 : Int32)).toUInt32.toUInt16.toUInt32.toInt32).toUInt32.toUInt16.toUInt32.toInt32)] (.int (0 : Int32)) := f412_1.keep K413 (ninS ne402_b362 nin0)
          have f414_2 : Exa Z T413.heap b392 "java/lang/String" := f412_2.keep K413
          have f414_3 : Exa Z T413.heap b397 "com/example/lithe_checker/lithechecker/c/CType$StructType" := f412_3.keep K413
          have f414_4 : Fld Z T413.heap b397 "com/example/lithe_checker/lithechecker/c/CType$StructType" "members" "Ljava/util/List;" .null := f412_4.keep K413 (ninS ne402_b397 nin0)
          have f414_5 : Exa Z T413.heap b402 "java/util/ArrayList" := f412_5.keep K413
          have f414_9 : Exa Z T413.heap b406 "com/example/lithe_checker/lithechecker/c/CType$Member" := f412_9.keep K413
          have f414_10 : Exa Z T413.heap b408 "java/lang/String" := f412_12.keep K413
          have ne413_b362 : b362 ≠ b413 := Nat.ne_of_lt (Nat.lt_of_lt_of_le f412_1.lt ge413)
          have ne413_b392 : b392 ≠ b413 := Nat.ne_of_lt (Nat.lt_of_lt_of_le f412_2.lt ge413)
          have ne413_b397 : b397 ≠ b413 := Nat.ne_of_lt (Nat.lt_of_lt_of_le f412_3.lt ge413)
          have ne413_b402 : b402 ≠ b413 := Nat.ne_of_lt (Nat.lt_of_lt_of_le f412_5.lt ge413)
          have ne413_b406 : b406 ≠ b413 := Nat.ne_of_lt (Nat.lt_of_lt_of_le f412_9.lt ge413)
          have ne413_b408 : b408 ≠ b413 := Nat.ne_of_lt (Nat.lt_of_lt_of_le f412_12.lt ge413)
          have gf413 : n0 ≤ b413 := Nat.le_trans Zs411 ge413
          refine own_by (fun _ k => XS.sipush X406.here hx rfl (hb hby at_124) (XS.iand X406.here hx rfl (hb hby at_127) rfl (XS.i2c X406.here hx rfl (hb hby at_128) rfl (st408 _ (st410 _ (st411.trans (st413.trans (XS.pop X413.here hx rfl (hb hby at_141) rfl rfl (XS.iload X413.here hx rfl (hb hby at_142) rfl (XS.iconst X413.here hx rfl (hb hby at_144) k)))))))))) ?_
          show own_Fin _ _ _ _ _ _ _ T413 (mkF m 145 #[Iv p1, Iv p2, Iv p3, Iv u, Iv tgd, Iv 1, Rv b362, Rv b392, Rv b397, Iv 1, Rv b402, Uv, Uv] [(.int 2), (.int 1)])
          obtain ⟨cq415, kq415, q415a, q415b, q415c⟩ := isOf hZ rfl f414_3
          obtain ⟨_, _, ⟨T415, L415, k415, n415⟩, -, X415, ⟨Lc415, hQ415, l415, y415, z415⟩, st415⟩ := X413.virtualBack hx (y := mn32) (z := mn32) hown (own_m hZ hw 50) (own_m hZ hw 51) (notFace_of_selects (args := #[]) (own_m hZ hw 53)) (own_m hZ hw 53) (own_m hZ hw 52) (by decide) (backOf (W := 0) (rmCo1 l Z a0 hw [] cs da el ea em ci mm kd ke b397 b402 b413 k413 b406 T413.heap n0 Zs413 V_env f414_0 f414_3 f414_4 gf397 f414_5 Ge413 Gs413 V413 Eb413 f414_9 ne402_b397) hZ (own_g hw 54) (own_g hw 3) (by decide) (by decide)) q415a q415c (g := (mkF m 208 #[Iv p1, Iv p2, Iv p3, Iv u, Iv tgd, Iv 1, Rv b362, Rv b392, Rv b397, Iv 1, Rv b402, Uv, Uv] [(.ref b402), (.ref b397)])) rfl (by rw [hml]; rfl) (Steps.refl _) (argsL := [(.ref b402)]) (rest := []) (lenOf own_pd447 rfl) rfl (own_z rfl) (hb hby at_208) (fun _ _ => ⟨rfl, rfl, (by decide : 9 + 2 ≤ _), (by decide : 31 + 3 ≤ _)⟩)
          dsimp only [Pt.U, Pt.locs, Pt.cells, Pt.slots] at X415 l415 y415 z415 st415 hQ415
          subst l415 y415 z415
          obtain ⟨q415, rfl, Nq415, K415, Gm415, Eq415, Gq415⟩ := hQ415
          have N415 := Fr.app N413 Nq415
          have Zs415 : n0 ≤ T415.heap.size := Nat.le_trans Zs413 K415.1
          have f416_0 : Old Z n0 T415.heap := f414_0.keep K415 (allS gf397 all0)
          have f416_1 : Arv Z T415.heap b362 k362 .char (2 : Int32) [(.int ((p2 &&& (255 : Int32)).toUInt32.toUInt16.toUInt32.toInt32).toUInt32.toUInt16.toUInt32.toInt32), (.int ((p3 &&& (255 : Int32)).toUInt32.toUInt16.toUInt32.toInt32).toUInt32.toUInt16.toUInt32.toInt32)] (.int (0 : Int32)) := f414_1.keep K415 (ninS ne397_b362 nin0)
          have f416_2 : Exa Z T415.heap b392 "java/lang/String" := f414_2.keep K415
          have f416_3 : Exa Z T415.heap b397 "com/example/lithe_checker/lithechecker/c/CType$StructType" := f414_3.keep K415
          have f416_5 : Exa Z T415.heap b402 "java/util/ArrayList" := f414_5.keep K415
          have f416_6 : Exa Z T415.heap b406 "com/example/lithe_checker/lithechecker/c/CType$Member" := f414_9.keep K415
          have f416_7 : Exa Z T415.heap b408 "java/lang/String" := f414_10.keep K415
          have f416_8 : Fld Z T415.heap b402 "java/util/AbstractList" "modCount" "I" (.int ((0 : Int32) + (1 : Int32))) := Gm413.keep K415 (ninS (Ne.symm ne402_b397) nin0)
          have f416_9 : Fld Z T415.heap b402 "java/util/ArrayList" "elementData" "[Ljava/lang/Object;" (.ref b413) := Ge413.keep K415 (ninS (Ne.symm ne402_b397) nin0)
          have f416_10 : Fld Z T415.heap b402 "java/util/ArrayList" "size" "I" (.int (1 : Int32)) := Gs413.keep K415 (ninS (Ne.symm ne402_b397) nin0)
          have f416_11 : Arv Z T415.heap b413 k413 (.object "java/lang/Object") (10 : Int32) [(.ref b406), .null, .null, .null, .null, .null, .null, .null, .null, .null] .null := V413.keep K415 (ninS (Ne.symm ne413_b397) nin0)
          have f416_12 : Exa Z T415.heap b413 "[Ljava/lang/Object;" := Eb413.keep K415
          obtain ⟨cq417, kq417, q417a, q417b, q417c⟩ := isOf hZ rfl f416_3
          obtain ⟨_, _, ⟨T417, L417, k417, n417⟩, -, X417, ⟨Lc417, hQ417, l417, y417, z417⟩, st417⟩ := X415.virtualBack hx (y := mn30) (z := mn30) hown (own_m hZ hw 19) (own_m hZ hw 20) (notFace_of_selects (args := #[]) (own_m hZ hw 22)) (own_m hZ hw 22) (own_m hZ hw 21) (by decide) (backOf (W := 0) (rmIc1 l Z a0 hw [] b397 q415 T415.heap n0 Zs415 Gm415) hZ (own_g hw 23) (own_g hw 3) (by decide) (by decide)) q417a q417c (g := (mkF m 213 #[Iv p1, Iv p2, Iv p3, Iv u, Iv tgd, Iv 1, Rv b362, Rv b392, Rv b397, Iv 1, Rv b402, Uv, Uv] [(.ref b397)])) rfl (by rw [hml]; rfl) (Steps.refl _) (argsL := []) (rest := []) (lenOf own_pd251 rfl) rfl (own_z rfl) (hb hby at_213) (fun _ _ => ⟨rfl, rfl, (by decide : 11 + 0 ≤ _), (by decide : 34 + 0 ≤ _)⟩)
          dsimp only [Pt.U, Pt.locs, Pt.cells, Pt.slots] at X417 l417 y417 z417 st417 hQ417
          subst l417 y417 z417
          obtain ⟨rfl, Nq417, eh417⟩ := hQ417
          have N417 := Fr.app N415 Nq417
          refine own_by (fun _ k => XS.icmpYes X413.here hx rfl (pc0 := 145) (pc' := 173) rfl (hb hby at_145) rfl (tlt (by decide : (1 : Int32) < (2 : Int32))).1 (by decide) (by decide) (XS.iload X413.here hx rfl (hb hby at_173) rfl (XS.iconst X413.here hx rfl (hb hby at_175) (XS.icmpYes X413.here hx rfl (pc0 := 176) (pc' := 204) rfl (hb hby at_176) rfl (tlt (by decide : (1 : Int32) < (3 : Int32))).1 (by decide) (by decide) (XS.aload X413.here hx rfl (hb hby at_204) rfl rfl (XS.aload X413.here hx rfl (hb hby at_206) rfl rfl (st415.trans (XS.aload X415.here hx rfl (hb hby at_211) rfl rfl (st417.trans (XS.istore X417.here hx rfl (hb hby at_216) rfl (l' := #[Iv p1, Iv p2, Iv p3, Iv u, Iv tgd, Iv 1, Rv b362, Rv b392, Rv b397, Iv 1, Rv b402, Iv 1, Uv]) rfl k)))))))))) ?_
          show own_Fin _ _ _ _ _ _ _ T417 (mkF m 218 #[Iv p1, Iv p2, Iv p3, Iv u, Iv tgd, Iv 1, Rv b362, Rv b392, Rv b397, Iv 1, Rv b402, Iv 1, Uv] [])
          obtain ⟨cq418, kq418, q418a, q418b, q418c⟩ := isOf hZ eh417 f416_3
          obtain ⟨_, _, ⟨T418, L418, k418, n418⟩, -, X418, ⟨Lc418, hQ418, l418, y418, z418⟩, st418⟩ := X417.virtualBack hx (y := mn31) (z := mn31) hown (own_m hZ hw 84) (own_m hZ hw 85) (notFace_of_selects (args := #[]) (own_m hZ hw 87)) (own_m hZ hw 87) (own_m hZ hw 86) (by decide) (backOf (W := 0) (rmMb l Z a0 hw [] b397 q415 T415.heap n0 Zs415 Gm415) hZ (own_g hw 88) (own_g hw 3) (by decide) (by decide)) q418a q418c (g := (mkF m 220 #[Iv p1, Iv p2, Iv p3, Iv u, Iv tgd, Iv 1, Rv b362, Rv b392, Rv b397, Iv 1, Rv b402, Iv 1, Uv] [(.ref b397)])) rfl (by rw [hml]; rfl) (Steps.refl _) (argsL := []) (rest := []) (lenOf own_pd280 rfl) rfl (own_z rfl) (hb hby at_220) (fun _ _ => ⟨rfl, eh417, (by decide : 11 + 0 ≤ _), (by decide : 34 + 0 ≤ _)⟩)
          dsimp only [Pt.U, Pt.locs, Pt.cells, Pt.slots] at X418 l418 y418 z418 st418 hQ418
          subst l418 y418 z418
          obtain ⟨rfl, Nq418, eh418⟩ := hQ418
          have N418 := Fr.app N417 Nq418
          obtain ⟨cq419, kq419, q419a, q419b, q419c⟩ := isOf hZ eh418 Eq415
          obtain ⟨_, _, ⟨T419, L419, k419, n419⟩, -, X419, ⟨Lc419, hQ419, l419, y419, z419⟩, st419⟩ := X418.interfaceBack hx (xi := mn43) (y := mn21) hown (own_m hZ hw 89) (own_m hZ hw 90) (own_m hZ hw 91) (own_m hZ hw 230) (own_m hZ hw 231) (own_m hZ hw 232) (own_m hZ hw 233) (own_m hZ hw 234) (by decide) (backOf (W := 0) (rmZ1 l Z a0 hw [] cs da el ea em ci mm kd ke q415 T415.heap n0 Zs415 V_env f416_0 Gq415) hZ (own_g hw 235) (own_g hw 202) (by decide) (by decide)) q419a q419b q419c (g := (mkF m 223 #[Iv p1, Iv p2, Iv p3, Iv u, Iv tgd, Iv 1, Rv b362, Rv b392, Rv b397, Iv 1, Rv b402, Iv 1, Uv] [(.ref q415)])) rfl (by rw [hml]; rfl) (Steps.refl _) (argsL := []) (rest := []) (lenOf own_pd448 rfl) rfl (own_z rfl) (hb hby at_223) (fun _ _ => ⟨rfl, eh418, (by decide : 11 + 0 ≤ _), (by decide : 34 + 0 ≤ _)⟩)
          dsimp only [Pt.U, Pt.locs, Pt.cells, Pt.slots] at X419 l419 y419 z419 st419 hQ419
          subst l419 y419 z419
          obtain ⟨rfl, Nq419, eh419⟩ := hQ419
          have N419 := Fr.app N418 Nq419
          refine own_by (fun _ k => XS.aload X417.here hx rfl (hb hby at_218) rfl rfl (st418.trans (st419.trans (XS.iload X419.here hx rfl (hb hby at_228) rfl (XS.icmpNo X419.here hx rfl (hb hby at_230) rfl (teq (by decide : (1 : Int32) = (1 : Int32))).2 (XS.iconst X419.here hx rfl (hb hby at_233) (XS.goto X419.here hx rfl (pc0 := 234) (pc' := 238) rfl (hb hby at_234) (by decide) (by decide) (XS.istore X419.here hx rfl (hb hby at_238) rfl (l' := #[Iv p1, Iv p2, Iv p3, Iv u, Iv tgd, Iv 1, Rv b362, Rv b392, Rv b397, Iv 1, Rv b402, Iv 1, Iv 1]) rfl (XS.iload X419.here hx rfl (hb hby at_240) rfl (XS.ifNo X419.here hx rfl (hb hby at_242) rfl ((if0 _ _).trans (feq (by decide : ¬ ((1 : Int32) = (0 : Int32)))).1) k)))))))))) ?_
          show own_Fin _ _ _ _ _ _ _ T419 (mkF m 245 #[Iv p1, Iv p2, Iv p3, Iv u, Iv tgd, Iv 1, Rv b362, Rv b392, Rv b397, Iv 1, Rv b402, Iv 1, Iv 1] [])
          refine own_by (fun _ k => XS.iload X419.here hx rfl (hb hby at_245) rfl (XS.ifNo X419.here hx rfl (hb hby at_247) rfl ((if0 _ _).trans (feq (by decide : ¬ ((1 : Int32) = (0 : Int32)))).1) (XS.iload X419.here hx rfl (hb hby at_250) rfl (XS.ifNo X419.here hx rfl (hb hby at_252) rfl ((if0 _ _).trans (feq (by decide : ¬ ((1 : Int32) = (0 : Int32)))).1) (XS.iconst X419.here hx rfl (hb hby at_255) (XS.goto X419.here hx rfl (pc0 := 256) (pc' := 260) rfl (hb hby at_256) (by decide) (by decide) k)))))) ?_
          exact own_retZ X419 hx hlk (t := .boolean) Bd.returns (by simp) (hb hby at_260) ⟨rfl, N419⟩ (by decide) (by decide)
      · show own_Fin _ _ _ _ _ _ _ s₁ (mkF m 32 #[Iv p1, Iv p2, Iv p3, Iv u, Iv tgd, Iv (((p1.toUInt32 >>> ((2 : Int32) &&& 31).toUInt32).toInt32) &&& (3 : Int32)), Uv, Uv, Uv, Uv, Uv, Uv, Uv] [])
        rw [hn]
        show own_Fin _ _ _ _ _ _ _ s₁ (mkF m 32 #[Iv p1, Iv p2, Iv p3, Iv u, Iv tgd, Iv 2, Uv, Uv, Uv, Uv, Uv, Uv, Uv] [])
        obtain ⟨T420, h420, k420, X420, e420, E420, A420, st420⟩ := newP X0 hx hZ (own_g hw 0) e0 (g := (mkF m 33 #[Iv p1, Iv p2, Iv p3, Iv u, Iv tgd, Iv 2, Uv, Uv, Uv, Uv, Uv, Uv, Uv] [(.int 2)])) rfl (hb hby at_33) rfl (by decide) (cap := 2) (by decide) (by decide) (by decide) (by decide)
        obtain ⟨b420, g420⟩ : ∃ z, z = h0.size := ⟨_, rfl⟩
        rw [← g420] at A420 st420
        have V420 : Arv Z h420 b420 k420 .char (2 : Int32) [(.int (0 : Int32)), (.int (0 : Int32))] (.int (0 : Int32)) := (Arv.new A420 (by decide)).pad (pad_rep [] (.int (0 : Int32)) 2)
        have gf420 : n0 ≤ b420 := Nat.le_trans Z0 (Nat.le_of_eq g420.symm)
        have Zs420 : n0 ≤ h420.size := Nat.le_trans Z0 E420.1
        have f421_0 : Old Z n0 h420 := Od.ext E420
        obtain ⟨cl422, Ar422, q422, S422, M422, H422, G422⟩ := id V420
        have hin422 : ¬ ((0 : Int32) < 0 ∨ cl422.slots.size ≤ ((0 : Int32)).toNatClampNeg) := inb_of S422 ⟨by decide, by decide⟩
        obtain ⟨T422, h422, X422, e422, W422, st422⟩ := stC X420 hx hZ e420 Ar422 (j := (0 : Int32)) hin422 (g := (mkF m 43 #[Iv p1, Iv p2, Iv p3, Iv u, Iv tgd, Iv 2, Uv, Uv, Uv, Uv, Uv, Uv, Uv] [(.int ((p2 &&& (255 : Int32)).toUInt32.toUInt16.toUInt32.toInt32)), (.int 0), (.ref b420), (.ref b420)])) rfl rfl (hb hby at_43)
        have V422 : Arv Z h422 b420 k420 .char (2 : Int32) [(.int ((p2 &&& (255 : Int32)).toUInt32.toUInt16.toUInt32.toInt32).toUInt32.toUInt16.toUInt32.toInt32), (.int (0 : Int32))] (.int (0 : Int32)) := Arv.set Ar422 q422 S422 M422 H422 G422 (fits_nar_char _) W422 0 rfl (Nat.le_of_ble_eq_true rfl)
        have Zs422 : n0 ≤ h422.size := Nat.le_trans Zs420 (Keep.of_wr W422).1
        have N422 := Fr.snoc X422 N0 gf420
        have f423_0 : Old Z n0 h422 := f421_0.wr W422 gf420
        refine own_by (fun _ k => XS.iconst X0.here hx rfl (hb hby at_32) (st420 _ (XS.dup X420.here hx rfl (hb hby at_35) rfl rfl (XS.iconst X420.here hx rfl (hb hby at_36) (XS.iloadN X420.here hx rfl (hb hby at_37) rfl (XS.sipush X420.here hx rfl (hb hby at_38) (XS.iand X420.here hx rfl (hb hby at_41) rfl (XS.i2c X420.here hx rfl (hb hby at_42) rfl (st422 _ (XS.dup X422.here hx rfl (hb hby at_44) rfl rfl k)))))))))) ?_
        show own_Fin _ _ _ _ _ _ _ T422 (mkF m 45 #[Iv p1, Iv p2, Iv p3, Iv u, Iv tgd, Iv 2, Uv, Uv, Uv, Uv, Uv, Uv, Uv] [(.ref b420), (.ref b420)])
        obtain ⟨cl424, Ar424, q424, S424, M424, H424, G424⟩ := id V422
        have hin424 : ¬ ((1 : Int32) < 0 ∨ cl424.slots.size ≤ ((1 : Int32)).toNatClampNeg) := inb_of S424 ⟨by decide, by decide⟩
        obtain ⟨T424, h424, X424, e424, W424, st424⟩ := stC X422 hx hZ e422 Ar424 (j := (1 : Int32)) hin424 (g := (mkF m 52 #[Iv p1, Iv p2, Iv p3, Iv u, Iv tgd, Iv 2, Uv, Uv, Uv, Uv, Uv, Uv, Uv] [(.int ((p3 &&& (255 : Int32)).toUInt32.toUInt16.toUInt32.toInt32)), (.int 1), (.ref b420), (.ref b420)])) rfl rfl (hb hby at_52)
        have V424 : Arv Z h424 b420 k420 .char (2 : Int32) [(.int ((p2 &&& (255 : Int32)).toUInt32.toUInt16.toUInt32.toInt32).toUInt32.toUInt16.toUInt32.toInt32), (.int ((p3 &&& (255 : Int32)).toUInt32.toUInt16.toUInt32.toInt32).toUInt32.toUInt16.toUInt32.toInt32)] (.int (0 : Int32)) := Arv.set Ar424 q424 S424 M424 H424 G424 (fits_nar_char _) W424 1 rfl (Nat.le_of_ble_eq_true rfl)
        have Zs424 : n0 ≤ h424.size := Nat.le_trans Zs422 (Keep.of_wr W424).1
        have N424 := Fr.snoc X424 N422 gf420
        have f425_0 : Old Z n0 h424 := f423_0.wr W424 gf420
        refine own_by (fun _ k => XS.iconst X422.here hx rfl (hb hby at_45) (XS.iloadN X422.here hx rfl (hb hby at_46) rfl (XS.sipush X422.here hx rfl (hb hby at_47) (XS.iand X422.here hx rfl (hb hby at_50) rfl (XS.i2c X422.here hx rfl (hb hby at_51) rfl (st424 _ (XS.astore X424.here hx rfl (hb hby at_53) rfl rfl (l' := #[Iv p1, Iv p2, Iv p3, Iv u, Iv tgd, Iv 2, Rv b420, Uv, Uv, Uv, Uv, Uv, Uv]) rfl (XS.iload X424.here hx rfl (hb hby at_55) rfl k)))))))) ?_
        show own_Fin _ _ _ _ _ _ _ T424 (mkF m 57 #[Iv p1, Iv p2, Iv p3, Iv u, Iv tgd, Iv 2, Rv b420, Uv, Uv, Uv, Uv, Uv, Uv] [(.int tgd)])
        by_cases hc57_426 : tgd = (0 : Int32)
        · show own_Fin _ _ _ _ _ _ _ T424 (mkF m 57 #[Iv p1, Iv p2, Iv p3, Iv u, Iv tgd, Iv 2, Rv b420, Uv, Uv, Uv, Uv, Uv, Uv] [(.int tgd)])
          obtain ⟨T427, h427, X427, e427, E427, A427, D427, -, st427⟩ := newO X424 hx hZ hown (own_g hw 1) (own_g hw 2) (own_g hw 3) e424 (g := (mkF m 75 #[Iv p1, Iv p2, Iv p3, Iv u, Iv tgd, Iv 2, Rv b420, Nv, Uv, Uv, Uv, Uv, Uv] [])) rfl (hb hby at_75) (by decide) (by decide)
          obtain ⟨b427, g427⟩ : ∃ z, z = h424.size := ⟨_, rfl⟩
          rw [← g427] at A427 D427 st427
          have ne427_b420 : b420 ≠ b427 := Nat.ne_of_lt (Nat.lt_of_lt_of_le V424.lt (Nat.le_of_eq g427.symm))
          have gf427 : n0 ≤ b427 := Nat.le_trans Zs424 (Nat.le_of_eq g427.symm)
          have Zs427 : n0 ≤ h427.size := Nat.le_trans Zs424 E427.1
          have f428_0 : Old Z n0 h427 := f425_0.ext E427
          have f428_1 : Arv Z h427 b420 k420 .char (2 : Int32) [(.int ((p2 &&& (255 : Int32)).toUInt32.toUInt16.toUInt32.toInt32).toUInt32.toUInt16.toUInt32.toInt32), (.int ((p3 &&& (255 : Int32)).toUInt32.toUInt16.toUInt32.toInt32).toUInt32.toUInt16.toUInt32.toInt32)] (.int (0 : Int32)) := V424.ext E427
          have F427_union : Fld Z h427 b427 "com/example/lithe_checker/lithechecker/c/CType$StructType" "union" "Z" (.int (0 : Int32)) := D427 (Or.inr (own_g hw 16)) (ty := .boolean) (by decide)
          have F427_tag : Fld Z h427 b427 "com/example/lithe_checker/lithechecker/c/CType$StructType" "tag" "Ljava/lang/String;" .null := D427 (Or.inr (own_g hw 18)) (ty := (.object "java/lang/String")) (by decide)
          have F427_members : Fld Z h427 b427 "com/example/lithe_checker/lithechecker/c/CType$StructType" "members" "Ljava/util/List;" .null := D427 (Or.inl (own_g hw 25)) (ty := (.object "java/util/List")) (by decide)
          obtain ⟨_, _, ⟨T429, L429, k429, n429⟩, -, X429, ⟨Lc429, hQ429, l429, y429, z429⟩, st429⟩ := X427.specialBack hx (y := mn29) rfl hown (own_m hZ hw 4) (own_m hZ hw 5) (own_m hZ hw 6) (by decide) (backOf (W := 1) (rmSI l Z a0 hw [] b427 u .null h427 n0 Zs427 A427 F427_union F427_tag F427_members gf427 rfl) hZ (own_g hw 6) (own_g hw 3) (by decide) (by decide)) (g := (mkF m 82 #[Iv p1, Iv p2, Iv p3, Iv u, Iv tgd, Iv 2, Rv b420, Nv, Uv, Uv, Uv, Uv, Uv] [.null, (.int u), (.ref b427), (.ref b427)])) rfl (by rw [hml]; rfl) (Steps.refl _) (a := b427) (argsL := [(.int u), .null]) (rest := [(.ref b427)]) (lenOf own_pd446 rfl) rfl (own_z rfl) (hb hby at_82) (fun _ _ => ⟨rfl, e427, (by decide : 2 + 0 ≤ _), (by decide : 5 + 0 ≤ _)⟩)
          dsimp only [Pt.U, Pt.locs, Pt.cells, Pt.slots] at X429 l429 y429 z429 st429 hQ429
          subst l429 y429 z429
          obtain ⟨rfl, Nq429, K429, Gm429⟩ := hQ429
          have N429 := Fr.app N424 Nq429
          have Zs429 : n0 ≤ T429.heap.size := Nat.le_trans Zs427 K429.1
          have f430_0 : Old Z n0 T429.heap := f428_0.keep K429 (allS gf427 all0)
          have f430_1 : Arv Z T429.heap b420 k420 .char (2 : Int32) [(.int ((p2 &&& (255 : Int32)).toUInt32.toUInt16.toUInt32.toInt32).toUInt32.toUInt16.toUInt32.toInt32), (.int ((p3 &&& (255 : Int32)).toUInt32.toUInt16.toUInt32.toInt32).toUInt32.toUInt16.toUInt32.toInt32)] (.int (0 : Int32)) := f428_1.keep K429 (ninS ne427_b420 nin0)
          have f430_2 : Exa Z T429.heap b427 "com/example/lithe_checker/lithechecker/c/CType$StructType" := A427.keep K429
          obtain ⟨cq431, kq431, q431a, q431b, q431c⟩ := isOf hZ rfl f430_2
          obtain ⟨_, _, ⟨T431, L431, k431, n431⟩, -, X431, ⟨Lc431, hQ431, l431, y431, z431⟩, st431⟩ := X429.virtualBack hx (y := mn30) (z := mn30) hown (own_m hZ hw 19) (own_m hZ hw 20) (notFace_of_selects (args := #[]) (own_m hZ hw 22)) (own_m hZ hw 22) (own_m hZ hw 21) (by decide) (backOf (W := 0) (rmIc0 l Z a0 hw [] b427 T429.heap n0 Zs429 Gm429) hZ (own_g hw 23) (own_g hw 3) (by decide) (by decide)) q431a q431c (g := (mkF m 89 #[Iv p1, Iv p2, Iv p3, Iv u, Iv tgd, Iv 2, Rv b420, Nv, Rv b427, Uv, Uv, Uv, Uv] [(.ref b427)])) rfl (by rw [hml]; rfl) (Steps.refl _) (argsL := []) (rest := []) (lenOf own_pd251 rfl) rfl (own_z rfl) (hb hby at_89) (fun _ _ => ⟨rfl, rfl, (by decide : 2 + 0 ≤ _), (by decide : 5 + 0 ≤ _)⟩)
          dsimp only [Pt.U, Pt.locs, Pt.cells, Pt.slots] at X431 l431 y431 z431 st431 hQ431
          subst l431 y431 z431
          obtain ⟨rfl, Nq431, eh431⟩ := hQ431
          have N431 := Fr.app N429 Nq431
          refine own_by (fun _ k => XS.ifYes X424.here hx rfl (pc0 := 57) (pc' := 72) rfl (hb hby at_57) rfl ((if0 _ _).trans (teq hc57_426).1) (by decide) (by decide) (XS.aconstNull X424.here hx rfl (hb hby at_72) (XS.astore X424.here hx rfl (hb hby at_73) rfl rfl (l' := #[Iv p1, Iv p2, Iv p3, Iv u, Iv tgd, Iv 2, Rv b420, Nv, Uv, Uv, Uv, Uv, Uv]) rfl (st427 _ (XS.dup X427.here hx rfl (hb hby at_78) rfl rfl (XS.iloadN X427.here hx rfl (hb hby at_79) rfl (XS.aload X427.here hx rfl (hb hby at_80) rfl rfl (st429.trans (XS.astore X429.here hx rfl (hb hby at_85) rfl rfl (l' := #[Iv p1, Iv p2, Iv p3, Iv u, Iv tgd, Iv 2, Rv b420, Nv, Rv b427, Uv, Uv, Uv, Uv]) rfl (XS.aload X429.here hx rfl (hb hby at_87) rfl rfl k)))))))))) ?_
          show own_Fin _ _ _ _ _ _ _ T429 (mkF m 89 #[Iv p1, Iv p2, Iv p3, Iv u, Iv tgd, Iv 2, Rv b420, Nv, Rv b427, Uv, Uv, Uv, Uv] [(.ref b427)])
          obtain ⟨T432, h432, X432, e432, E432, A432, D432, -, st432⟩ := newO X431 hx hZ hown (own_g hw 26) (own_g hw 27) (own_g hw 28) eh431 (g := (mkF m 102 #[Iv p1, Iv p2, Iv p3, Iv u, Iv tgd, Iv 2, Rv b420, Nv, Rv b427, Iv 1, Uv, Uv, Uv] [])) rfl (hb hby at_102) (by decide) (by decide)
          obtain ⟨b432, g432⟩ : ∃ z, z = T429.heap.size := ⟨_, rfl⟩
          rw [← g432] at A432 D432 st432
          have ne432_b420 : b420 ≠ b432 := Nat.ne_of_lt (Nat.lt_of_lt_of_le f430_1.lt (Nat.le_of_eq g432.symm))
          have ne432_b427 : b427 ≠ b432 := Nat.ne_of_lt (Nat.lt_of_lt_of_le f430_2.lt (Nat.le_of_eq g432.symm))
          have gf432 : n0 ≤ b432 := Nat.le_trans Zs429 (Nat.le_of_eq g432.symm)
          have Zs432 : n0 ≤ h432.size := Nat.le_trans Zs429 E432.1
          have f433_0 : Old Z n0 h432 := f430_0.ext E432
          have f433_1 : Arv Z h432 b420 k420 .char (2 : Int32) [(.int ((p2 &&& (255 : Int32)).toUInt32.toUInt16.toUInt32.toInt32).toUInt32.toUInt16.toUInt32.toInt32), (.int ((p3 &&& (255 : Int32)).toUInt32.toUInt16.toUInt32.toInt32).toUInt32.toUInt16.toUInt32.toInt32)] (.int (0 : Int32)) := f430_1.ext E432
          have f433_2 : Exa Z h432 b427 "com/example/lithe_checker/lithechecker/c/CType$StructType" := f430_2.ext E432
          have f433_3 : Fld Z h432 b427 "com/example/lithe_checker/lithechecker/c/CType$StructType" "members" "Ljava/util/List;" .null := Gm429.ext E432
          have F432_modCount : Fld Z h432 b432 "java/util/AbstractList" "modCount" "I" (.int (0 : Int32)) := D432 (Or.inl (own_g hw 46)) (ty := .int) (by decide)
          have F432_elementData : Fld Z h432 b432 "java/util/ArrayList" "elementData" "[Ljava/lang/Object;" .null := D432 (Or.inl (own_g hw 49)) (ty := (.array (.object "java/lang/Object"))) (by decide)
          have F432_size : Fld Z h432 b432 "java/util/ArrayList" "size" "I" (.int (0 : Int32)) := D432 (Or.inl (own_g hw 79)) (ty := .int) (by decide)
          obtain ⟨_, _, ⟨T434, L434, k434, n434⟩, -, X434, ⟨Lc434, hQ434, l434, y434, z434⟩, st434⟩ := X432.specialBack hx (y := mn7) rfl hown (own_m hZ hw 29) (own_m hZ hw 30) (own_m hZ hw 31) (by decide) (backOf (W := 1) (rmALI l Z a0 hw [] cs da el ea em ci mm kd ke b432 h432 n0 Zs432 V_env f433_0 A432 F432_modCount F432_elementData F432_size gf432) hZ (own_g hw 31) (own_g hw 28) (by decide) (by decide)) (g := (mkF m 106 #[Iv p1, Iv p2, Iv p3, Iv u, Iv tgd, Iv 2, Rv b420, Nv, Rv b427, Iv 1, Uv, Uv, Uv] [(.ref b432), (.ref b432)])) rfl (by rw [hml]; rfl) (Steps.refl _) (a := b432) (argsL := []) (rest := [(.ref b432)]) (lenOf own_pd12 rfl) rfl (own_z rfl) (hb hby at_106) (fun _ _ => ⟨rfl, e432, (by decide : 3 + 0 ≤ _), (by decide : 8 + 0 ≤ _)⟩)
          dsimp only [Pt.U, Pt.locs, Pt.cells, Pt.slots] at X434 l434 y434 z434 st434 hQ434
          subst l434 y434 z434
          obtain ⟨rfl, Nq434, K434, Gm434, Ge434, Gs434⟩ := hQ434
          have N434 := Fr.app N431 Nq434
          have Zs434 : n0 ≤ T434.heap.size := Nat.le_trans Zs432 K434.1
          have f435_0 : Old Z n0 T434.heap := f433_0.keep K434 (allS gf432 all0)
          have f435_1 : Arv Z T434.heap b420 k420 .char (2 : Int32) [(.int ((p2 &&& (255 : Int32)).toUInt32.toUInt16.toUInt32.toInt32).toUInt32.toUInt16.toUInt32.toInt32), (.int ((p3 &&& (255 : Int32)).toUInt32.toUInt16.toUInt32.toInt32).toUInt32.toUInt16.toUInt32.toInt32)] (.int (0 : Int32)) := f433_1.keep K434 (ninS ne432_b420 nin0)
          have f435_2 : Exa Z T434.heap b427 "com/example/lithe_checker/lithechecker/c/CType$StructType" := f433_2.keep K434
          have f435_3 : Fld Z T434.heap b427 "com/example/lithe_checker/lithechecker/c/CType$StructType" "members" "Ljava/util/List;" .null := f433_3.keep K434 (ninS ne432_b427 nin0)
          have f435_4 : Exa Z T434.heap b432 "java/util/ArrayList" := A432.keep K434
          refine own_by (fun _ k => st431.trans (XS.ifNo X431.here hx rfl (hb hby at_92) rfl ((if0 _ _).trans (teq (by decide : (0 : Int32) = (0 : Int32))).2) (XS.iconst X431.here hx rfl (hb hby at_95) (XS.goto X431.here hx rfl (pc0 := 96) (pc' := 100) rfl (hb hby at_96) (by decide) (by decide) (XS.istore X431.here hx rfl (hb hby at_100) rfl (l' := #[Iv p1, Iv p2, Iv p3, Iv u, Iv tgd, Iv 2, Rv b420, Nv, Rv b427, Iv 1, Uv, Uv, Uv]) rfl (st432 _ (XS.dup X432.here hx rfl (hb hby at_105) rfl rfl (st434.trans (XS.astore X434.here hx rfl (hb hby at_109) rfl rfl (l' := #[Iv p1, Iv p2, Iv p3, Iv u, Iv tgd, Iv 2, Rv b420, Nv, Rv b427, Iv 1, Rv b432, Uv, Uv]) rfl (XS.iload X434.here hx rfl (hb hby at_111) rfl k)))))))))) ?_
          show own_Fin _ _ _ _ _ _ _ T434 (mkF m 113 #[Iv p1, Iv p2, Iv p3, Iv u, Iv tgd, Iv 2, Rv b420, Nv, Rv b427, Iv 1, Rv b432, Uv, Uv] [(.int 2)])
          obtain ⟨T436, h436, X436, e436, E436, A436, D436, -, st436⟩ := newO X434 hx hZ hown (own_g hw 101) (own_g hw 102) (own_g hw 103) rfl (g := (mkF m 119 #[Iv p1, Iv p2, Iv p3, Iv u, Iv tgd, Iv 2, Rv b420, Nv, Rv b427, Iv 1, Rv b432, Uv, Uv] [(.ref b432)])) rfl (hb hby at_119) (by decide) (by decide)
          obtain ⟨b436, g436⟩ : ∃ z, z = T434.heap.size := ⟨_, rfl⟩
          rw [← g436] at A436 D436 st436
          have ne436_b420 : b420 ≠ b436 := Nat.ne_of_lt (Nat.lt_of_lt_of_le f435_1.lt (Nat.le_of_eq g436.symm))
          have ne436_b427 : b427 ≠ b436 := Nat.ne_of_lt (Nat.lt_of_lt_of_le f435_2.lt (Nat.le_of_eq g436.symm))
          have ne436_b432 : b432 ≠ b436 := Nat.ne_of_lt (Nat.lt_of_lt_of_le f435_4.lt (Nat.le_of_eq g436.symm))
          have gf436 : n0 ≤ b436 := Nat.le_trans Zs434 (Nat.le_of_eq g436.symm)
          have Zs436 : n0 ≤ h436.size := Nat.le_trans Zs434 E436.1
          have f437_0 : Old Z n0 h436 := f435_0.ext E436
          have f437_1 : Arv Z h436 b420 k420 .char (2 : Int32) [(.int ((p2 &&& (255 : Int32)).toUInt32.toUInt16.toUInt32.toInt32).toUInt32.toUInt16.toUInt32.toInt32), (.int ((p3 &&& (255 : Int32)).toUInt32.toUInt16.toUInt32.toInt32).toUInt32.toUInt16.toUInt32.toInt32)] (.int (0 : Int32)) := f435_1.ext E436
          have f437_2 : Exa Z h436 b427 "com/example/lithe_checker/lithechecker/c/CType$StructType" := f435_2.ext E436
          have f437_3 : Fld Z h436 b427 "com/example/lithe_checker/lithechecker/c/CType$StructType" "members" "Ljava/util/List;" .null := f435_3.ext E436
          have f437_4 : Exa Z h436 b432 "java/util/ArrayList" := f435_4.ext E436
          have f437_5 : Fld Z h436 b432 "java/util/AbstractList" "modCount" "I" (.int (0 : Int32)) := Gm434.ext E436
          have f437_6 : Fld Z h436 b432 "java/util/ArrayList" "elementData" "[Ljava/lang/Object;" (.ref da) := Ge434.ext E436
          have f437_7 : Fld Z h436 b432 "java/util/ArrayList" "size" "I" (.int (0 : Int32)) := Gs434.ext E436
          have F436_name : Fld Z h436 b436 "com/example/lithe_checker/lithechecker/c/CType$Member" "name" "Ljava/lang/String;" .null := D436 (Or.inr (own_g hw 135)) (ty := (.object "java/lang/String")) (by decide)
          have F436_type : Fld Z h436 b436 "com/example/lithe_checker/lithechecker/c/CType$Member" "type" "Lcom/example/lithe_checker/lithechecker/c/CType;" .null := D436 (Or.inr (own_g hw 137)) (ty := (.object "com/example/lithe_checker/lithechecker/c/CType")) (by decide)
          obtain ⟨_, _, ⟨T438, L438, k438, n438⟩, -, X438, ⟨Lc438, hQ438, l438, y438, z438⟩, st438⟩ := LawKit.callS X436 hx (y := mn41) hown (own_m hZ hw 104) (own_m hZ hw 105) (own_m hZ hw 106) (own_m hZ hw 107) (by decide) (backOf (W := 3) (rmVO l Z a0 hw [] cs da el ea em ci mm kd ke ((p2 &&& (255 : Int32)).toUInt32.toUInt16.toUInt32.toInt32) h436 n0 Zs436 V_env f437_0 (own_lat p2)) hZ (own_g hw 107) (own_g hw 106) (by decide) (by decide)) (g := (mkF m 129 #[Iv p1, Iv p2, Iv p3, Iv u, Iv tgd, Iv 2, Rv b420, Nv, Rv b427, Iv 1, Rv b432, Uv, Uv] [(.int ((p2 &&& (255 : Int32)).toUInt32.toUInt16.toUInt32.toInt32)), (.ref b436), (.ref b436), (.ref b432)])) rfl (by rw [hml]; rfl) (argsL := [(.int ((p2 &&& (255 : Int32)).toUInt32.toUInt16.toUInt32.toInt32))]) (rest := [(.ref b436), (.ref b436), (.ref b432)]) (lenOf own_pd450 rfl) rfl (own_z rfl) (hb hby at_129) (fun _ _ => ⟨rfl, e436, (by decide : 4 + 2 ≤ _), (by decide : 10 + 5 ≤ _)⟩)
          dsimp only [Pt.U, Pt.locs, Pt.cells, Pt.slots] at X438 l438 y438 z438 st438 hQ438
          subst l438 y438 z438
          obtain ⟨b438, rfl, Nq438, K438, ge438, Ev438⟩ := hQ438
          have N438 := Fr.app N434 Nq438
          have Zs438 : n0 ≤ T438.heap.size := Nat.le_trans Zs436 K438.1
          have f439_0 : Old Z n0 T438.heap := f437_0.keep K438 all0
          have f439_1 : Arv Z T438.heap b420 k420 .char (2 : Int32) [(.int ((p2 &&& (255 : Int32)).toUInt32.toUInt16.toUInt32.toInt32).toUInt32.toUInt16.toUInt32.toInt32), (.int ((p3 &&& (255 : Int32)).toUInt32.toUInt16.toUInt32.toInt32).toUInt32.toUInt16.toUInt32.toInt32)] (.int (0 : Int32)) := f437_1.keep K438 nin0
          have f439_2 : Exa Z T438.heap b427 "com/example/lithe_checker/lithechecker/c/CType$StructType" := f437_2.keep K438
          have f439_3 : Fld Z T438.heap b427 "com/example/lithe_checker/lithechecker/c/CType$StructType" "members" "Ljava/util/List;" .null := f437_3.keep K438 nin0
          have f439_4 : Exa Z T438.heap b432 "java/util/ArrayList" := f437_4.keep K438
          have f439_5 : Fld Z T438.heap b432 "java/util/AbstractList" "modCount" "I" (.int (0 : Int32)) := f437_5.keep K438 nin0
          have f439_6 : Fld Z T438.heap b432 "java/util/ArrayList" "elementData" "[Ljava/lang/Object;" (.ref da) := f437_6.keep K438 nin0
          have f439_7 : Fld Z T438.heap b432 "java/util/ArrayList" "size" "I" (.int (0 : Int32)) := f437_7.keep K438 nin0
          have f439_8 : Exa Z T438.heap b436 "com/example/lithe_checker/lithechecker/c/CType$Member" := A436.keep K438
          have f439_9 : Fld Z T438.heap b436 "com/example/lithe_checker/lithechecker/c/CType$Member" "name" "Ljava/lang/String;" .null := F436_name.keep K438 nin0
          have f439_10 : Fld Z T438.heap b436 "com/example/lithe_checker/lithechecker/c/CType$Member" "type" "Lcom/example/lithe_checker/lithechecker/c/CType;" .null := F436_type.keep K438 nin0
          obtain ⟨T440, X440, e440, st440⟩ := getS2 X438 hx hZ hown (host := "") (Or.inl (own_g hw 128)) Via.refl rfl (V_env.2.2.2.2.2.2.2.2.2.2.1.ext f439_0.2) (g := (mkF m 132 #[Iv p1, Iv p2, Iv p3, Iv u, Iv tgd, Iv 2, Rv b420, Nv, Rv b427, Iv 1, Rv b432, Uv, Uv] [(.ref b438), (.ref b436), (.ref b436), (.ref b432)])) rfl (hb hby at_132)
          refine own_by (fun _ k => XS.iconst X434.here hx rfl (hb hby at_113) (XS.icmpNo X434.here hx rfl (hb hby at_114) rfl (flt (by decide : ¬ ((2 : Int32) < (1 : Int32)))).1 (XS.aload X434.here hx rfl (hb hby at_117) rfl rfl (st436 _ (XS.dup X436.here hx rfl (hb hby at_122) rfl rfl (XS.iloadN X436.here hx rfl (hb hby at_123) rfl (XS.sipush X436.here hx rfl (hb hby at_124) (XS.iand X436.here hx rfl (hb hby at_127) rfl (XS.i2c X436.here hx rfl (hb hby at_128) rfl (st438 _ k)))))))))) ?_
          show own_Fin _ _ _ _ _ _ _ T438 (mkF m 132 #[Iv p1, Iv p2, Iv p3, Iv u, Iv tgd, Iv 2, Rv b420, Nv, Rv b427, Iv 1, Rv b432, Uv, Uv] [(.ref b438), (.ref b436), (.ref b436), (.ref b432)])
          obtain ⟨_, _, ⟨T441, L441, k441, n441⟩, -, X441, ⟨Lc441, hQ441, l441, y441, z441⟩, st441⟩ := X440.specialBack hx (y := mn42) rfl hown (own_m hZ hw 130) (own_m hZ hw 131) (own_m hZ hw 132) (by decide) (backOf (W := 2) (rmMI l Z a0 hw [] b436 b438 ci T438.heap n0 Zs438 f439_8 f439_9 f439_10 gf436) hZ (own_g hw 132) (own_g hw 103) (by decide) (by decide)) (g := (mkF m 135 #[Iv p1, Iv p2, Iv p3, Iv u, Iv tgd, Iv 2, Rv b420, Nv, Rv b427, Iv 1, Rv b432, Uv, Uv] [(.ref ci), (.ref b438), (.ref b436), (.ref b436), (.ref b432)])) rfl (by rw [hml]; rfl) (Steps.refl _) (a := b436) (argsL := [(.ref b438), (.ref ci)]) (rest := [(.ref b436), (.ref b432)]) (lenOf own_pd451 rfl) rfl (own_z rfl) (hb hby at_135) (fun _ _ => ⟨rfl, e440, (by decide : 6 + 0 ≤ _), (by decide : 15 + 0 ≤ _)⟩)
          dsimp only [Pt.U, Pt.locs, Pt.cells, Pt.slots] at X441 l441 y441 z441 st441 hQ441
          subst l441 y441 z441
          obtain ⟨rfl, Nq441, K441⟩ := hQ441
          have N441 := Fr.app N438 Nq441
          have Zs441 : n0 ≤ T441.heap.size := Nat.le_trans Zs438 K441.1
          have f442_0 : Old Z n0 T441.heap := f439_0.keep K441 (allS gf436 all0)
          have f442_1 : Arv Z T441.heap b420 k420 .char (2 : Int32) [(.int ((p2 &&& (255 : Int32)).toUInt32.toUInt16.toUInt32.toInt32).toUInt32.toUInt16.toUInt32.toInt32), (.int ((p3 &&& (255 : Int32)).toUInt32.toUInt16.toUInt32.toInt32).toUInt32.toUInt16.toUInt32.toInt32)] (.int (0 : Int32)) := f439_1.keep K441 (ninS ne436_b420 nin0)
          have f442_2 : Exa Z T441.heap b427 "com/example/lithe_checker/lithechecker/c/CType$StructType" := f439_2.keep K441
          have f442_3 : Fld Z T441.heap b427 "com/example/lithe_checker/lithechecker/c/CType$StructType" "members" "Ljava/util/List;" .null := f439_3.keep K441 (ninS ne436_b427 nin0)
          have f442_4 : Exa Z T441.heap b432 "java/util/ArrayList" := f439_4.keep K441
          have f442_5 : Fld Z T441.heap b432 "java/util/AbstractList" "modCount" "I" (.int (0 : Int32)) := f439_5.keep K441 (ninS ne436_b432 nin0)
          have f442_6 : Fld Z T441.heap b432 "java/util/ArrayList" "elementData" "[Ljava/lang/Object;" (.ref da) := f439_6.keep K441 (ninS ne436_b432 nin0)
          have f442_7 : Fld Z T441.heap b432 "java/util/ArrayList" "size" "I" (.int (0 : Int32)) := f439_7.keep K441 (ninS ne436_b432 nin0)
          have f442_8 : Exa Z T441.heap b436 "com/example/lithe_checker/lithechecker/c/CType$Member" := f439_8.keep K441
          have f442_11 : Exa Z T441.heap b438 "java/lang/String" := Ev438.keep K441
          obtain ⟨cq443, kq443, q443a, q443b, q443c⟩ := isOf hZ rfl f442_4
          obtain ⟨_, _, ⟨T443, L443, k443, n443⟩, -, X443, ⟨Lc443, hQ443, l443, y443, z443⟩, st443⟩ := X441.virtualBack hx (y := mn11) (z := mn11) hown (own_m hZ hw 138) (own_m hZ hw 139) (notFace_of_selects (args := #[]) (own_m hZ hw 141)) (own_m hZ hw 141) (own_m hZ hw 140) (by decide) (backOf (W := 0) (rmA0 l Z a0 hw [] cs da el ea em ci mm kd ke b432 b436 (0 : Int32) T441.heap n0 Zs441 V_env f442_0 f442_4 f442_5 f442_6 f442_7 gf432 f442_8) hZ (own_g hw 142) (own_g hw 28) (by decide) (by decide)) q443a q443c (g := (mkF m 138 #[Iv p1, Iv p2, Iv p3, Iv u, Iv tgd, Iv 2, Rv b420, Nv, Rv b427, Iv 1, Rv b432, Uv, Uv] [(.ref b436), (.ref b432)])) rfl (by rw [hml]; rfl) (Steps.refl _) (argsL := [(.ref b436)]) (rest := []) (lenOf own_pd452 rfl) rfl (own_z rfl) (hb hby at_138) (fun _ _ => ⟨rfl, rfl, (by decide : 6 + 1 ≤ _), (by decide : 15 + 10 ≤ _)⟩)
          dsimp only [Pt.U, Pt.locs, Pt.cells, Pt.slots] at X443 l443 y443 z443 st443 hQ443
          subst l443 y443 z443
          obtain ⟨b443, k443, rfl, Nq443, K443, ge443, Gm443, Ge443, Gs443, V443, Eb443, Ov443⟩ := hQ443
          have N443 := Fr.app N441 Nq443
          have Zs443 : n0 ≤ T443.heap.size := Nat.le_trans Zs441 K443.1
          have f444_0 : Old Z n0 T443.heap := f442_0.keep K443 (allS gf432 all0)
          have f444_1 : Arv Z T443.heap b420 k420 .char (2 : Int32) [(.int ((p2 &&& (255 : Int32)).toUInt32.toUInt16.toUInt32.toInt32).toUInt32.toUInt16.toUInt32.toInt32), (.int ((p3 &&& (255 : Int32)).toUInt32.toUInt16.toUInt32.toInt32).toUInt32.toUInt16.toUInt32.toInt32)] (.int (0 : Int32)) := f442_1.keep K443 (ninS ne432_b420 nin0)
          have f444_2 : Exa Z T443.heap b427 "com/example/lithe_checker/lithechecker/c/CType$StructType" := f442_2.keep K443
          have f444_3 : Fld Z T443.heap b427 "com/example/lithe_checker/lithechecker/c/CType$StructType" "members" "Ljava/util/List;" .null := f442_3.keep K443 (ninS ne432_b427 nin0)
          have f444_4 : Exa Z T443.heap b432 "java/util/ArrayList" := f442_4.keep K443
          have f444_8 : Exa Z T443.heap b436 "com/example/lithe_checker/lithechecker/c/CType$Member" := f442_8.keep K443
          have f444_9 : Exa Z T443.heap b438 "java/lang/String" := f442_11.keep K443
          have ne443_b420 : b420 ≠ b443 := Nat.ne_of_lt (Nat.lt_of_lt_of_le f442_1.lt ge443)
          have ne443_b427 : b427 ≠ b443 := Nat.ne_of_lt (Nat.lt_of_lt_of_le f442_2.lt ge443)
          have ne443_b432 : b432 ≠ b443 := Nat.ne_of_lt (Nat.lt_of_lt_of_le f442_4.lt ge443)
          have ne443_b436 : b436 ≠ b443 := Nat.ne_of_lt (Nat.lt_of_lt_of_le f442_8.lt ge443)
          have ne443_b438 : b438 ≠ b443 := Nat.ne_of_lt (Nat.lt_of_lt_of_le f442_11.lt ge443)
          have gf443 : n0 ≤ b443 := Nat.le_trans Zs441 ge443
          obtain ⟨T445, h445, X445, e445, E445, A445, D445, -, st445⟩ := newO X443 hx hZ hown (own_g hw 101) (own_g hw 102) (own_g hw 103) rfl (g := (mkF m 150 #[Iv p1, Iv p2, Iv p3, Iv u, Iv tgd, Iv 2, Rv b420, Nv, Rv b427, Iv 1, Rv b432, Uv, Uv] [(.ref b432)])) rfl (hb hby at_150) (by decide) (by decide)
          obtain ⟨b445, g445⟩ : ∃ z, z = T443.heap.size := ⟨_, rfl⟩
          rw [← g445] at A445 D445 st445
          have ne445_b420 : b420 ≠ b445 := Nat.ne_of_lt (Nat.lt_of_lt_of_le f444_1.lt (Nat.le_of_eq g445.symm))
          have ne445_b427 : b427 ≠ b445 := Nat.ne_of_lt (Nat.lt_of_lt_of_le f444_2.lt (Nat.le_of_eq g445.symm))
          have ne445_b432 : b432 ≠ b445 := Nat.ne_of_lt (Nat.lt_of_lt_of_le f444_4.lt (Nat.le_of_eq g445.symm))
          have ne445_b436 : b436 ≠ b445 := Nat.ne_of_lt (Nat.lt_of_lt_of_le f444_8.lt (Nat.le_of_eq g445.symm))
          have ne445_b438 : b438 ≠ b445 := Nat.ne_of_lt (Nat.lt_of_lt_of_le f444_9.lt (Nat.le_of_eq g445.symm))
          have ne445_b443 : b443 ≠ b445 := Nat.ne_of_lt (Nat.lt_of_lt_of_le V443.lt (Nat.le_of_eq g445.symm))
          have gf445 : n0 ≤ b445 := Nat.le_trans Zs443 (Nat.le_of_eq g445.symm)
          have Zs445 : n0 ≤ h445.size := Nat.le_trans Zs443 E445.1
          have f446_0 : Old Z n0 h445 := f444_0.ext E445
          have f446_1 : Arv Z h445 b420 k420 .char (2 : Int32) [(.int ((p2 &&& (255 : Int32)).toUInt32.toUInt16.toUInt32.toInt32).toUInt32.toUInt16.toUInt32.toInt32), (.int ((p3 &&& (255 : Int32)).toUInt32.toUInt16.toUInt32.toInt32).toUInt32.toUInt16.toUInt32.toInt32)] (.int (0 : Int32)) := f444_1.ext E445
          have f446_2 : Exa Z h445 b427 "com/example/lithe_checker/lithechecker/c/CType$StructType" := f444_2.ext E445
          have f446_3 : Fld Z h445 b427 "com/example/lithe_checker/lithechecker/c/CType$StructType" "members" "Ljava/util/List;" .null := f444_3.ext E445
          have f446_4 : Exa Z h445 b432 "java/util/ArrayList" := f444_4.ext E445
          have f446_5 : Exa Z h445 b436 "com/example/lithe_checker/lithechecker/c/CType$Member" := f444_8.ext E445
          have f446_6 : Exa Z h445 b438 "java/lang/String" := f444_9.ext E445
          have f446_7 : Fld Z h445 b432 "java/util/AbstractList" "modCount" "I" (.int ((0 : Int32) + (1 : Int32))) := Gm443.ext E445
          have f446_8 : Fld Z h445 b432 "java/util/ArrayList" "elementData" "[Ljava/lang/Object;" (.ref b443) := Ge443.ext E445
          have f446_9 : Fld Z h445 b432 "java/util/ArrayList" "size" "I" (.int (1 : Int32)) := Gs443.ext E445
          have f446_10 : Arv Z h445 b443 k443 (.object "java/lang/Object") (10 : Int32) [(.ref b436), .null, .null, .null, .null, .null, .null, .null, .null, .null] .null := V443.ext E445
          have f446_11 : Exa Z h445 b443 "[Ljava/lang/Object;" := Eb443.ext E445
          have F445_name : Fld Z h445 b445 "com/example/lithe_checker/lithechecker/c/CType$Member" "name" "Ljava/lang/String;" .null := D445 (Or.inr (own_g hw 135)) (ty := (.object "java/lang/String")) (by decide)
          have F445_type : Fld Z h445 b445 "com/example/lithe_checker/lithechecker/c/CType$Member" "type" "Lcom/example/lithe_checker/lithechecker/c/CType;" .null := D445 (Or.inr (own_g hw 137)) (ty := (.object "com/example/lithe_checker/lithechecker/c/CType")) (by decide)
          refine own_by (fun _ k => st440 _ (st441.trans (st443.trans (XS.pop X443.here hx rfl (hb hby at_141) rfl rfl (XS.iload X443.here hx rfl (hb hby at_142) rfl (XS.iconst X443.here hx rfl (hb hby at_144) (XS.icmpNo X443.here hx rfl (hb hby at_145) rfl (flt (by decide : ¬ ((2 : Int32) < (2 : Int32)))).1 (XS.aload X443.here hx rfl (hb hby at_148) rfl rfl (st445 _ (XS.dup X445.here hx rfl (hb hby at_153) rfl rfl k)))))))))) ?_
          show own_Fin _ _ _ _ _ _ _ T445 (mkF m 154 #[Iv p1, Iv p2, Iv p3, Iv u, Iv tgd, Iv 2, Rv b420, Nv, Rv b427, Iv 1, Rv b432, Uv, Uv] [(.ref b445), (.ref b445), (.ref b432)])
          obtain ⟨_, _, ⟨T447, L447, k447, n447⟩, -, X447, ⟨Lc447, hQ447, l447, y447, z447⟩, st447⟩ := LawKit.callS X445 hx (y := mn41) hown (own_m hZ hw 104) (own_m hZ hw 105) (own_m hZ hw 106) (own_m hZ hw 107) (by decide) (backOf (W := 3) (rmVO l Z a0 hw [] cs da el ea em ci mm kd ke ((p3 &&& (255 : Int32)).toUInt32.toUInt16.toUInt32.toInt32) h445 n0 Zs445 V_env f446_0 (own_lat p3)) hZ (own_g hw 107) (own_g hw 106) (by decide) (by decide)) (g := (mkF m 160 #[Iv p1, Iv p2, Iv p3, Iv u, Iv tgd, Iv 2, Rv b420, Nv, Rv b427, Iv 1, Rv b432, Uv, Uv] [(.int ((p3 &&& (255 : Int32)).toUInt32.toUInt16.toUInt32.toInt32)), (.ref b445), (.ref b445), (.ref b432)])) rfl (by rw [hml]; rfl) (argsL := [(.int ((p3 &&& (255 : Int32)).toUInt32.toUInt16.toUInt32.toInt32))]) (rest := [(.ref b445), (.ref b445), (.ref b432)]) (lenOf own_pd450 rfl) rfl (own_z rfl) (hb hby at_160) (fun _ _ => ⟨rfl, e445, (by decide : 8 + 2 ≤ _), (by decide : 27 + 5 ≤ _)⟩)
          dsimp only [Pt.U, Pt.locs, Pt.cells, Pt.slots] at X447 l447 y447 z447 st447 hQ447
          subst l447 y447 z447
          obtain ⟨b447, rfl, Nq447, K447, ge447, Ev447⟩ := hQ447
          have N447 := Fr.app N443 Nq447
          have Zs447 : n0 ≤ T447.heap.size := Nat.le_trans Zs445 K447.1
          have f448_0 : Old Z n0 T447.heap := f446_0.keep K447 all0
          have f448_1 : Arv Z T447.heap b420 k420 .char (2 : Int32) [(.int ((p2 &&& (255 : Int32)).toUInt32.toUInt16.toUInt32.toInt32).toUInt32.toUInt16.toUInt32.toInt32), (.int ((p3 &&& (255 : Int32)).toUInt32.toUInt16.toUInt32.toInt32).toUInt32.toUInt16.toUInt32.toInt32)] (.int (0 : Int32)) := f446_1.keep K447 nin0
          have f448_2 : Exa Z T447.heap b427 "com/example/lithe_checker/lithechecker/c/CType$StructType" := f446_2.keep K447
          have f448_3 : Fld Z T447.heap b427 "com/example/lithe_checker/lithechecker/c/CType$StructType" "members" "Ljava/util/List;" .null := f446_3.keep K447 nin0
          have f448_4 : Exa Z T447.heap b432 "java/util/ArrayList" := f446_4.keep K447
          have f448_5 : Exa Z T447.heap b436 "com/example/lithe_checker/lithechecker/c/CType$Member" := f446_5.keep K447
          have f448_6 : Exa Z T447.heap b438 "java/lang/String" := f446_6.keep K447
          have f448_7 : Fld Z T447.heap b432 "java/util/AbstractList" "modCount" "I" (.int ((0 : Int32) + (1 : Int32))) := f446_7.keep K447 nin0
          have f448_8 : Fld Z T447.heap b432 "java/util/ArrayList" "elementData" "[Ljava/lang/Object;" (.ref b443) := f446_8.keep K447 nin0
          have f448_9 : Fld Z T447.heap b432 "java/util/ArrayList" "size" "I" (.int (1 : Int32)) := f446_9.keep K447 nin0
          have f448_10 : Arv Z T447.heap b443 k443 (.object "java/lang/Object") (10 : Int32) [(.ref b436), .null, .null, .null, .null, .null, .null, .null, .null, .null] .null := f446_10.keep K447 nin0
          have f448_11 : Exa Z T447.heap b443 "[Ljava/lang/Object;" := f446_11.keep K447
          have f448_12 : Exa Z T447.heap b445 "com/example/lithe_checker/lithechecker/c/CType$Member" := A445.keep K447
          have f448_13 : Fld Z T447.heap b445 "com/example/lithe_checker/lithechecker/c/CType$Member" "name" "Ljava/lang/String;" .null := F445_name.keep K447 nin0
          have f448_14 : Fld Z T447.heap b445 "com/example/lithe_checker/lithechecker/c/CType$Member" "type" "Lcom/example/lithe_checker/lithechecker/c/CType;" .null := F445_type.keep K447 nin0
          obtain ⟨T449, X449, e449, st449⟩ := getS2 X447 hx hZ hown (host := "") (Or.inl (own_g hw 128)) Via.refl rfl (V_env.2.2.2.2.2.2.2.2.2.2.1.ext f448_0.2) (g := (mkF m 163 #[Iv p1, Iv p2, Iv p3, Iv u, Iv tgd, Iv 2, Rv b420, Nv, Rv b427, Iv 1, Rv b432, Uv, Uv] [(.ref b447), (.ref b445), (.ref b445), (.ref b432)])) rfl (hb hby at_163)
          obtain ⟨_, _, ⟨T450, L450, k450, n450⟩, -, X450, ⟨Lc450, hQ450, l450, y450, z450⟩, st450⟩ := X449.specialBack hx (y := mn42) rfl hown (own_m hZ hw 130) (own_m hZ hw 131) (own_m hZ hw 132) (by decide) (backOf (W := 2) (rmMI l Z a0 hw [] b445 b447 ci T447.heap n0 Zs447 f448_12 f448_13 f448_14 gf445) hZ (own_g hw 132) (own_g hw 103) (by decide) (by decide)) (g := (mkF m 166 #[Iv p1, Iv p2, Iv p3, Iv u, Iv tgd, Iv 2, Rv b420, Nv, Rv b427, Iv 1, Rv b432, Uv, Uv] [(.ref ci), (.ref b447), (.ref b445), (.ref b445), (.ref b432)])) rfl (by rw [hml]; rfl) (Steps.refl _) (a := b445) (argsL := [(.ref b447), (.ref ci)]) (rest := [(.ref b445), (.ref b432)]) (lenOf own_pd451 rfl) rfl (own_z rfl) (hb hby at_166) (fun _ _ => ⟨rfl, e449, (by decide : 10 + 0 ≤ _), (by decide : 32 + 0 ≤ _)⟩)
          dsimp only [Pt.U, Pt.locs, Pt.cells, Pt.slots] at X450 l450 y450 z450 st450 hQ450
          subst l450 y450 z450
          obtain ⟨rfl, Nq450, K450⟩ := hQ450
          have N450 := Fr.app N447 Nq450
          have Zs450 : n0 ≤ T450.heap.size := Nat.le_trans Zs447 K450.1
          have f451_0 : Old Z n0 T450.heap := f448_0.keep K450 (allS gf445 all0)
          have f451_1 : Arv Z T450.heap b420 k420 .char (2 : Int32) [(.int ((p2 &&& (255 : Int32)).toUInt32.toUInt16.toUInt32.toInt32).toUInt32.toUInt16.toUInt32.toInt32), (.int ((p3 &&& (255 : Int32)).toUInt32.toUInt16.toUInt32.toInt32).toUInt32.toUInt16.toUInt32.toInt32)] (.int (0 : Int32)) := f448_1.keep K450 (ninS ne445_b420 nin0)
          have f451_2 : Exa Z T450.heap b427 "com/example/lithe_checker/lithechecker/c/CType$StructType" := f448_2.keep K450
          have f451_3 : Fld Z T450.heap b427 "com/example/lithe_checker/lithechecker/c/CType$StructType" "members" "Ljava/util/List;" .null := f448_3.keep K450 (ninS ne445_b427 nin0)
          have f451_4 : Exa Z T450.heap b432 "java/util/ArrayList" := f448_4.keep K450
          have f451_5 : Exa Z T450.heap b436 "com/example/lithe_checker/lithechecker/c/CType$Member" := f448_5.keep K450
          have f451_6 : Exa Z T450.heap b438 "java/lang/String" := f448_6.keep K450
          have f451_7 : Fld Z T450.heap b432 "java/util/AbstractList" "modCount" "I" (.int ((0 : Int32) + (1 : Int32))) := f448_7.keep K450 (ninS ne445_b432 nin0)
          have f451_8 : Fld Z T450.heap b432 "java/util/ArrayList" "elementData" "[Ljava/lang/Object;" (.ref b443) := f448_8.keep K450 (ninS ne445_b432 nin0)
          have f451_9 : Fld Z T450.heap b432 "java/util/ArrayList" "size" "I" (.int (1 : Int32)) := f448_9.keep K450 (ninS ne445_b432 nin0)
          have f451_10 : Arv Z T450.heap b443 k443 (.object "java/lang/Object") (10 : Int32) [(.ref b436), .null, .null, .null, .null, .null, .null, .null, .null, .null] .null := f448_10.keep K450 (ninS ne445_b443 nin0)
          have f451_11 : Exa Z T450.heap b443 "[Ljava/lang/Object;" := f448_11.keep K450
          have f451_12 : Exa Z T450.heap b445 "com/example/lithe_checker/lithechecker/c/CType$Member" := f448_12.keep K450
          have f451_15 : Exa Z T450.heap b447 "java/lang/String" := Ev447.keep K450
          obtain ⟨cq452, kq452, q452a, q452b, q452c⟩ := isOf hZ rfl f451_4
          obtain ⟨_, _, ⟨T452, L452, k452, n452⟩, -, X452, ⟨Lc452, hQ452, l452, y452, z452⟩, st452⟩ := X450.virtualBack hx (y := mn11) (z := mn11) hown (own_m hZ hw 138) (own_m hZ hw 139) (notFace_of_selects (args := #[]) (own_m hZ hw 141)) (own_m hZ hw 141) (own_m hZ hw 140) (by decide) (backOf (W := 0) (rmA1 l Z a0 hw [] cs da el ea em ci mm kd ke b432 b443 k443 b436 b445 ((0 : Int32) + (1 : Int32)) T450.heap n0 Zs450 V_env f451_0 f451_4 f451_7 f451_8 f451_9 gf432 f451_10 f451_11 Ov443 gf443 ne443_b432 f451_12) hZ (own_g hw 142) (own_g hw 28) (by decide) (by decide)) q452a q452c (g := (mkF m 169 #[Iv p1, Iv p2, Iv p3, Iv u, Iv tgd, Iv 2, Rv b420, Nv, Rv b427, Iv 1, Rv b432, Uv, Uv] [(.ref b445), (.ref b432)])) rfl (by rw [hml]; rfl) (Steps.refl _) (argsL := [(.ref b445)]) (rest := []) (lenOf own_pd452 rfl) rfl (own_z rfl) (hb hby at_169) (fun _ _ => ⟨rfl, rfl, (by decide : 10 + 0 ≤ _), (by decide : 32 + 0 ≤ _)⟩)
          dsimp only [Pt.U, Pt.locs, Pt.cells, Pt.slots] at X452 l452 y452 z452 st452 hQ452
          subst l452 y452 z452
          obtain ⟨rfl, Nq452, K452, Gm452, Ge452, Gs452, V452, Eb452⟩ := hQ452
          have N452 := Fr.app N450 Nq452
          have Zs452 : n0 ≤ T452.heap.size := Nat.le_trans Zs450 K452.1
          have f453_0 : Old Z n0 T452.heap := f451_0.keep K452 (allS gf432 (allS gf443 all0))
          have f453_1 : Arv Z T452.heap b420 k420 .char (2 : Int32) [(.int ((p2 &&& (255 : Int32)).toUInt32.toUInt16.toUInt32.toInt32).toUInt32.toUInt16.toUInt32.toInt32), (.int ((p3 &&& (255 : Int32)).toUInt32.toUInt16.toUInt32.toInt32).toUInt32.toUInt16.toUInt32.toInt32)] (.int (0 : Int32)) := f451_1.keep K452 (ninS ne432_b420 (ninS ne443_b420 nin0))
          have f453_2 : Exa Z T452.heap b427 "com/example/lithe_checker/lithechecker/c/CType$StructType" := f451_2.keep K452
          have f453_3 : Fld Z T452.heap b427 "com/example/lithe_checker/lithechecker/c/CType$StructType" "members" "Ljava/util/List;" .null := f451_3.keep K452 (ninS ne432_b427 (ninS ne443_b427 nin0))
          have f453_4 : Exa Z T452.heap b432 "java/util/ArrayList" := f451_4.keep K452
          have f453_5 : Exa Z T452.heap b436 "com/example/lithe_checker/lithechecker/c/CType$Member" := f451_5.keep K452
          have f453_6 : Exa Z T452.heap b438 "java/lang/String" := f451_6.keep K452
          have f453_11 : Exa Z T452.heap b443 "[Ljava/lang/Object;" := f451_11.keep K452
          have f453_12 : Exa Z T452.heap b445 "com/example/lithe_checker/lithechecker/c/CType$Member" := f451_12.keep K452
          have f453_13 : Exa Z T452.heap b447 "java/lang/String" := f451_15.keep K452
          refine own_by (fun _ k => XS.iloadN X445.here hx rfl (hb hby at_154) rfl (XS.sipush X445.here hx rfl (hb hby at_155) (XS.iand X445.here hx rfl (hb hby at_158) rfl (XS.i2c X445.here hx rfl (hb hby at_159) rfl (st447 _ (st449 _ (st450.trans (st452.trans (XS.pop X452.here hx rfl (hb hby at_172) rfl rfl (XS.iload X452.here hx rfl (hb hby at_173) rfl k)))))))))) ?_
          show own_Fin _ _ _ _ _ _ _ T452 (mkF m 175 #[Iv p1, Iv p2, Iv p3, Iv u, Iv tgd, Iv 2, Rv b420, Nv, Rv b427, Iv 1, Rv b432, Uv, Uv] [(.int 2)])
          obtain ⟨cq454, kq454, q454a, q454b, q454c⟩ := isOf hZ rfl f453_2
          obtain ⟨_, _, ⟨T454, L454, k454, n454⟩, -, X454, ⟨Lc454, hQ454, l454, y454, z454⟩, st454⟩ := X452.virtualBack hx (y := mn32) (z := mn32) hown (own_m hZ hw 50) (own_m hZ hw 51) (notFace_of_selects (args := #[]) (own_m hZ hw 53)) (own_m hZ hw 53) (own_m hZ hw 52) (by decide) (backOf (W := 0) (rmCo2 l Z a0 hw [] cs da el ea em ci mm kd ke b427 b432 b443 k443 b436 b445 T452.heap n0 Zs452 V_env f453_0 f453_2 f453_3 gf427 f453_4 Ge452 Gs452 V452 Eb452 f453_5 f453_12 ne432_b427) hZ (own_g hw 54) (own_g hw 3) (by decide) (by decide)) q454a q454c (g := (mkF m 208 #[Iv p1, Iv p2, Iv p3, Iv u, Iv tgd, Iv 2, Rv b420, Nv, Rv b427, Iv 1, Rv b432, Uv, Uv] [(.ref b432), (.ref b427)])) rfl (by rw [hml]; rfl) (Steps.refl _) (argsL := [(.ref b432)]) (rest := []) (lenOf own_pd447 rfl) rfl (own_z rfl) (hb hby at_208) (fun _ _ => ⟨rfl, rfl, (by decide : 10 + 2 ≤ _), (by decide : 32 + 4 ≤ _)⟩)
          dsimp only [Pt.U, Pt.locs, Pt.cells, Pt.slots] at X454 l454 y454 z454 st454 hQ454
          subst l454 y454 z454
          obtain ⟨q454, rfl, Nq454, K454, Gm454, Eq454, Gq454⟩ := hQ454
          have N454 := Fr.app N452 Nq454
          have Zs454 : n0 ≤ T454.heap.size := Nat.le_trans Zs452 K454.1
          have f455_0 : Old Z n0 T454.heap := f453_0.keep K454 (allS gf427 all0)
          have f455_1 : Arv Z T454.heap b420 k420 .char (2 : Int32) [(.int ((p2 &&& (255 : Int32)).toUInt32.toUInt16.toUInt32.toInt32).toUInt32.toUInt16.toUInt32.toInt32), (.int ((p3 &&& (255 : Int32)).toUInt32.toUInt16.toUInt32.toInt32).toUInt32.toUInt16.toUInt32.toInt32)] (.int (0 : Int32)) := f453_1.keep K454 (ninS ne427_b420 nin0)
          have f455_2 : Exa Z T454.heap b427 "com/example/lithe_checker/lithechecker/c/CType$StructType" := f453_2.keep K454
          have f455_4 : Exa Z T454.heap b432 "java/util/ArrayList" := f453_4.keep K454
          have f455_5 : Exa Z T454.heap b436 "com/example/lithe_checker/lithechecker/c/CType$Member" := f453_5.keep K454
          have f455_6 : Exa Z T454.heap b438 "java/lang/String" := f453_6.keep K454
          have f455_7 : Exa Z T454.heap b443 "[Ljava/lang/Object;" := Eb452.keep K454
          have f455_8 : Exa Z T454.heap b445 "com/example/lithe_checker/lithechecker/c/CType$Member" := f453_12.keep K454
          have f455_9 : Exa Z T454.heap b447 "java/lang/String" := f453_13.keep K454
          have f455_10 : Fld Z T454.heap b432 "java/util/AbstractList" "modCount" "I" (.int (((0 : Int32) + (1 : Int32)) + (1 : Int32))) := Gm452.keep K454 (ninS (Ne.symm ne432_b427) nin0)
          have f455_11 : Fld Z T454.heap b432 "java/util/ArrayList" "elementData" "[Ljava/lang/Object;" (.ref b443) := Ge452.keep K454 (ninS (Ne.symm ne432_b427) nin0)
          have f455_12 : Fld Z T454.heap b432 "java/util/ArrayList" "size" "I" (.int (2 : Int32)) := Gs452.keep K454 (ninS (Ne.symm ne432_b427) nin0)
          have f455_13 : Arv Z T454.heap b443 k443 (.object "java/lang/Object") (10 : Int32) [(.ref b436), (.ref b445), .null, .null, .null, .null, .null, .null, .null, .null] .null := V452.keep K454 (ninS (Ne.symm ne443_b427) nin0)
          obtain ⟨cq456, kq456, q456a, q456b, q456c⟩ := isOf hZ rfl f455_2
          obtain ⟨_, _, ⟨T456, L456, k456, n456⟩, -, X456, ⟨Lc456, hQ456, l456, y456, z456⟩, st456⟩ := X454.virtualBack hx (y := mn30) (z := mn30) hown (own_m hZ hw 19) (own_m hZ hw 20) (notFace_of_selects (args := #[]) (own_m hZ hw 22)) (own_m hZ hw 22) (own_m hZ hw 21) (by decide) (backOf (W := 0) (rmIc1 l Z a0 hw [] b427 q454 T454.heap n0 Zs454 Gm454) hZ (own_g hw 23) (own_g hw 3) (by decide) (by decide)) q456a q456c (g := (mkF m 213 #[Iv p1, Iv p2, Iv p3, Iv u, Iv tgd, Iv 2, Rv b420, Nv, Rv b427, Iv 1, Rv b432, Uv, Uv] [(.ref b427)])) rfl (by rw [hml]; rfl) (Steps.refl _) (argsL := []) (rest := []) (lenOf own_pd251 rfl) rfl (own_z rfl) (hb hby at_213) (fun _ _ => ⟨rfl, rfl, (by decide : 12 + 0 ≤ _), (by decide : 36 + 0 ≤ _)⟩)
          dsimp only [Pt.U, Pt.locs, Pt.cells, Pt.slots] at X456 l456 y456 z456 st456 hQ456
          subst l456 y456 z456
          obtain ⟨rfl, Nq456, eh456⟩ := hQ456
          have N456 := Fr.app N454 Nq456
          obtain ⟨cq457, kq457, q457a, q457b, q457c⟩ := isOf hZ eh456 f455_2
          obtain ⟨_, _, ⟨T457, L457, k457, n457⟩, -, X457, ⟨Lc457, hQ457, l457, y457, z457⟩, st457⟩ := X456.virtualBack hx (y := mn31) (z := mn31) hown (own_m hZ hw 84) (own_m hZ hw 85) (notFace_of_selects (args := #[]) (own_m hZ hw 87)) (own_m hZ hw 87) (own_m hZ hw 86) (by decide) (backOf (W := 0) (rmMb l Z a0 hw [] b427 q454 T454.heap n0 Zs454 Gm454) hZ (own_g hw 88) (own_g hw 3) (by decide) (by decide)) q457a q457c (g := (mkF m 220 #[Iv p1, Iv p2, Iv p3, Iv u, Iv tgd, Iv 2, Rv b420, Nv, Rv b427, Iv 1, Rv b432, Iv 1, Uv] [(.ref b427)])) rfl (by rw [hml]; rfl) (Steps.refl _) (argsL := []) (rest := []) (lenOf own_pd280 rfl) rfl (own_z rfl) (hb hby at_220) (fun _ _ => ⟨rfl, eh456, (by decide : 12 + 0 ≤ _), (by decide : 36 + 0 ≤ _)⟩)
          dsimp only [Pt.U, Pt.locs, Pt.cells, Pt.slots] at X457 l457 y457 z457 st457 hQ457
          subst l457 y457 z457
          obtain ⟨rfl, Nq457, eh457⟩ := hQ457
          have N457 := Fr.app N456 Nq457
          obtain ⟨cq458, kq458, q458a, q458b, q458c⟩ := isOf hZ eh457 Eq454
          obtain ⟨_, _, ⟨T458, L458, k458, n458⟩, -, X458, ⟨Lc458, hQ458, l458, y458, z458⟩, st458⟩ := X457.interfaceBack hx (xi := mn43) (y := mn21) hown (own_m hZ hw 89) (own_m hZ hw 90) (own_m hZ hw 91) (own_m hZ hw 230) (own_m hZ hw 231) (own_m hZ hw 232) (own_m hZ hw 233) (own_m hZ hw 234) (by decide) (backOf (W := 0) (rmZ2 l Z a0 hw [] cs da el ea em ci mm kd ke q454 b445 T454.heap n0 Zs454 V_env f455_0 Gq454 (Ne.symm (Old.ne f455_0 V_env.2.2.2.2.2.2.2.2.2.1.lt gf445))) hZ (own_g hw 235) (own_g hw 202) (by decide) (by decide)) q458a q458b q458c (g := (mkF m 223 #[Iv p1, Iv p2, Iv p3, Iv u, Iv tgd, Iv 2, Rv b420, Nv, Rv b427, Iv 1, Rv b432, Iv 1, Uv] [(.ref q454)])) rfl (by rw [hml]; rfl) (Steps.refl _) (argsL := []) (rest := []) (lenOf own_pd448 rfl) rfl (own_z rfl) (hb hby at_223) (fun _ _ => ⟨rfl, eh457, (by decide : 12 + 0 ≤ _), (by decide : 36 + 0 ≤ _)⟩)
          dsimp only [Pt.U, Pt.locs, Pt.cells, Pt.slots] at X458 l458 y458 z458 st458 hQ458
          subst l458 y458 z458
          obtain ⟨rfl, Nq458, eh458⟩ := hQ458
          have N458 := Fr.app N457 Nq458
          refine own_by (fun _ k => XS.iconst X452.here hx rfl (hb hby at_175) (XS.icmpYes X452.here hx rfl (pc0 := 176) (pc' := 204) rfl (hb hby at_176) rfl (tlt (by decide : (2 : Int32) < (3 : Int32))).1 (by decide) (by decide) (XS.aload X452.here hx rfl (hb hby at_204) rfl rfl (XS.aload X452.here hx rfl (hb hby at_206) rfl rfl (st454.trans (XS.aload X454.here hx rfl (hb hby at_211) rfl rfl (st456.trans (XS.istore X456.here hx rfl (hb hby at_216) rfl (l' := #[Iv p1, Iv p2, Iv p3, Iv u, Iv tgd, Iv 2, Rv b420, Nv, Rv b427, Iv 1, Rv b432, Iv 1, Uv]) rfl (XS.aload X456.here hx rfl (hb hby at_218) rfl rfl (st457.trans k)))))))))) ?_
          show own_Fin _ _ _ _ _ _ _ T457 (mkF m 223 #[Iv p1, Iv p2, Iv p3, Iv u, Iv tgd, Iv 2, Rv b420, Nv, Rv b427, Iv 1, Rv b432, Iv 1, Uv] [(.ref q454)])
          refine own_by (fun _ k => st458.trans (XS.iload X458.here hx rfl (hb hby at_228) rfl (XS.icmpNo X458.here hx rfl (hb hby at_230) rfl (teq (by decide : (2 : Int32) = (2 : Int32))).2 (XS.iconst X458.here hx rfl (hb hby at_233) (XS.goto X458.here hx rfl (pc0 := 234) (pc' := 238) rfl (hb hby at_234) (by decide) (by decide) (XS.istore X458.here hx rfl (hb hby at_238) rfl (l' := #[Iv p1, Iv p2, Iv p3, Iv u, Iv tgd, Iv 2, Rv b420, Nv, Rv b427, Iv 1, Rv b432, Iv 1, Iv 1]) rfl (XS.iload X458.here hx rfl (hb hby at_240) rfl (XS.ifNo X458.here hx rfl (hb hby at_242) rfl ((if0 _ _).trans (feq (by decide : ¬ ((1 : Int32) = (0 : Int32)))).1) (XS.iload X458.here hx rfl (hb hby at_245) rfl (XS.ifNo X458.here hx rfl (hb hby at_247) rfl ((if0 _ _).trans (feq (by decide : ¬ ((1 : Int32) = (0 : Int32)))).1) k)))))))))) ?_
          show own_Fin _ _ _ _ _ _ _ T458 (mkF m 250 #[Iv p1, Iv p2, Iv p3, Iv u, Iv tgd, Iv 2, Rv b420, Nv, Rv b427, Iv 1, Rv b432, Iv 1, Iv 1] [])
          refine own_by (fun _ k => XS.iload X458.here hx rfl (hb hby at_250) rfl (XS.ifNo X458.here hx rfl (hb hby at_252) rfl ((if0 _ _).trans (feq (by decide : ¬ ((1 : Int32) = (0 : Int32)))).1) (XS.iconst X458.here hx rfl (hb hby at_255) (XS.goto X458.here hx rfl (pc0 := 256) (pc' := 260) rfl (hb hby at_256) (by decide) (by decide) k)))) ?_
          exact own_retZ X458 hx hlk (t := .boolean) Bd.returns (by simp) (hb hby at_260) ⟨rfl, N458⟩ (by decide) (by decide)
        · show own_Fin _ _ _ _ _ _ _ T424 (mkF m 57 #[Iv p1, Iv p2, Iv p3, Iv u, Iv tgd, Iv 2, Rv b420, Uv, Uv, Uv, Uv, Uv, Uv] [(.int tgd)])
          obtain ⟨T459, h459, X459, e459, E459, A459, D459, -, st459⟩ := newO X424 hx hZ hown (own_g hw 236) (own_g hw 114) (own_g hw 106) e424 (g := (mkF m 60 #[Iv p1, Iv p2, Iv p3, Iv u, Iv tgd, Iv 2, Rv b420, Uv, Uv, Uv, Uv, Uv, Uv] [])) rfl (hb hby at_60) (by decide) (by decide)
          obtain ⟨b459, g459⟩ : ∃ z, z = h424.size := ⟨_, rfl⟩
          rw [← g459] at A459 D459 st459
          have ne459_b420 : b420 ≠ b459 := Nat.ne_of_lt (Nat.lt_of_lt_of_le V424.lt (Nat.le_of_eq g459.symm))
          have gf459 : n0 ≤ b459 := Nat.le_trans Zs424 (Nat.le_of_eq g459.symm)
          have Zs459 : n0 ≤ h459.size := Nat.le_trans Zs424 E459.1
          have f460_0 : Old Z n0 h459 := f425_0.ext E459
          have f460_1 : Arv Z h459 b420 k420 .char (2 : Int32) [(.int ((p2 &&& (255 : Int32)).toUInt32.toUInt16.toUInt32.toInt32).toUInt32.toUInt16.toUInt32.toInt32), (.int ((p3 &&& (255 : Int32)).toUInt32.toUInt16.toUInt32.toInt32).toUInt32.toUInt16.toUInt32.toInt32)] (.int (0 : Int32)) := V424.ext E459
          have F459_value : Fld Z h459 b459 "java/lang/String" "value" "[B" .null := D459 (Or.inr (own_g hw 125)) (ty := (.array .byte)) (by decide)
          have F459_coder : Fld Z h459 b459 "java/lang/String" "coder" "B" (.int (0 : Int32)) := D459 (Or.inr (own_g hw 127)) (ty := .byte) (by decide)
          have Vt461 : Arv Z h459 b420 k420 .char (2 : Int32) [(.int ((p2 &&& (255 : Int32)).toUInt32.toUInt16.toUInt32.toInt32)), (.int ((p3 &&& (255 : Int32)).toUInt32.toUInt16.toUInt32.toInt32))] (.int (0 : Int32)) := by have q := f460_1; simp only [own_c16] at q; exact q
          obtain ⟨_, _, ⟨T462, L462, k462, n462⟩, -, X462, ⟨Lc462, hQ462, l462, y462, z462⟩, st462⟩ := X459.specialBack hx (y := mn37) rfl hown (own_m hZ hw 237) (own_m hZ hw 238) (own_m hZ hw 239) (by decide) (backOf (W := 1) (rmSC2 l Z a0 hw [] b459 b420 k420 cs ((p2 &&& (255 : Int32)).toUInt32.toUInt16.toUInt32.toInt32) ((p3 &&& (255 : Int32)).toUInt32.toUInt16.toUInt32.toInt32) h459 n0 Zs459 A459 F459_value F459_coder gf459 Vt461 ne459_b420 (own_lat p2) (own_lat p3) (V_env.1.ext f460_0.2) V_env.2.1) hZ (own_g hw 239) (own_g hw 106) (by decide) (by decide)) (g := (mkF m 66 #[Iv p1, Iv p2, Iv p3, Iv u, Iv tgd, Iv 2, Rv b420, Uv, Uv, Uv, Uv, Uv, Uv] [(.ref b420), (.ref b459), (.ref b459)])) rfl (by rw [hml]; rfl) (Steps.refl _) (a := b459) (argsL := [(.ref b420)]) (rest := [(.ref b459)]) (lenOf own_pd449 rfl) rfl (own_z rfl) (hb hby at_66) (fun _ _ => ⟨rfl, e459, (by decide : 2 + 1 ≤ _), (by decide : 6 + 2 ≤ _)⟩)
          dsimp only [Pt.U, Pt.locs, Pt.cells, Pt.slots] at X462 l462 y462 z462 st462 hQ462
          subst l462 y462 z462
          obtain ⟨bs462, ks462, rfl, Nq462, K462, Gc462, Gv462, Vs462⟩ := hQ462
          have N462 := Fr.app N424 Nq462
          have Zs462 : n0 ≤ T462.heap.size := Nat.le_trans Zs459 K462.1
          have f463_0 : Old Z n0 T462.heap := f460_0.keep K462 (allS gf459 all0)
          have f463_1 : Arv Z T462.heap b420 k420 .char (2 : Int32) [(.int ((p2 &&& (255 : Int32)).toUInt32.toUInt16.toUInt32.toInt32).toUInt32.toUInt16.toUInt32.toInt32), (.int ((p3 &&& (255 : Int32)).toUInt32.toUInt16.toUInt32.toInt32).toUInt32.toUInt16.toUInt32.toInt32)] (.int (0 : Int32)) := f460_1.keep K462 (ninS ne459_b420 nin0)
          have f463_2 : Exa Z T462.heap b459 "java/lang/String" := A459.keep K462
          obtain ⟨T464, h464, X464, e464, E464, A464, D464, -, st464⟩ := newO X462 hx hZ hown (own_g hw 1) (own_g hw 2) (own_g hw 3) rfl (g := (mkF m 75 #[Iv p1, Iv p2, Iv p3, Iv u, Iv tgd, Iv 2, Rv b420, Rv b459, Uv, Uv, Uv, Uv, Uv] [])) rfl (hb hby at_75) (by decide) (by decide)
          obtain ⟨b464, g464⟩ : ∃ z, z = T462.heap.size := ⟨_, rfl⟩
          rw [← g464] at A464 D464 st464
          have ne464_b420 : b420 ≠ b464 := Nat.ne_of_lt (Nat.lt_of_lt_of_le f463_1.lt (Nat.le_of_eq g464.symm))
          have ne464_b459 : b459 ≠ b464 := Nat.ne_of_lt (Nat.lt_of_lt_of_le f463_2.lt (Nat.le_of_eq g464.symm))
          have gf464 : n0 ≤ b464 := Nat.le_trans Zs462 (Nat.le_of_eq g464.symm)
          have Zs464 : n0 ≤ h464.size := Nat.le_trans Zs462 E464.1
          have f465_0 : Old Z n0 h464 := f463_0.ext E464
          have f465_1 : Arv Z h464 b420 k420 .char (2 : Int32) [(.int ((p2 &&& (255 : Int32)).toUInt32.toUInt16.toUInt32.toInt32).toUInt32.toUInt16.toUInt32.toInt32), (.int ((p3 &&& (255 : Int32)).toUInt32.toUInt16.toUInt32.toInt32).toUInt32.toUInt16.toUInt32.toInt32)] (.int (0 : Int32)) := f463_1.ext E464
          have f465_2 : Exa Z h464 b459 "java/lang/String" := f463_2.ext E464
          have F464_union : Fld Z h464 b464 "com/example/lithe_checker/lithechecker/c/CType$StructType" "union" "Z" (.int (0 : Int32)) := D464 (Or.inr (own_g hw 16)) (ty := .boolean) (by decide)
          have F464_tag : Fld Z h464 b464 "com/example/lithe_checker/lithechecker/c/CType$StructType" "tag" "Ljava/lang/String;" .null := D464 (Or.inr (own_g hw 18)) (ty := (.object "java/lang/String")) (by decide)
          have F464_members : Fld Z h464 b464 "com/example/lithe_checker/lithechecker/c/CType$StructType" "members" "Ljava/util/List;" .null := D464 (Or.inl (own_g hw 25)) (ty := (.object "java/util/List")) (by decide)
          refine own_by (fun _ k => XS.ifNo X424.here hx rfl (hb hby at_57) rfl ((if0 _ _).trans (feq hc57_426).1) (st459 _ (XS.dup X459.here hx rfl (hb hby at_63) rfl rfl (XS.aload X459.here hx rfl (hb hby at_64) rfl rfl (st462.trans (XS.goto X462.here hx rfl (pc0 := 69) (pc' := 73) rfl (hb hby at_69) (by decide) (by decide) (XS.astore X462.here hx rfl (hb hby at_73) rfl rfl (l' := #[Iv p1, Iv p2, Iv p3, Iv u, Iv tgd, Iv 2, Rv b420, Rv b459, Uv, Uv, Uv, Uv, Uv]) rfl (st464 _ (XS.dup X464.here hx rfl (hb hby at_78) rfl rfl (XS.iloadN X464.here hx rfl (hb hby at_79) rfl k)))))))))) ?_
          show own_Fin _ _ _ _ _ _ _ T464 (mkF m 80 #[Iv p1, Iv p2, Iv p3, Iv u, Iv tgd, Iv 2, Rv b420, Rv b459, Uv, Uv, Uv, Uv, Uv] [(.int u), (.ref b464), (.ref b464)])
          obtain ⟨_, _, ⟨T466, L466, k466, n466⟩, -, X466, ⟨Lc466, hQ466, l466, y466, z466⟩, st466⟩ := X464.specialBack hx (y := mn29) rfl hown (own_m hZ hw 4) (own_m hZ hw 5) (own_m hZ hw 6) (by decide) (backOf (W := 1) (rmSI l Z a0 hw [] b464 u (.ref b459) h464 n0 Zs464 A464 F464_union F464_tag F464_members gf464 rfl) hZ (own_g hw 6) (own_g hw 3) (by decide) (by decide)) (g := (mkF m 82 #[Iv p1, Iv p2, Iv p3, Iv u, Iv tgd, Iv 2, Rv b420, Rv b459, Uv, Uv, Uv, Uv, Uv] [(.ref b459), (.int u), (.ref b464), (.ref b464)])) rfl (by rw [hml]; rfl) (Steps.refl _) (a := b464) (argsL := [(.int u), (.ref b459)]) (rest := [(.ref b464)]) (lenOf own_pd446 rfl) rfl (own_z rfl) (hb hby at_82) (fun _ _ => ⟨rfl, e464, (by decide : 4 + 0 ≤ _), (by decide : 11 + 0 ≤ _)⟩)
          dsimp only [Pt.U, Pt.locs, Pt.cells, Pt.slots] at X466 l466 y466 z466 st466 hQ466
          subst l466 y466 z466
          obtain ⟨rfl, Nq466, K466, Gm466⟩ := hQ466
          have N466 := Fr.app N462 Nq466
          have Zs466 : n0 ≤ T466.heap.size := Nat.le_trans Zs464 K466.1
          have f467_0 : Old Z n0 T466.heap := f465_0.keep K466 (allS gf464 all0)
          have f467_1 : Arv Z T466.heap b420 k420 .char (2 : Int32) [(.int ((p2 &&& (255 : Int32)).toUInt32.toUInt16.toUInt32.toInt32).toUInt32.toUInt16.toUInt32.toInt32), (.int ((p3 &&& (255 : Int32)).toUInt32.toUInt16.toUInt32.toInt32).toUInt32.toUInt16.toUInt32.toInt32)] (.int (0 : Int32)) := f465_1.keep K466 (ninS ne464_b420 nin0)
          have f467_2 : Exa Z T466.heap b459 "java/lang/String" := f465_2.keep K466
          have f467_3 : Exa Z T466.heap b464 "com/example/lithe_checker/lithechecker/c/CType$StructType" := A464.keep K466
          obtain ⟨cq468, kq468, q468a, q468b, q468c⟩ := isOf hZ rfl f467_3
          obtain ⟨_, _, ⟨T468, L468, k468, n468⟩, -, X468, ⟨Lc468, hQ468, l468, y468, z468⟩, st468⟩ := X466.virtualBack hx (y := mn30) (z := mn30) hown (own_m hZ hw 19) (own_m hZ hw 20) (notFace_of_selects (args := #[]) (own_m hZ hw 22)) (own_m hZ hw 22) (own_m hZ hw 21) (by decide) (backOf (W := 0) (rmIc0 l Z a0 hw [] b464 T466.heap n0 Zs466 Gm466) hZ (own_g hw 23) (own_g hw 3) (by decide) (by decide)) q468a q468c (g := (mkF m 89 #[Iv p1, Iv p2, Iv p3, Iv u, Iv tgd, Iv 2, Rv b420, Rv b459, Rv b464, Uv, Uv, Uv, Uv] [(.ref b464)])) rfl (by rw [hml]; rfl) (Steps.refl _) (argsL := []) (rest := []) (lenOf own_pd251 rfl) rfl (own_z rfl) (hb hby at_89) (fun _ _ => ⟨rfl, rfl, (by decide : 4 + 0 ≤ _), (by decide : 11 + 0 ≤ _)⟩)
          dsimp only [Pt.U, Pt.locs, Pt.cells, Pt.slots] at X468 l468 y468 z468 st468 hQ468
          subst l468 y468 z468
          obtain ⟨rfl, Nq468, eh468⟩ := hQ468
          have N468 := Fr.app N466 Nq468
          obtain ⟨T469, h469, X469, e469, E469, A469, D469, -, st469⟩ := newO X468 hx hZ hown (own_g hw 26) (own_g hw 27) (own_g hw 28) eh468 (g := (mkF m 102 #[Iv p1, Iv p2, Iv p3, Iv u, Iv tgd, Iv 2, Rv b420, Rv b459, Rv b464, Iv 1, Uv, Uv, Uv] [])) rfl (hb hby at_102) (by decide) (by decide)
          obtain ⟨b469, g469⟩ : ∃ z, z = T466.heap.size := ⟨_, rfl⟩
          rw [← g469] at A469 D469 st469
          have ne469_b420 : b420 ≠ b469 := Nat.ne_of_lt (Nat.lt_of_lt_of_le f467_1.lt (Nat.le_of_eq g469.symm))
          have ne469_b459 : b459 ≠ b469 := Nat.ne_of_lt (Nat.lt_of_lt_of_le f467_2.lt (Nat.le_of_eq g469.symm))
          have ne469_b464 : b464 ≠ b469 := Nat.ne_of_lt (Nat.lt_of_lt_of_le f467_3.lt (Nat.le_of_eq g469.symm))
          have gf469 : n0 ≤ b469 := Nat.le_trans Zs466 (Nat.le_of_eq g469.symm)
          have Zs469 : n0 ≤ h469.size := Nat.le_trans Zs466 E469.1
          have f470_0 : Old Z n0 h469 := f467_0.ext E469
          have f470_1 : Arv Z h469 b420 k420 .char (2 : Int32) [(.int ((p2 &&& (255 : Int32)).toUInt32.toUInt16.toUInt32.toInt32).toUInt32.toUInt16.toUInt32.toInt32), (.int ((p3 &&& (255 : Int32)).toUInt32.toUInt16.toUInt32.toInt32).toUInt32.toUInt16.toUInt32.toInt32)] (.int (0 : Int32)) := f467_1.ext E469
          have f470_2 : Exa Z h469 b459 "java/lang/String" := f467_2.ext E469
          have f470_3 : Exa Z h469 b464 "com/example/lithe_checker/lithechecker/c/CType$StructType" := f467_3.ext E469
          have f470_4 : Fld Z h469 b464 "com/example/lithe_checker/lithechecker/c/CType$StructType" "members" "Ljava/util/List;" .null := Gm466.ext E469
          have F469_modCount : Fld Z h469 b469 "java/util/AbstractList" "modCount" "I" (.int (0 : Int32)) := D469 (Or.inl (own_g hw 46)) (ty := .int) (by decide)
          have F469_elementData : Fld Z h469 b469 "java/util/ArrayList" "elementData" "[Ljava/lang/Object;" .null := D469 (Or.inl (own_g hw 49)) (ty := (.array (.object "java/lang/Object"))) (by decide)
          have F469_size : Fld Z h469 b469 "java/util/ArrayList" "size" "I" (.int (0 : Int32)) := D469 (Or.inl (own_g hw 79)) (ty := .int) (by decide)
          refine own_by (fun _ k => XS.aload X464.here hx rfl (hb hby at_80) rfl rfl (st466.trans (XS.astore X466.here hx rfl (hb hby at_85) rfl rfl (l' := #[Iv p1, Iv p2, Iv p3, Iv u, Iv tgd, Iv 2, Rv b420, Rv b459, Rv b464, Uv, Uv, Uv, Uv]) rfl (XS.aload X466.here hx rfl (hb hby at_87) rfl rfl (st468.trans (XS.ifNo X468.here hx rfl (hb hby at_92) rfl ((if0 _ _).trans (teq (by decide : (0 : Int32) = (0 : Int32))).2) (XS.iconst X468.here hx rfl (hb hby at_95) (XS.goto X468.here hx rfl (pc0 := 96) (pc' := 100) rfl (hb hby at_96) (by decide) (by decide) (XS.istore X468.here hx rfl (hb hby at_100) rfl (l' := #[Iv p1, Iv p2, Iv p3, Iv u, Iv tgd, Iv 2, Rv b420, Rv b459, Rv b464, Iv 1, Uv, Uv, Uv]) rfl (st469 _ k)))))))))) ?_
          show own_Fin _ _ _ _ _ _ _ T469 (mkF m 105 #[Iv p1, Iv p2, Iv p3, Iv u, Iv tgd, Iv 2, Rv b420, Rv b459, Rv b464, Iv 1, Uv, Uv, Uv] [(.ref b469)])
          obtain ⟨_, _, ⟨T471, L471, k471, n471⟩, -, X471, ⟨Lc471, hQ471, l471, y471, z471⟩, st471⟩ := X469.specialBack hx (y := mn7) rfl hown (own_m hZ hw 29) (own_m hZ hw 30) (own_m hZ hw 31) (by decide) (backOf (W := 1) (rmALI l Z a0 hw [] cs da el ea em ci mm kd ke b469 h469 n0 Zs469 V_env f470_0 A469 F469_modCount F469_elementData F469_size gf469) hZ (own_g hw 31) (own_g hw 28) (by decide) (by decide)) (g := (mkF m 106 #[Iv p1, Iv p2, Iv p3, Iv u, Iv tgd, Iv 2, Rv b420, Rv b459, Rv b464, Iv 1, Uv, Uv, Uv] [(.ref b469), (.ref b469)])) rfl (by rw [hml]; rfl) (Steps.refl _) (a := b469) (argsL := []) (rest := [(.ref b469)]) (lenOf own_pd12 rfl) rfl (own_z rfl) (hb hby at_106) (fun _ _ => ⟨rfl, e469, (by decide : 5 + 0 ≤ _), (by decide : 14 + 0 ≤ _)⟩)
          dsimp only [Pt.U, Pt.locs, Pt.cells, Pt.slots] at X471 l471 y471 z471 st471 hQ471
          subst l471 y471 z471
          obtain ⟨rfl, Nq471, K471, Gm471, Ge471, Gs471⟩ := hQ471
          have N471 := Fr.app N468 Nq471
          have Zs471 : n0 ≤ T471.heap.size := Nat.le_trans Zs469 K471.1
          have f472_0 : Old Z n0 T471.heap := f470_0.keep K471 (allS gf469 all0)
          have f472_1 : Arv Z T471.heap b420 k420 .char (2 : Int32) [(.int ((p2 &&& (255 : Int32)).toUInt32.toUInt16.toUInt32.toInt32).toUInt32.toUInt16.toUInt32.toInt32), (.int ((p3 &&& (255 : Int32)).toUInt32.toUInt16.toUInt32.toInt32).toUInt32.toUInt16.toUInt32.toInt32)] (.int (0 : Int32)) := f470_1.keep K471 (ninS ne469_b420 nin0)
          have f472_2 : Exa Z T471.heap b459 "java/lang/String" := f470_2.keep K471
          have f472_3 : Exa Z T471.heap b464 "com/example/lithe_checker/lithechecker/c/CType$StructType" := f470_3.keep K471
          have f472_4 : Fld Z T471.heap b464 "com/example/lithe_checker/lithechecker/c/CType$StructType" "members" "Ljava/util/List;" .null := f470_4.keep K471 (ninS ne469_b464 nin0)
          have f472_5 : Exa Z T471.heap b469 "java/util/ArrayList" := A469.keep K471
          obtain ⟨T473, h473, X473, e473, E473, A473, D473, -, st473⟩ := newO X471 hx hZ hown (own_g hw 101) (own_g hw 102) (own_g hw 103) rfl (g := (mkF m 119 #[Iv p1, Iv p2, Iv p3, Iv u, Iv tgd, Iv 2, Rv b420, Rv b459, Rv b464, Iv 1, Rv b469, Uv, Uv] [(.ref b469)])) rfl (hb hby at_119) (by decide) (by decide)
          obtain ⟨b473, g473⟩ : ∃ z, z = T471.heap.size := ⟨_, rfl⟩
          rw [← g473] at A473 D473 st473
          have ne473_b420 : b420 ≠ b473 := Nat.ne_of_lt (Nat.lt_of_lt_of_le f472_1.lt (Nat.le_of_eq g473.symm))
          have ne473_b459 : b459 ≠ b473 := Nat.ne_of_lt (Nat.lt_of_lt_of_le f472_2.lt (Nat.le_of_eq g473.symm))
          have ne473_b464 : b464 ≠ b473 := Nat.ne_of_lt (Nat.lt_of_lt_of_le f472_3.lt (Nat.le_of_eq g473.symm))
          have ne473_b469 : b469 ≠ b473 := Nat.ne_of_lt (Nat.lt_of_lt_of_le f472_5.lt (Nat.le_of_eq g473.symm))
          have gf473 : n0 ≤ b473 := Nat.le_trans Zs471 (Nat.le_of_eq g473.symm)
          have Zs473 : n0 ≤ h473.size := Nat.le_trans Zs471 E473.1
          have f474_0 : Old Z n0 h473 := f472_0.ext E473
          have f474_1 : Arv Z h473 b420 k420 .char (2 : Int32) [(.int ((p2 &&& (255 : Int32)).toUInt32.toUInt16.toUInt32.toInt32).toUInt32.toUInt16.toUInt32.toInt32), (.int ((p3 &&& (255 : Int32)).toUInt32.toUInt16.toUInt32.toInt32).toUInt32.toUInt16.toUInt32.toInt32)] (.int (0 : Int32)) := f472_1.ext E473
          have f474_2 : Exa Z h473 b459 "java/lang/String" := f472_2.ext E473
          have f474_3 : Exa Z h473 b464 "com/example/lithe_checker/lithechecker/c/CType$StructType" := f472_3.ext E473
          have f474_4 : Fld Z h473 b464 "com/example/lithe_checker/lithechecker/c/CType$StructType" "members" "Ljava/util/List;" .null := f472_4.ext E473
          have f474_5 : Exa Z h473 b469 "java/util/ArrayList" := f472_5.ext E473
          have f474_6 : Fld Z h473 b469 "java/util/AbstractList" "modCount" "I" (.int (0 : Int32)) := Gm471.ext E473
          have f474_7 : Fld Z h473 b469 "java/util/ArrayList" "elementData" "[Ljava/lang/Object;" (.ref da) := Ge471.ext E473
          have f474_8 : Fld Z h473 b469 "java/util/ArrayList" "size" "I" (.int (0 : Int32)) := Gs471.ext E473
          have F473_name : Fld Z h473 b473 "com/example/lithe_checker/lithechecker/c/CType$Member" "name" "Ljava/lang/String;" .null := D473 (Or.inr (own_g hw 135)) (ty := (.object "java/lang/String")) (by decide)
          have F473_type : Fld Z h473 b473 "com/example/lithe_checker/lithechecker/c/CType$Member" "type" "Lcom/example/lithe_checker/lithechecker/c/CType;" .null := D473 (Or.inr (own_g hw 137)) (ty := (.object "com/example/lithe_checker/lithechecker/c/CType")) (by decide)
          refine own_by (fun _ k => XS.dup X469.here hx rfl (hb hby at_105) rfl rfl (st471.trans (XS.astore X471.here hx rfl (hb hby at_109) rfl rfl (l' := #[Iv p1, Iv p2, Iv p3, Iv u, Iv tgd, Iv 2, Rv b420, Rv b459, Rv b464, Iv 1, Rv b469, Uv, Uv]) rfl (XS.iload X471.here hx rfl (hb hby at_111) rfl (XS.iconst X471.here hx rfl (hb hby at_113) (XS.icmpNo X471.here hx rfl (hb hby at_114) rfl (flt (by decide : ¬ ((2 : Int32) < (1 : Int32)))).1 (XS.aload X471.here hx rfl (hb hby at_117) rfl rfl (st473 _ (XS.dup X473.here hx rfl (hb hby at_122) rfl rfl (XS.iloadN X473.here hx rfl (hb hby at_123) rfl k)))))))))) ?_
          show own_Fin _ _ _ _ _ _ _ T473 (mkF m 124 #[Iv p1, Iv p2, Iv p3, Iv u, Iv tgd, Iv 2, Rv b420, Rv b459, Rv b464, Iv 1, Rv b469, Uv, Uv] [(.int p2), (.ref b473), (.ref b473), (.ref b469)])
          obtain ⟨_, _, ⟨T475, L475, k475, n475⟩, -, X475, ⟨Lc475, hQ475, l475, y475, z475⟩, st475⟩ := LawKit.callS X473 hx (y := mn41) hown (own_m hZ hw 104) (own_m hZ hw 105) (own_m hZ hw 106) (own_m hZ hw 107) (by decide) (backOf (W := 3) (rmVO l Z a0 hw [] cs da el ea em ci mm kd ke ((p2 &&& (255 : Int32)).toUInt32.toUInt16.toUInt32.toInt32) h473 n0 Zs473 V_env f474_0 (own_lat p2)) hZ (own_g hw 107) (own_g hw 106) (by decide) (by decide)) (g := (mkF m 129 #[Iv p1, Iv p2, Iv p3, Iv u, Iv tgd, Iv 2, Rv b420, Rv b459, Rv b464, Iv 1, Rv b469, Uv, Uv] [(.int ((p2 &&& (255 : Int32)).toUInt32.toUInt16.toUInt32.toInt32)), (.ref b473), (.ref b473), (.ref b469)])) rfl (by rw [hml]; rfl) (argsL := [(.int ((p2 &&& (255 : Int32)).toUInt32.toUInt16.toUInt32.toInt32))]) (rest := [(.ref b473), (.ref b473), (.ref b469)]) (lenOf own_pd450 rfl) rfl (own_z rfl) (hb hby at_129) (fun _ _ => ⟨rfl, e473, (by decide : 6 + 2 ≤ _), (by decide : 16 + 5 ≤ _)⟩)
          dsimp only [Pt.U, Pt.locs, Pt.cells, Pt.slots] at X475 l475 y475 z475 st475 hQ475
          subst l475 y475 z475
          obtain ⟨b475, rfl, Nq475, K475, ge475, Ev475⟩ := hQ475
          have N475 := Fr.app N471 Nq475
          have Zs475 : n0 ≤ T475.heap.size := Nat.le_trans Zs473 K475.1
          have f476_0 : Old Z n0 T475.heap := f474_0.keep K475 all0
          have f476_1 : Arv Z T475.heap b420 k420 .char (2 : Int32) [(.int ((p2 &&& (255 : Int32)).toUInt32.toUInt16.toUInt32.toInt32).toUInt32.toUInt16.toUInt32.toInt32), (.int ((p3 &&& (255 : Int32)).toUInt32.toUInt16.toUInt32.toInt32).toUInt32.toUInt16.toUInt32.toInt32)] (.int (0 : Int32)) := f474_1.keep K475 nin0
          have f476_2 : Exa Z T475.heap b459 "java/lang/String" := f474_2.keep K475
          have f476_3 : Exa Z T475.heap b464 "com/example/lithe_checker/lithechecker/c/CType$StructType" := f474_3.keep K475
          have f476_4 : Fld Z T475.heap b464 "com/example/lithe_checker/lithechecker/c/CType$StructType" "members" "Ljava/util/List;" .null := f474_4.keep K475 nin0
          have f476_5 : Exa Z T475.heap b469 "java/util/ArrayList" := f474_5.keep K475
          have f476_6 : Fld Z T475.heap b469 "java/util/AbstractList" "modCount" "I" (.int (0 : Int32)) := f474_6.keep K475 nin0
          have f476_7 : Fld Z T475.heap b469 "java/util/ArrayList" "elementData" "[Ljava/lang/Object;" (.ref da) := f474_7.keep K475 nin0
          have f476_8 : Fld Z T475.heap b469 "java/util/ArrayList" "size" "I" (.int (0 : Int32)) := f474_8.keep K475 nin0
          have f476_9 : Exa Z T475.heap b473 "com/example/lithe_checker/lithechecker/c/CType$Member" := A473.keep K475
          have f476_10 : Fld Z T475.heap b473 "com/example/lithe_checker/lithechecker/c/CType$Member" "name" "Ljava/lang/String;" .null := F473_name.keep K475 nin0
          have f476_11 : Fld Z T475.heap b473 "com/example/lithe_checker/lithechecker/c/CType$Member" "type" "Lcom/example/lithe_checker/lithechecker/c/CType;" .null := F473_type.keep K475 nin0
          obtain ⟨T477, X477, e477, st477⟩ := getS2 X475 hx hZ hown (host := "") (Or.inl (own_g hw 128)) Via.refl rfl (V_env.2.2.2.2.2.2.2.2.2.2.1.ext f476_0.2) (g := (mkF m 132 #[Iv p1, Iv p2, Iv p3, Iv u, Iv tgd, Iv 2, Rv b420, Rv b459, Rv b464, Iv 1, Rv b469, Uv, Uv] [(.ref b475), (.ref b473), (.ref b473), (.ref b469)])) rfl (hb hby at_132)
          obtain ⟨_, _, ⟨T478, L478, k478, n478⟩, -, X478, ⟨Lc478, hQ478, l478, y478, z478⟩, st478⟩ := X477.specialBack hx (y := mn42) rfl hown (own_m hZ hw 130) (own_m hZ hw 131) (own_m hZ hw 132) (by decide) (backOf (W := 2) (rmMI l Z a0 hw [] b473 b475 ci T475.heap n0 Zs475 f476_9 f476_10 f476_11 gf473) hZ (own_g hw 132) (own_g hw 103) (by decide) (by decide)) (g := (mkF m 135 #[Iv p1, Iv p2, Iv p3, Iv u, Iv tgd, Iv 2, Rv b420, Rv b459, Rv b464, Iv 1, Rv b469, Uv, Uv] [(.ref ci), (.ref b475), (.ref b473), (.ref b473), (.ref b469)])) rfl (by rw [hml]; rfl) (Steps.refl _) (a := b473) (argsL := [(.ref b475), (.ref ci)]) (rest := [(.ref b473), (.ref b469)]) (lenOf own_pd451 rfl) rfl (own_z rfl) (hb hby at_135) (fun _ _ => ⟨rfl, e477, (by decide : 8 + 0 ≤ _), (by decide : 21 + 0 ≤ _)⟩)
          dsimp only [Pt.U, Pt.locs, Pt.cells, Pt.slots] at X478 l478 y478 z478 st478 hQ478
          subst l478 y478 z478
          obtain ⟨rfl, Nq478, K478⟩ := hQ478
          have N478 := Fr.app N475 Nq478
          have Zs478 : n0 ≤ T478.heap.size := Nat.le_trans Zs475 K478.1
          have f479_0 : Old Z n0 T478.heap := f476_0.keep K478 (allS gf473 all0)
          have f479_1 : Arv Z T478.heap b420 k420 .char (2 : Int32) [(.int ((p2 &&& (255 : Int32)).toUInt32.toUInt16.toUInt32.toInt32).toUInt32.toUInt16.toUInt32.toInt32), (.int ((p3 &&& (255 : Int32)).toUInt32.toUInt16.toUInt32.toInt32).toUInt32.toUInt16.toUInt32.toInt32)] (.int (0 : Int32)) := f476_1.keep K478 (ninS ne473_b420 nin0)
          have f479_2 : Exa Z T478.heap b459 "java/lang/String" := f476_2.keep K478
          have f479_3 : Exa Z T478.heap b464 "com/example/lithe_checker/lithechecker/c/CType$StructType" := f476_3.keep K478
          have f479_4 : Fld Z T478.heap b464 "com/example/lithe_checker/lithechecker/c/CType$StructType" "members" "Ljava/util/List;" .null := f476_4.keep K478 (ninS ne473_b464 nin0)
          have f479_5 : Exa Z T478.heap b469 "java/util/ArrayList" := f476_5.keep K478
          have f479_6 : Fld Z T478.heap b469 "java/util/AbstractList" "modCount" "I" (.int (0 : Int32)) := f476_6.keep K478 (ninS ne473_b469 nin0)
          have f479_7 : Fld Z T478.heap b469 "java/util/ArrayList" "elementData" "[Ljava/lang/Object;" (.ref da) := f476_7.keep K478 (ninS ne473_b469 nin0)
          have f479_8 : Fld Z T478.heap b469 "java/util/ArrayList" "size" "I" (.int (0 : Int32)) := f476_8.keep K478 (ninS ne473_b469 nin0)
          have f479_9 : Exa Z T478.heap b473 "com/example/lithe_checker/lithechecker/c/CType$Member" := f476_9.keep K478
          have f479_12 : Exa Z T478.heap b475 "java/lang/String" := Ev475.keep K478
          obtain ⟨cq480, kq480, q480a, q480b, q480c⟩ := isOf hZ rfl f479_5
          obtain ⟨_, _, ⟨T480, L480, k480, n480⟩, -, X480, ⟨Lc480, hQ480, l480, y480, z480⟩, st480⟩ := X478.virtualBack hx (y := mn11) (z := mn11) hown (own_m hZ hw 138) (own_m hZ hw 139) (notFace_of_selects (args := #[]) (own_m hZ hw 141)) (own_m hZ hw 141) (own_m hZ hw 140) (by decide) (backOf (W := 0) (rmA0 l Z a0 hw [] cs da el ea em ci mm kd ke b469 b473 (0 : Int32) T478.heap n0 Zs478 V_env f479_0 f479_5 f479_6 f479_7 f479_8 gf469 f479_9) hZ (own_g hw 142) (own_g hw 28) (by decide) (by decide)) q480a q480c (g := (mkF m 138 #[Iv p1, Iv p2, Iv p3, Iv u, Iv tgd, Iv 2, Rv b420, Rv b459, Rv b464, Iv 1, Rv b469, Uv, Uv] [(.ref b473), (.ref b469)])) rfl (by rw [hml]; rfl) (Steps.refl _) (argsL := [(.ref b473)]) (rest := []) (lenOf own_pd452 rfl) rfl (own_z rfl) (hb hby at_138) (fun _ _ => ⟨rfl, rfl, (by decide : 8 + 1 ≤ _), (by decide : 21 + 10 ≤ _)⟩)
          dsimp only [Pt.U, Pt.locs, Pt.cells, Pt.slots] at X480 l480 y480 z480 st480 hQ480
          subst l480 y480 z480
          obtain ⟨b480, k480, rfl, Nq480, K480, ge480, Gm480, Ge480, Gs480, V480, Eb480, Ov480⟩ := hQ480
          have N480 := Fr.app N478 Nq480
          have Zs480 : n0 ≤ T480.heap.size := Nat.le_trans Zs478 K480.1
          have f481_0 : Old Z n0 T480.heap := f479_0.keep K480 (allS gf469 all0)
          have f481_1 : Arv Z T480.heap b420 k420 .char (2 : Int32) [(.int ((p2 &&& (255 : Int32)).toUInt32.toUInt16.toUInt32.toInt32).toUInt32.toUInt16.toUInt32.toInt32), (.int ((p3 &&& (255 : Int32)).toUInt32.toUInt16.toUInt32.toInt32).toUInt32.toUInt16.toUInt32.toInt32)] (.int (0 : Int32)) := f479_1.keep K480 (ninS ne469_b420 nin0)
          have f481_2 : Exa Z T480.heap b459 "java/lang/String" := f479_2.keep K480
          have f481_3 : Exa Z T480.heap b464 "com/example/lithe_checker/lithechecker/c/CType$StructType" := f479_3.keep K480
          have f481_4 : Fld Z T480.heap b464 "com/example/lithe_checker/lithechecker/c/CType$StructType" "members" "Ljava/util/List;" .null := f479_4.keep K480 (ninS ne469_b464 nin0)
          have f481_5 : Exa Z T480.heap b469 "java/util/ArrayList" := f479_5.keep K480
          have f481_9 : Exa Z T480.heap b473 "com/example/lithe_checker/lithechecker/c/CType$Member" := f479_9.keep K480
          have f481_10 : Exa Z T480.heap b475 "java/lang/String" := f479_12.keep K480
          have ne480_b420 : b420 ≠ b480 := Nat.ne_of_lt (Nat.lt_of_lt_of_le f479_1.lt ge480)
          have ne480_b459 : b459 ≠ b480 := Nat.ne_of_lt (Nat.lt_of_lt_of_le f479_2.lt ge480)
          have ne480_b464 : b464 ≠ b480 := Nat.ne_of_lt (Nat.lt_of_lt_of_le f479_3.lt ge480)
          have ne480_b469 : b469 ≠ b480 := Nat.ne_of_lt (Nat.lt_of_lt_of_le f479_5.lt ge480)
          have ne480_b473 : b473 ≠ b480 := Nat.ne_of_lt (Nat.lt_of_lt_of_le f479_9.lt ge480)
          have ne480_b475 : b475 ≠ b480 := Nat.ne_of_lt (Nat.lt_of_lt_of_le f479_12.lt ge480)
          have gf480 : n0 ≤ b480 := Nat.le_trans Zs478 ge480
          refine own_by (fun _ k => XS.sipush X473.here hx rfl (hb hby at_124) (XS.iand X473.here hx rfl (hb hby at_127) rfl (XS.i2c X473.here hx rfl (hb hby at_128) rfl (st475 _ (st477 _ (st478.trans (st480.trans (XS.pop X480.here hx rfl (hb hby at_141) rfl rfl (XS.iload X480.here hx rfl (hb hby at_142) rfl (XS.iconst X480.here hx rfl (hb hby at_144) k)))))))))) ?_
          show own_Fin _ _ _ _ _ _ _ T480 (mkF m 145 #[Iv p1, Iv p2, Iv p3, Iv u, Iv tgd, Iv 2, Rv b420, Rv b459, Rv b464, Iv 1, Rv b469, Uv, Uv] [(.int 2), (.int 2)])
          obtain ⟨T482, h482, X482, e482, E482, A482, D482, -, st482⟩ := newO X480 hx hZ hown (own_g hw 101) (own_g hw 102) (own_g hw 103) rfl (g := (mkF m 150 #[Iv p1, Iv p2, Iv p3, Iv u, Iv tgd, Iv 2, Rv b420, Rv b459, Rv b464, Iv 1, Rv b469, Uv, Uv] [(.ref b469)])) rfl (hb hby at_150) (by decide) (by decide)
          obtain ⟨b482, g482⟩ : ∃ z, z = T480.heap.size := ⟨_, rfl⟩
          rw [← g482] at A482 D482 st482
          have ne482_b420 : b420 ≠ b482 := Nat.ne_of_lt (Nat.lt_of_lt_of_le f481_1.lt (Nat.le_of_eq g482.symm))
          have ne482_b459 : b459 ≠ b482 := Nat.ne_of_lt (Nat.lt_of_lt_of_le f481_2.lt (Nat.le_of_eq g482.symm))
          have ne482_b464 : b464 ≠ b482 := Nat.ne_of_lt (Nat.lt_of_lt_of_le f481_3.lt (Nat.le_of_eq g482.symm))
          have ne482_b469 : b469 ≠ b482 := Nat.ne_of_lt (Nat.lt_of_lt_of_le f481_5.lt (Nat.le_of_eq g482.symm))
          have ne482_b473 : b473 ≠ b482 := Nat.ne_of_lt (Nat.lt_of_lt_of_le f481_9.lt (Nat.le_of_eq g482.symm))
          have ne482_b475 : b475 ≠ b482 := Nat.ne_of_lt (Nat.lt_of_lt_of_le f481_10.lt (Nat.le_of_eq g482.symm))
          have ne482_b480 : b480 ≠ b482 := Nat.ne_of_lt (Nat.lt_of_lt_of_le V480.lt (Nat.le_of_eq g482.symm))
          have gf482 : n0 ≤ b482 := Nat.le_trans Zs480 (Nat.le_of_eq g482.symm)
          have Zs482 : n0 ≤ h482.size := Nat.le_trans Zs480 E482.1
          have f483_0 : Old Z n0 h482 := f481_0.ext E482
          have f483_1 : Arv Z h482 b420 k420 .char (2 : Int32) [(.int ((p2 &&& (255 : Int32)).toUInt32.toUInt16.toUInt32.toInt32).toUInt32.toUInt16.toUInt32.toInt32), (.int ((p3 &&& (255 : Int32)).toUInt32.toUInt16.toUInt32.toInt32).toUInt32.toUInt16.toUInt32.toInt32)] (.int (0 : Int32)) := f481_1.ext E482
          have f483_2 : Exa Z h482 b459 "java/lang/String" := f481_2.ext E482
          have f483_3 : Exa Z h482 b464 "com/example/lithe_checker/lithechecker/c/CType$StructType" := f481_3.ext E482
          have f483_4 : Fld Z h482 b464 "com/example/lithe_checker/lithechecker/c/CType$StructType" "members" "Ljava/util/List;" .null := f481_4.ext E482
          have f483_5 : Exa Z h482 b469 "java/util/ArrayList" := f481_5.ext E482
          have f483_6 : Exa Z h482 b473 "com/example/lithe_checker/lithechecker/c/CType$Member" := f481_9.ext E482
          have f483_7 : Exa Z h482 b475 "java/lang/String" := f481_10.ext E482
          have f483_8 : Fld Z h482 b469 "java/util/AbstractList" "modCount" "I" (.int ((0 : Int32) + (1 : Int32))) := Gm480.ext E482
          have f483_9 : Fld Z h482 b469 "java/util/ArrayList" "elementData" "[Ljava/lang/Object;" (.ref b480) := Ge480.ext E482
          have f483_10 : Fld Z h482 b469 "java/util/ArrayList" "size" "I" (.int (1 : Int32)) := Gs480.ext E482
          have f483_11 : Arv Z h482 b480 k480 (.object "java/lang/Object") (10 : Int32) [(.ref b473), .null, .null, .null, .null, .null, .null, .null, .null, .null] .null := V480.ext E482
          have f483_12 : Exa Z h482 b480 "[Ljava/lang/Object;" := Eb480.ext E482
          have F482_name : Fld Z h482 b482 "com/example/lithe_checker/lithechecker/c/CType$Member" "name" "Ljava/lang/String;" .null := D482 (Or.inr (own_g hw 135)) (ty := (.object "java/lang/String")) (by decide)
          have F482_type : Fld Z h482 b482 "com/example/lithe_checker/lithechecker/c/CType$Member" "type" "Lcom/example/lithe_checker/lithechecker/c/CType;" .null := D482 (Or.inr (own_g hw 137)) (ty := (.object "com/example/lithe_checker/lithechecker/c/CType")) (by decide)
          obtain ⟨_, _, ⟨T484, L484, k484, n484⟩, -, X484, ⟨Lc484, hQ484, l484, y484, z484⟩, st484⟩ := LawKit.callS X482 hx (y := mn41) hown (own_m hZ hw 104) (own_m hZ hw 105) (own_m hZ hw 106) (own_m hZ hw 107) (by decide) (backOf (W := 3) (rmVO l Z a0 hw [] cs da el ea em ci mm kd ke ((p3 &&& (255 : Int32)).toUInt32.toUInt16.toUInt32.toInt32) h482 n0 Zs482 V_env f483_0 (own_lat p3)) hZ (own_g hw 107) (own_g hw 106) (by decide) (by decide)) (g := (mkF m 160 #[Iv p1, Iv p2, Iv p3, Iv u, Iv tgd, Iv 2, Rv b420, Rv b459, Rv b464, Iv 1, Rv b469, Uv, Uv] [(.int ((p3 &&& (255 : Int32)).toUInt32.toUInt16.toUInt32.toInt32)), (.ref b482), (.ref b482), (.ref b469)])) rfl (by rw [hml]; rfl) (argsL := [(.int ((p3 &&& (255 : Int32)).toUInt32.toUInt16.toUInt32.toInt32))]) (rest := [(.ref b482), (.ref b482), (.ref b469)]) (lenOf own_pd450 rfl) rfl (own_z rfl) (hb hby at_160) (fun _ _ => ⟨rfl, e482, (by decide : 10 + 2 ≤ _), (by decide : 33 + 5 ≤ _)⟩)
          dsimp only [Pt.U, Pt.locs, Pt.cells, Pt.slots] at X484 l484 y484 z484 st484 hQ484
          subst l484 y484 z484
          obtain ⟨b484, rfl, Nq484, K484, ge484, Ev484⟩ := hQ484
          have N484 := Fr.app N480 Nq484
          have Zs484 : n0 ≤ T484.heap.size := Nat.le_trans Zs482 K484.1
          have f485_0 : Old Z n0 T484.heap := f483_0.keep K484 all0
          have f485_1 : Arv Z T484.heap b420 k420 .char (2 : Int32) [(.int ((p2 &&& (255 : Int32)).toUInt32.toUInt16.toUInt32.toInt32).toUInt32.toUInt16.toUInt32.toInt32), (.int ((p3 &&& (255 : Int32)).toUInt32.toUInt16.toUInt32.toInt32).toUInt32.toUInt16.toUInt32.toInt32)] (.int (0 : Int32)) := f483_1.keep K484 nin0
          have f485_2 : Exa Z T484.heap b459 "java/lang/String" := f483_2.keep K484
          have f485_3 : Exa Z T484.heap b464 "com/example/lithe_checker/lithechecker/c/CType$StructType" := f483_3.keep K484
          have f485_4 : Fld Z T484.heap b464 "com/example/lithe_checker/lithechecker/c/CType$StructType" "members" "Ljava/util/List;" .null := f483_4.keep K484 nin0
          have f485_5 : Exa Z T484.heap b469 "java/util/ArrayList" := f483_5.keep K484
          have f485_6 : Exa Z T484.heap b473 "com/example/lithe_checker/lithechecker/c/CType$Member" := f483_6.keep K484
          have f485_7 : Exa Z T484.heap b475 "java/lang/String" := f483_7.keep K484
          have f485_8 : Fld Z T484.heap b469 "java/util/AbstractList" "modCount" "I" (.int ((0 : Int32) + (1 : Int32))) := f483_8.keep K484 nin0
          have f485_9 : Fld Z T484.heap b469 "java/util/ArrayList" "elementData" "[Ljava/lang/Object;" (.ref b480) := f483_9.keep K484 nin0
          have f485_10 : Fld Z T484.heap b469 "java/util/ArrayList" "size" "I" (.int (1 : Int32)) := f483_10.keep K484 nin0
          have f485_11 : Arv Z T484.heap b480 k480 (.object "java/lang/Object") (10 : Int32) [(.ref b473), .null, .null, .null, .null, .null, .null, .null, .null, .null] .null := f483_11.keep K484 nin0
          have f485_12 : Exa Z T484.heap b480 "[Ljava/lang/Object;" := f483_12.keep K484
          have f485_13 : Exa Z T484.heap b482 "com/example/lithe_checker/lithechecker/c/CType$Member" := A482.keep K484
          have f485_14 : Fld Z T484.heap b482 "com/example/lithe_checker/lithechecker/c/CType$Member" "name" "Ljava/lang/String;" .null := F482_name.keep K484 nin0
          have f485_15 : Fld Z T484.heap b482 "com/example/lithe_checker/lithechecker/c/CType$Member" "type" "Lcom/example/lithe_checker/lithechecker/c/CType;" .null := F482_type.keep K484 nin0
          obtain ⟨T486, X486, e486, st486⟩ := getS2 X484 hx hZ hown (host := "") (Or.inl (own_g hw 128)) Via.refl rfl (V_env.2.2.2.2.2.2.2.2.2.2.1.ext f485_0.2) (g := (mkF m 163 #[Iv p1, Iv p2, Iv p3, Iv u, Iv tgd, Iv 2, Rv b420, Rv b459, Rv b464, Iv 1, Rv b469, Uv, Uv] [(.ref b484), (.ref b482), (.ref b482), (.ref b469)])) rfl (hb hby at_163)
          obtain ⟨_, _, ⟨T487, L487, k487, n487⟩, -, X487, ⟨Lc487, hQ487, l487, y487, z487⟩, st487⟩ := X486.specialBack hx (y := mn42) rfl hown (own_m hZ hw 130) (own_m hZ hw 131) (own_m hZ hw 132) (by decide) (backOf (W := 2) (rmMI l Z a0 hw [] b482 b484 ci T484.heap n0 Zs484 f485_13 f485_14 f485_15 gf482) hZ (own_g hw 132) (own_g hw 103) (by decide) (by decide)) (g := (mkF m 166 #[Iv p1, Iv p2, Iv p3, Iv u, Iv tgd, Iv 2, Rv b420, Rv b459, Rv b464, Iv 1, Rv b469, Uv, Uv] [(.ref ci), (.ref b484), (.ref b482), (.ref b482), (.ref b469)])) rfl (by rw [hml]; rfl) (Steps.refl _) (a := b482) (argsL := [(.ref b484), (.ref ci)]) (rest := [(.ref b482), (.ref b469)]) (lenOf own_pd451 rfl) rfl (own_z rfl) (hb hby at_166) (fun _ _ => ⟨rfl, e486, (by decide : 12 + 0 ≤ _), (by decide : 38 + 0 ≤ _)⟩)
          dsimp only [Pt.U, Pt.locs, Pt.cells, Pt.slots] at X487 l487 y487 z487 st487 hQ487
          subst l487 y487 z487
          obtain ⟨rfl, Nq487, K487⟩ := hQ487
          have N487 := Fr.app N484 Nq487
          refine own_by (fun _ k => XS.icmpNo X480.here hx rfl (hb hby at_145) rfl (flt (by decide : ¬ ((2 : Int32) < (2 : Int32)))).1 (XS.aload X480.here hx rfl (hb hby at_148) rfl rfl (st482 _ (XS.dup X482.here hx rfl (hb hby at_153) rfl rfl (XS.iloadN X482.here hx rfl (hb hby at_154) rfl (XS.sipush X482.here hx rfl (hb hby at_155) (XS.iand X482.here hx rfl (hb hby at_158) rfl (XS.i2c X482.here hx rfl (hb hby at_159) rfl (st484 _ (st486 _ k)))))))))) ?_
          show own_Fin _ _ _ _ _ _ _ T486 (mkF m 166 #[Iv p1, Iv p2, Iv p3, Iv u, Iv tgd, Iv 2, Rv b420, Rv b459, Rv b464, Iv 1, Rv b469, Uv, Uv] [(.ref ci), (.ref b484), (.ref b482), (.ref b482), (.ref b469)])
          have Zs487 : n0 ≤ T487.heap.size := Nat.le_trans Zs484 K487.1
          have f488_0 : Old Z n0 T487.heap := f485_0.keep K487 (allS gf482 all0)
          have f488_1 : Arv Z T487.heap b420 k420 .char (2 : Int32) [(.int ((p2 &&& (255 : Int32)).toUInt32.toUInt16.toUInt32.toInt32).toUInt32.toUInt16.toUInt32.toInt32), (.int ((p3 &&& (255 : Int32)).toUInt32.toUInt16.toUInt32.toInt32).toUInt32.toUInt16.toUInt32.toInt32)] (.int (0 : Int32)) := f485_1.keep K487 (ninS ne482_b420 nin0)
          have f488_2 : Exa Z T487.heap b459 "java/lang/String" := f485_2.keep K487
          have f488_3 : Exa Z T487.heap b464 "com/example/lithe_checker/lithechecker/c/CType$StructType" := f485_3.keep K487
          have f488_4 : Fld Z T487.heap b464 "com/example/lithe_checker/lithechecker/c/CType$StructType" "members" "Ljava/util/List;" .null := f485_4.keep K487 (ninS ne482_b464 nin0)
          have f488_5 : Exa Z T487.heap b469 "java/util/ArrayList" := f485_5.keep K487
          have f488_6 : Exa Z T487.heap b473 "com/example/lithe_checker/lithechecker/c/CType$Member" := f485_6.keep K487
          have f488_7 : Exa Z T487.heap b475 "java/lang/String" := f485_7.keep K487
          have f488_8 : Fld Z T487.heap b469 "java/util/AbstractList" "modCount" "I" (.int ((0 : Int32) + (1 : Int32))) := f485_8.keep K487 (ninS ne482_b469 nin0)
          have f488_9 : Fld Z T487.heap b469 "java/util/ArrayList" "elementData" "[Ljava/lang/Object;" (.ref b480) := f485_9.keep K487 (ninS ne482_b469 nin0)
          have f488_10 : Fld Z T487.heap b469 "java/util/ArrayList" "size" "I" (.int (1 : Int32)) := f485_10.keep K487 (ninS ne482_b469 nin0)
          have f488_11 : Arv Z T487.heap b480 k480 (.object "java/lang/Object") (10 : Int32) [(.ref b473), .null, .null, .null, .null, .null, .null, .null, .null, .null] .null := f485_11.keep K487 (ninS ne482_b480 nin0)
          have f488_12 : Exa Z T487.heap b480 "[Ljava/lang/Object;" := f485_12.keep K487
          have f488_13 : Exa Z T487.heap b482 "com/example/lithe_checker/lithechecker/c/CType$Member" := f485_13.keep K487
          have f488_16 : Exa Z T487.heap b484 "java/lang/String" := Ev484.keep K487
          obtain ⟨cq489, kq489, q489a, q489b, q489c⟩ := isOf hZ rfl f488_5
          obtain ⟨_, _, ⟨T489, L489, k489, n489⟩, -, X489, ⟨Lc489, hQ489, l489, y489, z489⟩, st489⟩ := X487.virtualBack hx (y := mn11) (z := mn11) hown (own_m hZ hw 138) (own_m hZ hw 139) (notFace_of_selects (args := #[]) (own_m hZ hw 141)) (own_m hZ hw 141) (own_m hZ hw 140) (by decide) (backOf (W := 0) (rmA1 l Z a0 hw [] cs da el ea em ci mm kd ke b469 b480 k480 b473 b482 ((0 : Int32) + (1 : Int32)) T487.heap n0 Zs487 V_env f488_0 f488_5 f488_8 f488_9 f488_10 gf469 f488_11 f488_12 Ov480 gf480 ne480_b469 f488_13) hZ (own_g hw 142) (own_g hw 28) (by decide) (by decide)) q489a q489c (g := (mkF m 169 #[Iv p1, Iv p2, Iv p3, Iv u, Iv tgd, Iv 2, Rv b420, Rv b459, Rv b464, Iv 1, Rv b469, Uv, Uv] [(.ref b482), (.ref b469)])) rfl (by rw [hml]; rfl) (Steps.refl _) (argsL := [(.ref b482)]) (rest := []) (lenOf own_pd452 rfl) rfl (own_z rfl) (hb hby at_169) (fun _ _ => ⟨rfl, rfl, (by decide : 12 + 0 ≤ _), (by decide : 38 + 0 ≤ _)⟩)
          dsimp only [Pt.U, Pt.locs, Pt.cells, Pt.slots] at X489 l489 y489 z489 st489 hQ489
          subst l489 y489 z489
          obtain ⟨rfl, Nq489, K489, Gm489, Ge489, Gs489, V489, Eb489⟩ := hQ489
          have N489 := Fr.app N487 Nq489
          have Zs489 : n0 ≤ T489.heap.size := Nat.le_trans Zs487 K489.1
          have f490_0 : Old Z n0 T489.heap := f488_0.keep K489 (allS gf469 (allS gf480 all0))
          have f490_1 : Arv Z T489.heap b420 k420 .char (2 : Int32) [(.int ((p2 &&& (255 : Int32)).toUInt32.toUInt16.toUInt32.toInt32).toUInt32.toUInt16.toUInt32.toInt32), (.int ((p3 &&& (255 : Int32)).toUInt32.toUInt16.toUInt32.toInt32).toUInt32.toUInt16.toUInt32.toInt32)] (.int (0 : Int32)) := f488_1.keep K489 (ninS ne469_b420 (ninS ne480_b420 nin0))
          have f490_2 : Exa Z T489.heap b459 "java/lang/String" := f488_2.keep K489
          have f490_3 : Exa Z T489.heap b464 "com/example/lithe_checker/lithechecker/c/CType$StructType" := f488_3.keep K489
          have f490_4 : Fld Z T489.heap b464 "com/example/lithe_checker/lithechecker/c/CType$StructType" "members" "Ljava/util/List;" .null := f488_4.keep K489 (ninS ne469_b464 (ninS ne480_b464 nin0))
          have f490_5 : Exa Z T489.heap b469 "java/util/ArrayList" := f488_5.keep K489
          have f490_6 : Exa Z T489.heap b473 "com/example/lithe_checker/lithechecker/c/CType$Member" := f488_6.keep K489
          have f490_7 : Exa Z T489.heap b475 "java/lang/String" := f488_7.keep K489
          have f490_12 : Exa Z T489.heap b480 "[Ljava/lang/Object;" := f488_12.keep K489
          have f490_13 : Exa Z T489.heap b482 "com/example/lithe_checker/lithechecker/c/CType$Member" := f488_13.keep K489
          have f490_14 : Exa Z T489.heap b484 "java/lang/String" := f488_16.keep K489
          obtain ⟨cq491, kq491, q491a, q491b, q491c⟩ := isOf hZ rfl f490_3
          obtain ⟨_, _, ⟨T491, L491, k491, n491⟩, -, X491, ⟨Lc491, hQ491, l491, y491, z491⟩, st491⟩ := X489.virtualBack hx (y := mn32) (z := mn32) hown (own_m hZ hw 50) (own_m hZ hw 51) (notFace_of_selects (args := #[]) (own_m hZ hw 53)) (own_m hZ hw 53) (own_m hZ hw 52) (by decide) (backOf (W := 0) (rmCo2 l Z a0 hw [] cs da el ea em ci mm kd ke b464 b469 b480 k480 b473 b482 T489.heap n0 Zs489 V_env f490_0 f490_3 f490_4 gf464 f490_5 Ge489 Gs489 V489 Eb489 f490_6 f490_13 ne469_b464) hZ (own_g hw 54) (own_g hw 3) (by decide) (by decide)) q491a q491c (g := (mkF m 208 #[Iv p1, Iv p2, Iv p3, Iv u, Iv tgd, Iv 2, Rv b420, Rv b459, Rv b464, Iv 1, Rv b469, Uv, Uv] [(.ref b469), (.ref b464)])) rfl (by rw [hml]; rfl) (Steps.refl _) (argsL := [(.ref b469)]) (rest := []) (lenOf own_pd447 rfl) rfl (own_z rfl) (hb hby at_208) (fun _ _ => ⟨rfl, rfl, (by decide : 12 + 2 ≤ _), (by decide : 38 + 4 ≤ _)⟩)
          dsimp only [Pt.U, Pt.locs, Pt.cells, Pt.slots] at X491 l491 y491 z491 st491 hQ491
          subst l491 y491 z491
          obtain ⟨q491, rfl, Nq491, K491, Gm491, Eq491, Gq491⟩ := hQ491
          have N491 := Fr.app N489 Nq491
          have Zs491 : n0 ≤ T491.heap.size := Nat.le_trans Zs489 K491.1
          have f492_0 : Old Z n0 T491.heap := f490_0.keep K491 (allS gf464 all0)
          have f492_1 : Arv Z T491.heap b420 k420 .char (2 : Int32) [(.int ((p2 &&& (255 : Int32)).toUInt32.toUInt16.toUInt32.toInt32).toUInt32.toUInt16.toUInt32.toInt32), (.int ((p3 &&& (255 : Int32)).toUInt32.toUInt16.toUInt32.toInt32).toUInt32.toUInt16.toUInt32.toInt32)] (.int (0 : Int32)) := f490_1.keep K491 (ninS ne464_b420 nin0)
          have f492_2 : Exa Z T491.heap b459 "java/lang/String" := f490_2.keep K491
          have f492_3 : Exa Z T491.heap b464 "com/example/lithe_checker/lithechecker/c/CType$StructType" := f490_3.keep K491
          have f492_5 : Exa Z T491.heap b469 "java/util/ArrayList" := f490_5.keep K491
          have f492_6 : Exa Z T491.heap b473 "com/example/lithe_checker/lithechecker/c/CType$Member" := f490_6.keep K491
          have f492_7 : Exa Z T491.heap b475 "java/lang/String" := f490_7.keep K491
          have f492_8 : Exa Z T491.heap b480 "[Ljava/lang/Object;" := Eb489.keep K491
          have f492_9 : Exa Z T491.heap b482 "com/example/lithe_checker/lithechecker/c/CType$Member" := f490_13.keep K491
          have f492_10 : Exa Z T491.heap b484 "java/lang/String" := f490_14.keep K491
          have f492_11 : Fld Z T491.heap b469 "java/util/AbstractList" "modCount" "I" (.int (((0 : Int32) + (1 : Int32)) + (1 : Int32))) := Gm489.keep K491 (ninS (Ne.symm ne469_b464) nin0)
          have f492_12 : Fld Z T491.heap b469 "java/util/ArrayList" "elementData" "[Ljava/lang/Object;" (.ref b480) := Ge489.keep K491 (ninS (Ne.symm ne469_b464) nin0)
          have f492_13 : Fld Z T491.heap b469 "java/util/ArrayList" "size" "I" (.int (2 : Int32)) := Gs489.keep K491 (ninS (Ne.symm ne469_b464) nin0)
          have f492_14 : Arv Z T491.heap b480 k480 (.object "java/lang/Object") (10 : Int32) [(.ref b473), (.ref b482), .null, .null, .null, .null, .null, .null, .null, .null] .null := V489.keep K491 (ninS (Ne.symm ne480_b464) nin0)
          obtain ⟨cq493, kq493, q493a, q493b, q493c⟩ := isOf hZ rfl f492_3
          obtain ⟨_, _, ⟨T493, L493, k493, n493⟩, -, X493, ⟨Lc493, hQ493, l493, y493, z493⟩, st493⟩ := X491.virtualBack hx (y := mn30) (z := mn30) hown (own_m hZ hw 19) (own_m hZ hw 20) (notFace_of_selects (args := #[]) (own_m hZ hw 22)) (own_m hZ hw 22) (own_m hZ hw 21) (by decide) (backOf (W := 0) (rmIc1 l Z a0 hw [] b464 q491 T491.heap n0 Zs491 Gm491) hZ (own_g hw 23) (own_g hw 3) (by decide) (by decide)) q493a q493c (g := (mkF m 213 #[Iv p1, Iv p2, Iv p3, Iv u, Iv tgd, Iv 2, Rv b420, Rv b459, Rv b464, Iv 1, Rv b469, Uv, Uv] [(.ref b464)])) rfl (by rw [hml]; rfl) (Steps.refl _) (argsL := []) (rest := []) (lenOf own_pd251 rfl) rfl (own_z rfl) (hb hby at_213) (fun _ _ => ⟨rfl, rfl, (by decide : 14 + 0 ≤ _), (by decide : 42 + 0 ≤ _)⟩)
          dsimp only [Pt.U, Pt.locs, Pt.cells, Pt.slots] at X493 l493 y493 z493 st493 hQ493
          subst l493 y493 z493
          obtain ⟨rfl, Nq493, eh493⟩ := hQ493
          have N493 := Fr.app N491 Nq493
          refine own_by (fun _ k => st487.trans (st489.trans (XS.pop X489.here hx rfl (hb hby at_172) rfl rfl (XS.iload X489.here hx rfl (hb hby at_173) rfl (XS.iconst X489.here hx rfl (hb hby at_175) (XS.icmpYes X489.here hx rfl (pc0 := 176) (pc' := 204) rfl (hb hby at_176) rfl (tlt (by decide : (2 : Int32) < (3 : Int32))).1 (by decide) (by decide) (XS.aload X489.here hx rfl (hb hby at_204) rfl rfl (XS.aload X489.here hx rfl (hb hby at_206) rfl rfl (st491.trans (XS.aload X491.here hx rfl (hb hby at_211) rfl rfl k)))))))))) ?_
          show own_Fin _ _ _ _ _ _ _ T491 (mkF m 213 #[Iv p1, Iv p2, Iv p3, Iv u, Iv tgd, Iv 2, Rv b420, Rv b459, Rv b464, Iv 1, Rv b469, Uv, Uv] [(.ref b464)])
          obtain ⟨cq494, kq494, q494a, q494b, q494c⟩ := isOf hZ eh493 f492_3
          obtain ⟨_, _, ⟨T494, L494, k494, n494⟩, -, X494, ⟨Lc494, hQ494, l494, y494, z494⟩, st494⟩ := X493.virtualBack hx (y := mn31) (z := mn31) hown (own_m hZ hw 84) (own_m hZ hw 85) (notFace_of_selects (args := #[]) (own_m hZ hw 87)) (own_m hZ hw 87) (own_m hZ hw 86) (by decide) (backOf (W := 0) (rmMb l Z a0 hw [] b464 q491 T491.heap n0 Zs491 Gm491) hZ (own_g hw 88) (own_g hw 3) (by decide) (by decide)) q494a q494c (g := (mkF m 220 #[Iv p1, Iv p2, Iv p3, Iv u, Iv tgd, Iv 2, Rv b420, Rv b459, Rv b464, Iv 1, Rv b469, Iv 1, Uv] [(.ref b464)])) rfl (by rw [hml]; rfl) (Steps.refl _) (argsL := []) (rest := []) (lenOf own_pd280 rfl) rfl (own_z rfl) (hb hby at_220) (fun _ _ => ⟨rfl, eh493, (by decide : 14 + 0 ≤ _), (by decide : 42 + 0 ≤ _)⟩)
          dsimp only [Pt.U, Pt.locs, Pt.cells, Pt.slots] at X494 l494 y494 z494 st494 hQ494
          subst l494 y494 z494
          obtain ⟨rfl, Nq494, eh494⟩ := hQ494
          have N494 := Fr.app N493 Nq494
          obtain ⟨cq495, kq495, q495a, q495b, q495c⟩ := isOf hZ eh494 Eq491
          obtain ⟨_, _, ⟨T495, L495, k495, n495⟩, -, X495, ⟨Lc495, hQ495, l495, y495, z495⟩, st495⟩ := X494.interfaceBack hx (xi := mn43) (y := mn21) hown (own_m hZ hw 89) (own_m hZ hw 90) (own_m hZ hw 91) (own_m hZ hw 230) (own_m hZ hw 231) (own_m hZ hw 232) (own_m hZ hw 233) (own_m hZ hw 234) (by decide) (backOf (W := 0) (rmZ2 l Z a0 hw [] cs da el ea em ci mm kd ke q491 b482 T491.heap n0 Zs491 V_env f492_0 Gq491 (Ne.symm (Old.ne f492_0 V_env.2.2.2.2.2.2.2.2.2.1.lt gf482))) hZ (own_g hw 235) (own_g hw 202) (by decide) (by decide)) q495a q495b q495c (g := (mkF m 223 #[Iv p1, Iv p2, Iv p3, Iv u, Iv tgd, Iv 2, Rv b420, Rv b459, Rv b464, Iv 1, Rv b469, Iv 1, Uv] [(.ref q491)])) rfl (by rw [hml]; rfl) (Steps.refl _) (argsL := []) (rest := []) (lenOf own_pd448 rfl) rfl (own_z rfl) (hb hby at_223) (fun _ _ => ⟨rfl, eh494, (by decide : 14 + 0 ≤ _), (by decide : 42 + 0 ≤ _)⟩)
          dsimp only [Pt.U, Pt.locs, Pt.cells, Pt.slots] at X495 l495 y495 z495 st495 hQ495
          subst l495 y495 z495
          obtain ⟨rfl, Nq495, eh495⟩ := hQ495
          have N495 := Fr.app N494 Nq495
          refine own_by (fun _ k => st493.trans (XS.istore X493.here hx rfl (hb hby at_216) rfl (l' := #[Iv p1, Iv p2, Iv p3, Iv u, Iv tgd, Iv 2, Rv b420, Rv b459, Rv b464, Iv 1, Rv b469, Iv 1, Uv]) rfl (XS.aload X493.here hx rfl (hb hby at_218) rfl rfl (st494.trans (st495.trans (XS.iload X495.here hx rfl (hb hby at_228) rfl (XS.icmpNo X495.here hx rfl (hb hby at_230) rfl (teq (by decide : (2 : Int32) = (2 : Int32))).2 (XS.iconst X495.here hx rfl (hb hby at_233) (XS.goto X495.here hx rfl (pc0 := 234) (pc' := 238) rfl (hb hby at_234) (by decide) (by decide) (XS.istore X495.here hx rfl (hb hby at_238) rfl (l' := #[Iv p1, Iv p2, Iv p3, Iv u, Iv tgd, Iv 2, Rv b420, Rv b459, Rv b464, Iv 1, Rv b469, Iv 1, Iv 1]) rfl k)))))))))) ?_
          show own_Fin _ _ _ _ _ _ _ T495 (mkF m 240 #[Iv p1, Iv p2, Iv p3, Iv u, Iv tgd, Iv 2, Rv b420, Rv b459, Rv b464, Iv 1, Rv b469, Iv 1, Iv 1] [])
          refine own_by (fun _ k => XS.iload X495.here hx rfl (hb hby at_240) rfl (XS.ifNo X495.here hx rfl (hb hby at_242) rfl ((if0 _ _).trans (feq (by decide : ¬ ((1 : Int32) = (0 : Int32)))).1) (XS.iload X495.here hx rfl (hb hby at_245) rfl (XS.ifNo X495.here hx rfl (hb hby at_247) rfl ((if0 _ _).trans (feq (by decide : ¬ ((1 : Int32) = (0 : Int32)))).1) (XS.iload X495.here hx rfl (hb hby at_250) rfl (XS.ifNo X495.here hx rfl (hb hby at_252) rfl ((if0 _ _).trans (feq (by decide : ¬ ((1 : Int32) = (0 : Int32)))).1) (XS.iconst X495.here hx rfl (hb hby at_255) (XS.goto X495.here hx rfl (pc0 := 256) (pc' := 260) rfl (hb hby at_256) (by decide) (by decide) k)))))))) ?_
          exact own_retZ X495 hx hlk (t := .boolean) Bd.returns (by simp) (hb hby at_260) ⟨rfl, N495⟩ (by decide) (by decide)
      · show own_Fin _ _ _ _ _ _ _ s₁ (mkF m 32 #[Iv p1, Iv p2, Iv p3, Iv u, Iv tgd, Iv (((p1.toUInt32 >>> ((2 : Int32) &&& 31).toUInt32).toInt32) &&& (3 : Int32)), Uv, Uv, Uv, Uv, Uv, Uv, Uv] [])
        rw [hn]
        show own_Fin _ _ _ _ _ _ _ s₁ (mkF m 32 #[Iv p1, Iv p2, Iv p3, Iv u, Iv tgd, Iv 3, Uv, Uv, Uv, Uv, Uv, Uv, Uv] [])
        obtain ⟨T496, h496, k496, X496, e496, E496, A496, st496⟩ := newP X0 hx hZ (own_g hw 0) e0 (g := (mkF m 33 #[Iv p1, Iv p2, Iv p3, Iv u, Iv tgd, Iv 3, Uv, Uv, Uv, Uv, Uv, Uv, Uv] [(.int 2)])) rfl (hb hby at_33) rfl (by decide) (cap := 2) (by decide) (by decide) (by decide) (by decide)
        obtain ⟨b496, g496⟩ : ∃ z, z = h0.size := ⟨_, rfl⟩
        rw [← g496] at A496 st496
        have V496 : Arv Z h496 b496 k496 .char (2 : Int32) [(.int (0 : Int32)), (.int (0 : Int32))] (.int (0 : Int32)) := (Arv.new A496 (by decide)).pad (pad_rep [] (.int (0 : Int32)) 2)
        have gf496 : n0 ≤ b496 := Nat.le_trans Z0 (Nat.le_of_eq g496.symm)
        have Zs496 : n0 ≤ h496.size := Nat.le_trans Z0 E496.1
        have f497_0 : Old Z n0 h496 := Od.ext E496
        obtain ⟨cl498, Ar498, q498, S498, M498, H498, G498⟩ := id V496
        have hin498 : ¬ ((0 : Int32) < 0 ∨ cl498.slots.size ≤ ((0 : Int32)).toNatClampNeg) := inb_of S498 ⟨by decide, by decide⟩
        obtain ⟨T498, h498, X498, e498, W498, st498⟩ := stC X496 hx hZ e496 Ar498 (j := (0 : Int32)) hin498 (g := (mkF m 43 #[Iv p1, Iv p2, Iv p3, Iv u, Iv tgd, Iv 3, Uv, Uv, Uv, Uv, Uv, Uv, Uv] [(.int ((p2 &&& (255 : Int32)).toUInt32.toUInt16.toUInt32.toInt32)), (.int 0), (.ref b496), (.ref b496)])) rfl rfl (hb hby at_43)
        have V498 : Arv Z h498 b496 k496 .char (2 : Int32) [(.int ((p2 &&& (255 : Int32)).toUInt32.toUInt16.toUInt32.toInt32).toUInt32.toUInt16.toUInt32.toInt32), (.int (0 : Int32))] (.int (0 : Int32)) := Arv.set Ar498 q498 S498 M498 H498 G498 (fits_nar_char _) W498 0 rfl (Nat.le_of_ble_eq_true rfl)
        have Zs498 : n0 ≤ h498.size := Nat.le_trans Zs496 (Keep.of_wr W498).1
        have N498 := Fr.snoc X498 N0 gf496
        have f499_0 : Old Z n0 h498 := f497_0.wr W498 gf496
        refine own_by (fun _ k => XS.iconst X0.here hx rfl (hb hby at_32) (st496 _ (XS.dup X496.here hx rfl (hb hby at_35) rfl rfl (XS.iconst X496.here hx rfl (hb hby at_36) (XS.iloadN X496.here hx rfl (hb hby at_37) rfl (XS.sipush X496.here hx rfl (hb hby at_38) (XS.iand X496.here hx rfl (hb hby at_41) rfl (XS.i2c X496.here hx rfl (hb hby at_42) rfl (st498 _ (XS.dup X498.here hx rfl (hb hby at_44) rfl rfl k)))))))))) ?_
        show own_Fin _ _ _ _ _ _ _ T498 (mkF m 45 #[Iv p1, Iv p2, Iv p3, Iv u, Iv tgd, Iv 3, Uv, Uv, Uv, Uv, Uv, Uv, Uv] [(.ref b496), (.ref b496)])
        obtain ⟨cl500, Ar500, q500, S500, M500, H500, G500⟩ := id V498
        have hin500 : ¬ ((1 : Int32) < 0 ∨ cl500.slots.size ≤ ((1 : Int32)).toNatClampNeg) := inb_of S500 ⟨by decide, by decide⟩
        obtain ⟨T500, h500, X500, e500, W500, st500⟩ := stC X498 hx hZ e498 Ar500 (j := (1 : Int32)) hin500 (g := (mkF m 52 #[Iv p1, Iv p2, Iv p3, Iv u, Iv tgd, Iv 3, Uv, Uv, Uv, Uv, Uv, Uv, Uv] [(.int ((p3 &&& (255 : Int32)).toUInt32.toUInt16.toUInt32.toInt32)), (.int 1), (.ref b496), (.ref b496)])) rfl rfl (hb hby at_52)
        have V500 : Arv Z h500 b496 k496 .char (2 : Int32) [(.int ((p2 &&& (255 : Int32)).toUInt32.toUInt16.toUInt32.toInt32).toUInt32.toUInt16.toUInt32.toInt32), (.int ((p3 &&& (255 : Int32)).toUInt32.toUInt16.toUInt32.toInt32).toUInt32.toUInt16.toUInt32.toInt32)] (.int (0 : Int32)) := Arv.set Ar500 q500 S500 M500 H500 G500 (fits_nar_char _) W500 1 rfl (Nat.le_of_ble_eq_true rfl)
        have Zs500 : n0 ≤ h500.size := Nat.le_trans Zs498 (Keep.of_wr W500).1
        have N500 := Fr.snoc X500 N498 gf496
        have f501_0 : Old Z n0 h500 := f499_0.wr W500 gf496
        refine own_by (fun _ k => XS.iconst X498.here hx rfl (hb hby at_45) (XS.iloadN X498.here hx rfl (hb hby at_46) rfl (XS.sipush X498.here hx rfl (hb hby at_47) (XS.iand X498.here hx rfl (hb hby at_50) rfl (XS.i2c X498.here hx rfl (hb hby at_51) rfl (st500 _ (XS.astore X500.here hx rfl (hb hby at_53) rfl rfl (l' := #[Iv p1, Iv p2, Iv p3, Iv u, Iv tgd, Iv 3, Rv b496, Uv, Uv, Uv, Uv, Uv, Uv]) rfl (XS.iload X500.here hx rfl (hb hby at_55) rfl k)))))))) ?_
        show own_Fin _ _ _ _ _ _ _ T500 (mkF m 57 #[Iv p1, Iv p2, Iv p3, Iv u, Iv tgd, Iv 3, Rv b496, Uv, Uv, Uv, Uv, Uv, Uv] [(.int tgd)])
        by_cases hc57_502 : tgd = (0 : Int32)
        · show own_Fin _ _ _ _ _ _ _ T500 (mkF m 57 #[Iv p1, Iv p2, Iv p3, Iv u, Iv tgd, Iv 3, Rv b496, Uv, Uv, Uv, Uv, Uv, Uv] [(.int tgd)])
          obtain ⟨T503, h503, X503, e503, E503, A503, D503, -, st503⟩ := newO X500 hx hZ hown (own_g hw 1) (own_g hw 2) (own_g hw 3) e500 (g := (mkF m 75 #[Iv p1, Iv p2, Iv p3, Iv u, Iv tgd, Iv 3, Rv b496, Nv, Uv, Uv, Uv, Uv, Uv] [])) rfl (hb hby at_75) (by decide) (by decide)
          obtain ⟨b503, g503⟩ : ∃ z, z = h500.size := ⟨_, rfl⟩
          rw [← g503] at A503 D503 st503
          have ne503_b496 : b496 ≠ b503 := Nat.ne_of_lt (Nat.lt_of_lt_of_le V500.lt (Nat.le_of_eq g503.symm))
          have gf503 : n0 ≤ b503 := Nat.le_trans Zs500 (Nat.le_of_eq g503.symm)
          have Zs503 : n0 ≤ h503.size := Nat.le_trans Zs500 E503.1
          have f504_0 : Old Z n0 h503 := f501_0.ext E503
          have f504_1 : Arv Z h503 b496 k496 .char (2 : Int32) [(.int ((p2 &&& (255 : Int32)).toUInt32.toUInt16.toUInt32.toInt32).toUInt32.toUInt16.toUInt32.toInt32), (.int ((p3 &&& (255 : Int32)).toUInt32.toUInt16.toUInt32.toInt32).toUInt32.toUInt16.toUInt32.toInt32)] (.int (0 : Int32)) := V500.ext E503
          have F503_union : Fld Z h503 b503 "com/example/lithe_checker/lithechecker/c/CType$StructType" "union" "Z" (.int (0 : Int32)) := D503 (Or.inr (own_g hw 16)) (ty := .boolean) (by decide)
          have F503_tag : Fld Z h503 b503 "com/example/lithe_checker/lithechecker/c/CType$StructType" "tag" "Ljava/lang/String;" .null := D503 (Or.inr (own_g hw 18)) (ty := (.object "java/lang/String")) (by decide)
          have F503_members : Fld Z h503 b503 "com/example/lithe_checker/lithechecker/c/CType$StructType" "members" "Ljava/util/List;" .null := D503 (Or.inl (own_g hw 25)) (ty := (.object "java/util/List")) (by decide)
          obtain ⟨_, _, ⟨T505, L505, k505, n505⟩, -, X505, ⟨Lc505, hQ505, l505, y505, z505⟩, st505⟩ := X503.specialBack hx (y := mn29) rfl hown (own_m hZ hw 4) (own_m hZ hw 5) (own_m hZ hw 6) (by decide) (backOf (W := 1) (rmSI l Z a0 hw [] b503 u .null h503 n0 Zs503 A503 F503_union F503_tag F503_members gf503 rfl) hZ (own_g hw 6) (own_g hw 3) (by decide) (by decide)) (g := (mkF m 82 #[Iv p1, Iv p2, Iv p3, Iv u, Iv tgd, Iv 3, Rv b496, Nv, Uv, Uv, Uv, Uv, Uv] [.null, (.int u), (.ref b503), (.ref b503)])) rfl (by rw [hml]; rfl) (Steps.refl _) (a := b503) (argsL := [(.int u), .null]) (rest := [(.ref b503)]) (lenOf own_pd446 rfl) rfl (own_z rfl) (hb hby at_82) (fun _ _ => ⟨rfl, e503, (by decide : 2 + 0 ≤ _), (by decide : 5 + 0 ≤ _)⟩)
          dsimp only [Pt.U, Pt.locs, Pt.cells, Pt.slots] at X505 l505 y505 z505 st505 hQ505
          subst l505 y505 z505
          obtain ⟨rfl, Nq505, K505, Gm505⟩ := hQ505
          have N505 := Fr.app N500 Nq505
          have Zs505 : n0 ≤ T505.heap.size := Nat.le_trans Zs503 K505.1
          have f506_0 : Old Z n0 T505.heap := f504_0.keep K505 (allS gf503 all0)
          have f506_1 : Arv Z T505.heap b496 k496 .char (2 : Int32) [(.int ((p2 &&& (255 : Int32)).toUInt32.toUInt16.toUInt32.toInt32).toUInt32.toUInt16.toUInt32.toInt32), (.int ((p3 &&& (255 : Int32)).toUInt32.toUInt16.toUInt32.toInt32).toUInt32.toUInt16.toUInt32.toInt32)] (.int (0 : Int32)) := f504_1.keep K505 (ninS ne503_b496 nin0)
          have f506_2 : Exa Z T505.heap b503 "com/example/lithe_checker/lithechecker/c/CType$StructType" := A503.keep K505
          obtain ⟨cq507, kq507, q507a, q507b, q507c⟩ := isOf hZ rfl f506_2
          obtain ⟨_, _, ⟨T507, L507, k507, n507⟩, -, X507, ⟨Lc507, hQ507, l507, y507, z507⟩, st507⟩ := X505.virtualBack hx (y := mn30) (z := mn30) hown (own_m hZ hw 19) (own_m hZ hw 20) (notFace_of_selects (args := #[]) (own_m hZ hw 22)) (own_m hZ hw 22) (own_m hZ hw 21) (by decide) (backOf (W := 0) (rmIc0 l Z a0 hw [] b503 T505.heap n0 Zs505 Gm505) hZ (own_g hw 23) (own_g hw 3) (by decide) (by decide)) q507a q507c (g := (mkF m 89 #[Iv p1, Iv p2, Iv p3, Iv u, Iv tgd, Iv 3, Rv b496, Nv, Rv b503, Uv, Uv, Uv, Uv] [(.ref b503)])) rfl (by rw [hml]; rfl) (Steps.refl _) (argsL := []) (rest := []) (lenOf own_pd251 rfl) rfl (own_z rfl) (hb hby at_89) (fun _ _ => ⟨rfl, rfl, (by decide : 2 + 0 ≤ _), (by decide : 5 + 0 ≤ _)⟩)
          dsimp only [Pt.U, Pt.locs, Pt.cells, Pt.slots] at X507 l507 y507 z507 st507 hQ507
          subst l507 y507 z507
          obtain ⟨rfl, Nq507, eh507⟩ := hQ507
          have N507 := Fr.app N505 Nq507
          refine own_by (fun _ k => XS.ifYes X500.here hx rfl (pc0 := 57) (pc' := 72) rfl (hb hby at_57) rfl ((if0 _ _).trans (teq hc57_502).1) (by decide) (by decide) (XS.aconstNull X500.here hx rfl (hb hby at_72) (XS.astore X500.here hx rfl (hb hby at_73) rfl rfl (l' := #[Iv p1, Iv p2, Iv p3, Iv u, Iv tgd, Iv 3, Rv b496, Nv, Uv, Uv, Uv, Uv, Uv]) rfl (st503 _ (XS.dup X503.here hx rfl (hb hby at_78) rfl rfl (XS.iloadN X503.here hx rfl (hb hby at_79) rfl (XS.aload X503.here hx rfl (hb hby at_80) rfl rfl (st505.trans (XS.astore X505.here hx rfl (hb hby at_85) rfl rfl (l' := #[Iv p1, Iv p2, Iv p3, Iv u, Iv tgd, Iv 3, Rv b496, Nv, Rv b503, Uv, Uv, Uv, Uv]) rfl (XS.aload X505.here hx rfl (hb hby at_87) rfl rfl k)))))))))) ?_
          show own_Fin _ _ _ _ _ _ _ T505 (mkF m 89 #[Iv p1, Iv p2, Iv p3, Iv u, Iv tgd, Iv 3, Rv b496, Nv, Rv b503, Uv, Uv, Uv, Uv] [(.ref b503)])
          obtain ⟨T508, h508, X508, e508, E508, A508, D508, -, st508⟩ := newO X507 hx hZ hown (own_g hw 26) (own_g hw 27) (own_g hw 28) eh507 (g := (mkF m 102 #[Iv p1, Iv p2, Iv p3, Iv u, Iv tgd, Iv 3, Rv b496, Nv, Rv b503, Iv 1, Uv, Uv, Uv] [])) rfl (hb hby at_102) (by decide) (by decide)
          obtain ⟨b508, g508⟩ : ∃ z, z = T505.heap.size := ⟨_, rfl⟩
          rw [← g508] at A508 D508 st508
          have ne508_b496 : b496 ≠ b508 := Nat.ne_of_lt (Nat.lt_of_lt_of_le f506_1.lt (Nat.le_of_eq g508.symm))
          have ne508_b503 : b503 ≠ b508 := Nat.ne_of_lt (Nat.lt_of_lt_of_le f506_2.lt (Nat.le_of_eq g508.symm))
          have gf508 : n0 ≤ b508 := Nat.le_trans Zs505 (Nat.le_of_eq g508.symm)
          have Zs508 : n0 ≤ h508.size := Nat.le_trans Zs505 E508.1
          have f509_0 : Old Z n0 h508 := f506_0.ext E508
          have f509_1 : Arv Z h508 b496 k496 .char (2 : Int32) [(.int ((p2 &&& (255 : Int32)).toUInt32.toUInt16.toUInt32.toInt32).toUInt32.toUInt16.toUInt32.toInt32), (.int ((p3 &&& (255 : Int32)).toUInt32.toUInt16.toUInt32.toInt32).toUInt32.toUInt16.toUInt32.toInt32)] (.int (0 : Int32)) := f506_1.ext E508
          have f509_2 : Exa Z h508 b503 "com/example/lithe_checker/lithechecker/c/CType$StructType" := f506_2.ext E508
          have f509_3 : Fld Z h508 b503 "com/example/lithe_checker/lithechecker/c/CType$StructType" "members" "Ljava/util/List;" .null := Gm505.ext E508
          have F508_modCount : Fld Z h508 b508 "java/util/AbstractList" "modCount" "I" (.int (0 : Int32)) := D508 (Or.inl (own_g hw 46)) (ty := .int) (by decide)
          have F508_elementData : Fld Z h508 b508 "java/util/ArrayList" "elementData" "[Ljava/lang/Object;" .null := D508 (Or.inl (own_g hw 49)) (ty := (.array (.object "java/lang/Object"))) (by decide)
          have F508_size : Fld Z h508 b508 "java/util/ArrayList" "size" "I" (.int (0 : Int32)) := D508 (Or.inl (own_g hw 79)) (ty := .int) (by decide)
          obtain ⟨_, _, ⟨T510, L510, k510, n510⟩, -, X510, ⟨Lc510, hQ510, l510, y510, z510⟩, st510⟩ := X508.specialBack hx (y := mn7) rfl hown (own_m hZ hw 29) (own_m hZ hw 30) (own_m hZ hw 31) (by decide) (backOf (W := 1) (rmALI l Z a0 hw [] cs da el ea em ci mm kd ke b508 h508 n0 Zs508 V_env f509_0 A508 F508_modCount F508_elementData F508_size gf508) hZ (own_g hw 31) (own_g hw 28) (by decide) (by decide)) (g := (mkF m 106 #[Iv p1, Iv p2, Iv p3, Iv u, Iv tgd, Iv 3, Rv b496, Nv, Rv b503, Iv 1, Uv, Uv, Uv] [(.ref b508), (.ref b508)])) rfl (by rw [hml]; rfl) (Steps.refl _) (a := b508) (argsL := []) (rest := [(.ref b508)]) (lenOf own_pd12 rfl) rfl (own_z rfl) (hb hby at_106) (fun _ _ => ⟨rfl, e508, (by decide : 3 + 0 ≤ _), (by decide : 8 + 0 ≤ _)⟩)
          dsimp only [Pt.U, Pt.locs, Pt.cells, Pt.slots] at X510 l510 y510 z510 st510 hQ510
          subst l510 y510 z510
          obtain ⟨rfl, Nq510, K510, Gm510, Ge510, Gs510⟩ := hQ510
          have N510 := Fr.app N507 Nq510
          have Zs510 : n0 ≤ T510.heap.size := Nat.le_trans Zs508 K510.1
          have f511_0 : Old Z n0 T510.heap := f509_0.keep K510 (allS gf508 all0)
          have f511_1 : Arv Z T510.heap b496 k496 .char (2 : Int32) [(.int ((p2 &&& (255 : Int32)).toUInt32.toUInt16.toUInt32.toInt32).toUInt32.toUInt16.toUInt32.toInt32), (.int ((p3 &&& (255 : Int32)).toUInt32.toUInt16.toUInt32.toInt32).toUInt32.toUInt16.toUInt32.toInt32)] (.int (0 : Int32)) := f509_1.keep K510 (ninS ne508_b496 nin0)
          have f511_2 : Exa Z T510.heap b503 "com/example/lithe_checker/lithechecker/c/CType$StructType" := f509_2.keep K510
          have f511_3 : Fld Z T510.heap b503 "com/example/lithe_checker/lithechecker/c/CType$StructType" "members" "Ljava/util/List;" .null := f509_3.keep K510 (ninS ne508_b503 nin0)
          have f511_4 : Exa Z T510.heap b508 "java/util/ArrayList" := A508.keep K510
          refine own_by (fun _ k => st507.trans (XS.ifNo X507.here hx rfl (hb hby at_92) rfl ((if0 _ _).trans (teq (by decide : (0 : Int32) = (0 : Int32))).2) (XS.iconst X507.here hx rfl (hb hby at_95) (XS.goto X507.here hx rfl (pc0 := 96) (pc' := 100) rfl (hb hby at_96) (by decide) (by decide) (XS.istore X507.here hx rfl (hb hby at_100) rfl (l' := #[Iv p1, Iv p2, Iv p3, Iv u, Iv tgd, Iv 3, Rv b496, Nv, Rv b503, Iv 1, Uv, Uv, Uv]) rfl (st508 _ (XS.dup X508.here hx rfl (hb hby at_105) rfl rfl (st510.trans (XS.astore X510.here hx rfl (hb hby at_109) rfl rfl (l' := #[Iv p1, Iv p2, Iv p3, Iv u, Iv tgd, Iv 3, Rv b496, Nv, Rv b503, Iv 1, Rv b508, Uv, Uv]) rfl (XS.iload X510.here hx rfl (hb hby at_111) rfl k)))))))))) ?_
          show own_Fin _ _ _ _ _ _ _ T510 (mkF m 113 #[Iv p1, Iv p2, Iv p3, Iv u, Iv tgd, Iv 3, Rv b496, Nv, Rv b503, Iv 1, Rv b508, Uv, Uv] [(.int 3)])
          obtain ⟨T512, h512, X512, e512, E512, A512, D512, -, st512⟩ := newO X510 hx hZ hown (own_g hw 101) (own_g hw 102) (own_g hw 103) rfl (g := (mkF m 119 #[Iv p1, Iv p2, Iv p3, Iv u, Iv tgd, Iv 3, Rv b496, Nv, Rv b503, Iv 1, Rv b508, Uv, Uv] [(.ref b508)])) rfl (hb hby at_119) (by decide) (by decide)
          obtain ⟨b512, g512⟩ : ∃ z, z = T510.heap.size := ⟨_, rfl⟩
          rw [← g512] at A512 D512 st512
          have ne512_b496 : b496 ≠ b512 := Nat.ne_of_lt (Nat.lt_of_lt_of_le f511_1.lt (Nat.le_of_eq g512.symm))
          have ne512_b503 : b503 ≠ b512 := Nat.ne_of_lt (Nat.lt_of_lt_of_le f511_2.lt (Nat.le_of_eq g512.symm))
          have ne512_b508 : b508 ≠ b512 := Nat.ne_of_lt (Nat.lt_of_lt_of_le f511_4.lt (Nat.le_of_eq g512.symm))
          have gf512 : n0 ≤ b512 := Nat.le_trans Zs510 (Nat.le_of_eq g512.symm)
          have Zs512 : n0 ≤ h512.size := Nat.le_trans Zs510 E512.1
          have f513_0 : Old Z n0 h512 := f511_0.ext E512
          have f513_1 : Arv Z h512 b496 k496 .char (2 : Int32) [(.int ((p2 &&& (255 : Int32)).toUInt32.toUInt16.toUInt32.toInt32).toUInt32.toUInt16.toUInt32.toInt32), (.int ((p3 &&& (255 : Int32)).toUInt32.toUInt16.toUInt32.toInt32).toUInt32.toUInt16.toUInt32.toInt32)] (.int (0 : Int32)) := f511_1.ext E512
          have f513_2 : Exa Z h512 b503 "com/example/lithe_checker/lithechecker/c/CType$StructType" := f511_2.ext E512
          have f513_3 : Fld Z h512 b503 "com/example/lithe_checker/lithechecker/c/CType$StructType" "members" "Ljava/util/List;" .null := f511_3.ext E512
          have f513_4 : Exa Z h512 b508 "java/util/ArrayList" := f511_4.ext E512
          have f513_5 : Fld Z h512 b508 "java/util/AbstractList" "modCount" "I" (.int (0 : Int32)) := Gm510.ext E512
          have f513_6 : Fld Z h512 b508 "java/util/ArrayList" "elementData" "[Ljava/lang/Object;" (.ref da) := Ge510.ext E512
          have f513_7 : Fld Z h512 b508 "java/util/ArrayList" "size" "I" (.int (0 : Int32)) := Gs510.ext E512
          have F512_name : Fld Z h512 b512 "com/example/lithe_checker/lithechecker/c/CType$Member" "name" "Ljava/lang/String;" .null := D512 (Or.inr (own_g hw 135)) (ty := (.object "java/lang/String")) (by decide)
          have F512_type : Fld Z h512 b512 "com/example/lithe_checker/lithechecker/c/CType$Member" "type" "Lcom/example/lithe_checker/lithechecker/c/CType;" .null := D512 (Or.inr (own_g hw 137)) (ty := (.object "com/example/lithe_checker/lithechecker/c/CType")) (by decide)
          obtain ⟨_, _, ⟨T514, L514, k514, n514⟩, -, X514, ⟨Lc514, hQ514, l514, y514, z514⟩, st514⟩ := LawKit.callS X512 hx (y := mn41) hown (own_m hZ hw 104) (own_m hZ hw 105) (own_m hZ hw 106) (own_m hZ hw 107) (by decide) (backOf (W := 3) (rmVO l Z a0 hw [] cs da el ea em ci mm kd ke ((p2 &&& (255 : Int32)).toUInt32.toUInt16.toUInt32.toInt32) h512 n0 Zs512 V_env f513_0 (own_lat p2)) hZ (own_g hw 107) (own_g hw 106) (by decide) (by decide)) (g := (mkF m 129 #[Iv p1, Iv p2, Iv p3, Iv u, Iv tgd, Iv 3, Rv b496, Nv, Rv b503, Iv 1, Rv b508, Uv, Uv] [(.int ((p2 &&& (255 : Int32)).toUInt32.toUInt16.toUInt32.toInt32)), (.ref b512), (.ref b512), (.ref b508)])) rfl (by rw [hml]; rfl) (argsL := [(.int ((p2 &&& (255 : Int32)).toUInt32.toUInt16.toUInt32.toInt32))]) (rest := [(.ref b512), (.ref b512), (.ref b508)]) (lenOf own_pd450 rfl) rfl (own_z rfl) (hb hby at_129) (fun _ _ => ⟨rfl, e512, (by decide : 4 + 2 ≤ _), (by decide : 10 + 5 ≤ _)⟩)
          dsimp only [Pt.U, Pt.locs, Pt.cells, Pt.slots] at X514 l514 y514 z514 st514 hQ514
          subst l514 y514 z514
          obtain ⟨b514, rfl, Nq514, K514, ge514, Ev514⟩ := hQ514
          have N514 := Fr.app N510 Nq514
          have Zs514 : n0 ≤ T514.heap.size := Nat.le_trans Zs512 K514.1
          have f515_0 : Old Z n0 T514.heap := f513_0.keep K514 all0
          have f515_1 : Arv Z T514.heap b496 k496 .char (2 : Int32) [(.int ((p2 &&& (255 : Int32)).toUInt32.toUInt16.toUInt32.toInt32).toUInt32.toUInt16.toUInt32.toInt32), (.int ((p3 &&& (255 : Int32)).toUInt32.toUInt16.toUInt32.toInt32).toUInt32.toUInt16.toUInt32.toInt32)] (.int (0 : Int32)) := f513_1.keep K514 nin0
          have f515_2 : Exa Z T514.heap b503 "com/example/lithe_checker/lithechecker/c/CType$StructType" := f513_2.keep K514
          have f515_3 : Fld Z T514.heap b503 "com/example/lithe_checker/lithechecker/c/CType$StructType" "members" "Ljava/util/List;" .null := f513_3.keep K514 nin0
          have f515_4 : Exa Z T514.heap b508 "java/util/ArrayList" := f513_4.keep K514
          have f515_5 : Fld Z T514.heap b508 "java/util/AbstractList" "modCount" "I" (.int (0 : Int32)) := f513_5.keep K514 nin0
          have f515_6 : Fld Z T514.heap b508 "java/util/ArrayList" "elementData" "[Ljava/lang/Object;" (.ref da) := f513_6.keep K514 nin0
          have f515_7 : Fld Z T514.heap b508 "java/util/ArrayList" "size" "I" (.int (0 : Int32)) := f513_7.keep K514 nin0
          have f515_8 : Exa Z T514.heap b512 "com/example/lithe_checker/lithechecker/c/CType$Member" := A512.keep K514
          have f515_9 : Fld Z T514.heap b512 "com/example/lithe_checker/lithechecker/c/CType$Member" "name" "Ljava/lang/String;" .null := F512_name.keep K514 nin0
          have f515_10 : Fld Z T514.heap b512 "com/example/lithe_checker/lithechecker/c/CType$Member" "type" "Lcom/example/lithe_checker/lithechecker/c/CType;" .null := F512_type.keep K514 nin0
          obtain ⟨T516, X516, e516, st516⟩ := getS2 X514 hx hZ hown (host := "") (Or.inl (own_g hw 128)) Via.refl rfl (V_env.2.2.2.2.2.2.2.2.2.2.1.ext f515_0.2) (g := (mkF m 132 #[Iv p1, Iv p2, Iv p3, Iv u, Iv tgd, Iv 3, Rv b496, Nv, Rv b503, Iv 1, Rv b508, Uv, Uv] [(.ref b514), (.ref b512), (.ref b512), (.ref b508)])) rfl (hb hby at_132)
          refine own_by (fun _ k => XS.iconst X510.here hx rfl (hb hby at_113) (XS.icmpNo X510.here hx rfl (hb hby at_114) rfl (flt (by decide : ¬ ((3 : Int32) < (1 : Int32)))).1 (XS.aload X510.here hx rfl (hb hby at_117) rfl rfl (st512 _ (XS.dup X512.here hx rfl (hb hby at_122) rfl rfl (XS.iloadN X512.here hx rfl (hb hby at_123) rfl (XS.sipush X512.here hx rfl (hb hby at_124) (XS.iand X512.here hx rfl (hb hby at_127) rfl (XS.i2c X512.here hx rfl (hb hby at_128) rfl (st514 _ k)))))))))) ?_
          show own_Fin _ _ _ _ _ _ _ T514 (mkF m 132 #[Iv p1, Iv p2, Iv p3, Iv u, Iv tgd, Iv 3, Rv b496, Nv, Rv b503, Iv 1, Rv b508, Uv, Uv] [(.ref b514), (.ref b512), (.ref b512), (.ref b508)])
          obtain ⟨_, _, ⟨T517, L517, k517, n517⟩, -, X517, ⟨Lc517, hQ517, l517, y517, z517⟩, st517⟩ := X516.specialBack hx (y := mn42) rfl hown (own_m hZ hw 130) (own_m hZ hw 131) (own_m hZ hw 132) (by decide) (backOf (W := 2) (rmMI l Z a0 hw [] b512 b514 ci T514.heap n0 Zs514 f515_8 f515_9 f515_10 gf512) hZ (own_g hw 132) (own_g hw 103) (by decide) (by decide)) (g := (mkF m 135 #[Iv p1, Iv p2, Iv p3, Iv u, Iv tgd, Iv 3, Rv b496, Nv, Rv b503, Iv 1, Rv b508, Uv, Uv] [(.ref ci), (.ref b514), (.ref b512), (.ref b512), (.ref b508)])) rfl (by rw [hml]; rfl) (Steps.refl _) (a := b512) (argsL := [(.ref b514), (.ref ci)]) (rest := [(.ref b512), (.ref b508)]) (lenOf own_pd451 rfl) rfl (own_z rfl) (hb hby at_135) (fun _ _ => ⟨rfl, e516, (by decide : 6 + 0 ≤ _), (by decide : 15 + 0 ≤ _)⟩)
          dsimp only [Pt.U, Pt.locs, Pt.cells, Pt.slots] at X517 l517 y517 z517 st517 hQ517
          subst l517 y517 z517
          obtain ⟨rfl, Nq517, K517⟩ := hQ517
          have N517 := Fr.app N514 Nq517
          have Zs517 : n0 ≤ T517.heap.size := Nat.le_trans Zs514 K517.1
          have f518_0 : Old Z n0 T517.heap := f515_0.keep K517 (allS gf512 all0)
          have f518_1 : Arv Z T517.heap b496 k496 .char (2 : Int32) [(.int ((p2 &&& (255 : Int32)).toUInt32.toUInt16.toUInt32.toInt32).toUInt32.toUInt16.toUInt32.toInt32), (.int ((p3 &&& (255 : Int32)).toUInt32.toUInt16.toUInt32.toInt32).toUInt32.toUInt16.toUInt32.toInt32)] (.int (0 : Int32)) := f515_1.keep K517 (ninS ne512_b496 nin0)
          have f518_2 : Exa Z T517.heap b503 "com/example/lithe_checker/lithechecker/c/CType$StructType" := f515_2.keep K517
          have f518_3 : Fld Z T517.heap b503 "com/example/lithe_checker/lithechecker/c/CType$StructType" "members" "Ljava/util/List;" .null := f515_3.keep K517 (ninS ne512_b503 nin0)
          have f518_4 : Exa Z T517.heap b508 "java/util/ArrayList" := f515_4.keep K517
          have f518_5 : Fld Z T517.heap b508 "java/util/AbstractList" "modCount" "I" (.int (0 : Int32)) := f515_5.keep K517 (ninS ne512_b508 nin0)
          have f518_6 : Fld Z T517.heap b508 "java/util/ArrayList" "elementData" "[Ljava/lang/Object;" (.ref da) := f515_6.keep K517 (ninS ne512_b508 nin0)
          have f518_7 : Fld Z T517.heap b508 "java/util/ArrayList" "size" "I" (.int (0 : Int32)) := f515_7.keep K517 (ninS ne512_b508 nin0)
          have f518_8 : Exa Z T517.heap b512 "com/example/lithe_checker/lithechecker/c/CType$Member" := f515_8.keep K517
          have f518_11 : Exa Z T517.heap b514 "java/lang/String" := Ev514.keep K517
          obtain ⟨cq519, kq519, q519a, q519b, q519c⟩ := isOf hZ rfl f518_4
          obtain ⟨_, _, ⟨T519, L519, k519, n519⟩, -, X519, ⟨Lc519, hQ519, l519, y519, z519⟩, st519⟩ := X517.virtualBack hx (y := mn11) (z := mn11) hown (own_m hZ hw 138) (own_m hZ hw 139) (notFace_of_selects (args := #[]) (own_m hZ hw 141)) (own_m hZ hw 141) (own_m hZ hw 140) (by decide) (backOf (W := 0) (rmA0 l Z a0 hw [] cs da el ea em ci mm kd ke b508 b512 (0 : Int32) T517.heap n0 Zs517 V_env f518_0 f518_4 f518_5 f518_6 f518_7 gf508 f518_8) hZ (own_g hw 142) (own_g hw 28) (by decide) (by decide)) q519a q519c (g := (mkF m 138 #[Iv p1, Iv p2, Iv p3, Iv u, Iv tgd, Iv 3, Rv b496, Nv, Rv b503, Iv 1, Rv b508, Uv, Uv] [(.ref b512), (.ref b508)])) rfl (by rw [hml]; rfl) (Steps.refl _) (argsL := [(.ref b512)]) (rest := []) (lenOf own_pd452 rfl) rfl (own_z rfl) (hb hby at_138) (fun _ _ => ⟨rfl, rfl, (by decide : 6 + 1 ≤ _), (by decide : 15 + 10 ≤ _)⟩)
          dsimp only [Pt.U, Pt.locs, Pt.cells, Pt.slots] at X519 l519 y519 z519 st519 hQ519
          subst l519 y519 z519
          obtain ⟨b519, k519, rfl, Nq519, K519, ge519, Gm519, Ge519, Gs519, V519, Eb519, Ov519⟩ := hQ519
          have N519 := Fr.app N517 Nq519
          have Zs519 : n0 ≤ T519.heap.size := Nat.le_trans Zs517 K519.1
          have f520_0 : Old Z n0 T519.heap := f518_0.keep K519 (allS gf508 all0)
          have f520_1 : Arv Z T519.heap b496 k496 .char (2 : Int32) [(.int ((p2 &&& (255 : Int32)).toUInt32.toUInt16.toUInt32.toInt32).toUInt32.toUInt16.toUInt32.toInt32), (.int ((p3 &&& (255 : Int32)).toUInt32.toUInt16.toUInt32.toInt32).toUInt32.toUInt16.toUInt32.toInt32)] (.int (0 : Int32)) := f518_1.keep K519 (ninS ne508_b496 nin0)
          have f520_2 : Exa Z T519.heap b503 "com/example/lithe_checker/lithechecker/c/CType$StructType" := f518_2.keep K519
          have f520_3 : Fld Z T519.heap b503 "com/example/lithe_checker/lithechecker/c/CType$StructType" "members" "Ljava/util/List;" .null := f518_3.keep K519 (ninS ne508_b503 nin0)
          have f520_4 : Exa Z T519.heap b508 "java/util/ArrayList" := f518_4.keep K519
          have f520_8 : Exa Z T519.heap b512 "com/example/lithe_checker/lithechecker/c/CType$Member" := f518_8.keep K519
          have f520_9 : Exa Z T519.heap b514 "java/lang/String" := f518_11.keep K519
          have ne519_b496 : b496 ≠ b519 := Nat.ne_of_lt (Nat.lt_of_lt_of_le f518_1.lt ge519)
          have ne519_b503 : b503 ≠ b519 := Nat.ne_of_lt (Nat.lt_of_lt_of_le f518_2.lt ge519)
          have ne519_b508 : b508 ≠ b519 := Nat.ne_of_lt (Nat.lt_of_lt_of_le f518_4.lt ge519)
          have ne519_b512 : b512 ≠ b519 := Nat.ne_of_lt (Nat.lt_of_lt_of_le f518_8.lt ge519)
          have ne519_b514 : b514 ≠ b519 := Nat.ne_of_lt (Nat.lt_of_lt_of_le f518_11.lt ge519)
          have gf519 : n0 ≤ b519 := Nat.le_trans Zs517 ge519
          obtain ⟨T521, h521, X521, e521, E521, A521, D521, -, st521⟩ := newO X519 hx hZ hown (own_g hw 101) (own_g hw 102) (own_g hw 103) rfl (g := (mkF m 150 #[Iv p1, Iv p2, Iv p3, Iv u, Iv tgd, Iv 3, Rv b496, Nv, Rv b503, Iv 1, Rv b508, Uv, Uv] [(.ref b508)])) rfl (hb hby at_150) (by decide) (by decide)
          obtain ⟨b521, g521⟩ : ∃ z, z = T519.heap.size := ⟨_, rfl⟩
          rw [← g521] at A521 D521 st521
          have ne521_b496 : b496 ≠ b521 := Nat.ne_of_lt (Nat.lt_of_lt_of_le f520_1.lt (Nat.le_of_eq g521.symm))
          have ne521_b503 : b503 ≠ b521 := Nat.ne_of_lt (Nat.lt_of_lt_of_le f520_2.lt (Nat.le_of_eq g521.symm))
          have ne521_b508 : b508 ≠ b521 := Nat.ne_of_lt (Nat.lt_of_lt_of_le f520_4.lt (Nat.le_of_eq g521.symm))
          have ne521_b512 : b512 ≠ b521 := Nat.ne_of_lt (Nat.lt_of_lt_of_le f520_8.lt (Nat.le_of_eq g521.symm))
          have ne521_b514 : b514 ≠ b521 := Nat.ne_of_lt (Nat.lt_of_lt_of_le f520_9.lt (Nat.le_of_eq g521.symm))
          have ne521_b519 : b519 ≠ b521 := Nat.ne_of_lt (Nat.lt_of_lt_of_le V519.lt (Nat.le_of_eq g521.symm))
          have gf521 : n0 ≤ b521 := Nat.le_trans Zs519 (Nat.le_of_eq g521.symm)
          have Zs521 : n0 ≤ h521.size := Nat.le_trans Zs519 E521.1
          have f522_0 : Old Z n0 h521 := f520_0.ext E521
          have f522_1 : Arv Z h521 b496 k496 .char (2 : Int32) [(.int ((p2 &&& (255 : Int32)).toUInt32.toUInt16.toUInt32.toInt32).toUInt32.toUInt16.toUInt32.toInt32), (.int ((p3 &&& (255 : Int32)).toUInt32.toUInt16.toUInt32.toInt32).toUInt32.toUInt16.toUInt32.toInt32)] (.int (0 : Int32)) := f520_1.ext E521
          have f522_2 : Exa Z h521 b503 "com/example/lithe_checker/lithechecker/c/CType$StructType" := f520_2.ext E521
          have f522_3 : Fld Z h521 b503 "com/example/lithe_checker/lithechecker/c/CType$StructType" "members" "Ljava/util/List;" .null := f520_3.ext E521
          have f522_4 : Exa Z h521 b508 "java/util/ArrayList" := f520_4.ext E521
          have f522_5 : Exa Z h521 b512 "com/example/lithe_checker/lithechecker/c/CType$Member" := f520_8.ext E521
          have f522_6 : Exa Z h521 b514 "java/lang/String" := f520_9.ext E521
          have f522_7 : Fld Z h521 b508 "java/util/AbstractList" "modCount" "I" (.int ((0 : Int32) + (1 : Int32))) := Gm519.ext E521
          have f522_8 : Fld Z h521 b508 "java/util/ArrayList" "elementData" "[Ljava/lang/Object;" (.ref b519) := Ge519.ext E521
          have f522_9 : Fld Z h521 b508 "java/util/ArrayList" "size" "I" (.int (1 : Int32)) := Gs519.ext E521
          have f522_10 : Arv Z h521 b519 k519 (.object "java/lang/Object") (10 : Int32) [(.ref b512), .null, .null, .null, .null, .null, .null, .null, .null, .null] .null := V519.ext E521
          have f522_11 : Exa Z h521 b519 "[Ljava/lang/Object;" := Eb519.ext E521
          have F521_name : Fld Z h521 b521 "com/example/lithe_checker/lithechecker/c/CType$Member" "name" "Ljava/lang/String;" .null := D521 (Or.inr (own_g hw 135)) (ty := (.object "java/lang/String")) (by decide)
          have F521_type : Fld Z h521 b521 "com/example/lithe_checker/lithechecker/c/CType$Member" "type" "Lcom/example/lithe_checker/lithechecker/c/CType;" .null := D521 (Or.inr (own_g hw 137)) (ty := (.object "com/example/lithe_checker/lithechecker/c/CType")) (by decide)
          refine own_by (fun _ k => st516 _ (st517.trans (st519.trans (XS.pop X519.here hx rfl (hb hby at_141) rfl rfl (XS.iload X519.here hx rfl (hb hby at_142) rfl (XS.iconst X519.here hx rfl (hb hby at_144) (XS.icmpNo X519.here hx rfl (hb hby at_145) rfl (flt (by decide : ¬ ((3 : Int32) < (2 : Int32)))).1 (XS.aload X519.here hx rfl (hb hby at_148) rfl rfl (st521 _ (XS.dup X521.here hx rfl (hb hby at_153) rfl rfl k)))))))))) ?_
          show own_Fin _ _ _ _ _ _ _ T521 (mkF m 154 #[Iv p1, Iv p2, Iv p3, Iv u, Iv tgd, Iv 3, Rv b496, Nv, Rv b503, Iv 1, Rv b508, Uv, Uv] [(.ref b521), (.ref b521), (.ref b508)])
          obtain ⟨_, _, ⟨T523, L523, k523, n523⟩, -, X523, ⟨Lc523, hQ523, l523, y523, z523⟩, st523⟩ := LawKit.callS X521 hx (y := mn41) hown (own_m hZ hw 104) (own_m hZ hw 105) (own_m hZ hw 106) (own_m hZ hw 107) (by decide) (backOf (W := 3) (rmVO l Z a0 hw [] cs da el ea em ci mm kd ke ((p3 &&& (255 : Int32)).toUInt32.toUInt16.toUInt32.toInt32) h521 n0 Zs521 V_env f522_0 (own_lat p3)) hZ (own_g hw 107) (own_g hw 106) (by decide) (by decide)) (g := (mkF m 160 #[Iv p1, Iv p2, Iv p3, Iv u, Iv tgd, Iv 3, Rv b496, Nv, Rv b503, Iv 1, Rv b508, Uv, Uv] [(.int ((p3 &&& (255 : Int32)).toUInt32.toUInt16.toUInt32.toInt32)), (.ref b521), (.ref b521), (.ref b508)])) rfl (by rw [hml]; rfl) (argsL := [(.int ((p3 &&& (255 : Int32)).toUInt32.toUInt16.toUInt32.toInt32))]) (rest := [(.ref b521), (.ref b521), (.ref b508)]) (lenOf own_pd450 rfl) rfl (own_z rfl) (hb hby at_160) (fun _ _ => ⟨rfl, e521, (by decide : 8 + 2 ≤ _), (by decide : 27 + 5 ≤ _)⟩)
          dsimp only [Pt.U, Pt.locs, Pt.cells, Pt.slots] at X523 l523 y523 z523 st523 hQ523
          subst l523 y523 z523
          obtain ⟨b523, rfl, Nq523, K523, ge523, Ev523⟩ := hQ523
          have N523 := Fr.app N519 Nq523
          have Zs523 : n0 ≤ T523.heap.size := Nat.le_trans Zs521 K523.1
          have f524_0 : Old Z n0 T523.heap := f522_0.keep K523 all0
          have f524_1 : Arv Z T523.heap b496 k496 .char (2 : Int32) [(.int ((p2 &&& (255 : Int32)).toUInt32.toUInt16.toUInt32.toInt32).toUInt32.toUInt16.toUInt32.toInt32), (.int ((p3 &&& (255 : Int32)).toUInt32.toUInt16.toUInt32.toInt32).toUInt32.toUInt16.toUInt32.toInt32)] (.int (0 : Int32)) := f522_1.keep K523 nin0
          have f524_2 : Exa Z T523.heap b503 "com/example/lithe_checker/lithechecker/c/CType$StructType" := f522_2.keep K523
          have f524_3 : Fld Z T523.heap b503 "com/example/lithe_checker/lithechecker/c/CType$StructType" "members" "Ljava/util/List;" .null := f522_3.keep K523 nin0
          have f524_4 : Exa Z T523.heap b508 "java/util/ArrayList" := f522_4.keep K523
          have f524_5 : Exa Z T523.heap b512 "com/example/lithe_checker/lithechecker/c/CType$Member" := f522_5.keep K523
          have f524_6 : Exa Z T523.heap b514 "java/lang/String" := f522_6.keep K523
          have f524_7 : Fld Z T523.heap b508 "java/util/AbstractList" "modCount" "I" (.int ((0 : Int32) + (1 : Int32))) := f522_7.keep K523 nin0
          have f524_8 : Fld Z T523.heap b508 "java/util/ArrayList" "elementData" "[Ljava/lang/Object;" (.ref b519) := f522_8.keep K523 nin0
          have f524_9 : Fld Z T523.heap b508 "java/util/ArrayList" "size" "I" (.int (1 : Int32)) := f522_9.keep K523 nin0
          have f524_10 : Arv Z T523.heap b519 k519 (.object "java/lang/Object") (10 : Int32) [(.ref b512), .null, .null, .null, .null, .null, .null, .null, .null, .null] .null := f522_10.keep K523 nin0
          have f524_11 : Exa Z T523.heap b519 "[Ljava/lang/Object;" := f522_11.keep K523
          have f524_12 : Exa Z T523.heap b521 "com/example/lithe_checker/lithechecker/c/CType$Member" := A521.keep K523
          have f524_13 : Fld Z T523.heap b521 "com/example/lithe_checker/lithechecker/c/CType$Member" "name" "Ljava/lang/String;" .null := F521_name.keep K523 nin0
          have f524_14 : Fld Z T523.heap b521 "com/example/lithe_checker/lithechecker/c/CType$Member" "type" "Lcom/example/lithe_checker/lithechecker/c/CType;" .null := F521_type.keep K523 nin0
          obtain ⟨T525, X525, e525, st525⟩ := getS2 X523 hx hZ hown (host := "") (Or.inl (own_g hw 128)) Via.refl rfl (V_env.2.2.2.2.2.2.2.2.2.2.1.ext f524_0.2) (g := (mkF m 163 #[Iv p1, Iv p2, Iv p3, Iv u, Iv tgd, Iv 3, Rv b496, Nv, Rv b503, Iv 1, Rv b508, Uv, Uv] [(.ref b523), (.ref b521), (.ref b521), (.ref b508)])) rfl (hb hby at_163)
          obtain ⟨_, _, ⟨T526, L526, k526, n526⟩, -, X526, ⟨Lc526, hQ526, l526, y526, z526⟩, st526⟩ := X525.specialBack hx (y := mn42) rfl hown (own_m hZ hw 130) (own_m hZ hw 131) (own_m hZ hw 132) (by decide) (backOf (W := 2) (rmMI l Z a0 hw [] b521 b523 ci T523.heap n0 Zs523 f524_12 f524_13 f524_14 gf521) hZ (own_g hw 132) (own_g hw 103) (by decide) (by decide)) (g := (mkF m 166 #[Iv p1, Iv p2, Iv p3, Iv u, Iv tgd, Iv 3, Rv b496, Nv, Rv b503, Iv 1, Rv b508, Uv, Uv] [(.ref ci), (.ref b523), (.ref b521), (.ref b521), (.ref b508)])) rfl (by rw [hml]; rfl) (Steps.refl _) (a := b521) (argsL := [(.ref b523), (.ref ci)]) (rest := [(.ref b521), (.ref b508)]) (lenOf own_pd451 rfl) rfl (own_z rfl) (hb hby at_166) (fun _ _ => ⟨rfl, e525, (by decide : 10 + 0 ≤ _), (by decide : 32 + 0 ≤ _)⟩)
          dsimp only [Pt.U, Pt.locs, Pt.cells, Pt.slots] at X526 l526 y526 z526 st526 hQ526
          subst l526 y526 z526
          obtain ⟨rfl, Nq526, K526⟩ := hQ526
          have N526 := Fr.app N523 Nq526
          have Zs526 : n0 ≤ T526.heap.size := Nat.le_trans Zs523 K526.1
          have f527_0 : Old Z n0 T526.heap := f524_0.keep K526 (allS gf521 all0)
          have f527_1 : Arv Z T526.heap b496 k496 .char (2 : Int32) [(.int ((p2 &&& (255 : Int32)).toUInt32.toUInt16.toUInt32.toInt32).toUInt32.toUInt16.toUInt32.toInt32), (.int ((p3 &&& (255 : Int32)).toUInt32.toUInt16.toUInt32.toInt32).toUInt32.toUInt16.toUInt32.toInt32)] (.int (0 : Int32)) := f524_1.keep K526 (ninS ne521_b496 nin0)
          have f527_2 : Exa Z T526.heap b503 "com/example/lithe_checker/lithechecker/c/CType$StructType" := f524_2.keep K526
          have f527_3 : Fld Z T526.heap b503 "com/example/lithe_checker/lithechecker/c/CType$StructType" "members" "Ljava/util/List;" .null := f524_3.keep K526 (ninS ne521_b503 nin0)
          have f527_4 : Exa Z T526.heap b508 "java/util/ArrayList" := f524_4.keep K526
          have f527_5 : Exa Z T526.heap b512 "com/example/lithe_checker/lithechecker/c/CType$Member" := f524_5.keep K526
          have f527_6 : Exa Z T526.heap b514 "java/lang/String" := f524_6.keep K526
          have f527_7 : Fld Z T526.heap b508 "java/util/AbstractList" "modCount" "I" (.int ((0 : Int32) + (1 : Int32))) := f524_7.keep K526 (ninS ne521_b508 nin0)
          have f527_8 : Fld Z T526.heap b508 "java/util/ArrayList" "elementData" "[Ljava/lang/Object;" (.ref b519) := f524_8.keep K526 (ninS ne521_b508 nin0)
          have f527_9 : Fld Z T526.heap b508 "java/util/ArrayList" "size" "I" (.int (1 : Int32)) := f524_9.keep K526 (ninS ne521_b508 nin0)
          have f527_10 : Arv Z T526.heap b519 k519 (.object "java/lang/Object") (10 : Int32) [(.ref b512), .null, .null, .null, .null, .null, .null, .null, .null, .null] .null := f524_10.keep K526 (ninS ne521_b519 nin0)
          have f527_11 : Exa Z T526.heap b519 "[Ljava/lang/Object;" := f524_11.keep K526
          have f527_12 : Exa Z T526.heap b521 "com/example/lithe_checker/lithechecker/c/CType$Member" := f524_12.keep K526
          have f527_15 : Exa Z T526.heap b523 "java/lang/String" := Ev523.keep K526
          obtain ⟨cq528, kq528, q528a, q528b, q528c⟩ := isOf hZ rfl f527_4
          obtain ⟨_, _, ⟨T528, L528, k528, n528⟩, -, X528, ⟨Lc528, hQ528, l528, y528, z528⟩, st528⟩ := X526.virtualBack hx (y := mn11) (z := mn11) hown (own_m hZ hw 138) (own_m hZ hw 139) (notFace_of_selects (args := #[]) (own_m hZ hw 141)) (own_m hZ hw 141) (own_m hZ hw 140) (by decide) (backOf (W := 0) (rmA1 l Z a0 hw [] cs da el ea em ci mm kd ke b508 b519 k519 b512 b521 ((0 : Int32) + (1 : Int32)) T526.heap n0 Zs526 V_env f527_0 f527_4 f527_7 f527_8 f527_9 gf508 f527_10 f527_11 Ov519 gf519 ne519_b508 f527_12) hZ (own_g hw 142) (own_g hw 28) (by decide) (by decide)) q528a q528c (g := (mkF m 169 #[Iv p1, Iv p2, Iv p3, Iv u, Iv tgd, Iv 3, Rv b496, Nv, Rv b503, Iv 1, Rv b508, Uv, Uv] [(.ref b521), (.ref b508)])) rfl (by rw [hml]; rfl) (Steps.refl _) (argsL := [(.ref b521)]) (rest := []) (lenOf own_pd452 rfl) rfl (own_z rfl) (hb hby at_169) (fun _ _ => ⟨rfl, rfl, (by decide : 10 + 0 ≤ _), (by decide : 32 + 0 ≤ _)⟩)
          dsimp only [Pt.U, Pt.locs, Pt.cells, Pt.slots] at X528 l528 y528 z528 st528 hQ528
          subst l528 y528 z528
          obtain ⟨rfl, Nq528, K528, Gm528, Ge528, Gs528, V528, Eb528⟩ := hQ528
          have N528 := Fr.app N526 Nq528
          have Zs528 : n0 ≤ T528.heap.size := Nat.le_trans Zs526 K528.1
          have f529_0 : Old Z n0 T528.heap := f527_0.keep K528 (allS gf508 (allS gf519 all0))
          have f529_1 : Arv Z T528.heap b496 k496 .char (2 : Int32) [(.int ((p2 &&& (255 : Int32)).toUInt32.toUInt16.toUInt32.toInt32).toUInt32.toUInt16.toUInt32.toInt32), (.int ((p3 &&& (255 : Int32)).toUInt32.toUInt16.toUInt32.toInt32).toUInt32.toUInt16.toUInt32.toInt32)] (.int (0 : Int32)) := f527_1.keep K528 (ninS ne508_b496 (ninS ne519_b496 nin0))
          have f529_2 : Exa Z T528.heap b503 "com/example/lithe_checker/lithechecker/c/CType$StructType" := f527_2.keep K528
          have f529_3 : Fld Z T528.heap b503 "com/example/lithe_checker/lithechecker/c/CType$StructType" "members" "Ljava/util/List;" .null := f527_3.keep K528 (ninS ne508_b503 (ninS ne519_b503 nin0))
          have f529_4 : Exa Z T528.heap b508 "java/util/ArrayList" := f527_4.keep K528
          have f529_5 : Exa Z T528.heap b512 "com/example/lithe_checker/lithechecker/c/CType$Member" := f527_5.keep K528
          have f529_6 : Exa Z T528.heap b514 "java/lang/String" := f527_6.keep K528
          have f529_11 : Exa Z T528.heap b519 "[Ljava/lang/Object;" := f527_11.keep K528
          have f529_12 : Exa Z T528.heap b521 "com/example/lithe_checker/lithechecker/c/CType$Member" := f527_12.keep K528
          have f529_13 : Exa Z T528.heap b523 "java/lang/String" := f527_15.keep K528
          refine own_by (fun _ k => XS.iloadN X521.here hx rfl (hb hby at_154) rfl (XS.sipush X521.here hx rfl (hb hby at_155) (XS.iand X521.here hx rfl (hb hby at_158) rfl (XS.i2c X521.here hx rfl (hb hby at_159) rfl (st523 _ (st525 _ (st526.trans (st528.trans (XS.pop X528.here hx rfl (hb hby at_172) rfl rfl (XS.iload X528.here hx rfl (hb hby at_173) rfl k)))))))))) ?_
          show own_Fin _ _ _ _ _ _ _ T528 (mkF m 175 #[Iv p1, Iv p2, Iv p3, Iv u, Iv tgd, Iv 3, Rv b496, Nv, Rv b503, Iv 1, Rv b508, Uv, Uv] [(.int 3)])
          obtain ⟨T530, h530, X530, e530, E530, A530, D530, -, st530⟩ := newO X528 hx hZ hown (own_g hw 101) (own_g hw 102) (own_g hw 103) rfl (g := (mkF m 181 #[Iv p1, Iv p2, Iv p3, Iv u, Iv tgd, Iv 3, Rv b496, Nv, Rv b503, Iv 1, Rv b508, Uv, Uv] [(.ref b508)])) rfl (hb hby at_181) (by decide) (by decide)
          obtain ⟨b530, g530⟩ : ∃ z, z = T528.heap.size := ⟨_, rfl⟩
          rw [← g530] at A530 D530 st530
          have ne530_b496 : b496 ≠ b530 := Nat.ne_of_lt (Nat.lt_of_lt_of_le f529_1.lt (Nat.le_of_eq g530.symm))
          have ne530_b503 : b503 ≠ b530 := Nat.ne_of_lt (Nat.lt_of_lt_of_le f529_2.lt (Nat.le_of_eq g530.symm))
          have ne530_b508 : b508 ≠ b530 := Nat.ne_of_lt (Nat.lt_of_lt_of_le f529_4.lt (Nat.le_of_eq g530.symm))
          have ne530_b512 : b512 ≠ b530 := Nat.ne_of_lt (Nat.lt_of_lt_of_le f529_5.lt (Nat.le_of_eq g530.symm))
          have ne530_b514 : b514 ≠ b530 := Nat.ne_of_lt (Nat.lt_of_lt_of_le f529_6.lt (Nat.le_of_eq g530.symm))
          have ne530_b519 : b519 ≠ b530 := Nat.ne_of_lt (Nat.lt_of_lt_of_le Eb528.lt (Nat.le_of_eq g530.symm))
          have ne530_b521 : b521 ≠ b530 := Nat.ne_of_lt (Nat.lt_of_lt_of_le f529_12.lt (Nat.le_of_eq g530.symm))
          have ne530_b523 : b523 ≠ b530 := Nat.ne_of_lt (Nat.lt_of_lt_of_le f529_13.lt (Nat.le_of_eq g530.symm))
          have gf530 : n0 ≤ b530 := Nat.le_trans Zs528 (Nat.le_of_eq g530.symm)
          have Zs530 : n0 ≤ h530.size := Nat.le_trans Zs528 E530.1
          have f531_0 : Old Z n0 h530 := f529_0.ext E530
          have f531_1 : Arv Z h530 b496 k496 .char (2 : Int32) [(.int ((p2 &&& (255 : Int32)).toUInt32.toUInt16.toUInt32.toInt32).toUInt32.toUInt16.toUInt32.toInt32), (.int ((p3 &&& (255 : Int32)).toUInt32.toUInt16.toUInt32.toInt32).toUInt32.toUInt16.toUInt32.toInt32)] (.int (0 : Int32)) := f529_1.ext E530
          have f531_2 : Exa Z h530 b503 "com/example/lithe_checker/lithechecker/c/CType$StructType" := f529_2.ext E530
          have f531_3 : Fld Z h530 b503 "com/example/lithe_checker/lithechecker/c/CType$StructType" "members" "Ljava/util/List;" .null := f529_3.ext E530
          have f531_4 : Exa Z h530 b508 "java/util/ArrayList" := f529_4.ext E530
          have f531_5 : Exa Z h530 b512 "com/example/lithe_checker/lithechecker/c/CType$Member" := f529_5.ext E530
          have f531_6 : Exa Z h530 b514 "java/lang/String" := f529_6.ext E530
          have f531_7 : Exa Z h530 b519 "[Ljava/lang/Object;" := Eb528.ext E530
          have f531_8 : Exa Z h530 b521 "com/example/lithe_checker/lithechecker/c/CType$Member" := f529_12.ext E530
          have f531_9 : Exa Z h530 b523 "java/lang/String" := f529_13.ext E530
          have f531_10 : Fld Z h530 b508 "java/util/AbstractList" "modCount" "I" (.int (((0 : Int32) + (1 : Int32)) + (1 : Int32))) := Gm528.ext E530
          have f531_11 : Fld Z h530 b508 "java/util/ArrayList" "elementData" "[Ljava/lang/Object;" (.ref b519) := Ge528.ext E530
          have f531_12 : Fld Z h530 b508 "java/util/ArrayList" "size" "I" (.int (2 : Int32)) := Gs528.ext E530
          have f531_13 : Arv Z h530 b519 k519 (.object "java/lang/Object") (10 : Int32) [(.ref b512), (.ref b521), .null, .null, .null, .null, .null, .null, .null, .null] .null := V528.ext E530
          have F530_name : Fld Z h530 b530 "com/example/lithe_checker/lithechecker/c/CType$Member" "name" "Ljava/lang/String;" .null := D530 (Or.inr (own_g hw 135)) (ty := (.object "java/lang/String")) (by decide)
          have F530_type : Fld Z h530 b530 "com/example/lithe_checker/lithechecker/c/CType$Member" "type" "Lcom/example/lithe_checker/lithechecker/c/CType;" .null := D530 (Or.inr (own_g hw 137)) (ty := (.object "com/example/lithe_checker/lithechecker/c/CType")) (by decide)
          obtain ⟨T532, h532, X532, e532, E532, A532, D532, -, st532⟩ := newO X530 hx hZ hown (own_g hw 236) (own_g hw 114) (own_g hw 106) e530 (g := (mkF m 185 #[Iv p1, Iv p2, Iv p3, Iv u, Iv tgd, Iv 3, Rv b496, Nv, Rv b503, Iv 1, Rv b508, Uv, Uv] [(.ref b530), (.ref b530), (.ref b508)])) rfl (hb hby at_185) (by decide) (by decide)
          obtain ⟨b532, g532⟩ : ∃ z, z = h530.size := ⟨_, rfl⟩
          rw [← g532] at A532 D532 st532
          have ne532_b496 : b496 ≠ b532 := Nat.ne_of_lt (Nat.lt_of_lt_of_le f531_1.lt (Nat.le_of_eq g532.symm))
          have ne532_b503 : b503 ≠ b532 := Nat.ne_of_lt (Nat.lt_of_lt_of_le f531_2.lt (Nat.le_of_eq g532.symm))
          have ne532_b508 : b508 ≠ b532 := Nat.ne_of_lt (Nat.lt_of_lt_of_le f531_4.lt (Nat.le_of_eq g532.symm))
          have ne532_b512 : b512 ≠ b532 := Nat.ne_of_lt (Nat.lt_of_lt_of_le f531_5.lt (Nat.le_of_eq g532.symm))
          have ne532_b514 : b514 ≠ b532 := Nat.ne_of_lt (Nat.lt_of_lt_of_le f531_6.lt (Nat.le_of_eq g532.symm))
          have ne532_b519 : b519 ≠ b532 := Nat.ne_of_lt (Nat.lt_of_lt_of_le f531_7.lt (Nat.le_of_eq g532.symm))
          have ne532_b521 : b521 ≠ b532 := Nat.ne_of_lt (Nat.lt_of_lt_of_le f531_8.lt (Nat.le_of_eq g532.symm))
          have ne532_b523 : b523 ≠ b532 := Nat.ne_of_lt (Nat.lt_of_lt_of_le f531_9.lt (Nat.le_of_eq g532.symm))
          have ne532_b530 : b530 ≠ b532 := Nat.ne_of_lt (Nat.lt_of_lt_of_le A530.lt (Nat.le_of_eq g532.symm))
          have gf532 : n0 ≤ b532 := Nat.le_trans Zs530 (Nat.le_of_eq g532.symm)
          have Zs532 : n0 ≤ h532.size := Nat.le_trans Zs530 E532.1
          have f533_0 : Old Z n0 h532 := f531_0.ext E532
          have f533_1 : Arv Z h532 b496 k496 .char (2 : Int32) [(.int ((p2 &&& (255 : Int32)).toUInt32.toUInt16.toUInt32.toInt32).toUInt32.toUInt16.toUInt32.toInt32), (.int ((p3 &&& (255 : Int32)).toUInt32.toUInt16.toUInt32.toInt32).toUInt32.toUInt16.toUInt32.toInt32)] (.int (0 : Int32)) := f531_1.ext E532
          have f533_2 : Exa Z h532 b503 "com/example/lithe_checker/lithechecker/c/CType$StructType" := f531_2.ext E532
          have f533_3 : Fld Z h532 b503 "com/example/lithe_checker/lithechecker/c/CType$StructType" "members" "Ljava/util/List;" .null := f531_3.ext E532
          have f533_4 : Exa Z h532 b508 "java/util/ArrayList" := f531_4.ext E532
          have f533_5 : Exa Z h532 b512 "com/example/lithe_checker/lithechecker/c/CType$Member" := f531_5.ext E532
          have f533_6 : Exa Z h532 b514 "java/lang/String" := f531_6.ext E532
          have f533_7 : Exa Z h532 b519 "[Ljava/lang/Object;" := f531_7.ext E532
          have f533_8 : Exa Z h532 b521 "com/example/lithe_checker/lithechecker/c/CType$Member" := f531_8.ext E532
          have f533_9 : Exa Z h532 b523 "java/lang/String" := f531_9.ext E532
          have f533_10 : Fld Z h532 b508 "java/util/AbstractList" "modCount" "I" (.int (((0 : Int32) + (1 : Int32)) + (1 : Int32))) := f531_10.ext E532
          have f533_11 : Fld Z h532 b508 "java/util/ArrayList" "elementData" "[Ljava/lang/Object;" (.ref b519) := f531_11.ext E532
          have f533_12 : Fld Z h532 b508 "java/util/ArrayList" "size" "I" (.int (2 : Int32)) := f531_12.ext E532
          have f533_13 : Arv Z h532 b519 k519 (.object "java/lang/Object") (10 : Int32) [(.ref b512), (.ref b521), .null, .null, .null, .null, .null, .null, .null, .null] .null := f531_13.ext E532
          have f533_14 : Exa Z h532 b530 "com/example/lithe_checker/lithechecker/c/CType$Member" := A530.ext E532
          have f533_15 : Fld Z h532 b530 "com/example/lithe_checker/lithechecker/c/CType$Member" "name" "Ljava/lang/String;" .null := F530_name.ext E532
          have f533_16 : Fld Z h532 b530 "com/example/lithe_checker/lithechecker/c/CType$Member" "type" "Lcom/example/lithe_checker/lithechecker/c/CType;" .null := F530_type.ext E532
          have F532_value : Fld Z h532 b532 "java/lang/String" "value" "[B" .null := D532 (Or.inr (own_g hw 125)) (ty := (.array .byte)) (by decide)
          have F532_coder : Fld Z h532 b532 "java/lang/String" "coder" "B" (.int (0 : Int32)) := D532 (Or.inr (own_g hw 127)) (ty := .byte) (by decide)
          have Vt534 : Arv Z h532 b496 k496 .char (2 : Int32) [(.int ((p2 &&& (255 : Int32)).toUInt32.toUInt16.toUInt32.toInt32)), (.int ((p3 &&& (255 : Int32)).toUInt32.toUInt16.toUInt32.toInt32))] (.int (0 : Int32)) := by have q := f533_1; simp only [own_c16] at q; exact q
          obtain ⟨_, _, ⟨T535, L535, k535, n535⟩, -, X535, ⟨Lc535, hQ535, l535, y535, z535⟩, st535⟩ := X532.specialBack hx (y := mn37) rfl hown (own_m hZ hw 237) (own_m hZ hw 238) (own_m hZ hw 239) (by decide) (backOf (W := 4) (rmSC2 l Z a0 hw [] b532 b496 k496 cs ((p2 &&& (255 : Int32)).toUInt32.toUInt16.toUInt32.toInt32) ((p3 &&& (255 : Int32)).toUInt32.toUInt16.toUInt32.toInt32) h532 n0 Zs532 A532 F532_value F532_coder gf532 Vt534 ne532_b496 (own_lat p2) (own_lat p3) (V_env.1.ext f533_0.2) V_env.2.1) hZ (own_g hw 239) (own_g hw 106) (by decide) (by decide)) (g := (mkF m 191 #[Iv p1, Iv p2, Iv p3, Iv u, Iv tgd, Iv 3, Rv b496, Nv, Rv b503, Iv 1, Rv b508, Uv, Uv] [(.ref b496), (.ref b532), (.ref b532), (.ref b530), (.ref b530), (.ref b508)])) rfl (by rw [hml]; rfl) (Steps.refl _) (a := b532) (argsL := [(.ref b496)]) (rest := [(.ref b532), (.ref b530), (.ref b530), (.ref b508)]) (lenOf own_pd449 rfl) rfl (own_z rfl) (hb hby at_191) (fun _ _ => ⟨rfl, e532, (by decide : 12 + 1 ≤ _), (by decide : 38 + 2 ≤ _)⟩)
          dsimp only [Pt.U, Pt.locs, Pt.cells, Pt.slots] at X535 l535 y535 z535 st535 hQ535
          subst l535 y535 z535
          obtain ⟨bs535, ks535, rfl, Nq535, K535, Gc535, Gv535, Vs535⟩ := hQ535
          have N535 := Fr.app N528 Nq535
          have Zs535 : n0 ≤ T535.heap.size := Nat.le_trans Zs532 K535.1
          have f536_0 : Old Z n0 T535.heap := f533_0.keep K535 (allS gf532 all0)
          have f536_1 : Arv Z T535.heap b496 k496 .char (2 : Int32) [(.int ((p2 &&& (255 : Int32)).toUInt32.toUInt16.toUInt32.toInt32).toUInt32.toUInt16.toUInt32.toInt32), (.int ((p3 &&& (255 : Int32)).toUInt32.toUInt16.toUInt32.toInt32).toUInt32.toUInt16.toUInt32.toInt32)] (.int (0 : Int32)) := f533_1.keep K535 (ninS ne532_b496 nin0)
          have f536_2 : Exa Z T535.heap b503 "com/example/lithe_checker/lithechecker/c/CType$StructType" := f533_2.keep K535
          have f536_3 : Fld Z T535.heap b503 "com/example/lithe_checker/lithechecker/c/CType$StructType" "members" "Ljava/util/List;" .null := f533_3.keep K535 (ninS ne532_b503 nin0)
          have f536_4 : Exa Z T535.heap b508 "java/util/ArrayList" := f533_4.keep K535
          have f536_5 : Exa Z T535.heap b512 "com/example/lithe_checker/lithechecker/c/CType$Member" := f533_5.keep K535
          have f536_6 : Exa Z T535.heap b514 "java/lang/String" := f533_6.keep K535
          have f536_7 : Exa Z T535.heap b519 "[Ljava/lang/Object;" := f533_7.keep K535
          have f536_8 : Exa Z T535.heap b521 "com/example/lithe_checker/lithechecker/c/CType$Member" := f533_8.keep K535
          have f536_9 : Exa Z T535.heap b523 "java/lang/String" := f533_9.keep K535
          have f536_10 : Fld Z T535.heap b508 "java/util/AbstractList" "modCount" "I" (.int (((0 : Int32) + (1 : Int32)) + (1 : Int32))) := f533_10.keep K535 (ninS ne532_b508 nin0)
          have f536_11 : Fld Z T535.heap b508 "java/util/ArrayList" "elementData" "[Ljava/lang/Object;" (.ref b519) := f533_11.keep K535 (ninS ne532_b508 nin0)
          have f536_12 : Fld Z T535.heap b508 "java/util/ArrayList" "size" "I" (.int (2 : Int32)) := f533_12.keep K535 (ninS ne532_b508 nin0)
          have f536_13 : Arv Z T535.heap b519 k519 (.object "java/lang/Object") (10 : Int32) [(.ref b512), (.ref b521), .null, .null, .null, .null, .null, .null, .null, .null] .null := f533_13.keep K535 (ninS ne532_b519 nin0)
          have f536_14 : Exa Z T535.heap b530 "com/example/lithe_checker/lithechecker/c/CType$Member" := f533_14.keep K535
          have f536_15 : Fld Z T535.heap b530 "com/example/lithe_checker/lithechecker/c/CType$Member" "name" "Ljava/lang/String;" .null := f533_15.keep K535 (ninS ne532_b530 nin0)
          have f536_16 : Fld Z T535.heap b530 "com/example/lithe_checker/lithechecker/c/CType$Member" "type" "Lcom/example/lithe_checker/lithechecker/c/CType;" .null := f533_16.keep K535 (ninS ne532_b530 nin0)
          have f536_17 : Exa Z T535.heap b532 "java/lang/String" := A532.keep K535
          obtain ⟨T537, X537, e537, st537⟩ := getS2 X535 hx hZ hown (host := "") (Or.inl (own_g hw 128)) Via.refl rfl (V_env.2.2.2.2.2.2.2.2.2.2.1.ext f536_0.2) (g := (mkF m 194 #[Iv p1, Iv p2, Iv p3, Iv u, Iv tgd, Iv 3, Rv b496, Nv, Rv b503, Iv 1, Rv b508, Uv, Uv] [(.ref b532), (.ref b530), (.ref b530), (.ref b508)])) rfl (hb hby at_194)
          obtain ⟨_, _, ⟨T538, L538, k538, n538⟩, -, X538, ⟨Lc538, hQ538, l538, y538, z538⟩, st538⟩ := X537.specialBack hx (y := mn42) rfl hown (own_m hZ hw 130) (own_m hZ hw 131) (own_m hZ hw 132) (by decide) (backOf (W := 2) (rmMI l Z a0 hw [] b530 b532 ci T535.heap n0 Zs535 f536_14 f536_15 f536_16 gf530) hZ (own_g hw 132) (own_g hw 103) (by decide) (by decide)) (g := (mkF m 197 #[Iv p1, Iv p2, Iv p3, Iv u, Iv tgd, Iv 3, Rv b496, Nv, Rv b503, Iv 1, Rv b508, Uv, Uv] [(.ref ci), (.ref b532), (.ref b530), (.ref b530), (.ref b508)])) rfl (by rw [hml]; rfl) (Steps.refl _) (a := b530) (argsL := [(.ref b532), (.ref ci)]) (rest := [(.ref b530), (.ref b508)]) (lenOf own_pd451 rfl) rfl (own_z rfl) (hb hby at_197) (fun _ _ => ⟨rfl, e537, (by decide : 13 + 0 ≤ _), (by decide : 40 + 0 ≤ _)⟩)
          dsimp only [Pt.U, Pt.locs, Pt.cells, Pt.slots] at X538 l538 y538 z538 st538 hQ538
          subst l538 y538 z538
          obtain ⟨rfl, Nq538, K538⟩ := hQ538
          have N538 := Fr.app N535 Nq538
          refine own_by (fun _ k => XS.iconst X528.here hx rfl (hb hby at_175) (XS.icmpNo X528.here hx rfl (hb hby at_176) rfl (flt (by decide : ¬ ((3 : Int32) < (3 : Int32)))).1 (XS.aload X528.here hx rfl (hb hby at_179) rfl rfl (st530 _ (XS.dup X530.here hx rfl (hb hby at_184) rfl rfl (st532 _ (XS.dup X532.here hx rfl (hb hby at_188) rfl rfl (XS.aload X532.here hx rfl (hb hby at_189) rfl rfl (st535.trans (st537 _ k)))))))))) ?_
          show own_Fin _ _ _ _ _ _ _ T537 (mkF m 197 #[Iv p1, Iv p2, Iv p3, Iv u, Iv tgd, Iv 3, Rv b496, Nv, Rv b503, Iv 1, Rv b508, Uv, Uv] [(.ref ci), (.ref b532), (.ref b530), (.ref b530), (.ref b508)])
          have Zs538 : n0 ≤ T538.heap.size := Nat.le_trans Zs535 K538.1
          have f539_0 : Old Z n0 T538.heap := f536_0.keep K538 (allS gf530 all0)
          have f539_1 : Arv Z T538.heap b496 k496 .char (2 : Int32) [(.int ((p2 &&& (255 : Int32)).toUInt32.toUInt16.toUInt32.toInt32).toUInt32.toUInt16.toUInt32.toInt32), (.int ((p3 &&& (255 : Int32)).toUInt32.toUInt16.toUInt32.toInt32).toUInt32.toUInt16.toUInt32.toInt32)] (.int (0 : Int32)) := f536_1.keep K538 (ninS ne530_b496 nin0)
          have f539_2 : Exa Z T538.heap b503 "com/example/lithe_checker/lithechecker/c/CType$StructType" := f536_2.keep K538
          have f539_3 : Fld Z T538.heap b503 "com/example/lithe_checker/lithechecker/c/CType$StructType" "members" "Ljava/util/List;" .null := f536_3.keep K538 (ninS ne530_b503 nin0)
          have f539_4 : Exa Z T538.heap b508 "java/util/ArrayList" := f536_4.keep K538
          have f539_5 : Exa Z T538.heap b512 "com/example/lithe_checker/lithechecker/c/CType$Member" := f536_5.keep K538
          have f539_6 : Exa Z T538.heap b514 "java/lang/String" := f536_6.keep K538
          have f539_7 : Exa Z T538.heap b519 "[Ljava/lang/Object;" := f536_7.keep K538
          have f539_8 : Exa Z T538.heap b521 "com/example/lithe_checker/lithechecker/c/CType$Member" := f536_8.keep K538
          have f539_9 : Exa Z T538.heap b523 "java/lang/String" := f536_9.keep K538
          have f539_10 : Fld Z T538.heap b508 "java/util/AbstractList" "modCount" "I" (.int (((0 : Int32) + (1 : Int32)) + (1 : Int32))) := f536_10.keep K538 (ninS ne530_b508 nin0)
          have f539_11 : Fld Z T538.heap b508 "java/util/ArrayList" "elementData" "[Ljava/lang/Object;" (.ref b519) := f536_11.keep K538 (ninS ne530_b508 nin0)
          have f539_12 : Fld Z T538.heap b508 "java/util/ArrayList" "size" "I" (.int (2 : Int32)) := f536_12.keep K538 (ninS ne530_b508 nin0)
          have f539_13 : Arv Z T538.heap b519 k519 (.object "java/lang/Object") (10 : Int32) [(.ref b512), (.ref b521), .null, .null, .null, .null, .null, .null, .null, .null] .null := f536_13.keep K538 (ninS ne530_b519 nin0)
          have f539_14 : Exa Z T538.heap b530 "com/example/lithe_checker/lithechecker/c/CType$Member" := f536_14.keep K538
          have f539_17 : Exa Z T538.heap b532 "java/lang/String" := f536_17.keep K538
          obtain ⟨cq540, kq540, q540a, q540b, q540c⟩ := isOf hZ rfl f539_4
          obtain ⟨_, _, ⟨T540, L540, k540, n540⟩, -, X540, ⟨Lc540, hQ540, l540, y540, z540⟩, st540⟩ := X538.virtualBack hx (y := mn11) (z := mn11) hown (own_m hZ hw 138) (own_m hZ hw 139) (notFace_of_selects (args := #[]) (own_m hZ hw 141)) (own_m hZ hw 141) (own_m hZ hw 140) (by decide) (backOf (W := 0) (rmA2 l Z a0 hw [] cs da el ea em ci mm kd ke b508 b519 k519 b512 b521 b530 (((0 : Int32) + (1 : Int32)) + (1 : Int32)) T538.heap n0 Zs538 V_env f539_0 f539_4 f539_10 f539_11 f539_12 gf508 f539_13 f539_7 Ov519 gf519 ne519_b508 f539_14) hZ (own_g hw 142) (own_g hw 28) (by decide) (by decide)) q540a q540c (g := (mkF m 200 #[Iv p1, Iv p2, Iv p3, Iv u, Iv tgd, Iv 3, Rv b496, Nv, Rv b503, Iv 1, Rv b508, Uv, Uv] [(.ref b530), (.ref b508)])) rfl (by rw [hml]; rfl) (Steps.refl _) (argsL := [(.ref b530)]) (rest := []) (lenOf own_pd452 rfl) rfl (own_z rfl) (hb hby at_200) (fun _ _ => ⟨rfl, rfl, (by decide : 13 + 0 ≤ _), (by decide : 40 + 0 ≤ _)⟩)
          dsimp only [Pt.U, Pt.locs, Pt.cells, Pt.slots] at X540 l540 y540 z540 st540 hQ540
          subst l540 y540 z540
          obtain ⟨rfl, Nq540, K540, Gm540, Ge540, Gs540, V540, Eb540⟩ := hQ540
          have N540 := Fr.app N538 Nq540
          have Zs540 : n0 ≤ T540.heap.size := Nat.le_trans Zs538 K540.1
          have f541_0 : Old Z n0 T540.heap := f539_0.keep K540 (allS gf508 (allS gf519 all0))
          have f541_1 : Arv Z T540.heap b496 k496 .char (2 : Int32) [(.int ((p2 &&& (255 : Int32)).toUInt32.toUInt16.toUInt32.toInt32).toUInt32.toUInt16.toUInt32.toInt32), (.int ((p3 &&& (255 : Int32)).toUInt32.toUInt16.toUInt32.toInt32).toUInt32.toUInt16.toUInt32.toInt32)] (.int (0 : Int32)) := f539_1.keep K540 (ninS ne508_b496 (ninS ne519_b496 nin0))
          have f541_2 : Exa Z T540.heap b503 "com/example/lithe_checker/lithechecker/c/CType$StructType" := f539_2.keep K540
          have f541_3 : Fld Z T540.heap b503 "com/example/lithe_checker/lithechecker/c/CType$StructType" "members" "Ljava/util/List;" .null := f539_3.keep K540 (ninS ne508_b503 (ninS ne519_b503 nin0))
          have f541_4 : Exa Z T540.heap b508 "java/util/ArrayList" := f539_4.keep K540
          have f541_5 : Exa Z T540.heap b512 "com/example/lithe_checker/lithechecker/c/CType$Member" := f539_5.keep K540
          have f541_6 : Exa Z T540.heap b514 "java/lang/String" := f539_6.keep K540
          have f541_7 : Exa Z T540.heap b519 "[Ljava/lang/Object;" := f539_7.keep K540
          have f541_8 : Exa Z T540.heap b521 "com/example/lithe_checker/lithechecker/c/CType$Member" := f539_8.keep K540
          have f541_9 : Exa Z T540.heap b523 "java/lang/String" := f539_9.keep K540
          have f541_14 : Exa Z T540.heap b530 "com/example/lithe_checker/lithechecker/c/CType$Member" := f539_14.keep K540
          have f541_15 : Exa Z T540.heap b532 "java/lang/String" := f539_17.keep K540
          obtain ⟨cq542, kq542, q542a, q542b, q542c⟩ := isOf hZ rfl f541_2
          obtain ⟨_, _, ⟨T542, L542, k542, n542⟩, -, X542, ⟨Lc542, hQ542, l542, y542, z542⟩, st542⟩ := X540.virtualBack hx (y := mn32) (z := mn32) hown (own_m hZ hw 50) (own_m hZ hw 51) (notFace_of_selects (args := #[]) (own_m hZ hw 53)) (own_m hZ hw 53) (own_m hZ hw 52) (by decide) (backOf (W := 0) (rmCo3 l Z a0 hw [] cs da el ea em ci mm kd ke b503 b508 b519 k519 b512 b521 b530 T540.heap n0 Zs540 V_env f541_0 f541_2 f541_3 gf503 f541_4 Ge540 Gs540 V540 Eb540 f541_5 f541_8 f541_14 ne508_b503) hZ (own_g hw 54) (own_g hw 3) (by decide) (by decide)) q542a q542c (g := (mkF m 208 #[Iv p1, Iv p2, Iv p3, Iv u, Iv tgd, Iv 3, Rv b496, Nv, Rv b503, Iv 1, Rv b508, Uv, Uv] [(.ref b508), (.ref b503)])) rfl (by rw [hml]; rfl) (Steps.refl _) (argsL := [(.ref b508)]) (rest := []) (lenOf own_pd447 rfl) rfl (own_z rfl) (hb hby at_208) (fun _ _ => ⟨rfl, rfl, (by decide : 13 + 3 ≤ _), (by decide : 40 + 8 ≤ _)⟩)
          dsimp only [Pt.U, Pt.locs, Pt.cells, Pt.slots] at X542 l542 y542 z542 st542 hQ542
          subst l542 y542 z542
          obtain ⟨q542, vq542, kq542, rfl, Nq542, K542, Gm542, Eq542, Gq542, Vq542, -⟩ := hQ542
          have N542 := Fr.app N540 Nq542
          have Zs542 : n0 ≤ T542.heap.size := Nat.le_trans Zs540 K542.1
          have f543_0 : Old Z n0 T542.heap := f541_0.keep K542 (allS gf503 all0)
          have f543_1 : Arv Z T542.heap b496 k496 .char (2 : Int32) [(.int ((p2 &&& (255 : Int32)).toUInt32.toUInt16.toUInt32.toInt32).toUInt32.toUInt16.toUInt32.toInt32), (.int ((p3 &&& (255 : Int32)).toUInt32.toUInt16.toUInt32.toInt32).toUInt32.toUInt16.toUInt32.toInt32)] (.int (0 : Int32)) := f541_1.keep K542 (ninS ne503_b496 nin0)
          have f543_2 : Exa Z T542.heap b503 "com/example/lithe_checker/lithechecker/c/CType$StructType" := f541_2.keep K542
          have f543_4 : Exa Z T542.heap b508 "java/util/ArrayList" := f541_4.keep K542
          have f543_5 : Exa Z T542.heap b512 "com/example/lithe_checker/lithechecker/c/CType$Member" := f541_5.keep K542
          have f543_6 : Exa Z T542.heap b514 "java/lang/String" := f541_6.keep K542
          have f543_7 : Exa Z T542.heap b519 "[Ljava/lang/Object;" := Eb540.keep K542
          have f543_8 : Exa Z T542.heap b521 "com/example/lithe_checker/lithechecker/c/CType$Member" := f541_8.keep K542
          have f543_9 : Exa Z T542.heap b523 "java/lang/String" := f541_9.keep K542
          have f543_10 : Exa Z T542.heap b530 "com/example/lithe_checker/lithechecker/c/CType$Member" := f541_14.keep K542
          have f543_11 : Exa Z T542.heap b532 "java/lang/String" := f541_15.keep K542
          have f543_12 : Fld Z T542.heap b508 "java/util/AbstractList" "modCount" "I" (.int ((((0 : Int32) + (1 : Int32)) + (1 : Int32)) + (1 : Int32))) := Gm540.keep K542 (ninS (Ne.symm ne508_b503) nin0)
          have f543_13 : Fld Z T542.heap b508 "java/util/ArrayList" "elementData" "[Ljava/lang/Object;" (.ref b519) := Ge540.keep K542 (ninS (Ne.symm ne508_b503) nin0)
          have f543_14 : Fld Z T542.heap b508 "java/util/ArrayList" "size" "I" (.int (3 : Int32)) := Gs540.keep K542 (ninS (Ne.symm ne508_b503) nin0)
          have f543_15 : Arv Z T542.heap b519 k519 (.object "java/lang/Object") (10 : Int32) [(.ref b512), (.ref b521), (.ref b530), .null, .null, .null, .null, .null, .null, .null] .null := V540.keep K542 (ninS (Ne.symm ne519_b503) nin0)
          obtain ⟨cq544, kq544, q544a, q544b, q544c⟩ := isOf hZ rfl f543_2
          obtain ⟨_, _, ⟨T544, L544, k544, n544⟩, -, X544, ⟨Lc544, hQ544, l544, y544, z544⟩, st544⟩ := X542.virtualBack hx (y := mn30) (z := mn30) hown (own_m hZ hw 19) (own_m hZ hw 20) (notFace_of_selects (args := #[]) (own_m hZ hw 22)) (own_m hZ hw 22) (own_m hZ hw 21) (by decide) (backOf (W := 0) (rmIc1 l Z a0 hw [] b503 q542 T542.heap n0 Zs542 Gm542) hZ (own_g hw 23) (own_g hw 3) (by decide) (by decide)) q544a q544c (g := (mkF m 213 #[Iv p1, Iv p2, Iv p3, Iv u, Iv tgd, Iv 3, Rv b496, Nv, Rv b503, Iv 1, Rv b508, Uv, Uv] [(.ref b503)])) rfl (by rw [hml]; rfl) (Steps.refl _) (argsL := []) (rest := []) (lenOf own_pd251 rfl) rfl (own_z rfl) (hb hby at_213) (fun _ _ => ⟨rfl, rfl, (by decide : 16 + 0 ≤ _), (by decide : 48 + 0 ≤ _)⟩)
          dsimp only [Pt.U, Pt.locs, Pt.cells, Pt.slots] at X544 l544 y544 z544 st544 hQ544
          subst l544 y544 z544
          obtain ⟨rfl, Nq544, eh544⟩ := hQ544
          have N544 := Fr.app N542 Nq544
          obtain ⟨cq545, kq545, q545a, q545b, q545c⟩ := isOf hZ eh544 f543_2
          obtain ⟨_, _, ⟨T545, L545, k545, n545⟩, -, X545, ⟨Lc545, hQ545, l545, y545, z545⟩, st545⟩ := X544.virtualBack hx (y := mn31) (z := mn31) hown (own_m hZ hw 84) (own_m hZ hw 85) (notFace_of_selects (args := #[]) (own_m hZ hw 87)) (own_m hZ hw 87) (own_m hZ hw 86) (by decide) (backOf (W := 0) (rmMb l Z a0 hw [] b503 q542 T542.heap n0 Zs542 Gm542) hZ (own_g hw 88) (own_g hw 3) (by decide) (by decide)) q545a q545c (g := (mkF m 220 #[Iv p1, Iv p2, Iv p3, Iv u, Iv tgd, Iv 3, Rv b496, Nv, Rv b503, Iv 1, Rv b508, Iv 1, Uv] [(.ref b503)])) rfl (by rw [hml]; rfl) (Steps.refl _) (argsL := []) (rest := []) (lenOf own_pd280 rfl) rfl (own_z rfl) (hb hby at_220) (fun _ _ => ⟨rfl, eh544, (by decide : 16 + 0 ≤ _), (by decide : 48 + 0 ≤ _)⟩)
          dsimp only [Pt.U, Pt.locs, Pt.cells, Pt.slots] at X545 l545 y545 z545 st545 hQ545
          subst l545 y545 z545
          obtain ⟨rfl, Nq545, eh545⟩ := hQ545
          have N545 := Fr.app N544 Nq545
          refine own_by (fun _ k => st538.trans (st540.trans (XS.pop X540.here hx rfl (hb hby at_203) rfl rfl (XS.aload X540.here hx rfl (hb hby at_204) rfl rfl (XS.aload X540.here hx rfl (hb hby at_206) rfl rfl (st542.trans (XS.aload X542.here hx rfl (hb hby at_211) rfl rfl (st544.trans (XS.istore X544.here hx rfl (hb hby at_216) rfl (l' := #[Iv p1, Iv p2, Iv p3, Iv u, Iv tgd, Iv 3, Rv b496, Nv, Rv b503, Iv 1, Rv b508, Iv 1, Uv]) rfl (XS.aload X544.here hx rfl (hb hby at_218) rfl rfl k)))))))))) ?_
          show own_Fin _ _ _ _ _ _ _ T544 (mkF m 220 #[Iv p1, Iv p2, Iv p3, Iv u, Iv tgd, Iv 3, Rv b496, Nv, Rv b503, Iv 1, Rv b508, Iv 1, Uv] [(.ref b503)])
          obtain ⟨cq546, kq546, q546a, q546b, q546c⟩ := isOf hZ eh545 Eq542
          obtain ⟨_, _, ⟨T546, L546, k546, n546⟩, -, X546, ⟨Lc546, hQ546, l546, y546, z546⟩, st546⟩ := X545.interfaceBack hx (xi := mn43) (y := mn20) hown (own_m hZ hw 89) (own_m hZ hw 90) (own_m hZ hw 91) (own_m hZ hw 92) (own_m hZ hw 93) (own_m hZ hw 94) (own_m hZ hw 95) (own_m hZ hw 96) (by decide) (backOf (W := 0) (rmZN l Z a0 hw [] q542 vq542 kq542 (3 : Int32) [(.ref b512), (.ref b521), (.ref b530)] T542.heap n0 Zs542 Gq542 Vq542) hZ (own_g hw 98) (own_g hw 97) (by decide) (by decide)) q546a q546b q546c (g := (mkF m 223 #[Iv p1, Iv p2, Iv p3, Iv u, Iv tgd, Iv 3, Rv b496, Nv, Rv b503, Iv 1, Rv b508, Iv 1, Uv] [(.ref q542)])) rfl (by rw [hml]; rfl) (Steps.refl _) (argsL := []) (rest := []) (lenOf own_pd448 rfl) rfl (own_z rfl) (hb hby at_223) (fun _ _ => ⟨rfl, eh545, (by decide : 16 + 0 ≤ _), (by decide : 48 + 0 ≤ _)⟩)
          dsimp only [Pt.U, Pt.locs, Pt.cells, Pt.slots] at X546 l546 y546 z546 st546 hQ546
          subst l546 y546 z546
          obtain ⟨rfl, Nq546, eh546⟩ := hQ546
          have N546 := Fr.app N545 Nq546
          refine own_by (fun _ k => st545.trans (st546.trans (XS.iload X546.here hx rfl (hb hby at_228) rfl (XS.icmpNo X546.here hx rfl (hb hby at_230) rfl (teq (by decide : (3 : Int32) = (3 : Int32))).2 (XS.iconst X546.here hx rfl (hb hby at_233) (XS.goto X546.here hx rfl (pc0 := 234) (pc' := 238) rfl (hb hby at_234) (by decide) (by decide) (XS.istore X546.here hx rfl (hb hby at_238) rfl (l' := #[Iv p1, Iv p2, Iv p3, Iv u, Iv tgd, Iv 3, Rv b496, Nv, Rv b503, Iv 1, Rv b508, Iv 1, Iv 1]) rfl (XS.iload X546.here hx rfl (hb hby at_240) rfl (XS.ifNo X546.here hx rfl (hb hby at_242) rfl ((if0 _ _).trans (feq (by decide : ¬ ((1 : Int32) = (0 : Int32)))).1) (XS.iload X546.here hx rfl (hb hby at_245) rfl k)))))))))) ?_
          show own_Fin _ _ _ _ _ _ _ T546 (mkF m 247 #[Iv p1, Iv p2, Iv p3, Iv u, Iv tgd, Iv 3, Rv b496, Nv, Rv b503, Iv 1, Rv b508, Iv 1, Iv 1] [(.int 1)])
          refine own_by (fun _ k => XS.ifNo X546.here hx rfl (hb hby at_247) rfl ((if0 _ _).trans (feq (by decide : ¬ ((1 : Int32) = (0 : Int32)))).1) (XS.iload X546.here hx rfl (hb hby at_250) rfl (XS.ifNo X546.here hx rfl (hb hby at_252) rfl ((if0 _ _).trans (feq (by decide : ¬ ((1 : Int32) = (0 : Int32)))).1) (XS.iconst X546.here hx rfl (hb hby at_255) (XS.goto X546.here hx rfl (pc0 := 256) (pc' := 260) rfl (hb hby at_256) (by decide) (by decide) k))))) ?_
          exact own_retZ X546 hx hlk (t := .boolean) Bd.returns (by simp) (hb hby at_260) ⟨rfl, N546⟩ (by decide) (by decide)
        · show own_Fin _ _ _ _ _ _ _ T500 (mkF m 57 #[Iv p1, Iv p2, Iv p3, Iv u, Iv tgd, Iv 3, Rv b496, Uv, Uv, Uv, Uv, Uv, Uv] [(.int tgd)])
          obtain ⟨T547, h547, X547, e547, E547, A547, D547, -, st547⟩ := newO X500 hx hZ hown (own_g hw 236) (own_g hw 114) (own_g hw 106) e500 (g := (mkF m 60 #[Iv p1, Iv p2, Iv p3, Iv u, Iv tgd, Iv 3, Rv b496, Uv, Uv, Uv, Uv, Uv, Uv] [])) rfl (hb hby at_60) (by decide) (by decide)
          obtain ⟨b547, g547⟩ : ∃ z, z = h500.size := ⟨_, rfl⟩
          rw [← g547] at A547 D547 st547
          have ne547_b496 : b496 ≠ b547 := Nat.ne_of_lt (Nat.lt_of_lt_of_le V500.lt (Nat.le_of_eq g547.symm))
          have gf547 : n0 ≤ b547 := Nat.le_trans Zs500 (Nat.le_of_eq g547.symm)
          have Zs547 : n0 ≤ h547.size := Nat.le_trans Zs500 E547.1
          have f548_0 : Old Z n0 h547 := f501_0.ext E547
          have f548_1 : Arv Z h547 b496 k496 .char (2 : Int32) [(.int ((p2 &&& (255 : Int32)).toUInt32.toUInt16.toUInt32.toInt32).toUInt32.toUInt16.toUInt32.toInt32), (.int ((p3 &&& (255 : Int32)).toUInt32.toUInt16.toUInt32.toInt32).toUInt32.toUInt16.toUInt32.toInt32)] (.int (0 : Int32)) := V500.ext E547
          have F547_value : Fld Z h547 b547 "java/lang/String" "value" "[B" .null := D547 (Or.inr (own_g hw 125)) (ty := (.array .byte)) (by decide)
          have F547_coder : Fld Z h547 b547 "java/lang/String" "coder" "B" (.int (0 : Int32)) := D547 (Or.inr (own_g hw 127)) (ty := .byte) (by decide)
          have Vt549 : Arv Z h547 b496 k496 .char (2 : Int32) [(.int ((p2 &&& (255 : Int32)).toUInt32.toUInt16.toUInt32.toInt32)), (.int ((p3 &&& (255 : Int32)).toUInt32.toUInt16.toUInt32.toInt32))] (.int (0 : Int32)) := by have q := f548_1; simp only [own_c16] at q; exact q
          obtain ⟨_, _, ⟨T550, L550, k550, n550⟩, -, X550, ⟨Lc550, hQ550, l550, y550, z550⟩, st550⟩ := X547.specialBack hx (y := mn37) rfl hown (own_m hZ hw 237) (own_m hZ hw 238) (own_m hZ hw 239) (by decide) (backOf (W := 1) (rmSC2 l Z a0 hw [] b547 b496 k496 cs ((p2 &&& (255 : Int32)).toUInt32.toUInt16.toUInt32.toInt32) ((p3 &&& (255 : Int32)).toUInt32.toUInt16.toUInt32.toInt32) h547 n0 Zs547 A547 F547_value F547_coder gf547 Vt549 ne547_b496 (own_lat p2) (own_lat p3) (V_env.1.ext f548_0.2) V_env.2.1) hZ (own_g hw 239) (own_g hw 106) (by decide) (by decide)) (g := (mkF m 66 #[Iv p1, Iv p2, Iv p3, Iv u, Iv tgd, Iv 3, Rv b496, Uv, Uv, Uv, Uv, Uv, Uv] [(.ref b496), (.ref b547), (.ref b547)])) rfl (by rw [hml]; rfl) (Steps.refl _) (a := b547) (argsL := [(.ref b496)]) (rest := [(.ref b547)]) (lenOf own_pd449 rfl) rfl (own_z rfl) (hb hby at_66) (fun _ _ => ⟨rfl, e547, (by decide : 2 + 1 ≤ _), (by decide : 6 + 2 ≤ _)⟩)
          dsimp only [Pt.U, Pt.locs, Pt.cells, Pt.slots] at X550 l550 y550 z550 st550 hQ550
          subst l550 y550 z550
          obtain ⟨bs550, ks550, rfl, Nq550, K550, Gc550, Gv550, Vs550⟩ := hQ550
          have N550 := Fr.app N500 Nq550
          have Zs550 : n0 ≤ T550.heap.size := Nat.le_trans Zs547 K550.1
          have f551_0 : Old Z n0 T550.heap := f548_0.keep K550 (allS gf547 all0)
          have f551_1 : Arv Z T550.heap b496 k496 .char (2 : Int32) [(.int ((p2 &&& (255 : Int32)).toUInt32.toUInt16.toUInt32.toInt32).toUInt32.toUInt16.toUInt32.toInt32), (.int ((p3 &&& (255 : Int32)).toUInt32.toUInt16.toUInt32.toInt32).toUInt32.toUInt16.toUInt32.toInt32)] (.int (0 : Int32)) := f548_1.keep K550 (ninS ne547_b496 nin0)
          have f551_2 : Exa Z T550.heap b547 "java/lang/String" := A547.keep K550
          obtain ⟨T552, h552, X552, e552, E552, A552, D552, -, st552⟩ := newO X550 hx hZ hown (own_g hw 1) (own_g hw 2) (own_g hw 3) rfl (g := (mkF m 75 #[Iv p1, Iv p2, Iv p3, Iv u, Iv tgd, Iv 3, Rv b496, Rv b547, Uv, Uv, Uv, Uv, Uv] [])) rfl (hb hby at_75) (by decide) (by decide)
          obtain ⟨b552, g552⟩ : ∃ z, z = T550.heap.size := ⟨_, rfl⟩
          rw [← g552] at A552 D552 st552
          have ne552_b496 : b496 ≠ b552 := Nat.ne_of_lt (Nat.lt_of_lt_of_le f551_1.lt (Nat.le_of_eq g552.symm))
          have ne552_b547 : b547 ≠ b552 := Nat.ne_of_lt (Nat.lt_of_lt_of_le f551_2.lt (Nat.le_of_eq g552.symm))
          have gf552 : n0 ≤ b552 := Nat.le_trans Zs550 (Nat.le_of_eq g552.symm)
          have Zs552 : n0 ≤ h552.size := Nat.le_trans Zs550 E552.1
          have f553_0 : Old Z n0 h552 := f551_0.ext E552
          have f553_1 : Arv Z h552 b496 k496 .char (2 : Int32) [(.int ((p2 &&& (255 : Int32)).toUInt32.toUInt16.toUInt32.toInt32).toUInt32.toUInt16.toUInt32.toInt32), (.int ((p3 &&& (255 : Int32)).toUInt32.toUInt16.toUInt32.toInt32).toUInt32.toUInt16.toUInt32.toInt32)] (.int (0 : Int32)) := f551_1.ext E552
          have f553_2 : Exa Z h552 b547 "java/lang/String" := f551_2.ext E552
          have F552_union : Fld Z h552 b552 "com/example/lithe_checker/lithechecker/c/CType$StructType" "union" "Z" (.int (0 : Int32)) := D552 (Or.inr (own_g hw 16)) (ty := .boolean) (by decide)
          have F552_tag : Fld Z h552 b552 "com/example/lithe_checker/lithechecker/c/CType$StructType" "tag" "Ljava/lang/String;" .null := D552 (Or.inr (own_g hw 18)) (ty := (.object "java/lang/String")) (by decide)
          have F552_members : Fld Z h552 b552 "com/example/lithe_checker/lithechecker/c/CType$StructType" "members" "Ljava/util/List;" .null := D552 (Or.inl (own_g hw 25)) (ty := (.object "java/util/List")) (by decide)
          refine own_by (fun _ k => XS.ifNo X500.here hx rfl (hb hby at_57) rfl ((if0 _ _).trans (feq hc57_502).1) (st547 _ (XS.dup X547.here hx rfl (hb hby at_63) rfl rfl (XS.aload X547.here hx rfl (hb hby at_64) rfl rfl (st550.trans (XS.goto X550.here hx rfl (pc0 := 69) (pc' := 73) rfl (hb hby at_69) (by decide) (by decide) (XS.astore X550.here hx rfl (hb hby at_73) rfl rfl (l' := #[Iv p1, Iv p2, Iv p3, Iv u, Iv tgd, Iv 3, Rv b496, Rv b547, Uv, Uv, Uv, Uv, Uv]) rfl (st552 _ (XS.dup X552.here hx rfl (hb hby at_78) rfl rfl (XS.iloadN X552.here hx rfl (hb hby at_79) rfl k)))))))))) ?_
          show own_Fin _ _ _ _ _ _ _ T552 (mkF m 80 #[Iv p1, Iv p2, Iv p3, Iv u, Iv tgd, Iv 3, Rv b496, Rv b547, Uv, Uv, Uv, Uv, Uv] [(.int u), (.ref b552), (.ref b552)])
          obtain ⟨_, _, ⟨T554, L554, k554, n554⟩, -, X554, ⟨Lc554, hQ554, l554, y554, z554⟩, st554⟩ := X552.specialBack hx (y := mn29) rfl hown (own_m hZ hw 4) (own_m hZ hw 5) (own_m hZ hw 6) (by decide) (backOf (W := 1) (rmSI l Z a0 hw [] b552 u (.ref b547) h552 n0 Zs552 A552 F552_union F552_tag F552_members gf552 rfl) hZ (own_g hw 6) (own_g hw 3) (by decide) (by decide)) (g := (mkF m 82 #[Iv p1, Iv p2, Iv p3, Iv u, Iv tgd, Iv 3, Rv b496, Rv b547, Uv, Uv, Uv, Uv, Uv] [(.ref b547), (.int u), (.ref b552), (.ref b552)])) rfl (by rw [hml]; rfl) (Steps.refl _) (a := b552) (argsL := [(.int u), (.ref b547)]) (rest := [(.ref b552)]) (lenOf own_pd446 rfl) rfl (own_z rfl) (hb hby at_82) (fun _ _ => ⟨rfl, e552, (by decide : 4 + 0 ≤ _), (by decide : 11 + 0 ≤ _)⟩)
          dsimp only [Pt.U, Pt.locs, Pt.cells, Pt.slots] at X554 l554 y554 z554 st554 hQ554
          subst l554 y554 z554
          obtain ⟨rfl, Nq554, K554, Gm554⟩ := hQ554
          have N554 := Fr.app N550 Nq554
          have Zs554 : n0 ≤ T554.heap.size := Nat.le_trans Zs552 K554.1
          have f555_0 : Old Z n0 T554.heap := f553_0.keep K554 (allS gf552 all0)
          have f555_1 : Arv Z T554.heap b496 k496 .char (2 : Int32) [(.int ((p2 &&& (255 : Int32)).toUInt32.toUInt16.toUInt32.toInt32).toUInt32.toUInt16.toUInt32.toInt32), (.int ((p3 &&& (255 : Int32)).toUInt32.toUInt16.toUInt32.toInt32).toUInt32.toUInt16.toUInt32.toInt32)] (.int (0 : Int32)) := f553_1.keep K554 (ninS ne552_b496 nin0)
          have f555_2 : Exa Z T554.heap b547 "java/lang/String" := f553_2.keep K554
          have f555_3 : Exa Z T554.heap b552 "com/example/lithe_checker/lithechecker/c/CType$StructType" := A552.keep K554
          obtain ⟨cq556, kq556, q556a, q556b, q556c⟩ := isOf hZ rfl f555_3
          obtain ⟨_, _, ⟨T556, L556, k556, n556⟩, -, X556, ⟨Lc556, hQ556, l556, y556, z556⟩, st556⟩ := X554.virtualBack hx (y := mn30) (z := mn30) hown (own_m hZ hw 19) (own_m hZ hw 20) (notFace_of_selects (args := #[]) (own_m hZ hw 22)) (own_m hZ hw 22) (own_m hZ hw 21) (by decide) (backOf (W := 0) (rmIc0 l Z a0 hw [] b552 T554.heap n0 Zs554 Gm554) hZ (own_g hw 23) (own_g hw 3) (by decide) (by decide)) q556a q556c (g := (mkF m 89 #[Iv p1, Iv p2, Iv p3, Iv u, Iv tgd, Iv 3, Rv b496, Rv b547, Rv b552, Uv, Uv, Uv, Uv] [(.ref b552)])) rfl (by rw [hml]; rfl) (Steps.refl _) (argsL := []) (rest := []) (lenOf own_pd251 rfl) rfl (own_z rfl) (hb hby at_89) (fun _ _ => ⟨rfl, rfl, (by decide : 4 + 0 ≤ _), (by decide : 11 + 0 ≤ _)⟩)
          dsimp only [Pt.U, Pt.locs, Pt.cells, Pt.slots] at X556 l556 y556 z556 st556 hQ556
          subst l556 y556 z556
          obtain ⟨rfl, Nq556, eh556⟩ := hQ556
          have N556 := Fr.app N554 Nq556
          obtain ⟨T557, h557, X557, e557, E557, A557, D557, -, st557⟩ := newO X556 hx hZ hown (own_g hw 26) (own_g hw 27) (own_g hw 28) eh556 (g := (mkF m 102 #[Iv p1, Iv p2, Iv p3, Iv u, Iv tgd, Iv 3, Rv b496, Rv b547, Rv b552, Iv 1, Uv, Uv, Uv] [])) rfl (hb hby at_102) (by decide) (by decide)
          obtain ⟨b557, g557⟩ : ∃ z, z = T554.heap.size := ⟨_, rfl⟩
          rw [← g557] at A557 D557 st557
          have ne557_b496 : b496 ≠ b557 := Nat.ne_of_lt (Nat.lt_of_lt_of_le f555_1.lt (Nat.le_of_eq g557.symm))
          have ne557_b547 : b547 ≠ b557 := Nat.ne_of_lt (Nat.lt_of_lt_of_le f555_2.lt (Nat.le_of_eq g557.symm))
          have ne557_b552 : b552 ≠ b557 := Nat.ne_of_lt (Nat.lt_of_lt_of_le f555_3.lt (Nat.le_of_eq g557.symm))
          have gf557 : n0 ≤ b557 := Nat.le_trans Zs554 (Nat.le_of_eq g557.symm)
          have Zs557 : n0 ≤ h557.size := Nat.le_trans Zs554 E557.1
          have f558_0 : Old Z n0 h557 := f555_0.ext E557
          have f558_1 : Arv Z h557 b496 k496 .char (2 : Int32) [(.int ((p2 &&& (255 : Int32)).toUInt32.toUInt16.toUInt32.toInt32).toUInt32.toUInt16.toUInt32.toInt32), (.int ((p3 &&& (255 : Int32)).toUInt32.toUInt16.toUInt32.toInt32).toUInt32.toUInt16.toUInt32.toInt32)] (.int (0 : Int32)) := f555_1.ext E557
          have f558_2 : Exa Z h557 b547 "java/lang/String" := f555_2.ext E557
          have f558_3 : Exa Z h557 b552 "com/example/lithe_checker/lithechecker/c/CType$StructType" := f555_3.ext E557
          have f558_4 : Fld Z h557 b552 "com/example/lithe_checker/lithechecker/c/CType$StructType" "members" "Ljava/util/List;" .null := Gm554.ext E557
          have F557_modCount : Fld Z h557 b557 "java/util/AbstractList" "modCount" "I" (.int (0 : Int32)) := D557 (Or.inl (own_g hw 46)) (ty := .int) (by decide)
          have F557_elementData : Fld Z h557 b557 "java/util/ArrayList" "elementData" "[Ljava/lang/Object;" .null := D557 (Or.inl (own_g hw 49)) (ty := (.array (.object "java/lang/Object"))) (by decide)
          have F557_size : Fld Z h557 b557 "java/util/ArrayList" "size" "I" (.int (0 : Int32)) := D557 (Or.inl (own_g hw 79)) (ty := .int) (by decide)
          refine own_by (fun _ k => XS.aload X552.here hx rfl (hb hby at_80) rfl rfl (st554.trans (XS.astore X554.here hx rfl (hb hby at_85) rfl rfl (l' := #[Iv p1, Iv p2, Iv p3, Iv u, Iv tgd, Iv 3, Rv b496, Rv b547, Rv b552, Uv, Uv, Uv, Uv]) rfl (XS.aload X554.here hx rfl (hb hby at_87) rfl rfl (st556.trans (XS.ifNo X556.here hx rfl (hb hby at_92) rfl ((if0 _ _).trans (teq (by decide : (0 : Int32) = (0 : Int32))).2) (XS.iconst X556.here hx rfl (hb hby at_95) (XS.goto X556.here hx rfl (pc0 := 96) (pc' := 100) rfl (hb hby at_96) (by decide) (by decide) (XS.istore X556.here hx rfl (hb hby at_100) rfl (l' := #[Iv p1, Iv p2, Iv p3, Iv u, Iv tgd, Iv 3, Rv b496, Rv b547, Rv b552, Iv 1, Uv, Uv, Uv]) rfl (st557 _ k)))))))))) ?_
          show own_Fin _ _ _ _ _ _ _ T557 (mkF m 105 #[Iv p1, Iv p2, Iv p3, Iv u, Iv tgd, Iv 3, Rv b496, Rv b547, Rv b552, Iv 1, Uv, Uv, Uv] [(.ref b557)])
          obtain ⟨_, _, ⟨T559, L559, k559, n559⟩, -, X559, ⟨Lc559, hQ559, l559, y559, z559⟩, st559⟩ := X557.specialBack hx (y := mn7) rfl hown (own_m hZ hw 29) (own_m hZ hw 30) (own_m hZ hw 31) (by decide) (backOf (W := 1) (rmALI l Z a0 hw [] cs da el ea em ci mm kd ke b557 h557 n0 Zs557 V_env f558_0 A557 F557_modCount F557_elementData F557_size gf557) hZ (own_g hw 31) (own_g hw 28) (by decide) (by decide)) (g := (mkF m 106 #[Iv p1, Iv p2, Iv p3, Iv u, Iv tgd, Iv 3, Rv b496, Rv b547, Rv b552, Iv 1, Uv, Uv, Uv] [(.ref b557), (.ref b557)])) rfl (by rw [hml]; rfl) (Steps.refl _) (a := b557) (argsL := []) (rest := [(.ref b557)]) (lenOf own_pd12 rfl) rfl (own_z rfl) (hb hby at_106) (fun _ _ => ⟨rfl, e557, (by decide : 5 + 0 ≤ _), (by decide : 14 + 0 ≤ _)⟩)
          dsimp only [Pt.U, Pt.locs, Pt.cells, Pt.slots] at X559 l559 y559 z559 st559 hQ559
          subst l559 y559 z559
          obtain ⟨rfl, Nq559, K559, Gm559, Ge559, Gs559⟩ := hQ559
          have N559 := Fr.app N556 Nq559
          have Zs559 : n0 ≤ T559.heap.size := Nat.le_trans Zs557 K559.1
          have f560_0 : Old Z n0 T559.heap := f558_0.keep K559 (allS gf557 all0)
          have f560_1 : Arv Z T559.heap b496 k496 .char (2 : Int32) [(.int ((p2 &&& (255 : Int32)).toUInt32.toUInt16.toUInt32.toInt32).toUInt32.toUInt16.toUInt32.toInt32), (.int ((p3 &&& (255 : Int32)).toUInt32.toUInt16.toUInt32.toInt32).toUInt32.toUInt16.toUInt32.toInt32)] (.int (0 : Int32)) := f558_1.keep K559 (ninS ne557_b496 nin0)
          have f560_2 : Exa Z T559.heap b547 "java/lang/String" := f558_2.keep K559
          have f560_3 : Exa Z T559.heap b552 "com/example/lithe_checker/lithechecker/c/CType$StructType" := f558_3.keep K559
          have f560_4 : Fld Z T559.heap b552 "com/example/lithe_checker/lithechecker/c/CType$StructType" "members" "Ljava/util/List;" .null := f558_4.keep K559 (ninS ne557_b552 nin0)
          have f560_5 : Exa Z T559.heap b557 "java/util/ArrayList" := A557.keep K559
          obtain ⟨T561, h561, X561, e561, E561, A561, D561, -, st561⟩ := newO X559 hx hZ hown (own_g hw 101) (own_g hw 102) (own_g hw 103) rfl (g := (mkF m 119 #[Iv p1, Iv p2, Iv p3, Iv u, Iv tgd, Iv 3, Rv b496, Rv b547, Rv b552, Iv 1, Rv b557, Uv, Uv] [(.ref b557)])) rfl (hb hby at_119) (by decide) (by decide)
          obtain ⟨b561, g561⟩ : ∃ z, z = T559.heap.size := ⟨_, rfl⟩
          rw [← g561] at A561 D561 st561
          have ne561_b496 : b496 ≠ b561 := Nat.ne_of_lt (Nat.lt_of_lt_of_le f560_1.lt (Nat.le_of_eq g561.symm))
          have ne561_b547 : b547 ≠ b561 := Nat.ne_of_lt (Nat.lt_of_lt_of_le f560_2.lt (Nat.le_of_eq g561.symm))
          have ne561_b552 : b552 ≠ b561 := Nat.ne_of_lt (Nat.lt_of_lt_of_le f560_3.lt (Nat.le_of_eq g561.symm))
          have ne561_b557 : b557 ≠ b561 := Nat.ne_of_lt (Nat.lt_of_lt_of_le f560_5.lt (Nat.le_of_eq g561.symm))
          have gf561 : n0 ≤ b561 := Nat.le_trans Zs559 (Nat.le_of_eq g561.symm)
          have Zs561 : n0 ≤ h561.size := Nat.le_trans Zs559 E561.1
          have f562_0 : Old Z n0 h561 := f560_0.ext E561
          have f562_1 : Arv Z h561 b496 k496 .char (2 : Int32) [(.int ((p2 &&& (255 : Int32)).toUInt32.toUInt16.toUInt32.toInt32).toUInt32.toUInt16.toUInt32.toInt32), (.int ((p3 &&& (255 : Int32)).toUInt32.toUInt16.toUInt32.toInt32).toUInt32.toUInt16.toUInt32.toInt32)] (.int (0 : Int32)) := f560_1.ext E561
          have f562_2 : Exa Z h561 b547 "java/lang/String" := f560_2.ext E561
          have f562_3 : Exa Z h561 b552 "com/example/lithe_checker/lithechecker/c/CType$StructType" := f560_3.ext E561
          have f562_4 : Fld Z h561 b552 "com/example/lithe_checker/lithechecker/c/CType$StructType" "members" "Ljava/util/List;" .null := f560_4.ext E561
          have f562_5 : Exa Z h561 b557 "java/util/ArrayList" := f560_5.ext E561
          have f562_6 : Fld Z h561 b557 "java/util/AbstractList" "modCount" "I" (.int (0 : Int32)) := Gm559.ext E561
          have f562_7 : Fld Z h561 b557 "java/util/ArrayList" "elementData" "[Ljava/lang/Object;" (.ref da) := Ge559.ext E561
          have f562_8 : Fld Z h561 b557 "java/util/ArrayList" "size" "I" (.int (0 : Int32)) := Gs559.ext E561
          have F561_name : Fld Z h561 b561 "com/example/lithe_checker/lithechecker/c/CType$Member" "name" "Ljava/lang/String;" .null := D561 (Or.inr (own_g hw 135)) (ty := (.object "java/lang/String")) (by decide)
          have F561_type : Fld Z h561 b561 "com/example/lithe_checker/lithechecker/c/CType$Member" "type" "Lcom/example/lithe_checker/lithechecker/c/CType;" .null := D561 (Or.inr (own_g hw 137)) (ty := (.object "com/example/lithe_checker/lithechecker/c/CType")) (by decide)
          refine own_by (fun _ k => XS.dup X557.here hx rfl (hb hby at_105) rfl rfl (st559.trans (XS.astore X559.here hx rfl (hb hby at_109) rfl rfl (l' := #[Iv p1, Iv p2, Iv p3, Iv u, Iv tgd, Iv 3, Rv b496, Rv b547, Rv b552, Iv 1, Rv b557, Uv, Uv]) rfl (XS.iload X559.here hx rfl (hb hby at_111) rfl (XS.iconst X559.here hx rfl (hb hby at_113) (XS.icmpNo X559.here hx rfl (hb hby at_114) rfl (flt (by decide : ¬ ((3 : Int32) < (1 : Int32)))).1 (XS.aload X559.here hx rfl (hb hby at_117) rfl rfl (st561 _ (XS.dup X561.here hx rfl (hb hby at_122) rfl rfl (XS.iloadN X561.here hx rfl (hb hby at_123) rfl k)))))))))) ?_
          show own_Fin _ _ _ _ _ _ _ T561 (mkF m 124 #[Iv p1, Iv p2, Iv p3, Iv u, Iv tgd, Iv 3, Rv b496, Rv b547, Rv b552, Iv 1, Rv b557, Uv, Uv] [(.int p2), (.ref b561), (.ref b561), (.ref b557)])
          obtain ⟨_, _, ⟨T563, L563, k563, n563⟩, -, X563, ⟨Lc563, hQ563, l563, y563, z563⟩, st563⟩ := LawKit.callS X561 hx (y := mn41) hown (own_m hZ hw 104) (own_m hZ hw 105) (own_m hZ hw 106) (own_m hZ hw 107) (by decide) (backOf (W := 3) (rmVO l Z a0 hw [] cs da el ea em ci mm kd ke ((p2 &&& (255 : Int32)).toUInt32.toUInt16.toUInt32.toInt32) h561 n0 Zs561 V_env f562_0 (own_lat p2)) hZ (own_g hw 107) (own_g hw 106) (by decide) (by decide)) (g := (mkF m 129 #[Iv p1, Iv p2, Iv p3, Iv u, Iv tgd, Iv 3, Rv b496, Rv b547, Rv b552, Iv 1, Rv b557, Uv, Uv] [(.int ((p2 &&& (255 : Int32)).toUInt32.toUInt16.toUInt32.toInt32)), (.ref b561), (.ref b561), (.ref b557)])) rfl (by rw [hml]; rfl) (argsL := [(.int ((p2 &&& (255 : Int32)).toUInt32.toUInt16.toUInt32.toInt32))]) (rest := [(.ref b561), (.ref b561), (.ref b557)]) (lenOf own_pd450 rfl) rfl (own_z rfl) (hb hby at_129) (fun _ _ => ⟨rfl, e561, (by decide : 6 + 2 ≤ _), (by decide : 16 + 5 ≤ _)⟩)
          dsimp only [Pt.U, Pt.locs, Pt.cells, Pt.slots] at X563 l563 y563 z563 st563 hQ563
          subst l563 y563 z563
          obtain ⟨b563, rfl, Nq563, K563, ge563, Ev563⟩ := hQ563
          have N563 := Fr.app N559 Nq563
          have Zs563 : n0 ≤ T563.heap.size := Nat.le_trans Zs561 K563.1
          have f564_0 : Old Z n0 T563.heap := f562_0.keep K563 all0
          have f564_1 : Arv Z T563.heap b496 k496 .char (2 : Int32) [(.int ((p2 &&& (255 : Int32)).toUInt32.toUInt16.toUInt32.toInt32).toUInt32.toUInt16.toUInt32.toInt32), (.int ((p3 &&& (255 : Int32)).toUInt32.toUInt16.toUInt32.toInt32).toUInt32.toUInt16.toUInt32.toInt32)] (.int (0 : Int32)) := f562_1.keep K563 nin0
          have f564_2 : Exa Z T563.heap b547 "java/lang/String" := f562_2.keep K563
          have f564_3 : Exa Z T563.heap b552 "com/example/lithe_checker/lithechecker/c/CType$StructType" := f562_3.keep K563
          have f564_4 : Fld Z T563.heap b552 "com/example/lithe_checker/lithechecker/c/CType$StructType" "members" "Ljava/util/List;" .null := f562_4.keep K563 nin0
          have f564_5 : Exa Z T563.heap b557 "java/util/ArrayList" := f562_5.keep K563
          have f564_6 : Fld Z T563.heap b557 "java/util/AbstractList" "modCount" "I" (.int (0 : Int32)) := f562_6.keep K563 nin0
          have f564_7 : Fld Z T563.heap b557 "java/util/ArrayList" "elementData" "[Ljava/lang/Object;" (.ref da) := f562_7.keep K563 nin0
          have f564_8 : Fld Z T563.heap b557 "java/util/ArrayList" "size" "I" (.int (0 : Int32)) := f562_8.keep K563 nin0
          have f564_9 : Exa Z T563.heap b561 "com/example/lithe_checker/lithechecker/c/CType$Member" := A561.keep K563
          have f564_10 : Fld Z T563.heap b561 "com/example/lithe_checker/lithechecker/c/CType$Member" "name" "Ljava/lang/String;" .null := F561_name.keep K563 nin0
          have f564_11 : Fld Z T563.heap b561 "com/example/lithe_checker/lithechecker/c/CType$Member" "type" "Lcom/example/lithe_checker/lithechecker/c/CType;" .null := F561_type.keep K563 nin0
          obtain ⟨T565, X565, e565, st565⟩ := getS2 X563 hx hZ hown (host := "") (Or.inl (own_g hw 128)) Via.refl rfl (V_env.2.2.2.2.2.2.2.2.2.2.1.ext f564_0.2) (g := (mkF m 132 #[Iv p1, Iv p2, Iv p3, Iv u, Iv tgd, Iv 3, Rv b496, Rv b547, Rv b552, Iv 1, Rv b557, Uv, Uv] [(.ref b563), (.ref b561), (.ref b561), (.ref b557)])) rfl (hb hby at_132)
          obtain ⟨_, _, ⟨T566, L566, k566, n566⟩, -, X566, ⟨Lc566, hQ566, l566, y566, z566⟩, st566⟩ := X565.specialBack hx (y := mn42) rfl hown (own_m hZ hw 130) (own_m hZ hw 131) (own_m hZ hw 132) (by decide) (backOf (W := 2) (rmMI l Z a0 hw [] b561 b563 ci T563.heap n0 Zs563 f564_9 f564_10 f564_11 gf561) hZ (own_g hw 132) (own_g hw 103) (by decide) (by decide)) (g := (mkF m 135 #[Iv p1, Iv p2, Iv p3, Iv u, Iv tgd, Iv 3, Rv b496, Rv b547, Rv b552, Iv 1, Rv b557, Uv, Uv] [(.ref ci), (.ref b563), (.ref b561), (.ref b561), (.ref b557)])) rfl (by rw [hml]; rfl) (Steps.refl _) (a := b561) (argsL := [(.ref b563), (.ref ci)]) (rest := [(.ref b561), (.ref b557)]) (lenOf own_pd451 rfl) rfl (own_z rfl) (hb hby at_135) (fun _ _ => ⟨rfl, e565, (by decide : 8 + 0 ≤ _), (by decide : 21 + 0 ≤ _)⟩)
          dsimp only [Pt.U, Pt.locs, Pt.cells, Pt.slots] at X566 l566 y566 z566 st566 hQ566
          subst l566 y566 z566
          obtain ⟨rfl, Nq566, K566⟩ := hQ566
          have N566 := Fr.app N563 Nq566
          have Zs566 : n0 ≤ T566.heap.size := Nat.le_trans Zs563 K566.1
          have f567_0 : Old Z n0 T566.heap := f564_0.keep K566 (allS gf561 all0)
          have f567_1 : Arv Z T566.heap b496 k496 .char (2 : Int32) [(.int ((p2 &&& (255 : Int32)).toUInt32.toUInt16.toUInt32.toInt32).toUInt32.toUInt16.toUInt32.toInt32), (.int ((p3 &&& (255 : Int32)).toUInt32.toUInt16.toUInt32.toInt32).toUInt32.toUInt16.toUInt32.toInt32)] (.int (0 : Int32)) := f564_1.keep K566 (ninS ne561_b496 nin0)
          have f567_2 : Exa Z T566.heap b547 "java/lang/String" := f564_2.keep K566
          have f567_3 : Exa Z T566.heap b552 "com/example/lithe_checker/lithechecker/c/CType$StructType" := f564_3.keep K566
          have f567_4 : Fld Z T566.heap b552 "com/example/lithe_checker/lithechecker/c/CType$StructType" "members" "Ljava/util/List;" .null := f564_4.keep K566 (ninS ne561_b552 nin0)
          have f567_5 : Exa Z T566.heap b557 "java/util/ArrayList" := f564_5.keep K566
          have f567_6 : Fld Z T566.heap b557 "java/util/AbstractList" "modCount" "I" (.int (0 : Int32)) := f564_6.keep K566 (ninS ne561_b557 nin0)
          have f567_7 : Fld Z T566.heap b557 "java/util/ArrayList" "elementData" "[Ljava/lang/Object;" (.ref da) := f564_7.keep K566 (ninS ne561_b557 nin0)
          have f567_8 : Fld Z T566.heap b557 "java/util/ArrayList" "size" "I" (.int (0 : Int32)) := f564_8.keep K566 (ninS ne561_b557 nin0)
          have f567_9 : Exa Z T566.heap b561 "com/example/lithe_checker/lithechecker/c/CType$Member" := f564_9.keep K566
          have f567_12 : Exa Z T566.heap b563 "java/lang/String" := Ev563.keep K566
          obtain ⟨cq568, kq568, q568a, q568b, q568c⟩ := isOf hZ rfl f567_5
          obtain ⟨_, _, ⟨T568, L568, k568, n568⟩, -, X568, ⟨Lc568, hQ568, l568, y568, z568⟩, st568⟩ := X566.virtualBack hx (y := mn11) (z := mn11) hown (own_m hZ hw 138) (own_m hZ hw 139) (notFace_of_selects (args := #[]) (own_m hZ hw 141)) (own_m hZ hw 141) (own_m hZ hw 140) (by decide) (backOf (W := 0) (rmA0 l Z a0 hw [] cs da el ea em ci mm kd ke b557 b561 (0 : Int32) T566.heap n0 Zs566 V_env f567_0 f567_5 f567_6 f567_7 f567_8 gf557 f567_9) hZ (own_g hw 142) (own_g hw 28) (by decide) (by decide)) q568a q568c (g := (mkF m 138 #[Iv p1, Iv p2, Iv p3, Iv u, Iv tgd, Iv 3, Rv b496, Rv b547, Rv b552, Iv 1, Rv b557, Uv, Uv] [(.ref b561), (.ref b557)])) rfl (by rw [hml]; rfl) (Steps.refl _) (argsL := [(.ref b561)]) (rest := []) (lenOf own_pd452 rfl) rfl (own_z rfl) (hb hby at_138) (fun _ _ => ⟨rfl, rfl, (by decide : 8 + 1 ≤ _), (by decide : 21 + 10 ≤ _)⟩)
          dsimp only [Pt.U, Pt.locs, Pt.cells, Pt.slots] at X568 l568 y568 z568 st568 hQ568
          subst l568 y568 z568
          obtain ⟨b568, k568, rfl, Nq568, K568, ge568, Gm568, Ge568, Gs568, V568, Eb568, Ov568⟩ := hQ568
          have N568 := Fr.app N566 Nq568
          have Zs568 : n0 ≤ T568.heap.size := Nat.le_trans Zs566 K568.1
          have f569_0 : Old Z n0 T568.heap := f567_0.keep K568 (allS gf557 all0)
          have f569_1 : Arv Z T568.heap b496 k496 .char (2 : Int32) [(.int ((p2 &&& (255 : Int32)).toUInt32.toUInt16.toUInt32.toInt32).toUInt32.toUInt16.toUInt32.toInt32), (.int ((p3 &&& (255 : Int32)).toUInt32.toUInt16.toUInt32.toInt32).toUInt32.toUInt16.toUInt32.toInt32)] (.int (0 : Int32)) := f567_1.keep K568 (ninS ne557_b496 nin0)
          have f569_2 : Exa Z T568.heap b547 "java/lang/String" := f567_2.keep K568
          have f569_3 : Exa Z T568.heap b552 "com/example/lithe_checker/lithechecker/c/CType$StructType" := f567_3.keep K568
          have f569_4 : Fld Z T568.heap b552 "com/example/lithe_checker/lithechecker/c/CType$StructType" "members" "Ljava/util/List;" .null := f567_4.keep K568 (ninS ne557_b552 nin0)
          have f569_5 : Exa Z T568.heap b557 "java/util/ArrayList" := f567_5.keep K568
          have f569_9 : Exa Z T568.heap b561 "com/example/lithe_checker/lithechecker/c/CType$Member" := f567_9.keep K568
          have f569_10 : Exa Z T568.heap b563 "java/lang/String" := f567_12.keep K568
          have ne568_b496 : b496 ≠ b568 := Nat.ne_of_lt (Nat.lt_of_lt_of_le f567_1.lt ge568)
          have ne568_b547 : b547 ≠ b568 := Nat.ne_of_lt (Nat.lt_of_lt_of_le f567_2.lt ge568)
          have ne568_b552 : b552 ≠ b568 := Nat.ne_of_lt (Nat.lt_of_lt_of_le f567_3.lt ge568)
          have ne568_b557 : b557 ≠ b568 := Nat.ne_of_lt (Nat.lt_of_lt_of_le f567_5.lt ge568)
          have ne568_b561 : b561 ≠ b568 := Nat.ne_of_lt (Nat.lt_of_lt_of_le f567_9.lt ge568)
          have ne568_b563 : b563 ≠ b568 := Nat.ne_of_lt (Nat.lt_of_lt_of_le f567_12.lt ge568)
          have gf568 : n0 ≤ b568 := Nat.le_trans Zs566 ge568
          refine own_by (fun _ k => XS.sipush X561.here hx rfl (hb hby at_124) (XS.iand X561.here hx rfl (hb hby at_127) rfl (XS.i2c X561.here hx rfl (hb hby at_128) rfl (st563 _ (st565 _ (st566.trans (st568.trans (XS.pop X568.here hx rfl (hb hby at_141) rfl rfl (XS.iload X568.here hx rfl (hb hby at_142) rfl (XS.iconst X568.here hx rfl (hb hby at_144) k)))))))))) ?_
          show own_Fin _ _ _ _ _ _ _ T568 (mkF m 145 #[Iv p1, Iv p2, Iv p3, Iv u, Iv tgd, Iv 3, Rv b496, Rv b547, Rv b552, Iv 1, Rv b557, Uv, Uv] [(.int 2), (.int 3)])
          obtain ⟨T570, h570, X570, e570, E570, A570, D570, -, st570⟩ := newO X568 hx hZ hown (own_g hw 101) (own_g hw 102) (own_g hw 103) rfl (g := (mkF m 150 #[Iv p1, Iv p2, Iv p3, Iv u, Iv tgd, Iv 3, Rv b496, Rv b547, Rv b552, Iv 1, Rv b557, Uv, Uv] [(.ref b557)])) rfl (hb hby at_150) (by decide) (by decide)
          obtain ⟨b570, g570⟩ : ∃ z, z = T568.heap.size := ⟨_, rfl⟩
          rw [← g570] at A570 D570 st570
          have ne570_b496 : b496 ≠ b570 := Nat.ne_of_lt (Nat.lt_of_lt_of_le f569_1.lt (Nat.le_of_eq g570.symm))
          have ne570_b547 : b547 ≠ b570 := Nat.ne_of_lt (Nat.lt_of_lt_of_le f569_2.lt (Nat.le_of_eq g570.symm))
          have ne570_b552 : b552 ≠ b570 := Nat.ne_of_lt (Nat.lt_of_lt_of_le f569_3.lt (Nat.le_of_eq g570.symm))
          have ne570_b557 : b557 ≠ b570 := Nat.ne_of_lt (Nat.lt_of_lt_of_le f569_5.lt (Nat.le_of_eq g570.symm))
          have ne570_b561 : b561 ≠ b570 := Nat.ne_of_lt (Nat.lt_of_lt_of_le f569_9.lt (Nat.le_of_eq g570.symm))
          have ne570_b563 : b563 ≠ b570 := Nat.ne_of_lt (Nat.lt_of_lt_of_le f569_10.lt (Nat.le_of_eq g570.symm))
          have ne570_b568 : b568 ≠ b570 := Nat.ne_of_lt (Nat.lt_of_lt_of_le V568.lt (Nat.le_of_eq g570.symm))
          have gf570 : n0 ≤ b570 := Nat.le_trans Zs568 (Nat.le_of_eq g570.symm)
          have Zs570 : n0 ≤ h570.size := Nat.le_trans Zs568 E570.1
          have f571_0 : Old Z n0 h570 := f569_0.ext E570
          have f571_1 : Arv Z h570 b496 k496 .char (2 : Int32) [(.int ((p2 &&& (255 : Int32)).toUInt32.toUInt16.toUInt32.toInt32).toUInt32.toUInt16.toUInt32.toInt32), (.int ((p3 &&& (255 : Int32)).toUInt32.toUInt16.toUInt32.toInt32).toUInt32.toUInt16.toUInt32.toInt32)] (.int (0 : Int32)) := f569_1.ext E570
          have f571_2 : Exa Z h570 b547 "java/lang/String" := f569_2.ext E570
          have f571_3 : Exa Z h570 b552 "com/example/lithe_checker/lithechecker/c/CType$StructType" := f569_3.ext E570
          have f571_4 : Fld Z h570 b552 "com/example/lithe_checker/lithechecker/c/CType$StructType" "members" "Ljava/util/List;" .null := f569_4.ext E570
          have f571_5 : Exa Z h570 b557 "java/util/ArrayList" := f569_5.ext E570
          have f571_6 : Exa Z h570 b561 "com/example/lithe_checker/lithechecker/c/CType$Member" := f569_9.ext E570
          have f571_7 : Exa Z h570 b563 "java/lang/String" := f569_10.ext E570
          have f571_8 : Fld Z h570 b557 "java/util/AbstractList" "modCount" "I" (.int ((0 : Int32) + (1 : Int32))) := Gm568.ext E570
          have f571_9 : Fld Z h570 b557 "java/util/ArrayList" "elementData" "[Ljava/lang/Object;" (.ref b568) := Ge568.ext E570
          have f571_10 : Fld Z h570 b557 "java/util/ArrayList" "size" "I" (.int (1 : Int32)) := Gs568.ext E570
          have f571_11 : Arv Z h570 b568 k568 (.object "java/lang/Object") (10 : Int32) [(.ref b561), .null, .null, .null, .null, .null, .null, .null, .null, .null] .null := V568.ext E570
          have f571_12 : Exa Z h570 b568 "[Ljava/lang/Object;" := Eb568.ext E570
          have F570_name : Fld Z h570 b570 "com/example/lithe_checker/lithechecker/c/CType$Member" "name" "Ljava/lang/String;" .null := D570 (Or.inr (own_g hw 135)) (ty := (.object "java/lang/String")) (by decide)
          have F570_type : Fld Z h570 b570 "com/example/lithe_checker/lithechecker/c/CType$Member" "type" "Lcom/example/lithe_checker/lithechecker/c/CType;" .null := D570 (Or.inr (own_g hw 137)) (ty := (.object "com/example/lithe_checker/lithechecker/c/CType")) (by decide)
          obtain ⟨_, _, ⟨T572, L572, k572, n572⟩, -, X572, ⟨Lc572, hQ572, l572, y572, z572⟩, st572⟩ := LawKit.callS X570 hx (y := mn41) hown (own_m hZ hw 104) (own_m hZ hw 105) (own_m hZ hw 106) (own_m hZ hw 107) (by decide) (backOf (W := 3) (rmVO l Z a0 hw [] cs da el ea em ci mm kd ke ((p3 &&& (255 : Int32)).toUInt32.toUInt16.toUInt32.toInt32) h570 n0 Zs570 V_env f571_0 (own_lat p3)) hZ (own_g hw 107) (own_g hw 106) (by decide) (by decide)) (g := (mkF m 160 #[Iv p1, Iv p2, Iv p3, Iv u, Iv tgd, Iv 3, Rv b496, Rv b547, Rv b552, Iv 1, Rv b557, Uv, Uv] [(.int ((p3 &&& (255 : Int32)).toUInt32.toUInt16.toUInt32.toInt32)), (.ref b570), (.ref b570), (.ref b557)])) rfl (by rw [hml]; rfl) (argsL := [(.int ((p3 &&& (255 : Int32)).toUInt32.toUInt16.toUInt32.toInt32))]) (rest := [(.ref b570), (.ref b570), (.ref b557)]) (lenOf own_pd450 rfl) rfl (own_z rfl) (hb hby at_160) (fun _ _ => ⟨rfl, e570, (by decide : 10 + 2 ≤ _), (by decide : 33 + 5 ≤ _)⟩)
          dsimp only [Pt.U, Pt.locs, Pt.cells, Pt.slots] at X572 l572 y572 z572 st572 hQ572
          subst l572 y572 z572
          obtain ⟨b572, rfl, Nq572, K572, ge572, Ev572⟩ := hQ572
          have N572 := Fr.app N568 Nq572
          have Zs572 : n0 ≤ T572.heap.size := Nat.le_trans Zs570 K572.1
          have f573_0 : Old Z n0 T572.heap := f571_0.keep K572 all0
          have f573_1 : Arv Z T572.heap b496 k496 .char (2 : Int32) [(.int ((p2 &&& (255 : Int32)).toUInt32.toUInt16.toUInt32.toInt32).toUInt32.toUInt16.toUInt32.toInt32), (.int ((p3 &&& (255 : Int32)).toUInt32.toUInt16.toUInt32.toInt32).toUInt32.toUInt16.toUInt32.toInt32)] (.int (0 : Int32)) := f571_1.keep K572 nin0
          have f573_2 : Exa Z T572.heap b547 "java/lang/String" := f571_2.keep K572
          have f573_3 : Exa Z T572.heap b552 "com/example/lithe_checker/lithechecker/c/CType$StructType" := f571_3.keep K572
          have f573_4 : Fld Z T572.heap b552 "com/example/lithe_checker/lithechecker/c/CType$StructType" "members" "Ljava/util/List;" .null := f571_4.keep K572 nin0
          have f573_5 : Exa Z T572.heap b557 "java/util/ArrayList" := f571_5.keep K572
          have f573_6 : Exa Z T572.heap b561 "com/example/lithe_checker/lithechecker/c/CType$Member" := f571_6.keep K572
          have f573_7 : Exa Z T572.heap b563 "java/lang/String" := f571_7.keep K572
          have f573_8 : Fld Z T572.heap b557 "java/util/AbstractList" "modCount" "I" (.int ((0 : Int32) + (1 : Int32))) := f571_8.keep K572 nin0
          have f573_9 : Fld Z T572.heap b557 "java/util/ArrayList" "elementData" "[Ljava/lang/Object;" (.ref b568) := f571_9.keep K572 nin0
          have f573_10 : Fld Z T572.heap b557 "java/util/ArrayList" "size" "I" (.int (1 : Int32)) := f571_10.keep K572 nin0
          have f573_11 : Arv Z T572.heap b568 k568 (.object "java/lang/Object") (10 : Int32) [(.ref b561), .null, .null, .null, .null, .null, .null, .null, .null, .null] .null := f571_11.keep K572 nin0
          have f573_12 : Exa Z T572.heap b568 "[Ljava/lang/Object;" := f571_12.keep K572
          have f573_13 : Exa Z T572.heap b570 "com/example/lithe_checker/lithechecker/c/CType$Member" := A570.keep K572
          have f573_14 : Fld Z T572.heap b570 "com/example/lithe_checker/lithechecker/c/CType$Member" "name" "Ljava/lang/String;" .null := F570_name.keep K572 nin0
          have f573_15 : Fld Z T572.heap b570 "com/example/lithe_checker/lithechecker/c/CType$Member" "type" "Lcom/example/lithe_checker/lithechecker/c/CType;" .null := F570_type.keep K572 nin0
          obtain ⟨T574, X574, e574, st574⟩ := getS2 X572 hx hZ hown (host := "") (Or.inl (own_g hw 128)) Via.refl rfl (V_env.2.2.2.2.2.2.2.2.2.2.1.ext f573_0.2) (g := (mkF m 163 #[Iv p1, Iv p2, Iv p3, Iv u, Iv tgd, Iv 3, Rv b496, Rv b547, Rv b552, Iv 1, Rv b557, Uv, Uv] [(.ref b572), (.ref b570), (.ref b570), (.ref b557)])) rfl (hb hby at_163)
          obtain ⟨_, _, ⟨T575, L575, k575, n575⟩, -, X575, ⟨Lc575, hQ575, l575, y575, z575⟩, st575⟩ := X574.specialBack hx (y := mn42) rfl hown (own_m hZ hw 130) (own_m hZ hw 131) (own_m hZ hw 132) (by decide) (backOf (W := 2) (rmMI l Z a0 hw [] b570 b572 ci T572.heap n0 Zs572 f573_13 f573_14 f573_15 gf570) hZ (own_g hw 132) (own_g hw 103) (by decide) (by decide)) (g := (mkF m 166 #[Iv p1, Iv p2, Iv p3, Iv u, Iv tgd, Iv 3, Rv b496, Rv b547, Rv b552, Iv 1, Rv b557, Uv, Uv] [(.ref ci), (.ref b572), (.ref b570), (.ref b570), (.ref b557)])) rfl (by rw [hml]; rfl) (Steps.refl _) (a := b570) (argsL := [(.ref b572), (.ref ci)]) (rest := [(.ref b570), (.ref b557)]) (lenOf own_pd451 rfl) rfl (own_z rfl) (hb hby at_166) (fun _ _ => ⟨rfl, e574, (by decide : 12 + 0 ≤ _), (by decide : 38 + 0 ≤ _)⟩)
          dsimp only [Pt.U, Pt.locs, Pt.cells, Pt.slots] at X575 l575 y575 z575 st575 hQ575
          subst l575 y575 z575
          obtain ⟨rfl, Nq575, K575⟩ := hQ575
          have N575 := Fr.app N572 Nq575
          refine own_by (fun _ k => XS.icmpNo X568.here hx rfl (hb hby at_145) rfl (flt (by decide : ¬ ((3 : Int32) < (2 : Int32)))).1 (XS.aload X568.here hx rfl (hb hby at_148) rfl rfl (st570 _ (XS.dup X570.here hx rfl (hb hby at_153) rfl rfl (XS.iloadN X570.here hx rfl (hb hby at_154) rfl (XS.sipush X570.here hx rfl (hb hby at_155) (XS.iand X570.here hx rfl (hb hby at_158) rfl (XS.i2c X570.here hx rfl (hb hby at_159) rfl (st572 _ (st574 _ k)))))))))) ?_
          show own_Fin _ _ _ _ _ _ _ T574 (mkF m 166 #[Iv p1, Iv p2, Iv p3, Iv u, Iv tgd, Iv 3, Rv b496, Rv b547, Rv b552, Iv 1, Rv b557, Uv, Uv] [(.ref ci), (.ref b572), (.ref b570), (.ref b570), (.ref b557)])
          have Zs575 : n0 ≤ T575.heap.size := Nat.le_trans Zs572 K575.1
          have f576_0 : Old Z n0 T575.heap := f573_0.keep K575 (allS gf570 all0)
          have f576_1 : Arv Z T575.heap b496 k496 .char (2 : Int32) [(.int ((p2 &&& (255 : Int32)).toUInt32.toUInt16.toUInt32.toInt32).toUInt32.toUInt16.toUInt32.toInt32), (.int ((p3 &&& (255 : Int32)).toUInt32.toUInt16.toUInt32.toInt32).toUInt32.toUInt16.toUInt32.toInt32)] (.int (0 : Int32)) := f573_1.keep K575 (ninS ne570_b496 nin0)
          have f576_2 : Exa Z T575.heap b547 "java/lang/String" := f573_2.keep K575
          have f576_3 : Exa Z T575.heap b552 "com/example/lithe_checker/lithechecker/c/CType$StructType" := f573_3.keep K575
          have f576_4 : Fld Z T575.heap b552 "com/example/lithe_checker/lithechecker/c/CType$StructType" "members" "Ljava/util/List;" .null := f573_4.keep K575 (ninS ne570_b552 nin0)
          have f576_5 : Exa Z T575.heap b557 "java/util/ArrayList" := f573_5.keep K575
          have f576_6 : Exa Z T575.heap b561 "com/example/lithe_checker/lithechecker/c/CType$Member" := f573_6.keep K575
          have f576_7 : Exa Z T575.heap b563 "java/lang/String" := f573_7.keep K575
          have f576_8 : Fld Z T575.heap b557 "java/util/AbstractList" "modCount" "I" (.int ((0 : Int32) + (1 : Int32))) := f573_8.keep K575 (ninS ne570_b557 nin0)
          have f576_9 : Fld Z T575.heap b557 "java/util/ArrayList" "elementData" "[Ljava/lang/Object;" (.ref b568) := f573_9.keep K575 (ninS ne570_b557 nin0)
          have f576_10 : Fld Z T575.heap b557 "java/util/ArrayList" "size" "I" (.int (1 : Int32)) := f573_10.keep K575 (ninS ne570_b557 nin0)
          have f576_11 : Arv Z T575.heap b568 k568 (.object "java/lang/Object") (10 : Int32) [(.ref b561), .null, .null, .null, .null, .null, .null, .null, .null, .null] .null := f573_11.keep K575 (ninS ne570_b568 nin0)
          have f576_12 : Exa Z T575.heap b568 "[Ljava/lang/Object;" := f573_12.keep K575
          have f576_13 : Exa Z T575.heap b570 "com/example/lithe_checker/lithechecker/c/CType$Member" := f573_13.keep K575
          have f576_16 : Exa Z T575.heap b572 "java/lang/String" := Ev572.keep K575
          obtain ⟨cq577, kq577, q577a, q577b, q577c⟩ := isOf hZ rfl f576_5
          obtain ⟨_, _, ⟨T577, L577, k577, n577⟩, -, X577, ⟨Lc577, hQ577, l577, y577, z577⟩, st577⟩ := X575.virtualBack hx (y := mn11) (z := mn11) hown (own_m hZ hw 138) (own_m hZ hw 139) (notFace_of_selects (args := #[]) (own_m hZ hw 141)) (own_m hZ hw 141) (own_m hZ hw 140) (by decide) (backOf (W := 0) (rmA1 l Z a0 hw [] cs da el ea em ci mm kd ke b557 b568 k568 b561 b570 ((0 : Int32) + (1 : Int32)) T575.heap n0 Zs575 V_env f576_0 f576_5 f576_8 f576_9 f576_10 gf557 f576_11 f576_12 Ov568 gf568 ne568_b557 f576_13) hZ (own_g hw 142) (own_g hw 28) (by decide) (by decide)) q577a q577c (g := (mkF m 169 #[Iv p1, Iv p2, Iv p3, Iv u, Iv tgd, Iv 3, Rv b496, Rv b547, Rv b552, Iv 1, Rv b557, Uv, Uv] [(.ref b570), (.ref b557)])) rfl (by rw [hml]; rfl) (Steps.refl _) (argsL := [(.ref b570)]) (rest := []) (lenOf own_pd452 rfl) rfl (own_z rfl) (hb hby at_169) (fun _ _ => ⟨rfl, rfl, (by decide : 12 + 0 ≤ _), (by decide : 38 + 0 ≤ _)⟩)
          dsimp only [Pt.U, Pt.locs, Pt.cells, Pt.slots] at X577 l577 y577 z577 st577 hQ577
          subst l577 y577 z577
          obtain ⟨rfl, Nq577, K577, Gm577, Ge577, Gs577, V577, Eb577⟩ := hQ577
          have N577 := Fr.app N575 Nq577
          have Zs577 : n0 ≤ T577.heap.size := Nat.le_trans Zs575 K577.1
          have f578_0 : Old Z n0 T577.heap := f576_0.keep K577 (allS gf557 (allS gf568 all0))
          have f578_1 : Arv Z T577.heap b496 k496 .char (2 : Int32) [(.int ((p2 &&& (255 : Int32)).toUInt32.toUInt16.toUInt32.toInt32).toUInt32.toUInt16.toUInt32.toInt32), (.int ((p3 &&& (255 : Int32)).toUInt32.toUInt16.toUInt32.toInt32).toUInt32.toUInt16.toUInt32.toInt32)] (.int (0 : Int32)) := f576_1.keep K577 (ninS ne557_b496 (ninS ne568_b496 nin0))
          have f578_2 : Exa Z T577.heap b547 "java/lang/String" := f576_2.keep K577
          have f578_3 : Exa Z T577.heap b552 "com/example/lithe_checker/lithechecker/c/CType$StructType" := f576_3.keep K577
          have f578_4 : Fld Z T577.heap b552 "com/example/lithe_checker/lithechecker/c/CType$StructType" "members" "Ljava/util/List;" .null := f576_4.keep K577 (ninS ne557_b552 (ninS ne568_b552 nin0))
          have f578_5 : Exa Z T577.heap b557 "java/util/ArrayList" := f576_5.keep K577
          have f578_6 : Exa Z T577.heap b561 "com/example/lithe_checker/lithechecker/c/CType$Member" := f576_6.keep K577
          have f578_7 : Exa Z T577.heap b563 "java/lang/String" := f576_7.keep K577
          have f578_12 : Exa Z T577.heap b568 "[Ljava/lang/Object;" := f576_12.keep K577
          have f578_13 : Exa Z T577.heap b570 "com/example/lithe_checker/lithechecker/c/CType$Member" := f576_13.keep K577
          have f578_14 : Exa Z T577.heap b572 "java/lang/String" := f576_16.keep K577
          obtain ⟨T579, h579, X579, e579, E579, A579, D579, -, st579⟩ := newO X577 hx hZ hown (own_g hw 101) (own_g hw 102) (own_g hw 103) rfl (g := (mkF m 181 #[Iv p1, Iv p2, Iv p3, Iv u, Iv tgd, Iv 3, Rv b496, Rv b547, Rv b552, Iv 1, Rv b557, Uv, Uv] [(.ref b557)])) rfl (hb hby at_181) (by decide) (by decide)
          obtain ⟨b579, g579⟩ : ∃ z, z = T577.heap.size := ⟨_, rfl⟩
          rw [← g579] at A579 D579 st579
          have ne579_b496 : b496 ≠ b579 := Nat.ne_of_lt (Nat.lt_of_lt_of_le f578_1.lt (Nat.le_of_eq g579.symm))
          have ne579_b547 : b547 ≠ b579 := Nat.ne_of_lt (Nat.lt_of_lt_of_le f578_2.lt (Nat.le_of_eq g579.symm))
          have ne579_b552 : b552 ≠ b579 := Nat.ne_of_lt (Nat.lt_of_lt_of_le f578_3.lt (Nat.le_of_eq g579.symm))
          have ne579_b557 : b557 ≠ b579 := Nat.ne_of_lt (Nat.lt_of_lt_of_le f578_5.lt (Nat.le_of_eq g579.symm))
          have ne579_b561 : b561 ≠ b579 := Nat.ne_of_lt (Nat.lt_of_lt_of_le f578_6.lt (Nat.le_of_eq g579.symm))
          have ne579_b563 : b563 ≠ b579 := Nat.ne_of_lt (Nat.lt_of_lt_of_le f578_7.lt (Nat.le_of_eq g579.symm))
          have ne579_b568 : b568 ≠ b579 := Nat.ne_of_lt (Nat.lt_of_lt_of_le Eb577.lt (Nat.le_of_eq g579.symm))
          have ne579_b570 : b570 ≠ b579 := Nat.ne_of_lt (Nat.lt_of_lt_of_le f578_13.lt (Nat.le_of_eq g579.symm))
          have ne579_b572 : b572 ≠ b579 := Nat.ne_of_lt (Nat.lt_of_lt_of_le f578_14.lt (Nat.le_of_eq g579.symm))
          have gf579 : n0 ≤ b579 := Nat.le_trans Zs577 (Nat.le_of_eq g579.symm)
          have Zs579 : n0 ≤ h579.size := Nat.le_trans Zs577 E579.1
          have f580_0 : Old Z n0 h579 := f578_0.ext E579
          have f580_1 : Arv Z h579 b496 k496 .char (2 : Int32) [(.int ((p2 &&& (255 : Int32)).toUInt32.toUInt16.toUInt32.toInt32).toUInt32.toUInt16.toUInt32.toInt32), (.int ((p3 &&& (255 : Int32)).toUInt32.toUInt16.toUInt32.toInt32).toUInt32.toUInt16.toUInt32.toInt32)] (.int (0 : Int32)) := f578_1.ext E579
          have f580_2 : Exa Z h579 b547 "java/lang/String" := f578_2.ext E579
          have f580_3 : Exa Z h579 b552 "com/example/lithe_checker/lithechecker/c/CType$StructType" := f578_3.ext E579
          have f580_4 : Fld Z h579 b552 "com/example/lithe_checker/lithechecker/c/CType$StructType" "members" "Ljava/util/List;" .null := f578_4.ext E579
          have f580_5 : Exa Z h579 b557 "java/util/ArrayList" := f578_5.ext E579
          have f580_6 : Exa Z h579 b561 "com/example/lithe_checker/lithechecker/c/CType$Member" := f578_6.ext E579
          have f580_7 : Exa Z h579 b563 "java/lang/String" := f578_7.ext E579
          have f580_8 : Exa Z h579 b568 "[Ljava/lang/Object;" := Eb577.ext E579
          have f580_9 : Exa Z h579 b570 "com/example/lithe_checker/lithechecker/c/CType$Member" := f578_13.ext E579
          have f580_10 : Exa Z h579 b572 "java/lang/String" := f578_14.ext E579
          have f580_11 : Fld Z h579 b557 "java/util/AbstractList" "modCount" "I" (.int (((0 : Int32) + (1 : Int32)) + (1 : Int32))) := Gm577.ext E579
          have f580_12 : Fld Z h579 b557 "java/util/ArrayList" "elementData" "[Ljava/lang/Object;" (.ref b568) := Ge577.ext E579
          have f580_13 : Fld Z h579 b557 "java/util/ArrayList" "size" "I" (.int (2 : Int32)) := Gs577.ext E579
          have f580_14 : Arv Z h579 b568 k568 (.object "java/lang/Object") (10 : Int32) [(.ref b561), (.ref b570), .null, .null, .null, .null, .null, .null, .null, .null] .null := V577.ext E579
          have F579_name : Fld Z h579 b579 "com/example/lithe_checker/lithechecker/c/CType$Member" "name" "Ljava/lang/String;" .null := D579 (Or.inr (own_g hw 135)) (ty := (.object "java/lang/String")) (by decide)
          have F579_type : Fld Z h579 b579 "com/example/lithe_checker/lithechecker/c/CType$Member" "type" "Lcom/example/lithe_checker/lithechecker/c/CType;" .null := D579 (Or.inr (own_g hw 137)) (ty := (.object "com/example/lithe_checker/lithechecker/c/CType")) (by decide)
          obtain ⟨T581, h581, X581, e581, E581, A581, D581, -, st581⟩ := newO X579 hx hZ hown (own_g hw 236) (own_g hw 114) (own_g hw 106) e579 (g := (mkF m 185 #[Iv p1, Iv p2, Iv p3, Iv u, Iv tgd, Iv 3, Rv b496, Rv b547, Rv b552, Iv 1, Rv b557, Uv, Uv] [(.ref b579), (.ref b579), (.ref b557)])) rfl (hb hby at_185) (by decide) (by decide)
          obtain ⟨b581, g581⟩ : ∃ z, z = h579.size := ⟨_, rfl⟩
          rw [← g581] at A581 D581 st581
          have ne581_b496 : b496 ≠ b581 := Nat.ne_of_lt (Nat.lt_of_lt_of_le f580_1.lt (Nat.le_of_eq g581.symm))
          have ne581_b547 : b547 ≠ b581 := Nat.ne_of_lt (Nat.lt_of_lt_of_le f580_2.lt (Nat.le_of_eq g581.symm))
          have ne581_b552 : b552 ≠ b581 := Nat.ne_of_lt (Nat.lt_of_lt_of_le f580_3.lt (Nat.le_of_eq g581.symm))
          have ne581_b557 : b557 ≠ b581 := Nat.ne_of_lt (Nat.lt_of_lt_of_le f580_5.lt (Nat.le_of_eq g581.symm))
          have ne581_b561 : b561 ≠ b581 := Nat.ne_of_lt (Nat.lt_of_lt_of_le f580_6.lt (Nat.le_of_eq g581.symm))
          have ne581_b563 : b563 ≠ b581 := Nat.ne_of_lt (Nat.lt_of_lt_of_le f580_7.lt (Nat.le_of_eq g581.symm))
          have ne581_b568 : b568 ≠ b581 := Nat.ne_of_lt (Nat.lt_of_lt_of_le f580_8.lt (Nat.le_of_eq g581.symm))
          have ne581_b570 : b570 ≠ b581 := Nat.ne_of_lt (Nat.lt_of_lt_of_le f580_9.lt (Nat.le_of_eq g581.symm))
          have ne581_b572 : b572 ≠ b581 := Nat.ne_of_lt (Nat.lt_of_lt_of_le f580_10.lt (Nat.le_of_eq g581.symm))
          have ne581_b579 : b579 ≠ b581 := Nat.ne_of_lt (Nat.lt_of_lt_of_le A579.lt (Nat.le_of_eq g581.symm))
          have gf581 : n0 ≤ b581 := Nat.le_trans Zs579 (Nat.le_of_eq g581.symm)
          have Zs581 : n0 ≤ h581.size := Nat.le_trans Zs579 E581.1
          have f582_0 : Old Z n0 h581 := f580_0.ext E581
          have f582_1 : Arv Z h581 b496 k496 .char (2 : Int32) [(.int ((p2 &&& (255 : Int32)).toUInt32.toUInt16.toUInt32.toInt32).toUInt32.toUInt16.toUInt32.toInt32), (.int ((p3 &&& (255 : Int32)).toUInt32.toUInt16.toUInt32.toInt32).toUInt32.toUInt16.toUInt32.toInt32)] (.int (0 : Int32)) := f580_1.ext E581
          have f582_2 : Exa Z h581 b547 "java/lang/String" := f580_2.ext E581
          have f582_3 : Exa Z h581 b552 "com/example/lithe_checker/lithechecker/c/CType$StructType" := f580_3.ext E581
          have f582_4 : Fld Z h581 b552 "com/example/lithe_checker/lithechecker/c/CType$StructType" "members" "Ljava/util/List;" .null := f580_4.ext E581
          have f582_5 : Exa Z h581 b557 "java/util/ArrayList" := f580_5.ext E581
          have f582_6 : Exa Z h581 b561 "com/example/lithe_checker/lithechecker/c/CType$Member" := f580_6.ext E581
          have f582_7 : Exa Z h581 b563 "java/lang/String" := f580_7.ext E581
          have f582_8 : Exa Z h581 b568 "[Ljava/lang/Object;" := f580_8.ext E581
          have f582_9 : Exa Z h581 b570 "com/example/lithe_checker/lithechecker/c/CType$Member" := f580_9.ext E581
          have f582_10 : Exa Z h581 b572 "java/lang/String" := f580_10.ext E581
          have f582_11 : Fld Z h581 b557 "java/util/AbstractList" "modCount" "I" (.int (((0 : Int32) + (1 : Int32)) + (1 : Int32))) := f580_11.ext E581
          have f582_12 : Fld Z h581 b557 "java/util/ArrayList" "elementData" "[Ljava/lang/Object;" (.ref b568) := f580_12.ext E581
          have f582_13 : Fld Z h581 b557 "java/util/ArrayList" "size" "I" (.int (2 : Int32)) := f580_13.ext E581
          have f582_14 : Arv Z h581 b568 k568 (.object "java/lang/Object") (10 : Int32) [(.ref b561), (.ref b570), .null, .null, .null, .null, .null, .null, .null, .null] .null := f580_14.ext E581
          have f582_15 : Exa Z h581 b579 "com/example/lithe_checker/lithechecker/c/CType$Member" := A579.ext E581
          have f582_16 : Fld Z h581 b579 "com/example/lithe_checker/lithechecker/c/CType$Member" "name" "Ljava/lang/String;" .null := F579_name.ext E581
          have f582_17 : Fld Z h581 b579 "com/example/lithe_checker/lithechecker/c/CType$Member" "type" "Lcom/example/lithe_checker/lithechecker/c/CType;" .null := F579_type.ext E581
          have F581_value : Fld Z h581 b581 "java/lang/String" "value" "[B" .null := D581 (Or.inr (own_g hw 125)) (ty := (.array .byte)) (by decide)
          have F581_coder : Fld Z h581 b581 "java/lang/String" "coder" "B" (.int (0 : Int32)) := D581 (Or.inr (own_g hw 127)) (ty := .byte) (by decide)
          refine own_by (fun _ k => st575.trans (st577.trans (XS.pop X577.here hx rfl (hb hby at_172) rfl rfl (XS.iload X577.here hx rfl (hb hby at_173) rfl (XS.iconst X577.here hx rfl (hb hby at_175) (XS.icmpNo X577.here hx rfl (hb hby at_176) rfl (flt (by decide : ¬ ((3 : Int32) < (3 : Int32)))).1 (XS.aload X577.here hx rfl (hb hby at_179) rfl rfl (st579 _ (XS.dup X579.here hx rfl (hb hby at_184) rfl rfl (st581 _ k)))))))))) ?_
          show own_Fin _ _ _ _ _ _ _ T581 (mkF m 188 #[Iv p1, Iv p2, Iv p3, Iv u, Iv tgd, Iv 3, Rv b496, Rv b547, Rv b552, Iv 1, Rv b557, Uv, Uv] [(.ref b581), (.ref b579), (.ref b579), (.ref b557)])
          have Vt583 : Arv Z h581 b496 k496 .char (2 : Int32) [(.int ((p2 &&& (255 : Int32)).toUInt32.toUInt16.toUInt32.toInt32)), (.int ((p3 &&& (255 : Int32)).toUInt32.toUInt16.toUInt32.toInt32))] (.int (0 : Int32)) := by have q := f582_1; simp only [own_c16] at q; exact q
          obtain ⟨_, _, ⟨T584, L584, k584, n584⟩, -, X584, ⟨Lc584, hQ584, l584, y584, z584⟩, st584⟩ := X581.specialBack hx (y := mn37) rfl hown (own_m hZ hw 237) (own_m hZ hw 238) (own_m hZ hw 239) (by decide) (backOf (W := 4) (rmSC2 l Z a0 hw [] b581 b496 k496 cs ((p2 &&& (255 : Int32)).toUInt32.toUInt16.toUInt32.toInt32) ((p3 &&& (255 : Int32)).toUInt32.toUInt16.toUInt32.toInt32) h581 n0 Zs581 A581 F581_value F581_coder gf581 Vt583 ne581_b496 (own_lat p2) (own_lat p3) (V_env.1.ext f582_0.2) V_env.2.1) hZ (own_g hw 239) (own_g hw 106) (by decide) (by decide)) (g := (mkF m 191 #[Iv p1, Iv p2, Iv p3, Iv u, Iv tgd, Iv 3, Rv b496, Rv b547, Rv b552, Iv 1, Rv b557, Uv, Uv] [(.ref b496), (.ref b581), (.ref b581), (.ref b579), (.ref b579), (.ref b557)])) rfl (by rw [hml]; rfl) (Steps.refl _) (a := b581) (argsL := [(.ref b496)]) (rest := [(.ref b581), (.ref b579), (.ref b579), (.ref b557)]) (lenOf own_pd449 rfl) rfl (own_z rfl) (hb hby at_191) (fun _ _ => ⟨rfl, e581, (by decide : 14 + 1 ≤ _), (by decide : 44 + 2 ≤ _)⟩)
          dsimp only [Pt.U, Pt.locs, Pt.cells, Pt.slots] at X584 l584 y584 z584 st584 hQ584
          subst l584 y584 z584
          obtain ⟨bs584, ks584, rfl, Nq584, K584, Gc584, Gv584, Vs584⟩ := hQ584
          have N584 := Fr.app N577 Nq584
          have Zs584 : n0 ≤ T584.heap.size := Nat.le_trans Zs581 K584.1
          have f585_0 : Old Z n0 T584.heap := f582_0.keep K584 (allS gf581 all0)
          have f585_1 : Arv Z T584.heap b496 k496 .char (2 : Int32) [(.int ((p2 &&& (255 : Int32)).toUInt32.toUInt16.toUInt32.toInt32).toUInt32.toUInt16.toUInt32.toInt32), (.int ((p3 &&& (255 : Int32)).toUInt32.toUInt16.toUInt32.toInt32).toUInt32.toUInt16.toUInt32.toInt32)] (.int (0 : Int32)) := f582_1.keep K584 (ninS ne581_b496 nin0)
          have f585_2 : Exa Z T584.heap b547 "java/lang/String" := f582_2.keep K584
          have f585_3 : Exa Z T584.heap b552 "com/example/lithe_checker/lithechecker/c/CType$StructType" := f582_3.keep K584
          have f585_4 : Fld Z T584.heap b552 "com/example/lithe_checker/lithechecker/c/CType$StructType" "members" "Ljava/util/List;" .null := f582_4.keep K584 (ninS ne581_b552 nin0)
          have f585_5 : Exa Z T584.heap b557 "java/util/ArrayList" := f582_5.keep K584
          have f585_6 : Exa Z T584.heap b561 "com/example/lithe_checker/lithechecker/c/CType$Member" := f582_6.keep K584
          have f585_7 : Exa Z T584.heap b563 "java/lang/String" := f582_7.keep K584
          have f585_8 : Exa Z T584.heap b568 "[Ljava/lang/Object;" := f582_8.keep K584
          have f585_9 : Exa Z T584.heap b570 "com/example/lithe_checker/lithechecker/c/CType$Member" := f582_9.keep K584
          have f585_10 : Exa Z T584.heap b572 "java/lang/String" := f582_10.keep K584
          have f585_11 : Fld Z T584.heap b557 "java/util/AbstractList" "modCount" "I" (.int (((0 : Int32) + (1 : Int32)) + (1 : Int32))) := f582_11.keep K584 (ninS ne581_b557 nin0)
          have f585_12 : Fld Z T584.heap b557 "java/util/ArrayList" "elementData" "[Ljava/lang/Object;" (.ref b568) := f582_12.keep K584 (ninS ne581_b557 nin0)
          have f585_13 : Fld Z T584.heap b557 "java/util/ArrayList" "size" "I" (.int (2 : Int32)) := f582_13.keep K584 (ninS ne581_b557 nin0)
          have f585_14 : Arv Z T584.heap b568 k568 (.object "java/lang/Object") (10 : Int32) [(.ref b561), (.ref b570), .null, .null, .null, .null, .null, .null, .null, .null] .null := f582_14.keep K584 (ninS ne581_b568 nin0)
          have f585_15 : Exa Z T584.heap b579 "com/example/lithe_checker/lithechecker/c/CType$Member" := f582_15.keep K584
          have f585_16 : Fld Z T584.heap b579 "com/example/lithe_checker/lithechecker/c/CType$Member" "name" "Ljava/lang/String;" .null := f582_16.keep K584 (ninS ne581_b579 nin0)
          have f585_17 : Fld Z T584.heap b579 "com/example/lithe_checker/lithechecker/c/CType$Member" "type" "Lcom/example/lithe_checker/lithechecker/c/CType;" .null := f582_17.keep K584 (ninS ne581_b579 nin0)
          have f585_18 : Exa Z T584.heap b581 "java/lang/String" := A581.keep K584
          obtain ⟨T586, X586, e586, st586⟩ := getS2 X584 hx hZ hown (host := "") (Or.inl (own_g hw 128)) Via.refl rfl (V_env.2.2.2.2.2.2.2.2.2.2.1.ext f585_0.2) (g := (mkF m 194 #[Iv p1, Iv p2, Iv p3, Iv u, Iv tgd, Iv 3, Rv b496, Rv b547, Rv b552, Iv 1, Rv b557, Uv, Uv] [(.ref b581), (.ref b579), (.ref b579), (.ref b557)])) rfl (hb hby at_194)
          obtain ⟨_, _, ⟨T587, L587, k587, n587⟩, -, X587, ⟨Lc587, hQ587, l587, y587, z587⟩, st587⟩ := X586.specialBack hx (y := mn42) rfl hown (own_m hZ hw 130) (own_m hZ hw 131) (own_m hZ hw 132) (by decide) (backOf (W := 2) (rmMI l Z a0 hw [] b579 b581 ci T584.heap n0 Zs584 f585_15 f585_16 f585_17 gf579) hZ (own_g hw 132) (own_g hw 103) (by decide) (by decide)) (g := (mkF m 197 #[Iv p1, Iv p2, Iv p3, Iv u, Iv tgd, Iv 3, Rv b496, Rv b547, Rv b552, Iv 1, Rv b557, Uv, Uv] [(.ref ci), (.ref b581), (.ref b579), (.ref b579), (.ref b557)])) rfl (by rw [hml]; rfl) (Steps.refl _) (a := b579) (argsL := [(.ref b581), (.ref ci)]) (rest := [(.ref b579), (.ref b557)]) (lenOf own_pd451 rfl) rfl (own_z rfl) (hb hby at_197) (fun _ _ => ⟨rfl, e586, (by decide : 15 + 0 ≤ _), (by decide : 46 + 0 ≤ _)⟩)
          dsimp only [Pt.U, Pt.locs, Pt.cells, Pt.slots] at X587 l587 y587 z587 st587 hQ587
          subst l587 y587 z587
          obtain ⟨rfl, Nq587, K587⟩ := hQ587
          have N587 := Fr.app N584 Nq587
          have Zs587 : n0 ≤ T587.heap.size := Nat.le_trans Zs584 K587.1
          have f588_0 : Old Z n0 T587.heap := f585_0.keep K587 (allS gf579 all0)
          have f588_1 : Arv Z T587.heap b496 k496 .char (2 : Int32) [(.int ((p2 &&& (255 : Int32)).toUInt32.toUInt16.toUInt32.toInt32).toUInt32.toUInt16.toUInt32.toInt32), (.int ((p3 &&& (255 : Int32)).toUInt32.toUInt16.toUInt32.toInt32).toUInt32.toUInt16.toUInt32.toInt32)] (.int (0 : Int32)) := f585_1.keep K587 (ninS ne579_b496 nin0)
          have f588_2 : Exa Z T587.heap b547 "java/lang/String" := f585_2.keep K587
          have f588_3 : Exa Z T587.heap b552 "com/example/lithe_checker/lithechecker/c/CType$StructType" := f585_3.keep K587
          have f588_4 : Fld Z T587.heap b552 "com/example/lithe_checker/lithechecker/c/CType$StructType" "members" "Ljava/util/List;" .null := f585_4.keep K587 (ninS ne579_b552 nin0)
          have f588_5 : Exa Z T587.heap b557 "java/util/ArrayList" := f585_5.keep K587
          have f588_6 : Exa Z T587.heap b561 "com/example/lithe_checker/lithechecker/c/CType$Member" := f585_6.keep K587
          have f588_7 : Exa Z T587.heap b563 "java/lang/String" := f585_7.keep K587
          have f588_8 : Exa Z T587.heap b568 "[Ljava/lang/Object;" := f585_8.keep K587
          have f588_9 : Exa Z T587.heap b570 "com/example/lithe_checker/lithechecker/c/CType$Member" := f585_9.keep K587
          have f588_10 : Exa Z T587.heap b572 "java/lang/String" := f585_10.keep K587
          have f588_11 : Fld Z T587.heap b557 "java/util/AbstractList" "modCount" "I" (.int (((0 : Int32) + (1 : Int32)) + (1 : Int32))) := f585_11.keep K587 (ninS ne579_b557 nin0)
          have f588_12 : Fld Z T587.heap b557 "java/util/ArrayList" "elementData" "[Ljava/lang/Object;" (.ref b568) := f585_12.keep K587 (ninS ne579_b557 nin0)
          have f588_13 : Fld Z T587.heap b557 "java/util/ArrayList" "size" "I" (.int (2 : Int32)) := f585_13.keep K587 (ninS ne579_b557 nin0)
          have f588_14 : Arv Z T587.heap b568 k568 (.object "java/lang/Object") (10 : Int32) [(.ref b561), (.ref b570), .null, .null, .null, .null, .null, .null, .null, .null] .null := f585_14.keep K587 (ninS ne579_b568 nin0)
          have f588_15 : Exa Z T587.heap b579 "com/example/lithe_checker/lithechecker/c/CType$Member" := f585_15.keep K587
          have f588_18 : Exa Z T587.heap b581 "java/lang/String" := f585_18.keep K587
          obtain ⟨cq589, kq589, q589a, q589b, q589c⟩ := isOf hZ rfl f588_5
          obtain ⟨_, _, ⟨T589, L589, k589, n589⟩, -, X589, ⟨Lc589, hQ589, l589, y589, z589⟩, st589⟩ := X587.virtualBack hx (y := mn11) (z := mn11) hown (own_m hZ hw 138) (own_m hZ hw 139) (notFace_of_selects (args := #[]) (own_m hZ hw 141)) (own_m hZ hw 141) (own_m hZ hw 140) (by decide) (backOf (W := 0) (rmA2 l Z a0 hw [] cs da el ea em ci mm kd ke b557 b568 k568 b561 b570 b579 (((0 : Int32) + (1 : Int32)) + (1 : Int32)) T587.heap n0 Zs587 V_env f588_0 f588_5 f588_11 f588_12 f588_13 gf557 f588_14 f588_8 Ov568 gf568 ne568_b557 f588_15) hZ (own_g hw 142) (own_g hw 28) (by decide) (by decide)) q589a q589c (g := (mkF m 200 #[Iv p1, Iv p2, Iv p3, Iv u, Iv tgd, Iv 3, Rv b496, Rv b547, Rv b552, Iv 1, Rv b557, Uv, Uv] [(.ref b579), (.ref b557)])) rfl (by rw [hml]; rfl) (Steps.refl _) (argsL := [(.ref b579)]) (rest := []) (lenOf own_pd452 rfl) rfl (own_z rfl) (hb hby at_200) (fun _ _ => ⟨rfl, rfl, (by decide : 15 + 0 ≤ _), (by decide : 46 + 0 ≤ _)⟩)
          dsimp only [Pt.U, Pt.locs, Pt.cells, Pt.slots] at X589 l589 y589 z589 st589 hQ589
          subst l589 y589 z589
          obtain ⟨rfl, Nq589, K589, Gm589, Ge589, Gs589, V589, Eb589⟩ := hQ589
          have N589 := Fr.app N587 Nq589
          have Zs589 : n0 ≤ T589.heap.size := Nat.le_trans Zs587 K589.1
          have f590_0 : Old Z n0 T589.heap := f588_0.keep K589 (allS gf557 (allS gf568 all0))
          have f590_1 : Arv Z T589.heap b496 k496 .char (2 : Int32) [(.int ((p2 &&& (255 : Int32)).toUInt32.toUInt16.toUInt32.toInt32).toUInt32.toUInt16.toUInt32.toInt32), (.int ((p3 &&& (255 : Int32)).toUInt32.toUInt16.toUInt32.toInt32).toUInt32.toUInt16.toUInt32.toInt32)] (.int (0 : Int32)) := f588_1.keep K589 (ninS ne557_b496 (ninS ne568_b496 nin0))
          have f590_2 : Exa Z T589.heap b547 "java/lang/String" := f588_2.keep K589
          have f590_3 : Exa Z T589.heap b552 "com/example/lithe_checker/lithechecker/c/CType$StructType" := f588_3.keep K589
          have f590_4 : Fld Z T589.heap b552 "com/example/lithe_checker/lithechecker/c/CType$StructType" "members" "Ljava/util/List;" .null := f588_4.keep K589 (ninS ne557_b552 (ninS ne568_b552 nin0))
          have f590_5 : Exa Z T589.heap b557 "java/util/ArrayList" := f588_5.keep K589
          have f590_6 : Exa Z T589.heap b561 "com/example/lithe_checker/lithechecker/c/CType$Member" := f588_6.keep K589
          have f590_7 : Exa Z T589.heap b563 "java/lang/String" := f588_7.keep K589
          have f590_8 : Exa Z T589.heap b568 "[Ljava/lang/Object;" := f588_8.keep K589
          have f590_9 : Exa Z T589.heap b570 "com/example/lithe_checker/lithechecker/c/CType$Member" := f588_9.keep K589
          have f590_10 : Exa Z T589.heap b572 "java/lang/String" := f588_10.keep K589
          have f590_15 : Exa Z T589.heap b579 "com/example/lithe_checker/lithechecker/c/CType$Member" := f588_15.keep K589
          have f590_16 : Exa Z T589.heap b581 "java/lang/String" := f588_18.keep K589
          obtain ⟨cq591, kq591, q591a, q591b, q591c⟩ := isOf hZ rfl f590_3
          obtain ⟨_, _, ⟨T591, L591, k591, n591⟩, -, X591, ⟨Lc591, hQ591, l591, y591, z591⟩, st591⟩ := X589.virtualBack hx (y := mn32) (z := mn32) hown (own_m hZ hw 50) (own_m hZ hw 51) (notFace_of_selects (args := #[]) (own_m hZ hw 53)) (own_m hZ hw 53) (own_m hZ hw 52) (by decide) (backOf (W := 0) (rmCo3 l Z a0 hw [] cs da el ea em ci mm kd ke b552 b557 b568 k568 b561 b570 b579 T589.heap n0 Zs589 V_env f590_0 f590_3 f590_4 gf552 f590_5 Ge589 Gs589 V589 Eb589 f590_6 f590_9 f590_15 ne557_b552) hZ (own_g hw 54) (own_g hw 3) (by decide) (by decide)) q591a q591c (g := (mkF m 208 #[Iv p1, Iv p2, Iv p3, Iv u, Iv tgd, Iv 3, Rv b496, Rv b547, Rv b552, Iv 1, Rv b557, Uv, Uv] [(.ref b557), (.ref b552)])) rfl (by rw [hml]; rfl) (Steps.refl _) (argsL := [(.ref b557)]) (rest := []) (lenOf own_pd447 rfl) rfl (own_z rfl) (hb hby at_208) (fun _ _ => ⟨rfl, rfl, (by decide : 15 + 3 ≤ _), (by decide : 46 + 8 ≤ _)⟩)
          dsimp only [Pt.U, Pt.locs, Pt.cells, Pt.slots] at X591 l591 y591 z591 st591 hQ591
          subst l591 y591 z591
          obtain ⟨q591, vq591, kq591, rfl, Nq591, K591, Gm591, Eq591, Gq591, Vq591, -⟩ := hQ591
          have N591 := Fr.app N589 Nq591
          have Zs591 : n0 ≤ T591.heap.size := Nat.le_trans Zs589 K591.1
          have f592_0 : Old Z n0 T591.heap := f590_0.keep K591 (allS gf552 all0)
          have f592_1 : Arv Z T591.heap b496 k496 .char (2 : Int32) [(.int ((p2 &&& (255 : Int32)).toUInt32.toUInt16.toUInt32.toInt32).toUInt32.toUInt16.toUInt32.toInt32), (.int ((p3 &&& (255 : Int32)).toUInt32.toUInt16.toUInt32.toInt32).toUInt32.toUInt16.toUInt32.toInt32)] (.int (0 : Int32)) := f590_1.keep K591 (ninS ne552_b496 nin0)
          have f592_2 : Exa Z T591.heap b547 "java/lang/String" := f590_2.keep K591
          have f592_3 : Exa Z T591.heap b552 "com/example/lithe_checker/lithechecker/c/CType$StructType" := f590_3.keep K591
          have f592_5 : Exa Z T591.heap b557 "java/util/ArrayList" := f590_5.keep K591
          have f592_6 : Exa Z T591.heap b561 "com/example/lithe_checker/lithechecker/c/CType$Member" := f590_6.keep K591
          have f592_7 : Exa Z T591.heap b563 "java/lang/String" := f590_7.keep K591
          have f592_8 : Exa Z T591.heap b568 "[Ljava/lang/Object;" := Eb589.keep K591
          have f592_9 : Exa Z T591.heap b570 "com/example/lithe_checker/lithechecker/c/CType$Member" := f590_9.keep K591
          have f592_10 : Exa Z T591.heap b572 "java/lang/String" := f590_10.keep K591
          have f592_11 : Exa Z T591.heap b579 "com/example/lithe_checker/lithechecker/c/CType$Member" := f590_15.keep K591
          have f592_12 : Exa Z T591.heap b581 "java/lang/String" := f590_16.keep K591
          have f592_13 : Fld Z T591.heap b557 "java/util/AbstractList" "modCount" "I" (.int ((((0 : Int32) + (1 : Int32)) + (1 : Int32)) + (1 : Int32))) := Gm589.keep K591 (ninS (Ne.symm ne557_b552) nin0)
          have f592_14 : Fld Z T591.heap b557 "java/util/ArrayList" "elementData" "[Ljava/lang/Object;" (.ref b568) := Ge589.keep K591 (ninS (Ne.symm ne557_b552) nin0)
          have f592_15 : Fld Z T591.heap b557 "java/util/ArrayList" "size" "I" (.int (3 : Int32)) := Gs589.keep K591 (ninS (Ne.symm ne557_b552) nin0)
          have f592_16 : Arv Z T591.heap b568 k568 (.object "java/lang/Object") (10 : Int32) [(.ref b561), (.ref b570), (.ref b579), .null, .null, .null, .null, .null, .null, .null] .null := V589.keep K591 (ninS (Ne.symm ne568_b552) nin0)
          refine own_by (fun _ k => XS.dup X581.here hx rfl (hb hby at_188) rfl rfl (XS.aload X581.here hx rfl (hb hby at_189) rfl rfl (st584.trans (st586 _ (st587.trans (st589.trans (XS.pop X589.here hx rfl (hb hby at_203) rfl rfl (XS.aload X589.here hx rfl (hb hby at_204) rfl rfl (XS.aload X589.here hx rfl (hb hby at_206) rfl rfl (st591.trans k)))))))))) ?_
          show own_Fin _ _ _ _ _ _ _ T591 (mkF m 211 #[Iv p1, Iv p2, Iv p3, Iv u, Iv tgd, Iv 3, Rv b496, Rv b547, Rv b552, Iv 1, Rv b557, Uv, Uv] [])
          obtain ⟨cq593, kq593, q593a, q593b, q593c⟩ := isOf hZ rfl f592_3
          obtain ⟨_, _, ⟨T593, L593, k593, n593⟩, -, X593, ⟨Lc593, hQ593, l593, y593, z593⟩, st593⟩ := X591.virtualBack hx (y := mn30) (z := mn30) hown (own_m hZ hw 19) (own_m hZ hw 20) (notFace_of_selects (args := #[]) (own_m hZ hw 22)) (own_m hZ hw 22) (own_m hZ hw 21) (by decide) (backOf (W := 0) (rmIc1 l Z a0 hw [] b552 q591 T591.heap n0 Zs591 Gm591) hZ (own_g hw 23) (own_g hw 3) (by decide) (by decide)) q593a q593c (g := (mkF m 213 #[Iv p1, Iv p2, Iv p3, Iv u, Iv tgd, Iv 3, Rv b496, Rv b547, Rv b552, Iv 1, Rv b557, Uv, Uv] [(.ref b552)])) rfl (by rw [hml]; rfl) (Steps.refl _) (argsL := []) (rest := []) (lenOf own_pd251 rfl) rfl (own_z rfl) (hb hby at_213) (fun _ _ => ⟨rfl, rfl, (by decide : 18 + 0 ≤ _), (by decide : 54 + 0 ≤ _)⟩)
          dsimp only [Pt.U, Pt.locs, Pt.cells, Pt.slots] at X593 l593 y593 z593 st593 hQ593
          subst l593 y593 z593
          obtain ⟨rfl, Nq593, eh593⟩ := hQ593
          have N593 := Fr.app N591 Nq593
          obtain ⟨cq594, kq594, q594a, q594b, q594c⟩ := isOf hZ eh593 f592_3
          obtain ⟨_, _, ⟨T594, L594, k594, n594⟩, -, X594, ⟨Lc594, hQ594, l594, y594, z594⟩, st594⟩ := X593.virtualBack hx (y := mn31) (z := mn31) hown (own_m hZ hw 84) (own_m hZ hw 85) (notFace_of_selects (args := #[]) (own_m hZ hw 87)) (own_m hZ hw 87) (own_m hZ hw 86) (by decide) (backOf (W := 0) (rmMb l Z a0 hw [] b552 q591 T591.heap n0 Zs591 Gm591) hZ (own_g hw 88) (own_g hw 3) (by decide) (by decide)) q594a q594c (g := (mkF m 220 #[Iv p1, Iv p2, Iv p3, Iv u, Iv tgd, Iv 3, Rv b496, Rv b547, Rv b552, Iv 1, Rv b557, Iv 1, Uv] [(.ref b552)])) rfl (by rw [hml]; rfl) (Steps.refl _) (argsL := []) (rest := []) (lenOf own_pd280 rfl) rfl (own_z rfl) (hb hby at_220) (fun _ _ => ⟨rfl, eh593, (by decide : 18 + 0 ≤ _), (by decide : 54 + 0 ≤ _)⟩)
          dsimp only [Pt.U, Pt.locs, Pt.cells, Pt.slots] at X594 l594 y594 z594 st594 hQ594
          subst l594 y594 z594
          obtain ⟨rfl, Nq594, eh594⟩ := hQ594
          have N594 := Fr.app N593 Nq594
          obtain ⟨cq595, kq595, q595a, q595b, q595c⟩ := isOf hZ eh594 Eq591
          obtain ⟨_, _, ⟨T595, L595, k595, n595⟩, -, X595, ⟨Lc595, hQ595, l595, y595, z595⟩, st595⟩ := X594.interfaceBack hx (xi := mn43) (y := mn20) hown (own_m hZ hw 89) (own_m hZ hw 90) (own_m hZ hw 91) (own_m hZ hw 92) (own_m hZ hw 93) (own_m hZ hw 94) (own_m hZ hw 95) (own_m hZ hw 96) (by decide) (backOf (W := 0) (rmZN l Z a0 hw [] q591 vq591 kq591 (3 : Int32) [(.ref b561), (.ref b570), (.ref b579)] T591.heap n0 Zs591 Gq591 Vq591) hZ (own_g hw 98) (own_g hw 97) (by decide) (by decide)) q595a q595b q595c (g := (mkF m 223 #[Iv p1, Iv p2, Iv p3, Iv u, Iv tgd, Iv 3, Rv b496, Rv b547, Rv b552, Iv 1, Rv b557, Iv 1, Uv] [(.ref q591)])) rfl (by rw [hml]; rfl) (Steps.refl _) (argsL := []) (rest := []) (lenOf own_pd448 rfl) rfl (own_z rfl) (hb hby at_223) (fun _ _ => ⟨rfl, eh594, (by decide : 18 + 0 ≤ _), (by decide : 54 + 0 ≤ _)⟩)
          dsimp only [Pt.U, Pt.locs, Pt.cells, Pt.slots] at X595 l595 y595 z595 st595 hQ595
          subst l595 y595 z595
          obtain ⟨rfl, Nq595, eh595⟩ := hQ595
          have N595 := Fr.app N594 Nq595
          refine own_by (fun _ k => XS.aload X591.here hx rfl (hb hby at_211) rfl rfl (st593.trans (XS.istore X593.here hx rfl (hb hby at_216) rfl (l' := #[Iv p1, Iv p2, Iv p3, Iv u, Iv tgd, Iv 3, Rv b496, Rv b547, Rv b552, Iv 1, Rv b557, Iv 1, Uv]) rfl (XS.aload X593.here hx rfl (hb hby at_218) rfl rfl (st594.trans (st595.trans (XS.iload X595.here hx rfl (hb hby at_228) rfl (XS.icmpNo X595.here hx rfl (hb hby at_230) rfl (teq (by decide : (3 : Int32) = (3 : Int32))).2 (XS.iconst X595.here hx rfl (hb hby at_233) (XS.goto X595.here hx rfl (pc0 := 234) (pc' := 238) rfl (hb hby at_234) (by decide) (by decide) k)))))))))) ?_
          show own_Fin _ _ _ _ _ _ _ T595 (mkF m 238 #[Iv p1, Iv p2, Iv p3, Iv u, Iv tgd, Iv 3, Rv b496, Rv b547, Rv b552, Iv 1, Rv b557, Iv 1, Uv] [(.int 1)])
          refine own_by (fun _ k => XS.istore X595.here hx rfl (hb hby at_238) rfl (l' := #[Iv p1, Iv p2, Iv p3, Iv u, Iv tgd, Iv 3, Rv b496, Rv b547, Rv b552, Iv 1, Rv b557, Iv 1, Iv 1]) rfl (XS.iload X595.here hx rfl (hb hby at_240) rfl (XS.ifNo X595.here hx rfl (hb hby at_242) rfl ((if0 _ _).trans (feq (by decide : ¬ ((1 : Int32) = (0 : Int32)))).1) (XS.iload X595.here hx rfl (hb hby at_245) rfl (XS.ifNo X595.here hx rfl (hb hby at_247) rfl ((if0 _ _).trans (feq (by decide : ¬ ((1 : Int32) = (0 : Int32)))).1) (XS.iload X595.here hx rfl (hb hby at_250) rfl (XS.ifNo X595.here hx rfl (hb hby at_252) rfl ((if0 _ _).trans (feq (by decide : ¬ ((1 : Int32) = (0 : Int32)))).1) (XS.iconst X595.here hx rfl (hb hby at_255) (XS.goto X595.here hx rfl (pc0 := 256) (pc' := 260) rfl (hb hby at_256) (by decide) (by decide) k))))))))) ?_
          exact own_retZ X595 hx hlk (t := .boolean) Bd.returns (by simp) (hb hby at_260) ⟨rfl, N595⟩ (by decide) (by decide)
    show own_Fin _ _ _ _ _ _ _ s₁ (mkF m 12 #[Iv p1, Iv p2, Iv p3, Iv u, Uv, Uv, Uv, Uv, Uv, Uv, Uv, Uv, Uv] [])
    refine own_by (fun _ k => XS.iloadN X0.here hx rfl (hb hby at_12) rfl (XS.iconst X0.here hx rfl (hb hby at_13) (XS.iand X0.here hx rfl (hb hby at_14) rfl k))) ?_
    show own_Fin _ _ _ _ _ _ _ s₁ (mkF m 15 #[Iv p1, Iv p2, Iv p3, Iv u, Uv, Uv, Uv, Uv, Uv, Uv, Uv, Uv, Uv] [(.int (p1 &&& (2 : Int32)))])
    by_cases hc15_596 : (p1 &&& (2 : Int32)) = (0 : Int32)
    · show own_Fin _ _ _ _ _ _ _ s₁ (mkF m 15 #[Iv p1, Iv p2, Iv p3, Iv u, Uv, Uv, Uv, Uv, Uv, Uv, Uv, Uv, Uv] [(.int (p1 &&& (2 : Int32)))])
      refine own_by (fun _ k => XS.ifYes X0.here hx rfl (pc0 := 15) (pc' := 22) rfl (hb hby at_15) rfl ((if0 _ _).trans (teq hc15_596).1) (by decide) (by decide) (XS.iconst X0.here hx rfl (hb hby at_22) k)) ?_
      exact J23_321 ((0 : Int32)) 
    · show own_Fin _ _ _ _ _ _ _ s₁ (mkF m 15 #[Iv p1, Iv p2, Iv p3, Iv u, Uv, Uv, Uv, Uv, Uv, Uv, Uv, Uv, Uv] [(.int (p1 &&& (2 : Int32)))])
      refine own_by (fun _ k => XS.ifNo X0.here hx rfl (hb hby at_15) rfl ((if0 _ _).trans (feq hc15_596).1) (XS.iconst X0.here hx rfl (hb hby at_18) (XS.goto X0.here hx rfl (pc0 := 19) (pc' := 23) rfl (hb hby at_19) (by decide) (by decide) k))) ?_
      exact J23_321 ((1 : Int32)) 
  show own_Fin _ _ _ _ _ _ _ s₁ (mkF m 0 #[Iv p1, Iv p2, Iv p3, Uv, Uv, Uv, Uv, Uv, Uv, Uv, Uv, Uv, Uv] [])
  refine own_by (fun _ k => XS.iloadN X0.here hx rfl (hb hby at_0) rfl (XS.iconst X0.here hx rfl (hb hby at_1) (XS.iand X0.here hx rfl (hb hby at_2) rfl k))) ?_
  show own_Fin _ _ _ _ _ _ _ s₁ (mkF m 3 #[Iv p1, Iv p2, Iv p3, Uv, Uv, Uv, Uv, Uv, Uv, Uv, Uv, Uv, Uv] [(.int (p1 &&& (1 : Int32)))])
  by_cases hc3_597 : (p1 &&& (1 : Int32)) = (0 : Int32)
  · show own_Fin _ _ _ _ _ _ _ s₁ (mkF m 3 #[Iv p1, Iv p2, Iv p3, Uv, Uv, Uv, Uv, Uv, Uv, Uv, Uv, Uv, Uv] [(.int (p1 &&& (1 : Int32)))])
    refine own_by (fun _ k => XS.ifYes X0.here hx rfl (pc0 := 3) (pc' := 10) rfl (hb hby at_3) rfl ((if0 _ _).trans (teq hc3_597).1) (by decide) (by decide) (XS.iconst X0.here hx rfl (hb hby at_10) k)) ?_
    exact J11_320 ((0 : Int32)) 
  · show own_Fin _ _ _ _ _ _ _ s₁ (mkF m 3 #[Iv p1, Iv p2, Iv p3, Uv, Uv, Uv, Uv, Uv, Uv, Uv, Uv, Uv, Uv] [(.int (p1 &&& (1 : Int32)))])
    refine own_by (fun _ k => XS.ifNo X0.here hx rfl (hb hby at_3) rfl ((if0 _ _).trans (feq hc3_597).1) (XS.iconst X0.here hx rfl (hb hby at_6) (XS.goto X0.here hx rfl (pc0 := 7) (pc' := 11) rfl (hb hby at_7) (by decide) (by decide) k))) ?_
    exact J11_320 ((1 : Int32)) 
theorem own_len {args : Array Value} {Z : State} {t : Term} {a : Addr} {c : Cell} {ty : FieldType} {n : Int32} (et : t.eval args Z none [] Z = some (.ref a)) (A : Arr Z Z.heap a c ty) (eL : (Term.length t).eval args Z none [] Z = some (.int n)) : c.slots.size < 2 ^ 31 ∧ c.slots.size.toInt32 = n := by
  have ha := A.fin (Vm.Alike.refl _)
  by_cases hl : c.slots.size < 2 ^ 31
  · have q := (len_f et ha hl).symm.trans eL
    exact ⟨hl, Value.int.inj (Option.some.inj q)⟩
  · simp [Term.eval, et, ha, hl] at eL
set_option maxRecDepth 65536 in
set_option maxHeartbeats 40000000 in
theorem comes_1 {Post : Tables → Env → Array Value → State → Outcome → State → Prop} (hpost : ∀ tb e args s v u, (limb_1_1.after args s (.returned v) u = true ∧ limb_1_2.after args s (.returned v) u = true ∧ True) → FrameEnd s (.returned v) u (Jvm.fieldLocs frame_1_writes args s ++ Jvm.arrayLocs frame_1_arrays args s ++ Jvm.staticLocs frame_1_statics s) 48 192 → Post tb e args s (.returned v) u) :
    ArmFor flags0 classFile x code maxLocals ret World_1 tables_1 room_1 Calls_1 rest_1 Pre_1 Post := by
  intro l hfl _ _ p e ha hc hk s m args below hf hA hF happ hP
  obtain ⟨hcalls, hrest, hpre⟩ := hP
  obtain ⟨-, -, -, hnamed, -, -, -, hat⟩ := (Spec.applies_iff hf).mp happ
  obtain ⟨hg, hn⟩ := and_e (Cond.before_iff.mp (show (Jvm.Cond.and given_1 narrow_1).before args s = true from hpre))
  obtain ⟨gc, gr0⟩ := and_e hg
  obtain ⟨ga0, gr1⟩ := and_e gr0
  obtain ⟨ga1, gr2⟩ := and_e gr1
  obtain ⟨w0, w1, w2, rfl⟩ : ∃ w0 w1 w2 : Value, args = #[w0, w1, w2] := by
    have hs : args.size = 3 := by simpa [Cond.value, given_1] using gc
    obtain ⟨L⟩ := args
    match L, hs with
    | [w0, w1, w2], _ => exact ⟨w0, w1, w2, rfl⟩
  have hw := fun d (hd : d ∈ tables_1) => atoms_spec (ws := Jvm.Cond.code x code maxLocals ret :: tables_1) hat d (List.mem_cons_of_mem _ hd)
  obtain ⟨hsets, hown0⟩ := atoms_of _ (rest_1_c_eq ▸ (show rest_1_c.before _ s = true from hrest))
  have hr0 := Cond.before_iff.mp hown0
  have hfit : Fit s := fun {y c} hc i hi => by
    obtain ⟨ha, rfl⟩ := Array.getElem?_eq_some_iff.mp hc
    have q := List.all_eq_true.mp ((Array.all_eq_true_iff_forall_mem.mp hF) _ (Array.getElem_mem ha)) i (List.mem_range.mpr hi)
    simpa [Array.getElem?_eq_getElem hi] using q
  obtain ⟨i0, ei0⟩ := is_v ga0
  obtain rfl : w0 = (.int i0) := Option.some.inj ei0
  obtain ⟨i1, ei1⟩ := is_v ga1
  obtain rfl : w1 = (.int i1) := Option.some.inj ei1
  obtain ⟨i2, ei2⟩ := is_v gr2
  obtain rfl : w2 = (.int i2) := Option.some.inj ei2
  have n5 := not_v (Cond.before_iff.mp (hsets _ (List.mem_of_getElem? (i := 18) rfl)))
  obtain ⟨cs, ecs⟩ := is_v (Cond.before_iff.mp (hsets _ (List.mem_of_getElem? (i := 17) rfl)))
  have v6 := (Cond.before_iff.mp (hsets _ (List.mem_of_getElem? (i := 6) rfl)))
  obtain ⟨da, eda⟩ := arr_v v6
  obtain ⟨cd, Acd⟩ := Arr.start eda v6
  obtain ⟨ld1, ld2⟩ := own_len eda Acd (eqv_i (Term.int_eval (0)) (Cond.before_iff.mp (hsets _ (List.mem_of_getElem? (i := 8) rfl))))
  have v11 := (Cond.before_iff.mp (hsets _ (List.mem_of_getElem? (i := 11) rfl)))
  obtain ⟨el, eel⟩ := exa_v v11
  have v12 := (Cond.before_iff.mp (hsets _ (List.mem_of_getElem? (i := 12) rfl)))
  obtain ⟨ea, eea⟩ := arr_v v12
  obtain ⟨ce, Ace⟩ := Arr.start eea v12
  obtain ⟨le1, le2⟩ := own_len eea Ace (eqv_i (Term.int_eval (0)) (Cond.before_iff.mp (hsets _ (List.mem_of_getElem? (i := 14) rfl))))
  have v27 := (Cond.before_iff.mp (hsets _ (List.mem_of_getElem? (i := 27) rfl)))
  obtain ⟨em, eem⟩ := exa_v v27
  obtain ⟨ci, eci⟩ := exa_v hn
  obtain ⟨cm, km, mm, hm⟩ := hcalls.1
  have env : own_Env s cs da el ea em ci mm cd.cls ce.cls := ⟨Sta.start ecs (Or.inl (hsets _ (List.mem_of_getElem? (i := 16) rfl))), gotF (Cond.eq_ints ecs (Term.int_eval (0))) n5, Sta.start eda (Or.inr ⟨(own_g hw 28), hsets _ (List.mem_of_getElem? (i := 2) rfl)⟩), Arv.start hfit Acd ld1 ld2 (by decide) (by rfl) trivial, Sta.start eel (Or.inl (hsets _ (List.mem_of_getElem? (i := 10) rfl))), Exa.start eel v11, Fld.start ((fld_at eel).symm.trans eea), Arv.start hfit Ace le1 le2 (by decide) (by rfl) trivial, Sta.start eem (Or.inl (hsets _ (List.mem_of_getElem? (i := 26) rfl))), Exa.start eem v27, Sta.start eci (Or.inr ⟨(own_g hw 10), (own_g hw 129)⟩), Exa.start eci hn, ⟨cm, km, hm⟩⟩
  obtain ⟨n, o, h1, h2, h3, _, L, rfl, ⟨rfl, N⟩, hq⟩ := rm0 l s _ hw tables_1 i0 i1 i2 cs da el ea em ci mm cd.cls ce.cls s.heap s.heap.size (Nat.le_refl _) env (Old.start s) p e ha hc hk s m _ below hf ((Spec.applies_iff_loose hf).mp happ).1 ⟨rfl, State.Warmed39.refl s, rfl⟩ trivial
  refine ⟨n, _, h1, h2, h3, hpost _ _ _ _ _ _ ⟨Cond.after_iff.mpr rfl, Cond.after_iff.mpr (eq_i res_at (Term.int_eval (1)) rfl), trivial⟩ ⟨hq.1, hq.2.1, (hq.2.2.sift fun y hy => Or.inr (N y hy)).mono (by decide) (by decide)⟩⟩
theorem main_1_1 : Claimed_1_1 := comes_1 fun _ _ _ _ _ _ h hF => ⟨h.1, hF⟩
theorem main_1_2 : Claimed_1_2 := comes_1 fun _ _ _ _ _ _ h hF => ⟨h.2.1, hF⟩
end Jvm.Pilot.@@N@@
namespace Jvm.Pilot.@@N@@
open Jvm Jvm.ClassFile Sem Op Lib Jvm.Free Jvm.Stand Jvm.Pilot.@@N@@.Jvm.D
/-! MADE BY PROGRAM (witnessworld.py) out of the Statement's table words and the real class files: 42 classes; the members and pool entries that the words name. The judged class is class 1, her method 1. -/
namespace start1
open Jvm.ClassFile
def u (s : String) : CpInfo := .utf8 (stringToUtf16 s)
/-- a pool by its gaps: so many unusable entries, then the entry; so many at the end -/
def gap : Nat → List CpInfo → List CpInfo
  | 0, r => r
  | n + 1, r => .unusable :: gap n r
def poolList (es : List (Nat × CpInfo)) (last : Nat) : List CpInfo := es.foldr (fun e r => gap e.1 (e.2 :: r)) (gap last [])
def pool (es : List (Nat × CpInfo)) (last : Nat) : Array CpInfo := ⟨poolList es last⟩
def fileOf (pool : Array CpInfo) (this : Nat) (attrs : Array Attribute := #[]) (ms : Array MethodInfo := #[]) (fl : Nat := 33) (sup : Nat := 0) (ifs : Array Nat := #[]) (fds : Array FieldInfo := #[]) : ClassFile where
  minorVersion := 0
  majorVersion := 65
  constantPool := pool
  accessFlags := fl
  thisClass := this
  superClass := sup
  interfaces := ifs
  fields := fds
  methods := ms
  attributes := attrs
def plain (name : String) (sup : Option ClassId) : Class where
  name := name
  kind := .ordinary
  loader := none
  accessFlags := 33
  super := sup
  interfaces := #[]
  cf := none
  fields := #[]
  methods := #[]
  instanceTypes := #[]
  staticTypes := #[]
  resolved := #[]
  callSites := []
  init := .initialized
  statics := none
  mirror := none

def pool0 : Array CpInfo := pool [(5, u "<init>"), (0, u "()V"), (1, .class_ 10), (1, u "java/lang/Object"), (0, u "getClass"), (0, u "()Ljava/lang/Class;")] 111

def k0c0 : Code := { maxStack := 0, maxLocals := 1, code := object_method_1_code, exceptionTable := #[], attributes := #[] }
def k0m0 : Method := { name := "<init>", desc := "()V", sig := { parameters := [], returnType := none }, accessFlags := 1, code := some k0c0 }
def k0m1 : Method := { name := "getClass", desc := "()Ljava/lang/Class;", sig := { parameters := [], returnType := some (.object "java/lang/Class") }, accessFlags := 273, code := none }
/-- java/lang/Object -/
def k0 : Class := { plain "java/lang/Object" none with
  accessFlags := 33
  interfaces := #[]
  cf := some (fileOf pool0 8 #[] #[{ accessFlags := 1, nameIndex := 5, descriptorIndex := 6, attributes := #[] }, { accessFlags := 273, nameIndex := 11, descriptorIndex := 12, attributes := #[] }] 33 0 #[] #[])
  fields := #[]
  methods := #[k0m0, k0m1]
  instanceTypes := #[]
  staticTypes := #[]
  resolved := Array.replicate 124 none
  statics := none }

def pool1 : Array CpInfo := pool [(2, .class_ 4), (0, .nameAndType 5 6), (0, u "java/lang/Object"), (0, u "<init>"), (0, u "()V"), (0, .class_ 8), (0, u "java/lang/String"), (0, .methodref 7 10), (0, .nameAndType 5 11), (0, u "([C)V"), (0, .class_ 13), (0, u "com/example/lithe_checker/lithechecker/c/CType$StructType"), (0, .methodref 12 15), (0, .nameAndType 5 16), (0, u "(ZLjava/lang/String;)V"), (0, .methodref 12 18), (0, .nameAndType 19 20), (0, u "isComplete"), (0, u "()Z"), (0, .class_ 22), (0, u "java/util/ArrayList"), (0, .methodref 21 3), (0, .class_ 25), (0, u "com/example/lithe_checker/lithechecker/c/CType$Member"), (0, .methodref 7 27), (0, .nameAndType 28 29), (0, u "valueOf"), (0, u "(C)Ljava/lang/String;"), (0, .fieldref 31 32), (0, .class_ 33), (0, .nameAndType 34 35), (0, u "com/example/lithe_checker/lithechecker/c/CType"), (0, u "INT"), (0, u "Lcom/example/lithe_checker/lithechecker/c/CType$IntegerType;"), (0, .methodref 24 37), (0, .nameAndType 5 38), (0, u "(Ljava/lang/String;Lcom/example/lithe_checker/lithechecker/c/CType;)V"), (0, .methodref 21 40), (0, .nameAndType 41 42), (0, u "add"), (0, u "(Ljava/lang/Object;)Z"), (0, .methodref 12 44), (0, .nameAndType 45 46), (0, u "complete"), (0, u "(Ljava/util/List;)V"), (0, .methodref 12 48), (0, .nameAndType 49 50), (0, u "members"), (0, u "()Ljava/util/List;"), (0, .interfaceMethodref 52 53), (0, .class_ 54), (0, .nameAndType 55 56), (0, u "java/util/List"), (0, u "size"), (0, u "()I"), (0, .class_ 58), (0, u "com/example/lithe_checker/lithechecker/c/StructTypeIsCompletePinLaw"), (2, u "law"), (0, u "(III)Z")] 11

def k1m0 : Method := { name := "<init>", desc := "()V", sig := { parameters := [], returnType := none }, accessFlags := 2, code := none }
def k1c1 : Code := { maxStack := 6, maxLocals := 13, code := code, exceptionTable := #[], attributes := #[] }
def k1m1 : Method := { name := "law", desc := "(III)Z", sig := { parameters := [.int, .int, .int], returnType := some .boolean }, accessFlags := 9, code := some k1c1 }
/-- com/example/lithe_checker/lithechecker/c/StructTypeIsCompletePinLaw -/
def k1 : Class := { plain "com/example/lithe_checker/lithechecker/c/StructTypeIsCompletePinLaw" (some 0) with
  accessFlags := 49
  interfaces := #[]
  cf := some (fileOf pool1 57 #[] #[{ accessFlags := 2, nameIndex := 5, descriptorIndex := 6, attributes := #[] }, { accessFlags := 9, nameIndex := 61, descriptorIndex := 62, attributes := #[] }] 49 2 #[] #[])
  fields := #[]
  methods := #[k1m0, k1m1]
  instanceTypes := #[]
  staticTypes := #[]
  resolved := Array.replicate 74 none
  statics := none }

def pool2 : Array CpInfo := pool [(1, .methodref 2 3), (0, .class_ 4), (0, .nameAndType 5 6), (0, u "java/lang/Object"), (0, u "<init>"), (0, u "()V"), (7, .class_ 16), (1, u "com/example/lithe_checker/lithechecker/c/CType"), (0, u "LONG_64"), (0, u "Lcom/example/lithe_checker/lithechecker/c/CType$IntegerType;"), (2, u "LONG_32"), (2, u "UNSIGNED_LONG_64"), (2, u "UNSIGNED_LONG_32"), (5, u "INT"), (0, .class_ 35), (0, u "com/example/lithe_checker/lithechecker/c/CType$IntegerType"), (0, .class_ 37), (0, u "com/example/lithe_checker/lithechecker/c/CType$PointerType"), (23, u "CHAR"), (4, u "SIGNED_CHAR"), (4, u "UNSIGNED_CHAR"), (4, u "SHORT"), (4, u "UNSIGNED_SHORT"), (6, u "UNSIGNED_INT"), (4, u "LONG_LONG"), (4, u "UNSIGNED_LONG_LONG"), (12, u "SIGNED"), (0, u "Ljava/util/List;"), (2, u "UNSIGNED"), (0, .class_ 117), (0, u "com/example/lithe_checker/lithechecker/c/CType$VoidType"), (3, u "VOID"), (0, u "Lcom/example/lithe_checker/lithechecker/c/CType$VoidType;"), (17, .class_ 141), (0, u "com/example/lithe_checker/lithechecker/c/CType$FunctionType"), (0, .class_ 143), (0, u "com/example/lithe_checker/lithechecker/c/CType$ArrayType"), (0, .class_ 145), (0, u "com/example/lithe_checker/lithechecker/c/CType$Member"), (0, .class_ 147), (0, u "com/example/lithe_checker/lithechecker/c/CType$StructType")] 23

def k2c0 : Code := { maxStack := 1, maxLocals := 1, code := prog_5_method_1_code, exceptionTable := #[], attributes := #[] }
def k2m0 : Method := { name := "<init>", desc := "()V", sig := { parameters := [], returnType := none }, accessFlags := 2, code := some k2c0 }
/-- com/example/lithe_checker/lithechecker/c/CType -/
def k2 : Class := { plain "com/example/lithe_checker/lithechecker/c/CType" (some 0) with
  accessFlags := 1057
  interfaces := #[]
  cf := some (fileOf pool2 14 #[.nestMembers #[140, 142, 144, 146, 36, 116, 34]] #[{ accessFlags := 2, nameIndex := 5, descriptorIndex := 6, attributes := #[] }] 1057 2 #[] #[{ accessFlags := 25, nameIndex := 61, descriptorIndex := 18, attributes := #[] }, { accessFlags := 25, nameIndex := 66, descriptorIndex := 18, attributes := #[] }, { accessFlags := 25, nameIndex := 71, descriptorIndex := 18, attributes := #[] }, { accessFlags := 25, nameIndex := 76, descriptorIndex := 18, attributes := #[] }, { accessFlags := 25, nameIndex := 81, descriptorIndex := 18, attributes := #[] }, { accessFlags := 25, nameIndex := 33, descriptorIndex := 18, attributes := #[] }, { accessFlags := 25, nameIndex := 88, descriptorIndex := 18, attributes := #[] }, { accessFlags := 25, nameIndex := 93, descriptorIndex := 18, attributes := #[] }, { accessFlags := 25, nameIndex := 98, descriptorIndex := 18, attributes := #[] }, { accessFlags := 26, nameIndex := 21, descriptorIndex := 18, attributes := #[] }, { accessFlags := 26, nameIndex := 17, descriptorIndex := 18, attributes := #[] }, { accessFlags := 26, nameIndex := 27, descriptorIndex := 18, attributes := #[] }, { accessFlags := 26, nameIndex := 24, descriptorIndex := 18, attributes := #[] }, { accessFlags := 26, nameIndex := 111, descriptorIndex := 112, attributes := #[] }, { accessFlags := 26, nameIndex := 115, descriptorIndex := 112, attributes := #[] }, { accessFlags := 25, nameIndex := 121, descriptorIndex := 122, attributes := #[] }])
  fields := #[{ name := "CHAR", type := (.object "com/example/lithe_checker/lithechecker/c/CType$IntegerType"), accessFlags := 25, slot := 0, constantValue := 0 }, { name := "SIGNED_CHAR", type := (.object "com/example/lithe_checker/lithechecker/c/CType$IntegerType"), accessFlags := 25, slot := 1, constantValue := 0 }, { name := "UNSIGNED_CHAR", type := (.object "com/example/lithe_checker/lithechecker/c/CType$IntegerType"), accessFlags := 25, slot := 2, constantValue := 0 }, { name := "SHORT", type := (.object "com/example/lithe_checker/lithechecker/c/CType$IntegerType"), accessFlags := 25, slot := 3, constantValue := 0 }, { name := "UNSIGNED_SHORT", type := (.object "com/example/lithe_checker/lithechecker/c/CType$IntegerType"), accessFlags := 25, slot := 4, constantValue := 0 }, { name := "INT", type := (.object "com/example/lithe_checker/lithechecker/c/CType$IntegerType"), accessFlags := 25, slot := 5, constantValue := 0 }, { name := "UNSIGNED_INT", type := (.object "com/example/lithe_checker/lithechecker/c/CType$IntegerType"), accessFlags := 25, slot := 6, constantValue := 0 }, { name := "LONG_LONG", type := (.object "com/example/lithe_checker/lithechecker/c/CType$IntegerType"), accessFlags := 25, slot := 7, constantValue := 0 }, { name := "UNSIGNED_LONG_LONG", type := (.object "com/example/lithe_checker/lithechecker/c/CType$IntegerType"), accessFlags := 25, slot := 8, constantValue := 0 }, { name := "LONG_32", type := (.object "com/example/lithe_checker/lithechecker/c/CType$IntegerType"), accessFlags := 26, slot := 9, constantValue := 0 }, { name := "LONG_64", type := (.object "com/example/lithe_checker/lithechecker/c/CType$IntegerType"), accessFlags := 26, slot := 10, constantValue := 0 }, { name := "UNSIGNED_LONG_32", type := (.object "com/example/lithe_checker/lithechecker/c/CType$IntegerType"), accessFlags := 26, slot := 11, constantValue := 0 }, { name := "UNSIGNED_LONG_64", type := (.object "com/example/lithe_checker/lithechecker/c/CType$IntegerType"), accessFlags := 26, slot := 12, constantValue := 0 }, { name := "SIGNED", type := (.object "java/util/List"), accessFlags := 26, slot := 13, constantValue := 0 }, { name := "UNSIGNED", type := (.object "java/util/List"), accessFlags := 26, slot := 14, constantValue := 0 }, { name := "VOID", type := (.object "com/example/lithe_checker/lithechecker/c/CType$VoidType"), accessFlags := 25, slot := 15, constantValue := 0 }]
  methods := #[k2m0]
  instanceTypes := #[]
  staticTypes := #[(.object "com/example/lithe_checker/lithechecker/c/CType$IntegerType"), (.object "com/example/lithe_checker/lithechecker/c/CType$IntegerType"), (.object "com/example/lithe_checker/lithechecker/c/CType$IntegerType"), (.object "com/example/lithe_checker/lithechecker/c/CType$IntegerType"), (.object "com/example/lithe_checker/lithechecker/c/CType$IntegerType"), (.object "com/example/lithe_checker/lithechecker/c/CType$IntegerType"), (.object "com/example/lithe_checker/lithechecker/c/CType$IntegerType"), (.object "com/example/lithe_checker/lithechecker/c/CType$IntegerType"), (.object "com/example/lithe_checker/lithechecker/c/CType$IntegerType"), (.object "com/example/lithe_checker/lithechecker/c/CType$IntegerType"), (.object "com/example/lithe_checker/lithechecker/c/CType$IntegerType"), (.object "com/example/lithe_checker/lithechecker/c/CType$IntegerType"), (.object "com/example/lithe_checker/lithechecker/c/CType$IntegerType"), (.object "java/util/List"), (.object "java/util/List"), (.object "com/example/lithe_checker/lithechecker/c/CType$VoidType")]
  resolved := Array.replicate 171 none
  statics := some 0 }

def pool3 : Array CpInfo := pool [(1, .methodref 2 3), (0, .class_ 4), (0, .nameAndType 5 6), (0, u "com/example/lithe_checker/lithechecker/c/CType"), (0, u "<init>"), (0, u "()V"), (0, .fieldref 8 9), (0, .class_ 10), (0, .nameAndType 11 12), (0, u "com/example/lithe_checker/lithechecker/c/CType$StructType"), (0, u "union"), (0, u "Z"), (0, .fieldref 8 14), (0, .nameAndType 15 16), (0, u "tag"), (0, u "Ljava/lang/String;"), (0, .interfaceMethodref 18 19), (0, .class_ 20), (0, .nameAndType 21 22), (0, u "java/util/List"), (0, u "copyOf"), (0, u "(Ljava/util/Collection;)Ljava/util/List;"), (0, .fieldref 8 24), (0, .nameAndType 25 26), (0, u "members"), (0, u "Ljava/util/List;"), (0, .interfaceMethodref 18 28), (0, .nameAndType 29 30), (0, u "of"), (0, u "()Ljava/util/List;"), (11, u "()Z"), (55, u "(ZLjava/lang/String;)V"), (2, u "complete"), (0, u "(Ljava/util/List;)V"), (2, u "isComplete")] 28

def k3c0 : Code := { maxStack := 2, maxLocals := 3, code := prog_11_method_1_code, exceptionTable := #[], attributes := #[] }
def k3m0 : Method := { name := "<init>", desc := "(ZLjava/lang/String;)V", sig := { parameters := [.boolean, (.object "java/lang/String")], returnType := none }, accessFlags := 0, code := some k3c0 }
def k3c1 : Code := { maxStack := 2, maxLocals := 2, code := prog_11_method_2_code, exceptionTable := #[], attributes := #[] }
def k3m1 : Method := { name := "complete", desc := "(Ljava/util/List;)V", sig := { parameters := [(.object "java/util/List")], returnType := none }, accessFlags := 0, code := some k3c1 }
def k3c2 : Code := { maxStack := 1, maxLocals := 1, code := prog_11_method_5_code, exceptionTable := #[], attributes := #[] }
def k3m2 : Method := { name := "isComplete", desc := "()Z", sig := { parameters := [], returnType := some .boolean }, accessFlags := 1, code := some k3c2 }
def k3c3 : Code := { maxStack := 1, maxLocals := 1, code := prog_11_method_6_code, exceptionTable := #[], attributes := #[] }
def k3m3 : Method := { name := "members", desc := "()Ljava/util/List;", sig := { parameters := [], returnType := some (.object "java/util/List") }, accessFlags := 1, code := some k3c3 }
/-- com/example/lithe_checker/lithechecker/c/CType$StructType -/
def k3 : Class := { plain "com/example/lithe_checker/lithechecker/c/CType$StructType" (some 2) with
  accessFlags := 49
  interfaces := #[]
  cf := some (fileOf pool3 8 #[.nestHost 2] #[{ accessFlags := 0, nameIndex := 5, descriptorIndex := 98, attributes := #[] }, { accessFlags := 0, nameIndex := 101, descriptorIndex := 102, attributes := #[] }, { accessFlags := 1, nameIndex := 105, descriptorIndex := 42, attributes := #[] }, { accessFlags := 1, nameIndex := 25, descriptorIndex := 30, attributes := #[] }] 49 2 #[] #[{ accessFlags := 18, nameIndex := 11, descriptorIndex := 12, attributes := #[] }, { accessFlags := 18, nameIndex := 15, descriptorIndex := 16, attributes := #[] }, { accessFlags := 2, nameIndex := 25, descriptorIndex := 26, attributes := #[] }])
  fields := #[{ name := "union", type := .boolean, accessFlags := 18, slot := 0, constantValue := 0 }, { name := "tag", type := (.object "java/lang/String"), accessFlags := 18, slot := 1, constantValue := 0 }, { name := "members", type := (.object "java/util/List"), accessFlags := 2, slot := 2, constantValue := 0 }]
  methods := #[k3m0, k3m1, k3m2, k3m3]
  instanceTypes := #[.boolean, (.object "java/lang/String"), (.object "java/util/List")]
  staticTypes := #[]
  resolved := Array.replicate 134 none
  statics := none }

def pool4 : Array CpInfo := pool [(8, .class_ 10), (1, u "java/lang/Iterable"), (24, .class_ 36), (0, u "java/lang/Object")] 25

/-- java/lang/Iterable -/
def k4 : Class := { plain "java/lang/Iterable" (some 0) with
  accessFlags := 1537
  interfaces := #[]
  cf := some (fileOf pool4 8 #[] #[] 1537 35 #[] #[])
  fields := #[]
  methods := #[]
  instanceTypes := #[]
  staticTypes := #[]
  resolved := Array.replicate 62 none
  statics := none }

def pool5 : Array CpInfo := pool [(10, .class_ 12), (1, u "java/util/Collection"), (0, u "toArray"), (16, u "()Z"), (29, .class_ 61), (0, u "java/lang/Object"), (0, .class_ 63), (0, u "java/lang/Iterable"), (2, u "isEmpty"), (3, u "()[Ljava/lang/Object;")] 44

def k5m0 : Method := { name := "isEmpty", desc := "()Z", sig := { parameters := [], returnType := some .boolean }, accessFlags := 1025, code := none }
def k5m1 : Method := { name := "toArray", desc := "()[Ljava/lang/Object;", sig := { parameters := [], returnType := some (.array (.object "java/lang/Object")) }, accessFlags := 1025, code := none }
/-- java/util/Collection -/
def k5 : Class := { plain "java/util/Collection" (some 0) with
  accessFlags := 1537
  interfaces := #[4]
  cf := some (fileOf pool5 10 #[] #[{ accessFlags := 1025, nameIndex := 66, descriptorIndex := 30, attributes := #[] }, { accessFlags := 1025, nameIndex := 13, descriptorIndex := 70, attributes := #[] }] 1537 60 #[62] #[])
  fields := #[]
  methods := #[k5m0, k5m1]
  instanceTypes := #[]
  staticTypes := #[]
  resolved := Array.replicate 115 none
  statics := none }

def pool6 : Array CpInfo := pool [(1, .methodref 2 3), (0, .class_ 4), (0, .nameAndType 5 6), (0, u "java/lang/Object"), (0, u "<init>"), (0, u "()V"), (1, .class_ 10), (1, u "java/util/AbstractCollection"), (66, .class_ 78), (0, u "java/util/Collection")] 81

def k6c0 : Code := { maxStack := 1, maxLocals := 1, code := jdk_22_method_1_code, exceptionTable := #[], attributes := #[] }
def k6m0 : Method := { name := "<init>", desc := "()V", sig := { parameters := [], returnType := none }, accessFlags := 4, code := some k6c0 }
/-- java/util/AbstractCollection -/
def k6 : Class := { plain "java/util/AbstractCollection" (some 0) with
  accessFlags := 1057
  interfaces := #[5]
  cf := some (fileOf pool6 8 #[] #[{ accessFlags := 4, nameIndex := 5, descriptorIndex := 6, attributes := #[] }] 1057 2 #[77] #[])
  fields := #[]
  methods := #[k6m0]
  instanceTypes := #[]
  staticTypes := #[]
  resolved := Array.replicate 160 none
  statics := none }

def pool7 : Array CpInfo := pool [(8, .class_ 10), (1, u "java/util/SequencedCollection"), (15, .class_ 27), (0, u "java/lang/Object"), (0, .class_ 29), (0, u "java/util/Collection")] 27

/-- java/util/SequencedCollection -/
def k7 : Class := { plain "java/util/SequencedCollection" (some 0) with
  accessFlags := 1537
  interfaces := #[5]
  cf := some (fileOf pool7 8 #[] #[] 1537 26 #[28] #[])
  fields := #[]
  methods := #[]
  instanceTypes := #[]
  staticTypes := #[]
  resolved := Array.replicate 57 none
  statics := none }

def pool8 : Array CpInfo := pool [(8, .class_ 10), (1, u "java/util/List"), (20, u "(Ljava/lang/Object;)V"), (16, u "<init>"), (30, u "size"), (0, u "()I"), (7, u "of"), (1, .fieldref 91 92), (0, .class_ 93), (0, .nameAndType 94 95), (0, u "java/util/ImmutableCollections"), (0, u "EMPTY_LIST"), (0, u "Ljava/util/ImmutableCollections$ListN;"), (0, .class_ 97), (0, u "java/util/ImmutableCollections$List12"), (0, .methodref 96 99), (0, .nameAndType 48 31), (0, .methodref 96 101), (0, .nameAndType 48 102), (0, u "(Ljava/lang/Object;Ljava/lang/Object;)V"), (0, .class_ 104), (0, u "java/lang/Object"), (3, u "([Ljava/lang/Object;)Ljava/util/List;"), (0, .methodref 91 110), (0, .nameAndType 111 108), (0, u "listFromArray"), (0, .methodref 91 113), (0, .nameAndType 114 115), (0, u "listCopy"), (0, u "(Ljava/util/Collection;)Ljava/util/List;"), (3, u "()Ljava/util/List;"), (0, .class_ 121), (0, u "java/util/SequencedCollection"), (112, u "copyOf")] 16

def k8m0 : Method := { name := "size", desc := "()I", sig := { parameters := [], returnType := some .int }, accessFlags := 1025, code := none }
def k8c1 : Code := { maxStack := 1, maxLocals := 0, code := jdk_40_method_36_code, exceptionTable := #[], attributes := #[] }
def k8m1 : Method := { name := "of", desc := "()Ljava/util/List;", sig := { parameters := [], returnType := some (.object "java/util/List") }, accessFlags := 9, code := some k8c1 }
def k8c2 : Code := { maxStack := 5, maxLocals := 2, code := jdk_40_method_47_code, exceptionTable := #[], attributes := #[] }
def k8m2 : Method := { name := "of", desc := "([Ljava/lang/Object;)Ljava/util/List;", sig := { parameters := [(.array (.object "java/lang/Object"))], returnType := some (.object "java/util/List") }, accessFlags := 137, code := some k8c2 }
def k8c3 : Code := { maxStack := 1, maxLocals := 1, code := jdk_40_method_48_code, exceptionTable := #[], attributes := #[] }
def k8m3 : Method := { name := "copyOf", desc := "(Ljava/util/Collection;)Ljava/util/List;", sig := { parameters := [(.object "java/util/Collection")], returnType := some (.object "java/util/List") }, accessFlags := 9, code := some k8c3 }
/-- java/util/List -/
def k8 : Class := { plain "java/util/List" (some 0) with
  accessFlags := 1537
  interfaces := #[7]
  cf := some (fileOf pool8 8 #[] #[{ accessFlags := 1025, nameIndex := 79, descriptorIndex := 80, attributes := #[] }, { accessFlags := 9, nameIndex := 88, descriptorIndex := 119, attributes := #[] }, { accessFlags := 137, nameIndex := 88, descriptorIndex := 108, attributes := #[] }, { accessFlags := 9, nameIndex := 234, descriptorIndex := 115, attributes := #[] }] 1537 103 #[120] #[])
  fields := #[]
  methods := #[k8m0, k8m1, k8m2, k8m3]
  instanceTypes := #[]
  staticTypes := #[]
  resolved := Array.replicate 251 none
  statics := none }

def pool9 : Array CpInfo := pool [(1, .methodref 2 3), (0, .class_ 4), (0, .nameAndType 5 6), (0, u "java/util/AbstractCollection"), (0, u "<init>"), (0, u "()V"), (0, .fieldref 8 9), (0, .class_ 10), (0, .nameAndType 11 12), (0, u "java/util/AbstractList"), (0, u "modCount"), (0, u "I"), (64, .class_ 78), (0, u "java/util/AbstractList$Itr"), (3, .class_ 83), (0, u "java/util/AbstractList$ListItr"), (9, .class_ 94), (0, u "java/util/AbstractList$RandomAccessSubList"), (3, .class_ 99), (0, u "java/util/AbstractList$SubList"), (33, .class_ 134), (0, u "java/util/List"), (73, .class_ 209), (0, u "java/util/AbstractList$SubList$1"), (0, .class_ 211), (0, u "java/util/AbstractList$RandomAccessSpliterator")] 6

def k9c0 : Code := { maxStack := 2, maxLocals := 1, code := jdk_39_method_1_code, exceptionTable := #[], attributes := #[] }
def k9m0 : Method := { name := "<init>", desc := "()V", sig := { parameters := [], returnType := none }, accessFlags := 4, code := some k9c0 }
/-- java/util/AbstractList -/
def k9 : Class := { plain "java/util/AbstractList" (some 6) with
  accessFlags := 1057
  interfaces := #[8]
  cf := some (fileOf pool9 8 #[.nestMembers #[93, 98, 208, 210, 82, 77]] #[{ accessFlags := 4, nameIndex := 5, descriptorIndex := 6, attributes := #[] }] 1057 2 #[133] #[{ accessFlags := 132, nameIndex := 11, descriptorIndex := 12, attributes := #[] }])
  fields := #[{ name := "modCount", type := .int, accessFlags := 132, slot := 0, constantValue := 0 }]
  methods := #[k9m0]
  instanceTypes := #[.int]
  staticTypes := #[]
  resolved := Array.replicate 218 none
  statics := none }

def pool10 : Array CpInfo := pool [(1, .class_ 2), (0, u "java/util/RandomAccess"), (0, .class_ 4), (0, u "java/lang/Object")] 2

/-- java/util/RandomAccess -/
def k10 : Class := { plain "java/util/RandomAccess" (some 0) with
  accessFlags := 1537
  interfaces := #[]
  cf := some (fileOf pool10 1 #[] #[] 1537 3 #[] #[])
  fields := #[]
  methods := #[]
  instanceTypes := #[]
  staticTypes := #[]
  resolved := Array.replicate 7 none
  statics := none }

def pool11 : Array CpInfo := pool [(1, .class_ 2), (0, u "java/lang/Cloneable"), (0, .class_ 4), (0, u "java/lang/Object")] 2

/-- java/lang/Cloneable -/
def k11 : Class := { plain "java/lang/Cloneable" (some 0) with
  accessFlags := 1537
  interfaces := #[]
  cf := some (fileOf pool11 1 #[] #[] 1537 3 #[] #[])
  fields := #[]
  methods := #[]
  instanceTypes := #[]
  staticTypes := #[]
  resolved := Array.replicate 7 none
  statics := none }

def pool12 : Array CpInfo := pool [(1, .class_ 2), (0, u "java/io/Serializable"), (0, .class_ 4), (0, u "java/lang/Object")] 2

/-- java/io/Serializable -/
def k12 : Class := { plain "java/io/Serializable" (some 0) with
  accessFlags := 1537
  interfaces := #[]
  cf := some (fileOf pool12 1 #[] #[] 1537 3 #[] #[])
  fields := #[]
  methods := #[]
  instanceTypes := #[]
  staticTypes := #[]
  resolved := Array.replicate 7 none
  statics := none }

def pool13 : Array CpInfo := pool [(1, .methodref 2 3), (0, .class_ 4), (0, .nameAndType 5 6), (0, u "java/util/AbstractList"), (0, u "<init>"), (0, u "()V"), (0, .class_ 8), (0, u "java/lang/Object"), (0, .fieldref 10 11), (0, .class_ 12), (0, .nameAndType 13 14), (0, u "java/util/ArrayList"), (0, u "elementData"), (0, u "[Ljava/lang/Object;"), (2, u "EMPTY_ELEMENTDATA"), (21, .fieldref 10 40), (0, .nameAndType 41 14), (0, u "DEFAULTCAPACITY_EMPTY_ELEMENTDATA"), (4, u "toArray"), (0, u "()[Ljava/lang/Object;"), (0, .fieldref 10 49), (0, .nameAndType 50 51), (0, u "size"), (0, u "I"), (6, .class_ 60), (1, u "java/util/Arrays"), (0, u "copyOf"), (1, .fieldref 10 64), (0, .nameAndType 65 51), (0, u "modCount"), (0, .methodref 58 67), (0, .nameAndType 61 68), (0, u "([Ljava/lang/Object;I)[Ljava/lang/Object;"), (0, .methodref 10 70), (0, .nameAndType 71 72), (0, u "grow"), (0, u "(I)[Ljava/lang/Object;"), (6, .methodref 80 81), (0, .class_ 82), (0, .nameAndType 83 84), (0, u "java/lang/Math"), (0, u "max"), (0, u "(II)I"), (11, u "(Ljava/lang/Object;)Z"), (32, .methodref 10 130), (0, .nameAndType 71 47), (0, .methodref 10 132), (0, .nameAndType 133 134), (0, u "add"), (0, u "(Ljava/lang/Object;[Ljava/lang/Object;I)V"), (13, .class_ 149), (0, u "java/util/List"), (23, u "()Z"), (88, .class_ 263), (0, u "java/util/ArrayList$ListItr"), (3, .class_ 268), (0, u "java/util/ArrayList$Itr"), (7, .class_ 277), (0, u "java/util/ArrayList$SubList"), (12, .class_ 291), (0, u "java/util/ArrayList$ArrayListSpliterator"), (37, .class_ 330), (0, u "java/util/RandomAccess"), (0, .class_ 332), (0, u "java/lang/Cloneable"), (0, .class_ 334), (0, u "java/io/Serializable"), (0, u "serialVersionUID"), (0, u "J"), (3, u "DEFAULT_CAPACITY"), (22, u "isEmpty"), (136, .class_ 501), (0, u "java/util/ArrayList$SubList$2"), (0, .class_ 503), (0, u "java/util/ArrayList$SubList$1")] 5

def k13c0 : Code := { maxStack := 2, maxLocals := 1, code := jdk_38_method_2_code, exceptionTable := #[], attributes := #[] }
def k13m0 : Method := { name := "<init>", desc := "()V", sig := { parameters := [], returnType := none }, accessFlags := 1, code := some k13c0 }
def k13c1 : Code := { maxStack := 4, maxLocals := 4, code := jdk_38_method_6_code, exceptionTable := #[], attributes := #[] }
def k13m1 : Method := { name := "grow", desc := "(I)[Ljava/lang/Object;", sig := { parameters := [.int], returnType := some (.array (.object "java/lang/Object")) }, accessFlags := 2, code := some k13c1 }
def k13c2 : Code := { maxStack := 3, maxLocals := 1, code := jdk_38_method_7_code, exceptionTable := #[], attributes := #[] }
def k13m2 : Method := { name := "grow", desc := "()[Ljava/lang/Object;", sig := { parameters := [], returnType := some (.array (.object "java/lang/Object")) }, accessFlags := 2, code := some k13c2 }
def k13c3 : Code := { maxStack := 1, maxLocals := 1, code := jdk_38_method_9_code, exceptionTable := #[], attributes := #[] }
def k13m3 : Method := { name := "isEmpty", desc := "()Z", sig := { parameters := [], returnType := some .boolean }, accessFlags := 1, code := some k13c3 }
def k13c4 : Code := { maxStack := 2, maxLocals := 1, code := jdk_38_method_16_code, exceptionTable := #[], attributes := #[] }
def k13m4 : Method := { name := "toArray", desc := "()[Ljava/lang/Object;", sig := { parameters := [], returnType := some (.array (.object "java/lang/Object")) }, accessFlags := 1, code := some k13c4 }
def k13c5 : Code := { maxStack := 3, maxLocals := 4, code := jdk_38_method_24_code, exceptionTable := #[], attributes := #[] }
def k13m5 : Method := { name := "add", desc := "(Ljava/lang/Object;[Ljava/lang/Object;I)V", sig := { parameters := [(.object "java/lang/Object"), (.array (.object "java/lang/Object")), .int], returnType := none }, accessFlags := 2, code := some k13c5 }
def k13c6 : Code := { maxStack := 4, maxLocals := 2, code := jdk_38_method_25_code, exceptionTable := #[], attributes := #[] }
def k13m6 : Method := { name := "add", desc := "(Ljava/lang/Object;)Z", sig := { parameters := [(.object "java/lang/Object")], returnType := some .boolean }, accessFlags := 1, code := some k13c6 }
/-- java/util/ArrayList -/
def k13 : Class := { plain "java/util/ArrayList" (some 9) with
  accessFlags := 33
  interfaces := #[8, 10, 11, 12]
  cf := some (fileOf pool13 10 #[.nestMembers #[290, 276, 500, 502, 262, 267]] #[{ accessFlags := 1, nameIndex := 5, descriptorIndex := 6, attributes := #[] }, { accessFlags := 2, nameIndex := 71, descriptorIndex := 72, attributes := #[] }, { accessFlags := 2, nameIndex := 71, descriptorIndex := 47, attributes := #[] }, { accessFlags := 1, nameIndex := 363, descriptorIndex := 173, attributes := #[] }, { accessFlags := 1, nameIndex := 46, descriptorIndex := 47, attributes := #[] }, { accessFlags := 2, nameIndex := 133, descriptorIndex := 134, attributes := #[] }, { accessFlags := 1, nameIndex := 133, descriptorIndex := 96, attributes := #[] }] 33 2 #[148, 329, 331, 333] #[{ accessFlags := 26, nameIndex := 335, descriptorIndex := 336, attributes := #[] }, { accessFlags := 26, nameIndex := 340, descriptorIndex := 51, attributes := #[] }, { accessFlags := 26, nameIndex := 17, descriptorIndex := 14, attributes := #[] }, { accessFlags := 26, nameIndex := 41, descriptorIndex := 14, attributes := #[] }, { accessFlags := 128, nameIndex := 13, descriptorIndex := 14, attributes := #[] }, { accessFlags := 2, nameIndex := 50, descriptorIndex := 51, attributes := #[] }])
  fields := #[{ name := "serialVersionUID", type := .long, accessFlags := 26, slot := 0, constantValue := 0 }, { name := "DEFAULT_CAPACITY", type := .int, accessFlags := 26, slot := 1, constantValue := 0 }, { name := "EMPTY_ELEMENTDATA", type := (.array (.object "java/lang/Object")), accessFlags := 26, slot := 2, constantValue := 0 }, { name := "DEFAULTCAPACITY_EMPTY_ELEMENTDATA", type := (.array (.object "java/lang/Object")), accessFlags := 26, slot := 3, constantValue := 0 }, { name := "elementData", type := (.array (.object "java/lang/Object")), accessFlags := 128, slot := 1, constantValue := 0 }, { name := "size", type := .int, accessFlags := 2, slot := 2, constantValue := 0 }]
  methods := #[k13m0, k13m1, k13m2, k13m3, k13m4, k13m5, k13m6]
  instanceTypes := #[.int, (.array (.object "java/lang/Object")), .int]
  staticTypes := #[.long, .int, (.array (.object "java/lang/Object")), (.array (.object "java/lang/Object"))]
  resolved := Array.replicate 509 none
  statics := some 1 }

def pool14 : Array CpInfo := pool [(2, .class_ 4), (1, u "java/lang/Object"), (0, u "<init>"), (0, u "()V"), (3, .class_ 11), (0, u "java/util/ImmutableCollections$List12"), (0, .class_ 13), (0, u "java/util/ImmutableCollections$ListN"), (3, u "Z"), (0, .class_ 19), (0, u "java/util/List"), (0, .interfaceMethodref 21 22), (0, .class_ 23), (0, .nameAndType 24 25), (0, u "java/util/Collection"), (0, u "isEmpty"), (0, u "()Z"), (0, .interfaceMethodref 18 27), (0, .nameAndType 28 29), (0, u "of"), (0, u "()Ljava/util/List;"), (0, .interfaceMethodref 21 31), (0, .nameAndType 32 33), (0, u "toArray"), (0, u "()[Ljava/lang/Object;"), (0, .interfaceMethodref 18 35), (0, .nameAndType 28 36), (0, u "([Ljava/lang/Object;)Ljava/util/List;"), (0, .methodref 38 39), (0, .class_ 40), (0, .nameAndType 41 42), (0, u "java/util/Objects"), (0, u "requireNonNull"), (0, u "(Ljava/lang/Object;)Ljava/lang/Object;"), (0, .methodref 12 44), (0, .nameAndType 5 45), (0, u "([Ljava/lang/Object;Z)V"), (1, .class_ 49), (1, u "java/util/ImmutableCollections"), (0, u "$assertionsDisabled"), (5, u "[Ljava/lang/Object;"), (5, u "EMPTY_LIST"), (0, u "Ljava/util/ImmutableCollections$ListN;"), (8, u "EMPTY_LIST_NULLS"), (22, u "SALT32L"), (0, u "J"), (2, u "REVERSE"), (6, u "archivedObjects"), (2, u "EMPTY"), (0, u "Ljava/lang/Object;"), (0, .class_ 112), (0, u "java/util/ImmutableCollections$SetN"), (5, u "EMPTY_SET"), (0, u "Ljava/util/ImmutableCollections$SetN;"), (0, .class_ 121), (0, u "java/util/ImmutableCollections$MapN"), (3, u "EMPTY_MAP"), (0, u "Ljava/util/ImmutableCollections$MapN;"), (4, u "EXPAND_FACTOR"), (0, u "I"), (9, u "listCopy"), (0, u "(Ljava/util/Collection;)Ljava/util/List;"), (7, u "listFromArray"), (17, .class_ 170), (0, u "java/util/ImmutableCollections$MapN$MapNIterator"), (0, .class_ 172), (0, u "java/util/ImmutableCollections$MapN$1"), (0, .class_ 174), (0, u "java/util/ImmutableCollections$Map1"), (0, .class_ 176), (0, u "java/util/ImmutableCollections$AbstractImmutableMap"), (0, .class_ 178), (0, u "java/util/ImmutableCollections$SetN$SetNIterator"), (0, .class_ 180), (0, u "java/util/ImmutableCollections$Set12"), (0, .class_ 182), (0, u "java/util/ImmutableCollections$Set12$1"), (0, .class_ 184), (0, u "java/util/ImmutableCollections$AbstractImmutableSet"), (0, .class_ 186), (0, u "java/util/ImmutableCollections$SubList"), (0, .class_ 188), (0, u "java/util/ImmutableCollections$ListItr"), (0, .class_ 190), (0, u "java/util/ImmutableCollections$AbstractImmutableList"), (0, .class_ 192), (0, u "java/util/ImmutableCollections$AbstractImmutableCollection"), (0, .class_ 194), (0, u "java/util/ImmutableCollections$Access"), (0, .class_ 196), (0, u "java/util/ImmutableCollections$Access$1")] 16

def k14m0 : Method := { name := "<init>", desc := "()V", sig := { parameters := [], returnType := none }, accessFlags := 2, code := none }
def k14c1 : Code := { maxStack := 1, maxLocals := 2, code := jdk_56_method_3_code, exceptionTable := #[], attributes := #[] }
def k14m1 : Method := { name := "listCopy", desc := "(Ljava/util/Collection;)Ljava/util/List;", sig := { parameters := [(.object "java/util/Collection")], returnType := some (.object "java/util/List") }, accessFlags := 8, code := some k14c1 }
def k14c2 : Code := { maxStack := 4, maxLocals := 3, code := jdk_56_method_4_code, exceptionTable := #[], attributes := #[] }
def k14m2 : Method := { name := "listFromArray", desc := "([Ljava/lang/Object;)Ljava/util/List;", sig := { parameters := [(.array (.object "java/lang/Object"))], returnType := some (.object "java/util/List") }, accessFlags := 136, code := some k14c2 }
/-- java/util/ImmutableCollections -/
def k14 : Class := { plain "java/util/ImmutableCollections" (some 0) with
  accessFlags := 32
  interfaces := #[]
  cf := some (fileOf pool14 47 #[.nestMembers #[120, 169, 171, 173, 175, 111, 177, 179, 181, 183, 12, 10, 185, 187, 189, 191, 193, 195]] #[{ accessFlags := 2, nameIndex := 5, descriptorIndex := 6, attributes := #[] }, { accessFlags := 8, nameIndex := 142, descriptorIndex := 143, attributes := #[] }, { accessFlags := 136, nameIndex := 151, descriptorIndex := 36, attributes := #[] }] 32 2 #[] #[{ accessFlags := 26, nameIndex := 95, descriptorIndex := 96, attributes := #[] }, { accessFlags := 26, nameIndex := 99, descriptorIndex := 17, attributes := #[] }, { accessFlags := 10, nameIndex := 106, descriptorIndex := 56, attributes := #[] }, { accessFlags := 26, nameIndex := 109, descriptorIndex := 110, attributes := #[] }, { accessFlags := 24, nameIndex := 62, descriptorIndex := 63, attributes := #[] }, { accessFlags := 24, nameIndex := 72, descriptorIndex := 63, attributes := #[] }, { accessFlags := 24, nameIndex := 118, descriptorIndex := 119, attributes := #[] }, { accessFlags := 24, nameIndex := 125, descriptorIndex := 126, attributes := #[] }, { accessFlags := 24, nameIndex := 131, descriptorIndex := 132, attributes := #[] }, { accessFlags := 4120, nameIndex := 50, descriptorIndex := 17, attributes := #[] }])
  fields := #[{ name := "SALT32L", type := .long, accessFlags := 26, slot := 0, constantValue := 0 }, { name := "REVERSE", type := .boolean, accessFlags := 26, slot := 1, constantValue := 0 }, { name := "archivedObjects", type := (.array (.object "java/lang/Object")), accessFlags := 10, slot := 2, constantValue := 0 }, { name := "EMPTY", type := (.object "java/lang/Object"), accessFlags := 26, slot := 3, constantValue := 0 }, { name := "EMPTY_LIST", type := (.object "java/util/ImmutableCollections$ListN"), accessFlags := 24, slot := 4, constantValue := 0 }, { name := "EMPTY_LIST_NULLS", type := (.object "java/util/ImmutableCollections$ListN"), accessFlags := 24, slot := 5, constantValue := 0 }, { name := "EMPTY_SET", type := (.object "java/util/ImmutableCollections$SetN"), accessFlags := 24, slot := 6, constantValue := 0 }, { name := "EMPTY_MAP", type := (.object "java/util/ImmutableCollections$MapN"), accessFlags := 24, slot := 7, constantValue := 0 }, { name := "EXPAND_FACTOR", type := .int, accessFlags := 24, slot := 8, constantValue := 0 }, { name := "$assertionsDisabled", type := .boolean, accessFlags := 4120, slot := 9, constantValue := 0 }]
  methods := #[k14m0, k14m1, k14m2]
  instanceTypes := #[]
  staticTypes := #[.long, .boolean, (.array (.object "java/lang/Object")), (.object "java/lang/Object"), (.object "java/util/ImmutableCollections$ListN"), (.object "java/util/ImmutableCollections$ListN"), (.object "java/util/ImmutableCollections$SetN"), (.object "java/util/ImmutableCollections$MapN"), .int, .boolean]
  resolved := Array.replicate 213 none
  statics := some 2 }

def pool15 : Array CpInfo := pool [(1, .methodref 2 3), (0, .class_ 4), (0, .nameAndType 5 6), (0, u "java/util/AbstractCollection"), (0, u "<init>"), (0, u "()V"), (1, .class_ 10), (1, u "java/util/ImmutableCollections"), (2, .class_ 14), (0, u "java/util/ImmutableCollections$AbstractImmutableCollection")] 41

def k15c0 : Code := { maxStack := 1, maxLocals := 1, code := jdk_47_method_1_code, exceptionTable := #[], attributes := #[] }
def k15m0 : Method := { name := "<init>", desc := "()V", sig := { parameters := [], returnType := none }, accessFlags := 0, code := some k15c0 }
/-- java/util/ImmutableCollections$AbstractImmutableCollection -/
def k15 : Class := { plain "java/util/ImmutableCollections$AbstractImmutableCollection" (some 6) with
  accessFlags := 1056
  interfaces := #[]
  cf := some (fileOf pool15 13 #[.nestHost 8] #[{ accessFlags := 0, nameIndex := 5, descriptorIndex := 6, attributes := #[] }] 1056 2 #[] #[])
  fields := #[]
  methods := #[k15m0]
  instanceTypes := #[]
  staticTypes := #[]
  resolved := Array.replicate 56 none
  statics := none }

def pool16 : Array CpInfo := pool [(1, .methodref 2 3), (0, .class_ 4), (0, .nameAndType 5 6), (0, u "java/util/ImmutableCollections$AbstractImmutableCollection"), (0, u "<init>"), (0, u "()V"), (1, .class_ 10), (1, u "java/util/ImmutableCollections"), (3, .class_ 16), (1, u "java/util/ImmutableCollections$AbstractImmutableList"), (60, .class_ 78), (0, u "java/util/List"), (45, .class_ 125), (0, u "java/util/RandomAccess")] 70

def k16c0 : Code := { maxStack := 1, maxLocals := 1, code := jdk_46_method_1_code, exceptionTable := #[], attributes := #[] }
def k16m0 : Method := { name := "<init>", desc := "()V", sig := { parameters := [], returnType := none }, accessFlags := 0, code := some k16c0 }
/-- java/util/ImmutableCollections$AbstractImmutableList -/
def k16 : Class := { plain "java/util/ImmutableCollections$AbstractImmutableList" (some 15) with
  accessFlags := 1056
  interfaces := #[8, 10]
  cf := some (fileOf pool16 14 #[.nestHost 8] #[{ accessFlags := 0, nameIndex := 5, descriptorIndex := 6, attributes := #[] }] 1056 2 #[77, 124] #[])
  fields := #[]
  methods := #[k16m0]
  instanceTypes := #[]
  staticTypes := #[]
  resolved := Array.replicate 196 none
  statics := none }

def pool17 : Array CpInfo := pool [(1, .methodref 2 3), (0, .class_ 4), (0, .nameAndType 5 6), (0, u "java/util/ImmutableCollections$AbstractImmutableList"), (0, u "<init>"), (0, u "()V"), (0, .methodref 8 9), (0, .class_ 10), (0, .nameAndType 11 12), (0, u "java/util/Objects"), (0, u "requireNonNull"), (0, u "(Ljava/lang/Object;)Ljava/lang/Object;"), (0, .fieldref 14 15), (0, .class_ 16), (0, .nameAndType 17 18), (0, u "java/util/ImmutableCollections$List12"), (0, u "e0"), (0, u "Ljava/lang/Object;"), (0, .fieldref 20 21), (0, .class_ 22), (0, .nameAndType 23 18), (0, u "java/util/ImmutableCollections"), (0, u "EMPTY"), (0, .fieldref 14 25), (0, .nameAndType 26 18), (0, u "e1"), (24, u "size"), (0, u "()I"), (17, .class_ 71), (0, u "java/io/Serializable"), (4, u "(Ljava/lang/Object;)V"), (8, u "(Ljava/lang/Object;Ljava/lang/Object;)V")] 39

def k17c0 : Code := { maxStack := 2, maxLocals := 2, code := jdk_44_method_1_code, exceptionTable := #[], attributes := #[] }
def k17m0 : Method := { name := "<init>", desc := "(Ljava/lang/Object;)V", sig := { parameters := [(.object "java/lang/Object")], returnType := none }, accessFlags := 0, code := some k17c0 }
def k17c1 : Code := { maxStack := 2, maxLocals := 3, code := jdk_44_method_2_code, exceptionTable := #[], attributes := #[] }
def k17m1 : Method := { name := "<init>", desc := "(Ljava/lang/Object;Ljava/lang/Object;)V", sig := { parameters := [(.object "java/lang/Object"), (.object "java/lang/Object")], returnType := none }, accessFlags := 0, code := some k17c1 }
def k17c2 : Code := { maxStack := 2, maxLocals := 1, code := jdk_44_method_3_code, exceptionTable := #[], attributes := #[] }
def k17m2 : Method := { name := "size", desc := "()I", sig := { parameters := [], returnType := some .int }, accessFlags := 1, code := some k17c2 }
/-- java/util/ImmutableCollections$List12 -/
def k17 : Class := { plain "java/util/ImmutableCollections$List12" (some 16) with
  accessFlags := 48
  interfaces := #[12]
  cf := some (fileOf pool17 14 #[.nestHost 20] #[{ accessFlags := 0, nameIndex := 5, descriptorIndex := 76, attributes := #[] }, { accessFlags := 0, nameIndex := 5, descriptorIndex := 85, attributes := #[] }, { accessFlags := 1, nameIndex := 51, descriptorIndex := 52, attributes := #[] }] 48 2 #[70] #[{ accessFlags := 18, nameIndex := 17, descriptorIndex := 18, attributes := #[] }, { accessFlags := 18, nameIndex := 26, descriptorIndex := 18, attributes := #[] }])
  fields := #[{ name := "e0", type := (.object "java/lang/Object"), accessFlags := 18, slot := 0, constantValue := 0 }, { name := "e1", type := (.object "java/lang/Object"), accessFlags := 18, slot := 1, constantValue := 0 }]
  methods := #[k17m0, k17m1, k17m2]
  instanceTypes := #[(.object "java/lang/Object"), (.object "java/lang/Object")]
  staticTypes := #[]
  resolved := Array.replicate 125 none
  statics := none }

def pool18 : Array CpInfo := pool [(1, .methodref 2 3), (0, .class_ 4), (0, .nameAndType 5 6), (0, u "java/util/ImmutableCollections$AbstractImmutableList"), (0, u "<init>"), (0, u "()V"), (0, .fieldref 8 9), (0, .class_ 10), (0, .nameAndType 11 12), (0, u "java/util/ImmutableCollections$ListN"), (0, u "elements"), (0, u "[Ljava/lang/Object;"), (0, .fieldref 8 14), (0, .nameAndType 15 16), (0, u "allowNulls"), (0, u "Z"), (42, .class_ 60), (0, u "java/io/Serializable"), (4, u "([Ljava/lang/Object;Z)V"), (11, u "size"), (0, u "()I"), (35, .class_ 115), (0, u "java/util/ImmutableCollections")] 3

def k18c0 : Code := { maxStack := 2, maxLocals := 3, code := jdk_45_method_1_code, exceptionTable := #[], attributes := #[] }
def k18m0 : Method := { name := "<init>", desc := "([Ljava/lang/Object;Z)V", sig := { parameters := [(.array (.object "java/lang/Object")), .boolean], returnType := none }, accessFlags := 2, code := some k18c0 }
def k18c1 : Code := { maxStack := 1, maxLocals := 1, code := jdk_45_method_3_code, exceptionTable := #[], attributes := #[] }
def k18m1 : Method := { name := "size", desc := "()I", sig := { parameters := [], returnType := some .int }, accessFlags := 1, code := some k18c1 }
/-- java/util/ImmutableCollections$ListN -/
def k18 : Class := { plain "java/util/ImmutableCollections$ListN" (some 16) with
  accessFlags := 48
  interfaces := #[12]
  cf := some (fileOf pool18 8 #[.nestHost 114] #[{ accessFlags := 2, nameIndex := 5, descriptorIndex := 65, attributes := #[] }, { accessFlags := 1, nameIndex := 77, descriptorIndex := 78, attributes := #[] }] 48 2 #[59] #[{ accessFlags := 18, nameIndex := 11, descriptorIndex := 12, attributes := #[] }, { accessFlags := 18, nameIndex := 15, descriptorIndex := 16, attributes := #[] }])
  fields := #[{ name := "elements", type := (.array (.object "java/lang/Object")), accessFlags := 18, slot := 0, constantValue := 0 }, { name := "allowNulls", type := .boolean, accessFlags := 18, slot := 1, constantValue := 0 }]
  methods := #[k18m0, k18m1]
  instanceTypes := #[(.array (.object "java/lang/Object")), .boolean]
  staticTypes := #[]
  resolved := Array.replicate 119 none
  statics := none }

def pool19 : Array CpInfo := pool [(1, .methodref 2 3), (0, .class_ 4), (0, .nameAndType 5 6), (0, u "java/lang/Object"), (0, u "<init>"), (0, u "()V"), (0, .fieldref 8 9), (0, .class_ 10), (0, .nameAndType 11 12), (0, u "com/example/lithe_checker/lithechecker/c/CType$Member"), (0, u "name"), (0, u "Ljava/lang/String;"), (0, .fieldref 8 14), (0, .nameAndType 15 16), (0, u "type"), (0, u "Lcom/example/lithe_checker/lithechecker/c/CType;"), (0, u "(Ljava/lang/String;Lcom/example/lithe_checker/lithechecker/c/CType;)V"), (8, .class_ 27), (0, u "com/example/lithe_checker/lithechecker/c/CType")] 2

def k19c0 : Code := { maxStack := 2, maxLocals := 3, code := prog_9_method_1_code, exceptionTable := #[], attributes := #[] }
def k19m0 : Method := { name := "<init>", desc := "(Ljava/lang/String;Lcom/example/lithe_checker/lithechecker/c/CType;)V", sig := { parameters := [(.object "java/lang/String"), (.object "com/example/lithe_checker/lithechecker/c/CType")], returnType := none }, accessFlags := 0, code := some k19c0 }
/-- com/example/lithe_checker/lithechecker/c/CType$Member -/
def k19 : Class := { plain "com/example/lithe_checker/lithechecker/c/CType$Member" (some 0) with
  accessFlags := 49
  interfaces := #[]
  cf := some (fileOf pool19 8 #[.nestHost 26] #[{ accessFlags := 0, nameIndex := 5, descriptorIndex := 17, attributes := #[] }] 49 2 #[] #[{ accessFlags := 18, nameIndex := 11, descriptorIndex := 12, attributes := #[] }, { accessFlags := 18, nameIndex := 15, descriptorIndex := 16, attributes := #[] }])
  fields := #[{ name := "name", type := (.object "java/lang/String"), accessFlags := 18, slot := 0, constantValue := 0 }, { name := "type", type := (.object "com/example/lithe_checker/lithechecker/c/CType"), accessFlags := 18, slot := 1, constantValue := 0 }]
  methods := #[k19m0]
  instanceTypes := #[(.object "java/lang/String"), (.object "com/example/lithe_checker/lithechecker/c/CType")]
  staticTypes := #[]
  resolved := Array.replicate 30 none
  statics := none }

def pool20 : Array CpInfo := pool [(1, .class_ 2), (0, u "java/lang/Comparable"), (0, .class_ 4), (0, u "java/lang/Object")] 7

/-- java/lang/Comparable -/
def k20 : Class := { plain "java/lang/Comparable" (some 0) with
  accessFlags := 1537
  interfaces := #[]
  cf := some (fileOf pool20 1 #[] #[] 1537 3 #[] #[])
  fields := #[]
  methods := #[]
  instanceTypes := #[]
  staticTypes := #[]
  resolved := Array.replicate 12 none
  statics := none }

def pool21 : Array CpInfo := pool [(2, .class_ 4), (1, u "java/lang/CharSequence"), (42, .class_ 48), (0, u "java/lang/CharSequence$1CodePointIterator"), (10, .class_ 60), (0, u "java/lang/CharSequence$1CharIterator"), (5, .class_ 67), (0, u "java/lang/Object")] 63

/-- java/lang/CharSequence -/
def k21 : Class := { plain "java/lang/CharSequence" (some 0) with
  accessFlags := 1537
  interfaces := #[]
  cf := some (fileOf pool21 2 #[.nestMembers #[47, 59]] #[] 1537 66 #[] #[])
  fields := #[]
  methods := #[]
  instanceTypes := #[]
  staticTypes := #[]
  resolved := Array.replicate 131 none
  statics := none }

def pool22 : Array CpInfo := pool [(1, .class_ 2), (0, u "java/lang/constant/Constable"), (0, .class_ 4), (0, u "java/lang/Object")] 6

/-- java/lang/constant/Constable -/
def k22 : Class := { plain "java/lang/constant/Constable" (some 0) with
  accessFlags := 1537
  interfaces := #[]
  cf := some (fileOf pool22 1 #[] #[] 1537 3 #[] #[])
  fields := #[]
  methods := #[]
  instanceTypes := #[]
  staticTypes := #[]
  resolved := Array.replicate 11 none
  statics := none }

def pool23 : Array CpInfo := pool [(1, .class_ 2), (0, u "java/lang/constant/ConstantDesc"), (0, .class_ 4), (0, u "java/lang/Object")] 32

/-- java/lang/constant/ConstantDesc -/
def k23 : Class := { plain "java/lang/constant/ConstantDesc" (some 0) with
  accessFlags := 1537
  interfaces := #[]
  cf := some (fileOf pool23 1 #[] #[] 1537 3 #[] #[])
  fields := #[]
  methods := #[]
  instanceTypes := #[]
  staticTypes := #[]
  resolved := Array.replicate 37 none
  statics := none }

def pool24 : Array CpInfo := pool [(1, .methodref 2 3), (0, .class_ 4), (0, .nameAndType 5 6), (0, u "java/lang/Object"), (0, u "<init>"), (0, u "()V"), (2, .fieldref 10 11), (0, .class_ 12), (0, .nameAndType 13 14), (0, u "java/lang/String"), (0, u "value"), (0, u "[B"), (0, .fieldref 10 16), (0, .nameAndType 17 18), (0, u "coder"), (0, u "B"), (2, u "hash"), (0, u "I"), (2, u "hashIsZero"), (0, u "Z"), (0, .methodref 10 28), (0, .nameAndType 5 29), (0, u "([CIILjava/lang/Void;)V"), (8, .fieldref 10 39), (0, .nameAndType 40 26), (0, u "COMPACT_STRINGS"), (1, .class_ 44), (1, u "java/lang/StringUTF16"), (0, u "compress"), (1, .methodref 42 48), (0, .nameAndType 49 50), (0, u "coderFromArrayLen"), (0, u "([BI)B"), (2, u "toBytes"), (53, .class_ 109), (1, u "java/lang/StringLatin1"), (67, .methodref 42 178), (0, .nameAndType 45 179), (0, u "([CII)[B"), (29, .methodref 10 210), (0, .nameAndType 5 211), (0, u "([BB)V"), (157, u "(C)Z"), (205, .class_ 576), (0, u "java/lang/CharSequence"), (22, u "CASE_INSENSITIVE_ORDER"), (0, u "Ljava/util/Comparator;"), (181, u "valueOf"), (0, u "(C)Ljava/lang/String;"), (226, u "([C)V"), (4, .methodref 107 1016), (0, .nameAndType 1017 369), (0, u "canEncode"), (0, .methodref 107 1019), (0, .nameAndType 53 1020), (0, u "(C)[B"), (80, u "serialPersistentFields"), (0, u "[Ljava/io/ObjectStreamField;"), (0, .class_ 1104), (0, u "java/lang/String$CaseInsensitiveComparator"), (1, .class_ 1107), (0, u "java/io/Serializable"), (0, .class_ 1109), (0, u "java/lang/Comparable"), (0, .class_ 1111), (0, u "java/lang/constant/Constable"), (0, .class_ 1113), (0, u "java/lang/constant/ConstantDesc"), (2, u "serialVersionUID"), (0, u "J"), (3, u "REPL"), (0, u "C"), (2, u "LATIN1"), (1, u "UTF16")] 323

def k24m0 : Method := { name := "<init>", desc := "()V", sig := { parameters := [], returnType := none }, accessFlags := 1, code := none }
def k24c1 : Code := { maxStack := 5, maxLocals := 2, code := jdk_42_method_3_code, exceptionTable := #[], attributes := #[] }
def k24m1 : Method := { name := "<init>", desc := "([C)V", sig := { parameters := [(.array .char)], returnType := none }, accessFlags := 1, code := some k24c1 }
def k24c2 : Code := { maxStack := 4, maxLocals := 1, code := jdk_42_method_139_code, exceptionTable := #[], attributes := #[] }
def k24m2 : Method := { name := "valueOf", desc := "(C)Ljava/lang/String;", sig := { parameters := [.char], returnType := some (.object "java/lang/String") }, accessFlags := 9, code := some k24c2 }
def k24c3 : Code := { maxStack := 4, maxLocals := 6, code := jdk_42_method_149_code, exceptionTable := #[], attributes := #[] }
def k24m3 : Method := { name := "<init>", desc := "([CIILjava/lang/Void;)V", sig := { parameters := [(.array .char), .int, .int, (.object "java/lang/Void")], returnType := none }, accessFlags := 2, code := some k24c3 }
def k24c4 : Code := { maxStack := 2, maxLocals := 3, code := jdk_42_method_151_code, exceptionTable := #[], attributes := #[] }
def k24m4 : Method := { name := "<init>", desc := "([BB)V", sig := { parameters := [(.array .byte), .byte], returnType := none }, accessFlags := 0, code := some k24c4 }
/-- java/lang/String -/
def k24 : Class := { plain "java/lang/String" (some 0) with
  accessFlags := 49
  interfaces := #[12, 20, 21, 22, 23]
  cf := some (fileOf pool24 10 #[.nestMembers #[1103]] #[{ accessFlags := 1, nameIndex := 5, descriptorIndex := 6, attributes := #[] }, { accessFlags := 1, nameIndex := 5, descriptorIndex := 1010, attributes := #[] }, { accessFlags := 9, nameIndex := 782, descriptorIndex := 783, attributes := #[] }, { accessFlags := 2, nameIndex := 5, descriptorIndex := 29, attributes := #[] }, { accessFlags := 0, nameIndex := 5, descriptorIndex := 211, attributes := #[] }] 49 2 #[1106, 1108, 575, 1110, 1112] #[{ accessFlags := 18, nameIndex := 13, descriptorIndex := 14, attributes := #[] }, { accessFlags := 18, nameIndex := 17, descriptorIndex := 18, attributes := #[] }, { accessFlags := 2, nameIndex := 21, descriptorIndex := 22, attributes := #[] }, { accessFlags := 2, nameIndex := 25, descriptorIndex := 26, attributes := #[] }, { accessFlags := 26, nameIndex := 1116, descriptorIndex := 1117, attributes := #[] }, { accessFlags := 24, nameIndex := 40, descriptorIndex := 26, attributes := #[] }, { accessFlags := 26, nameIndex := 1101, descriptorIndex := 1102, attributes := #[] }, { accessFlags := 26, nameIndex := 1121, descriptorIndex := 1122, attributes := #[] }, { accessFlags := 25, nameIndex := 599, descriptorIndex := 600, attributes := #[] }, { accessFlags := 24, nameIndex := 1125, descriptorIndex := 18, attributes := #[] }, { accessFlags := 24, nameIndex := 1127, descriptorIndex := 18, attributes := #[] }])
  fields := #[{ name := "value", type := (.array .byte), accessFlags := 18, slot := 0, constantValue := 0 }, { name := "coder", type := .byte, accessFlags := 18, slot := 1, constantValue := 0 }, { name := "hash", type := .int, accessFlags := 2, slot := 2, constantValue := 0 }, { name := "hashIsZero", type := .boolean, accessFlags := 2, slot := 3, constantValue := 0 }, { name := "serialVersionUID", type := .long, accessFlags := 26, slot := 0, constantValue := 0 }, { name := "COMPACT_STRINGS", type := .boolean, accessFlags := 24, slot := 1, constantValue := 0 }, { name := "serialPersistentFields", type := (.array (.object "java/io/ObjectStreamField")), accessFlags := 26, slot := 2, constantValue := 0 }, { name := "REPL", type := .char, accessFlags := 26, slot := 3, constantValue := 0 }, { name := "CASE_INSENSITIVE_ORDER", type := (.object "java/util/Comparator"), accessFlags := 25, slot := 4, constantValue := 0 }, { name := "LATIN1", type := .byte, accessFlags := 24, slot := 5, constantValue := 0 }, { name := "UTF16", type := .byte, accessFlags := 24, slot := 6, constantValue := 0 }]
  methods := #[k24m0, k24m1, k24m2, k24m3, k24m4]
  instanceTypes := #[(.array .byte), .byte, .int, .boolean]
  staticTypes := #[.long, .boolean, (.array (.object "java/io/ObjectStreamField")), .char, (.object "java/util/Comparator"), .byte, .byte]
  resolved := Array.replicate 1451 none
  statics := some 3 }

def pool25 : Array CpInfo := pool [(4, .class_ 6), (1, u "java/lang/Object"), (0, u "<init>"), (0, u "()V"), (5, .class_ 16), (1, u "java/lang/StringLatin1"), (73, u "canEncode"), (14, u "(C)Z"), (15, u "$assertionsDisabled"), (0, u "Z"), (98, .class_ 223), (1, u "java/lang/StringLatin1$LinesSpliterator"), (156, u "toBytes"), (1, u "(C)[B"), (7, .class_ 391), (0, u "java/lang/StringLatin1$CharsSpliterator")] 3

def k25m0 : Method := { name := "<init>", desc := "()V", sig := { parameters := [], returnType := none }, accessFlags := 0, code := none }
def k25c1 : Code := { maxStack := 2, maxLocals := 1, code := jdk_43_method_3_code, exceptionTable := #[], attributes := #[] }
def k25m1 : Method := { name := "canEncode", desc := "(C)Z", sig := { parameters := [.char], returnType := some .boolean }, accessFlags := 9, code := some k25c1 }
def k25c2 : Code := { maxStack := 4, maxLocals := 1, code := jdk_43_method_46_code, exceptionTable := #[], attributes := #[] }
def k25m2 : Method := { name := "toBytes", desc := "(C)[B", sig := { parameters := [.char], returnType := some (.array .byte) }, accessFlags := 9, code := some k25c2 }
/-- java/lang/StringLatin1 -/
def k25 : Class := { plain "java/lang/StringLatin1" (some 0) with
  accessFlags := 48
  interfaces := #[]
  cf := some (fileOf pool25 14 #[.nestMembers #[390, 221]] #[{ accessFlags := 0, nameIndex := 7, descriptorIndex := 8, attributes := #[] }, { accessFlags := 9, nameIndex := 90, descriptorIndex := 105, attributes := #[] }, { accessFlags := 9, nameIndex := 380, descriptorIndex := 382, attributes := #[] }] 48 4 #[] #[{ accessFlags := 4120, nameIndex := 121, descriptorIndex := 122, attributes := #[] }])
  fields := #[{ name := "$assertionsDisabled", type := .boolean, accessFlags := 4120, slot := 0, constantValue := 0 }]
  methods := #[k25m0, k25m1, k25m2]
  instanceTypes := #[]
  staticTypes := #[.boolean]
  resolved := Array.replicate 395 none
  statics := none }

def pool26 : Array CpInfo := pool [(1, .class_ 2), (0, u "java/lang/Math"), (1, .class_ 6), (1, u "java/lang/Object"), (0, u "<init>"), (0, u "()V"), (89, .class_ 100), (1, u "java/lang/Math$RandomNumberGeneratorHolder"), (71, u "negativeZeroFloatBits"), (0, u "J"), (2, u "negativeZeroDoubleBits"), (21, u "max"), (2, u "min"), (43, u "$assertionsDisabled"), (0, u "Z"), (88, u "(II)I"), (2, u "twoToTheDoubleScaleDown"), (0, u "D"), (4, u "twoToTheDoubleScaleUp"), (9, u "E"), (3, u "PI"), (2, u "TAU"), (2, u "DEGREES_TO_RADIANS"), (0, u "RADIANS_TO_DEGREES")] 94

def k26m0 : Method := { name := "<init>", desc := "()V", sig := { parameters := [], returnType := none }, accessFlags := 2, code := none }
def k26c1 : Code := { maxStack := 2, maxLocals := 2, code := jdk_29_method_65_code, exceptionTable := #[], attributes := #[] }
def k26m1 : Method := { name := "max", desc := "(II)I", sig := { parameters := [.int, .int], returnType := some .int }, accessFlags := 9, code := some k26c1 }
def k26c2 : Code := { maxStack := 2, maxLocals := 2, code := jdk_29_method_69_code, exceptionTable := #[], attributes := #[] }
def k26m2 : Method := { name := "min", desc := "(II)I", sig := { parameters := [.int, .int], returnType := some .int }, accessFlags := 9, code := some k26c2 }
/-- java/lang/Math -/
def k26 : Class := { plain "java/lang/Math" (some 0) with
  accessFlags := 49
  interfaces := #[]
  cf := some (fileOf pool26 1 #[.nestMembers #[98]] #[{ accessFlags := 2, nameIndex := 7, descriptorIndex := 8, attributes := #[] }, { accessFlags := 9, nameIndex := 198, descriptorIndex := 335, attributes := #[] }, { accessFlags := 9, nameIndex := 201, descriptorIndex := 335, attributes := #[] }] 49 4 #[] #[{ accessFlags := 25, nameIndex := 354, descriptorIndex := 339, attributes := #[] }, { accessFlags := 25, nameIndex := 358, descriptorIndex := 339, attributes := #[] }, { accessFlags := 25, nameIndex := 361, descriptorIndex := 339, attributes := #[] }, { accessFlags := 26, nameIndex := 364, descriptorIndex := 339, attributes := #[] }, { accessFlags := 26, nameIndex := 365, descriptorIndex := 339, attributes := #[] }, { accessFlags := 26, nameIndex := 172, descriptorIndex := 173, attributes := #[] }, { accessFlags := 26, nameIndex := 176, descriptorIndex := 173, attributes := #[] }, { accessFlags := 8, nameIndex := 344, descriptorIndex := 339, attributes := #[] }, { accessFlags := 8, nameIndex := 338, descriptorIndex := 339, attributes := #[] }, { accessFlags := 4120, nameIndex := 245, descriptorIndex := 246, attributes := #[] }])
  fields := #[{ name := "E", type := .double, accessFlags := 25, slot := 0, constantValue := 0 }, { name := "PI", type := .double, accessFlags := 25, slot := 1, constantValue := 0 }, { name := "TAU", type := .double, accessFlags := 25, slot := 2, constantValue := 0 }, { name := "DEGREES_TO_RADIANS", type := .double, accessFlags := 26, slot := 3, constantValue := 0 }, { name := "RADIANS_TO_DEGREES", type := .double, accessFlags := 26, slot := 4, constantValue := 0 }, { name := "negativeZeroFloatBits", type := .long, accessFlags := 26, slot := 5, constantValue := 0 }, { name := "negativeZeroDoubleBits", type := .long, accessFlags := 26, slot := 6, constantValue := 0 }, { name := "twoToTheDoubleScaleUp", type := .double, accessFlags := 8, slot := 7, constantValue := 0 }, { name := "twoToTheDoubleScaleDown", type := .double, accessFlags := 8, slot := 8, constantValue := 0 }, { name := "$assertionsDisabled", type := .boolean, accessFlags := 4120, slot := 9, constantValue := 0 }]
  methods := #[k26m0, k26m1, k26m2]
  instanceTypes := #[]
  staticTypes := #[.double, .double, .double, .double, .double, .long, .long, .double, .double, .boolean]
  resolved := Array.replicate 460 none
  statics := none }

def pool27 : Array CpInfo := pool [(2, .class_ 4), (1, u "java/lang/Object"), (0, u "<init>"), (0, u "()V"), (7, .class_ 16), (1, u "java/util/Arrays"), (57, .class_ 76), (1, u "java/util/Arrays$NaturalOrder"), (9, .methodref 2 87), (0, .nameAndType 88 89), (0, u "getClass"), (0, u "()Ljava/lang/Class;"), (20, .class_ 111), (0, u "[Ljava/lang/Object;"), (1, .class_ 115), (1, u "java/util/Arrays$LegacyMergeSort"), (1, u "Z"), (32, .methodref 151 152), (0, .class_ 153), (0, .nameAndType 154 155), (0, u "java/lang/System"), (0, u "arraycopy"), (0, u "(Ljava/lang/Object;ILjava/lang/Object;II)V"), (144, .methodref 14 301), (0, .nameAndType 302 303), (0, u "copyOf"), (0, u "([Ljava/lang/Object;ILjava/lang/Class;)[Ljava/lang/Object;"), (0, .methodref 305 306), (0, .class_ 307), (0, .nameAndType 308 309), (0, u "java/lang/Math"), (0, u "min"), (0, u "(II)I"), (65, .class_ 376), (0, u "java/util/Arrays$ArrayList"), (68, u "$assertionsDisabled"), (269, u "MIN_ARRAY_SORT_GRAN"), (0, u "I"), (2, u "INSERTIONSORT_THRESHOLD"), (140, u "([Ljava/lang/Object;I)[Ljava/lang/Object;"), (114, .class_ 976), (0, u "java/util/Arrays$ArrayItr")] 52

def k27m0 : Method := { name := "<init>", desc := "()V", sig := { parameters := [], returnType := none }, accessFlags := 2, code := none }
def k27c1 : Code := { maxStack := 3, maxLocals := 2, code := jdk_65_method_119_code, exceptionTable := #[], attributes := #[] }
def k27m1 : Method := { name := "copyOf", desc := "([Ljava/lang/Object;I)[Ljava/lang/Object;", sig := { parameters := [(.array (.object "java/lang/Object")), .int], returnType := some (.array (.object "java/lang/Object")) }, accessFlags := 9, code := some k27c1 }
def k27c2 : Code := { maxStack := 6, maxLocals := 4, code := jdk_65_method_120_code, exceptionTable := #[], attributes := #[] }
def k27m2 : Method := { name := "copyOf", desc := "([Ljava/lang/Object;ILjava/lang/Class;)[Ljava/lang/Object;", sig := { parameters := [(.array (.object "java/lang/Object")), .int, (.object "java/lang/Class")], returnType := some (.array (.object "java/lang/Object")) }, accessFlags := 9, code := some k27c2 }
/-- java/util/Arrays -/
def k27 : Class := { plain "java/util/Arrays" (some 0) with
  accessFlags := 49
  interfaces := #[]
  cf := some (fileOf pool27 14 #[.nestMembers #[975, 375, 113, 74]] #[{ accessFlags := 2, nameIndex := 5, descriptorIndex := 6, attributes := #[] }, { accessFlags := 9, nameIndex := 302, descriptorIndex := 860, attributes := #[] }, { accessFlags := 9, nameIndex := 302, descriptorIndex := 303, attributes := #[] }] 49 2 #[] #[{ accessFlags := 26, nameIndex := 715, descriptorIndex := 716, attributes := #[] }, { accessFlags := 26, nameIndex := 719, descriptorIndex := 716, attributes := #[] }, { accessFlags := 4120, nameIndex := 445, descriptorIndex := 117, attributes := #[] }])
  fields := #[{ name := "MIN_ARRAY_SORT_GRAN", type := .int, accessFlags := 26, slot := 0, constantValue := 0 }, { name := "INSERTIONSORT_THRESHOLD", type := .int, accessFlags := 26, slot := 1, constantValue := 0 }, { name := "$assertionsDisabled", type := .boolean, accessFlags := 4120, slot := 2, constantValue := 0 }]
  methods := #[k27m0, k27m1, k27m2]
  instanceTypes := #[]
  staticTypes := #[.int, .int, .boolean]
  resolved := Array.replicate 1029 none
  statics := none }

def pool28 : Array CpInfo := pool [(2, .class_ 4), (1, u "java/lang/Object"), (0, u "<init>"), (0, u "()V"), (1, .class_ 10), (1, u "java/lang/System"), (0, u "allowSecurityManager"), (0, u "I"), (16, u "cons"), (0, u "Ljava/io/Console;"), (77, .class_ 110), (1, u "java/lang/System$CallersHolder"), (43, u "initialErrStream"), (0, u "Ljava/io/PrintStream;"), (19, u "security"), (0, u "Ljava/lang/SecurityManager;"), (31, .class_ 209), (0, u "java/lang/System$1"), (7, u "props"), (0, u "Ljava/util/Properties;"), (2, u "lineSeparator"), (0, u "Ljava/lang/String;"), (96, .class_ 321), (1, u "java/lang/System$LoggerFinder"), (5, .class_ 328), (0, u "java/lang/System$Logger"), (67, u "err"), (2, u "out"), (91, u "notSupportedJnuEncoding"), (15, u "in"), (17, u "initialIn"), (0, u "Ljava/io/InputStream;"), (35, u "bootLayer"), (0, u "Ljava/lang/ModuleLayer;"), (99, .class_ 664), (0, u "java/lang/System$2"), (9, u "NEVER"), (2, u "MAYBE"), (49, u "arraycopy"), (0, u "(Ljava/lang/Object;ILjava/lang/Object;II)V"), (72, .class_ 802), (0, u "java/lang/System$Logger$Level")] 31

def k28m0 : Method := { name := "<init>", desc := "()V", sig := { parameters := [], returnType := none }, accessFlags := 2, code := none }
def k28m1 : Method := { name := "arraycopy", desc := "(Ljava/lang/Object;ILjava/lang/Object;II)V", sig := { parameters := [(.object "java/lang/Object"), .int, (.object "java/lang/Object"), .int, .int], returnType := none }, accessFlags := 265, code := none }
/-- java/lang/System -/
def k28 : Class := { plain "java/lang/System" (some 0) with
  accessFlags := 49
  interfaces := #[]
  cf := some (fileOf pool28 8 #[.nestMembers #[319, 327, 801, 108, 663, 208]] #[{ accessFlags := 2, nameIndex := 5, descriptorIndex := 6, attributes := #[] }, { accessFlags := 265, nameIndex := 727, descriptorIndex := 728, attributes := #[] }] 49 2 #[] #[{ accessFlags := 25, nameIndex := 507, descriptorIndex := 526, attributes := #[] }, { accessFlags := 25, nameIndex := 399, descriptorIndex := 155, attributes := #[] }, { accessFlags := 25, nameIndex := 396, descriptorIndex := 155, attributes := #[] }, { accessFlags := 10, nameIndex := 525, descriptorIndex := 526, attributes := #[] }, { accessFlags := 26, nameIndex := 674, descriptorIndex := 12, attributes := #[] }, { accessFlags := 26, nameIndex := 677, descriptorIndex := 12, attributes := #[] }, { accessFlags := 10, nameIndex := 11, descriptorIndex := 12, attributes := #[] }, { accessFlags := 74, nameIndex := 175, descriptorIndex := 176, attributes := #[] }, { accessFlags := 10, nameIndex := 491, descriptorIndex := 222, attributes := #[] }, { accessFlags := 74, nameIndex := 29, descriptorIndex := 30, attributes := #[] }, { accessFlags := 74, nameIndex := 154, descriptorIndex := 155, attributes := #[] }, { accessFlags := 10, nameIndex := 217, descriptorIndex := 218, attributes := #[] }, { accessFlags := 10, nameIndex := 221, descriptorIndex := 222, attributes := #[] }, { accessFlags := 8, nameIndex := 562, descriptorIndex := 563, attributes := #[] }])
  fields := #[{ name := "in", type := (.object "java/io/InputStream"), accessFlags := 25, slot := 0, constantValue := 0 }, { name := "out", type := (.object "java/io/PrintStream"), accessFlags := 25, slot := 1, constantValue := 0 }, { name := "err", type := (.object "java/io/PrintStream"), accessFlags := 25, slot := 2, constantValue := 0 }, { name := "initialIn", type := (.object "java/io/InputStream"), accessFlags := 10, slot := 3, constantValue := 0 }, { name := "NEVER", type := .int, accessFlags := 26, slot := 4, constantValue := 0 }, { name := "MAYBE", type := .int, accessFlags := 26, slot := 5, constantValue := 0 }, { name := "allowSecurityManager", type := .int, accessFlags := 10, slot := 6, constantValue := 0 }, { name := "security", type := (.object "java/lang/SecurityManager"), accessFlags := 74, slot := 7, constantValue := 0 }, { name := "notSupportedJnuEncoding", type := (.object "java/lang/String"), accessFlags := 10, slot := 8, constantValue := 0 }, { name := "cons", type := (.object "java/io/Console"), accessFlags := 74, slot := 9, constantValue := 0 }, { name := "initialErrStream", type := (.object "java/io/PrintStream"), accessFlags := 74, slot := 10, constantValue := 0 }, { name := "props", type := (.object "java/util/Properties"), accessFlags := 10, slot := 11, constantValue := 0 }, { name := "lineSeparator", type := (.object "java/lang/String"), accessFlags := 10, slot := 12, constantValue := 0 }, { name := "bootLayer", type := (.object "java/lang/ModuleLayer"), accessFlags := 8, slot := 13, constantValue := 0 }]
  methods := #[k28m0, k28m1]
  instanceTypes := #[]
  staticTypes := #[(.object "java/io/InputStream"), (.object "java/io/PrintStream"), (.object "java/io/PrintStream"), (.object "java/io/InputStream"), .int, .int, .int, (.object "java/lang/SecurityManager"), (.object "java/lang/String"), (.object "java/io/Console"), (.object "java/io/PrintStream"), (.object "java/util/Properties"), (.object "java/lang/String"), (.object "java/lang/ModuleLayer")]
  resolved := Array.replicate 834 none
  statics := none }

def pool29 : Array CpInfo := pool [(2, .class_ 4), (1, u "java/lang/Object"), (0, u "<init>"), (0, u "()V"), (35, .class_ 44), (1, u "java/util/Objects"), (0, u "requireNonNull"), (0, u "(Ljava/lang/Object;)Ljava/lang/Object;")] 137

def k29m0 : Method := { name := "<init>", desc := "()V", sig := { parameters := [], returnType := none }, accessFlags := 2, code := none }
def k29c1 : Code := { maxStack := 2, maxLocals := 1, code := jdk_31_method_10_code, exceptionTable := #[], attributes := #[] }
def k29m1 : Method := { name := "requireNonNull", desc := "(Ljava/lang/Object;)Ljava/lang/Object;", sig := { parameters := [(.object "java/lang/Object")], returnType := some (.object "java/lang/Object") }, accessFlags := 9, code := some k29c1 }
/-- java/util/Objects -/
def k29 : Class := { plain "java/util/Objects" (some 0) with
  accessFlags := 49
  interfaces := #[]
  cf := some (fileOf pool29 42 #[] #[{ accessFlags := 2, nameIndex := 5, descriptorIndex := 6, attributes := #[] }, { accessFlags := 9, nameIndex := 45, descriptorIndex := 46, attributes := #[] }] 49 2 #[] #[])
  fields := #[]
  methods := #[k29m0, k29m1]
  instanceTypes := #[]
  staticTypes := #[]
  resolved := Array.replicate 184 none
  statics := none }

def pool30 : Array CpInfo := pool [(6, .class_ 8), (1, u "java/lang/Object"), (0, u "<init>"), (0, u "()V"), (1, .class_ 14), (1, u "java/lang/StringUTF16"), (31, u "$assertionsDisabled"), (0, u "Z"), (13, u "HI_BYTE_SHIFT"), (0, u "I"), (2, u "LO_BYTE_SHIFT"), (49, .methodref 12 116), (0, .nameAndType 117 118), (0, u "compress"), (0, u "([CI[BII)I"), (3, u "([CII)[B"), (138, u "coderFromArrayLen"), (0, u "([BI)B"), (106, .class_ 371), (1, u "java/lang/StringUTF16$LinesSpliterator"), (58, u "MAX_LENGTH"), (196, .class_ 628), (0, u "java/lang/StringUTF16$CodePointsSpliterator"), (0, .class_ 630), (0, u "java/lang/StringUTF16$CharsSpliterator")] 4

def k30m0 : Method := { name := "<init>", desc := "()V", sig := { parameters := [], returnType := none }, accessFlags := 0, code := none }
def k30c1 : Code := { maxStack := 2, maxLocals := 2, code := jdk_52_method_15_code, exceptionTable := #[], attributes := #[] }
def k30m1 : Method := { name := "coderFromArrayLen", desc := "([BI)B", sig := { parameters := [(.array .byte), .int], returnType := some .byte }, accessFlags := 8, code := some k30c1 }
def k30c2 : Code := { maxStack := 5, maxLocals := 6, code := jdk_52_method_16_code, exceptionTable := #[], attributes := #[] }
def k30m2 : Method := { name := "compress", desc := "([CII)[B", sig := { parameters := [(.array .char), .int, .int], returnType := some (.array .byte) }, accessFlags := 9, code := some k30c2 }
def k30c3 : Code := { maxStack := 3, maxLocals := 7, code := jdk_52_method_21_code, exceptionTable := #[], attributes := #[] }
def k30m3 : Method := { name := "compress", desc := "([CI[BII)I", sig := { parameters := [(.array .char), .int, (.array .byte), .int, .int], returnType := some .int }, accessFlags := 9, code := some k30c3 }
/-- java/lang/StringUTF16 -/
def k30 : Class := { plain "java/lang/StringUTF16" (some 0) with
  accessFlags := 48
  interfaces := #[]
  cf := some (fileOf pool30 12 #[.nestMembers #[627, 629, 369]] #[{ accessFlags := 0, nameIndex := 9, descriptorIndex := 10, attributes := #[] }, { accessFlags := 8, nameIndex := 261, descriptorIndex := 262, attributes := #[] }, { accessFlags := 9, nameIndex := 117, descriptorIndex := 122, attributes := #[] }, { accessFlags := 9, nameIndex := 117, descriptorIndex := 118, attributes := #[] }] 48 6 #[] #[{ accessFlags := 26, nameIndex := 61, descriptorIndex := 62, attributes := #[] }, { accessFlags := 26, nameIndex := 65, descriptorIndex := 62, attributes := #[] }, { accessFlags := 24, nameIndex := 430, descriptorIndex := 62, attributes := #[] }, { accessFlags := 4120, nameIndex := 46, descriptorIndex := 47, attributes := #[] }])
  fields := #[{ name := "HI_BYTE_SHIFT", type := .int, accessFlags := 26, slot := 0, constantValue := 0 }, { name := "LO_BYTE_SHIFT", type := .int, accessFlags := 26, slot := 1, constantValue := 0 }, { name := "MAX_LENGTH", type := .int, accessFlags := 24, slot := 2, constantValue := 0 }, { name := "$assertionsDisabled", type := .boolean, accessFlags := 4120, slot := 3, constantValue := 0 }]
  methods := #[k30m0, k30m1, k30m2, k30m3]
  instanceTypes := #[]
  staticTypes := #[.int, .int, .int, .boolean]
  resolved := Array.replicate 635 none
  statics := none }

def pool31 : Array CpInfo := pool [(2, .class_ 4), (1, u "java/lang/Object"), (0, u "<init>"), (0, u "()V"), (17, .class_ 26), (1, u "jdk/internal/util/Preconditions"), (28, .class_ 56), (0, u "jdk/internal/util/Preconditions$4"), (57, .class_ 115), (0, u "jdk/internal/util/Preconditions$1"), (7, u "SIOOBE_FORMATTER"), (0, u "Ljava/util/function/BiFunction;"), (0, .class_ 126), (0, u "jdk/internal/util/Preconditions$2"), (3, u "AIOOBE_FORMATTER"), (0, .class_ 132), (0, u "jdk/internal/util/Preconditions$3"), (3, u "IOOBE_FORMATTER")] 57

def k31m0 : Method := { name := "<init>", desc := "()V", sig := { parameters := [], returnType := none }, accessFlags := 1, code := none }
/-- jdk/internal/util/Preconditions -/
def k31 : Class := { plain "jdk/internal/util/Preconditions" (some 0) with
  accessFlags := 33
  interfaces := #[]
  cf := some (fileOf pool31 24 #[.nestMembers #[55, 131, 125, 114]] #[{ accessFlags := 1, nameIndex := 5, descriptorIndex := 6, attributes := #[] }] 33 2 #[] #[{ accessFlags := 25, nameIndex := 123, descriptorIndex := 124, attributes := #[] }, { accessFlags := 25, nameIndex := 130, descriptorIndex := 124, attributes := #[] }, { accessFlags := 25, nameIndex := 136, descriptorIndex := 124, attributes := #[] }])
  fields := #[{ name := "SIOOBE_FORMATTER", type := (.object "java/util/function/BiFunction"), accessFlags := 25, slot := 0, constantValue := 0 }, { name := "AIOOBE_FORMATTER", type := (.object "java/util/function/BiFunction"), accessFlags := 25, slot := 1, constantValue := 0 }, { name := "IOOBE_FORMATTER", type := (.object "java/util/function/BiFunction"), accessFlags := 25, slot := 2, constantValue := 0 }]
  methods := #[k31m0]
  instanceTypes := #[]
  staticTypes := #[(.object "java/util/function/BiFunction"), (.object "java/util/function/BiFunction"), (.object "java/util/function/BiFunction")]
  resolved := Array.replicate 194 none
  statics := some 4 }

def pool32 : Array CpInfo := pool [(9, u "<init>"), (6, .class_ 18), (1, u "java/lang/Object"), (0, u "()V"), (1, .class_ 23), (1, u "jdk/internal/util/ArraysSupport"), (0, u "LOG2_ARRAY_LONG_INDEX_SCALE"), (0, u "I"), (2, u "U"), (0, u "Ljdk/internal/misc/Unsafe;"), (8, u "BIG_ENDIAN"), (0, u "Z"), (8, u "LOG2_BYTE_BIT_SIZE"), (4, u "LOG2_ARRAY_INT_INDEX_SCALE"), (54, u "JLA"), (0, u "Ljdk/internal/access/JavaLangAccess;"), (11, u "LOG2_ARRAY_BOOLEAN_INDEX_SCALE"), (9, u "LOG2_ARRAY_BYTE_INDEX_SCALE"), (5, u "LOG2_ARRAY_CHAR_INDEX_SCALE"), (5, u "LOG2_ARRAY_SHORT_INDEX_SCALE"), (18, u "LOG2_ARRAY_FLOAT_INDEX_SCALE"), (24, u "LOG2_ARRAY_DOUBLE_INDEX_SCALE"), (89, u "T_BOOLEAN"), (2, u "T_CHAR"), (1, u "T_FLOAT"), (1, u "T_DOUBLE"), (1, u "T_BYTE"), (1, u "T_SHORT"), (1, u "T_INT"), (1, u "T_LONG"), (1, u "SOFT_MAX_ARRAY_LENGTH")] 83

def k32m0 : Method := { name := "<init>", desc := "()V", sig := { parameters := [], returnType := none }, accessFlags := 2, code := none }
/-- jdk/internal/util/ArraysSupport -/
def k32 : Class := { plain "jdk/internal/util/ArraysSupport" (some 0) with
  accessFlags := 33
  interfaces := #[]
  cf := some (fileOf pool32 21 #[] #[{ accessFlags := 2, nameIndex := 9, descriptorIndex := 19, attributes := #[] }] 33 16 #[] #[{ accessFlags := 24, nameIndex := 28, descriptorIndex := 29, attributes := #[] }, { accessFlags := 26, nameIndex := 38, descriptorIndex := 39, attributes := #[] }, { accessFlags := 25, nameIndex := 121, descriptorIndex := 25, attributes := #[] }, { accessFlags := 25, nameIndex := 131, descriptorIndex := 25, attributes := #[] }, { accessFlags := 25, nameIndex := 137, descriptorIndex := 25, attributes := #[] }, { accessFlags := 25, nameIndex := 143, descriptorIndex := 25, attributes := #[] }, { accessFlags := 25, nameIndex := 53, descriptorIndex := 25, attributes := #[] }, { accessFlags := 25, nameIndex := 24, descriptorIndex := 25, attributes := #[] }, { accessFlags := 25, nameIndex := 162, descriptorIndex := 25, attributes := #[] }, { accessFlags := 25, nameIndex := 187, descriptorIndex := 25, attributes := #[] }, { accessFlags := 26, nameIndex := 48, descriptorIndex := 25, attributes := #[] }, { accessFlags := 25, nameIndex := 277, descriptorIndex := 25, attributes := #[] }, { accessFlags := 25, nameIndex := 280, descriptorIndex := 25, attributes := #[] }, { accessFlags := 25, nameIndex := 282, descriptorIndex := 25, attributes := #[] }, { accessFlags := 25, nameIndex := 284, descriptorIndex := 25, attributes := #[] }, { accessFlags := 25, nameIndex := 286, descriptorIndex := 25, attributes := #[] }, { accessFlags := 25, nameIndex := 288, descriptorIndex := 25, attributes := #[] }, { accessFlags := 25, nameIndex := 290, descriptorIndex := 25, attributes := #[] }, { accessFlags := 25, nameIndex := 292, descriptorIndex := 25, attributes := #[] }, { accessFlags := 26, nameIndex := 108, descriptorIndex := 109, attributes := #[] }, { accessFlags := 25, nameIndex := 294, descriptorIndex := 25, attributes := #[] }])
  fields := #[{ name := "U", type := (.object "jdk/internal/misc/Unsafe"), accessFlags := 24, slot := 0, constantValue := 0 }, { name := "BIG_ENDIAN", type := .boolean, accessFlags := 26, slot := 1, constantValue := 0 }, { name := "LOG2_ARRAY_BOOLEAN_INDEX_SCALE", type := .int, accessFlags := 25, slot := 2, constantValue := 0 }, { name := "LOG2_ARRAY_BYTE_INDEX_SCALE", type := .int, accessFlags := 25, slot := 3, constantValue := 0 }, { name := "LOG2_ARRAY_CHAR_INDEX_SCALE", type := .int, accessFlags := 25, slot := 4, constantValue := 0 }, { name := "LOG2_ARRAY_SHORT_INDEX_SCALE", type := .int, accessFlags := 25, slot := 5, constantValue := 0 }, { name := "LOG2_ARRAY_INT_INDEX_SCALE", type := .int, accessFlags := 25, slot := 6, constantValue := 0 }, { name := "LOG2_ARRAY_LONG_INDEX_SCALE", type := .int, accessFlags := 25, slot := 7, constantValue := 0 }, { name := "LOG2_ARRAY_FLOAT_INDEX_SCALE", type := .int, accessFlags := 25, slot := 8, constantValue := 0 }, { name := "LOG2_ARRAY_DOUBLE_INDEX_SCALE", type := .int, accessFlags := 25, slot := 9, constantValue := 0 }, { name := "LOG2_BYTE_BIT_SIZE", type := .int, accessFlags := 26, slot := 10, constantValue := 0 }, { name := "T_BOOLEAN", type := .int, accessFlags := 25, slot := 11, constantValue := 0 }, { name := "T_CHAR", type := .int, accessFlags := 25, slot := 12, constantValue := 0 }, { name := "T_FLOAT", type := .int, accessFlags := 25, slot := 13, constantValue := 0 }, { name := "T_DOUBLE", type := .int, accessFlags := 25, slot := 14, constantValue := 0 }, { name := "T_BYTE", type := .int, accessFlags := 25, slot := 15, constantValue := 0 }, { name := "T_SHORT", type := .int, accessFlags := 25, slot := 16, constantValue := 0 }, { name := "T_INT", type := .int, accessFlags := 25, slot := 17, constantValue := 0 }, { name := "T_LONG", type := .int, accessFlags := 25, slot := 18, constantValue := 0 }, { name := "JLA", type := (.object "jdk/internal/access/JavaLangAccess"), accessFlags := 26, slot := 19, constantValue := 0 }, { name := "SOFT_MAX_ARRAY_LENGTH", type := .int, accessFlags := 25, slot := 20, constantValue := 0 }]
  methods := #[k32m0]
  instanceTypes := #[]
  staticTypes := #[(.object "jdk/internal/misc/Unsafe"), .boolean, .int, .int, .int, .int, .int, .int, .int, .int, .int, .int, .int, .int, .int, .int, .int, .int, .int, (.object "jdk/internal/access/JavaLangAccess"), .int]
  resolved := Array.replicate 378 none
  statics := none }

def pool33 : Array CpInfo := pool [(2, .class_ 4), (1, u "com/example/lithe_checker/lithechecker/c/CType"), (3, .class_ 10), (1, u "com/example/lithe_checker/lithechecker/c/CType$IntegerType"), (0, u "name"), (0, u "Ljava/lang/String;"), (2, u "rank"), (0, u "I"), (2, u "bits"), (2, u "signed"), (0, u "Z")] 74

/-- com/example/lithe_checker/lithechecker/c/CType$IntegerType -/
def k33 : Class := { plain "com/example/lithe_checker/lithechecker/c/CType$IntegerType" (some 2) with
  accessFlags := 49
  interfaces := #[]
  cf := some (fileOf pool33 8 #[.nestHost 2] #[] 49 2 #[] #[{ accessFlags := 18, nameIndex := 11, descriptorIndex := 12, attributes := #[] }, { accessFlags := 18, nameIndex := 15, descriptorIndex := 16, attributes := #[] }, { accessFlags := 18, nameIndex := 19, descriptorIndex := 16, attributes := #[] }, { accessFlags := 18, nameIndex := 22, descriptorIndex := 23, attributes := #[] }])
  fields := #[{ name := "name", type := (.object "java/lang/String"), accessFlags := 18, slot := 0, constantValue := 0 }, { name := "rank", type := .int, accessFlags := 18, slot := 1, constantValue := 0 }, { name := "bits", type := .int, accessFlags := 18, slot := 2, constantValue := 0 }, { name := "signed", type := .boolean, accessFlags := 18, slot := 3, constantValue := 0 }]
  methods := #[]
  instanceTypes := #[(.object "java/lang/String"), .int, .int, .boolean]
  staticTypes := #[]
  resolved := Array.replicate 98 none
  statics := none }

def pool34 : Array CpInfo := pool [(1, u "java/lang/Class"), (0, .class_ 1), (0, u "java/lang/Object"), (0, .class_ 3)] 0

/-- java/lang/Class -/
def k34 : Class := { plain "java/lang/Class" (some 0) with
  accessFlags := 49
  interfaces := #[]
  cf := some (fileOf pool34 2 #[] #[] 49 4 #[] #[])
  fields := #[]
  methods := #[]
  instanceTypes := #[]
  staticTypes := #[]
  resolved := Array.replicate 5 none
  statics := none }

/-- the primitive byte -/
def k35 : Class := { plain "byte" none with kind := .primitive 'B', accessFlags := 0x411 }
/-- [B -/
def k36 : Class := { plain "[B" (some 0) with kind := .array 35 .byte, interfaces := #[11, 12], accessFlags := 1041 }

/-- the primitive char -/
def k37 : Class := { plain "char" none with kind := .primitive 'C', accessFlags := 0x411 }
/-- [C -/
def k38 : Class := { plain "[C" (some 0) with kind := .array 37 .char, interfaces := #[11, 12], accessFlags := 1041 }

/-- the primitive int -/
def k39 : Class := { plain "int" none with kind := .primitive 'I', accessFlags := 0x411 }
/-- [I -/
def k40 : Class := { plain "[I" (some 0) with kind := .array 39 .int, interfaces := #[11, 12], accessFlags := 1041 }

/-- [Ljava/lang/Object; -/
def k41 : Class := { plain "[Ljava/lang/Object;" (some 0) with kind := .array 0 (.object "java/lang/Object"), interfaces := #[11, 12], accessFlags := 1041, mirror := some 5 }

def heap : Heap := #[{ cls := 2, slots := #[.null, .null, .null, .null, .null, .ref 8, .null, .null, .null, .null, .null, .null, .null, .null, .null, .null], vm := .statics 2 },
  { cls := 13, slots := #[.long 0, .int 0, .ref 9, .ref 10], vm := .statics 13 },
  { cls := 14, slots := #[.long 0, .int 0, .null, .ref 11, .ref 7, .null, .null, .null, .int 0, .int 1], vm := .statics 14 },
  { cls := 24, slots := #[.long 0, .int 1, .null, .int 0, .null, .int 0, .int 0], vm := .statics 24 },
  { cls := 31, slots := #[.null, .null, .null], vm := .statics 31 },
  { cls := 34, slots := #[], vm := .mirror 41 },
  { cls := 41, slots := #[], vm := .none },
  { cls := 18, slots := #[.ref 6, .int 0], vm := .none },
  { cls := 33, slots := #[.null, .int 0, .int 0, .int 0], vm := .none },
  { cls := 41, slots := #[], vm := .none },
  { cls := 41, slots := #[], vm := .none },
  { cls := 0, slots := #[], vm := .none }]
def classes : Array Class := #[k0, k1, k2, k3, k4, k5, k6, k7, k8, k9, k10, k11, k12, k13, k14, k15, k16, k17, k18, k19, k20, k21, k22, k23, k24, k25, k26, k27, k28, k29, k30, k31, k32, k33, k34, k35, k36, k37, k38, k39, k40, k41]
def interned : List (Array UInt16 × Addr) := []
def slotsUsed : Nat := 46
def theMethod : MethodId := ⟨1, 1⟩
def args0 : Array Value := #[.int 5, .int 5, .int 5]
def aboutOver (below : List Frame) : State where
  vm := { classes := classes, interned := interned.toArray }
  heap := heap
  slotsUsed := slotsUsed
  threads := #[{ frames := .invoking theMethod args0 :: below }]
def below0 : List Frame := [.native { method := ⟨0, 0⟩, args := #[] }]
def about1 : State := aboutOver below0
def p0 : Program := .bare "" "" ""
def e0 : Env := launch0.env 0 0 0
theorem w_frames : about1.frames = Frame.invoking theMethod args0 :: below0 := rfl
set_option maxRecDepth 65536 in
theorem w_args : argsFit about1.vm theMethod args0 = true := by decide +kernel
set_option maxRecDepth 65536 in
theorem w_heap : heapFits about1 = true := by decide +kernel
set_option maxRecDepth 65536 in
theorem w_runnable : about1.curStatus? = some .runnable := by decide +kernel
set_option maxRecDepth 65536 in
theorem w_alone : about1.alone = true := by decide +kernel
set_option maxRecDepth 65536 in
theorem w_named : about1.methodNamed? x = some theMethod := by decide +kernel
set_option maxRecDepth 65536 in
theorem w_hears : about1.hears theMethod below0 = true := by decide +kernel
set_option maxRecDepth 65536 in
theorem w_ripe : about1.ripe theMethod args0 below0 = true := by decide +kernel
theorem w_running : about1.status = .running := rfl
set_option maxRecDepth 65536 in
theorem w_room : about1.hasRoom e0.platform room_1 = true :=
  launch0.hasRoom_least _ room_1 (by decide +kernel) (by decide +kernel) (by decide +kernel) (by decide +kernel) (by decide +kernel) (by decide +kernel)
theorem allAtoms_all (ts : List Jvm.Cond) (a : Array Jvm.Value) (st : Jvm.State) : (allAtoms ts).before a st = ts.all (fun c => c.before a st) := by
  induction ts with
  | nil => rfl
  | cons c t ih =>
    show (Jvm.Cond.and c (allAtoms t)).before a st = _
    rw [Jvm.Cond.before_and, ih, List.all_cons]
def words1 : List Jvm.Cond := Jvm.Cond.code x code maxLocals ret :: tables_1
/-- a 'code' word, met by the world's own term for the bytes: nothing is compared byte by byte -/
theorem code_word {y : MethodName} {bytes : ByteArray} {mx : Nat} {rt : Option FieldType} {a : Array Value} {s : State} {m : MethodId} {meth : Method} {c : Code} (h1 : s.methodNamed? y = some m) (h2 : s.vm.method? m = some meth) (h3 : meth.code = some c) (h4 : c.code = bytes)
    (h5 : (c.maxLocals == mx && c.exceptionTable.isEmpty && decide (c.maxStack ≤ mostOperands) && decide (meth.sig.returnType = rt) && !meth.locks && decide (parseMethodDescriptor y.desc = some meth.sig)) = true) : (Jvm.Cond.code y bytes mx rt).before a s = true := by
  simp only [Bool.and_eq_true, beq_iff_eq, Bool.not_eq_true', decide_eq_true_eq] at h5
  obtain ⟨⟨⟨⟨⟨g1, g2⟩, g3⟩, g4⟩, g5⟩, g6⟩ := h5
  simp [Cond.before, Cond.holds, Cond.value, h1, h2, h3, h4, g1, g2, g3, g4, g5, g6]
def isCode : Jvm.Cond → Bool
  | .code _ _ _ _ => true
  | _ => false
theorem all_split {L : List Jvm.Cond} {P : Jvm.Cond → Bool} (h1 : L.all (fun c => isCode c || P c) = true) (h2 : ∀ c ∈ L.filter isCode, P c = true) : L.all P = true := by
  refine List.all_eq_true.mpr fun c hc => ?_
  have h := List.all_eq_true.mp h1 c hc
  rcases Bool.eq_false_or_eq_true (isCode c) with hi | hi
  · exact h2 c (List.mem_filter.mpr ⟨hc, hi⟩)
  · simpa [hi] using h
set_option maxRecDepth 65536 in
theorem w_c0 : (Jvm.Cond.code x code maxLocals ret).before args0 about1 = true := code_word (m := ⟨1, 1⟩) (meth := k1m1) (c := k1c1) (by decide +kernel) rfl rfl rfl (by decide +kernel)
set_option maxRecDepth 65536 in
theorem w_c1 : (Jvm.Cond.code ({ cls := "com/example/lithe_checker/lithechecker/c/CType$StructType", name := "<init>", desc := "(ZLjava/lang/String;)V" } : Jvm.MethodName) prog_11_method_1_code (3 : Nat) (Option.none : Option Jvm.ClassFile.FieldType)).before args0 about1 = true := code_word (m := ⟨3, 0⟩) (meth := k3m0) (c := k3c0) (by decide +kernel) rfl rfl rfl (by decide +kernel)
set_option maxRecDepth 65536 in
theorem w_c2 : (Jvm.Cond.code ({ cls := "com/example/lithe_checker/lithechecker/c/CType", name := "<init>", desc := "()V" } : Jvm.MethodName) prog_5_method_1_code (1 : Nat) (Option.none : Option Jvm.ClassFile.FieldType)).before args0 about1 = true := code_word (m := ⟨2, 0⟩) (meth := k2m0) (c := k2c0) (by decide +kernel) rfl rfl rfl (by decide +kernel)
set_option maxRecDepth 65536 in
theorem w_c3 : (Jvm.Cond.code ({ cls := "java/lang/Object", name := "<init>", desc := "()V" } : Jvm.MethodName) object_method_1_code (1 : Nat) (Option.none : Option Jvm.ClassFile.FieldType)).before args0 about1 = true := code_word (m := ⟨0, 0⟩) (meth := k0m0) (c := k0c0) (by decide +kernel) rfl rfl rfl (by decide +kernel)
set_option maxRecDepth 65536 in
theorem w_c4 : (Jvm.Cond.code ({ cls := "com/example/lithe_checker/lithechecker/c/CType$StructType", name := "isComplete", desc := "()Z" } : Jvm.MethodName) prog_11_method_5_code (1 : Nat) (Option.some Jvm.ClassFile.FieldType.boolean)).before args0 about1 = true := code_word (m := ⟨3, 2⟩) (meth := k3m2) (c := k3c2) (by decide +kernel) rfl rfl rfl (by decide +kernel)
set_option maxRecDepth 65536 in
theorem w_c5 : (Jvm.Cond.code ({ cls := "java/util/ArrayList", name := "<init>", desc := "()V" } : Jvm.MethodName) jdk_38_method_2_code (1 : Nat) (Option.none : Option Jvm.ClassFile.FieldType)).before args0 about1 = true := code_word (m := ⟨13, 0⟩) (meth := k13m0) (c := k13c0) (by decide +kernel) rfl rfl rfl (by decide +kernel)
set_option maxRecDepth 65536 in
theorem w_c6 : (Jvm.Cond.code ({ cls := "java/util/AbstractList", name := "<init>", desc := "()V" } : Jvm.MethodName) jdk_39_method_1_code (1 : Nat) (Option.none : Option Jvm.ClassFile.FieldType)).before args0 about1 = true := code_word (m := ⟨9, 0⟩) (meth := k9m0) (c := k9c0) (by decide +kernel) rfl rfl rfl (by decide +kernel)
set_option maxRecDepth 65536 in
theorem w_c7 : (Jvm.Cond.code ({ cls := "java/util/AbstractCollection", name := "<init>", desc := "()V" } : Jvm.MethodName) jdk_22_method_1_code (1 : Nat) (Option.none : Option Jvm.ClassFile.FieldType)).before args0 about1 = true := code_word (m := ⟨6, 0⟩) (meth := k6m0) (c := k6c0) (by decide +kernel) rfl rfl rfl (by decide +kernel)
set_option maxRecDepth 65536 in
theorem w_c8 : (Jvm.Cond.code ({ cls := "com/example/lithe_checker/lithechecker/c/CType$StructType", name := "complete", desc := "(Ljava/util/List;)V" } : Jvm.MethodName) prog_11_method_2_code (2 : Nat) (Option.none : Option Jvm.ClassFile.FieldType)).before args0 about1 = true := code_word (m := ⟨3, 1⟩) (meth := k3m1) (c := k3c1) (by decide +kernel) rfl rfl rfl (by decide +kernel)
set_option maxRecDepth 65536 in
theorem w_c9 : (Jvm.Cond.code ({ cls := "java/util/List", name := "copyOf", desc := "(Ljava/util/Collection;)Ljava/util/List;" } : Jvm.MethodName) jdk_40_method_48_code (1 : Nat) (Option.some (Jvm.ClassFile.FieldType.object "java/util/List"))).before args0 about1 = true := code_word (m := ⟨8, 3⟩) (meth := k8m3) (c := k8c3) (by decide +kernel) rfl rfl rfl (by decide +kernel)
set_option maxRecDepth 65536 in
theorem w_c10 : (Jvm.Cond.code ({ cls := "java/util/ImmutableCollections", name := "listCopy", desc := "(Ljava/util/Collection;)Ljava/util/List;" } : Jvm.MethodName) jdk_56_method_3_code (2 : Nat) (Option.some (Jvm.ClassFile.FieldType.object "java/util/List"))).before args0 about1 = true := code_word (m := ⟨14, 1⟩) (meth := k14m1) (c := k14c1) (by decide +kernel) rfl rfl rfl (by decide +kernel)
set_option maxRecDepth 65536 in
theorem w_c11 : (Jvm.Cond.code ({ cls := "java/util/ArrayList", name := "isEmpty", desc := "()Z" } : Jvm.MethodName) jdk_38_method_9_code (1 : Nat) (Option.some Jvm.ClassFile.FieldType.boolean)).before args0 about1 = true := code_word (m := ⟨13, 3⟩) (meth := k13m3) (c := k13c3) (by decide +kernel) rfl rfl rfl (by decide +kernel)
set_option maxRecDepth 65536 in
theorem w_c12 : (Jvm.Cond.code ({ cls := "java/util/List", name := "of", desc := "()Ljava/util/List;" } : Jvm.MethodName) jdk_40_method_36_code (0 : Nat) (Option.some (Jvm.ClassFile.FieldType.object "java/util/List"))).before args0 about1 = true := code_word (m := ⟨8, 1⟩) (meth := k8m1) (c := k8c1) (by decide +kernel) rfl rfl rfl (by decide +kernel)
set_option maxRecDepth 65536 in
theorem w_c13 : (Jvm.Cond.code ({ cls := "com/example/lithe_checker/lithechecker/c/CType$StructType", name := "members", desc := "()Ljava/util/List;" } : Jvm.MethodName) prog_11_method_6_code (1 : Nat) (Option.some (Jvm.ClassFile.FieldType.object "java/util/List"))).before args0 about1 = true := code_word (m := ⟨3, 3⟩) (meth := k3m3) (c := k3c3) (by decide +kernel) rfl rfl rfl (by decide +kernel)
set_option maxRecDepth 65536 in
theorem w_c14 : (Jvm.Cond.code ({ cls := "java/util/ImmutableCollections$ListN", name := "size", desc := "()I" } : Jvm.MethodName) jdk_45_method_3_code (1 : Nat) (Option.some Jvm.ClassFile.FieldType.int)).before args0 about1 = true := code_word (m := ⟨18, 1⟩) (meth := k18m1) (c := k18c1) (by decide +kernel) rfl rfl rfl (by decide +kernel)
set_option maxRecDepth 65536 in
theorem w_c15 : (Jvm.Cond.code ({ cls := "java/lang/String", name := "valueOf", desc := "(C)Ljava/lang/String;" } : Jvm.MethodName) jdk_42_method_139_code (1 : Nat) (Option.some (Jvm.ClassFile.FieldType.object "java/lang/String"))).before args0 about1 = true := code_word (m := ⟨24, 2⟩) (meth := k24m2) (c := k24c2) (by decide +kernel) rfl rfl rfl (by decide +kernel)
set_option maxRecDepth 65536 in
theorem w_c16 : (Jvm.Cond.code ({ cls := "java/lang/StringLatin1", name := "canEncode", desc := "(C)Z" } : Jvm.MethodName) jdk_43_method_3_code (1 : Nat) (Option.some Jvm.ClassFile.FieldType.boolean)).before args0 about1 = true := code_word (m := ⟨25, 1⟩) (meth := k25m1) (c := k25c1) (by decide +kernel) rfl rfl rfl (by decide +kernel)
set_option maxRecDepth 65536 in
theorem w_c17 : (Jvm.Cond.code ({ cls := "java/lang/StringLatin1", name := "toBytes", desc := "(C)[B" } : Jvm.MethodName) jdk_43_method_46_code (1 : Nat) (Option.some (Jvm.ClassFile.FieldType.array Jvm.ClassFile.FieldType.byte))).before args0 about1 = true := code_word (m := ⟨25, 2⟩) (meth := k25m2) (c := k25c2) (by decide +kernel) rfl rfl rfl (by decide +kernel)
set_option maxRecDepth 65536 in
theorem w_c18 : (Jvm.Cond.code ({ cls := "java/lang/String", name := "<init>", desc := "([BB)V" } : Jvm.MethodName) jdk_42_method_151_code (3 : Nat) (Option.none : Option Jvm.ClassFile.FieldType)).before args0 about1 = true := code_word (m := ⟨24, 4⟩) (meth := k24m4) (c := k24c4) (by decide +kernel) rfl rfl rfl (by decide +kernel)
set_option maxRecDepth 65536 in
theorem w_c19 : (Jvm.Cond.code ({ cls := "com/example/lithe_checker/lithechecker/c/CType$Member", name := "<init>", desc := "(Ljava/lang/String;Lcom/example/lithe_checker/lithechecker/c/CType;)V" } : Jvm.MethodName) prog_9_method_1_code (3 : Nat) (Option.none : Option Jvm.ClassFile.FieldType)).before args0 about1 = true := code_word (m := ⟨19, 0⟩) (meth := k19m0) (c := k19c0) (by decide +kernel) rfl rfl rfl (by decide +kernel)
set_option maxRecDepth 65536 in
theorem w_c20 : (Jvm.Cond.code ({ cls := "java/util/ArrayList", name := "add", desc := "(Ljava/lang/Object;)Z" } : Jvm.MethodName) jdk_38_method_25_code (2 : Nat) (Option.some Jvm.ClassFile.FieldType.boolean)).before args0 about1 = true := code_word (m := ⟨13, 6⟩) (meth := k13m6) (c := k13c6) (by decide +kernel) rfl rfl rfl (by decide +kernel)
set_option maxRecDepth 65536 in
theorem w_c21 : (Jvm.Cond.code ({ cls := "java/util/ArrayList", name := "add", desc := "(Ljava/lang/Object;[Ljava/lang/Object;I)V" } : Jvm.MethodName) jdk_38_method_24_code (4 : Nat) (Option.none : Option Jvm.ClassFile.FieldType)).before args0 about1 = true := code_word (m := ⟨13, 5⟩) (meth := k13m5) (c := k13c5) (by decide +kernel) rfl rfl rfl (by decide +kernel)
set_option maxRecDepth 65536 in
theorem w_c22 : (Jvm.Cond.code ({ cls := "java/util/ArrayList", name := "grow", desc := "()[Ljava/lang/Object;" } : Jvm.MethodName) jdk_38_method_7_code (1 : Nat) (Option.some (Jvm.ClassFile.FieldType.array (Jvm.ClassFile.FieldType.object "java/lang/Object")))).before args0 about1 = true := code_word (m := ⟨13, 2⟩) (meth := k13m2) (c := k13c2) (by decide +kernel) rfl rfl rfl (by decide +kernel)
set_option maxRecDepth 65536 in
theorem w_c23 : (Jvm.Cond.code ({ cls := "java/util/ArrayList", name := "grow", desc := "(I)[Ljava/lang/Object;" } : Jvm.MethodName) jdk_38_method_6_code (4 : Nat) (Option.some (Jvm.ClassFile.FieldType.array (Jvm.ClassFile.FieldType.object "java/lang/Object")))).before args0 about1 = true := code_word (m := ⟨13, 1⟩) (meth := k13m1) (c := k13c1) (by decide +kernel) rfl rfl rfl (by decide +kernel)
set_option maxRecDepth 65536 in
theorem w_c24 : (Jvm.Cond.code ({ cls := "java/lang/Math", name := "max", desc := "(II)I" } : Jvm.MethodName) jdk_29_method_65_code (2 : Nat) (Option.some Jvm.ClassFile.FieldType.int)).before args0 about1 = true := code_word (m := ⟨26, 1⟩) (meth := k26m1) (c := k26c1) (by decide +kernel) rfl rfl rfl (by decide +kernel)
set_option maxRecDepth 65536 in
theorem w_c25 : (Jvm.Cond.code ({ cls := "java/util/ArrayList", name := "toArray", desc := "()[Ljava/lang/Object;" } : Jvm.MethodName) jdk_38_method_16_code (1 : Nat) (Option.some (Jvm.ClassFile.FieldType.array (Jvm.ClassFile.FieldType.object "java/lang/Object")))).before args0 about1 = true := code_word (m := ⟨13, 4⟩) (meth := k13m4) (c := k13c4) (by decide +kernel) rfl rfl rfl (by decide +kernel)
set_option maxRecDepth 65536 in
theorem w_c26 : (Jvm.Cond.code ({ cls := "java/util/Arrays", name := "copyOf", desc := "([Ljava/lang/Object;I)[Ljava/lang/Object;" } : Jvm.MethodName) jdk_65_method_119_code (2 : Nat) (Option.some (Jvm.ClassFile.FieldType.array (Jvm.ClassFile.FieldType.object "java/lang/Object")))).before args0 about1 = true := code_word (m := ⟨27, 1⟩) (meth := k27m1) (c := k27c1) (by decide +kernel) rfl rfl rfl (by decide +kernel)
set_option maxRecDepth 65536 in
theorem w_c27 : (Jvm.Cond.code ({ cls := "java/util/Arrays", name := "copyOf", desc := "([Ljava/lang/Object;ILjava/lang/Class;)[Ljava/lang/Object;" } : Jvm.MethodName) jdk_65_method_120_code (4 : Nat) (Option.some (Jvm.ClassFile.FieldType.array (Jvm.ClassFile.FieldType.object "java/lang/Object")))).before args0 about1 = true := code_word (m := ⟨27, 2⟩) (meth := k27m2) (c := k27c2) (by decide +kernel) rfl rfl rfl (by decide +kernel)
set_option maxRecDepth 65536 in
theorem w_c28 : (Jvm.Cond.code ({ cls := "java/lang/Math", name := "min", desc := "(II)I" } : Jvm.MethodName) jdk_29_method_69_code (2 : Nat) (Option.some Jvm.ClassFile.FieldType.int)).before args0 about1 = true := code_word (m := ⟨26, 2⟩) (meth := k26m2) (c := k26c2) (by decide +kernel) rfl rfl rfl (by decide +kernel)
set_option maxRecDepth 65536 in
theorem w_c29 : (Jvm.Cond.code ({ cls := "java/util/List", name := "of", desc := "([Ljava/lang/Object;)Ljava/util/List;" } : Jvm.MethodName) jdk_40_method_47_code (2 : Nat) (Option.some (Jvm.ClassFile.FieldType.object "java/util/List"))).before args0 about1 = true := code_word (m := ⟨8, 2⟩) (meth := k8m2) (c := k8c2) (by decide +kernel) rfl rfl rfl (by decide +kernel)
set_option maxRecDepth 65536 in
theorem w_c30 : (Jvm.Cond.code ({ cls := "java/util/ImmutableCollections$List12", name := "<init>", desc := "(Ljava/lang/Object;)V" } : Jvm.MethodName) jdk_44_method_1_code (2 : Nat) (Option.none : Option Jvm.ClassFile.FieldType)).before args0 about1 = true := code_word (m := ⟨17, 0⟩) (meth := k17m0) (c := k17c0) (by decide +kernel) rfl rfl rfl (by decide +kernel)
set_option maxRecDepth 65536 in
theorem w_c31 : (Jvm.Cond.code ({ cls := "java/util/ImmutableCollections$AbstractImmutableList", name := "<init>", desc := "()V" } : Jvm.MethodName) jdk_46_method_1_code (1 : Nat) (Option.none : Option Jvm.ClassFile.FieldType)).before args0 about1 = true := code_word (m := ⟨16, 0⟩) (meth := k16m0) (c := k16c0) (by decide +kernel) rfl rfl rfl (by decide +kernel)
set_option maxRecDepth 65536 in
theorem w_c32 : (Jvm.Cond.code ({ cls := "java/util/ImmutableCollections$AbstractImmutableCollection", name := "<init>", desc := "()V" } : Jvm.MethodName) jdk_47_method_1_code (1 : Nat) (Option.none : Option Jvm.ClassFile.FieldType)).before args0 about1 = true := code_word (m := ⟨15, 0⟩) (meth := k15m0) (c := k15c0) (by decide +kernel) rfl rfl rfl (by decide +kernel)
set_option maxRecDepth 65536 in
theorem w_c33 : (Jvm.Cond.code ({ cls := "java/util/Objects", name := "requireNonNull", desc := "(Ljava/lang/Object;)Ljava/lang/Object;" } : Jvm.MethodName) jdk_31_method_10_code (1 : Nat) (Option.some (Jvm.ClassFile.FieldType.object "java/lang/Object"))).before args0 about1 = true := code_word (m := ⟨29, 1⟩) (meth := k29m1) (c := k29c1) (by decide +kernel) rfl rfl rfl (by decide +kernel)
set_option maxRecDepth 65536 in
theorem w_c34 : (Jvm.Cond.code ({ cls := "java/util/ImmutableCollections$List12", name := "size", desc := "()I" } : Jvm.MethodName) jdk_44_method_3_code (1 : Nat) (Option.some Jvm.ClassFile.FieldType.int)).before args0 about1 = true := code_word (m := ⟨17, 2⟩) (meth := k17m2) (c := k17c2) (by decide +kernel) rfl rfl rfl (by decide +kernel)
set_option maxRecDepth 65536 in
theorem w_c35 : (Jvm.Cond.code ({ cls := "java/lang/String", name := "<init>", desc := "([C)V" } : Jvm.MethodName) jdk_42_method_3_code (2 : Nat) (Option.none : Option Jvm.ClassFile.FieldType)).before args0 about1 = true := code_word (m := ⟨24, 1⟩) (meth := k24m1) (c := k24c1) (by decide +kernel) rfl rfl rfl (by decide +kernel)
set_option maxRecDepth 65536 in
theorem w_c36 : (Jvm.Cond.code ({ cls := "java/lang/String", name := "<init>", desc := "([CIILjava/lang/Void;)V" } : Jvm.MethodName) jdk_42_method_149_code (6 : Nat) (Option.none : Option Jvm.ClassFile.FieldType)).before args0 about1 = true := code_word (m := ⟨24, 3⟩) (meth := k24m3) (c := k24c3) (by decide +kernel) rfl rfl rfl (by decide +kernel)
set_option maxRecDepth 65536 in
theorem w_c37 : (Jvm.Cond.code ({ cls := "java/lang/StringUTF16", name := "compress", desc := "([CII)[B" } : Jvm.MethodName) jdk_52_method_16_code (6 : Nat) (Option.some (Jvm.ClassFile.FieldType.array Jvm.ClassFile.FieldType.byte))).before args0 about1 = true := code_word (m := ⟨30, 2⟩) (meth := k30m2) (c := k30c2) (by decide +kernel) rfl rfl rfl (by decide +kernel)
set_option maxRecDepth 65536 in
theorem w_c38 : (Jvm.Cond.code ({ cls := "java/lang/StringUTF16", name := "compress", desc := "([CI[BII)I" } : Jvm.MethodName) jdk_52_method_21_code (7 : Nat) (Option.some Jvm.ClassFile.FieldType.int)).before args0 about1 = true := code_word (m := ⟨30, 3⟩) (meth := k30m3) (c := k30c3) (by decide +kernel) rfl rfl rfl (by decide +kernel)
set_option maxRecDepth 65536 in
theorem w_c39 : (Jvm.Cond.code ({ cls := "java/lang/StringUTF16", name := "coderFromArrayLen", desc := "([BI)B" } : Jvm.MethodName) jdk_52_method_15_code (2 : Nat) (Option.some Jvm.ClassFile.FieldType.byte)).before args0 about1 = true := code_word (m := ⟨30, 1⟩) (meth := k30m1) (c := k30c1) (by decide +kernel) rfl rfl rfl (by decide +kernel)
set_option maxRecDepth 65536 in
theorem w_c40 : (Jvm.Cond.code ({ cls := "java/util/ImmutableCollections", name := "listFromArray", desc := "([Ljava/lang/Object;)Ljava/util/List;" } : Jvm.MethodName) jdk_56_method_4_code (3 : Nat) (Option.some (Jvm.ClassFile.FieldType.object "java/util/List"))).before args0 about1 = true := code_word (m := ⟨14, 2⟩) (meth := k14m2) (c := k14c2) (by decide +kernel) rfl rfl rfl (by decide +kernel)
set_option maxRecDepth 65536 in
theorem w_c41 : (Jvm.Cond.code ({ cls := "java/util/ImmutableCollections$ListN", name := "<init>", desc := "([Ljava/lang/Object;Z)V" } : Jvm.MethodName) jdk_45_method_1_code (3 : Nat) (Option.none : Option Jvm.ClassFile.FieldType)).before args0 about1 = true := code_word (m := ⟨18, 0⟩) (meth := k18m0) (c := k18c0) (by decide +kernel) rfl rfl rfl (by decide +kernel)
set_option maxRecDepth 65536 in
theorem w_c42 : (Jvm.Cond.code ({ cls := "java/util/ImmutableCollections$List12", name := "<init>", desc := "(Ljava/lang/Object;Ljava/lang/Object;)V" } : Jvm.MethodName) jdk_44_method_2_code (3 : Nat) (Option.none : Option Jvm.ClassFile.FieldType)).before args0 about1 = true := code_word (m := ⟨17, 1⟩) (meth := k17m1) (c := k17c1) (by decide +kernel) rfl rfl rfl (by decide +kernel)
def codes1 : List Jvm.Cond := [Jvm.Cond.code x code maxLocals ret, Jvm.Cond.code ({ cls := "com/example/lithe_checker/lithechecker/c/CType$StructType", name := "<init>", desc := "(ZLjava/lang/String;)V" } : Jvm.MethodName) prog_11_method_1_code (3 : Nat) (Option.none : Option Jvm.ClassFile.FieldType), Jvm.Cond.code ({ cls := "com/example/lithe_checker/lithechecker/c/CType", name := "<init>", desc := "()V" } : Jvm.MethodName) prog_5_method_1_code (1 : Nat) (Option.none : Option Jvm.ClassFile.FieldType), Jvm.Cond.code ({ cls := "java/lang/Object", name := "<init>", desc := "()V" } : Jvm.MethodName) object_method_1_code (1 : Nat) (Option.none : Option Jvm.ClassFile.FieldType), Jvm.Cond.code ({ cls := "com/example/lithe_checker/lithechecker/c/CType$StructType", name := "isComplete", desc := "()Z" } : Jvm.MethodName) prog_11_method_5_code (1 : Nat) (Option.some Jvm.ClassFile.FieldType.boolean), Jvm.Cond.code ({ cls := "java/util/ArrayList", name := "<init>", desc := "()V" } : Jvm.MethodName) jdk_38_method_2_code (1 : Nat) (Option.none : Option Jvm.ClassFile.FieldType), Jvm.Cond.code ({ cls := "java/util/AbstractList", name := "<init>", desc := "()V" } : Jvm.MethodName) jdk_39_method_1_code (1 : Nat) (Option.none : Option Jvm.ClassFile.FieldType), Jvm.Cond.code ({ cls := "java/util/AbstractCollection", name := "<init>", desc := "()V" } : Jvm.MethodName) jdk_22_method_1_code (1 : Nat) (Option.none : Option Jvm.ClassFile.FieldType), Jvm.Cond.code ({ cls := "com/example/lithe_checker/lithechecker/c/CType$StructType", name := "complete", desc := "(Ljava/util/List;)V" } : Jvm.MethodName) prog_11_method_2_code (2 : Nat) (Option.none : Option Jvm.ClassFile.FieldType), Jvm.Cond.code ({ cls := "java/util/List", name := "copyOf", desc := "(Ljava/util/Collection;)Ljava/util/List;" } : Jvm.MethodName) jdk_40_method_48_code (1 : Nat) (Option.some (Jvm.ClassFile.FieldType.object "java/util/List")), Jvm.Cond.code ({ cls := "java/util/ImmutableCollections", name := "listCopy", desc := "(Ljava/util/Collection;)Ljava/util/List;" } : Jvm.MethodName) jdk_56_method_3_code (2 : Nat) (Option.some (Jvm.ClassFile.FieldType.object "java/util/List")), Jvm.Cond.code ({ cls := "java/util/ArrayList", name := "isEmpty", desc := "()Z" } : Jvm.MethodName) jdk_38_method_9_code (1 : Nat) (Option.some Jvm.ClassFile.FieldType.boolean), Jvm.Cond.code ({ cls := "java/util/List", name := "of", desc := "()Ljava/util/List;" } : Jvm.MethodName) jdk_40_method_36_code (0 : Nat) (Option.some (Jvm.ClassFile.FieldType.object "java/util/List")), Jvm.Cond.code ({ cls := "com/example/lithe_checker/lithechecker/c/CType$StructType", name := "members", desc := "()Ljava/util/List;" } : Jvm.MethodName) prog_11_method_6_code (1 : Nat) (Option.some (Jvm.ClassFile.FieldType.object "java/util/List")), Jvm.Cond.code ({ cls := "java/util/ImmutableCollections$ListN", name := "size", desc := "()I" } : Jvm.MethodName) jdk_45_method_3_code (1 : Nat) (Option.some Jvm.ClassFile.FieldType.int), Jvm.Cond.code ({ cls := "java/lang/String", name := "valueOf", desc := "(C)Ljava/lang/String;" } : Jvm.MethodName) jdk_42_method_139_code (1 : Nat) (Option.some (Jvm.ClassFile.FieldType.object "java/lang/String")), Jvm.Cond.code ({ cls := "java/lang/StringLatin1", name := "canEncode", desc := "(C)Z" } : Jvm.MethodName) jdk_43_method_3_code (1 : Nat) (Option.some Jvm.ClassFile.FieldType.boolean), Jvm.Cond.code ({ cls := "java/lang/StringLatin1", name := "toBytes", desc := "(C)[B" } : Jvm.MethodName) jdk_43_method_46_code (1 : Nat) (Option.some (Jvm.ClassFile.FieldType.array Jvm.ClassFile.FieldType.byte)), Jvm.Cond.code ({ cls := "java/lang/String", name := "<init>", desc := "([BB)V" } : Jvm.MethodName) jdk_42_method_151_code (3 : Nat) (Option.none : Option Jvm.ClassFile.FieldType), Jvm.Cond.code ({ cls := "com/example/lithe_checker/lithechecker/c/CType$Member", name := "<init>", desc := "(Ljava/lang/String;Lcom/example/lithe_checker/lithechecker/c/CType;)V" } : Jvm.MethodName) prog_9_method_1_code (3 : Nat) (Option.none : Option Jvm.ClassFile.FieldType), Jvm.Cond.code ({ cls := "java/util/ArrayList", name := "add", desc := "(Ljava/lang/Object;)Z" } : Jvm.MethodName) jdk_38_method_25_code (2 : Nat) (Option.some Jvm.ClassFile.FieldType.boolean), Jvm.Cond.code ({ cls := "java/util/ArrayList", name := "add", desc := "(Ljava/lang/Object;[Ljava/lang/Object;I)V" } : Jvm.MethodName) jdk_38_method_24_code (4 : Nat) (Option.none : Option Jvm.ClassFile.FieldType), Jvm.Cond.code ({ cls := "java/util/ArrayList", name := "grow", desc := "()[Ljava/lang/Object;" } : Jvm.MethodName) jdk_38_method_7_code (1 : Nat) (Option.some (Jvm.ClassFile.FieldType.array (Jvm.ClassFile.FieldType.object "java/lang/Object"))), Jvm.Cond.code ({ cls := "java/util/ArrayList", name := "grow", desc := "(I)[Ljava/lang/Object;" } : Jvm.MethodName) jdk_38_method_6_code (4 : Nat) (Option.some (Jvm.ClassFile.FieldType.array (Jvm.ClassFile.FieldType.object "java/lang/Object"))), Jvm.Cond.code ({ cls := "java/lang/Math", name := "max", desc := "(II)I" } : Jvm.MethodName) jdk_29_method_65_code (2 : Nat) (Option.some Jvm.ClassFile.FieldType.int), Jvm.Cond.code ({ cls := "java/util/ArrayList", name := "toArray", desc := "()[Ljava/lang/Object;" } : Jvm.MethodName) jdk_38_method_16_code (1 : Nat) (Option.some (Jvm.ClassFile.FieldType.array (Jvm.ClassFile.FieldType.object "java/lang/Object"))), Jvm.Cond.code ({ cls := "java/util/Arrays", name := "copyOf", desc := "([Ljava/lang/Object;I)[Ljava/lang/Object;" } : Jvm.MethodName) jdk_65_method_119_code (2 : Nat) (Option.some (Jvm.ClassFile.FieldType.array (Jvm.ClassFile.FieldType.object "java/lang/Object"))), Jvm.Cond.code ({ cls := "java/util/Arrays", name := "copyOf", desc := "([Ljava/lang/Object;ILjava/lang/Class;)[Ljava/lang/Object;" } : Jvm.MethodName) jdk_65_method_120_code (4 : Nat) (Option.some (Jvm.ClassFile.FieldType.array (Jvm.ClassFile.FieldType.object "java/lang/Object"))), Jvm.Cond.code ({ cls := "java/lang/Math", name := "min", desc := "(II)I" } : Jvm.MethodName) jdk_29_method_69_code (2 : Nat) (Option.some Jvm.ClassFile.FieldType.int), Jvm.Cond.code ({ cls := "java/util/List", name := "of", desc := "([Ljava/lang/Object;)Ljava/util/List;" } : Jvm.MethodName) jdk_40_method_47_code (2 : Nat) (Option.some (Jvm.ClassFile.FieldType.object "java/util/List")), Jvm.Cond.code ({ cls := "java/util/ImmutableCollections$List12", name := "<init>", desc := "(Ljava/lang/Object;)V" } : Jvm.MethodName) jdk_44_method_1_code (2 : Nat) (Option.none : Option Jvm.ClassFile.FieldType), Jvm.Cond.code ({ cls := "java/util/ImmutableCollections$AbstractImmutableList", name := "<init>", desc := "()V" } : Jvm.MethodName) jdk_46_method_1_code (1 : Nat) (Option.none : Option Jvm.ClassFile.FieldType), Jvm.Cond.code ({ cls := "java/util/ImmutableCollections$AbstractImmutableCollection", name := "<init>", desc := "()V" } : Jvm.MethodName) jdk_47_method_1_code (1 : Nat) (Option.none : Option Jvm.ClassFile.FieldType), Jvm.Cond.code ({ cls := "java/util/Objects", name := "requireNonNull", desc := "(Ljava/lang/Object;)Ljava/lang/Object;" } : Jvm.MethodName) jdk_31_method_10_code (1 : Nat) (Option.some (Jvm.ClassFile.FieldType.object "java/lang/Object")), Jvm.Cond.code ({ cls := "java/util/ImmutableCollections$List12", name := "size", desc := "()I" } : Jvm.MethodName) jdk_44_method_3_code (1 : Nat) (Option.some Jvm.ClassFile.FieldType.int), Jvm.Cond.code ({ cls := "java/lang/String", name := "<init>", desc := "([C)V" } : Jvm.MethodName) jdk_42_method_3_code (2 : Nat) (Option.none : Option Jvm.ClassFile.FieldType), Jvm.Cond.code ({ cls := "java/lang/String", name := "<init>", desc := "([CIILjava/lang/Void;)V" } : Jvm.MethodName) jdk_42_method_149_code (6 : Nat) (Option.none : Option Jvm.ClassFile.FieldType), Jvm.Cond.code ({ cls := "java/lang/StringUTF16", name := "compress", desc := "([CII)[B" } : Jvm.MethodName) jdk_52_method_16_code (6 : Nat) (Option.some (Jvm.ClassFile.FieldType.array Jvm.ClassFile.FieldType.byte)), Jvm.Cond.code ({ cls := "java/lang/StringUTF16", name := "compress", desc := "([CI[BII)I" } : Jvm.MethodName) jdk_52_method_21_code (7 : Nat) (Option.some Jvm.ClassFile.FieldType.int), Jvm.Cond.code ({ cls := "java/lang/StringUTF16", name := "coderFromArrayLen", desc := "([BI)B" } : Jvm.MethodName) jdk_52_method_15_code (2 : Nat) (Option.some Jvm.ClassFile.FieldType.byte), Jvm.Cond.code ({ cls := "java/util/ImmutableCollections", name := "listFromArray", desc := "([Ljava/lang/Object;)Ljava/util/List;" } : Jvm.MethodName) jdk_56_method_4_code (3 : Nat) (Option.some (Jvm.ClassFile.FieldType.object "java/util/List")), Jvm.Cond.code ({ cls := "java/util/ImmutableCollections$ListN", name := "<init>", desc := "([Ljava/lang/Object;Z)V" } : Jvm.MethodName) jdk_45_method_1_code (3 : Nat) (Option.none : Option Jvm.ClassFile.FieldType), Jvm.Cond.code ({ cls := "java/util/ImmutableCollections$List12", name := "<init>", desc := "(Ljava/lang/Object;Ljava/lang/Object;)V" } : Jvm.MethodName) jdk_44_method_2_code (3 : Nat) (Option.none : Option Jvm.ClassFile.FieldType)]
set_option maxRecDepth 65536 in
theorem codes_eq : words1.filter isCode = codes1 := rfl
theorem w_codes : ∀ c ∈ words1.filter isCode, c.before args0 about1 = true := by
  rw [codes_eq]
  intro c hc
  simp only [codes1, List.mem_cons, List.not_mem_nil, or_false] at hc
  rcases hc with rfl | rfl | rfl | rfl | rfl | rfl | rfl | rfl | rfl | rfl | rfl | rfl | rfl | rfl | rfl | rfl | rfl | rfl | rfl | rfl | rfl | rfl | rfl | rfl | rfl | rfl | rfl | rfl | rfl | rfl | rfl | rfl | rfl | rfl | rfl | rfl | rfl | rfl | rfl | rfl | rfl | rfl | rfl
  · exact w_c0
  · exact w_c1
  · exact w_c2
  · exact w_c3
  · exact w_c4
  · exact w_c5
  · exact w_c6
  · exact w_c7
  · exact w_c8
  · exact w_c9
  · exact w_c10
  · exact w_c11
  · exact w_c12
  · exact w_c13
  · exact w_c14
  · exact w_c15
  · exact w_c16
  · exact w_c17
  · exact w_c18
  · exact w_c19
  · exact w_c20
  · exact w_c21
  · exact w_c22
  · exact w_c23
  · exact w_c24
  · exact w_c25
  · exact w_c26
  · exact w_c27
  · exact w_c28
  · exact w_c29
  · exact w_c30
  · exact w_c31
  · exact w_c32
  · exact w_c33
  · exact w_c34
  · exact w_c35
  · exact w_c36
  · exact w_c37
  · exact w_c38
  · exact w_c39
  · exact w_c40
  · exact w_c41
  · exact w_c42
set_option maxRecDepth 65536 in
theorem w_t1 : (words1.take 24).all (fun c => isCode c || c.before args0 about1) = true := by decide +kernel
set_option maxRecDepth 65536 in
theorem w_t2 : ((words1.drop 24).take 24).all (fun c => isCode c || c.before args0 about1) = true := by decide +kernel
set_option maxRecDepth 65536 in
theorem w_t3 : (((words1.drop 24).drop 24).take 24).all (fun c => isCode c || c.before args0 about1) = true := by decide +kernel
set_option maxRecDepth 65536 in
theorem w_t4 : ((((words1.drop 24).drop 24).drop 24).take 24).all (fun c => isCode c || c.before args0 about1) = true := by decide +kernel
set_option maxRecDepth 65536 in
theorem w_t5 : (((((words1.drop 24).drop 24).drop 24).drop 24).take 24).all (fun c => isCode c || c.before args0 about1) = true := by decide +kernel
set_option maxRecDepth 65536 in
theorem w_t6 : ((((((words1.drop 24).drop 24).drop 24).drop 24).drop 24).take 24).all (fun c => isCode c || c.before args0 about1) = true := by decide +kernel
set_option maxRecDepth 65536 in
theorem w_t7 : (((((((words1.drop 24).drop 24).drop 24).drop 24).drop 24).drop 24).take 24).all (fun c => isCode c || c.before args0 about1) = true := by decide +kernel
set_option maxRecDepth 65536 in
theorem w_t8 : ((((((((words1.drop 24).drop 24).drop 24).drop 24).drop 24).drop 24).drop 24).take 24).all (fun c => isCode c || c.before args0 about1) = true := by decide +kernel
set_option maxRecDepth 65536 in
theorem w_t9 : (((((((((words1.drop 24).drop 24).drop 24).drop 24).drop 24).drop 24).drop 24).drop 24).take 24).all (fun c => isCode c || c.before args0 about1) = true := by decide +kernel
set_option maxRecDepth 65536 in
theorem w_t10 : ((((((((((words1.drop 24).drop 24).drop 24).drop 24).drop 24).drop 24).drop 24).drop 24).drop 24).take 24).all (fun c => isCode c || c.before args0 about1) = true := by decide +kernel
set_option maxRecDepth 65536 in
theorem w_t11 : (((((((((((words1.drop 24).drop 24).drop 24).drop 24).drop 24).drop 24).drop 24).drop 24).drop 24).drop 24).take 24).all (fun c => isCode c || c.before args0 about1) = true := by decide +kernel
set_option maxRecDepth 65536 in
theorem w_t12 : (((((((((((words1.drop 24).drop 24).drop 24).drop 24).drop 24).drop 24).drop 24).drop 24).drop 24).drop 24).drop 24).all (fun c => isCode c || c.before args0 about1) = true := by decide +kernel
theorem w_tables : (allAtoms (Jvm.Cond.code x code maxLocals ret :: tables_1)).before args0 about1 = true := by
  rw [allAtoms_all]
  show words1.all (fun c => c.before args0 about1) = true
  refine all_split ?_ w_codes
  rw [← List.take_append_drop 24 words1, List.all_append, w_t1, ← List.take_append_drop 24 (words1.drop 24), List.all_append, w_t2, ← List.take_append_drop 24 ((words1.drop 24).drop 24), List.all_append, w_t3, ← List.take_append_drop 24 (((words1.drop 24).drop 24).drop 24), List.all_append, w_t4, ← List.take_append_drop 24 ((((words1.drop 24).drop 24).drop 24).drop 24), List.all_append, w_t5, ← List.take_append_drop 24 (((((words1.drop 24).drop 24).drop 24).drop 24).drop 24), List.all_append, w_t6, ← List.take_append_drop 24 ((((((words1.drop 24).drop 24).drop 24).drop 24).drop 24).drop 24), List.all_append, w_t7, ← List.take_append_drop 24 (((((((words1.drop 24).drop 24).drop 24).drop 24).drop 24).drop 24).drop 24), List.all_append, w_t8, ← List.take_append_drop 24 ((((((((words1.drop 24).drop 24).drop 24).drop 24).drop 24).drop 24).drop 24).drop 24), List.all_append, w_t9, ← List.take_append_drop 24 (((((((((words1.drop 24).drop 24).drop 24).drop 24).drop 24).drop 24).drop 24).drop 24).drop 24), List.all_append, w_t10, ← List.take_append_drop 24 ((((((((((words1.drop 24).drop 24).drop 24).drop 24).drop 24).drop 24).drop 24).drop 24).drop 24).drop 24), List.all_append, w_t11, w_t12]
  rfl
set_option maxRecDepth 65536 in
theorem w_rest : rest_1_c.before args0 about1 = true := by decide +kernel
set_option maxRecDepth 65536 in
theorem w_case : (Jvm.Cond.and given_1 narrow_1).before args0 about1 = true := by decide +kernel
theorem w_applies : (headSpec (Jvm.Cond.code x code maxLocals ret :: tables_1) room_1).applies x e0.platform about1 = true :=
  (Spec.applies_iff w_frames).mpr ⟨w_running, w_runnable, w_alone, w_named, w_hears, w_ripe, w_room, w_tables⟩
theorem atStart : AtStart classFile x code maxLocals ret World_1 tables_1 room_1 Calls_1 rest_1 Pre_1 launch0 p0 e0 about1 theMethod args0 below0 :=
  ⟨lists_1, trivial, launch0.admits_env _ _ _, launch0.least_env, fairChoices_fair.cas, fairChoices_fair.clock, w_frames, w_args, w_heap, w_applies, ⟨⟨41, k41, 5, by decide +kernel, rfl, rfl, _, rfl, rfl⟩, trivial⟩, w_rest, w_case⟩
end start1
theorem witness_1 : WitnessClaimed_1 := ⟨start1.p0, start1.e0, start1.about1, start1.theMethod, start1.args0, start1.below0, start1.atStart⟩
end Jvm.Pilot.@@N@@
