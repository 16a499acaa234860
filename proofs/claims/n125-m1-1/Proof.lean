import JvmDerived
import JvmDerived.Pilot.@@N@@Statement
import JvmDerived.Pilot.@@N@@Code
set_option linter.unusedVariables false
set_option linter.unusedSimpArgs false
namespace Jvm.Pilot.@@N@@
open Jvm Jvm.ClassFile Sem Op Lib Jvm.Free Jvm.Stand Jvm.LawKit Jvm.RoadKit Bundle Jvm.Pilot.@@N@@.Jvm.D
abbrev mn0 : MethodName := ⟨"com/example/trustee/trustee/PartPatternIsWildPinLaw", "draw", "(I)C"⟩
abbrev mn1 : MethodName := ⟨"com/example/trustee/trustee/PartPatternIsWildPinLaw", "wild", "(C)Z"⟩
abbrev mn2 : MethodName := ⟨"java/lang/String", "<init>", "([CIILjava/lang/Void;)V"⟩
abbrev mn3 : MethodName := ⟨"java/lang/String", "<init>", "([C)V"⟩
abbrev mn4 : MethodName := ⟨"java/lang/StringUTF16", "newBytesLength", "(I)I"⟩
abbrev mn5 : MethodName := ⟨"java/lang/StringUTF16", "newBytesFor", "(I)[B"⟩
abbrev mn6 : MethodName := ⟨"java/lang/StringUTF16", "putChar", "([BII)V"⟩
abbrev mn7 : MethodName := ⟨"java/lang/StringUTF16", "toBytes", "([CII)[B"⟩
abbrev mn8 : MethodName := ⟨"java/lang/StringUTF16", "getChar", "([BI)C"⟩
abbrev mn9 : MethodName := ⟨"java/lang/StringUTF16", "compress", "([CI[BII)I"⟩
abbrev mn10 : MethodName := ⟨"java/lang/StringUTF16", "compress", "([CII)[B"⟩
abbrev mn11 : MethodName := ⟨"java/lang/StringUTF16", "coderFromArrayLen", "([BI)B"⟩
abbrev mn12 : MethodName := ⟨"java/lang/StringLatin1", "canEncode", "(C)Z"⟩
abbrev mn13 : MethodName := ⟨"java/lang/StringLatin1", "toBytes", "(C)[B"⟩
abbrev mn14 : MethodName := ⟨"java/lang/StringUTF16", "toBytes", "(C)[B"⟩
abbrev mn15 : MethodName := ⟨"java/lang/String", "<init>", "([BB)V"⟩
abbrev mn16 : MethodName := ⟨"java/lang/String", "valueOf", "(C)Ljava/lang/String;"⟩
abbrev mn17 : MethodName := ⟨"java/lang/String", "isLatin1", "()Z"⟩
abbrev mn18 : MethodName := ⟨"java/lang/String", "coder", "()B"⟩
abbrev mn19 : MethodName := ⟨"java/lang/StringLatin1", "canEncode", "(I)Z"⟩
abbrev mn20 : MethodName := ⟨"java/lang/Math", "max", "(II)I"⟩
abbrev mn21 : MethodName := ⟨"java/lang/Math", "min", "(II)I"⟩
abbrev mn22 : MethodName := ⟨"java/lang/StringLatin1", "indexOf", "([BIII)I"⟩
abbrev mn23 : MethodName := ⟨"java/lang/String", "length", "()I"⟩
abbrev mn24 : MethodName := ⟨"java/lang/String", "indexOf", "(II)I"⟩
abbrev mn25 : MethodName := ⟨"java/lang/String", "indexOf", "(I)I"⟩
abbrev mn26 : MethodName := ⟨"com/example/trustee/trustee/PartPattern", "isWild", "(Ljava/lang/String;)Z"⟩
abbrev mn27 : MethodName := ⟨"java/lang/StringLatin1", "indexOfChar", "([BIII)I"⟩
abbrev mn28 : MethodName := ⟨"java/lang/StringUTF16", "length", "([B)I"⟩
abbrev mn29 : MethodName := ⟨"jdk/internal/util/Preconditions", "checkFromToIndex", "(IIILjava/util/function/BiFunction;)I"⟩
abbrev mn30 : MethodName := ⟨"java/lang/String", "checkBoundsBeginEnd", "(III)V"⟩
abbrev mn31 : MethodName := ⟨"java/lang/StringUTF16", "checkBoundsBeginEnd", "(II[B)V"⟩
abbrev mn32 : MethodName := ⟨"java/lang/StringUTF16", "indexOfCharUnsafe", "([BIII)I"⟩
abbrev mn33 : MethodName := ⟨"java/lang/StringUTF16", "indexOfChar", "([BIII)I"⟩
abbrev mn34 : MethodName := ⟨"java/lang/StringUTF16", "indexOf", "([BIII)I"⟩
/-- places of a frame's locals, in short -/
abbrev Iv (x : Int32) : Slot := .val (.int x)
abbrev Jv (x : Int64) : Slot := .val (.long x)
abbrev Rv (a : Addr) : Slot := .val (.ref a)
abbrev Nv : Slot := .val .null
abbrev Uv : Slot := .unset
abbrev Sv : Slot := .second
/-- the table words hold at Z -/
abbrev own_W (a0 : Array Value) (Z : State) : Prop := ∀ d ∈ tables_1, d.before a0 Z = true
/-- a table word by its number -/
theorem own_g {a0 : Array Value} {Z : State} (hw : ∀ d ∈ tables_1, d.before a0 Z = true) (i : Nat) {d : Jvm.Cond} (h : tables_1[i]? = some d := by rfl) : d.before a0 Z = true := hw _ (List.mem_of_getElem? h)
/-- .. and at a state whose tables are warmer -/
theorem own_m {a0 args : Array Value} {Z s : State} (hZ : Z.Warmed39 s.vm) (hw : ∀ d ∈ tables_1, d.before a0 Z = true) (i : Nat) {d : Jvm.Cond} (h : tables_1[i]? = some d := by rfl) (hd : (d.onTables && d.keepsFace) = true := by first | rfl | simp [Jvm.Cond.onTables, Jvm.Cond.keepsFace, Jvm.Cond.keeps, Jvm.Cond.steady]) : d.before args s = true := mvT hZ (hw _ (List.mem_of_getElem? h)) hd
theorem own_z {n W : Nat} (h : n = W) : 2 * 0 + n ≤ W := by omega
section Own
variable {p : Program} {l : Launch} {e : Env} {R : Room} {s : State} {m : MethodId} {args : Array Value} {below : List Frame} {meth : Method} {c : Code} {T T' : State} {locs : List Loc} {cells slots : Nat}
/-- from T with the frame f on top the method comes to its end; what it returns, the heap and the places written answer Q; at most C cells and N slots are new -/
def own_Fin (p : Program) (e : Env) (below : List Frame) (s : State) (C N : Nat) (Q : Option Value → Heap → List Loc → Prop) (T : State) (f : JFrame) : Prop :=
  ∃ s₂ o, Steps p.tables e below (T.setTop f) s₂ ∧ s₂.status = .running ∧ Ended s₂ below o ∧ ∃ v L, o = .returned v ∧ Q v s₂.heap L ∧ FrameEnd s o s₂ L C N
variable {C N : Nat} {Q : Option Value → Heap → List Loc → Prop} {f f' : JFrame}
theorem own_by (h : ∀ t, Steps p.tables e below (T'.setTop f') t → Steps p.tables e below (T.setTop f) t) (k : own_Fin p e below s C N Q T' f') : own_Fin p e below s C N Q T f := by
  obtain ⟨s2, o, h1, h2⟩ := k
  exact ⟨s2, o, h _ h1, h2⟩
theorem own_start (q : f = f') (k : own_Fin p e below s C N Q T f') : ∃ s₂ o, Steps p.tables e below (T.setTop f) s₂ ∧ s₂.status = .running ∧ Ended s₂ below o ∧ ∃ v L, o = .returned v ∧ Q v s₂.heap L ∧ FrameEnd s o s₂ L C N := by
  subst q; exact k
theorem own_leaf (X : Stand p l e R s m args below meth c T locs cells slots) (hlk : meth.locks = false) {v : Option Value} (hv : meth.sig.returnType = none → v = none)
    (hs : ∀ fs, (∀ (f : JFrame) (acts : List Action), f.method = m → f.locked = none → f.entered = [] → (doReturn e (T.setTop f) acts v).1 = T.setFrames fs) → Steps p.tables e below (T.setTop f) (T.setFrames fs))
    (hQ : Q v T.heap locs) (hc : cells ≤ C) (hn : slots ≤ N) : own_Fin p e below s C N Q T f := by
  obtain ⟨fs, hr, hrun, hended, hW, hsame⟩ := X.leave (v := v) hv hlk
  exact ⟨_, _, hs fs hr, hrun, hended, _, _, rfl, hQ, ⟨_, rfl⟩, hW, hsame.mono hc hn⟩
theorem own_retV (X : Stand p l e R s m args below meth c T locs cells slots) (hx : p.tables.exec = Jvm.exec) (hlk : meth.locks = false) {pc : Nat} {Ls : Array Slot} (hret : meth.sig.returnType = none) (hd : decode c.code pc = .ok (.return_, 1))
    (hQ : Q none T.heap locs) (hc : cells ≤ C) (hn : slots ≤ N) : own_Fin p e below s C N Q T (mkF m pc Ls []) :=
  own_leaf X hlk (fun _ => rfl) (fun fs hr => X.returnOut hx hret hd hr) hQ hc hn
theorem own_retZ (X : Stand p l e R s m args below meth c T locs cells slots) (hx : p.tables.exec = Jvm.exec) (hlk : meth.locks = false) {pc : Nat} {Ls : Array Slot} {z : Int32} {t : FieldType} {rest : List Value} (hret : meth.sig.returnType = some t) (ht : t = .boolean ∨ t = .byte ∨ t = .char ∨ t = .short) (hd : decode c.code pc = .ok (.ireturn, 1))
    (hQ : Q (some (.int (nar t z))) T.heap locs) (hc : cells ≤ C) (hn : slots ≤ N) : own_Fin p e below s C N Q T (mkF m pc Ls (.int z :: rest)) :=
  own_leaf X hlk (fun h => by rw [hret] at h; cases h) (fun fs hr => retN X hx hret ht hd hr) hQ hc hn
theorem own_retO (X : Stand p l e R s m args below meth c T locs cells slots) (hx : p.tables.exec = Jvm.exec) (hlk : meth.locks = false) {pc : Nat} {Ls : Array Slot} {w : Value} {t : FieldType} {i : Instr} {rest : List Value} (hret : meth.sig.returnType = some t) (hn' : narrow t w = w)
    (hi : (i = .ireturn ∧ (t = .int ∨ t = .boolean ∨ t = .byte ∨ t = .char ∨ t = .short) ∧ ∃ z, w = .int z) ∨ (i = .lreturn ∧ t = .long ∧ ∃ z, w = .long z) ∨ (i = .dreturn ∧ t = .double ∧ ∃ z, w = .double z) ∨ (i = .freturn ∧ t = .float ∧ ∃ z, w = .float z) ∨ (i = .areturn ∧ t.isReference = true ∧ w.isRef = true))
    (hd : decode c.code pc = .ok (i, 1)) (hQ : Q (some w) T.heap locs) (hc : cells ≤ C) (hn : slots ≤ N) : own_Fin p e below s C N Q T (mkF m pc Ls (w :: rest)) :=
  own_leaf X hlk (fun h => by rw [hret] at h; cases h) (fun fs hr => retOut X hx hret hn' hi hd hr) hQ hc hn
theorem own_retI (X : Stand p l e R s m args below meth c T locs cells slots) (hx : p.tables.exec = Jvm.exec) (hlk : meth.locks = false) {pc : Nat} {Ls : Array Slot} {z : Int32} {rest : List Value} (hret : meth.sig.returnType = some .int) (hd : decode c.code pc = .ok (.ireturn, 1))
    (hQ : Q (some (.int z)) T.heap locs) (hc : cells ≤ C) (hn : slots ≤ N) : own_Fin p e below s C N Q T (mkF m pc Ls (.int z :: rest)) :=
  own_retO X hx hlk hret rfl (Or.inl ⟨rfl, Or.inl rfl, _, rfl⟩) hd hQ hc hn
theorem own_retJ (X : Stand p l e R s m args below meth c T locs cells slots) (hx : p.tables.exec = Jvm.exec) (hlk : meth.locks = false) {pc : Nat} {Ls : Array Slot} {z : Int64} {rest : List Value} (hret : meth.sig.returnType = some .long) (hd : decode c.code pc = .ok (.lreturn, 1))
    (hQ : Q (some (.long z)) T.heap locs) (hc : cells ≤ C) (hn : slots ≤ N) : own_Fin p e below s C N Q T (mkF m pc Ls (.long z :: rest)) :=
  own_retO X hx hlk hret rfl (Or.inr (Or.inl ⟨rfl, rfl, _, rfl⟩)) hd hQ hc hn
theorem own_retA (X : Stand p l e R s m args below meth c T locs cells slots) (hx : p.tables.exec = Jvm.exec) (hlk : meth.locks = false) {pc : Nat} {Ls : Array Slot} {w : Value} {t : FieldType} {rest : List Value} (hret : meth.sig.returnType = some t) (hr : t.isReference = true) (hn' : narrow t w = w) (hw : w.isRef = true) (hd : decode c.code pc = .ok (.areturn, 1))
    (hQ : Q (some w) T.heap locs) (hc : cells ≤ C) (hn : slots ≤ N) : own_Fin p e below s C N Q T (mkF m pc Ls (w :: rest)) :=
  own_retO X hx hlk hret hn' (Or.inr (Or.inr (Or.inr (Or.inr ⟨rfl, hr, hw⟩)))) hd hQ hc hn
theorem own_mvM {Z : State} {a0 : Array Value} {own host : String} {y : MethodName} {index : Nat} (hZ : Z.Warmed39 s.vm) (w : (Jvm.Cond.methodLinkNest own index y host).before a0 Z = true) : (Jvm.Cond.methodLinkNest own index y host).before args s = true := (Jvm.Cond.methodLinkNest_wide hZ w :)
/-- a room by its four numbers -/
abbrev own_R (f c s l : Nat) : Room := { frames := f, cells := c, slots := s, locals := l }
/-- the contract's form: called with A at a heap h0 it returns, and Q holds of what it returns, the heap and the places written -/
abbrev own_Met (l : Launch) (Z : State) (y : MethodName) (code : ByteArray) (ml : Nat) (ret : Option FieldType) (ws : List Jvm.Cond) (R : Room) (A : Array Value) (h0 : Heap) (Q : Option Value → Heap → List Loc → Prop) : Prop :=
  MetFree l y (head1 (Jvm.Cond.code y code ml ret :: ws) R) (fun a U => a = A ∧ Z.Warmed39 U.vm ∧ U.heap = h0) (fun _ _ _ _ _ => True) (fun _ U o U' => ∃ v L, o = .returned v ∧ Q v U'.heap L ∧ FrameEnd U o U' L R.cells R.slots)
theorem own_enter {Z : State} {y : MethodName} {code : ByteArray} {ml : Nat} {ret : Option FieldType} {ws : List Jvm.Cond} {A : Array Value} {h0 : Heap} {f0 : MethodId → JFrame} (n0 : Nat) (hpl : plainFor y = true) (hef : ∀ m, entryFrame m A ml = f0 m)
    (H : ∀ (p : Program) (e : Env) (s : State) (m : MethodId) (below : List Frame) (meth : Method) (c : Code) (s₁ : State), p.tables.exec = Jvm.exec → c.code = code → meth.locks = false → c.maxLocals = ml → meth.sig.returnType = ret → s.vm.findClass y.cls = some m.cls → meth.name = y.name →
      Z.Warmed39 s.vm → Stand p l e R s m A below meth c s₁ [] 0 0 → s₁.heap = h0 → Fr n0 [] → own_Fin p e below s R.cells R.slots Q s₁ (f0 m)) : own_Met l Z y code ml ret ws R A h0 Q := by
  refine MetFree.of_bodySF hpl hisR ?_
  intro p e s m args below meth c s₁ Bd hml hP _
  obtain ⟨rfl, hZ, hh⟩ := hP
  have q := H p e s m below meth c s₁ Bd.exec Bd.bytes Bd.notSynchronized hml Bd.returns (findClass_of_methodNamed Bd.named) (name_of_methodNamed Bd.named Bd.method).1 hZ (Stand.of_body Bd) (by rw [← hh, Bd.state]; rfl) (Fr.nil n0)
  rw [hef m]
  exact q
end Own
section OwnW
variable {p : Program} {l : Launch} {e : Env} {R : Room} {s : State} {vm0 : Vm} {k0 : Nat} {m : MethodId} {args : Array Value} {below : List Frame} {meth : Method} {c : Code} {T T' : State} {locs : List Loc} {cells slots : Nat}
/-- as own_Fin, the end said by the wide word: String constants may have been interned meanwhile -/
def own_FinW (p : Program) (e : Env) (below : List Frame) (s : State) (C N : Nat) (Q : Option Value → Heap → List Loc → Prop) (T : State) (f : JFrame) : Prop :=
  ∃ s₂ o, Steps p.tables e below (T.setTop f) s₂ ∧ s₂.status = .running ∧ Ended s₂ below o ∧ ∃ v L, o = .returned v ∧ Q v s₂.heap L ∧ ReturnedEndW s o s₂ L C N
variable {C N : Nat} {Q : Option Value → Heap → List Loc → Prop} {f f' : JFrame}
theorem own_byW (h : ∀ t, Steps p.tables e below (T'.setTop f') t → Steps p.tables e below (T.setTop f) t) (k : own_FinW p e below s C N Q T' f') : own_FinW p e below s C N Q T f := by
  obtain ⟨s2, o, h1, h2⟩ := k
  exact ⟨s2, o, h _ h1, h2⟩
theorem own_startW (q : f = f') (k : own_FinW p e below s C N Q T f') : ∃ s₂ o, Steps p.tables e below (T.setTop f) s₂ ∧ s₂.status = .running ∧ Ended s₂ below o ∧ ∃ v L, o = .returned v ∧ Q v s₂.heap L ∧ ReturnedEndW s o s₂ L C N := by
  subst q; exact k
theorem own_endW {t : State} {o : Outcome} {L : List Loc} (h : ReturnedEndW s o t L cells slots) (hc : cells ≤ C) (hn : slots ≤ N) : ReturnedEndW s o t L C N :=
  ⟨h.1, h.2.1, h.2.2.1, h.2.2.2.mono hc hn⟩
theorem own_leafW (X : Stand p l e R (s.setVm vm0) m args below meth c T locs cells slots) (hS : s.Since vm0 k0) (hk : k0 ≤ T.heap.size) (hlk : meth.locks = false) {v : Option Value} (hv : meth.sig.returnType = none → v = none)
    (hs : ∀ fs, (∀ (f : JFrame) (acts : List Action), f.method = m → f.locked = none → f.entered = [] → (doReturn e (T.setTop f) acts v).1 = T.setFrames fs) → Steps p.tables e below (T.setTop f) (T.setFrames fs))
    (hQ : Q v T.heap locs) (hc : cells ≤ C) (hn : slots ≤ N) : own_FinW p e below s C N Q T f := by
  obtain ⟨fs, hr, hrun, hended, hE⟩ := X.leaveW hS hk (v := v) hv hlk
  exact ⟨_, _, hs fs hr, hrun, hended, _, _, rfl, hQ, own_endW hE hc hn⟩
theorem own_retVW (X : Stand p l e R (s.setVm vm0) m args below meth c T locs cells slots) (hS : s.Since vm0 k0) (hk : k0 ≤ T.heap.size) (hx : p.tables.exec = Jvm.exec) (hlk : meth.locks = false) {pc : Nat} {Ls : Array Slot} (hret : meth.sig.returnType = none) (hd : decode c.code pc = .ok (.return_, 1))
    (hQ : Q none T.heap locs) (hc : cells ≤ C) (hn : slots ≤ N) : own_FinW p e below s C N Q T (mkF m pc Ls []) :=
  own_leafW X hS hk hlk (fun _ => rfl) (fun fs hr => X.returnOut hx hret hd hr) hQ hc hn
theorem own_retZW (X : Stand p l e R (s.setVm vm0) m args below meth c T locs cells slots) (hS : s.Since vm0 k0) (hk : k0 ≤ T.heap.size) (hx : p.tables.exec = Jvm.exec) (hlk : meth.locks = false) {pc : Nat} {Ls : Array Slot} {z : Int32} {t : FieldType} {rest : List Value} (hret : meth.sig.returnType = some t) (ht : t = .boolean ∨ t = .byte ∨ t = .char ∨ t = .short) (hd : decode c.code pc = .ok (.ireturn, 1))
    (hQ : Q (some (.int (nar t z))) T.heap locs) (hc : cells ≤ C) (hn : slots ≤ N) : own_FinW p e below s C N Q T (mkF m pc Ls (.int z :: rest)) :=
  own_leafW X hS hk hlk (fun h => by rw [hret] at h; cases h) (fun fs hr => retN X hx hret ht hd hr) hQ hc hn
theorem own_retOW (X : Stand p l e R (s.setVm vm0) m args below meth c T locs cells slots) (hS : s.Since vm0 k0) (hk : k0 ≤ T.heap.size) (hx : p.tables.exec = Jvm.exec) (hlk : meth.locks = false) {pc : Nat} {Ls : Array Slot} {w : Value} {t : FieldType} {i : Instr} {rest : List Value} (hret : meth.sig.returnType = some t) (hn' : narrow t w = w)
    (hi : (i = .ireturn ∧ (t = .int ∨ t = .boolean ∨ t = .byte ∨ t = .char ∨ t = .short) ∧ ∃ z, w = .int z) ∨ (i = .lreturn ∧ t = .long ∧ ∃ z, w = .long z) ∨ (i = .dreturn ∧ t = .double ∧ ∃ z, w = .double z) ∨ (i = .freturn ∧ t = .float ∧ ∃ z, w = .float z) ∨ (i = .areturn ∧ t.isReference = true ∧ w.isRef = true))
    (hd : decode c.code pc = .ok (i, 1)) (hQ : Q (some w) T.heap locs) (hc : cells ≤ C) (hn : slots ≤ N) : own_FinW p e below s C N Q T (mkF m pc Ls (w :: rest)) :=
  own_leafW X hS hk hlk (fun h => by rw [hret] at h; cases h) (fun fs hr => retOut X hx hret hn' hi hd hr) hQ hc hn
theorem own_retIW (X : Stand p l e R (s.setVm vm0) m args below meth c T locs cells slots) (hS : s.Since vm0 k0) (hk : k0 ≤ T.heap.size) (hx : p.tables.exec = Jvm.exec) (hlk : meth.locks = false) {pc : Nat} {Ls : Array Slot} {z : Int32} {rest : List Value} (hret : meth.sig.returnType = some .int) (hd : decode c.code pc = .ok (.ireturn, 1))
    (hQ : Q (some (.int z)) T.heap locs) (hc : cells ≤ C) (hn : slots ≤ N) : own_FinW p e below s C N Q T (mkF m pc Ls (.int z :: rest)) :=
  own_retOW X hS hk hx hlk hret rfl (Or.inl ⟨rfl, Or.inl rfl, _, rfl⟩) hd hQ hc hn
theorem own_retAW (X : Stand p l e R (s.setVm vm0) m args below meth c T locs cells slots) (hS : s.Since vm0 k0) (hk : k0 ≤ T.heap.size) (hx : p.tables.exec = Jvm.exec) (hlk : meth.locks = false) {pc : Nat} {Ls : Array Slot} {w : Value} {t : FieldType} {rest : List Value} (hret : meth.sig.returnType = some t) (hr : t.isReference = true) (hn' : narrow t w = w) (hw : w.isRef = true) (hd : decode c.code pc = .ok (.areturn, 1))
    (hQ : Q (some w) T.heap locs) (hc : cells ≤ C) (hn : slots ≤ N) : own_FinW p e below s C N Q T (mkF m pc Ls (w :: rest)) :=
  own_retOW X hS hk hx hlk hret hn' (Or.inr (Or.inr (Or.inr (Or.inr ⟨rfl, hr, hw⟩)))) hd hQ hc hn
end OwnW
section OwnH
variable {p : Program} {l : Launch} {e : Env} {R : Room} {s Z : State} {EL : List (String × Nat)} {h0 : Heap} {vm0 : Vm} {k0 : Nat} {m : MethodId} {args : Array Value} {below : List Frame} {meth : Method} {c : Code} {T T' : State} {locs : List Loc} {cells slots : Nat}
/-- as own_FinW; and the constants of EL are held at the end as at the start -/
def own_FinH (p : Program) (e : Env) (below : List Frame) (s Z : State) (EL : List (String × Nat)) (h0 : Heap) (C N : Nat) (Q : Option Value → Heap → List Loc → Prop) (T : State) (f : JFrame) : Prop :=
  ∃ s₂ o, Steps p.tables e below (T.setTop f) s₂ ∧ s₂.status = .running ∧ Ended s₂ below o ∧ ∃ v L, o = .returned v ∧ Q v s₂.heap L ∧ CHr Z EL s.vm h0 s₂.vm s₂.heap ∧ ReturnedEndW s o s₂ L C N
variable {C N : Nat} {Q : Option Value → Heap → List Loc → Prop} {f f' : JFrame}
theorem own_byH (h : ∀ t, Steps p.tables e below (T'.setTop f') t → Steps p.tables e below (T.setTop f) t) (k : own_FinH p e below s Z EL h0 C N Q T' f') : own_FinH p e below s Z EL h0 C N Q T f := by
  obtain ⟨s2, o, h1, h2⟩ := k
  exact ⟨s2, o, h _ h1, h2⟩
theorem own_startH (hh : s.heap = h0) (q : f = f') (k : own_FinH p e below s Z EL h0 C N Q T f') : ∃ s₂ o, Steps p.tables e below (T.setTop f) s₂ ∧ s₂.status = .running ∧ Ended s₂ below o ∧ ∃ v L, o = .returned v ∧ Q v s₂.heap L ∧ CHr Z EL s.vm s.heap s₂.vm s₂.heap ∧ ReturnedEndW s o s₂ L C N := by
  subst q hh; exact k
theorem own_leafH (X : Stand p l e R (s.setVm vm0) m args below meth c T locs cells slots) (hS : s.Since vm0 k0) (hk : k0 ≤ T.heap.size) (hC : CHr Z EL s.vm h0 T.vm T.heap) (hlk : meth.locks = false) {v : Option Value} (hv : meth.sig.returnType = none → v = none)
    (hs : ∀ fs, (∀ (f : JFrame) (acts : List Action), f.method = m → f.locked = none → f.entered = [] → (doReturn e (T.setTop f) acts v).1 = T.setFrames fs) → Steps p.tables e below (T.setTop f) (T.setFrames fs))
    (hQ : Q v T.heap locs) (hc : cells ≤ C) (hn : slots ≤ N) : own_FinH p e below s Z EL h0 C N Q T f := by
  obtain ⟨fs, hr, hrun, hended, hE⟩ := X.leaveW hS hk (v := v) hv hlk
  exact ⟨_, _, hs fs hr, hrun, hended, _, _, rfl, hQ, hC, own_endW hE hc hn⟩
theorem own_retVH (X : Stand p l e R (s.setVm vm0) m args below meth c T locs cells slots) (hS : s.Since vm0 k0) (hk : k0 ≤ T.heap.size) (hC : CHr Z EL s.vm h0 T.vm T.heap) (hx : p.tables.exec = Jvm.exec) (hlk : meth.locks = false) {pc : Nat} {Ls : Array Slot} (hret : meth.sig.returnType = none) (hd : decode c.code pc = .ok (.return_, 1))
    (hQ : Q none T.heap locs) (hc : cells ≤ C) (hn : slots ≤ N) : own_FinH p e below s Z EL h0 C N Q T (mkF m pc Ls []) :=
  own_leafH X hS hk hC hlk (fun _ => rfl) (fun fs hr => X.returnOut hx hret hd hr) hQ hc hn
theorem own_retZH (X : Stand p l e R (s.setVm vm0) m args below meth c T locs cells slots) (hS : s.Since vm0 k0) (hk : k0 ≤ T.heap.size) (hC : CHr Z EL s.vm h0 T.vm T.heap) (hx : p.tables.exec = Jvm.exec) (hlk : meth.locks = false) {pc : Nat} {Ls : Array Slot} {z : Int32} {t : FieldType} {rest : List Value} (hret : meth.sig.returnType = some t) (ht : t = .boolean ∨ t = .byte ∨ t = .char ∨ t = .short) (hd : decode c.code pc = .ok (.ireturn, 1))
    (hQ : Q (some (.int (nar t z))) T.heap locs) (hc : cells ≤ C) (hn : slots ≤ N) : own_FinH p e below s Z EL h0 C N Q T (mkF m pc Ls (.int z :: rest)) :=
  own_leafH X hS hk hC hlk (fun h => by rw [hret] at h; cases h) (fun fs hr => retN X hx hret ht hd hr) hQ hc hn
theorem own_retAH (X : Stand p l e R (s.setVm vm0) m args below meth c T locs cells slots) (hS : s.Since vm0 k0) (hk : k0 ≤ T.heap.size) (hC : CHr Z EL s.vm h0 T.vm T.heap) (hx : p.tables.exec = Jvm.exec) (hlk : meth.locks = false) {pc : Nat} {Ls : Array Slot} {w : Value} {t : FieldType} {rest : List Value} (hret : meth.sig.returnType = some t) (hr : t.isReference = true) (hn' : narrow t w = w) (hw : w.isRef = true) (hd : decode c.code pc = .ok (.areturn, 1))
    (hQ : Q (some w) T.heap locs) (hc : cells ≤ C) (hn : slots ≤ N) : own_FinH p e below s Z EL h0 C N Q T (mkF m pc Ls (w :: rest)) :=
  own_leafH X hS hk hC hlk (fun h => by rw [hret] at h; cases h) (fun fs hr' => retOut X hx hret hn' (Or.inr (Or.inr (Or.inr (Or.inr ⟨rfl, hr, hw⟩)))) hd hr') hQ hc hn
end OwnH
theorem own_vi {a b : Int32} (h : a = b) : some (Value.int a) = some (Value.int b) := h ▸ rfl
theorem own_wS {a0 : Array Value} {Z : State} (hw : ∀ d ∈ tables_1, d.before a0 Z = true) : ∀ a ∈ Bundle.stringAtoms, a.before a0 Z = true := fun d hd => hw d ((by decide +kernel : ∀ d ∈ Bundle.stringAtoms, d ∈ tables_1) d hd)
theorem own_EW {a0 : Array Value} {Z : State} (hw : ∀ d ∈ tables_1, d.before a0 Z = true) : EW Z a0 consts_1 := (EW.cons (own_g hw 20) (by decide) EW.nil)
theorem own_b8 (x : Int32) : x.toInt8.toInt32.toInt8.toInt32 = x.toInt8.toInt32 := by
  apply Int32.toInt_inj.mp
  have a := c_i2b x
  have b := c_i2b x.toInt8.toInt32
  omega
theorem own_safe {Z : State} {EL : List (String × Nat)} {vm : Vm} {h : Heap} {x : Addr} (hal : Z.vm.Alike vm) (E : Exa Z h x "java/lang/String") (F : Fld Z h x "java/lang/String" "value" "[B" .null) : Safe Z EL vm h x := fun B => by
  obtain ⟨cell, k, e1, e2, e3, -, -⟩ := E
  obtain ⟨cell', cf, k', i, f, f1, f2, f3, f4, f5, f6, f7⟩ := F
  cases e1.symm.trans f1
  obtain ⟨p, -, u, a, -, q, -, G, rfl | rfl⟩ := B
  · cases (show h[q.sa]? = some q.sC from G.ha).symm.trans e1
    obtain ⟨cS, ⟨⟨-, -, -, ⟨c1, k1, i1, g1, -⟩, -, -, -, v1, -⟩, -⟩, -⟩ := G
    obtain ⟨k3, e3, -⟩ := State.fieldFound?_setVm (s := Z) hal f2
    have e4 := (show (Wst Z vm h).fieldFound? _ _ _ = _ from e3).symm.trans g1
    simp only [Option.some.injEq, Prod.mk.injEq] at e4
    rw [← e4.2.2.2, f7] at v1
    cases v1
  · cases (show h[q.sd]? = some q.SA from G.hd).symm.trans e1
    obtain ⟨cS, -, -, f, -⟩ := G
    have f' : vm.findClass "[B" = some q.SA.cls := f
    rw [hal.findClass] at f'
    obtain ⟨k1, q1, q2⟩ := Vm.findClass_spec f'
    obtain ⟨k2, q3, q4⟩ := Vm.findClass_spec e2
    cases q1.symm.trans q3
    exact absurd (q2.symm.trans q4) (by decide)
def own_Env (Z : State) (cs : Int32) (gS : Value) : Prop := Sta Z Z.heap "java/lang/StringUTF16" "$assertionsDisabled" "Z" (.int (1 : Int32)) ∧ Sta Z Z.heap "java/lang/StringUTF16" "HI_BYTE_SHIFT" "I" (.int (0 : Int32)) ∧ Sta Z Z.heap "java/lang/StringUTF16" "LO_BYTE_SHIFT" "I" (.int (8 : Int32)) ∧ Sta Z Z.heap "java/lang/String" "COMPACT_STRINGS" "Z" (.int cs) ∧ ¬ cs = (0 : Int32) ∧ Sta Z Z.heap "jdk/internal/util/Preconditions" "SIOOBE_FORMATTER" "Ljava/util/function/BiFunction;" gS ∧ gS.isRef = true
def own_ch (x : Int32) : Prop := 0 ≤ x.toInt ∧ x.toInt < 65536
theorem own_ch_c {x : Int32} (h : own_ch x) : x.toUInt32.toUInt16.toUInt32.toInt32 = x := by
  have q := c_i2c x
  obtain ⟨h1, h2⟩ := h
  exact Int32.toInt_inj.mp (by omega)
def own_lo (c : Int32) : Int32 := (c >>> ((0 : Int32) &&& 31)).toInt8.toInt32
def own_hi (c : Int32) : Int32 := (c >>> ((8 : Int32) &&& 31)).toInt8.toInt32
theorem own_u16 {x : Int32} (h : own_ch x) : nar .char (((((own_lo x) &&& (255 : Int32)) <<< ((0 : Int32) &&& 31)) ||| (((own_hi x) &&& (255 : Int32)) <<< ((8 : Int32) &&& 31))).toUInt32.toUInt16.toUInt32.toInt32) = x := by
  unfold own_lo own_hi
  obtain ⟨h1, h2⟩ := h
  have s0 := c_ishr x 0 0 (by decide)
  have s8 := c_ishr x 8 8 (by decide)
  have b0 := c_i2b (x >>> ((0 : Int32) &&& 31))
  have b8 := c_i2b (x >>> ((8 : Int32) &&& 31))
  have m0 := c_mask ((x >>> ((0 : Int32) &&& 31)).toInt8.toInt32) 255 8 (by decide) (by decide)
  have m8 := c_mask ((x >>> ((8 : Int32) &&& 31)).toInt8.toInt32) 255 8 (by decide) (by decide)
  have l0 := c_ishl (((x >>> ((0 : Int32) &&& 31)).toInt8.toInt32) &&& 255) 0 0 (by decide)
  have l8 := c_ishl (((x >>> ((8 : Int32) &&& 31)).toInt8.toInt32) &&& 255) 8 8 (by decide)
  generalize ha : ((((x >>> ((0 : Int32) &&& 31)).toInt8.toInt32) &&& (255 : Int32)) <<< ((0 : Int32) &&& 31)) = a at l0 ⊢
  generalize hb : ((((x >>> ((8 : Int32) &&& 31)).toInt8.toInt32) &&& (255 : Int32)) <<< ((8 : Int32) &&& 31)) = b at l8 ⊢
  have al := Int32.toInt_lt a
  have ag := Int32.le_toInt a
  have bl := Int32.toInt_lt b
  have bg := Int32.le_toInt b
  simp only [Nat.reducePow] at s0 s8 m0 m8 l0 l8
  have ea : a.toInt = x.toInt % 256 := by omega
  have eb : b.toInt = x.toInt / 256 * 256 := by omega
  have o := c_or' a b 8 (by decide) 256 (by decide) (by omega) (by omega) (by omega)
  have ol := Int32.toInt_lt (a ||| b)
  have og := Int32.le_toInt (a ||| b)
  have eo : (a ||| b).toInt = x.toInt := by omega
  have c1 := c_i2c (a ||| b)
  have e1 : (a ||| b).toUInt32.toUInt16.toUInt32.toInt32 = x := Int32.toInt_inj.mp (by omega)
  rw [e1]
  exact own_ch_c ⟨h1, h2⟩
def own_cq (ch : Int32) : Prop := ¬ ch < (0 : Int32) ∧ ¬ (255 : Int32) < ch ∧ ch < (65536 : Int32)
def own_find (ch : Int32) : List Int32 → Int32 → Int32
  | [], _ => -1
  | x :: xs, i => if x = ch then i else own_find ch xs (i + 1)
theorem own_bch {x : Int32} (h : own_ch x) (h2 : ¬ (255 : Int32) < x) {c : Int32} (hc : 0 ≤ c.toInt ∧ c.toInt < 128) : (x.toInt8.toInt32 = c) = (x = c) := by
  obtain ⟨h1, -⟩ := h
  have k : (255 : Int32).toInt = 255 := by decide
  rw [Int32.lt_iff_toInt_lt] at h2
  have b := c_i2b x
  apply propext
  rw [← Int32.toInt_inj, ← Int32.toInt_inj]
  omega
def own_w (y : Int32) : Int32 := if y = (42 : Int32) then 1 else if y = (63 : Int32) then 1 else 0
def own_iw (a b : Int32) : Int32 := if a < (0 : Int32) then (if b < (0 : Int32) then 0 else 1) else 1
def own_ww : List Int32 → Int32
  | [] => 0
  | y :: ys => if own_w y = (0 : Int32) then own_ww ys else 1
theorem own_3 (x : Int32) : x = 42 ∨ x = 63 ∨ (¬ x = 42 ∧ ¬ x = 63) := by
  by_cases a : x = 42
  · exact Or.inl a
  · by_cases b : x = 63
    · exact Or.inr (Or.inl b)
    · exact Or.inr (Or.inr ⟨a, b⟩)
theorem own_chn (z : Int32) : own_ch (nar .char z) := by have q := c_i2c z; exact ⟨q.2.1, q.2.2⟩
theorem own_n5 (x : Int32) : ((x &&& (2147483647 : Int32)) % (5 : Int32)) = 0 ∨ ((x &&& (2147483647 : Int32)) % (5 : Int32)) = 1 ∨ ((x &&& (2147483647 : Int32)) % (5 : Int32)) = 2 ∨ ((x &&& (2147483647 : Int32)) % (5 : Int32)) = 3 ∨ ((x &&& (2147483647 : Int32)) % (5 : Int32)) = 4 := by
  have m := c_and x 2147483647 (by decide)
  have r := (c_irem (x &&& 2147483647) 5 5 (by decide)).1 m.1
  generalize (x &&& (2147483647 : Int32)) % (5 : Int32) = z at r ⊢
  simp only [← Int32.toInt_inj]
  have k0 : (0 : Int32).toInt = 0 := by decide
  have k1 : (1 : Int32).toInt = 1 := by decide
  have k2 : (2 : Int32).toInt = 2 := by decide
  have k3 : (3 : Int32).toInt = 3 := by decide
  have k4 : (4 : Int32).toInt = 4 := by decide
  omega
theorem own_pl1 (x0 : Int32) : own_iw (own_find (42 : Int32) [x0] (0 : Int32)) (own_find (63 : Int32) [x0] (0 : Int32)) = own_ww [x0] := by
  rcases own_3 x0 with rfl | rfl | ⟨a0, b0⟩ <;> simp [own_find, own_ww, own_w, own_iw, *]
theorem own_pl2 (x0 x1 : Int32) : own_iw (own_find (42 : Int32) [x0, x1] (0 : Int32)) (own_find (63 : Int32) [x0, x1] (0 : Int32)) = own_ww [x0, x1] := by
  rcases own_3 x0 with rfl | rfl | ⟨a0, b0⟩ <;> rcases own_3 x1 with rfl | rfl | ⟨a1, b1⟩ <;> simp [own_find, own_ww, own_w, own_iw, *]
theorem own_pl3 (x0 x1 x2 : Int32) : own_iw (own_find (42 : Int32) [x0, x1, x2] (0 : Int32)) (own_find (63 : Int32) [x0, x1, x2] (0 : Int32)) = own_ww [x0, x1, x2] := by
  rcases own_3 x0 with rfl | rfl | ⟨a0, b0⟩ <;> rcases own_3 x1 with rfl | rfl | ⟨a1, b1⟩ <;> rcases own_3 x2 with rfl | rfl | ⟨a2, b2⟩ <;> simp [own_find, own_ww, own_w, own_iw, *]
theorem own_pl4 (x0 x1 x2 x3 : Int32) : own_iw (own_find (42 : Int32) [x0, x1, x2, x3] (0 : Int32)) (own_find (63 : Int32) [x0, x1, x2, x3] (0 : Int32)) = own_ww [x0, x1, x2, x3] := by
  rcases own_3 x0 with rfl | rfl | ⟨a0, b0⟩ <;> rcases own_3 x1 with rfl | rfl | ⟨a1, b1⟩ <;> rcases own_3 x2 with rfl | rfl | ⟨a2, b2⟩ <;> rcases own_3 x3 with rfl | rfl | ⟨a3, b3⟩ <;> simp [own_find, own_ww, own_w, own_iw, *]
theorem own_pn1 : plainName "com/example/trustee/trustee/PartPatternIsWildPinLaw" = true := by first | (simp [plainName, overriddenIn]; done) | decide +kernel
theorem d1_0 : decode method_3_code 0 = .ok (.iload_n 0, 1) := by decide +kernel
theorem d1_1 : decode method_3_code 1 = .ok (.iconst 3, 1) := by decide +kernel
theorem d1_2 : decode method_3_code 2 = .ok (.iand, 1) := by decide +kernel
theorem d1_3 : decode method_3_code 3 = .ok (.istore_n 1, 1) := by decide +kernel
theorem d1_4 : decode method_3_code 4 = .ok (.iload_n 1, 1) := by decide +kernel
theorem d1_5 : decode method_3_code 5 = .ok (.ifCond .ne 6, 3) := by decide +kernel
theorem d1_8 : decode method_3_code 8 = .ok (.bipush 42, 2) := by decide +kernel
theorem d1_10 : decode method_3_code 10 = .ok (.ireturn, 1) := by decide +kernel
theorem d1_11 : decode method_3_code 11 = .ok (.iload_n 1, 1) := by decide +kernel
theorem d1_12 : decode method_3_code 12 = .ok (.iconst 1, 1) := by decide +kernel
theorem d1_13 : decode method_3_code 13 = .ok (.if_icmp .ne 6, 3) := by decide +kernel
theorem d1_16 : decode method_3_code 16 = .ok (.bipush 63, 2) := by decide +kernel
theorem d1_18 : decode method_3_code 18 = .ok (.ireturn, 1) := by decide +kernel
theorem d1_19 : decode method_3_code 19 = .ok (.iload_n 0, 1) := by decide +kernel
theorem d1_20 : decode method_3_code 20 = .ok (.iconst 2, 1) := by decide +kernel
theorem d1_21 : decode method_3_code 21 = .ok (.iushr, 1) := by decide +kernel
theorem d1_22 : decode method_3_code 22 = .ok (.ldc 33, 2) := by decide +kernel
theorem d1_24 : decode method_3_code 24 = .ok (.iand, 1) := by decide +kernel
theorem d1_25 : decode method_3_code 25 = .ok (.i2c, 1) := by decide +kernel
theorem d1_26 : decode method_3_code 26 = .ok (.ireturn, 1) := by decide +kernel
theorem ef_I_2 (m : MethodId) (x0 : Int32) : entryFrame m #[(.int x0)] 2 = mkF m 0 #[.val (.int x0), .unset] [] := by first | (simp [entryFrame, mkF, argsToLocals, Value.category]; done) | rfl
def own_Qdr (h0 : Heap) (n0 : Nat) (v : Option Value) (h : Heap) (L : List Loc) : Prop := ∃ x : Int32, v = some (.int x) ∧ Fr n0 L ∧ own_ch x ∧ h = h0
theorem rmDr (l : Launch) (Z : State) (a0 : Array Value) (hw : own_W a0 Z) (ws : List Jvm.Cond) (p1 : Int32) (h0 : Heap) (n0 : Nat) (Z0 : n0 ≤ h0.size)  : own_Met l Z mn0 method_3_code 2 (some .char) ws (own_R 0 0 0 0) #[(.int p1)] h0 (own_Qdr h0 n0) := by
  refine own_enter n0 (plainFor_of_name own_pn1) (fun m => ef_I_2 m p1 ) (fun p e s m below meth c s₁ hx hby hlk hml hret hown hnm hZ X0 e0 N0 => ?_)
  show own_Fin _ _ _ _ _ _ _ s₁ (mkF m 0 #[Iv p1, Uv] [])
  refine own_by (fun _ k => XS.iloadN X0.here hx rfl (hb hby d1_0) rfl (XS.iconst X0.here hx rfl (hb hby d1_1) (XS.iand X0.here hx rfl (hb hby d1_2) rfl (XS.istoreN X0.here hx rfl (hb hby d1_3) rfl (l' := #[Iv p1, Iv (p1 &&& (3 : Int32))]) rfl (XS.iloadN X0.here hx rfl (hb hby d1_4) rfl k))))) ?_
  show own_Fin _ _ _ _ _ _ _ s₁ (mkF m 5 #[Iv p1, Iv (p1 &&& (3 : Int32))] [(.int (p1 &&& (3 : Int32)))])
  by_cases hc5_1 : (p1 &&& (3 : Int32)) = (0 : Int32)
  · show own_Fin _ _ _ _ _ _ _ s₁ (mkF m 5 #[Iv p1, Iv (p1 &&& (3 : Int32))] [(.int (p1 &&& (3 : Int32)))])
    refine own_by (fun _ k => XS.ifNo X0.here hx rfl (hb hby d1_5) rfl ((if0 _ _).trans (teq hc5_1).2) (XS.bipush X0.here hx rfl (hb hby d1_8) k)) ?_
    exact own_retZ X0 hx hlk (t := .char) hret (by simp) (hb hby d1_10) ⟨_, rfl, N0, own_chn _, e0⟩ (by decide) (by decide)
  · show own_Fin _ _ _ _ _ _ _ s₁ (mkF m 5 #[Iv p1, Iv (p1 &&& (3 : Int32))] [(.int (p1 &&& (3 : Int32)))])
    refine own_by (fun _ k => XS.ifYes X0.here hx rfl (pc0 := 5) (pc' := 11) rfl (hb hby d1_5) rfl ((if0 _ _).trans (feq hc5_1).2) (by decide) (by decide) (XS.iloadN X0.here hx rfl (hb hby d1_11) rfl (XS.iconst X0.here hx rfl (hb hby d1_12) k))) ?_
    show own_Fin _ _ _ _ _ _ _ s₁ (mkF m 13 #[Iv p1, Iv (p1 &&& (3 : Int32))] [(.int 1), (.int (p1 &&& (3 : Int32)))])
    by_cases hc13_2 : (p1 &&& (3 : Int32)) = (1 : Int32)
    · show own_Fin _ _ _ _ _ _ _ s₁ (mkF m 13 #[Iv p1, Iv (p1 &&& (3 : Int32))] [(.int 1), (.int (p1 &&& (3 : Int32)))])
      refine own_by (fun _ k => XS.icmpNo X0.here hx rfl (hb hby d1_13) rfl (teq hc13_2).2 (XS.bipush X0.here hx rfl (hb hby d1_16) k)) ?_
      exact own_retZ X0 hx hlk (t := .char) hret (by simp) (hb hby d1_18) ⟨_, rfl, N0, own_chn _, e0⟩ (by decide) (by decide)
    · show own_Fin _ _ _ _ _ _ _ s₁ (mkF m 13 #[Iv p1, Iv (p1 &&& (3 : Int32))] [(.int 1), (.int (p1 &&& (3 : Int32)))])
      refine own_by (fun _ k => XS.icmpYes X0.here hx rfl (pc0 := 13) (pc' := 19) rfl (hb hby d1_13) rfl (feq hc13_2).2 (by decide) (by decide) (XS.iloadN X0.here hx rfl (hb hby d1_19) rfl (XS.iconst X0.here hx rfl (hb hby d1_20) (XS.iushr X0.here hx rfl (hb hby d1_21) rfl (X0.ldcInt hx hown (own_m hZ hw 4) (g := (mkF m 22 #[Iv p1, Iv (p1 &&& (3 : Int32))] [(.int ((p1.toUInt32 >>> ((2 : Int32) &&& 31).toUInt32).toInt32))])) rfl (hb hby d1_22) _ (XS.iand X0.here hx rfl (hb hby d1_24) rfl (XS.i2c X0.here hx rfl (hb hby d1_25) rfl k))))))) ?_
      exact own_retZ X0 hx hlk (t := .char) hret (by simp) (hb hby d1_26) ⟨_, rfl, N0, own_chn _, e0⟩ (by decide) (by decide)
theorem d18_0 : decode method_4_code 0 = .ok (.iload_n 0, 1) := by decide +kernel
theorem d18_1 : decode method_4_code 1 = .ok (.bipush 42, 2) := by decide +kernel
theorem d18_3 : decode method_4_code 3 = .ok (.if_icmp .eq 9, 3) := by decide +kernel
theorem d18_12 : decode method_4_code 12 = .ok (.iconst 1, 1) := by decide +kernel
theorem d18_13 : decode method_4_code 13 = .ok (.goto 4, 3) := by decide +kernel
theorem d18_17 : decode method_4_code 17 = .ok (.ireturn, 1) := by decide +kernel
theorem d18_6 : decode method_4_code 6 = .ok (.iload_n 0, 1) := by decide +kernel
theorem d18_7 : decode method_4_code 7 = .ok (.bipush 63, 2) := by decide +kernel
theorem d18_9 : decode method_4_code 9 = .ok (.if_icmp .ne 7, 3) := by decide +kernel
theorem d18_16 : decode method_4_code 16 = .ok (.iconst 0, 1) := by decide +kernel
theorem ef_I_1 (m : MethodId) (x0 : Int32) : entryFrame m #[(.int x0)] 1 = mkF m 0 #[.val (.int x0)] [] := by first | (simp [entryFrame, mkF, argsToLocals, Value.category]; done) | rfl
def own_QrmWi (p1 : Int32) (h0 : Heap) (n0 : Nat) (v : Option Value) (h : Heap) (L : List Loc) : Prop := v = some (.int (own_w p1)) ∧ Fr n0 L ∧ h = h0
theorem rmWi (l : Launch) (Z : State) (a0 : Array Value) (hw : own_W a0 Z) (ws : List Jvm.Cond) (p1 : Int32) (h0 : Heap) (n0 : Nat) (Z0 : n0 ≤ h0.size)  : own_Met l Z mn1 method_4_code 1 (some .boolean) ws (own_R 0 0 0 0) #[(.int p1)] h0 (own_QrmWi p1 h0 n0) := by
  refine own_enter n0 (plainFor_of_name own_pn1) (fun m => ef_I_1 m p1 ) (fun p e s m below meth c s₁ hx hby hlk hml hret hown hnm hZ X0 e0 N0 => ?_)
  show own_Fin _ _ _ _ _ _ _ s₁ (mkF m 0 #[Iv p1] [])
  refine own_by (fun _ k => XS.iloadN X0.here hx rfl (hb hby d18_0) rfl (XS.bipush X0.here hx rfl (hb hby d18_1) k)) ?_
  show own_Fin _ _ _ _ _ _ _ s₁ (mkF m 3 #[Iv p1] [(.int 42), (.int p1)])
  by_cases hc3_3 : p1 = (42 : Int32)
  · show own_Fin _ _ _ _ _ _ _ s₁ (mkF m 3 #[Iv p1] [(.int 42), (.int p1)])
    refine own_by (fun _ k => XS.icmpYes X0.here hx rfl (pc0 := 3) (pc' := 12) rfl (hb hby d18_3) rfl (teq hc3_3).1 (by decide) (by decide) (XS.iconst X0.here hx rfl (hb hby d18_12) (XS.goto X0.here hx rfl (pc0 := 13) (pc' := 17) rfl (hb hby d18_13) (by decide) (by decide) k))) ?_
    exact own_retZ X0 hx hlk (t := .boolean) hret (by simp) (hb hby d18_17) ⟨own_vi (by show (1 : Int32) = _; first | (simp only [own_w, if_pos hc3_3]; done) | (simp only [own_w, if_pos hc3_3]; decide) | simp [own_w, hc3_3]), N0, e0⟩ (by decide) (by decide)
  · show own_Fin _ _ _ _ _ _ _ s₁ (mkF m 3 #[Iv p1] [(.int 42), (.int p1)])
    refine own_by (fun _ k => XS.icmpNo X0.here hx rfl (hb hby d18_3) rfl (feq hc3_3).1 (XS.iloadN X0.here hx rfl (hb hby d18_6) rfl (XS.bipush X0.here hx rfl (hb hby d18_7) k))) ?_
    show own_Fin _ _ _ _ _ _ _ s₁ (mkF m 9 #[Iv p1] [(.int 63), (.int p1)])
    by_cases hc9_4 : p1 = (63 : Int32)
    · show own_Fin _ _ _ _ _ _ _ s₁ (mkF m 9 #[Iv p1] [(.int 63), (.int p1)])
      refine own_by (fun _ k => XS.icmpNo X0.here hx rfl (hb hby d18_9) rfl (teq hc9_4).2 (XS.iconst X0.here hx rfl (hb hby d18_12) (XS.goto X0.here hx rfl (pc0 := 13) (pc' := 17) rfl (hb hby d18_13) (by decide) (by decide) k))) ?_
      exact own_retZ X0 hx hlk (t := .boolean) hret (by simp) (hb hby d18_17) ⟨own_vi (by show (1 : Int32) = _; first | (simp only [own_w, if_neg hc3_3, if_pos hc9_4]; done) | (simp only [own_w, if_neg hc3_3, if_pos hc9_4]; decide) | simp [own_w, hc3_3, hc9_4]), N0, e0⟩ (by decide) (by decide)
    · show own_Fin _ _ _ _ _ _ _ s₁ (mkF m 9 #[Iv p1] [(.int 63), (.int p1)])
      refine own_by (fun _ k => XS.icmpYes X0.here hx rfl (pc0 := 9) (pc' := 16) rfl (hb hby d18_9) rfl (feq hc9_4).2 (by decide) (by decide) (XS.iconst X0.here hx rfl (hb hby d18_16) k)) ?_
      exact own_retZ X0 hx hlk (t := .boolean) hret (by simp) (hb hby d18_17) ⟨own_vi (by show (0 : Int32) = _; first | (simp only [own_w, if_neg hc3_3, if_neg hc9_4]; done) | (simp only [own_w, if_neg hc3_3, if_neg hc9_4]; decide) | simp [own_w, hc3_3, hc9_4]), N0, e0⟩ (by decide) (by decide)
theorem own_pn34 : plainName "java/lang/String" = true := by first | (simp [plainName, overriddenIn]; done) | decide +kernel
theorem d3_0 : decode jdk_42_method_149_code 0 = .ok (.aload_n 0, 1) := by decide +kernel
theorem d3_1 : decode jdk_42_method_149_code 1 = .ok (.invokespecial 1, 3) := by decide +kernel
theorem d3_4 : decode jdk_42_method_149_code 4 = .ok (.iload_n 3, 1) := by decide +kernel
theorem d3_5 : decode jdk_42_method_149_code 5 = .ok (.ifCond .ne 22, 3) := by decide +kernel
theorem d3_8 : decode jdk_42_method_149_code 8 = .ok (.aload_n 0, 1) := by decide +kernel
theorem d3_9 : decode jdk_42_method_149_code 9 = .ok (.ldc 7, 2) := by decide +kernel
theorem d3_11 : decode jdk_42_method_149_code 11 = .ok (.getfield 9, 3) := by decide +kernel
theorem d3_14 : decode jdk_42_method_149_code 14 = .ok (.putfield 9, 3) := by decide +kernel
theorem d3_17 : decode jdk_42_method_149_code 17 = .ok (.aload_n 0, 1) := by decide +kernel
theorem d3_18 : decode jdk_42_method_149_code 18 = .ok (.ldc 7, 2) := by decide +kernel
theorem d3_20 : decode jdk_42_method_149_code 20 = .ok (.getfield 15, 3) := by decide +kernel
theorem d3_23 : decode jdk_42_method_149_code 23 = .ok (.putfield 15, 3) := by decide +kernel
theorem d3_26 : decode jdk_42_method_149_code 26 = .ok (.return_, 1) := by decide +kernel
theorem ef_RRIIN_6 (m : MethodId) (x0 : Addr) (x1 : Addr) (x2 : Int32) (x3 : Int32) : entryFrame m #[(.ref x0), (.ref x1), (.int x2), (.int x3), .null] 6 = mkF m 0 #[.val (.ref x0), .val (.ref x1), .val (.int x2), .val (.int x3), .val .null, .unset] [] := by first | (simp [entryFrame, mkF, argsToLocals, Value.category]; done) | rfl
def own_Qsie (Z : State) (a1 : Addr)  (h0 : Heap) (n0 : Nat) (v : Option Value) (h : Heap) (L : List Loc) : Prop := ∃ (b : Addr) (k : ClassId), v = none ∧ Fr n0 L ∧ Keep h0 h [a1] ∧ Fld Z h a1 "java/lang/String" "coder" "B" (.int (0 : Int32)) ∧ Fld Z h a1 "java/lang/String" "value" "[B" (.ref b) ∧ Arv Z h b k .byte (0 : Int32) [] (.int (0 : Int32))
set_option maxRecDepth 65536 in
set_option maxHeartbeats 40000000 in
theorem rmSIe (l : Launch) (Z : State) (a0 : Array Value) (hw : own_W a0 Z) (ws : List Jvm.Cond) (a1 a2 : Addr) (h0 : Heap) (n0 : Nat) (Z0 : n0 ≤ h0.size) (E_a1 : Exa Z h0 a1 "java/lang/String") (F_v : Fld Z h0 a1 "java/lang/String" "value" "[B" .null) (F_c : Fld Z h0 a1 "java/lang/String" "coder" "B" (.int (0 : Int32))) (g_a1 : n0 ≤ a1) :
    MetFree l mn2 (head1 (Jvm.Cond.code mn2 jdk_42_method_149_code 6 none :: ws) (own_R 1 4 8 14)) (fun a U => a = #[(.ref a1), (.ref a2), (.int (0 : Int32)), (.int (0 : Int32)), .null] ∧ Z.Warmed39 U.vm ∧ U.heap = h0 ∧ CHv Z consts_1 U.vm h0) (fun _ _ _ _ _ => True) (fun _ U o U' => ∃ v L, o = .returned v ∧ own_Qsie Z a1 h0 n0 v U'.heap L ∧ CHr Z consts_1 U.vm U.heap U'.vm U'.heap ∧ ReturnedEndW U o U' L (own_R 1 4 8 14).cells (own_R 1 4 8 14).slots) := by
  refine MetFree.of_bodySF (plainFor_of_name own_pn34) hisR ?_
  intro p e s m args below meth c s₁ Bd hml0 hP hK
  obtain ⟨rfl, hZ, hh, hCH0⟩ := hP
  have hx := Bd.exec
  have hby := Bd.bytes
  have hlk := Bd.notSynchronized
  have hml : c.maxLocals = 6 := hml0
  have hown : s.vm.findClass "java/lang/String" = some m.cls := findClass_of_methodNamed Bd.named
  have hnm := (name_of_methodNamed Bd.named Bd.method).1
  have X0 : Stand p l e (own_R 1 4 8 14) (s.setVm s.vm) m #[(.ref a1), (.ref a2), (.int (0 : Int32)), (.int (0 : Int32)), .null] below meth c s₁ [] 0 0 := Stand.of_body Bd
  have e0 : s₁.heap = h0 := by rw [← hh, Bd.state]; rfl
  have N0 := Fr.nil n0
  refine own_startH (Q := own_Qsie Z a1 h0 n0) (C := (own_R 1 4 8 14).cells) (N := (own_R 1 4 8 14).slots) hh (ef_RRIIN_6 m a1 a2 (0 : Int32) (0 : Int32) ) ?_
  have hS0 : s.Since s.vm h0.size := (State.WarmedH.refl s).since _
  have hk0 : h0.size ≤ h0.size := Nat.le_refl _
  replace hown : (s.setVm s.vm).vm.findClass "java/lang/String" = some m.cls := hown
  replace hZ : Z.Warmed39 (s.setVm s.vm).vm := hZ
  have CH0 : CHr Z consts_1 s.vm h0 s.vm h0 := CHr.refl hCH0
  show own_FinH _ _ _ _ _ _ _ _ _ _ s₁ (mkF m 0 #[Rv a1, Rv a2, Iv 0, Iv 0, Nv, Uv] [])
  have Kp5 : Keep h0 h0 [a1] := Keep.refl h0 _
  obtain ⟨T6, X6, e6, st6⟩ := initO X0 hx hZ hown (own_g hw 17) (own_g hw 18) (own_g hw 19) e0 (g := (mkF m 1 #[Rv a1, Rv a2, Iv 0, Iv 0, Nv, Uv] [(.ref a1)])) rfl (by rw [hml]; rfl) rfl (hb hby d3_1) (by decide) (W := 0) (own_z rfl) (by decide)
  obtain ⟨b7, T7, h7, k7, v7, kk7, X7, e7, E7, hS7, hkE7, hZ7, hown7, Eb7, Cb7, Vb7, Ab7, -, -, hCr7, -, Sn7, st7⟩ := ldcCH (s := s) (vm0 := s.vm) X6 hx hZ hown (own_g hw 20) (own_wS hw) e6 hS0 hk0 (own_EW hw) (by decide) CH0.1 (vs := []) (z := (0 : Int32)) (by decide) (by decide) (by decide) (g := (mkF m 9 #[Rv a1, Rv a2, Iv 0, Iv 0, Nv, Uv] [(.ref a1)])) rfl (hb hby d3_9) (n := 0) (by decide) (by decide) (by decide) (by decide)
  have sf8_a1 : Safe Z consts_1 T7.vm h7 a1 := CHr.safe hCr7 E_a1.lt (own_safe hZ.alike E_a1 F_v)
  have CHs8 : CHr Z consts_1 s.vm h0 T7.vm h7 := CH0.trans (hCr7)
  replace hZ := hZ7
  replace hown := hown7
  have Zs7 : n0 ≤ h7.size := Nat.le_trans Z0 E7.1
  have Kp7 : Keep h0 h7 [a1] := Kp5.ext E7
  have f9_0 : Exa Z h7 a1 "java/lang/String" := E_a1.ext E7
  have f9_1 : Fld Z h7 a1 "java/lang/String" "value" "[B" .null := F_v.ext E7
  have f9_2 : Fld Z h7 a1 "java/lang/String" "coder" "B" (.int (0 : Int32)) := F_c.ext E7
  have ne7_a1 := Sn7 a1 sf8_a1
  obtain ⟨T10, X10, e10, st10⟩ := getF X7 hx hZ hown (host := "") (Or.inl (own_g hw 26)) Via.refl e7 Vb7 (g := (mkF m 11 #[Rv a1, Rv a2, Iv 0, Iv 0, Nv, Uv] [(.ref b7), (.ref a1)])) rfl rfl (hb hby d3_11)
  obtain ⟨T11, h11, X11, e11, W11, st11⟩ := putF X10 hx hZ hown (host := "") (Or.inl (own_g hw 26)) Via.refl e10 f9_1 f9_0 (Or.inr ⟨(own_g hw 22), rfl, hnm⟩) (own_g hw 7) (ty := (.array .byte)) (by decide) rfl rfl (g := (mkF m 14 #[Rv a1, Rv a2, Iv 0, Iv 0, Nv, Uv] [(.ref v7), (.ref a1)])) rfl rfl (hb hby d3_14)
  have Fw11 : Fld Z h11 a1 "java/lang/String" "value" "[B" (.ref v7) := f9_1.same W11
  have Kp11 : Keep h0 h11 [a1] := Kp7.wr W11 (Or.inl (List.mem_of_getElem? (i := 0) rfl))
  have Zs11 : n0 ≤ h11.size := Nat.le_trans Zs7 (Keep.of_wr W11).1
  have N11 := Fr.snoc X11 N0 g_a1
  have hkE11 : _ ≤ h11.size := Nat.le_trans hkE7 (Keep.of_wr W11).1
  have sf12_a1 : Safe Z consts_1 T7.vm h11 a1 := Safe.wr W11 sf8_a1 CHs8.1 sf8_a1
  have CHs12 : CHr Z consts_1 s.vm h0 T7.vm h11 := CHs8.trans (CHr.wr W11 sf8_a1 CHs8.1)
  have f13_0 : Exa Z h11 a1 "java/lang/String" := f9_0.wr W11
  have f13_2 : Fld Z h11 a1 "java/lang/String" "coder" "B" (.int (0 : Int32)) := f9_2.other W11 (Or.inr (slot_ne (Or.inr (own_g hw 23)) (Or.inr (own_g hw 22)) (by decide) (t := .byte) (t' := (.array .byte)) (by decide) (by decide)))
  have f13_4 : Exa Z h11 b7 "java/lang/String" := Eb7.wr W11
  have f13_5 : Fld Z h11 b7 "java/lang/String" "coder" "B" (.int (0 : Int32)) := Cb7.other W11 (Or.inl (Ne.symm ne7_a1.1))
  have f13_6 : Fld Z h11 b7 "java/lang/String" "value" "[B" (.ref v7) := Vb7.other W11 (Or.inl (Ne.symm ne7_a1.1))
  have f13_7 : Arv Z h11 v7 kk7 .byte (0 : Int32) [] (.int (0 : Int32)) := Ab7.other W11 (Ne.symm ne7_a1.2)
  obtain ⟨b14, T14, h14, k14, v14, kk14, X14, e14, E14, hS14, hkE14, hZ14, hown14, Eb14, Cb14, Vb14, Ab14, -, -, hCr14, -, Sn14, st14⟩ := ldcCH (s := s) (vm0 := T7.vm) X11 hx hZ hown (own_g hw 20) (own_wS hw) e11 hS7 hkE11 (own_EW hw) (by decide) CHs12.1 (vs := []) (z := (0 : Int32)) (by decide) (by decide) (by decide) (g := (mkF m 18 #[Rv a1, Rv a2, Iv 0, Iv 0, Nv, Uv] [(.ref a1)])) rfl (hb hby d3_18) (n := 0) (by decide) (by decide) (by decide) (by decide)
  have sf15_a1 : Safe Z consts_1 T14.vm h14 a1 := CHr.safe hCr14 f13_0.lt sf12_a1
  have CHs15 : CHr Z consts_1 s.vm h0 T14.vm h14 := CHs12.trans (hCr14)
  replace hZ := hZ14
  replace hown := hown14
  have Zs14 : n0 ≤ h14.size := Nat.le_trans Zs11 E14.1
  have Kp14 : Keep h0 h14 [a1] := Kp11.ext E14
  have f16_0 : Exa Z h14 a1 "java/lang/String" := f13_0.ext E14
  have f16_1 : Fld Z h14 a1 "java/lang/String" "coder" "B" (.int (0 : Int32)) := f13_2.ext E14
  have f16_3 : Exa Z h14 b7 "java/lang/String" := f13_4.ext E14
  have f16_4 : Fld Z h14 b7 "java/lang/String" "coder" "B" (.int (0 : Int32)) := f13_5.ext E14
  have f16_5 : Fld Z h14 b7 "java/lang/String" "value" "[B" (.ref v7) := f13_6.ext E14
  have f16_6 : Arv Z h14 v7 kk7 .byte (0 : Int32) [] (.int (0 : Int32)) := f13_7.ext E14
  have f16_7 : Fld Z h14 a1 "java/lang/String" "value" "[B" (.ref v7) := Fw11.ext E14
  have ne14_a1 := Sn14 a1 sf15_a1
  obtain ⟨T17, X17, e17, st17⟩ := getF X14 hx hZ hown (host := "") (Or.inl (own_g hw 27)) Via.refl e14 Cb14 (g := (mkF m 20 #[Rv a1, Rv a2, Iv 0, Iv 0, Nv, Uv] [(.ref b14), (.ref a1)])) rfl rfl (hb hby d3_20)
  refine own_byH (fun _ k => XS.aloadN X0.here hx rfl (hb hby d3_0) rfl rfl (st6 _ (XS.iloadN X6.here hx rfl (hb hby d3_4) rfl (XS.ifNo X6.here hx rfl (hb hby d3_5) rfl ((if0 _ _).trans (teq (by decide : (0 : Int32) = (0 : Int32))).2) (XS.aloadN X6.here hx rfl (hb hby d3_8) rfl rfl (st7 _ (st10 _ (st11 _ (XS.aloadN X11.here hx rfl (hb hby d3_17) rfl rfl (st14 _ k)))))))))) ?_
  show own_FinH _ _ _ _ _ _ _ _ _ _ T14 (mkF m 20 #[Rv a1, Rv a2, Iv 0, Iv 0, Nv, Uv] [(.ref b14), (.ref a1)])
  obtain ⟨T18, h18, X18, e18, W18, st18⟩ := putFN X17 hx hZ hown (own_g hw 27) Via.refl e17 f16_1 f16_0 (Or.inr ⟨(own_g hw 23), rfl, hnm⟩) (own_g hw 7) (ty := .byte) (v' := (.int (0 : Int32))) (by decide) rfl (by decide) (g := (mkF m 23 #[Rv a1, Rv a2, Iv 0, Iv 0, Nv, Uv] [(.int 0), (.ref a1)])) rfl rfl (hb hby d3_23)
  have Fw18 : Fld Z h18 a1 "java/lang/String" "coder" "B" (.int (0 : Int32)) := f16_1.same W18
  have Kp18 : Keep h0 h18 [a1] := Kp14.wr W18 (Or.inl (List.mem_of_getElem? (i := 0) rfl))
  have Zs18 : n0 ≤ h18.size := Nat.le_trans Zs14 (Keep.of_wr W18).1
  have N18 := Fr.snoc X18 N11 g_a1
  have hkE18 : _ ≤ h18.size := Nat.le_trans hkE14 (Keep.of_wr W18).1
  have sf19_a1 : Safe Z consts_1 T14.vm h18 a1 := Safe.wr W18 sf15_a1 CHs15.1 sf15_a1
  have CHs19 : CHr Z consts_1 s.vm h0 T14.vm h18 := CHs15.trans (CHr.wr W18 sf15_a1 CHs15.1)
  have f20_0 : Exa Z h18 a1 "java/lang/String" := f16_0.wr W18
  have f20_3 : Exa Z h18 b7 "java/lang/String" := f16_3.wr W18
  have f20_4 : Fld Z h18 b7 "java/lang/String" "coder" "B" (.int (0 : Int32)) := f16_4.other W18 (Or.inl (Ne.symm ne7_a1.1))
  have f20_5 : Fld Z h18 b7 "java/lang/String" "value" "[B" (.ref v7) := f16_5.other W18 (Or.inl (Ne.symm ne7_a1.1))
  have f20_6 : Arv Z h18 v7 kk7 .byte (0 : Int32) [] (.int (0 : Int32)) := f16_6.other W18 (Ne.symm ne7_a1.2)
  have f20_7 : Fld Z h18 a1 "java/lang/String" "value" "[B" (.ref v7) := f16_7.other W18 (Or.inr (slot_ne (Or.inr (own_g hw 22)) (Or.inr (own_g hw 23)) (by decide) (t := (.array .byte)) (t' := .byte) (by decide) (by decide)))
  have f20_8 : Exa Z h18 b14 "java/lang/String" := Eb14.wr W18
  have f20_9 : Fld Z h18 b14 "java/lang/String" "coder" "B" (.int (0 : Int32)) := Cb14.other W18 (Or.inl (Ne.symm ne14_a1.1))
  have f20_10 : Fld Z h18 b14 "java/lang/String" "value" "[B" (.ref v14) := Vb14.other W18 (Or.inl (Ne.symm ne14_a1.1))
  have f20_11 : Arv Z h18 v14 kk14 .byte (0 : Int32) [] (.int (0 : Int32)) := Ab14.other W18 (Ne.symm ne14_a1.2)
  have CHe21 : CHr Z consts_1 s.vm h0 T18.vm h18 := CHs19.trans (CHv.at X18 hZ (own_EW hw) CHs19.1)
  refine own_byH (fun _ k => st17 _ (st18 _ k)) ?_
  exact own_retVH X18 hS14 (by rw [e18]; exact hkE18) (by rw [e18]; exact CHe21) hx hlk Bd.returns (hb hby d3_26) (by rw [e18]; exact ⟨_, _, rfl, N18, Kp18, Fw18, f20_7, f20_6⟩) (by decide) (by decide)
theorem d2_0 : decode jdk_42_method_3_code 0 = .ok (.aload_n 0, 1) := by decide +kernel
theorem d2_1 : decode jdk_42_method_3_code 1 = .ok (.aload_n 1, 1) := by decide +kernel
theorem d2_2 : decode jdk_42_method_3_code 2 = .ok (.iconst 0, 1) := by decide +kernel
theorem d2_3 : decode jdk_42_method_3_code 3 = .ok (.aload_n 1, 1) := by decide +kernel
theorem d2_4 : decode jdk_42_method_3_code 4 = .ok (.arraylength, 1) := by decide +kernel
theorem d2_5 : decode jdk_42_method_3_code 5 = .ok (.aconst_null, 1) := by decide +kernel
theorem d2_6 : decode jdk_42_method_3_code 6 = .ok (.invokespecial 27, 3) := by decide +kernel
theorem own_pd56 : parseMethodDescriptor "([CIILjava/lang/Void;)V" = some ⟨[(.array .char), .int, .int, (.object "java/lang/Void")], none⟩ := by decide +kernel
theorem d2_9 : decode jdk_42_method_3_code 9 = .ok (.return_, 1) := by decide +kernel
theorem ef_RR_2 (m : MethodId) (x0 : Addr) (x1 : Addr) : entryFrame m #[(.ref x0), (.ref x1)] 2 = mkF m 0 #[.val (.ref x0), .val (.ref x1)] [] := by first | (simp [entryFrame, mkF, argsToLocals, Value.category]; done) | rfl
set_option maxRecDepth 65536 in
set_option maxHeartbeats 40000000 in
theorem rmSCe (l : Launch) (Z : State) (a0 : Array Value) (hw : own_W a0 Z) (ws : List Jvm.Cond) (a1 a2 : Addr) (kc : ClassId) (h0 : Heap) (n0 : Nat) (Z0 : n0 ≤ h0.size) (E_a1 : Exa Z h0 a1 "java/lang/String") (F_v : Fld Z h0 a1 "java/lang/String" "value" "[B" .null) (F_c : Fld Z h0 a1 "java/lang/String" "coder" "B" (.int (0 : Int32))) (g_a1 : n0 ≤ a1) (V2 : Arv Z h0 a2 kc .char (0 : Int32) [] (.int (0 : Int32))) :
    MetFree l mn3 (head1 (Jvm.Cond.code mn3 jdk_42_method_3_code 2 none :: ws) (own_R 2 4 8 40)) (fun a U => a = #[(.ref a1), (.ref a2)] ∧ Z.Warmed39 U.vm ∧ U.heap = h0 ∧ CHv Z consts_1 U.vm h0) (fun _ _ _ _ _ => True) (fun _ U o U' => ∃ v L, o = .returned v ∧ own_Qsie Z a1 h0 n0 v U'.heap L ∧ CHr Z consts_1 U.vm U.heap U'.vm U'.heap ∧ ReturnedEndW U o U' L (own_R 2 4 8 40).cells (own_R 2 4 8 40).slots) := by
  refine MetFree.of_bodySF (plainFor_of_name own_pn34) hisR ?_
  intro p e s m args below meth c s₁ Bd hml0 hP hK
  obtain ⟨rfl, hZ, hh, hCH0⟩ := hP
  have hx := Bd.exec
  have hby := Bd.bytes
  have hlk := Bd.notSynchronized
  have hml : c.maxLocals = 2 := hml0
  have hown : s.vm.findClass "java/lang/String" = some m.cls := findClass_of_methodNamed Bd.named
  have hnm := (name_of_methodNamed Bd.named Bd.method).1
  have X0 : Stand p l e (own_R 2 4 8 40) (s.setVm s.vm) m #[(.ref a1), (.ref a2)] below meth c s₁ [] 0 0 := Stand.of_body Bd
  have e0 : s₁.heap = h0 := by rw [← hh, Bd.state]; rfl
  have N0 := Fr.nil n0
  refine own_startH (Q := own_Qsie Z a1 h0 n0) (C := (own_R 2 4 8 40).cells) (N := (own_R 2 4 8 40).slots) hh (ef_RR_2 m a1 a2 ) ?_
  have hS0 : s.Since s.vm h0.size := (State.WarmedH.refl s).since _
  have hk0 : h0.size ≤ h0.size := Nat.le_refl _
  replace hown : (s.setVm s.vm).vm.findClass "java/lang/String" = some m.cls := hown
  replace hZ : Z.Warmed39 (s.setVm s.vm).vm := hZ
  have CH0 : CHr Z consts_1 s.vm h0 s.vm h0 := CHr.refl hCH0
  show own_FinH _ _ _ _ _ _ _ _ _ _ s₁ (mkF m 0 #[Rv a1, Rv a2] [])
  have Kp22 : Keep h0 h0 [a1] := Keep.refl h0 _
  obtain ⟨cl23, Ar23, -, S23, M23, -, -⟩ := id V2
  refine own_byH (fun _ k => XS.aloadN X0.here hx rfl (hb hby d2_0) rfl rfl (XS.aloadN X0.here hx rfl (hb hby d2_1) rfl rfl (XS.iconst X0.here hx rfl (hb hby d2_2) (XS.aloadN X0.here hx rfl (hb hby d2_3) rfl rfl (X0.arraylength hx (by rw [e0]; exact Ar23.1) (State.isArrayOf_alike hZ.alike Ar23.2.1) (g := (mkF m 4 #[Rv a1, Rv a2] [(.ref a2), (.int 0), (.ref a2), (.ref a1)])) rfl rfl (hb hby d2_4) _ k))))) ?_
  rw [len_of S23 M23]
  show own_FinH _ _ _ _ _ _ _ _ _ _ s₁ (mkF m 5 #[Rv a1, Rv a2] [(.int 0), (.int 0), (.ref a2), (.ref a1)])
  obtain ⟨_, _, ⟨T24, L24, k24, n24⟩, -, X24, hSn24, hgr24, ⟨Lc24, hQ24, l24, y24, z24, hCr24⟩, st24⟩ := X0.specialBackS hx (y := mn2) rfl hown (own_m hZ hw 13) (own_m hZ hw 14) (own_m hZ hw 16) (by decide) (backOfSH (W := 0) (s := s) (vm0 := s.vm) (rmSIe l Z a0 hw [] a1 a2 h0 n0 Z0 E_a1 F_v F_c g_a1) hZ (own_g hw 16) (own_g hw 8) (by decide) (by decide) (own_EW hw) CH0.1) (g := (mkF m 6 #[Rv a1, Rv a2] [.null, (.int 0), (.int 0), (.ref a2), (.ref a1)])) rfl (by rw [hml]; rfl) (Steps.refl _) (a := a1) (argsL := [(.ref a2), (.int (0 : Int32)), (.int (0 : Int32)), .null]) (rest := []) (lenOf own_pd56 rfl) rfl (own_z rfl) (hb hby d2_6) (fun _ _ => ⟨rfl, e0, (by decide : 0 + 4 ≤ _), (by decide : 0 + 8 ≤ _)⟩)
  dsimp only [Pt.U, Pt.locs, Pt.cells, Pt.slots] at X24 l24 y24 z24 st24 hQ24 hSn24 hgr24
  subst l24 y24 z24
  obtain ⟨b24, k24, rfl, Nq24, K24, Gc24, Gv24, V24⟩ := hQ24
  have N24 := Fr.app N0 Nq24
  have hS24 : s.Since T24.vm T24.heap.size := foldS (s := s) hS0 (by rw [e0]; exact hk0) hSn24 hgr24
  have hZ24 : Z.Warmed39 (s.setVm T24.vm).vm := State.Warmed39.trans (t := s.setVm s.vm) hZ hSn24.1
  have hown24 : (s.setVm T24.vm).vm.findClass "java/lang/String" = some m.cls := by rw [show (s.setVm T24.vm).vm = T24.vm from rfl, hSn24.1.alike.findClass]; exact hown
  replace hCr24 : CHr Z consts_1 s.vm h0 T24.vm T24.heap := hCr24
  have CHs25 : CHr Z consts_1 s.vm h0 T24.vm T24.heap := CH0.trans (hCr24)
  replace hZ := hZ24
  replace hown := hown24
  replace X24 : Stand p l e (own_R 2 4 8 40) (s.setVm T24.vm) m #[(.ref a1), (.ref a2)] below meth c T24 _ _ _ := X24
  have hkE24 : T24.heap.size ≤ T24.heap.size := Nat.le_refl _
  have Zs24 : n0 ≤ T24.heap.size := Nat.le_trans Z0 K24.1
  have Kp24 : Keep h0 T24.heap [a1] := Kp22.trans K24 (allS (Or.inl (List.mem_of_getElem? (i := 0) rfl)) all0)
  have f26_0 : Exa Z T24.heap a1 "java/lang/String" := E_a1.keep K24
  have CHe27 : CHr Z consts_1 s.vm h0 T24.vm T24.heap := CHs25.trans (CHv.at X24 hZ (own_EW hw) CHs25.1)
  refine own_byH (fun _ k => XS.aconstNull X0.here hx rfl (hb hby d2_5) (st24.trans k)) ?_
  exact own_retVH X24 hS24 hkE24 CHe27 hx hlk Bd.returns (hb hby d2_9) ⟨_, _, rfl, N24, Kp24, Gc24, Gv24, V24⟩ (by decide) (by decide)
theorem own_pn58 : plainName "java/lang/StringUTF16" = true := by first | (simp [plainName, overriddenIn]; done) | decide +kernel
theorem d26_0 : decode jdk_52_method_3_code 0 = .ok (.iload_n 0, 1) := by decide +kernel
theorem d26_1 : decode jdk_52_method_3_code 1 = .ok (.ifCond .ge 11, 3) := by decide +kernel
theorem d26_12 : decode jdk_52_method_3_code 12 = .ok (.iload_n 0, 1) := by decide +kernel
theorem d26_13 : decode jdk_52_method_3_code 13 = .ok (.ldc 20, 2) := by decide +kernel
theorem d26_15 : decode jdk_52_method_3_code 15 = .ok (.if_icmp .lt 40, 3) := by decide +kernel
theorem d26_55 : decode jdk_52_method_3_code 55 = .ok (.iload_n 0, 1) := by decide +kernel
theorem d26_56 : decode jdk_52_method_3_code 56 = .ok (.iconst 1, 1) := by decide +kernel
theorem d26_57 : decode jdk_52_method_3_code 57 = .ok (.ishl, 1) := by decide +kernel
theorem d26_58 : decode jdk_52_method_3_code 58 = .ok (.ireturn, 1) := by decide +kernel
def own_QrmNBL2 (h0 : Heap) (n0 : Nat) (v : Option Value) (h : Heap) (L : List Loc) : Prop := v = some (.int (4 : Int32)) ∧ Fr n0 L ∧ h = h0
theorem rmNBL2 (l : Launch) (Z : State) (a0 : Array Value) (hw : own_W a0 Z) (ws : List Jvm.Cond)  (h0 : Heap) (n0 : Nat) (Z0 : n0 ≤ h0.size)  : own_Met l Z mn4 jdk_52_method_3_code 1 (some .int) ws (own_R 0 0 0 0) #[(.int (2 : Int32))] h0 (own_QrmNBL2 h0 n0) := by
  refine own_enter n0 (plainFor_of_name own_pn58) (fun m => ef_I_1 m (2 : Int32) ) (fun p e s m below meth c s₁ hx hby hlk hml hret hown hnm hZ X0 e0 N0 => ?_)
  show own_Fin _ _ _ _ _ _ _ s₁ (mkF m 0 #[Iv 2] [])
  refine own_by (fun _ k => XS.iloadN X0.here hx rfl (hb hby d26_0) rfl (XS.ifYes X0.here hx rfl (pc0 := 1) (pc' := 12) rfl (hb hby d26_1) rfl ((if0 _ _).trans (flt (by decide : ¬ ((2 : Int32) < (0 : Int32)))).2.1) (by decide) (by decide) (XS.iloadN X0.here hx rfl (hb hby d26_12) rfl (X0.ldcInt hx hown (own_m hZ hw 110) (g := (mkF m 13 #[Iv 2] [(.int 2)])) rfl (hb hby d26_13) _ (XS.icmpYes X0.here hx rfl (pc0 := 15) (pc' := 55) rfl (hb hby d26_15) rfl (tlt (by decide : (2 : Int32) < (1073741823 : Int32))).1 (by decide) (by decide) (XS.iloadN X0.here hx rfl (hb hby d26_55) rfl (XS.iconst X0.here hx rfl (hb hby d26_56) (XS.ishl X0.here hx rfl (hb hby d26_57) rfl k)))))))) ?_
  show own_Fin _ _ _ _ _ _ _ s₁ (mkF m 58 #[Iv 2] [(.int ((2 : Int32) <<< ((1 : Int32) &&& 31)))])
  rw [(by decide : ((2 : Int32) <<< ((1 : Int32) &&& 31)) = (4 : Int32))]
  show own_Fin _ _ _ _ _ _ _ s₁ (mkF m 58 #[Iv 2] [(.int 4)])
  exact own_retI X0 hx hlk hret (hb hby d26_58) ⟨rfl, N0, e0⟩ (by decide) (by decide)
theorem d25_0 : decode jdk_52_method_2_code 0 = .ok (.iload_n 0, 1) := by decide +kernel
theorem d25_1 : decode jdk_52_method_2_code 1 = .ok (.invokestatic 11, 3) := by decide +kernel
theorem own_pd70 : parseMethodDescriptor "(I)I" = some ⟨[.int], some .int⟩ := by decide +kernel
theorem d25_4 : decode jdk_52_method_2_code 4 = .ok (.newarray .byte, 2) := by decide +kernel
theorem d25_6 : decode jdk_52_method_2_code 6 = .ok (.areturn, 1) := by decide +kernel
def own_QNBF2 (Z : State) (h0 : Heap) (n0 : Nat) (v : Option Value) (h : Heap) (L : List Loc) : Prop := ∃ (a : Addr) (k : ClassId), v = some (.ref a) ∧ Fr n0 L ∧ Keep h0 h [] ∧ h0.size ≤ a ∧ Arv Z h a k .byte (4 : Int32) [(.int (0 : Int32)), (.int (0 : Int32)), (.int (0 : Int32)), (.int (0 : Int32))] (.int (0 : Int32))
theorem rmNBF2 (l : Launch) (Z : State) (a0 : Array Value) (hw : own_W a0 Z) (ws : List Jvm.Cond)  (h0 : Heap) (n0 : Nat) (Z0 : n0 ≤ h0.size)  : own_Met l Z mn5 jdk_52_method_2_code 1 (some (.array .byte)) ws (own_R 1 1 4 12) #[(.int (2 : Int32))] h0 (own_QNBF2 Z h0 n0) := by
  refine own_enter n0 (plainFor_of_name own_pn58) (fun m => ef_I_1 m (2 : Int32) ) (fun p e s m below meth c s₁ hx hby hlk hml hret hown hnm hZ X0 e0 N0 => ?_)
  show own_Fin _ _ _ _ _ _ _ s₁ (mkF m 0 #[Iv 2] [])
  have Kp28 : Keep h0 h0 [] := Keep.refl h0 _
  obtain ⟨_, _, ⟨T29, L29, k29, n29⟩, -, X29, ⟨Lc29, hQ29, l29, y29, z29⟩, st29⟩ := LawKit.callS X0 hx (y := mn4) hown (own_m hZ hw 107) (own_m hZ hw 108) (own_m hZ hw 74) (own_m hZ hw 109) (by decide) (backOf (W := 0) (rmNBL2 l Z a0 hw []  h0 n0 Z0 ) hZ (own_g hw 109) (own_g hw 74) (by decide) (by decide)) (g := (mkF m 1 #[Iv 2] [(.int 2)])) rfl (by rw [hml]; rfl) (argsL := [(.int (2 : Int32))]) (rest := []) (lenOf own_pd70 rfl) rfl (own_z rfl) (hb hby d25_1) (fun _ _ => ⟨rfl, e0, (by decide : 0 + 0 ≤ _), (by decide : 0 + 0 ≤ _)⟩)
  dsimp only [Pt.U, Pt.locs, Pt.cells, Pt.slots] at X29 l29 y29 z29 st29 hQ29
  subst l29 y29 z29
  obtain ⟨rfl, Nq29, eh29⟩ := hQ29
  have N29 := Fr.app N0 Nq29
  obtain ⟨T30, h30, k30, X30, e30, E30, A30, st30⟩ := newP X29 hx hZ (own_g hw 21) eh29 (g := (mkF m 4 #[Iv 2] [(.int 4)])) rfl (hb hby d25_4) rfl (by decide) (cap := 4) (by decide) (by decide) (by decide) (by decide)
  obtain ⟨b30, g30⟩ : ∃ z, z = h0.size := ⟨_, rfl⟩
  rw [← g30] at A30 st30
  have V30 : Arv Z h30 b30 k30 .byte (4 : Int32) [(.int (0 : Int32)), (.int (0 : Int32)), (.int (0 : Int32)), (.int (0 : Int32))] (.int (0 : Int32)) := (Arv.new A30 (by decide)).pad (pad_rep [] (.int (0 : Int32)) 4)
  have gf30 : n0 ≤ b30 := Nat.le_trans Z0 (Nat.le_of_eq g30.symm)
  have Zs30 : n0 ≤ h30.size := Nat.le_trans Z0 E30.1
  have Kp30 : Keep h0 h30 [] := Kp28.ext E30
  have sz_b30 : h0.size ≤ b30 := Nat.le_trans Kp28.1 (Nat.le_of_eq g30.symm)
  refine own_by (fun _ k => XS.iloadN X0.here hx rfl (hb hby d25_0) rfl (st29 _ (st30 _ k))) ?_
  exact own_retA X30 hx hlk (t := (.array .byte)) hret rfl rfl rfl (hb hby d25_6) (by rw [e30]; exact ⟨_, _, rfl, N29, Kp30, sz_b30, V30⟩) (by decide) (by decide)
theorem d27_0 : decode jdk_52_method_4_code 0 = .ok (.getstatic 44, 3) := by decide +kernel
theorem d27_3 : decode jdk_52_method_4_code 3 = .ok (.ifCond .ne 25, 3) := by decide +kernel
theorem d27_28 : decode jdk_52_method_4_code 28 = .ok (.iload_n 1, 1) := by decide +kernel
theorem d27_29 : decode jdk_52_method_4_code 29 = .ok (.iconst 1, 1) := by decide +kernel
theorem d27_30 : decode jdk_52_method_4_code 30 = .ok (.ishl, 1) := by decide +kernel
theorem d27_31 : decode jdk_52_method_4_code 31 = .ok (.istore_n 1, 1) := by decide +kernel
theorem d27_32 : decode jdk_52_method_4_code 32 = .ok (.aload_n 0, 1) := by decide +kernel
theorem d27_33 : decode jdk_52_method_4_code 33 = .ok (.iload_n 1, 1) := by decide +kernel
theorem d27_34 : decode jdk_52_method_4_code 34 = .ok (.iinc 1 1, 3) := by decide +kernel
theorem d27_37 : decode jdk_52_method_4_code 37 = .ok (.iload_n 2, 1) := by decide +kernel
theorem d27_38 : decode jdk_52_method_4_code 38 = .ok (.getstatic 59, 3) := by decide +kernel
theorem d27_41 : decode jdk_52_method_4_code 41 = .ok (.ishr, 1) := by decide +kernel
theorem d27_42 : decode jdk_52_method_4_code 42 = .ok (.i2b, 1) := by decide +kernel
theorem d27_43 : decode jdk_52_method_4_code 43 = .ok (.bastore, 1) := by decide +kernel
theorem d27_44 : decode jdk_52_method_4_code 44 = .ok (.aload_n 0, 1) := by decide +kernel
theorem d27_45 : decode jdk_52_method_4_code 45 = .ok (.iload_n 1, 1) := by decide +kernel
theorem d27_46 : decode jdk_52_method_4_code 46 = .ok (.iload_n 2, 1) := by decide +kernel
theorem d27_47 : decode jdk_52_method_4_code 47 = .ok (.getstatic 63, 3) := by decide +kernel
theorem d27_50 : decode jdk_52_method_4_code 50 = .ok (.ishr, 1) := by decide +kernel
theorem d27_51 : decode jdk_52_method_4_code 51 = .ok (.i2b, 1) := by decide +kernel
theorem d27_52 : decode jdk_52_method_4_code 52 = .ok (.bastore, 1) := by decide +kernel
theorem d27_53 : decode jdk_52_method_4_code 53 = .ok (.return_, 1) := by decide +kernel
theorem ef_RII_3 (m : MethodId) (x0 : Addr) (x1 : Int32) (x2 : Int32) : entryFrame m #[(.ref x0), (.int x1), (.int x2)] 3 = mkF m 0 #[.val (.ref x0), .val (.int x1), .val (.int x2)] [] := by first | (simp [entryFrame, mkF, argsToLocals, Value.category]; done) | rfl
def own_QPC2_0 (Z : State) (a1 : Addr) (k1 : ClassId) (cc : Int32) (w0 w1 w2 w3 : Int32) (h0 : Heap) (n0 : Nat) (v : Option Value) (h : Heap) (L : List Loc) : Prop := v = none ∧ Fr n0 L ∧ Keep h0 h [a1] ∧ Arv Z h a1 k1 .byte (4 : Int32) [(.int (own_lo cc)), (.int (own_hi cc)), (.int w2), (.int w3)] (.int (0 : Int32))
set_option maxRecDepth 65536 in
set_option maxHeartbeats 40000000 in
theorem rmPC2_0 (l : Launch) (Z : State) (a0 : Array Value) (hw : own_W a0 Z) (ws : List Jvm.Cond) (cs : Int32) (gS : Value) (a1 : Addr) (k1 : ClassId) (cc : Int32) (w0 w1 w2 w3 : Int32) (h0 : Heap) (n0 : Nat) (Z0 : n0 ≤ h0.size) (V_env : own_Env Z cs gS) (Od : Old Z n0 h0) (V1 : Arv Z h0 a1 k1 .byte (4 : Int32) [(.int w0), (.int w1), (.int w2), (.int w3)] (.int (0 : Int32))) (g_1 : n0 ≤ a1) : own_Met l Z mn6 jdk_52_method_4_code 3 none ws (own_R 0 0 0 0) #[(.ref a1), (.int (0 : Int32)), (.int cc)] h0 (own_QPC2_0 Z a1 k1 cc w0 w1 w2 w3 h0 n0) := by
  refine own_enter n0 (plainFor_of_name own_pn58) (fun m => ef_RII_3 m a1 (0 : Int32) cc ) (fun p e s m below meth c s₁ hx hby hlk hml hret hown hnm hZ X0 e0 N0 => ?_)
  show own_Fin _ _ _ _ _ _ _ s₁ (mkF m 0 #[Rv a1, Iv 0, Iv cc] [])
  have Kp32 : Keep h0 h0 [a1] := Keep.refl h0 _
  obtain ⟨T33, X33, e33, st33⟩ := getS2 X0 hx hZ hown (host := "") (Or.inl (own_g hw 114)) Via.refl e0 (V_env.1.ext Od.2) (g := (mkF m 0 #[Rv a1, Iv 0, Iv cc] [])) rfl (hb hby d27_0)
  refine own_by (fun _ k => st33 _ (XS.ifYes X33.here hx rfl (pc0 := 3) (pc' := 28) rfl (hb hby d27_3) rfl ((if0 _ _).trans (feq (by decide : ¬ ((1 : Int32) = (0 : Int32)))).2) (by decide) (by decide) (XS.iloadN X33.here hx rfl (hb hby d27_28) rfl (XS.iconst X33.here hx rfl (hb hby d27_29) (XS.ishl X33.here hx rfl (hb hby d27_30) rfl k))))) ?_
  show own_Fin _ _ _ _ _ _ _ T33 (mkF m 31 #[Rv a1, Iv 0, Iv cc] [(.int ((0 : Int32) <<< ((1 : Int32) &&& 31)))])
  rw [(by decide : ((0 : Int32) <<< ((1 : Int32) &&& 31)) = (0 : Int32))]
  show own_Fin _ _ _ _ _ _ _ T33 (mkF m 31 #[Rv a1, Iv 0, Iv cc] [(.int 0)])
  refine own_by (fun _ k => XS.istoreN X33.here hx rfl (hb hby d27_31) rfl (l' := #[Rv a1, Iv 0, Iv cc]) rfl (XS.aloadN X33.here hx rfl (hb hby d27_32) rfl rfl (XS.iloadN X33.here hx rfl (hb hby d27_33) rfl (XS.iinc X33.here hx rfl (hb hby d27_34) rfl (l' := #[Rv a1, Iv ((0 : Int32) + (1 : Int32)), Iv cc]) rfl k)))) ?_
  show own_Fin _ _ _ _ _ _ _ T33 (mkF m 37 #[Rv a1, Iv ((0 : Int32) + (1 : Int32)), Iv cc] [(.int 0), (.ref a1)])
  rw [(by decide : ((0 : Int32) + (1 : Int32)) = (1 : Int32))]
  show own_Fin _ _ _ _ _ _ _ T33 (mkF m 37 #[Rv a1, Iv 1, Iv cc] [(.int 0), (.ref a1)])
  obtain ⟨T34, X34, e34, st34⟩ := getS2 X33 hx hZ hown (host := "") (Or.inl (own_g hw 115)) Via.refl e33 (V_env.2.1.ext Od.2) (g := (mkF m 38 #[Rv a1, Iv 1, Iv cc] [(.int cc), (.int 0), (.ref a1)])) rfl (hb hby d27_38)
  obtain ⟨cl35, Ar35, q35, S35, M35, H35, G35⟩ := id V1
  have hin35 : ¬ ((0 : Int32) < 0 ∨ cl35.slots.size ≤ ((0 : Int32)).toNatClampNeg) := inb_of S35 ⟨by decide, by decide⟩
  obtain ⟨T35, h35, X35, e35, W35, st35⟩ := stB X34 hx hZ e34 Ar35 (j := (0 : Int32)) hin35 (g := (mkF m 43 #[Rv a1, Iv 1, Iv cc] [(.int ((cc >>> ((0 : Int32) &&& 31)).toInt8.toInt32)), (.int 0), (.ref a1)])) rfl rfl (hb hby d27_43)
  have V35 : Arv Z h35 a1 k1 .byte (4 : Int32) [(.int ((cc >>> ((0 : Int32) &&& 31)).toInt8.toInt32).toInt8.toInt32), (.int w1), (.int w2), (.int w3)] (.int (0 : Int32)) := Arv.set Ar35 q35 S35 M35 H35 G35 (fits_nar_byte _) W35 0 rfl (Nat.le_of_ble_eq_true rfl)
  have Kp35 : Keep h0 h35 [a1] := Kp32.wr W35 (Or.inl (List.mem_of_getElem? (i := 0) rfl))
  have Zs35 : n0 ≤ h35.size := Nat.le_trans Z0 (Keep.of_wr W35).1
  have N35 := Fr.snoc X35 N0 g_1
  have f36_0 : Old Z n0 h35 := Od.wr W35 g_1
  obtain ⟨T37, X37, e37, st37⟩ := getS2 X35 hx hZ hown (host := "") (Or.inl (own_g hw 116)) Via.refl e35 (V_env.2.2.1.ext f36_0.2) (g := (mkF m 47 #[Rv a1, Iv 1, Iv cc] [(.int cc), (.int 1), (.ref a1)])) rfl (hb hby d27_47)
  refine own_by (fun _ k => XS.iloadN X33.here hx rfl (hb hby d27_37) rfl (st34 _ (XS.ishr X34.here hx rfl (hb hby d27_41) rfl (XS.i2b X34.here hx rfl (hb hby d27_42) rfl (st35 _ (XS.aloadN X35.here hx rfl (hb hby d27_44) rfl rfl (XS.iloadN X35.here hx rfl (hb hby d27_45) rfl (XS.iloadN X35.here hx rfl (hb hby d27_46) rfl (st37 _ (XS.ishr X37.here hx rfl (hb hby d27_50) rfl k)))))))))) ?_
  show own_Fin _ _ _ _ _ _ _ T37 (mkF m 51 #[Rv a1, Iv 1, Iv cc] [(.int (cc >>> ((8 : Int32) &&& 31))), (.int 1), (.ref a1)])
  obtain ⟨cl38, Ar38, q38, S38, M38, H38, G38⟩ := id V35
  have hin38 : ¬ ((1 : Int32) < 0 ∨ cl38.slots.size ≤ ((1 : Int32)).toNatClampNeg) := inb_of S38 ⟨by decide, by decide⟩
  obtain ⟨T38, h38, X38, e38, W38, st38⟩ := stB X37 hx hZ e37 Ar38 (j := (1 : Int32)) hin38 (g := (mkF m 52 #[Rv a1, Iv 1, Iv cc] [(.int ((cc >>> ((8 : Int32) &&& 31)).toInt8.toInt32)), (.int 1), (.ref a1)])) rfl rfl (hb hby d27_52)
  have V38 : Arv Z h38 a1 k1 .byte (4 : Int32) [(.int ((cc >>> ((0 : Int32) &&& 31)).toInt8.toInt32).toInt8.toInt32), (.int ((cc >>> ((8 : Int32) &&& 31)).toInt8.toInt32).toInt8.toInt32), (.int w2), (.int w3)] (.int (0 : Int32)) := Arv.set Ar38 q38 S38 M38 H38 G38 (fits_nar_byte _) W38 1 rfl (Nat.le_of_ble_eq_true rfl)
  have Kp38 : Keep h0 h38 [a1] := Kp35.wr W38 (Or.inl (List.mem_of_getElem? (i := 0) rfl))
  have Zs38 : n0 ≤ h38.size := Nat.le_trans Zs35 (Keep.of_wr W38).1
  have N38 := Fr.snoc X38 N35 g_1
  have f39_0 : Old Z n0 h38 := f36_0.wr W38 g_1
  refine own_by (fun _ k => XS.i2b X37.here hx rfl (hb hby d27_51) rfl (st38 _ k)) ?_
  exact own_retV X38 hx hlk hret (hb hby d27_53) (by rw [e38]; exact ⟨rfl, N38, Kp38, (by have q := V38; simp only [own_b8] at q; exact q)⟩) (by decide) (by decide)
def own_QPC2_1 (Z : State) (a1 : Addr) (k1 : ClassId) (cc : Int32) (w0 w1 w2 w3 : Int32) (h0 : Heap) (n0 : Nat) (v : Option Value) (h : Heap) (L : List Loc) : Prop := v = none ∧ Fr n0 L ∧ Keep h0 h [a1] ∧ Arv Z h a1 k1 .byte (4 : Int32) [(.int w0), (.int w1), (.int (own_lo cc)), (.int (own_hi cc))] (.int (0 : Int32))
set_option maxRecDepth 65536 in
set_option maxHeartbeats 40000000 in
theorem rmPC2_1 (l : Launch) (Z : State) (a0 : Array Value) (hw : own_W a0 Z) (ws : List Jvm.Cond) (cs : Int32) (gS : Value) (a1 : Addr) (k1 : ClassId) (cc : Int32) (w0 w1 w2 w3 : Int32) (h0 : Heap) (n0 : Nat) (Z0 : n0 ≤ h0.size) (V_env : own_Env Z cs gS) (Od : Old Z n0 h0) (V1 : Arv Z h0 a1 k1 .byte (4 : Int32) [(.int w0), (.int w1), (.int w2), (.int w3)] (.int (0 : Int32))) (g_1 : n0 ≤ a1) : own_Met l Z mn6 jdk_52_method_4_code 3 none ws (own_R 0 0 0 0) #[(.ref a1), (.int (1 : Int32)), (.int cc)] h0 (own_QPC2_1 Z a1 k1 cc w0 w1 w2 w3 h0 n0) := by
  refine own_enter n0 (plainFor_of_name own_pn58) (fun m => ef_RII_3 m a1 (1 : Int32) cc ) (fun p e s m below meth c s₁ hx hby hlk hml hret hown hnm hZ X0 e0 N0 => ?_)
  show own_Fin _ _ _ _ _ _ _ s₁ (mkF m 0 #[Rv a1, Iv 1, Iv cc] [])
  have Kp40 : Keep h0 h0 [a1] := Keep.refl h0 _
  obtain ⟨T41, X41, e41, st41⟩ := getS2 X0 hx hZ hown (host := "") (Or.inl (own_g hw 114)) Via.refl e0 (V_env.1.ext Od.2) (g := (mkF m 0 #[Rv a1, Iv 1, Iv cc] [])) rfl (hb hby d27_0)
  refine own_by (fun _ k => st41 _ (XS.ifYes X41.here hx rfl (pc0 := 3) (pc' := 28) rfl (hb hby d27_3) rfl ((if0 _ _).trans (feq (by decide : ¬ ((1 : Int32) = (0 : Int32)))).2) (by decide) (by decide) (XS.iloadN X41.here hx rfl (hb hby d27_28) rfl (XS.iconst X41.here hx rfl (hb hby d27_29) (XS.ishl X41.here hx rfl (hb hby d27_30) rfl k))))) ?_
  show own_Fin _ _ _ _ _ _ _ T41 (mkF m 31 #[Rv a1, Iv 1, Iv cc] [(.int ((1 : Int32) <<< ((1 : Int32) &&& 31)))])
  rw [(by decide : ((1 : Int32) <<< ((1 : Int32) &&& 31)) = (2 : Int32))]
  show own_Fin _ _ _ _ _ _ _ T41 (mkF m 31 #[Rv a1, Iv 1, Iv cc] [(.int 2)])
  refine own_by (fun _ k => XS.istoreN X41.here hx rfl (hb hby d27_31) rfl (l' := #[Rv a1, Iv 2, Iv cc]) rfl (XS.aloadN X41.here hx rfl (hb hby d27_32) rfl rfl (XS.iloadN X41.here hx rfl (hb hby d27_33) rfl (XS.iinc X41.here hx rfl (hb hby d27_34) rfl (l' := #[Rv a1, Iv ((2 : Int32) + (1 : Int32)), Iv cc]) rfl k)))) ?_
  show own_Fin _ _ _ _ _ _ _ T41 (mkF m 37 #[Rv a1, Iv ((2 : Int32) + (1 : Int32)), Iv cc] [(.int 2), (.ref a1)])
  rw [(by decide : ((2 : Int32) + (1 : Int32)) = (3 : Int32))]
  show own_Fin _ _ _ _ _ _ _ T41 (mkF m 37 #[Rv a1, Iv 3, Iv cc] [(.int 2), (.ref a1)])
  obtain ⟨T42, X42, e42, st42⟩ := getS2 X41 hx hZ hown (host := "") (Or.inl (own_g hw 115)) Via.refl e41 (V_env.2.1.ext Od.2) (g := (mkF m 38 #[Rv a1, Iv 3, Iv cc] [(.int cc), (.int 2), (.ref a1)])) rfl (hb hby d27_38)
  obtain ⟨cl43, Ar43, q43, S43, M43, H43, G43⟩ := id V1
  have hin43 : ¬ ((2 : Int32) < 0 ∨ cl43.slots.size ≤ ((2 : Int32)).toNatClampNeg) := inb_of S43 ⟨by decide, by decide⟩
  obtain ⟨T43, h43, X43, e43, W43, st43⟩ := stB X42 hx hZ e42 Ar43 (j := (2 : Int32)) hin43 (g := (mkF m 43 #[Rv a1, Iv 3, Iv cc] [(.int ((cc >>> ((0 : Int32) &&& 31)).toInt8.toInt32)), (.int 2), (.ref a1)])) rfl rfl (hb hby d27_43)
  have V43 : Arv Z h43 a1 k1 .byte (4 : Int32) [(.int w0), (.int w1), (.int ((cc >>> ((0 : Int32) &&& 31)).toInt8.toInt32).toInt8.toInt32), (.int w3)] (.int (0 : Int32)) := Arv.set Ar43 q43 S43 M43 H43 G43 (fits_nar_byte _) W43 2 rfl (Nat.le_of_ble_eq_true rfl)
  have Kp43 : Keep h0 h43 [a1] := Kp40.wr W43 (Or.inl (List.mem_of_getElem? (i := 0) rfl))
  have Zs43 : n0 ≤ h43.size := Nat.le_trans Z0 (Keep.of_wr W43).1
  have N43 := Fr.snoc X43 N0 g_1
  have f44_0 : Old Z n0 h43 := Od.wr W43 g_1
  obtain ⟨T45, X45, e45, st45⟩ := getS2 X43 hx hZ hown (host := "") (Or.inl (own_g hw 116)) Via.refl e43 (V_env.2.2.1.ext f44_0.2) (g := (mkF m 47 #[Rv a1, Iv 3, Iv cc] [(.int cc), (.int 3), (.ref a1)])) rfl (hb hby d27_47)
  refine own_by (fun _ k => XS.iloadN X41.here hx rfl (hb hby d27_37) rfl (st42 _ (XS.ishr X42.here hx rfl (hb hby d27_41) rfl (XS.i2b X42.here hx rfl (hb hby d27_42) rfl (st43 _ (XS.aloadN X43.here hx rfl (hb hby d27_44) rfl rfl (XS.iloadN X43.here hx rfl (hb hby d27_45) rfl (XS.iloadN X43.here hx rfl (hb hby d27_46) rfl (st45 _ (XS.ishr X45.here hx rfl (hb hby d27_50) rfl k)))))))))) ?_
  show own_Fin _ _ _ _ _ _ _ T45 (mkF m 51 #[Rv a1, Iv 3, Iv cc] [(.int (cc >>> ((8 : Int32) &&& 31))), (.int 3), (.ref a1)])
  obtain ⟨cl46, Ar46, q46, S46, M46, H46, G46⟩ := id V43
  have hin46 : ¬ ((3 : Int32) < 0 ∨ cl46.slots.size ≤ ((3 : Int32)).toNatClampNeg) := inb_of S46 ⟨by decide, by decide⟩
  obtain ⟨T46, h46, X46, e46, W46, st46⟩ := stB X45 hx hZ e45 Ar46 (j := (3 : Int32)) hin46 (g := (mkF m 52 #[Rv a1, Iv 3, Iv cc] [(.int ((cc >>> ((8 : Int32) &&& 31)).toInt8.toInt32)), (.int 3), (.ref a1)])) rfl rfl (hb hby d27_52)
  have V46 : Arv Z h46 a1 k1 .byte (4 : Int32) [(.int w0), (.int w1), (.int ((cc >>> ((0 : Int32) &&& 31)).toInt8.toInt32).toInt8.toInt32), (.int ((cc >>> ((8 : Int32) &&& 31)).toInt8.toInt32).toInt8.toInt32)] (.int (0 : Int32)) := Arv.set Ar46 q46 S46 M46 H46 G46 (fits_nar_byte _) W46 3 rfl (Nat.le_of_ble_eq_true rfl)
  have Kp46 : Keep h0 h46 [a1] := Kp43.wr W46 (Or.inl (List.mem_of_getElem? (i := 0) rfl))
  have Zs46 : n0 ≤ h46.size := Nat.le_trans Zs43 (Keep.of_wr W46).1
  have N46 := Fr.snoc X46 N43 g_1
  have f47_0 : Old Z n0 h46 := f44_0.wr W46 g_1
  refine own_by (fun _ k => XS.i2b X45.here hx rfl (hb hby d27_51) rfl (st46 _ k)) ?_
  exact own_retV X46 hx hlk hret (hb hby d27_53) (by rw [e46]; exact ⟨rfl, N46, Kp46, (by have q := V46; simp only [own_b8] at q; exact q)⟩) (by decide) (by decide)
theorem d24_0 : decode jdk_52_method_14_code 0 = .ok (.iload_n 2, 1) := by decide +kernel
theorem d24_1 : decode jdk_52_method_14_code 1 = .ok (.invokestatic 107, 3) := by decide +kernel
theorem own_pd99 : parseMethodDescriptor "(I)[B" = some ⟨[.int], some (.array .byte)⟩ := by decide +kernel
theorem d24_4 : decode jdk_52_method_14_code 4 = .ok (.astore_n 3, 1) := by decide +kernel
theorem d24_5 : decode jdk_52_method_14_code 5 = .ok (.iconst 0, 1) := by decide +kernel
theorem d24_6 : decode jdk_52_method_14_code 6 = .ok (.istore 4, 2) := by decide +kernel
theorem d24_8 : decode jdk_52_method_14_code 8 = .ok (.iload 4, 2) := by decide +kernel
theorem d24_10 : decode jdk_52_method_14_code 10 = .ok (.iload_n 2, 1) := by decide +kernel
theorem d24_11 : decode jdk_52_method_14_code 11 = .ok (.if_icmp .ge 21, 3) := by decide +kernel
theorem d24_14 : decode jdk_52_method_14_code 14 = .ok (.aload_n 3, 1) := by decide +kernel
theorem d24_15 : decode jdk_52_method_14_code 15 = .ok (.iload 4, 2) := by decide +kernel
theorem d24_17 : decode jdk_52_method_14_code 17 = .ok (.aload_n 0, 1) := by decide +kernel
theorem d24_18 : decode jdk_52_method_14_code 18 = .ok (.iload_n 1, 1) := by decide +kernel
theorem d24_19 : decode jdk_52_method_14_code 19 = .ok (.caload, 1) := by decide +kernel
theorem d24_20 : decode jdk_52_method_14_code 20 = .ok (.invokestatic 111, 3) := by decide +kernel
theorem own_pd112 : parseMethodDescriptor "([BII)V" = some ⟨[(.array .byte), .int, .int], none⟩ := by decide +kernel
theorem d24_23 : decode jdk_52_method_14_code 23 = .ok (.iinc 1 1, 3) := by decide +kernel
theorem d24_26 : decode jdk_52_method_14_code 26 = .ok (.iinc 4 1, 3) := by decide +kernel
theorem d24_29 : decode jdk_52_method_14_code 29 = .ok (.goto (-21), 3) := by decide +kernel
theorem d24_32 : decode jdk_52_method_14_code 32 = .ok (.aload_n 3, 1) := by decide +kernel
theorem d24_33 : decode jdk_52_method_14_code 33 = .ok (.areturn, 1) := by decide +kernel
theorem ef_RII_5 (m : MethodId) (x0 : Addr) (x1 : Int32) (x2 : Int32) : entryFrame m #[(.ref x0), (.int x1), (.int x2)] 5 = mkF m 0 #[.val (.ref x0), .val (.int x1), .val (.int x2), .unset, .unset] [] := by first | (simp [entryFrame, mkF, argsToLocals, Value.category]; done) | rfl
def own_QTB2 (Z : State) (x0 x1 : Int32) (h0 : Heap) (n0 : Nat) (v : Option Value) (h : Heap) (L : List Loc) : Prop := ∃ (a : Addr) (k : ClassId), v = some (.ref a) ∧ Fr n0 L ∧ Keep h0 h [] ∧ h0.size ≤ a ∧ Arv Z h a k .byte (4 : Int32) [(.int (own_lo x0)), (.int (own_hi x0)), (.int (own_lo x1)), (.int (own_hi x1))] (.int (0 : Int32))
set_option maxRecDepth 65536 in
set_option maxHeartbeats 40000000 in
theorem rmTB2 (l : Launch) (Z : State) (a0 : Array Value) (hw : own_W a0 Z) (ws : List Jvm.Cond) (cs : Int32) (gS : Value) (a1 : Addr) (kc : ClassId) (x0 x1 : Int32) (h0 : Heap) (n0 : Nat) (Z0 : n0 ≤ h0.size) (V_env : own_Env Z cs gS) (Od : Old Z n0 h0) (V1 : Arv Z h0 a1 kc .char (2 : Int32) [(.int x0), (.int x1)] (.int (0 : Int32))) : own_Met l Z mn7 jdk_52_method_14_code 5 (some (.array .byte)) ws (own_R 2 1 4 24) #[(.ref a1), (.int (0 : Int32)), (.int (2 : Int32))] h0 (own_QTB2 Z x0 x1 h0 n0) := by
  refine own_enter n0 (plainFor_of_name own_pn58) (fun m => ef_RII_5 m a1 (0 : Int32) (2 : Int32) ) (fun p e s m below meth c s₁ hx hby hlk hml hret hown hnm hZ X0 e0 N0 => ?_)
  show own_Fin _ _ _ _ _ _ _ s₁ (mkF m 0 #[Rv a1, Iv 0, Iv 2, Uv, Uv] [])
  have Kp48 : Keep h0 h0 [] := Keep.refl h0 _
  obtain ⟨_, _, ⟨T49, L49, k49, n49⟩, -, X49, ⟨Lc49, hQ49, l49, y49, z49⟩, st49⟩ := LawKit.callS X0 hx (y := mn5) hown (own_m hZ hw 104) (own_m hZ hw 105) (own_m hZ hw 74) (own_m hZ hw 106) (by decide) (backOf (W := 0) (rmNBF2 l Z a0 hw []  h0 n0 Z0 ) hZ (own_g hw 106) (own_g hw 74) (by decide) (by decide)) (g := (mkF m 1 #[Rv a1, Iv 0, Iv 2, Uv, Uv] [(.int 2)])) rfl (by rw [hml]; rfl) (argsL := [(.int (2 : Int32))]) (rest := []) (lenOf own_pd99 rfl) rfl (own_z rfl) (hb hby d24_1) (fun _ _ => ⟨rfl, e0, (by decide : 0 + 1 ≤ _), (by decide : 0 + 4 ≤ _)⟩)
  dsimp only [Pt.U, Pt.locs, Pt.cells, Pt.slots] at X49 l49 y49 z49 st49 hQ49
  subst l49 y49 z49
  obtain ⟨b49, k49, rfl, Nq49, K49, ge49, V49⟩ := hQ49
  have N49 := Fr.app N0 Nq49
  have Zs49 : n0 ≤ T49.heap.size := Nat.le_trans Z0 K49.1
  have Kp49 : Keep h0 T49.heap [] := Kp48.trans K49 all0
  have f50_0 : Old Z n0 T49.heap := Od.keep K49 all0
  have f50_1 : Arv Z T49.heap a1 kc .char (2 : Int32) [(.int x0), (.int x1)] (.int (0 : Int32)) := V1.keep K49 nin0
  have ne49_a1 : a1 ≠ b49 := Nat.ne_of_lt (Nat.lt_of_lt_of_le V1.lt ge49)
  have gf49 : n0 ≤ b49 := Nat.le_trans Z0 ge49
  have sz_b49 : h0.size ≤ b49 := Nat.le_trans Kp48.1 ge49
  refine own_by (fun _ k => XS.iloadN X0.here hx rfl (hb hby d24_0) rfl (st49 _ (XS.astoreN X49.here hx rfl (hb hby d24_4) rfl rfl (l' := #[Rv a1, Iv 0, Iv 2, Rv b49, Uv]) rfl (XS.iconst X49.here hx rfl (hb hby d24_5) (XS.istore X49.here hx rfl (hb hby d24_6) rfl (l' := #[Rv a1, Iv 0, Iv 2, Rv b49, Iv 0]) rfl (XS.iload X49.here hx rfl (hb hby d24_8) rfl (XS.iloadN X49.here hx rfl (hb hby d24_10) rfl (XS.icmpNo X49.here hx rfl (hb hby d24_11) rfl (tlt (by decide : (0 : Int32) < (2 : Int32))).2.1 (XS.aloadN X49.here hx rfl (hb hby d24_14) rfl rfl (XS.iload X49.here hx rfl (hb hby d24_15) rfl k)))))))))) ?_
  show own_Fin _ _ _ _ _ _ _ T49 (mkF m 17 #[Rv a1, Iv 0, Iv 2, Rv b49, Iv 0] [(.int 0), (.ref b49)])
  obtain ⟨cl51, Ar51, -, S51, M51, H51, -⟩ := id f50_1
  have hin51 : ¬ ((0 : Int32) < 0 ∨ cl51.slots.size ≤ ((0 : Int32)).toNatClampNeg) := inb_of S51 ⟨by decide, by decide⟩
  have hat51 : cl51.slots[((0 : Int32)).toNatClampNeg]? = some (.int x0) := Has.at H51 hin51 rfl
  obtain ⟨_, _, ⟨T52, L52, k52, n52⟩, -, X52, ⟨Lc52, hQ52, l52, y52, z52⟩, st52⟩ := LawKit.callS X49 hx (y := mn6) hown (own_m hZ hw 111) (own_m hZ hw 112) (own_m hZ hw 74) (own_m hZ hw 113) (by decide) (backOf (W := 0) (rmPC2_0 l Z a0 hw [] cs gS b49 k49 x0 (0 : Int32) (0 : Int32) (0 : Int32) (0 : Int32) T49.heap n0 Zs49 V_env f50_0 V49 gf49) hZ (own_g hw 113) (own_g hw 74) (by decide) (by decide)) (g := (mkF m 20 #[Rv a1, Iv 0, Iv 2, Rv b49, Iv 0] [(.int x0), (.int 0), (.ref b49)])) rfl (by rw [hml]; rfl) (argsL := [(.ref b49), (.int (0 : Int32)), (.int x0)]) (rest := []) (lenOf own_pd112 rfl) rfl (own_z rfl) (hb hby d24_20) (fun _ _ => ⟨rfl, rfl, (by decide : 1 + 0 ≤ _), (by decide : 4 + 0 ≤ _)⟩)
  dsimp only [Pt.U, Pt.locs, Pt.cells, Pt.slots] at X52 l52 y52 z52 st52 hQ52
  subst l52 y52 z52
  obtain ⟨rfl, Nq52, K52, Vr52⟩ := hQ52
  have N52 := Fr.app N49 Nq52
  have Zs52 : n0 ≤ T52.heap.size := Nat.le_trans Zs49 K52.1
  have Kp52 : Keep h0 T52.heap [] := Kp49.trans K52 (allS (Or.inr sz_b49) all0)
  have f53_0 : Old Z n0 T52.heap := f50_0.keep K52 (allS gf49 all0)
  have f53_1 : Arv Z T52.heap a1 kc .char (2 : Int32) [(.int x0), (.int x1)] (.int (0 : Int32)) := f50_1.keep K52 (ninS ne49_a1 nin0)
  refine own_by (fun _ k => XS.aloadN X49.here hx rfl (hb hby d24_17) rfl rfl (XS.iloadN X49.here hx rfl (hb hby d24_18) rfl (X49.caload hx (j := (0 : Int32)) (v := (.int x0)) Ar51.1 (State.isArrayOf_alike hZ.alike Ar51.2.1) Ar51.2.2 hin51 hat51 (g := (mkF m 19 #[Rv a1, Iv 0, Iv 2, Rv b49, Iv 0] [(.int 0), (.ref a1), (.int 0), (.ref b49)])) rfl rfl (hb hby d24_19) _ (st52 _ (XS.iinc X52.here hx rfl (hb hby d24_23) rfl (l' := #[Rv a1, Iv ((0 : Int32) + (1 : Int32)), Iv 2, Rv b49, Iv 0]) rfl k))))) ?_
  show own_Fin _ _ _ _ _ _ _ T52 (mkF m 26 #[Rv a1, Iv ((0 : Int32) + (1 : Int32)), Iv 2, Rv b49, Iv 0] [])
  rw [(by decide : ((0 : Int32) + (1 : Int32)) = (1 : Int32))]
  show own_Fin _ _ _ _ _ _ _ T52 (mkF m 26 #[Rv a1, Iv 1, Iv 2, Rv b49, Iv 0] [])
  refine own_by (fun _ k => XS.iinc X52.here hx rfl (hb hby d24_26) rfl (l' := #[Rv a1, Iv 1, Iv 2, Rv b49, Iv ((0 : Int32) + (1 : Int32))]) rfl k) ?_
  show own_Fin _ _ _ _ _ _ _ T52 (mkF m 29 #[Rv a1, Iv 1, Iv 2, Rv b49, Iv ((0 : Int32) + (1 : Int32))] [])
  rw [(by decide : ((0 : Int32) + (1 : Int32)) = (1 : Int32))]
  show own_Fin _ _ _ _ _ _ _ T52 (mkF m 29 #[Rv a1, Iv 1, Iv 2, Rv b49, Iv 1] [])
  obtain ⟨cl54, Ar54, -, S54, M54, H54, -⟩ := id f53_1
  have hin54 : ¬ ((1 : Int32) < 0 ∨ cl54.slots.size ≤ ((1 : Int32)).toNatClampNeg) := inb_of S54 ⟨by decide, by decide⟩
  have hat54 : cl54.slots[((1 : Int32)).toNatClampNeg]? = some (.int x1) := Has.at H54 hin54 rfl
  obtain ⟨_, _, ⟨T55, L55, k55, n55⟩, -, X55, ⟨Lc55, hQ55, l55, y55, z55⟩, st55⟩ := LawKit.callS X52 hx (y := mn6) hown (own_m hZ hw 111) (own_m hZ hw 112) (own_m hZ hw 74) (own_m hZ hw 113) (by decide) (backOf (W := 0) (rmPC2_1 l Z a0 hw [] cs gS b49 k49 x1 (own_lo x0) (own_hi x0) (0 : Int32) (0 : Int32) T52.heap n0 Zs52 V_env f53_0 Vr52 gf49) hZ (own_g hw 113) (own_g hw 74) (by decide) (by decide)) (g := (mkF m 20 #[Rv a1, Iv 1, Iv 2, Rv b49, Iv 1] [(.int x1), (.int 1), (.ref b49)])) rfl (by rw [hml]; rfl) (argsL := [(.ref b49), (.int (1 : Int32)), (.int x1)]) (rest := []) (lenOf own_pd112 rfl) rfl (own_z rfl) (hb hby d24_20) (fun _ _ => ⟨rfl, rfl, (by decide : 1 + 0 ≤ _), (by decide : 4 + 0 ≤ _)⟩)
  dsimp only [Pt.U, Pt.locs, Pt.cells, Pt.slots] at X55 l55 y55 z55 st55 hQ55
  subst l55 y55 z55
  obtain ⟨rfl, Nq55, K55, Vr55⟩ := hQ55
  have N55 := Fr.app N52 Nq55
  have Zs55 : n0 ≤ T55.heap.size := Nat.le_trans Zs52 K55.1
  have Kp55 : Keep h0 T55.heap [] := Kp52.trans K55 (allS (Or.inr sz_b49) all0)
  have f56_0 : Old Z n0 T55.heap := f53_0.keep K55 (allS gf49 all0)
  have f56_1 : Arv Z T55.heap a1 kc .char (2 : Int32) [(.int x0), (.int x1)] (.int (0 : Int32)) := f53_1.keep K55 (ninS ne49_a1 nin0)
  refine own_by (fun _ k => XS.goto X52.here hx rfl (pc0 := 29) (pc' := 8) rfl (hb hby d24_29) (by decide) (by decide) (XS.iload X52.here hx rfl (hb hby d24_8) rfl (XS.iloadN X52.here hx rfl (hb hby d24_10) rfl (XS.icmpNo X52.here hx rfl (hb hby d24_11) rfl (tlt (by decide : (1 : Int32) < (2 : Int32))).2.1 (XS.aloadN X52.here hx rfl (hb hby d24_14) rfl rfl (XS.iload X52.here hx rfl (hb hby d24_15) rfl (XS.aloadN X52.here hx rfl (hb hby d24_17) rfl rfl (XS.iloadN X52.here hx rfl (hb hby d24_18) rfl (X52.caload hx (j := (1 : Int32)) (v := (.int x1)) Ar54.1 (State.isArrayOf_alike hZ.alike Ar54.2.1) Ar54.2.2 hin54 hat54 (g := (mkF m 19 #[Rv a1, Iv 1, Iv 2, Rv b49, Iv 1] [(.int 1), (.ref a1), (.int 1), (.ref b49)])) rfl rfl (hb hby d24_19) _ (st55 _ k)))))))))) ?_
  show own_Fin _ _ _ _ _ _ _ T55 (mkF m 23 #[Rv a1, Iv 1, Iv 2, Rv b49, Iv 1] [])
  refine own_by (fun _ k => XS.iinc X55.here hx rfl (hb hby d24_23) rfl (l' := #[Rv a1, Iv ((1 : Int32) + (1 : Int32)), Iv 2, Rv b49, Iv 1]) rfl k) ?_
  show own_Fin _ _ _ _ _ _ _ T55 (mkF m 26 #[Rv a1, Iv ((1 : Int32) + (1 : Int32)), Iv 2, Rv b49, Iv 1] [])
  rw [(by decide : ((1 : Int32) + (1 : Int32)) = (2 : Int32))]
  show own_Fin _ _ _ _ _ _ _ T55 (mkF m 26 #[Rv a1, Iv 2, Iv 2, Rv b49, Iv 1] [])
  refine own_by (fun _ k => XS.iinc X55.here hx rfl (hb hby d24_26) rfl (l' := #[Rv a1, Iv 2, Iv 2, Rv b49, Iv ((1 : Int32) + (1 : Int32))]) rfl k) ?_
  show own_Fin _ _ _ _ _ _ _ T55 (mkF m 29 #[Rv a1, Iv 2, Iv 2, Rv b49, Iv ((1 : Int32) + (1 : Int32))] [])
  rw [(by decide : ((1 : Int32) + (1 : Int32)) = (2 : Int32))]
  show own_Fin _ _ _ _ _ _ _ T55 (mkF m 29 #[Rv a1, Iv 2, Iv 2, Rv b49, Iv 2] [])
  refine own_by (fun _ k => XS.goto X55.here hx rfl (pc0 := 29) (pc' := 8) rfl (hb hby d24_29) (by decide) (by decide) (XS.iload X55.here hx rfl (hb hby d24_8) rfl (XS.iloadN X55.here hx rfl (hb hby d24_10) rfl (XS.icmpYes X55.here hx rfl (pc0 := 11) (pc' := 32) rfl (hb hby d24_11) rfl (flt (by decide : ¬ ((2 : Int32) < (2 : Int32)))).2.1 (by decide) (by decide) (XS.aloadN X55.here hx rfl (hb hby d24_32) rfl rfl k))))) ?_
  exact own_retA X55 hx hlk (t := (.array .byte)) hret rfl rfl rfl (hb hby d24_33) ⟨_, _, rfl, N55, Kp55, sz_b49, Vr55⟩ (by decide) (by decide)
theorem d28_0 : decode jdk_52_method_5_code 0 = .ok (.getstatic 44, 3) := by decide +kernel
theorem d28_3 : decode jdk_52_method_5_code 3 = .ok (.ifCond .ne 25, 3) := by decide +kernel
theorem d28_28 : decode jdk_52_method_5_code 28 = .ok (.iload_n 1, 1) := by decide +kernel
theorem d28_29 : decode jdk_52_method_5_code 29 = .ok (.iconst 1, 1) := by decide +kernel
theorem d28_30 : decode jdk_52_method_5_code 30 = .ok (.ishl, 1) := by decide +kernel
theorem d28_31 : decode jdk_52_method_5_code 31 = .ok (.istore_n 1, 1) := by decide +kernel
theorem d28_32 : decode jdk_52_method_5_code 32 = .ok (.aload_n 0, 1) := by decide +kernel
theorem d28_33 : decode jdk_52_method_5_code 33 = .ok (.iload_n 1, 1) := by decide +kernel
theorem d28_34 : decode jdk_52_method_5_code 34 = .ok (.iinc 1 1, 3) := by decide +kernel
theorem d28_37 : decode jdk_52_method_5_code 37 = .ok (.baload, 1) := by decide +kernel
theorem d28_38 : decode jdk_52_method_5_code 38 = .ok (.sipush 255, 3) := by decide +kernel
theorem d28_41 : decode jdk_52_method_5_code 41 = .ok (.iand, 1) := by decide +kernel
theorem d28_42 : decode jdk_52_method_5_code 42 = .ok (.getstatic 59, 3) := by decide +kernel
theorem d28_45 : decode jdk_52_method_5_code 45 = .ok (.ishl, 1) := by decide +kernel
theorem d28_46 : decode jdk_52_method_5_code 46 = .ok (.aload_n 0, 1) := by decide +kernel
theorem d28_47 : decode jdk_52_method_5_code 47 = .ok (.iload_n 1, 1) := by decide +kernel
theorem d28_48 : decode jdk_52_method_5_code 48 = .ok (.baload, 1) := by decide +kernel
theorem d28_49 : decode jdk_52_method_5_code 49 = .ok (.sipush 255, 3) := by decide +kernel
theorem d28_52 : decode jdk_52_method_5_code 52 = .ok (.iand, 1) := by decide +kernel
theorem d28_53 : decode jdk_52_method_5_code 53 = .ok (.getstatic 63, 3) := by decide +kernel
theorem d28_56 : decode jdk_52_method_5_code 56 = .ok (.ishl, 1) := by decide +kernel
theorem d28_57 : decode jdk_52_method_5_code 57 = .ok (.ior, 1) := by decide +kernel
theorem d28_58 : decode jdk_52_method_5_code 58 = .ok (.i2c, 1) := by decide +kernel
theorem d28_59 : decode jdk_52_method_5_code 59 = .ok (.ireturn, 1) := by decide +kernel
theorem ef_RI_2 (m : MethodId) (x0 : Addr) (x1 : Int32) : entryFrame m #[(.ref x0), (.int x1)] 2 = mkF m 0 #[.val (.ref x0), .val (.int x1)] [] := by first | (simp [entryFrame, mkF, argsToLocals, Value.category]; done) | rfl
def own_QrmGC2_0 (x0 x1 : Int32) (h0 : Heap) (n0 : Nat) (v : Option Value) (h : Heap) (L : List Loc) : Prop := v = some (.int x0) ∧ Fr n0 L ∧ h = h0
set_option maxRecDepth 65536 in
set_option maxHeartbeats 40000000 in
theorem rmGC2_0 (l : Launch) (Z : State) (a0 : Array Value) (hw : own_W a0 Z) (ws : List Jvm.Cond) (cs : Int32) (gS : Value) (a1 : Addr) (k1 : ClassId) (x0 x1 : Int32) (h0 : Heap) (n0 : Nat) (Z0 : n0 ≤ h0.size) (V_env : own_Env Z cs gS) (Od : Old Z n0 h0) (V1 : Arv Z h0 a1 k1 .byte (4 : Int32) [(.int (own_lo x0)), (.int (own_hi x0)), (.int (own_lo x1)), (.int (own_hi x1))] (.int (0 : Int32))) (hch : own_ch x0) : own_Met l Z mn8 jdk_52_method_5_code 2 (some .char) ws (own_R 0 0 0 0) #[(.ref a1), (.int (0 : Int32))] h0 (own_QrmGC2_0 x0 x1 h0 n0) := by
  refine own_enter n0 (plainFor_of_name own_pn58) (fun m => ef_RI_2 m a1 (0 : Int32) ) (fun p e s m below meth c s₁ hx hby hlk hml hret hown hnm hZ X0 e0 N0 => ?_)
  show own_Fin _ _ _ _ _ _ _ s₁ (mkF m 0 #[Rv a1, Iv 0] [])
  obtain ⟨T57, X57, e57, st57⟩ := getS2 X0 hx hZ hown (host := "") (Or.inl (own_g hw 114)) Via.refl e0 (V_env.1.ext Od.2) (g := (mkF m 0 #[Rv a1, Iv 0] [])) rfl (hb hby d28_0)
  refine own_by (fun _ k => st57 _ (XS.ifYes X57.here hx rfl (pc0 := 3) (pc' := 28) rfl (hb hby d28_3) rfl ((if0 _ _).trans (feq (by decide : ¬ ((1 : Int32) = (0 : Int32)))).2) (by decide) (by decide) (XS.iloadN X57.here hx rfl (hb hby d28_28) rfl (XS.iconst X57.here hx rfl (hb hby d28_29) (XS.ishl X57.here hx rfl (hb hby d28_30) rfl k))))) ?_
  show own_Fin _ _ _ _ _ _ _ T57 (mkF m 31 #[Rv a1, Iv 0] [(.int ((0 : Int32) <<< ((1 : Int32) &&& 31)))])
  rw [(by decide : ((0 : Int32) <<< ((1 : Int32) &&& 31)) = (0 : Int32))]
  show own_Fin _ _ _ _ _ _ _ T57 (mkF m 31 #[Rv a1, Iv 0] [(.int 0)])
  refine own_by (fun _ k => XS.istoreN X57.here hx rfl (hb hby d28_31) rfl (l' := #[Rv a1, Iv 0]) rfl (XS.aloadN X57.here hx rfl (hb hby d28_32) rfl rfl (XS.iloadN X57.here hx rfl (hb hby d28_33) rfl (XS.iinc X57.here hx rfl (hb hby d28_34) rfl (l' := #[Rv a1, Iv ((0 : Int32) + (1 : Int32))]) rfl k)))) ?_
  show own_Fin _ _ _ _ _ _ _ T57 (mkF m 37 #[Rv a1, Iv ((0 : Int32) + (1 : Int32))] [(.int 0), (.ref a1)])
  rw [(by decide : ((0 : Int32) + (1 : Int32)) = (1 : Int32))]
  show own_Fin _ _ _ _ _ _ _ T57 (mkF m 37 #[Rv a1, Iv 1] [(.int 0), (.ref a1)])
  obtain ⟨cl58, Ar58, -, S58, M58, H58, -⟩ := id V1
  have hin58 : ¬ ((0 : Int32) < 0 ∨ cl58.slots.size ≤ ((0 : Int32)).toNatClampNeg) := inb_of S58 ⟨by decide, by decide⟩
  have hat58 : cl58.slots[((0 : Int32)).toNatClampNeg]? = some (.int (own_lo x0)) := Has.at H58 hin58 rfl
  obtain ⟨T59, X59, e59, st59⟩ := getS2 X57 hx hZ hown (host := "") (Or.inl (own_g hw 115)) Via.refl e57 (V_env.2.1.ext Od.2) (g := (mkF m 42 #[Rv a1, Iv 1] [(.int ((own_lo x0) &&& (255 : Int32)))])) rfl (hb hby d28_42)
  obtain ⟨cl60, Ar60, -, S60, M60, H60, -⟩ := id V1
  have hin60 : ¬ ((1 : Int32) < 0 ∨ cl60.slots.size ≤ ((1 : Int32)).toNatClampNeg) := inb_of S60 ⟨by decide, by decide⟩
  have hat60 : cl60.slots[((1 : Int32)).toNatClampNeg]? = some (.int (own_hi x0)) := Has.at H60 hin60 rfl
  obtain ⟨T61, X61, e61, st61⟩ := getS2 X59 hx hZ hown (host := "") (Or.inl (own_g hw 116)) Via.refl e59 (V_env.2.2.1.ext Od.2) (g := (mkF m 53 #[Rv a1, Iv 1] [(.int ((own_hi x0) &&& (255 : Int32))), (.int (((own_lo x0) &&& (255 : Int32)) <<< ((0 : Int32) &&& 31)))])) rfl (hb hby d28_53)
  refine own_by (fun _ k => X57.baloadBytes hx (j := (0 : Int32)) (v := (.int (own_lo x0))) (by rw [e57]; exact Ar58.1) (State.isArrayOf_alike hZ.alike Ar58.2.1) Ar58.2.2 hin58 hat58 (g := (mkF m 37 #[Rv a1, Iv 1] [(.int 0), (.ref a1)])) rfl rfl (hb hby d28_37) _ (XS.sipush X57.here hx rfl (hb hby d28_38) (XS.iand X57.here hx rfl (hb hby d28_41) rfl (st59 _ (XS.ishl X59.here hx rfl (hb hby d28_45) rfl (XS.aloadN X59.here hx rfl (hb hby d28_46) rfl rfl (XS.iloadN X59.here hx rfl (hb hby d28_47) rfl (X59.baloadBytes hx (j := (1 : Int32)) (v := (.int (own_hi x0))) (by rw [e59]; exact Ar60.1) (State.isArrayOf_alike hZ.alike Ar60.2.1) Ar60.2.2 hin60 hat60 (g := (mkF m 48 #[Rv a1, Iv 1] [(.int 1), (.ref a1), (.int (((own_lo x0) &&& (255 : Int32)) <<< ((0 : Int32) &&& 31)))])) rfl rfl (hb hby d28_48) _ (XS.sipush X59.here hx rfl (hb hby d28_49) (XS.iand X59.here hx rfl (hb hby d28_52) rfl k)))))))))) ?_
  show own_Fin _ _ _ _ _ _ _ T59 (mkF m 53 #[Rv a1, Iv 1] [(.int ((own_hi x0) &&& (255 : Int32))), (.int (((own_lo x0) &&& (255 : Int32)) <<< ((0 : Int32) &&& 31)))])
  refine own_by (fun _ k => st61 _ (XS.ishl X61.here hx rfl (hb hby d28_56) rfl (XS.ior X61.here hx rfl (hb hby d28_57) rfl (XS.i2c X61.here hx rfl (hb hby d28_58) rfl k)))) ?_
  exact own_retZ X61 hx hlk (t := .char) hret (by simp) (hb hby d28_59) ⟨own_vi (own_u16 hch), N0, e61⟩ (by decide) (by decide)
def own_QrmGC2_1 (x0 x1 : Int32) (h0 : Heap) (n0 : Nat) (v : Option Value) (h : Heap) (L : List Loc) : Prop := v = some (.int x1) ∧ Fr n0 L ∧ h = h0
set_option maxRecDepth 65536 in
set_option maxHeartbeats 40000000 in
theorem rmGC2_1 (l : Launch) (Z : State) (a0 : Array Value) (hw : own_W a0 Z) (ws : List Jvm.Cond) (cs : Int32) (gS : Value) (a1 : Addr) (k1 : ClassId) (x0 x1 : Int32) (h0 : Heap) (n0 : Nat) (Z0 : n0 ≤ h0.size) (V_env : own_Env Z cs gS) (Od : Old Z n0 h0) (V1 : Arv Z h0 a1 k1 .byte (4 : Int32) [(.int (own_lo x0)), (.int (own_hi x0)), (.int (own_lo x1)), (.int (own_hi x1))] (.int (0 : Int32))) (hch : own_ch x1) : own_Met l Z mn8 jdk_52_method_5_code 2 (some .char) ws (own_R 0 0 0 0) #[(.ref a1), (.int (1 : Int32))] h0 (own_QrmGC2_1 x0 x1 h0 n0) := by
  refine own_enter n0 (plainFor_of_name own_pn58) (fun m => ef_RI_2 m a1 (1 : Int32) ) (fun p e s m below meth c s₁ hx hby hlk hml hret hown hnm hZ X0 e0 N0 => ?_)
  show own_Fin _ _ _ _ _ _ _ s₁ (mkF m 0 #[Rv a1, Iv 1] [])
  obtain ⟨T62, X62, e62, st62⟩ := getS2 X0 hx hZ hown (host := "") (Or.inl (own_g hw 114)) Via.refl e0 (V_env.1.ext Od.2) (g := (mkF m 0 #[Rv a1, Iv 1] [])) rfl (hb hby d28_0)
  refine own_by (fun _ k => st62 _ (XS.ifYes X62.here hx rfl (pc0 := 3) (pc' := 28) rfl (hb hby d28_3) rfl ((if0 _ _).trans (feq (by decide : ¬ ((1 : Int32) = (0 : Int32)))).2) (by decide) (by decide) (XS.iloadN X62.here hx rfl (hb hby d28_28) rfl (XS.iconst X62.here hx rfl (hb hby d28_29) (XS.ishl X62.here hx rfl (hb hby d28_30) rfl k))))) ?_
  show own_Fin _ _ _ _ _ _ _ T62 (mkF m 31 #[Rv a1, Iv 1] [(.int ((1 : Int32) <<< ((1 : Int32) &&& 31)))])
  rw [(by decide : ((1 : Int32) <<< ((1 : Int32) &&& 31)) = (2 : Int32))]
  show own_Fin _ _ _ _ _ _ _ T62 (mkF m 31 #[Rv a1, Iv 1] [(.int 2)])
  refine own_by (fun _ k => XS.istoreN X62.here hx rfl (hb hby d28_31) rfl (l' := #[Rv a1, Iv 2]) rfl (XS.aloadN X62.here hx rfl (hb hby d28_32) rfl rfl (XS.iloadN X62.here hx rfl (hb hby d28_33) rfl (XS.iinc X62.here hx rfl (hb hby d28_34) rfl (l' := #[Rv a1, Iv ((2 : Int32) + (1 : Int32))]) rfl k)))) ?_
  show own_Fin _ _ _ _ _ _ _ T62 (mkF m 37 #[Rv a1, Iv ((2 : Int32) + (1 : Int32))] [(.int 2), (.ref a1)])
  rw [(by decide : ((2 : Int32) + (1 : Int32)) = (3 : Int32))]
  show own_Fin _ _ _ _ _ _ _ T62 (mkF m 37 #[Rv a1, Iv 3] [(.int 2), (.ref a1)])
  obtain ⟨cl63, Ar63, -, S63, M63, H63, -⟩ := id V1
  have hin63 : ¬ ((2 : Int32) < 0 ∨ cl63.slots.size ≤ ((2 : Int32)).toNatClampNeg) := inb_of S63 ⟨by decide, by decide⟩
  have hat63 : cl63.slots[((2 : Int32)).toNatClampNeg]? = some (.int (own_lo x1)) := Has.at H63 hin63 rfl
  obtain ⟨T64, X64, e64, st64⟩ := getS2 X62 hx hZ hown (host := "") (Or.inl (own_g hw 115)) Via.refl e62 (V_env.2.1.ext Od.2) (g := (mkF m 42 #[Rv a1, Iv 3] [(.int ((own_lo x1) &&& (255 : Int32)))])) rfl (hb hby d28_42)
  obtain ⟨cl65, Ar65, -, S65, M65, H65, -⟩ := id V1
  have hin65 : ¬ ((3 : Int32) < 0 ∨ cl65.slots.size ≤ ((3 : Int32)).toNatClampNeg) := inb_of S65 ⟨by decide, by decide⟩
  have hat65 : cl65.slots[((3 : Int32)).toNatClampNeg]? = some (.int (own_hi x1)) := Has.at H65 hin65 rfl
  obtain ⟨T66, X66, e66, st66⟩ := getS2 X64 hx hZ hown (host := "") (Or.inl (own_g hw 116)) Via.refl e64 (V_env.2.2.1.ext Od.2) (g := (mkF m 53 #[Rv a1, Iv 3] [(.int ((own_hi x1) &&& (255 : Int32))), (.int (((own_lo x1) &&& (255 : Int32)) <<< ((0 : Int32) &&& 31)))])) rfl (hb hby d28_53)
  refine own_by (fun _ k => X62.baloadBytes hx (j := (2 : Int32)) (v := (.int (own_lo x1))) (by rw [e62]; exact Ar63.1) (State.isArrayOf_alike hZ.alike Ar63.2.1) Ar63.2.2 hin63 hat63 (g := (mkF m 37 #[Rv a1, Iv 3] [(.int 2), (.ref a1)])) rfl rfl (hb hby d28_37) _ (XS.sipush X62.here hx rfl (hb hby d28_38) (XS.iand X62.here hx rfl (hb hby d28_41) rfl (st64 _ (XS.ishl X64.here hx rfl (hb hby d28_45) rfl (XS.aloadN X64.here hx rfl (hb hby d28_46) rfl rfl (XS.iloadN X64.here hx rfl (hb hby d28_47) rfl (X64.baloadBytes hx (j := (3 : Int32)) (v := (.int (own_hi x1))) (by rw [e64]; exact Ar65.1) (State.isArrayOf_alike hZ.alike Ar65.2.1) Ar65.2.2 hin65 hat65 (g := (mkF m 48 #[Rv a1, Iv 3] [(.int 3), (.ref a1), (.int (((own_lo x1) &&& (255 : Int32)) <<< ((0 : Int32) &&& 31)))])) rfl rfl (hb hby d28_48) _ (XS.sipush X64.here hx rfl (hb hby d28_49) (XS.iand X64.here hx rfl (hb hby d28_52) rfl k)))))))))) ?_
  show own_Fin _ _ _ _ _ _ _ T64 (mkF m 53 #[Rv a1, Iv 3] [(.int ((own_hi x1) &&& (255 : Int32))), (.int (((own_lo x1) &&& (255 : Int32)) <<< ((0 : Int32) &&& 31)))])
  refine own_by (fun _ k => st66 _ (XS.ishl X66.here hx rfl (hb hby d28_56) rfl (XS.ior X66.here hx rfl (hb hby d28_57) rfl (XS.i2c X66.here hx rfl (hb hby d28_58) rfl k)))) ?_
  exact own_retZ X66 hx hlk (t := .char) hret (by simp) (hb hby d28_59) ⟨own_vi (own_u16 hch), N0, e66⟩ (by decide) (by decide)
def own_bad2 (r : Int32) (x0 x1 : Int32) : Prop := (r = (0 : Int32) ∧ (255 : Int32) < x0) ∨ (r = (1 : Int32) ∧ (255 : Int32) < x1)
theorem d16_0 : decode jdk_52_method_21_code 0 = .ok (.iconst 0, 1) := by decide +kernel
theorem d16_1 : decode jdk_52_method_21_code 1 = .ok (.istore 5, 2) := by decide +kernel
theorem d16_3 : decode jdk_52_method_21_code 3 = .ok (.iload 5, 2) := by decide +kernel
theorem d16_5 : decode jdk_52_method_21_code 5 = .ok (.iload 4, 2) := by decide +kernel
theorem d16_7 : decode jdk_52_method_21_code 7 = .ok (.if_icmp .ge 37, 3) := by decide +kernel
theorem d16_10 : decode jdk_52_method_21_code 10 = .ok (.aload_n 0, 1) := by decide +kernel
theorem d16_11 : decode jdk_52_method_21_code 11 = .ok (.iload_n 1, 1) := by decide +kernel
theorem d16_12 : decode jdk_52_method_21_code 12 = .ok (.caload, 1) := by decide +kernel
theorem d16_13 : decode jdk_52_method_21_code 13 = .ok (.istore 6, 2) := by decide +kernel
theorem d16_15 : decode jdk_52_method_21_code 15 = .ok (.iload 6, 2) := by decide +kernel
theorem d16_17 : decode jdk_52_method_21_code 17 = .ok (.sipush 255, 3) := by decide +kernel
theorem d16_20 : decode jdk_52_method_21_code 20 = .ok (.if_icmp .le 6, 3) := by decide +kernel
theorem d16_23 : decode jdk_52_method_21_code 23 = .ok (.iload 5, 2) := by decide +kernel
theorem d16_25 : decode jdk_52_method_21_code 25 = .ok (.ireturn, 1) := by decide +kernel
theorem d16_26 : decode jdk_52_method_21_code 26 = .ok (.aload_n 2, 1) := by decide +kernel
theorem d16_27 : decode jdk_52_method_21_code 27 = .ok (.iload_n 3, 1) := by decide +kernel
theorem d16_28 : decode jdk_52_method_21_code 28 = .ok (.iload 6, 2) := by decide +kernel
theorem d16_30 : decode jdk_52_method_21_code 30 = .ok (.i2b, 1) := by decide +kernel
theorem d16_31 : decode jdk_52_method_21_code 31 = .ok (.bastore, 1) := by decide +kernel
theorem d16_32 : decode jdk_52_method_21_code 32 = .ok (.iinc 1 1, 3) := by decide +kernel
theorem d16_35 : decode jdk_52_method_21_code 35 = .ok (.iinc 3 1, 3) := by decide +kernel
theorem d16_38 : decode jdk_52_method_21_code 38 = .ok (.iinc 5 1, 3) := by decide +kernel
theorem d16_41 : decode jdk_52_method_21_code 41 = .ok (.goto (-38), 3) := by decide +kernel
theorem d16_44 : decode jdk_52_method_21_code 44 = .ok (.iload 4, 2) := by decide +kernel
theorem d16_46 : decode jdk_52_method_21_code 46 = .ok (.ireturn, 1) := by decide +kernel
theorem ef_RIRII_7 (m : MethodId) (x0 : Addr) (x1 : Int32) (x2 : Addr) (x3 : Int32) (x4 : Int32) : entryFrame m #[(.ref x0), (.int x1), (.ref x2), (.int x3), (.int x4)] 7 = mkF m 0 #[.val (.ref x0), .val (.int x1), .val (.ref x2), .val (.int x3), .val (.int x4), .unset, .unset] [] := by first | (simp [entryFrame, mkF, argsToLocals, Value.category]; done) | rfl
def own_QXI2 (Z : State) (a3 : Addr) (kb : ClassId) (x0 x1 : Int32) (h0 : Heap) (n0 : Nat) (v : Option Value) (h : Heap) (L : List Loc) : Prop := ∃ r : Int32, v = some (.int r) ∧ Fr n0 L ∧ Keep h0 h [a3] ∧ ((r = (2 : Int32) ∧ Arv Z h a3 kb .byte (2 : Int32) [(.int x0.toInt8.toInt32), (.int x1.toInt8.toInt32)] (.int (0 : Int32)) ∧ ¬ (255 : Int32) < x0 ∧ ¬ (255 : Int32) < x1) ∨ own_bad2 r x0 x1)
set_option maxRecDepth 65536 in
set_option maxHeartbeats 40000000 in
theorem rmXI2 (l : Launch) (Z : State) (a0 : Array Value) (hw : own_W a0 Z) (ws : List Jvm.Cond) (a1 a3 : Addr) (kc kb : ClassId) (x0 x1 : Int32) (h0 : Heap) (n0 : Nat) (Z0 : n0 ≤ h0.size) (V1 : Arv Z h0 a1 kc .char (2 : Int32) [(.int x0), (.int x1)] (.int (0 : Int32))) (V3 : Arv Z h0 a3 kb .byte (2 : Int32) [(.int (0 : Int32)), (.int (0 : Int32))] (.int (0 : Int32))) (ne13 : a1 ≠ a3) (g_3 : n0 ≤ a3) : own_Met l Z mn9 jdk_52_method_21_code 7 (some .int) ws (own_R 0 0 0 0) #[(.ref a1), (.int (0 : Int32)), (.ref a3), (.int (0 : Int32)), (.int (2 : Int32))] h0 (own_QXI2 Z a3 kb x0 x1 h0 n0) := by
  refine own_enter n0 (plainFor_of_name own_pn58) (fun m => ef_RIRII_7 m a1 (0 : Int32) a3 (0 : Int32) (2 : Int32) ) (fun p e s m below meth c s₁ hx hby hlk hml hret hown hnm hZ X0 e0 N0 => ?_)
  show own_Fin _ _ _ _ _ _ _ s₁ (mkF m 0 #[Rv a1, Iv 0, Rv a3, Iv 0, Iv 2, Uv, Uv] [])
  have Kp67 : Keep h0 h0 [a3] := Keep.refl h0 _
  obtain ⟨cl68, Ar68, -, S68, M68, H68, -⟩ := id V1
  have hin68 : ¬ ((0 : Int32) < 0 ∨ cl68.slots.size ≤ ((0 : Int32)).toNatClampNeg) := inb_of S68 ⟨by decide, by decide⟩
  have hat68 : cl68.slots[((0 : Int32)).toNatClampNeg]? = some (.int x0) := Has.at H68 hin68 rfl
  refine own_by (fun _ k => XS.iconst X0.here hx rfl (hb hby d16_0) (XS.istore X0.here hx rfl (hb hby d16_1) rfl (l' := #[Rv a1, Iv 0, Rv a3, Iv 0, Iv 2, Iv 0, Uv]) rfl (XS.iload X0.here hx rfl (hb hby d16_3) rfl (XS.iload X0.here hx rfl (hb hby d16_5) rfl (XS.icmpNo X0.here hx rfl (hb hby d16_7) rfl (tlt (by decide : (0 : Int32) < (2 : Int32))).2.1 (XS.aloadN X0.here hx rfl (hb hby d16_10) rfl rfl (XS.iloadN X0.here hx rfl (hb hby d16_11) rfl (X0.caload hx (j := (0 : Int32)) (v := (.int x0)) (by rw [e0]; exact Ar68.1) (State.isArrayOf_alike hZ.alike Ar68.2.1) Ar68.2.2 hin68 hat68 (g := (mkF m 12 #[Rv a1, Iv 0, Rv a3, Iv 0, Iv 2, Iv 0, Uv] [(.int 0), (.ref a1)])) rfl rfl (hb hby d16_12) _ (XS.istore X0.here hx rfl (hb hby d16_13) rfl (l' := #[Rv a1, Iv 0, Rv a3, Iv 0, Iv 2, Iv 0, Iv x0]) rfl (XS.iload X0.here hx rfl (hb hby d16_15) rfl k)))))))))) ?_
  show own_Fin _ _ _ _ _ _ _ s₁ (mkF m 17 #[Rv a1, Iv 0, Rv a3, Iv 0, Iv 2, Iv 0, Iv x0] [(.int x0)])
  refine own_by (fun _ k => XS.sipush X0.here hx rfl (hb hby d16_17) k) ?_
  show own_Fin _ _ _ _ _ _ _ s₁ (mkF m 20 #[Rv a1, Iv 0, Rv a3, Iv 0, Iv 2, Iv 0, Iv x0] [(.int 255), (.int x0)])
  by_cases hc20_69 : (255 : Int32) < x0
  · show own_Fin _ _ _ _ _ _ _ s₁ (mkF m 20 #[Rv a1, Iv 0, Rv a3, Iv 0, Iv 2, Iv 0, Iv x0] [(.int 255), (.int x0)])
    refine own_by (fun _ k => XS.icmpNo X0.here hx rfl (hb hby d16_20) rfl (tlt hc20_69).2.2.2 (XS.iload X0.here hx rfl (hb hby d16_23) rfl k)) ?_
    exact own_retI X0 hx hlk hret (hb hby d16_25) (by rw [e0]; exact ⟨_, rfl, N0, Kp67, Or.inr (Or.inl ⟨rfl, hc20_69⟩)⟩) (by decide) (by decide)
  · show own_Fin _ _ _ _ _ _ _ s₁ (mkF m 20 #[Rv a1, Iv 0, Rv a3, Iv 0, Iv 2, Iv 0, Iv x0] [(.int 255), (.int x0)])
    obtain ⟨cl70, Ar70, q70, S70, M70, H70, G70⟩ := id V3
    have hin70 : ¬ ((0 : Int32) < 0 ∨ cl70.slots.size ≤ ((0 : Int32)).toNatClampNeg) := inb_of S70 ⟨by decide, by decide⟩
    obtain ⟨T70, h70, X70, e70, W70, st70⟩ := stB X0 hx hZ e0 Ar70 (j := (0 : Int32)) hin70 (g := (mkF m 31 #[Rv a1, Iv 0, Rv a3, Iv 0, Iv 2, Iv 0, Iv x0] [(.int (x0.toInt8.toInt32)), (.int 0), (.ref a3)])) rfl rfl (hb hby d16_31)
    have V70 : Arv Z h70 a3 kb .byte (2 : Int32) [(.int (x0.toInt8.toInt32).toInt8.toInt32), (.int (0 : Int32))] (.int (0 : Int32)) := Arv.set Ar70 q70 S70 M70 H70 G70 (fits_nar_byte _) W70 0 rfl (Nat.le_of_ble_eq_true rfl)
    have Kp70 : Keep h0 h70 [a3] := Kp67.wr W70 (Or.inl (List.mem_of_getElem? (i := 0) rfl))
    have Zs70 : n0 ≤ h70.size := Nat.le_trans Z0 (Keep.of_wr W70).1
    have N70 := Fr.snoc X70 N0 g_3
    have f71_0 : Arv Z h70 a1 kc .char (2 : Int32) [(.int x0), (.int x1)] (.int (0 : Int32)) := V1.other W70 ne13
    refine own_by (fun _ k => XS.icmpYes X0.here hx rfl (pc0 := 20) (pc' := 26) rfl (hb hby d16_20) rfl (flt hc20_69).2.2.2 (by decide) (by decide) (XS.aloadN X0.here hx rfl (hb hby d16_26) rfl rfl (XS.iloadN X0.here hx rfl (hb hby d16_27) rfl (XS.iload X0.here hx rfl (hb hby d16_28) rfl (XS.i2b X0.here hx rfl (hb hby d16_30) rfl (st70 _ (XS.iinc X70.here hx rfl (hb hby d16_32) rfl (l' := #[Rv a1, Iv ((0 : Int32) + (1 : Int32)), Rv a3, Iv 0, Iv 2, Iv 0, Iv x0]) rfl k))))))) ?_
    show own_Fin _ _ _ _ _ _ _ T70 (mkF m 35 #[Rv a1, Iv ((0 : Int32) + (1 : Int32)), Rv a3, Iv 0, Iv 2, Iv 0, Iv x0] [])
    rw [(by decide : ((0 : Int32) + (1 : Int32)) = (1 : Int32))]
    show own_Fin _ _ _ _ _ _ _ T70 (mkF m 35 #[Rv a1, Iv 1, Rv a3, Iv 0, Iv 2, Iv 0, Iv x0] [])
    refine own_by (fun _ k => XS.iinc X70.here hx rfl (hb hby d16_35) rfl (l' := #[Rv a1, Iv 1, Rv a3, Iv ((0 : Int32) + (1 : Int32)), Iv 2, Iv 0, Iv x0]) rfl k) ?_
    show own_Fin _ _ _ _ _ _ _ T70 (mkF m 38 #[Rv a1, Iv 1, Rv a3, Iv ((0 : Int32) + (1 : Int32)), Iv 2, Iv 0, Iv x0] [])
    rw [(by decide : ((0 : Int32) + (1 : Int32)) = (1 : Int32))]
    show own_Fin _ _ _ _ _ _ _ T70 (mkF m 38 #[Rv a1, Iv 1, Rv a3, Iv 1, Iv 2, Iv 0, Iv x0] [])
    refine own_by (fun _ k => XS.iinc X70.here hx rfl (hb hby d16_38) rfl (l' := #[Rv a1, Iv 1, Rv a3, Iv 1, Iv 2, Iv ((0 : Int32) + (1 : Int32)), Iv x0]) rfl k) ?_
    show own_Fin _ _ _ _ _ _ _ T70 (mkF m 41 #[Rv a1, Iv 1, Rv a3, Iv 1, Iv 2, Iv ((0 : Int32) + (1 : Int32)), Iv x0] [])
    rw [(by decide : ((0 : Int32) + (1 : Int32)) = (1 : Int32))]
    show own_Fin _ _ _ _ _ _ _ T70 (mkF m 41 #[Rv a1, Iv 1, Rv a3, Iv 1, Iv 2, Iv 1, Iv x0] [])
    obtain ⟨cl72, Ar72, -, S72, M72, H72, -⟩ := id f71_0
    have hin72 : ¬ ((1 : Int32) < 0 ∨ cl72.slots.size ≤ ((1 : Int32)).toNatClampNeg) := inb_of S72 ⟨by decide, by decide⟩
    have hat72 : cl72.slots[((1 : Int32)).toNatClampNeg]? = some (.int x1) := Has.at H72 hin72 rfl
    refine own_by (fun _ k => XS.goto X70.here hx rfl (pc0 := 41) (pc' := 3) rfl (hb hby d16_41) (by decide) (by decide) (XS.iload X70.here hx rfl (hb hby d16_3) rfl (XS.iload X70.here hx rfl (hb hby d16_5) rfl (XS.icmpNo X70.here hx rfl (hb hby d16_7) rfl (tlt (by decide : (1 : Int32) < (2 : Int32))).2.1 (XS.aloadN X70.here hx rfl (hb hby d16_10) rfl rfl (XS.iloadN X70.here hx rfl (hb hby d16_11) rfl (X70.caload hx (j := (1 : Int32)) (v := (.int x1)) (by rw [e70]; exact Ar72.1) (State.isArrayOf_alike hZ.alike Ar72.2.1) Ar72.2.2 hin72 hat72 (g := (mkF m 12 #[Rv a1, Iv 1, Rv a3, Iv 1, Iv 2, Iv 1, Iv x0] [(.int 1), (.ref a1)])) rfl rfl (hb hby d16_12) _ (XS.istore X70.here hx rfl (hb hby d16_13) rfl (l' := #[Rv a1, Iv 1, Rv a3, Iv 1, Iv 2, Iv 1, Iv x1]) rfl (XS.iload X70.here hx rfl (hb hby d16_15) rfl (XS.sipush X70.here hx rfl (hb hby d16_17) k)))))))))) ?_
    show own_Fin _ _ _ _ _ _ _ T70 (mkF m 20 #[Rv a1, Iv 1, Rv a3, Iv 1, Iv 2, Iv 1, Iv x1] [(.int 255), (.int x1)])
    by_cases hc20_73 : (255 : Int32) < x1
    · show own_Fin _ _ _ _ _ _ _ T70 (mkF m 20 #[Rv a1, Iv 1, Rv a3, Iv 1, Iv 2, Iv 1, Iv x1] [(.int 255), (.int x1)])
      refine own_by (fun _ k => XS.icmpNo X70.here hx rfl (hb hby d16_20) rfl (tlt hc20_73).2.2.2 (XS.iload X70.here hx rfl (hb hby d16_23) rfl k)) ?_
      exact own_retI X70 hx hlk hret (hb hby d16_25) (by rw [e70]; exact ⟨_, rfl, N70, Kp70, Or.inr (Or.inr ⟨rfl, hc20_73⟩)⟩) (by decide) (by decide)
    · show own_Fin _ _ _ _ _ _ _ T70 (mkF m 20 #[Rv a1, Iv 1, Rv a3, Iv 1, Iv 2, Iv 1, Iv x1] [(.int 255), (.int x1)])
      obtain ⟨cl74, Ar74, q74, S74, M74, H74, G74⟩ := id V70
      have hin74 : ¬ ((1 : Int32) < 0 ∨ cl74.slots.size ≤ ((1 : Int32)).toNatClampNeg) := inb_of S74 ⟨by decide, by decide⟩
      obtain ⟨T74, h74, X74, e74, W74, st74⟩ := stB X70 hx hZ e70 Ar74 (j := (1 : Int32)) hin74 (g := (mkF m 31 #[Rv a1, Iv 1, Rv a3, Iv 1, Iv 2, Iv 1, Iv x1] [(.int (x1.toInt8.toInt32)), (.int 1), (.ref a3)])) rfl rfl (hb hby d16_31)
      have V74 : Arv Z h74 a3 kb .byte (2 : Int32) [(.int (x0.toInt8.toInt32).toInt8.toInt32), (.int (x1.toInt8.toInt32).toInt8.toInt32)] (.int (0 : Int32)) := Arv.set Ar74 q74 S74 M74 H74 G74 (fits_nar_byte _) W74 1 rfl (Nat.le_of_ble_eq_true rfl)
      have Kp74 : Keep h0 h74 [a3] := Kp70.wr W74 (Or.inl (List.mem_of_getElem? (i := 0) rfl))
      have Zs74 : n0 ≤ h74.size := Nat.le_trans Zs70 (Keep.of_wr W74).1
      have N74 := Fr.snoc X74 N70 g_3
      have f75_0 : Arv Z h74 a1 kc .char (2 : Int32) [(.int x0), (.int x1)] (.int (0 : Int32)) := f71_0.other W74 ne13
      refine own_by (fun _ k => XS.icmpYes X70.here hx rfl (pc0 := 20) (pc' := 26) rfl (hb hby d16_20) rfl (flt hc20_73).2.2.2 (by decide) (by decide) (XS.aloadN X70.here hx rfl (hb hby d16_26) rfl rfl (XS.iloadN X70.here hx rfl (hb hby d16_27) rfl (XS.iload X70.here hx rfl (hb hby d16_28) rfl (XS.i2b X70.here hx rfl (hb hby d16_30) rfl (st74 _ (XS.iinc X74.here hx rfl (hb hby d16_32) rfl (l' := #[Rv a1, Iv ((1 : Int32) + (1 : Int32)), Rv a3, Iv 1, Iv 2, Iv 1, Iv x1]) rfl k))))))) ?_
      show own_Fin _ _ _ _ _ _ _ T74 (mkF m 35 #[Rv a1, Iv ((1 : Int32) + (1 : Int32)), Rv a3, Iv 1, Iv 2, Iv 1, Iv x1] [])
      rw [(by decide : ((1 : Int32) + (1 : Int32)) = (2 : Int32))]
      show own_Fin _ _ _ _ _ _ _ T74 (mkF m 35 #[Rv a1, Iv 2, Rv a3, Iv 1, Iv 2, Iv 1, Iv x1] [])
      refine own_by (fun _ k => XS.iinc X74.here hx rfl (hb hby d16_35) rfl (l' := #[Rv a1, Iv 2, Rv a3, Iv ((1 : Int32) + (1 : Int32)), Iv 2, Iv 1, Iv x1]) rfl k) ?_
      show own_Fin _ _ _ _ _ _ _ T74 (mkF m 38 #[Rv a1, Iv 2, Rv a3, Iv ((1 : Int32) + (1 : Int32)), Iv 2, Iv 1, Iv x1] [])
      rw [(by decide : ((1 : Int32) + (1 : Int32)) = (2 : Int32))]
      show own_Fin _ _ _ _ _ _ _ T74 (mkF m 38 #[Rv a1, Iv 2, Rv a3, Iv 2, Iv 2, Iv 1, Iv x1] [])
      refine own_by (fun _ k => XS.iinc X74.here hx rfl (hb hby d16_38) rfl (l' := #[Rv a1, Iv 2, Rv a3, Iv 2, Iv 2, Iv ((1 : Int32) + (1 : Int32)), Iv x1]) rfl k) ?_
      show own_Fin _ _ _ _ _ _ _ T74 (mkF m 41 #[Rv a1, Iv 2, Rv a3, Iv 2, Iv 2, Iv ((1 : Int32) + (1 : Int32)), Iv x1] [])
      rw [(by decide : ((1 : Int32) + (1 : Int32)) = (2 : Int32))]
      show own_Fin _ _ _ _ _ _ _ T74 (mkF m 41 #[Rv a1, Iv 2, Rv a3, Iv 2, Iv 2, Iv 2, Iv x1] [])
      refine own_by (fun _ k => XS.goto X74.here hx rfl (pc0 := 41) (pc' := 3) rfl (hb hby d16_41) (by decide) (by decide) (XS.iload X74.here hx rfl (hb hby d16_3) rfl (XS.iload X74.here hx rfl (hb hby d16_5) rfl (XS.icmpYes X74.here hx rfl (pc0 := 7) (pc' := 44) rfl (hb hby d16_7) rfl (flt (by decide : ¬ ((2 : Int32) < (2 : Int32)))).2.1 (by decide) (by decide) (XS.iload X74.here hx rfl (hb hby d16_44) rfl k))))) ?_
      exact own_retI X74 hx hlk hret (hb hby d16_46) (by rw [e74]; exact ⟨_, rfl, N74, Kp74, Or.inl ⟨rfl, (by have q := V74; simp only [own_b8] at q; exact q), hc20_69, hc20_73⟩⟩) (by decide) (by decide)
theorem d15_0 : decode jdk_52_method_16_code 0 = .ok (.iload_n 2, 1) := by decide +kernel
theorem d15_1 : decode jdk_52_method_16_code 1 = .ok (.newarray .byte, 2) := by decide +kernel
theorem d15_3 : decode jdk_52_method_16_code 3 = .ok (.astore_n 3, 1) := by decide +kernel
theorem d15_4 : decode jdk_52_method_16_code 4 = .ok (.aload_n 0, 1) := by decide +kernel
theorem d15_5 : decode jdk_52_method_16_code 5 = .ok (.iload_n 1, 1) := by decide +kernel
theorem d15_6 : decode jdk_52_method_16_code 6 = .ok (.aload_n 3, 1) := by decide +kernel
theorem d15_7 : decode jdk_52_method_16_code 7 = .ok (.iconst 0, 1) := by decide +kernel
theorem d15_8 : decode jdk_52_method_16_code 8 = .ok (.iload_n 2, 1) := by decide +kernel
theorem d15_9 : decode jdk_52_method_16_code 9 = .ok (.invokestatic 115, 3) := by decide +kernel
theorem own_pd179 : parseMethodDescriptor "([CI[BII)I" = some ⟨[(.array .char), .int, (.array .byte), .int, .int], some .int⟩ := by decide +kernel
theorem d15_12 : decode jdk_52_method_16_code 12 = .ok (.istore 4, 2) := by decide +kernel
theorem d15_14 : decode jdk_52_method_16_code 14 = .ok (.iload 4, 2) := by decide +kernel
theorem d15_16 : decode jdk_52_method_16_code 16 = .ok (.iload_n 2, 1) := by decide +kernel
theorem d15_17 : decode jdk_52_method_16_code 17 = .ok (.if_icmp .eq 40, 3) := by decide +kernel
theorem d15_57 : decode jdk_52_method_16_code 57 = .ok (.aload_n 3, 1) := by decide +kernel
theorem d15_58 : decode jdk_52_method_16_code 58 = .ok (.areturn, 1) := by decide +kernel
theorem d15_20 : decode jdk_52_method_16_code 20 = .ok (.aload_n 0, 1) := by decide +kernel
theorem d15_21 : decode jdk_52_method_16_code 21 = .ok (.iload_n 1, 1) := by decide +kernel
theorem d15_22 : decode jdk_52_method_16_code 22 = .ok (.iload_n 2, 1) := by decide +kernel
theorem d15_23 : decode jdk_52_method_16_code 23 = .ok (.invokestatic 119, 3) := by decide +kernel
theorem own_pd190 : parseMethodDescriptor "([CII)[B" = some ⟨[(.array .char), .int, .int], some (.array .byte)⟩ := by decide +kernel
theorem d15_26 : decode jdk_52_method_16_code 26 = .ok (.astore 5, 2) := by decide +kernel
theorem d15_28 : decode jdk_52_method_16_code 28 = .ok (.aload 5, 2) := by decide +kernel
theorem d15_30 : decode jdk_52_method_16_code 30 = .ok (.iload 4, 2) := by decide +kernel
theorem d15_32 : decode jdk_52_method_16_code 32 = .ok (.invokestatic 71, 3) := by decide +kernel
theorem own_pd195 : parseMethodDescriptor "([BI)C" = some ⟨[(.array .byte), .int], some .char⟩ := by decide +kernel
theorem d15_35 : decode jdk_52_method_16_code 35 = .ok (.sipush 255, 3) := by decide +kernel
theorem d15_38 : decode jdk_52_method_16_code 38 = .ok (.if_icmp .gt 16, 3) := by decide +kernel
theorem d15_54 : decode jdk_52_method_16_code 54 = .ok (.aload 5, 2) := by decide +kernel
theorem d15_56 : decode jdk_52_method_16_code 56 = .ok (.areturn, 1) := by decide +kernel
theorem ef_RII_6 (m : MethodId) (x0 : Addr) (x1 : Int32) (x2 : Int32) : entryFrame m #[(.ref x0), (.int x1), (.int x2)] 6 = mkF m 0 #[.val (.ref x0), .val (.int x1), .val (.int x2), .unset, .unset, .unset] [] := by first | (simp [entryFrame, mkF, argsToLocals, Value.category]; done) | rfl
def own_QXO2 (Z : State) (x0 x1 : Int32) (h0 : Heap) (n0 : Nat) (v : Option Value) (h : Heap) (L : List Loc) : Prop := ∃ (a : Addr) (k : ClassId), v = some (.ref a) ∧ Fr n0 L ∧ Keep h0 h [] ∧ h0.size ≤ a ∧ ((Arv Z h a k .byte (2 : Int32) [(.int x0.toInt8.toInt32), (.int x1.toInt8.toInt32)] (.int (0 : Int32)) ∧ ¬ (255 : Int32) < x0 ∧ ¬ (255 : Int32) < x1) ∨ Arv Z h a k .byte (4 : Int32) [(.int (own_lo x0)), (.int (own_hi x0)), (.int (own_lo x1)), (.int (own_hi x1))] (.int (0 : Int32)))
set_option maxRecDepth 65536 in
set_option maxHeartbeats 40000000 in
theorem rmXO2 (l : Launch) (Z : State) (a0 : Array Value) (hw : own_W a0 Z) (ws : List Jvm.Cond) (cs : Int32) (gS : Value) (a1 : Addr) (kc : ClassId) (x0 x1 : Int32) (h0 : Heap) (n0 : Nat) (Z0 : n0 ≤ h0.size) (V_env : own_Env Z cs gS) (Od : Old Z n0 h0) (V1 : Arv Z h0 a1 kc .char (2 : Int32) [(.int x0), (.int x1)] (.int (0 : Int32))) (hx0 : own_ch x0) (hx1 : own_ch x1) : own_Met l Z mn10 jdk_52_method_16_code 6 (some (.array .byte)) ws (own_R 3 2 6 40) #[(.ref a1), (.int (0 : Int32)), (.int (2 : Int32))] h0 (own_QXO2 Z x0 x1 h0 n0) := by
  refine own_enter n0 (plainFor_of_name own_pn58) (fun m => ef_RII_6 m a1 (0 : Int32) (2 : Int32) ) (fun p e s m below meth c s₁ hx hby hlk hml hret hown hnm hZ X0 e0 N0 => ?_)
  show own_Fin _ _ _ _ _ _ _ s₁ (mkF m 0 #[Rv a1, Iv 0, Iv 2, Uv, Uv, Uv] [])
  have Kp76 : Keep h0 h0 [] := Keep.refl h0 _
  obtain ⟨T77, h77, k77, X77, e77, E77, A77, st77⟩ := newP X0 hx hZ (own_g hw 21) e0 (g := (mkF m 1 #[Rv a1, Iv 0, Iv 2, Uv, Uv, Uv] [(.int 2)])) rfl (hb hby d15_1) rfl (by decide) (cap := 2) (by decide) (by decide) (by decide) (by decide)
  obtain ⟨b77, g77⟩ : ∃ z, z = h0.size := ⟨_, rfl⟩
  rw [← g77] at A77 st77
  have V77 : Arv Z h77 b77 k77 .byte (2 : Int32) [(.int (0 : Int32)), (.int (0 : Int32))] (.int (0 : Int32)) := (Arv.new A77 (by decide)).pad (pad_rep [] (.int (0 : Int32)) 2)
  have ne77_a1 : a1 ≠ b77 := Nat.ne_of_lt (Nat.lt_of_lt_of_le V1.lt (Nat.le_of_eq g77.symm))
  have gf77 : n0 ≤ b77 := Nat.le_trans Z0 (Nat.le_of_eq g77.symm)
  have Zs77 : n0 ≤ h77.size := Nat.le_trans Z0 E77.1
  have Kp77 : Keep h0 h77 [] := Kp76.ext E77
  have sz_b77 : h0.size ≤ b77 := Nat.le_trans Kp76.1 (Nat.le_of_eq g77.symm)
  have f78_0 : Old Z n0 h77 := Od.ext E77
  have f78_1 : Arv Z h77 a1 kc .char (2 : Int32) [(.int x0), (.int x1)] (.int (0 : Int32)) := V1.ext E77
  obtain ⟨_, _, ⟨T79, L79, k79, n79⟩, -, X79, ⟨Lc79, hQ79, l79, y79, z79⟩, st79⟩ := LawKit.callS X77 hx (y := mn9) hown (own_m hZ hw 76) (own_m hZ hw 77) (own_m hZ hw 74) (own_m hZ hw 78) (by decide) (backOf (W := 0) (rmXI2 l Z a0 hw [] a1 b77 kc k77 x0 x1 h77 n0 Zs77 f78_1 V77 ne77_a1 gf77) hZ (own_g hw 78) (own_g hw 74) (by decide) (by decide)) (g := (mkF m 9 #[Rv a1, Iv 0, Iv 2, Rv b77, Uv, Uv] [(.int 2), (.int 0), (.ref b77), (.int 0), (.ref a1)])) rfl (by rw [hml]; rfl) (argsL := [(.ref a1), (.int (0 : Int32)), (.ref b77), (.int (0 : Int32)), (.int (2 : Int32))]) (rest := []) (lenOf own_pd179 rfl) rfl (own_z rfl) (hb hby d15_9) (fun _ _ => ⟨rfl, e77, (by decide : 1 + 0 ≤ _), (by decide : 2 + 0 ≤ _)⟩)
  dsimp only [Pt.U, Pt.locs, Pt.cells, Pt.slots] at X79 l79 y79 z79 st79 hQ79
  subst l79 y79 z79
  obtain ⟨r79, rfl, Nq79, K79, hd79⟩ := hQ79
  have N79 := Fr.app N0 Nq79
  have Zs79 : n0 ≤ T79.heap.size := Nat.le_trans Zs77 K79.1
  have Kp79 : Keep h0 T79.heap [] := Kp77.trans K79 (allS (Or.inr sz_b77) all0)
  have f80_0 : Old Z n0 T79.heap := f78_0.keep K79 (allS gf77 all0)
  have f80_1 : Arv Z T79.heap a1 kc .char (2 : Int32) [(.int x0), (.int x1)] (.int (0 : Int32)) := f78_1.keep K79 (ninS ne77_a1 nin0)
  refine own_by (fun _ k => XS.iloadN X0.here hx rfl (hb hby d15_0) rfl (st77 _ (XS.astoreN X77.here hx rfl (hb hby d15_3) rfl rfl (l' := #[Rv a1, Iv 0, Iv 2, Rv b77, Uv, Uv]) rfl (XS.aloadN X77.here hx rfl (hb hby d15_4) rfl rfl (XS.iloadN X77.here hx rfl (hb hby d15_5) rfl (XS.aloadN X77.here hx rfl (hb hby d15_6) rfl rfl (XS.iconst X77.here hx rfl (hb hby d15_7) (XS.iloadN X77.here hx rfl (hb hby d15_8) rfl (st79 _ k))))))))) ?_
  rcases hd79 with ⟨rfl, Vr79, hk0, hk1⟩ | ⟨rfl, hb0⟩ | ⟨rfl, hb1⟩
  · show own_Fin _ _ _ _ _ _ _ T79 (mkF m 12 #[Rv a1, Iv 0, Iv 2, Rv b77, Uv, Uv] [(.int 2)])
    refine own_by (fun _ k => XS.istore X79.here hx rfl (hb hby d15_12) rfl (l' := #[Rv a1, Iv 0, Iv 2, Rv b77, Iv 2, Uv]) rfl (XS.iload X79.here hx rfl (hb hby d15_14) rfl (XS.iloadN X79.here hx rfl (hb hby d15_16) rfl (XS.icmpYes X79.here hx rfl (pc0 := 17) (pc' := 57) rfl (hb hby d15_17) rfl (teq (by decide : (2 : Int32) = (2 : Int32))).1 (by decide) (by decide) (XS.aloadN X79.here hx rfl (hb hby d15_57) rfl rfl k))))) ?_
    exact own_retA X79 hx hlk (t := (.array .byte)) hret rfl rfl rfl (hb hby d15_58) ⟨_, _, rfl, N79, Kp79, sz_b77, Or.inl ⟨Vr79, hk0, hk1⟩⟩ (by decide) (by decide)
  · show own_Fin _ _ _ _ _ _ _ T79 (mkF m 12 #[Rv a1, Iv 0, Iv 2, Rv b77, Uv, Uv] [(.int 0)])
    obtain ⟨_, _, ⟨T81, L81, k81, n81⟩, -, X81, ⟨Lc81, hQ81, l81, y81, z81⟩, st81⟩ := LawKit.callS X79 hx (y := mn7) hown (own_m hZ hw 101) (own_m hZ hw 102) (own_m hZ hw 74) (own_m hZ hw 103) (by decide) (backOf (W := 0) (rmTB2 l Z a0 hw [] cs gS a1 kc x0 x1 T79.heap n0 Zs79 V_env f80_0 f80_1) hZ (own_g hw 103) (own_g hw 74) (by decide) (by decide)) (g := (mkF m 23 #[Rv a1, Iv 0, Iv 2, Rv b77, Iv 0, Uv] [(.int 2), (.int 0), (.ref a1)])) rfl (by rw [hml]; rfl) (argsL := [(.ref a1), (.int (0 : Int32)), (.int (2 : Int32))]) (rest := []) (lenOf own_pd190 rfl) rfl (own_z rfl) (hb hby d15_23) (fun _ _ => ⟨rfl, rfl, (by decide : 1 + 1 ≤ _), (by decide : 2 + 4 ≤ _)⟩)
    dsimp only [Pt.U, Pt.locs, Pt.cells, Pt.slots] at X81 l81 y81 z81 st81 hQ81
    subst l81 y81 z81
    obtain ⟨b81, k81, rfl, Nq81, K81, ge81, V81⟩ := hQ81
    have N81 := Fr.app N79 Nq81
    have Zs81 : n0 ≤ T81.heap.size := Nat.le_trans Zs79 K81.1
    have Kp81 : Keep h0 T81.heap [] := Kp79.trans K81 all0
    have f82_0 : Old Z n0 T81.heap := f80_0.keep K81 all0
    have f82_1 : Arv Z T81.heap a1 kc .char (2 : Int32) [(.int x0), (.int x1)] (.int (0 : Int32)) := f80_1.keep K81 nin0
    have ne81_a1 : a1 ≠ b81 := Nat.ne_of_lt (Nat.lt_of_lt_of_le f80_1.lt ge81)
    have gf81 : n0 ≤ b81 := Nat.le_trans Zs79 ge81
    have sz_b81 : h0.size ≤ b81 := Nat.le_trans Kp79.1 ge81
    refine own_by (fun _ k => XS.istore X79.here hx rfl (hb hby d15_12) rfl (l' := #[Rv a1, Iv 0, Iv 2, Rv b77, Iv 0, Uv]) rfl (XS.iload X79.here hx rfl (hb hby d15_14) rfl (XS.iloadN X79.here hx rfl (hb hby d15_16) rfl (XS.icmpNo X79.here hx rfl (hb hby d15_17) rfl (feq (by decide : ¬ ((0 : Int32) = (2 : Int32)))).1 (XS.aloadN X79.here hx rfl (hb hby d15_20) rfl rfl (XS.iloadN X79.here hx rfl (hb hby d15_21) rfl (XS.iloadN X79.here hx rfl (hb hby d15_22) rfl (st81 _ (XS.astore X81.here hx rfl (hb hby d15_26) rfl rfl (l' := #[Rv a1, Iv 0, Iv 2, Rv b77, Iv 0, Rv b81]) rfl (XS.aload X81.here hx rfl (hb hby d15_28) rfl rfl k)))))))))) ?_
    show own_Fin _ _ _ _ _ _ _ T81 (mkF m 30 #[Rv a1, Iv 0, Iv 2, Rv b77, Iv 0, Rv b81] [(.ref b81)])
    obtain ⟨_, _, ⟨T83, L83, k83, n83⟩, -, X83, ⟨Lc83, hQ83, l83, y83, z83⟩, st83⟩ := LawKit.callS X81 hx (y := mn8) hown (own_m hZ hw 117) (own_m hZ hw 118) (own_m hZ hw 74) (own_m hZ hw 119) (by decide) (backOf (W := 0) (rmGC2_0 l Z a0 hw [] cs gS b81 k81 x0 x1 T81.heap n0 Zs81 V_env f82_0 V81 hx0) hZ (own_g hw 119) (own_g hw 74) (by decide) (by decide)) (g := (mkF m 32 #[Rv a1, Iv 0, Iv 2, Rv b77, Iv 0, Rv b81] [(.int 0), (.ref b81)])) rfl (by rw [hml]; rfl) (argsL := [(.ref b81), (.int (0 : Int32))]) (rest := []) (lenOf own_pd195 rfl) rfl (own_z rfl) (hb hby d15_32) (fun _ _ => ⟨rfl, rfl, (by decide : 2 + 0 ≤ _), (by decide : 6 + 0 ≤ _)⟩)
    dsimp only [Pt.U, Pt.locs, Pt.cells, Pt.slots] at X83 l83 y83 z83 st83 hQ83
    subst l83 y83 z83
    obtain ⟨rfl, Nq83, eh83⟩ := hQ83
    have N83 := Fr.app N81 Nq83
    refine own_by (fun _ k => XS.iload X81.here hx rfl (hb hby d15_30) rfl (st83 _ (XS.sipush X83.here hx rfl (hb hby d15_35) (XS.icmpYes X83.here hx rfl (pc0 := 38) (pc' := 54) rfl (hb hby d15_38) rfl (tlt hb0).2.2.1 (by decide) (by decide) (XS.aload X83.here hx rfl (hb hby d15_54) rfl rfl k))))) ?_
    exact own_retA X83 hx hlk (t := (.array .byte)) hret rfl rfl rfl (hb hby d15_56) (by rw [eh83]; exact ⟨_, _, rfl, N83, Kp81, sz_b81, Or.inr V81⟩) (by decide) (by decide)
  · show own_Fin _ _ _ _ _ _ _ T79 (mkF m 12 #[Rv a1, Iv 0, Iv 2, Rv b77, Uv, Uv] [(.int 1)])
    obtain ⟨_, _, ⟨T84, L84, k84, n84⟩, -, X84, ⟨Lc84, hQ84, l84, y84, z84⟩, st84⟩ := LawKit.callS X79 hx (y := mn7) hown (own_m hZ hw 101) (own_m hZ hw 102) (own_m hZ hw 74) (own_m hZ hw 103) (by decide) (backOf (W := 0) (rmTB2 l Z a0 hw [] cs gS a1 kc x0 x1 T79.heap n0 Zs79 V_env f80_0 f80_1) hZ (own_g hw 103) (own_g hw 74) (by decide) (by decide)) (g := (mkF m 23 #[Rv a1, Iv 0, Iv 2, Rv b77, Iv 1, Uv] [(.int 2), (.int 0), (.ref a1)])) rfl (by rw [hml]; rfl) (argsL := [(.ref a1), (.int (0 : Int32)), (.int (2 : Int32))]) (rest := []) (lenOf own_pd190 rfl) rfl (own_z rfl) (hb hby d15_23) (fun _ _ => ⟨rfl, rfl, (by decide : 1 + 1 ≤ _), (by decide : 2 + 4 ≤ _)⟩)
    dsimp only [Pt.U, Pt.locs, Pt.cells, Pt.slots] at X84 l84 y84 z84 st84 hQ84
    subst l84 y84 z84
    obtain ⟨b84, k84, rfl, Nq84, K84, ge84, V84⟩ := hQ84
    have N84 := Fr.app N79 Nq84
    have Zs84 : n0 ≤ T84.heap.size := Nat.le_trans Zs79 K84.1
    have Kp84 : Keep h0 T84.heap [] := Kp79.trans K84 all0
    have f85_0 : Old Z n0 T84.heap := f80_0.keep K84 all0
    have f85_1 : Arv Z T84.heap a1 kc .char (2 : Int32) [(.int x0), (.int x1)] (.int (0 : Int32)) := f80_1.keep K84 nin0
    have ne84_a1 : a1 ≠ b84 := Nat.ne_of_lt (Nat.lt_of_lt_of_le f80_1.lt ge84)
    have gf84 : n0 ≤ b84 := Nat.le_trans Zs79 ge84
    have sz_b84 : h0.size ≤ b84 := Nat.le_trans Kp79.1 ge84
    refine own_by (fun _ k => XS.istore X79.here hx rfl (hb hby d15_12) rfl (l' := #[Rv a1, Iv 0, Iv 2, Rv b77, Iv 1, Uv]) rfl (XS.iload X79.here hx rfl (hb hby d15_14) rfl (XS.iloadN X79.here hx rfl (hb hby d15_16) rfl (XS.icmpNo X79.here hx rfl (hb hby d15_17) rfl (feq (by decide : ¬ ((1 : Int32) = (2 : Int32)))).1 (XS.aloadN X79.here hx rfl (hb hby d15_20) rfl rfl (XS.iloadN X79.here hx rfl (hb hby d15_21) rfl (XS.iloadN X79.here hx rfl (hb hby d15_22) rfl (st84 _ (XS.astore X84.here hx rfl (hb hby d15_26) rfl rfl (l' := #[Rv a1, Iv 0, Iv 2, Rv b77, Iv 1, Rv b84]) rfl (XS.aload X84.here hx rfl (hb hby d15_28) rfl rfl k)))))))))) ?_
    show own_Fin _ _ _ _ _ _ _ T84 (mkF m 30 #[Rv a1, Iv 0, Iv 2, Rv b77, Iv 1, Rv b84] [(.ref b84)])
    obtain ⟨_, _, ⟨T86, L86, k86, n86⟩, -, X86, ⟨Lc86, hQ86, l86, y86, z86⟩, st86⟩ := LawKit.callS X84 hx (y := mn8) hown (own_m hZ hw 117) (own_m hZ hw 118) (own_m hZ hw 74) (own_m hZ hw 119) (by decide) (backOf (W := 0) (rmGC2_1 l Z a0 hw [] cs gS b84 k84 x0 x1 T84.heap n0 Zs84 V_env f85_0 V84 hx1) hZ (own_g hw 119) (own_g hw 74) (by decide) (by decide)) (g := (mkF m 32 #[Rv a1, Iv 0, Iv 2, Rv b77, Iv 1, Rv b84] [(.int 1), (.ref b84)])) rfl (by rw [hml]; rfl) (argsL := [(.ref b84), (.int (1 : Int32))]) (rest := []) (lenOf own_pd195 rfl) rfl (own_z rfl) (hb hby d15_32) (fun _ _ => ⟨rfl, rfl, (by decide : 2 + 0 ≤ _), (by decide : 6 + 0 ≤ _)⟩)
    dsimp only [Pt.U, Pt.locs, Pt.cells, Pt.slots] at X86 l86 y86 z86 st86 hQ86
    subst l86 y86 z86
    obtain ⟨rfl, Nq86, eh86⟩ := hQ86
    have N86 := Fr.app N84 Nq86
    refine own_by (fun _ k => XS.iload X84.here hx rfl (hb hby d15_30) rfl (st86 _ (XS.sipush X86.here hx rfl (hb hby d15_35) (XS.icmpYes X86.here hx rfl (pc0 := 38) (pc' := 54) rfl (hb hby d15_38) rfl (tlt hb1).2.2.1 (by decide) (by decide) (XS.aload X86.here hx rfl (hb hby d15_54) rfl rfl k))))) ?_
    exact own_retA X86 hx hlk (t := (.array .byte)) hret rfl rfl rfl (hb hby d15_56) (by rw [eh86]; exact ⟨_, _, rfl, N86, Kp84, sz_b84, Or.inr V84⟩) (by decide) (by decide)
theorem d17_0 : decode jdk_52_method_15_code 0 = .ok (.iload_n 1, 1) := by decide +kernel
theorem d17_1 : decode jdk_52_method_15_code 1 = .ok (.aload_n 0, 1) := by decide +kernel
theorem d17_2 : decode jdk_52_method_15_code 2 = .ok (.arraylength, 1) := by decide +kernel
theorem d17_3 : decode jdk_52_method_15_code 3 = .ok (.isub, 1) := by decide +kernel
theorem d17_4 : decode jdk_52_method_15_code 4 = .ok (.bipush 31, 2) := by decide +kernel
theorem d17_6 : decode jdk_52_method_15_code 6 = .ok (.iushr, 1) := by decide +kernel
theorem d17_7 : decode jdk_52_method_15_code 7 = .ok (.i2b, 1) := by decide +kernel
theorem d17_8 : decode jdk_52_method_15_code 8 = .ok (.ireturn, 1) := by decide +kernel
def own_Qcl2_2 (h0 : Heap) (n0 : Nat) (v : Option Value) (h : Heap) (L : List Loc) : Prop := v = some (.int (0 : Int32)) ∧ Fr n0 L ∧ h = h0
theorem rmCL2_2 (l : Launch) (Z : State) (a0 : Array Value) (hw : own_W a0 Z) (ws : List Jvm.Cond) (a1 : Addr) (k1 : ClassId) (vs : List Value) (h0 : Heap) (n0 : Nat) (Z0 : n0 ≤ h0.size) (V1 : Arv Z h0 a1 k1 .byte (2 : Int32) vs (.int (0 : Int32))) : own_Met l Z mn11 jdk_52_method_15_code 2 (some .byte) ws (own_R 0 0 0 0) #[(.ref a1), (.int (2 : Int32))] h0 (own_Qcl2_2 h0 n0) := by
  refine own_enter n0 (plainFor_of_name own_pn58) (fun m => ef_RI_2 m a1 (2 : Int32) ) (fun p e s m below meth c s₁ hx hby hlk hml hret hown hnm hZ X0 e0 N0 => ?_)
  show own_Fin _ _ _ _ _ _ _ s₁ (mkF m 0 #[Rv a1, Iv 2] [])
  obtain ⟨cl87, Ar87, -, S87, M87, -, -⟩ := id V1
  refine own_by (fun _ k => XS.iloadN X0.here hx rfl (hb hby d17_0) rfl (XS.aloadN X0.here hx rfl (hb hby d17_1) rfl rfl (X0.arraylength hx (by rw [e0]; exact Ar87.1) (State.isArrayOf_alike hZ.alike Ar87.2.1) (g := (mkF m 2 #[Rv a1, Iv 2] [(.ref a1), (.int 2)])) rfl rfl (hb hby d17_2) _ k))) ?_
  rw [len_of S87 M87]
  show own_Fin _ _ _ _ _ _ _ s₁ (mkF m 3 #[Rv a1, Iv 2] [(.int 2), (.int 2)])
  refine own_by (fun _ k => XS.isub X0.here hx rfl (hb hby d17_3) rfl k) ?_
  show own_Fin _ _ _ _ _ _ _ s₁ (mkF m 4 #[Rv a1, Iv 2] [(.int ((2 : Int32) - (2 : Int32)))])
  rw [(by decide : ((2 : Int32) - (2 : Int32)) = (0 : Int32))]
  show own_Fin _ _ _ _ _ _ _ s₁ (mkF m 4 #[Rv a1, Iv 2] [(.int 0)])
  refine own_by (fun _ k => XS.bipush X0.here hx rfl (hb hby d17_4) (XS.iushr X0.here hx rfl (hb hby d17_6) rfl k)) ?_
  show own_Fin _ _ _ _ _ _ _ s₁ (mkF m 7 #[Rv a1, Iv 2] [(.int (((0 : Int32).toUInt32 >>> ((31 : Int32) &&& 31).toUInt32).toInt32))])
  rw [(by decide : (((0 : Int32).toUInt32 >>> ((31 : Int32) &&& 31).toUInt32).toInt32) = (0 : Int32))]
  show own_Fin _ _ _ _ _ _ _ s₁ (mkF m 7 #[Rv a1, Iv 2] [(.int 0)])
  refine own_by (fun _ k => XS.i2b X0.here hx rfl (hb hby d17_7) rfl k) ?_
  show own_Fin _ _ _ _ _ _ _ s₁ (mkF m 8 #[Rv a1, Iv 2] [(.int ((0 : Int32).toInt8.toInt32))])
  rw [(by decide : ((0 : Int32).toInt8.toInt32) = (0 : Int32))]
  show own_Fin _ _ _ _ _ _ _ s₁ (mkF m 8 #[Rv a1, Iv 2] [(.int 0)])
  exact own_retZ X0 hx hlk (t := .byte) hret (by simp) (hb hby d17_8) ⟨rfl, N0, e0⟩ (by decide) (by decide)
def own_Qcl2_4 (h0 : Heap) (n0 : Nat) (v : Option Value) (h : Heap) (L : List Loc) : Prop := v = some (.int (1 : Int32)) ∧ Fr n0 L ∧ h = h0
theorem rmCL2_4 (l : Launch) (Z : State) (a0 : Array Value) (hw : own_W a0 Z) (ws : List Jvm.Cond) (a1 : Addr) (k1 : ClassId) (vs : List Value) (h0 : Heap) (n0 : Nat) (Z0 : n0 ≤ h0.size) (V1 : Arv Z h0 a1 k1 .byte (4 : Int32) vs (.int (0 : Int32))) : own_Met l Z mn11 jdk_52_method_15_code 2 (some .byte) ws (own_R 0 0 0 0) #[(.ref a1), (.int (2 : Int32))] h0 (own_Qcl2_4 h0 n0) := by
  refine own_enter n0 (plainFor_of_name own_pn58) (fun m => ef_RI_2 m a1 (2 : Int32) ) (fun p e s m below meth c s₁ hx hby hlk hml hret hown hnm hZ X0 e0 N0 => ?_)
  show own_Fin _ _ _ _ _ _ _ s₁ (mkF m 0 #[Rv a1, Iv 2] [])
  obtain ⟨cl88, Ar88, -, S88, M88, -, -⟩ := id V1
  refine own_by (fun _ k => XS.iloadN X0.here hx rfl (hb hby d17_0) rfl (XS.aloadN X0.here hx rfl (hb hby d17_1) rfl rfl (X0.arraylength hx (by rw [e0]; exact Ar88.1) (State.isArrayOf_alike hZ.alike Ar88.2.1) (g := (mkF m 2 #[Rv a1, Iv 2] [(.ref a1), (.int 2)])) rfl rfl (hb hby d17_2) _ k))) ?_
  rw [len_of S88 M88]
  show own_Fin _ _ _ _ _ _ _ s₁ (mkF m 3 #[Rv a1, Iv 2] [(.int 4), (.int 2)])
  refine own_by (fun _ k => XS.isub X0.here hx rfl (hb hby d17_3) rfl k) ?_
  show own_Fin _ _ _ _ _ _ _ s₁ (mkF m 4 #[Rv a1, Iv 2] [(.int ((2 : Int32) - (4 : Int32)))])
  rw [(by decide : ((2 : Int32) - (4 : Int32)) = (-2 : Int32))]
  show own_Fin _ _ _ _ _ _ _ s₁ (mkF m 4 #[Rv a1, Iv 2] [(.int (-2))])
  refine own_by (fun _ k => XS.bipush X0.here hx rfl (hb hby d17_4) (XS.iushr X0.here hx rfl (hb hby d17_6) rfl k)) ?_
  show own_Fin _ _ _ _ _ _ _ s₁ (mkF m 7 #[Rv a1, Iv 2] [(.int (((-2 : Int32).toUInt32 >>> ((31 : Int32) &&& 31).toUInt32).toInt32))])
  rw [(by decide : (((-2 : Int32).toUInt32 >>> ((31 : Int32) &&& 31).toUInt32).toInt32) = (1 : Int32))]
  show own_Fin _ _ _ _ _ _ _ s₁ (mkF m 7 #[Rv a1, Iv 2] [(.int 1)])
  refine own_by (fun _ k => XS.i2b X0.here hx rfl (hb hby d17_7) rfl k) ?_
  show own_Fin _ _ _ _ _ _ _ s₁ (mkF m 8 #[Rv a1, Iv 2] [(.int ((1 : Int32).toInt8.toInt32))])
  rw [(by decide : ((1 : Int32).toInt8.toInt32) = (1 : Int32))]
  show own_Fin _ _ _ _ _ _ _ s₁ (mkF m 8 #[Rv a1, Iv 2] [(.int 1)])
  exact own_retZ X0 hx hlk (t := .byte) hret (by simp) (hb hby d17_8) ⟨rfl, N0, e0⟩ (by decide) (by decide)
theorem d3_27 : decode jdk_42_method_149_code 27 = .ok (.getstatic 38, 3) := by decide +kernel
theorem d3_30 : decode jdk_42_method_149_code 30 = .ok (.ifCond .eq 28, 3) := by decide +kernel
theorem d3_33 : decode jdk_42_method_149_code 33 = .ok (.aload_n 1, 1) := by decide +kernel
theorem d3_34 : decode jdk_42_method_149_code 34 = .ok (.iload_n 2, 1) := by decide +kernel
theorem d3_35 : decode jdk_42_method_149_code 35 = .ok (.iload_n 3, 1) := by decide +kernel
theorem d3_36 : decode jdk_42_method_149_code 36 = .ok (.invokestatic 177, 3) := by decide +kernel
theorem d3_39 : decode jdk_42_method_149_code 39 = .ok (.astore 5, 2) := by decide +kernel
theorem d3_41 : decode jdk_42_method_149_code 41 = .ok (.aload_n 0, 1) := by decide +kernel
theorem d3_42 : decode jdk_42_method_149_code 42 = .ok (.aload 5, 2) := by decide +kernel
theorem d3_44 : decode jdk_42_method_149_code 44 = .ok (.iload_n 3, 1) := by decide +kernel
theorem d3_45 : decode jdk_42_method_149_code 45 = .ok (.invokestatic 47, 3) := by decide +kernel
theorem own_pd219 : parseMethodDescriptor "([BI)B" = some ⟨[(.array .byte), .int], some .byte⟩ := by decide +kernel
theorem d3_48 : decode jdk_42_method_149_code 48 = .ok (.putfield 15, 3) := by decide +kernel
theorem d3_51 : decode jdk_42_method_149_code 51 = .ok (.aload_n 0, 1) := by decide +kernel
theorem d3_52 : decode jdk_42_method_149_code 52 = .ok (.aload 5, 2) := by decide +kernel
theorem d3_54 : decode jdk_42_method_149_code 54 = .ok (.putfield 9, 3) := by decide +kernel
theorem d3_57 : decode jdk_42_method_149_code 57 = .ok (.return_, 1) := by decide +kernel
def own_QYI2 (Z : State) (a1 : Addr) (x0 x1 : Int32) (h0 : Heap) (n0 : Nat) (v : Option Value) (h : Heap) (L : List Loc) : Prop := ∃ (b : Addr) (k : ClassId), v = none ∧ Fr n0 L ∧ Keep h0 h [a1] ∧ Fld Z h a1 "java/lang/String" "value" "[B" (.ref b) ∧ ((Fld Z h a1 "java/lang/String" "coder" "B" (.int (0 : Int32)) ∧ Arv Z h b k .byte (2 : Int32) [(.int x0.toInt8.toInt32), (.int x1.toInt8.toInt32)] (.int (0 : Int32)) ∧ ¬ (255 : Int32) < x0 ∧ ¬ (255 : Int32) < x1) ∨ (Fld Z h a1 "java/lang/String" "coder" "B" (.int (1 : Int32)) ∧ Arv Z h b k .byte (4 : Int32) [(.int (own_lo x0)), (.int (own_hi x0)), (.int (own_lo x1)), (.int (own_hi x1))] (.int (0 : Int32))))
set_option maxRecDepth 65536 in
set_option maxHeartbeats 40000000 in
theorem rmYI2 (l : Launch) (Z : State) (a0 : Array Value) (hw : own_W a0 Z) (ws : List Jvm.Cond) (cs : Int32) (gS : Value) (a1 a2 : Addr) (kc : ClassId) (x0 x1 : Int32) (h0 : Heap) (n0 : Nat) (Z0 : n0 ≤ h0.size) (V_env : own_Env Z cs gS) (Od : Old Z n0 h0) (E_a1 : Exa Z h0 a1 "java/lang/String") (F_v : Fld Z h0 a1 "java/lang/String" "value" "[B" .null) (F_c : Fld Z h0 a1 "java/lang/String" "coder" "B" (.int (0 : Int32))) (g_a1 : n0 ≤ a1) (V2 : Arv Z h0 a2 kc .char (2 : Int32) [(.int x0), (.int x1)] (.int (0 : Int32))) (ne12 : a2 ≠ a1) (hx0 : own_ch x0) (hx1 : own_ch x1) : own_Met l Z mn2 jdk_42_method_149_code 6 none ws (own_R 4 2 6 57) #[(.ref a1), (.ref a2), (.int (0 : Int32)), (.int (2 : Int32)), .null] h0 (own_QYI2 Z a1 x0 x1 h0 n0) := by
  refine own_enter n0 (plainFor_of_name own_pn34) (fun m => ef_RRIIN_6 m a1 a2 (0 : Int32) (2 : Int32) ) (fun p e s m below meth c s₁ hx hby hlk hml hret hown hnm hZ X0 e0 N0 => ?_)
  show own_Fin _ _ _ _ _ _ _ s₁ (mkF m 0 #[Rv a1, Rv a2, Iv 0, Iv 2, Nv, Uv] [])
  have Kp89 : Keep h0 h0 [a1] := Keep.refl h0 _
  obtain ⟨T90, X90, e90, st90⟩ := initO X0 hx hZ hown (own_g hw 17) (own_g hw 18) (own_g hw 19) e0 (g := (mkF m 1 #[Rv a1, Rv a2, Iv 0, Iv 2, Nv, Uv] [(.ref a1)])) rfl (by rw [hml]; rfl) rfl (hb hby d3_1) (by decide) (W := 0) (own_z rfl) (by decide)
  obtain ⟨T91, X91, e91, st91⟩ := getS2 X90 hx hZ hown (host := "") (Or.inl (own_g hw 47)) Via.refl e90 (V_env.2.2.2.1.ext Od.2) (g := (mkF m 27 #[Rv a1, Rv a2, Iv 0, Iv 2, Nv, Uv] [])) rfl (hb hby d3_27)
  obtain ⟨_, _, ⟨T92, L92, k92, n92⟩, -, X92, ⟨Lc92, hQ92, l92, y92, z92⟩, st92⟩ := LawKit.callS X91 hx (y := mn10) hown (own_m hZ hw 72) (own_m hZ hw 73) (own_m hZ hw 74) (own_m hZ hw 75) (by decide) (backOf (W := 0) (rmXO2 l Z a0 hw [] cs gS a2 kc x0 x1 h0 n0 Z0 V_env Od V2 hx0 hx1) hZ (own_g hw 75) (own_g hw 74) (by decide) (by decide)) (g := (mkF m 36 #[Rv a1, Rv a2, Iv 0, Iv 2, Nv, Uv] [(.int 2), (.int 0), (.ref a2)])) rfl (by rw [hml]; rfl) (argsL := [(.ref a2), (.int (0 : Int32)), (.int (2 : Int32))]) (rest := []) (lenOf own_pd190 rfl) rfl (own_z rfl) (hb hby d3_36) (fun _ _ => ⟨rfl, e91, (by decide : 0 + 2 ≤ _), (by decide : 0 + 6 ≤ _)⟩)
  dsimp only [Pt.U, Pt.locs, Pt.cells, Pt.slots] at X92 l92 y92 z92 st92 hQ92
  subst l92 y92 z92
  obtain ⟨b92, k92, rfl, Nq92, K92, ge92, hd92⟩ := hQ92
  have N92 := Fr.app N0 Nq92
  have Zs92 : n0 ≤ T92.heap.size := Nat.le_trans Z0 K92.1
  have Kp92 : Keep h0 T92.heap [a1] := Kp89.trans K92 all0
  have f93_0 : Old Z n0 T92.heap := Od.keep K92 all0
  have f93_1 : Exa Z T92.heap a1 "java/lang/String" := E_a1.keep K92
  have f93_2 : Fld Z T92.heap a1 "java/lang/String" "value" "[B" .null := F_v.keep K92 nin0
  have f93_3 : Fld Z T92.heap a1 "java/lang/String" "coder" "B" (.int (0 : Int32)) := F_c.keep K92 nin0
  have f93_4 : Arv Z T92.heap a2 kc .char (2 : Int32) [(.int x0), (.int x1)] (.int (0 : Int32)) := V2.keep K92 nin0
  have ne92_a1 : a1 ≠ b92 := Nat.ne_of_lt (Nat.lt_of_lt_of_le E_a1.lt ge92)
  have ne92_a2 : a2 ≠ b92 := Nat.ne_of_lt (Nat.lt_of_lt_of_le V2.lt ge92)
  refine own_by (fun _ k => XS.aloadN X0.here hx rfl (hb hby d3_0) rfl rfl (st90 _ (XS.iloadN X90.here hx rfl (hb hby d3_4) rfl (XS.ifYes X90.here hx rfl (pc0 := 5) (pc' := 27) rfl (hb hby d3_5) rfl ((if0 _ _).trans (feq (by decide : ¬ ((2 : Int32) = (0 : Int32)))).2) (by decide) (by decide) (st91 _ (XS.ifNo X91.here hx rfl (hb hby d3_30) rfl ((if0 _ _).trans (feq V_env.2.2.2.2.1).1) (XS.aloadN X91.here hx rfl (hb hby d3_33) rfl rfl (XS.iloadN X91.here hx rfl (hb hby d3_34) rfl (XS.iloadN X91.here hx rfl (hb hby d3_35) rfl (st92 _ k)))))))))) ?_
  rcases hd92 with ⟨V92, hk0, hk1⟩ | V92
  · show own_Fin _ _ _ _ _ _ _ T92 (mkF m 39 #[Rv a1, Rv a2, Iv 0, Iv 2, Nv, Uv] [(.ref b92)])
    obtain ⟨_, _, ⟨T94, L94, k94, n94⟩, -, X94, ⟨Lc94, hQ94, l94, y94, z94⟩, st94⟩ := LawKit.callS X92 hx (y := mn11) hown (own_m hZ hw 79) (own_m hZ hw 80) (own_m hZ hw 74) (own_m hZ hw 81) (by decide) (backOf (W := 1) (rmCL2_2 l Z a0 hw [] b92 k92 [(.int x0.toInt8.toInt32), (.int x1.toInt8.toInt32)] T92.heap n0 Zs92 V92) hZ (own_g hw 81) (own_g hw 74) (by decide) (by decide)) (g := (mkF m 45 #[Rv a1, Rv a2, Iv 0, Iv 2, Nv, Rv b92] [(.int 2), (.ref b92), (.ref a1)])) rfl (by rw [hml]; rfl) (argsL := [(.ref b92), (.int (2 : Int32))]) (rest := [(.ref a1)]) (lenOf own_pd219 rfl) rfl (own_z rfl) (hb hby d3_45) (fun _ _ => ⟨rfl, rfl, (by decide : 2 + 0 ≤ _), (by decide : 6 + 0 ≤ _)⟩)
    dsimp only [Pt.U, Pt.locs, Pt.cells, Pt.slots] at X94 l94 y94 z94 st94 hQ94
    subst l94 y94 z94
    obtain ⟨rfl, Nq94, eh94⟩ := hQ94
    have N94 := Fr.app N92 Nq94
    obtain ⟨T95, h95, X95, e95, W95, st95⟩ := putFN X94 hx hZ hown (own_g hw 27) Via.refl eh94 f93_3 f93_1 (Or.inr ⟨(own_g hw 23), rfl, hnm⟩) (own_g hw 7) (ty := .byte) (v' := (.int (0 : Int32))) (by decide) rfl (by decide) (g := (mkF m 48 #[Rv a1, Rv a2, Iv 0, Iv 2, Nv, Rv b92] [(.int 0), (.ref a1)])) rfl rfl (hb hby d3_48)
    have Fw95 : Fld Z h95 a1 "java/lang/String" "coder" "B" (.int (0 : Int32)) := f93_3.same W95
    have Kp95 : Keep h0 h95 [a1] := Kp92.wr W95 (Or.inl (List.mem_of_getElem? (i := 0) rfl))
    have Zs95 : n0 ≤ h95.size := Nat.le_trans Zs92 (Keep.of_wr W95).1
    have N95 := Fr.snoc X95 N94 g_a1
    have f96_0 : Old Z n0 h95 := f93_0.wr W95 g_a1
    have f96_1 : Exa Z h95 a1 "java/lang/String" := f93_1.wr W95
    have f96_2 : Fld Z h95 a1 "java/lang/String" "value" "[B" .null := f93_2.other W95 (Or.inr (slot_ne (Or.inr (own_g hw 22)) (Or.inr (own_g hw 23)) (by decide) (t := (.array .byte)) (t' := .byte) (by decide) (by decide)))
    have f96_4 : Arv Z h95 a2 kc .char (2 : Int32) [(.int x0), (.int x1)] (.int (0 : Int32)) := f93_4.other W95 ne12
    have f96_5 : Arv Z h95 b92 k92 .byte (2 : Int32) [(.int x0.toInt8.toInt32), (.int x1.toInt8.toInt32)] (.int (0 : Int32)) := V92.other W95 (Ne.symm ne92_a1)
    obtain ⟨T97, h97, X97, e97, W97, st97⟩ := putF X95 hx hZ hown (host := "") (Or.inl (own_g hw 26)) Via.refl e95 f96_2 f96_1 (Or.inr ⟨(own_g hw 22), rfl, hnm⟩) (own_g hw 7) (ty := (.array .byte)) (by decide) rfl rfl (g := (mkF m 54 #[Rv a1, Rv a2, Iv 0, Iv 2, Nv, Rv b92] [(.ref b92), (.ref a1)])) rfl rfl (hb hby d3_54)
    have Fw97 : Fld Z h97 a1 "java/lang/String" "value" "[B" (.ref b92) := f96_2.same W97
    have Kp97 : Keep h0 h97 [a1] := Kp95.wr W97 (Or.inl (List.mem_of_getElem? (i := 0) rfl))
    have Zs97 : n0 ≤ h97.size := Nat.le_trans Zs95 (Keep.of_wr W97).1
    have N97 := Fr.snoc X97 N95 g_a1
    have f98_0 : Old Z n0 h97 := f96_0.wr W97 g_a1
    have f98_1 : Exa Z h97 a1 "java/lang/String" := f96_1.wr W97
    have f98_3 : Arv Z h97 a2 kc .char (2 : Int32) [(.int x0), (.int x1)] (.int (0 : Int32)) := f96_4.other W97 ne12
    have f98_4 : Arv Z h97 b92 k92 .byte (2 : Int32) [(.int x0.toInt8.toInt32), (.int x1.toInt8.toInt32)] (.int (0 : Int32)) := f96_5.other W97 (Ne.symm ne92_a1)
    have f98_5 : Fld Z h97 a1 "java/lang/String" "coder" "B" (.int (0 : Int32)) := Fw95.other W97 (Or.inr (slot_ne (Or.inr (own_g hw 23)) (Or.inr (own_g hw 22)) (by decide) (t := .byte) (t' := (.array .byte)) (by decide) (by decide)))
    refine own_by (fun _ k => XS.astore X92.here hx rfl (hb hby d3_39) rfl rfl (l' := #[Rv a1, Rv a2, Iv 0, Iv 2, Nv, Rv b92]) rfl (XS.aloadN X92.here hx rfl (hb hby d3_41) rfl rfl (XS.aload X92.here hx rfl (hb hby d3_42) rfl rfl (XS.iloadN X92.here hx rfl (hb hby d3_44) rfl (st94 _ (st95 _ (XS.aloadN X95.here hx rfl (hb hby d3_51) rfl rfl (XS.aload X95.here hx rfl (hb hby d3_52) rfl rfl (st97 _ k))))))))) ?_
    exact own_retV X97 hx hlk hret (hb hby d3_57) (by rw [e97]; exact ⟨_, _, rfl, N97, Kp97, Fw97, Or.inl ⟨f98_5, f98_4, hk0, hk1⟩⟩) (by decide) (by decide)
  · show own_Fin _ _ _ _ _ _ _ T92 (mkF m 39 #[Rv a1, Rv a2, Iv 0, Iv 2, Nv, Uv] [(.ref b92)])
    obtain ⟨_, _, ⟨T99, L99, k99, n99⟩, -, X99, ⟨Lc99, hQ99, l99, y99, z99⟩, st99⟩ := LawKit.callS X92 hx (y := mn11) hown (own_m hZ hw 79) (own_m hZ hw 80) (own_m hZ hw 74) (own_m hZ hw 81) (by decide) (backOf (W := 1) (rmCL2_4 l Z a0 hw [] b92 k92 [(.int (own_lo x0)), (.int (own_hi x0)), (.int (own_lo x1)), (.int (own_hi x1))] T92.heap n0 Zs92 V92) hZ (own_g hw 81) (own_g hw 74) (by decide) (by decide)) (g := (mkF m 45 #[Rv a1, Rv a2, Iv 0, Iv 2, Nv, Rv b92] [(.int 2), (.ref b92), (.ref a1)])) rfl (by rw [hml]; rfl) (argsL := [(.ref b92), (.int (2 : Int32))]) (rest := [(.ref a1)]) (lenOf own_pd219 rfl) rfl (own_z rfl) (hb hby d3_45) (fun _ _ => ⟨rfl, rfl, (by decide : 2 + 0 ≤ _), (by decide : 6 + 0 ≤ _)⟩)
    dsimp only [Pt.U, Pt.locs, Pt.cells, Pt.slots] at X99 l99 y99 z99 st99 hQ99
    subst l99 y99 z99
    obtain ⟨rfl, Nq99, eh99⟩ := hQ99
    have N99 := Fr.app N92 Nq99
    obtain ⟨T100, h100, X100, e100, W100, st100⟩ := putFN X99 hx hZ hown (own_g hw 27) Via.refl eh99 f93_3 f93_1 (Or.inr ⟨(own_g hw 23), rfl, hnm⟩) (own_g hw 7) (ty := .byte) (v' := (.int (1 : Int32))) (by decide) rfl (by decide) (g := (mkF m 48 #[Rv a1, Rv a2, Iv 0, Iv 2, Nv, Rv b92] [(.int 1), (.ref a1)])) rfl rfl (hb hby d3_48)
    have Fw100 : Fld Z h100 a1 "java/lang/String" "coder" "B" (.int (1 : Int32)) := f93_3.same W100
    have Kp100 : Keep h0 h100 [a1] := Kp92.wr W100 (Or.inl (List.mem_of_getElem? (i := 0) rfl))
    have Zs100 : n0 ≤ h100.size := Nat.le_trans Zs92 (Keep.of_wr W100).1
    have N100 := Fr.snoc X100 N99 g_a1
    have f101_0 : Old Z n0 h100 := f93_0.wr W100 g_a1
    have f101_1 : Exa Z h100 a1 "java/lang/String" := f93_1.wr W100
    have f101_2 : Fld Z h100 a1 "java/lang/String" "value" "[B" .null := f93_2.other W100 (Or.inr (slot_ne (Or.inr (own_g hw 22)) (Or.inr (own_g hw 23)) (by decide) (t := (.array .byte)) (t' := .byte) (by decide) (by decide)))
    have f101_4 : Arv Z h100 a2 kc .char (2 : Int32) [(.int x0), (.int x1)] (.int (0 : Int32)) := f93_4.other W100 ne12
    have f101_5 : Arv Z h100 b92 k92 .byte (4 : Int32) [(.int (own_lo x0)), (.int (own_hi x0)), (.int (own_lo x1)), (.int (own_hi x1))] (.int (0 : Int32)) := V92.other W100 (Ne.symm ne92_a1)
    obtain ⟨T102, h102, X102, e102, W102, st102⟩ := putF X100 hx hZ hown (host := "") (Or.inl (own_g hw 26)) Via.refl e100 f101_2 f101_1 (Or.inr ⟨(own_g hw 22), rfl, hnm⟩) (own_g hw 7) (ty := (.array .byte)) (by decide) rfl rfl (g := (mkF m 54 #[Rv a1, Rv a2, Iv 0, Iv 2, Nv, Rv b92] [(.ref b92), (.ref a1)])) rfl rfl (hb hby d3_54)
    have Fw102 : Fld Z h102 a1 "java/lang/String" "value" "[B" (.ref b92) := f101_2.same W102
    have Kp102 : Keep h0 h102 [a1] := Kp100.wr W102 (Or.inl (List.mem_of_getElem? (i := 0) rfl))
    have Zs102 : n0 ≤ h102.size := Nat.le_trans Zs100 (Keep.of_wr W102).1
    have N102 := Fr.snoc X102 N100 g_a1
    have f103_0 : Old Z n0 h102 := f101_0.wr W102 g_a1
    have f103_1 : Exa Z h102 a1 "java/lang/String" := f101_1.wr W102
    have f103_3 : Arv Z h102 a2 kc .char (2 : Int32) [(.int x0), (.int x1)] (.int (0 : Int32)) := f101_4.other W102 ne12
    have f103_4 : Arv Z h102 b92 k92 .byte (4 : Int32) [(.int (own_lo x0)), (.int (own_hi x0)), (.int (own_lo x1)), (.int (own_hi x1))] (.int (0 : Int32)) := f101_5.other W102 (Ne.symm ne92_a1)
    have f103_5 : Fld Z h102 a1 "java/lang/String" "coder" "B" (.int (1 : Int32)) := Fw100.other W102 (Or.inr (slot_ne (Or.inr (own_g hw 23)) (Or.inr (own_g hw 22)) (by decide) (t := .byte) (t' := (.array .byte)) (by decide) (by decide)))
    refine own_by (fun _ k => XS.astore X92.here hx rfl (hb hby d3_39) rfl rfl (l' := #[Rv a1, Rv a2, Iv 0, Iv 2, Nv, Rv b92]) rfl (XS.aloadN X92.here hx rfl (hb hby d3_41) rfl rfl (XS.aload X92.here hx rfl (hb hby d3_42) rfl rfl (XS.iloadN X92.here hx rfl (hb hby d3_44) rfl (st99 _ (st100 _ (XS.aloadN X100.here hx rfl (hb hby d3_51) rfl rfl (XS.aload X100.here hx rfl (hb hby d3_52) rfl rfl (st102 _ k))))))))) ?_
    exact own_retV X102 hx hlk hret (hb hby d3_57) (by rw [e102]; exact ⟨_, _, rfl, N102, Kp102, Fw102, Or.inr ⟨f103_5, f103_4⟩⟩) (by decide) (by decide)
theorem rmYC2 (l : Launch) (Z : State) (a0 : Array Value) (hw : own_W a0 Z) (ws : List Jvm.Cond) (cs : Int32) (gS : Value) (a1 a2 : Addr) (kc : ClassId) (x0 x1 : Int32) (h0 : Heap) (n0 : Nat) (Z0 : n0 ≤ h0.size) (V_env : own_Env Z cs gS) (Od : Old Z n0 h0) (E_a1 : Exa Z h0 a1 "java/lang/String") (F_v : Fld Z h0 a1 "java/lang/String" "value" "[B" .null) (F_c : Fld Z h0 a1 "java/lang/String" "coder" "B" (.int (0 : Int32))) (g_a1 : n0 ≤ a1) (V2 : Arv Z h0 a2 kc .char (2 : Int32) [(.int x0), (.int x1)] (.int (0 : Int32))) (ne12 : a2 ≠ a1) (hx0 : own_ch x0) (hx1 : own_ch x1) : own_Met l Z mn3 jdk_42_method_3_code 2 none ws (own_R 5 2 6 74) #[(.ref a1), (.ref a2)] h0 (own_QYI2 Z a1 x0 x1 h0 n0) := by
  refine own_enter n0 (plainFor_of_name own_pn34) (fun m => ef_RR_2 m a1 a2 ) (fun p e s m below meth c s₁ hx hby hlk hml hret hown hnm hZ X0 e0 N0 => ?_)
  show own_Fin _ _ _ _ _ _ _ s₁ (mkF m 0 #[Rv a1, Rv a2] [])
  have Kp104 : Keep h0 h0 [a1] := Keep.refl h0 _
  obtain ⟨cl105, Ar105, -, S105, M105, -, -⟩ := id V2
  refine own_by (fun _ k => XS.aloadN X0.here hx rfl (hb hby d2_0) rfl rfl (XS.aloadN X0.here hx rfl (hb hby d2_1) rfl rfl (XS.iconst X0.here hx rfl (hb hby d2_2) (XS.aloadN X0.here hx rfl (hb hby d2_3) rfl rfl (X0.arraylength hx (by rw [e0]; exact Ar105.1) (State.isArrayOf_alike hZ.alike Ar105.2.1) (g := (mkF m 4 #[Rv a1, Rv a2] [(.ref a2), (.int 0), (.ref a2), (.ref a1)])) rfl rfl (hb hby d2_4) _ k))))) ?_
  rw [len_of S105 M105]
  show own_Fin _ _ _ _ _ _ _ s₁ (mkF m 5 #[Rv a1, Rv a2] [(.int 2), (.int 0), (.ref a2), (.ref a1)])
  obtain ⟨_, _, ⟨T106, L106, k106, n106⟩, -, X106, ⟨Lc106, hQ106, l106, y106, z106⟩, st106⟩ := X0.specialBack hx (y := mn2) rfl hown (own_m hZ hw 13) (own_m hZ hw 14) (own_m hZ hw 16) (by decide) (backOf (W := 0) (rmYI2 l Z a0 hw [] cs gS a1 a2 kc x0 x1 h0 n0 Z0 V_env Od E_a1 F_v F_c g_a1 V2 ne12 hx0 hx1) hZ (own_g hw 16) (own_g hw 8) (by decide) (by decide)) (g := (mkF m 6 #[Rv a1, Rv a2] [.null, (.int 2), (.int 0), (.ref a2), (.ref a1)])) rfl (by rw [hml]; rfl) (Steps.refl _) (a := a1) (argsL := [(.ref a2), (.int (0 : Int32)), (.int (2 : Int32)), .null]) (rest := []) (lenOf own_pd56 rfl) rfl (own_z rfl) (hb hby d2_6) (fun _ _ => ⟨rfl, e0, (by decide : 0 + 2 ≤ _), (by decide : 0 + 6 ≤ _)⟩)
  dsimp only [Pt.U, Pt.locs, Pt.cells, Pt.slots] at X106 l106 y106 z106 st106 hQ106
  subst l106 y106 z106
  obtain ⟨b106, k106, rfl, Nq106, K106, Gv106, hd106⟩ := hQ106
  have N106 := Fr.app N0 Nq106
  have Zs106 : n0 ≤ T106.heap.size := Nat.le_trans Z0 K106.1
  have Kp106 : Keep h0 T106.heap [a1] := Kp104.trans K106 (allS (Or.inl (List.mem_of_getElem? (i := 0) rfl)) all0)
  have f107_0 : Old Z n0 T106.heap := Od.keep K106 (allS g_a1 all0)
  have f107_1 : Exa Z T106.heap a1 "java/lang/String" := E_a1.keep K106
  have f107_4 : Arv Z T106.heap a2 kc .char (2 : Int32) [(.int x0), (.int x1)] (.int (0 : Int32)) := V2.keep K106 (ninS ne12 nin0)
  refine own_by (fun _ k => XS.aconstNull X0.here hx rfl (hb hby d2_5) (st106.trans k)) ?_
  exact own_retV X106 hx hlk hret (hb hby d2_9) ⟨_, _, rfl, N106, Kp106, Gv106, hd106⟩ (by decide) (by decide)
def own_QrmNBL3 (h0 : Heap) (n0 : Nat) (v : Option Value) (h : Heap) (L : List Loc) : Prop := v = some (.int (6 : Int32)) ∧ Fr n0 L ∧ h = h0
theorem rmNBL3 (l : Launch) (Z : State) (a0 : Array Value) (hw : own_W a0 Z) (ws : List Jvm.Cond)  (h0 : Heap) (n0 : Nat) (Z0 : n0 ≤ h0.size)  : own_Met l Z mn4 jdk_52_method_3_code 1 (some .int) ws (own_R 0 0 0 0) #[(.int (3 : Int32))] h0 (own_QrmNBL3 h0 n0) := by
  refine own_enter n0 (plainFor_of_name own_pn58) (fun m => ef_I_1 m (3 : Int32) ) (fun p e s m below meth c s₁ hx hby hlk hml hret hown hnm hZ X0 e0 N0 => ?_)
  show own_Fin _ _ _ _ _ _ _ s₁ (mkF m 0 #[Iv 3] [])
  refine own_by (fun _ k => XS.iloadN X0.here hx rfl (hb hby d26_0) rfl (XS.ifYes X0.here hx rfl (pc0 := 1) (pc' := 12) rfl (hb hby d26_1) rfl ((if0 _ _).trans (flt (by decide : ¬ ((3 : Int32) < (0 : Int32)))).2.1) (by decide) (by decide) (XS.iloadN X0.here hx rfl (hb hby d26_12) rfl (X0.ldcInt hx hown (own_m hZ hw 110) (g := (mkF m 13 #[Iv 3] [(.int 3)])) rfl (hb hby d26_13) _ (XS.icmpYes X0.here hx rfl (pc0 := 15) (pc' := 55) rfl (hb hby d26_15) rfl (tlt (by decide : (3 : Int32) < (1073741823 : Int32))).1 (by decide) (by decide) (XS.iloadN X0.here hx rfl (hb hby d26_55) rfl (XS.iconst X0.here hx rfl (hb hby d26_56) (XS.ishl X0.here hx rfl (hb hby d26_57) rfl k)))))))) ?_
  show own_Fin _ _ _ _ _ _ _ s₁ (mkF m 58 #[Iv 3] [(.int ((3 : Int32) <<< ((1 : Int32) &&& 31)))])
  rw [(by decide : ((3 : Int32) <<< ((1 : Int32) &&& 31)) = (6 : Int32))]
  show own_Fin _ _ _ _ _ _ _ s₁ (mkF m 58 #[Iv 3] [(.int 6)])
  exact own_retI X0 hx hlk hret (hb hby d26_58) ⟨rfl, N0, e0⟩ (by decide) (by decide)
def own_QNBF3 (Z : State) (h0 : Heap) (n0 : Nat) (v : Option Value) (h : Heap) (L : List Loc) : Prop := ∃ (a : Addr) (k : ClassId), v = some (.ref a) ∧ Fr n0 L ∧ Keep h0 h [] ∧ h0.size ≤ a ∧ Arv Z h a k .byte (6 : Int32) [(.int (0 : Int32)), (.int (0 : Int32)), (.int (0 : Int32)), (.int (0 : Int32)), (.int (0 : Int32)), (.int (0 : Int32))] (.int (0 : Int32))
theorem rmNBF3 (l : Launch) (Z : State) (a0 : Array Value) (hw : own_W a0 Z) (ws : List Jvm.Cond)  (h0 : Heap) (n0 : Nat) (Z0 : n0 ≤ h0.size)  : own_Met l Z mn5 jdk_52_method_2_code 1 (some (.array .byte)) ws (own_R 1 1 6 12) #[(.int (3 : Int32))] h0 (own_QNBF3 Z h0 n0) := by
  refine own_enter n0 (plainFor_of_name own_pn58) (fun m => ef_I_1 m (3 : Int32) ) (fun p e s m below meth c s₁ hx hby hlk hml hret hown hnm hZ X0 e0 N0 => ?_)
  show own_Fin _ _ _ _ _ _ _ s₁ (mkF m 0 #[Iv 3] [])
  have Kp108 : Keep h0 h0 [] := Keep.refl h0 _
  obtain ⟨_, _, ⟨T109, L109, k109, n109⟩, -, X109, ⟨Lc109, hQ109, l109, y109, z109⟩, st109⟩ := LawKit.callS X0 hx (y := mn4) hown (own_m hZ hw 107) (own_m hZ hw 108) (own_m hZ hw 74) (own_m hZ hw 109) (by decide) (backOf (W := 0) (rmNBL3 l Z a0 hw []  h0 n0 Z0 ) hZ (own_g hw 109) (own_g hw 74) (by decide) (by decide)) (g := (mkF m 1 #[Iv 3] [(.int 3)])) rfl (by rw [hml]; rfl) (argsL := [(.int (3 : Int32))]) (rest := []) (lenOf own_pd70 rfl) rfl (own_z rfl) (hb hby d25_1) (fun _ _ => ⟨rfl, e0, (by decide : 0 + 0 ≤ _), (by decide : 0 + 0 ≤ _)⟩)
  dsimp only [Pt.U, Pt.locs, Pt.cells, Pt.slots] at X109 l109 y109 z109 st109 hQ109
  subst l109 y109 z109
  obtain ⟨rfl, Nq109, eh109⟩ := hQ109
  have N109 := Fr.app N0 Nq109
  obtain ⟨T110, h110, k110, X110, e110, E110, A110, st110⟩ := newP X109 hx hZ (own_g hw 21) eh109 (g := (mkF m 4 #[Iv 3] [(.int 6)])) rfl (hb hby d25_4) rfl (by decide) (cap := 6) (by decide) (by decide) (by decide) (by decide)
  obtain ⟨b110, g110⟩ : ∃ z, z = h0.size := ⟨_, rfl⟩
  rw [← g110] at A110 st110
  have V110 : Arv Z h110 b110 k110 .byte (6 : Int32) [(.int (0 : Int32)), (.int (0 : Int32)), (.int (0 : Int32)), (.int (0 : Int32)), (.int (0 : Int32)), (.int (0 : Int32))] (.int (0 : Int32)) := (Arv.new A110 (by decide)).pad (pad_rep [] (.int (0 : Int32)) 6)
  have gf110 : n0 ≤ b110 := Nat.le_trans Z0 (Nat.le_of_eq g110.symm)
  have Zs110 : n0 ≤ h110.size := Nat.le_trans Z0 E110.1
  have Kp110 : Keep h0 h110 [] := Kp108.ext E110
  have sz_b110 : h0.size ≤ b110 := Nat.le_trans Kp108.1 (Nat.le_of_eq g110.symm)
  refine own_by (fun _ k => XS.iloadN X0.here hx rfl (hb hby d25_0) rfl (st109 _ (st110 _ k))) ?_
  exact own_retA X110 hx hlk (t := (.array .byte)) hret rfl rfl rfl (hb hby d25_6) (by rw [e110]; exact ⟨_, _, rfl, N109, Kp110, sz_b110, V110⟩) (by decide) (by decide)
def own_QPC3_0 (Z : State) (a1 : Addr) (k1 : ClassId) (cc : Int32) (w0 w1 w2 w3 w4 w5 : Int32) (h0 : Heap) (n0 : Nat) (v : Option Value) (h : Heap) (L : List Loc) : Prop := v = none ∧ Fr n0 L ∧ Keep h0 h [a1] ∧ Arv Z h a1 k1 .byte (6 : Int32) [(.int (own_lo cc)), (.int (own_hi cc)), (.int w2), (.int w3), (.int w4), (.int w5)] (.int (0 : Int32))
set_option maxRecDepth 65536 in
set_option maxHeartbeats 40000000 in
theorem rmPC3_0 (l : Launch) (Z : State) (a0 : Array Value) (hw : own_W a0 Z) (ws : List Jvm.Cond) (cs : Int32) (gS : Value) (a1 : Addr) (k1 : ClassId) (cc : Int32) (w0 w1 w2 w3 w4 w5 : Int32) (h0 : Heap) (n0 : Nat) (Z0 : n0 ≤ h0.size) (V_env : own_Env Z cs gS) (Od : Old Z n0 h0) (V1 : Arv Z h0 a1 k1 .byte (6 : Int32) [(.int w0), (.int w1), (.int w2), (.int w3), (.int w4), (.int w5)] (.int (0 : Int32))) (g_1 : n0 ≤ a1) : own_Met l Z mn6 jdk_52_method_4_code 3 none ws (own_R 0 0 0 0) #[(.ref a1), (.int (0 : Int32)), (.int cc)] h0 (own_QPC3_0 Z a1 k1 cc w0 w1 w2 w3 w4 w5 h0 n0) := by
  refine own_enter n0 (plainFor_of_name own_pn58) (fun m => ef_RII_3 m a1 (0 : Int32) cc ) (fun p e s m below meth c s₁ hx hby hlk hml hret hown hnm hZ X0 e0 N0 => ?_)
  show own_Fin _ _ _ _ _ _ _ s₁ (mkF m 0 #[Rv a1, Iv 0, Iv cc] [])
  have Kp112 : Keep h0 h0 [a1] := Keep.refl h0 _
  obtain ⟨T113, X113, e113, st113⟩ := getS2 X0 hx hZ hown (host := "") (Or.inl (own_g hw 114)) Via.refl e0 (V_env.1.ext Od.2) (g := (mkF m 0 #[Rv a1, Iv 0, Iv cc] [])) rfl (hb hby d27_0)
  refine own_by (fun _ k => st113 _ (XS.ifYes X113.here hx rfl (pc0 := 3) (pc' := 28) rfl (hb hby d27_3) rfl ((if0 _ _).trans (feq (by decide : ¬ ((1 : Int32) = (0 : Int32)))).2) (by decide) (by decide) (XS.iloadN X113.here hx rfl (hb hby d27_28) rfl (XS.iconst X113.here hx rfl (hb hby d27_29) (XS.ishl X113.here hx rfl (hb hby d27_30) rfl k))))) ?_
  show own_Fin _ _ _ _ _ _ _ T113 (mkF m 31 #[Rv a1, Iv 0, Iv cc] [(.int ((0 : Int32) <<< ((1 : Int32) &&& 31)))])
  rw [(by decide : ((0 : Int32) <<< ((1 : Int32) &&& 31)) = (0 : Int32))]
  show own_Fin _ _ _ _ _ _ _ T113 (mkF m 31 #[Rv a1, Iv 0, Iv cc] [(.int 0)])
  refine own_by (fun _ k => XS.istoreN X113.here hx rfl (hb hby d27_31) rfl (l' := #[Rv a1, Iv 0, Iv cc]) rfl (XS.aloadN X113.here hx rfl (hb hby d27_32) rfl rfl (XS.iloadN X113.here hx rfl (hb hby d27_33) rfl (XS.iinc X113.here hx rfl (hb hby d27_34) rfl (l' := #[Rv a1, Iv ((0 : Int32) + (1 : Int32)), Iv cc]) rfl k)))) ?_
  show own_Fin _ _ _ _ _ _ _ T113 (mkF m 37 #[Rv a1, Iv ((0 : Int32) + (1 : Int32)), Iv cc] [(.int 0), (.ref a1)])
  rw [(by decide : ((0 : Int32) + (1 : Int32)) = (1 : Int32))]
  show own_Fin _ _ _ _ _ _ _ T113 (mkF m 37 #[Rv a1, Iv 1, Iv cc] [(.int 0), (.ref a1)])
  obtain ⟨T114, X114, e114, st114⟩ := getS2 X113 hx hZ hown (host := "") (Or.inl (own_g hw 115)) Via.refl e113 (V_env.2.1.ext Od.2) (g := (mkF m 38 #[Rv a1, Iv 1, Iv cc] [(.int cc), (.int 0), (.ref a1)])) rfl (hb hby d27_38)
  obtain ⟨cl115, Ar115, q115, S115, M115, H115, G115⟩ := id V1
  have hin115 : ¬ ((0 : Int32) < 0 ∨ cl115.slots.size ≤ ((0 : Int32)).toNatClampNeg) := inb_of S115 ⟨by decide, by decide⟩
  obtain ⟨T115, h115, X115, e115, W115, st115⟩ := stB X114 hx hZ e114 Ar115 (j := (0 : Int32)) hin115 (g := (mkF m 43 #[Rv a1, Iv 1, Iv cc] [(.int ((cc >>> ((0 : Int32) &&& 31)).toInt8.toInt32)), (.int 0), (.ref a1)])) rfl rfl (hb hby d27_43)
  have V115 : Arv Z h115 a1 k1 .byte (6 : Int32) [(.int ((cc >>> ((0 : Int32) &&& 31)).toInt8.toInt32).toInt8.toInt32), (.int w1), (.int w2), (.int w3), (.int w4), (.int w5)] (.int (0 : Int32)) := Arv.set Ar115 q115 S115 M115 H115 G115 (fits_nar_byte _) W115 0 rfl (Nat.le_of_ble_eq_true rfl)
  have Kp115 : Keep h0 h115 [a1] := Kp112.wr W115 (Or.inl (List.mem_of_getElem? (i := 0) rfl))
  have Zs115 : n0 ≤ h115.size := Nat.le_trans Z0 (Keep.of_wr W115).1
  have N115 := Fr.snoc X115 N0 g_1
  have f116_0 : Old Z n0 h115 := Od.wr W115 g_1
  obtain ⟨T117, X117, e117, st117⟩ := getS2 X115 hx hZ hown (host := "") (Or.inl (own_g hw 116)) Via.refl e115 (V_env.2.2.1.ext f116_0.2) (g := (mkF m 47 #[Rv a1, Iv 1, Iv cc] [(.int cc), (.int 1), (.ref a1)])) rfl (hb hby d27_47)
  refine own_by (fun _ k => XS.iloadN X113.here hx rfl (hb hby d27_37) rfl (st114 _ (XS.ishr X114.here hx rfl (hb hby d27_41) rfl (XS.i2b X114.here hx rfl (hb hby d27_42) rfl (st115 _ (XS.aloadN X115.here hx rfl (hb hby d27_44) rfl rfl (XS.iloadN X115.here hx rfl (hb hby d27_45) rfl (XS.iloadN X115.here hx rfl (hb hby d27_46) rfl (st117 _ (XS.ishr X117.here hx rfl (hb hby d27_50) rfl k)))))))))) ?_
  show own_Fin _ _ _ _ _ _ _ T117 (mkF m 51 #[Rv a1, Iv 1, Iv cc] [(.int (cc >>> ((8 : Int32) &&& 31))), (.int 1), (.ref a1)])
  obtain ⟨cl118, Ar118, q118, S118, M118, H118, G118⟩ := id V115
  have hin118 : ¬ ((1 : Int32) < 0 ∨ cl118.slots.size ≤ ((1 : Int32)).toNatClampNeg) := inb_of S118 ⟨by decide, by decide⟩
  obtain ⟨T118, h118, X118, e118, W118, st118⟩ := stB X117 hx hZ e117 Ar118 (j := (1 : Int32)) hin118 (g := (mkF m 52 #[Rv a1, Iv 1, Iv cc] [(.int ((cc >>> ((8 : Int32) &&& 31)).toInt8.toInt32)), (.int 1), (.ref a1)])) rfl rfl (hb hby d27_52)
  have V118 : Arv Z h118 a1 k1 .byte (6 : Int32) [(.int ((cc >>> ((0 : Int32) &&& 31)).toInt8.toInt32).toInt8.toInt32), (.int ((cc >>> ((8 : Int32) &&& 31)).toInt8.toInt32).toInt8.toInt32), (.int w2), (.int w3), (.int w4), (.int w5)] (.int (0 : Int32)) := Arv.set Ar118 q118 S118 M118 H118 G118 (fits_nar_byte _) W118 1 rfl (Nat.le_of_ble_eq_true rfl)
  have Kp118 : Keep h0 h118 [a1] := Kp115.wr W118 (Or.inl (List.mem_of_getElem? (i := 0) rfl))
  have Zs118 : n0 ≤ h118.size := Nat.le_trans Zs115 (Keep.of_wr W118).1
  have N118 := Fr.snoc X118 N115 g_1
  have f119_0 : Old Z n0 h118 := f116_0.wr W118 g_1
  refine own_by (fun _ k => XS.i2b X117.here hx rfl (hb hby d27_51) rfl (st118 _ k)) ?_
  exact own_retV X118 hx hlk hret (hb hby d27_53) (by rw [e118]; exact ⟨rfl, N118, Kp118, (by have q := V118; simp only [own_b8] at q; exact q)⟩) (by decide) (by decide)
def own_QPC3_1 (Z : State) (a1 : Addr) (k1 : ClassId) (cc : Int32) (w0 w1 w2 w3 w4 w5 : Int32) (h0 : Heap) (n0 : Nat) (v : Option Value) (h : Heap) (L : List Loc) : Prop := v = none ∧ Fr n0 L ∧ Keep h0 h [a1] ∧ Arv Z h a1 k1 .byte (6 : Int32) [(.int w0), (.int w1), (.int (own_lo cc)), (.int (own_hi cc)), (.int w4), (.int w5)] (.int (0 : Int32))
set_option maxRecDepth 65536 in
set_option maxHeartbeats 40000000 in
theorem rmPC3_1 (l : Launch) (Z : State) (a0 : Array Value) (hw : own_W a0 Z) (ws : List Jvm.Cond) (cs : Int32) (gS : Value) (a1 : Addr) (k1 : ClassId) (cc : Int32) (w0 w1 w2 w3 w4 w5 : Int32) (h0 : Heap) (n0 : Nat) (Z0 : n0 ≤ h0.size) (V_env : own_Env Z cs gS) (Od : Old Z n0 h0) (V1 : Arv Z h0 a1 k1 .byte (6 : Int32) [(.int w0), (.int w1), (.int w2), (.int w3), (.int w4), (.int w5)] (.int (0 : Int32))) (g_1 : n0 ≤ a1) : own_Met l Z mn6 jdk_52_method_4_code 3 none ws (own_R 0 0 0 0) #[(.ref a1), (.int (1 : Int32)), (.int cc)] h0 (own_QPC3_1 Z a1 k1 cc w0 w1 w2 w3 w4 w5 h0 n0) := by
  refine own_enter n0 (plainFor_of_name own_pn58) (fun m => ef_RII_3 m a1 (1 : Int32) cc ) (fun p e s m below meth c s₁ hx hby hlk hml hret hown hnm hZ X0 e0 N0 => ?_)
  show own_Fin _ _ _ _ _ _ _ s₁ (mkF m 0 #[Rv a1, Iv 1, Iv cc] [])
  have Kp120 : Keep h0 h0 [a1] := Keep.refl h0 _
  obtain ⟨T121, X121, e121, st121⟩ := getS2 X0 hx hZ hown (host := "") (Or.inl (own_g hw 114)) Via.refl e0 (V_env.1.ext Od.2) (g := (mkF m 0 #[Rv a1, Iv 1, Iv cc] [])) rfl (hb hby d27_0)
  refine own_by (fun _ k => st121 _ (XS.ifYes X121.here hx rfl (pc0 := 3) (pc' := 28) rfl (hb hby d27_3) rfl ((if0 _ _).trans (feq (by decide : ¬ ((1 : Int32) = (0 : Int32)))).2) (by decide) (by decide) (XS.iloadN X121.here hx rfl (hb hby d27_28) rfl (XS.iconst X121.here hx rfl (hb hby d27_29) (XS.ishl X121.here hx rfl (hb hby d27_30) rfl k))))) ?_
  show own_Fin _ _ _ _ _ _ _ T121 (mkF m 31 #[Rv a1, Iv 1, Iv cc] [(.int ((1 : Int32) <<< ((1 : Int32) &&& 31)))])
  rw [(by decide : ((1 : Int32) <<< ((1 : Int32) &&& 31)) = (2 : Int32))]
  show own_Fin _ _ _ _ _ _ _ T121 (mkF m 31 #[Rv a1, Iv 1, Iv cc] [(.int 2)])
  refine own_by (fun _ k => XS.istoreN X121.here hx rfl (hb hby d27_31) rfl (l' := #[Rv a1, Iv 2, Iv cc]) rfl (XS.aloadN X121.here hx rfl (hb hby d27_32) rfl rfl (XS.iloadN X121.here hx rfl (hb hby d27_33) rfl (XS.iinc X121.here hx rfl (hb hby d27_34) rfl (l' := #[Rv a1, Iv ((2 : Int32) + (1 : Int32)), Iv cc]) rfl k)))) ?_
  show own_Fin _ _ _ _ _ _ _ T121 (mkF m 37 #[Rv a1, Iv ((2 : Int32) + (1 : Int32)), Iv cc] [(.int 2), (.ref a1)])
  rw [(by decide : ((2 : Int32) + (1 : Int32)) = (3 : Int32))]
  show own_Fin _ _ _ _ _ _ _ T121 (mkF m 37 #[Rv a1, Iv 3, Iv cc] [(.int 2), (.ref a1)])
  obtain ⟨T122, X122, e122, st122⟩ := getS2 X121 hx hZ hown (host := "") (Or.inl (own_g hw 115)) Via.refl e121 (V_env.2.1.ext Od.2) (g := (mkF m 38 #[Rv a1, Iv 3, Iv cc] [(.int cc), (.int 2), (.ref a1)])) rfl (hb hby d27_38)
  obtain ⟨cl123, Ar123, q123, S123, M123, H123, G123⟩ := id V1
  have hin123 : ¬ ((2 : Int32) < 0 ∨ cl123.slots.size ≤ ((2 : Int32)).toNatClampNeg) := inb_of S123 ⟨by decide, by decide⟩
  obtain ⟨T123, h123, X123, e123, W123, st123⟩ := stB X122 hx hZ e122 Ar123 (j := (2 : Int32)) hin123 (g := (mkF m 43 #[Rv a1, Iv 3, Iv cc] [(.int ((cc >>> ((0 : Int32) &&& 31)).toInt8.toInt32)), (.int 2), (.ref a1)])) rfl rfl (hb hby d27_43)
  have V123 : Arv Z h123 a1 k1 .byte (6 : Int32) [(.int w0), (.int w1), (.int ((cc >>> ((0 : Int32) &&& 31)).toInt8.toInt32).toInt8.toInt32), (.int w3), (.int w4), (.int w5)] (.int (0 : Int32)) := Arv.set Ar123 q123 S123 M123 H123 G123 (fits_nar_byte _) W123 2 rfl (Nat.le_of_ble_eq_true rfl)
  have Kp123 : Keep h0 h123 [a1] := Kp120.wr W123 (Or.inl (List.mem_of_getElem? (i := 0) rfl))
  have Zs123 : n0 ≤ h123.size := Nat.le_trans Z0 (Keep.of_wr W123).1
  have N123 := Fr.snoc X123 N0 g_1
  have f124_0 : Old Z n0 h123 := Od.wr W123 g_1
  obtain ⟨T125, X125, e125, st125⟩ := getS2 X123 hx hZ hown (host := "") (Or.inl (own_g hw 116)) Via.refl e123 (V_env.2.2.1.ext f124_0.2) (g := (mkF m 47 #[Rv a1, Iv 3, Iv cc] [(.int cc), (.int 3), (.ref a1)])) rfl (hb hby d27_47)
  refine own_by (fun _ k => XS.iloadN X121.here hx rfl (hb hby d27_37) rfl (st122 _ (XS.ishr X122.here hx rfl (hb hby d27_41) rfl (XS.i2b X122.here hx rfl (hb hby d27_42) rfl (st123 _ (XS.aloadN X123.here hx rfl (hb hby d27_44) rfl rfl (XS.iloadN X123.here hx rfl (hb hby d27_45) rfl (XS.iloadN X123.here hx rfl (hb hby d27_46) rfl (st125 _ (XS.ishr X125.here hx rfl (hb hby d27_50) rfl k)))))))))) ?_
  show own_Fin _ _ _ _ _ _ _ T125 (mkF m 51 #[Rv a1, Iv 3, Iv cc] [(.int (cc >>> ((8 : Int32) &&& 31))), (.int 3), (.ref a1)])
  obtain ⟨cl126, Ar126, q126, S126, M126, H126, G126⟩ := id V123
  have hin126 : ¬ ((3 : Int32) < 0 ∨ cl126.slots.size ≤ ((3 : Int32)).toNatClampNeg) := inb_of S126 ⟨by decide, by decide⟩
  obtain ⟨T126, h126, X126, e126, W126, st126⟩ := stB X125 hx hZ e125 Ar126 (j := (3 : Int32)) hin126 (g := (mkF m 52 #[Rv a1, Iv 3, Iv cc] [(.int ((cc >>> ((8 : Int32) &&& 31)).toInt8.toInt32)), (.int 3), (.ref a1)])) rfl rfl (hb hby d27_52)
  have V126 : Arv Z h126 a1 k1 .byte (6 : Int32) [(.int w0), (.int w1), (.int ((cc >>> ((0 : Int32) &&& 31)).toInt8.toInt32).toInt8.toInt32), (.int ((cc >>> ((8 : Int32) &&& 31)).toInt8.toInt32).toInt8.toInt32), (.int w4), (.int w5)] (.int (0 : Int32)) := Arv.set Ar126 q126 S126 M126 H126 G126 (fits_nar_byte _) W126 3 rfl (Nat.le_of_ble_eq_true rfl)
  have Kp126 : Keep h0 h126 [a1] := Kp123.wr W126 (Or.inl (List.mem_of_getElem? (i := 0) rfl))
  have Zs126 : n0 ≤ h126.size := Nat.le_trans Zs123 (Keep.of_wr W126).1
  have N126 := Fr.snoc X126 N123 g_1
  have f127_0 : Old Z n0 h126 := f124_0.wr W126 g_1
  refine own_by (fun _ k => XS.i2b X125.here hx rfl (hb hby d27_51) rfl (st126 _ k)) ?_
  exact own_retV X126 hx hlk hret (hb hby d27_53) (by rw [e126]; exact ⟨rfl, N126, Kp126, (by have q := V126; simp only [own_b8] at q; exact q)⟩) (by decide) (by decide)
def own_QPC3_2 (Z : State) (a1 : Addr) (k1 : ClassId) (cc : Int32) (w0 w1 w2 w3 w4 w5 : Int32) (h0 : Heap) (n0 : Nat) (v : Option Value) (h : Heap) (L : List Loc) : Prop := v = none ∧ Fr n0 L ∧ Keep h0 h [a1] ∧ Arv Z h a1 k1 .byte (6 : Int32) [(.int w0), (.int w1), (.int w2), (.int w3), (.int (own_lo cc)), (.int (own_hi cc))] (.int (0 : Int32))
set_option maxRecDepth 65536 in
set_option maxHeartbeats 40000000 in
theorem rmPC3_2 (l : Launch) (Z : State) (a0 : Array Value) (hw : own_W a0 Z) (ws : List Jvm.Cond) (cs : Int32) (gS : Value) (a1 : Addr) (k1 : ClassId) (cc : Int32) (w0 w1 w2 w3 w4 w5 : Int32) (h0 : Heap) (n0 : Nat) (Z0 : n0 ≤ h0.size) (V_env : own_Env Z cs gS) (Od : Old Z n0 h0) (V1 : Arv Z h0 a1 k1 .byte (6 : Int32) [(.int w0), (.int w1), (.int w2), (.int w3), (.int w4), (.int w5)] (.int (0 : Int32))) (g_1 : n0 ≤ a1) : own_Met l Z mn6 jdk_52_method_4_code 3 none ws (own_R 0 0 0 0) #[(.ref a1), (.int (2 : Int32)), (.int cc)] h0 (own_QPC3_2 Z a1 k1 cc w0 w1 w2 w3 w4 w5 h0 n0) := by
  refine own_enter n0 (plainFor_of_name own_pn58) (fun m => ef_RII_3 m a1 (2 : Int32) cc ) (fun p e s m below meth c s₁ hx hby hlk hml hret hown hnm hZ X0 e0 N0 => ?_)
  show own_Fin _ _ _ _ _ _ _ s₁ (mkF m 0 #[Rv a1, Iv 2, Iv cc] [])
  have Kp128 : Keep h0 h0 [a1] := Keep.refl h0 _
  obtain ⟨T129, X129, e129, st129⟩ := getS2 X0 hx hZ hown (host := "") (Or.inl (own_g hw 114)) Via.refl e0 (V_env.1.ext Od.2) (g := (mkF m 0 #[Rv a1, Iv 2, Iv cc] [])) rfl (hb hby d27_0)
  refine own_by (fun _ k => st129 _ (XS.ifYes X129.here hx rfl (pc0 := 3) (pc' := 28) rfl (hb hby d27_3) rfl ((if0 _ _).trans (feq (by decide : ¬ ((1 : Int32) = (0 : Int32)))).2) (by decide) (by decide) (XS.iloadN X129.here hx rfl (hb hby d27_28) rfl (XS.iconst X129.here hx rfl (hb hby d27_29) (XS.ishl X129.here hx rfl (hb hby d27_30) rfl k))))) ?_
  show own_Fin _ _ _ _ _ _ _ T129 (mkF m 31 #[Rv a1, Iv 2, Iv cc] [(.int ((2 : Int32) <<< ((1 : Int32) &&& 31)))])
  rw [(by decide : ((2 : Int32) <<< ((1 : Int32) &&& 31)) = (4 : Int32))]
  show own_Fin _ _ _ _ _ _ _ T129 (mkF m 31 #[Rv a1, Iv 2, Iv cc] [(.int 4)])
  refine own_by (fun _ k => XS.istoreN X129.here hx rfl (hb hby d27_31) rfl (l' := #[Rv a1, Iv 4, Iv cc]) rfl (XS.aloadN X129.here hx rfl (hb hby d27_32) rfl rfl (XS.iloadN X129.here hx rfl (hb hby d27_33) rfl (XS.iinc X129.here hx rfl (hb hby d27_34) rfl (l' := #[Rv a1, Iv ((4 : Int32) + (1 : Int32)), Iv cc]) rfl k)))) ?_
  show own_Fin _ _ _ _ _ _ _ T129 (mkF m 37 #[Rv a1, Iv ((4 : Int32) + (1 : Int32)), Iv cc] [(.int 4), (.ref a1)])
  rw [(by decide : ((4 : Int32) + (1 : Int32)) = (5 : Int32))]
  show own_Fin _ _ _ _ _ _ _ T129 (mkF m 37 #[Rv a1, Iv 5, Iv cc] [(.int 4), (.ref a1)])
  obtain ⟨T130, X130, e130, st130⟩ := getS2 X129 hx hZ hown (host := "") (Or.inl (own_g hw 115)) Via.refl e129 (V_env.2.1.ext Od.2) (g := (mkF m 38 #[Rv a1, Iv 5, Iv cc] [(.int cc), (.int 4), (.ref a1)])) rfl (hb hby d27_38)
  obtain ⟨cl131, Ar131, q131, S131, M131, H131, G131⟩ := id V1
  have hin131 : ¬ ((4 : Int32) < 0 ∨ cl131.slots.size ≤ ((4 : Int32)).toNatClampNeg) := inb_of S131 ⟨by decide, by decide⟩
  obtain ⟨T131, h131, X131, e131, W131, st131⟩ := stB X130 hx hZ e130 Ar131 (j := (4 : Int32)) hin131 (g := (mkF m 43 #[Rv a1, Iv 5, Iv cc] [(.int ((cc >>> ((0 : Int32) &&& 31)).toInt8.toInt32)), (.int 4), (.ref a1)])) rfl rfl (hb hby d27_43)
  have V131 : Arv Z h131 a1 k1 .byte (6 : Int32) [(.int w0), (.int w1), (.int w2), (.int w3), (.int ((cc >>> ((0 : Int32) &&& 31)).toInt8.toInt32).toInt8.toInt32), (.int w5)] (.int (0 : Int32)) := Arv.set Ar131 q131 S131 M131 H131 G131 (fits_nar_byte _) W131 4 rfl (Nat.le_of_ble_eq_true rfl)
  have Kp131 : Keep h0 h131 [a1] := Kp128.wr W131 (Or.inl (List.mem_of_getElem? (i := 0) rfl))
  have Zs131 : n0 ≤ h131.size := Nat.le_trans Z0 (Keep.of_wr W131).1
  have N131 := Fr.snoc X131 N0 g_1
  have f132_0 : Old Z n0 h131 := Od.wr W131 g_1
  obtain ⟨T133, X133, e133, st133⟩ := getS2 X131 hx hZ hown (host := "") (Or.inl (own_g hw 116)) Via.refl e131 (V_env.2.2.1.ext f132_0.2) (g := (mkF m 47 #[Rv a1, Iv 5, Iv cc] [(.int cc), (.int 5), (.ref a1)])) rfl (hb hby d27_47)
  refine own_by (fun _ k => XS.iloadN X129.here hx rfl (hb hby d27_37) rfl (st130 _ (XS.ishr X130.here hx rfl (hb hby d27_41) rfl (XS.i2b X130.here hx rfl (hb hby d27_42) rfl (st131 _ (XS.aloadN X131.here hx rfl (hb hby d27_44) rfl rfl (XS.iloadN X131.here hx rfl (hb hby d27_45) rfl (XS.iloadN X131.here hx rfl (hb hby d27_46) rfl (st133 _ (XS.ishr X133.here hx rfl (hb hby d27_50) rfl k)))))))))) ?_
  show own_Fin _ _ _ _ _ _ _ T133 (mkF m 51 #[Rv a1, Iv 5, Iv cc] [(.int (cc >>> ((8 : Int32) &&& 31))), (.int 5), (.ref a1)])
  obtain ⟨cl134, Ar134, q134, S134, M134, H134, G134⟩ := id V131
  have hin134 : ¬ ((5 : Int32) < 0 ∨ cl134.slots.size ≤ ((5 : Int32)).toNatClampNeg) := inb_of S134 ⟨by decide, by decide⟩
  obtain ⟨T134, h134, X134, e134, W134, st134⟩ := stB X133 hx hZ e133 Ar134 (j := (5 : Int32)) hin134 (g := (mkF m 52 #[Rv a1, Iv 5, Iv cc] [(.int ((cc >>> ((8 : Int32) &&& 31)).toInt8.toInt32)), (.int 5), (.ref a1)])) rfl rfl (hb hby d27_52)
  have V134 : Arv Z h134 a1 k1 .byte (6 : Int32) [(.int w0), (.int w1), (.int w2), (.int w3), (.int ((cc >>> ((0 : Int32) &&& 31)).toInt8.toInt32).toInt8.toInt32), (.int ((cc >>> ((8 : Int32) &&& 31)).toInt8.toInt32).toInt8.toInt32)] (.int (0 : Int32)) := Arv.set Ar134 q134 S134 M134 H134 G134 (fits_nar_byte _) W134 5 rfl (Nat.le_of_ble_eq_true rfl)
  have Kp134 : Keep h0 h134 [a1] := Kp131.wr W134 (Or.inl (List.mem_of_getElem? (i := 0) rfl))
  have Zs134 : n0 ≤ h134.size := Nat.le_trans Zs131 (Keep.of_wr W134).1
  have N134 := Fr.snoc X134 N131 g_1
  have f135_0 : Old Z n0 h134 := f132_0.wr W134 g_1
  refine own_by (fun _ k => XS.i2b X133.here hx rfl (hb hby d27_51) rfl (st134 _ k)) ?_
  exact own_retV X134 hx hlk hret (hb hby d27_53) (by rw [e134]; exact ⟨rfl, N134, Kp134, (by have q := V134; simp only [own_b8] at q; exact q)⟩) (by decide) (by decide)
def own_QTB3 (Z : State) (x0 x1 x2 : Int32) (h0 : Heap) (n0 : Nat) (v : Option Value) (h : Heap) (L : List Loc) : Prop := ∃ (a : Addr) (k : ClassId), v = some (.ref a) ∧ Fr n0 L ∧ Keep h0 h [] ∧ h0.size ≤ a ∧ Arv Z h a k .byte (6 : Int32) [(.int (own_lo x0)), (.int (own_hi x0)), (.int (own_lo x1)), (.int (own_hi x1)), (.int (own_lo x2)), (.int (own_hi x2))] (.int (0 : Int32))
set_option maxRecDepth 65536 in
set_option maxHeartbeats 40000000 in
theorem rmTB3 (l : Launch) (Z : State) (a0 : Array Value) (hw : own_W a0 Z) (ws : List Jvm.Cond) (cs : Int32) (gS : Value) (a1 : Addr) (kc : ClassId) (x0 x1 x2 : Int32) (h0 : Heap) (n0 : Nat) (Z0 : n0 ≤ h0.size) (V_env : own_Env Z cs gS) (Od : Old Z n0 h0) (V1 : Arv Z h0 a1 kc .char (3 : Int32) [(.int x0), (.int x1), (.int x2)] (.int (0 : Int32))) : own_Met l Z mn7 jdk_52_method_14_code 5 (some (.array .byte)) ws (own_R 2 1 6 24) #[(.ref a1), (.int (0 : Int32)), (.int (3 : Int32))] h0 (own_QTB3 Z x0 x1 x2 h0 n0) := by
  refine own_enter n0 (plainFor_of_name own_pn58) (fun m => ef_RII_5 m a1 (0 : Int32) (3 : Int32) ) (fun p e s m below meth c s₁ hx hby hlk hml hret hown hnm hZ X0 e0 N0 => ?_)
  show own_Fin _ _ _ _ _ _ _ s₁ (mkF m 0 #[Rv a1, Iv 0, Iv 3, Uv, Uv] [])
  have Kp136 : Keep h0 h0 [] := Keep.refl h0 _
  obtain ⟨_, _, ⟨T137, L137, k137, n137⟩, -, X137, ⟨Lc137, hQ137, l137, y137, z137⟩, st137⟩ := LawKit.callS X0 hx (y := mn5) hown (own_m hZ hw 104) (own_m hZ hw 105) (own_m hZ hw 74) (own_m hZ hw 106) (by decide) (backOf (W := 0) (rmNBF3 l Z a0 hw []  h0 n0 Z0 ) hZ (own_g hw 106) (own_g hw 74) (by decide) (by decide)) (g := (mkF m 1 #[Rv a1, Iv 0, Iv 3, Uv, Uv] [(.int 3)])) rfl (by rw [hml]; rfl) (argsL := [(.int (3 : Int32))]) (rest := []) (lenOf own_pd99 rfl) rfl (own_z rfl) (hb hby d24_1) (fun _ _ => ⟨rfl, e0, (by decide : 0 + 1 ≤ _), (by decide : 0 + 6 ≤ _)⟩)
  dsimp only [Pt.U, Pt.locs, Pt.cells, Pt.slots] at X137 l137 y137 z137 st137 hQ137
  subst l137 y137 z137
  obtain ⟨b137, k137, rfl, Nq137, K137, ge137, V137⟩ := hQ137
  have N137 := Fr.app N0 Nq137
  have Zs137 : n0 ≤ T137.heap.size := Nat.le_trans Z0 K137.1
  have Kp137 : Keep h0 T137.heap [] := Kp136.trans K137 all0
  have f138_0 : Old Z n0 T137.heap := Od.keep K137 all0
  have f138_1 : Arv Z T137.heap a1 kc .char (3 : Int32) [(.int x0), (.int x1), (.int x2)] (.int (0 : Int32)) := V1.keep K137 nin0
  have ne137_a1 : a1 ≠ b137 := Nat.ne_of_lt (Nat.lt_of_lt_of_le V1.lt ge137)
  have gf137 : n0 ≤ b137 := Nat.le_trans Z0 ge137
  have sz_b137 : h0.size ≤ b137 := Nat.le_trans Kp136.1 ge137
  refine own_by (fun _ k => XS.iloadN X0.here hx rfl (hb hby d24_0) rfl (st137 _ (XS.astoreN X137.here hx rfl (hb hby d24_4) rfl rfl (l' := #[Rv a1, Iv 0, Iv 3, Rv b137, Uv]) rfl (XS.iconst X137.here hx rfl (hb hby d24_5) (XS.istore X137.here hx rfl (hb hby d24_6) rfl (l' := #[Rv a1, Iv 0, Iv 3, Rv b137, Iv 0]) rfl (XS.iload X137.here hx rfl (hb hby d24_8) rfl (XS.iloadN X137.here hx rfl (hb hby d24_10) rfl (XS.icmpNo X137.here hx rfl (hb hby d24_11) rfl (tlt (by decide : (0 : Int32) < (3 : Int32))).2.1 (XS.aloadN X137.here hx rfl (hb hby d24_14) rfl rfl (XS.iload X137.here hx rfl (hb hby d24_15) rfl k)))))))))) ?_
  show own_Fin _ _ _ _ _ _ _ T137 (mkF m 17 #[Rv a1, Iv 0, Iv 3, Rv b137, Iv 0] [(.int 0), (.ref b137)])
  obtain ⟨cl139, Ar139, -, S139, M139, H139, -⟩ := id f138_1
  have hin139 : ¬ ((0 : Int32) < 0 ∨ cl139.slots.size ≤ ((0 : Int32)).toNatClampNeg) := inb_of S139 ⟨by decide, by decide⟩
  have hat139 : cl139.slots[((0 : Int32)).toNatClampNeg]? = some (.int x0) := Has.at H139 hin139 rfl
  obtain ⟨_, _, ⟨T140, L140, k140, n140⟩, -, X140, ⟨Lc140, hQ140, l140, y140, z140⟩, st140⟩ := LawKit.callS X137 hx (y := mn6) hown (own_m hZ hw 111) (own_m hZ hw 112) (own_m hZ hw 74) (own_m hZ hw 113) (by decide) (backOf (W := 0) (rmPC3_0 l Z a0 hw [] cs gS b137 k137 x0 (0 : Int32) (0 : Int32) (0 : Int32) (0 : Int32) (0 : Int32) (0 : Int32) T137.heap n0 Zs137 V_env f138_0 V137 gf137) hZ (own_g hw 113) (own_g hw 74) (by decide) (by decide)) (g := (mkF m 20 #[Rv a1, Iv 0, Iv 3, Rv b137, Iv 0] [(.int x0), (.int 0), (.ref b137)])) rfl (by rw [hml]; rfl) (argsL := [(.ref b137), (.int (0 : Int32)), (.int x0)]) (rest := []) (lenOf own_pd112 rfl) rfl (own_z rfl) (hb hby d24_20) (fun _ _ => ⟨rfl, rfl, (by decide : 1 + 0 ≤ _), (by decide : 6 + 0 ≤ _)⟩)
  dsimp only [Pt.U, Pt.locs, Pt.cells, Pt.slots] at X140 l140 y140 z140 st140 hQ140
  subst l140 y140 z140
  obtain ⟨rfl, Nq140, K140, Vr140⟩ := hQ140
  have N140 := Fr.app N137 Nq140
  have Zs140 : n0 ≤ T140.heap.size := Nat.le_trans Zs137 K140.1
  have Kp140 : Keep h0 T140.heap [] := Kp137.trans K140 (allS (Or.inr sz_b137) all0)
  have f141_0 : Old Z n0 T140.heap := f138_0.keep K140 (allS gf137 all0)
  have f141_1 : Arv Z T140.heap a1 kc .char (3 : Int32) [(.int x0), (.int x1), (.int x2)] (.int (0 : Int32)) := f138_1.keep K140 (ninS ne137_a1 nin0)
  refine own_by (fun _ k => XS.aloadN X137.here hx rfl (hb hby d24_17) rfl rfl (XS.iloadN X137.here hx rfl (hb hby d24_18) rfl (X137.caload hx (j := (0 : Int32)) (v := (.int x0)) Ar139.1 (State.isArrayOf_alike hZ.alike Ar139.2.1) Ar139.2.2 hin139 hat139 (g := (mkF m 19 #[Rv a1, Iv 0, Iv 3, Rv b137, Iv 0] [(.int 0), (.ref a1), (.int 0), (.ref b137)])) rfl rfl (hb hby d24_19) _ (st140 _ (XS.iinc X140.here hx rfl (hb hby d24_23) rfl (l' := #[Rv a1, Iv ((0 : Int32) + (1 : Int32)), Iv 3, Rv b137, Iv 0]) rfl k))))) ?_
  show own_Fin _ _ _ _ _ _ _ T140 (mkF m 26 #[Rv a1, Iv ((0 : Int32) + (1 : Int32)), Iv 3, Rv b137, Iv 0] [])
  rw [(by decide : ((0 : Int32) + (1 : Int32)) = (1 : Int32))]
  show own_Fin _ _ _ _ _ _ _ T140 (mkF m 26 #[Rv a1, Iv 1, Iv 3, Rv b137, Iv 0] [])
  refine own_by (fun _ k => XS.iinc X140.here hx rfl (hb hby d24_26) rfl (l' := #[Rv a1, Iv 1, Iv 3, Rv b137, Iv ((0 : Int32) + (1 : Int32))]) rfl k) ?_
  show own_Fin _ _ _ _ _ _ _ T140 (mkF m 29 #[Rv a1, Iv 1, Iv 3, Rv b137, Iv ((0 : Int32) + (1 : Int32))] [])
  rw [(by decide : ((0 : Int32) + (1 : Int32)) = (1 : Int32))]
  show own_Fin _ _ _ _ _ _ _ T140 (mkF m 29 #[Rv a1, Iv 1, Iv 3, Rv b137, Iv 1] [])
  obtain ⟨cl142, Ar142, -, S142, M142, H142, -⟩ := id f141_1
  have hin142 : ¬ ((1 : Int32) < 0 ∨ cl142.slots.size ≤ ((1 : Int32)).toNatClampNeg) := inb_of S142 ⟨by decide, by decide⟩
  have hat142 : cl142.slots[((1 : Int32)).toNatClampNeg]? = some (.int x1) := Has.at H142 hin142 rfl
  obtain ⟨_, _, ⟨T143, L143, k143, n143⟩, -, X143, ⟨Lc143, hQ143, l143, y143, z143⟩, st143⟩ := LawKit.callS X140 hx (y := mn6) hown (own_m hZ hw 111) (own_m hZ hw 112) (own_m hZ hw 74) (own_m hZ hw 113) (by decide) (backOf (W := 0) (rmPC3_1 l Z a0 hw [] cs gS b137 k137 x1 (own_lo x0) (own_hi x0) (0 : Int32) (0 : Int32) (0 : Int32) (0 : Int32) T140.heap n0 Zs140 V_env f141_0 Vr140 gf137) hZ (own_g hw 113) (own_g hw 74) (by decide) (by decide)) (g := (mkF m 20 #[Rv a1, Iv 1, Iv 3, Rv b137, Iv 1] [(.int x1), (.int 1), (.ref b137)])) rfl (by rw [hml]; rfl) (argsL := [(.ref b137), (.int (1 : Int32)), (.int x1)]) (rest := []) (lenOf own_pd112 rfl) rfl (own_z rfl) (hb hby d24_20) (fun _ _ => ⟨rfl, rfl, (by decide : 1 + 0 ≤ _), (by decide : 6 + 0 ≤ _)⟩)
  dsimp only [Pt.U, Pt.locs, Pt.cells, Pt.slots] at X143 l143 y143 z143 st143 hQ143
  subst l143 y143 z143
  obtain ⟨rfl, Nq143, K143, Vr143⟩ := hQ143
  have N143 := Fr.app N140 Nq143
  have Zs143 : n0 ≤ T143.heap.size := Nat.le_trans Zs140 K143.1
  have Kp143 : Keep h0 T143.heap [] := Kp140.trans K143 (allS (Or.inr sz_b137) all0)
  have f144_0 : Old Z n0 T143.heap := f141_0.keep K143 (allS gf137 all0)
  have f144_1 : Arv Z T143.heap a1 kc .char (3 : Int32) [(.int x0), (.int x1), (.int x2)] (.int (0 : Int32)) := f141_1.keep K143 (ninS ne137_a1 nin0)
  refine own_by (fun _ k => XS.goto X140.here hx rfl (pc0 := 29) (pc' := 8) rfl (hb hby d24_29) (by decide) (by decide) (XS.iload X140.here hx rfl (hb hby d24_8) rfl (XS.iloadN X140.here hx rfl (hb hby d24_10) rfl (XS.icmpNo X140.here hx rfl (hb hby d24_11) rfl (tlt (by decide : (1 : Int32) < (3 : Int32))).2.1 (XS.aloadN X140.here hx rfl (hb hby d24_14) rfl rfl (XS.iload X140.here hx rfl (hb hby d24_15) rfl (XS.aloadN X140.here hx rfl (hb hby d24_17) rfl rfl (XS.iloadN X140.here hx rfl (hb hby d24_18) rfl (X140.caload hx (j := (1 : Int32)) (v := (.int x1)) Ar142.1 (State.isArrayOf_alike hZ.alike Ar142.2.1) Ar142.2.2 hin142 hat142 (g := (mkF m 19 #[Rv a1, Iv 1, Iv 3, Rv b137, Iv 1] [(.int 1), (.ref a1), (.int 1), (.ref b137)])) rfl rfl (hb hby d24_19) _ (st143 _ k)))))))))) ?_
  show own_Fin _ _ _ _ _ _ _ T143 (mkF m 23 #[Rv a1, Iv 1, Iv 3, Rv b137, Iv 1] [])
  refine own_by (fun _ k => XS.iinc X143.here hx rfl (hb hby d24_23) rfl (l' := #[Rv a1, Iv ((1 : Int32) + (1 : Int32)), Iv 3, Rv b137, Iv 1]) rfl k) ?_
  show own_Fin _ _ _ _ _ _ _ T143 (mkF m 26 #[Rv a1, Iv ((1 : Int32) + (1 : Int32)), Iv 3, Rv b137, Iv 1] [])
  rw [(by decide : ((1 : Int32) + (1 : Int32)) = (2 : Int32))]
  show own_Fin _ _ _ _ _ _ _ T143 (mkF m 26 #[Rv a1, Iv 2, Iv 3, Rv b137, Iv 1] [])
  refine own_by (fun _ k => XS.iinc X143.here hx rfl (hb hby d24_26) rfl (l' := #[Rv a1, Iv 2, Iv 3, Rv b137, Iv ((1 : Int32) + (1 : Int32))]) rfl k) ?_
  show own_Fin _ _ _ _ _ _ _ T143 (mkF m 29 #[Rv a1, Iv 2, Iv 3, Rv b137, Iv ((1 : Int32) + (1 : Int32))] [])
  rw [(by decide : ((1 : Int32) + (1 : Int32)) = (2 : Int32))]
  show own_Fin _ _ _ _ _ _ _ T143 (mkF m 29 #[Rv a1, Iv 2, Iv 3, Rv b137, Iv 2] [])
  obtain ⟨cl145, Ar145, -, S145, M145, H145, -⟩ := id f144_1
  have hin145 : ¬ ((2 : Int32) < 0 ∨ cl145.slots.size ≤ ((2 : Int32)).toNatClampNeg) := inb_of S145 ⟨by decide, by decide⟩
  have hat145 : cl145.slots[((2 : Int32)).toNatClampNeg]? = some (.int x2) := Has.at H145 hin145 rfl
  obtain ⟨_, _, ⟨T146, L146, k146, n146⟩, -, X146, ⟨Lc146, hQ146, l146, y146, z146⟩, st146⟩ := LawKit.callS X143 hx (y := mn6) hown (own_m hZ hw 111) (own_m hZ hw 112) (own_m hZ hw 74) (own_m hZ hw 113) (by decide) (backOf (W := 0) (rmPC3_2 l Z a0 hw [] cs gS b137 k137 x2 (own_lo x0) (own_hi x0) (own_lo x1) (own_hi x1) (0 : Int32) (0 : Int32) T143.heap n0 Zs143 V_env f144_0 Vr143 gf137) hZ (own_g hw 113) (own_g hw 74) (by decide) (by decide)) (g := (mkF m 20 #[Rv a1, Iv 2, Iv 3, Rv b137, Iv 2] [(.int x2), (.int 2), (.ref b137)])) rfl (by rw [hml]; rfl) (argsL := [(.ref b137), (.int (2 : Int32)), (.int x2)]) (rest := []) (lenOf own_pd112 rfl) rfl (own_z rfl) (hb hby d24_20) (fun _ _ => ⟨rfl, rfl, (by decide : 1 + 0 ≤ _), (by decide : 6 + 0 ≤ _)⟩)
  dsimp only [Pt.U, Pt.locs, Pt.cells, Pt.slots] at X146 l146 y146 z146 st146 hQ146
  subst l146 y146 z146
  obtain ⟨rfl, Nq146, K146, Vr146⟩ := hQ146
  have N146 := Fr.app N143 Nq146
  have Zs146 : n0 ≤ T146.heap.size := Nat.le_trans Zs143 K146.1
  have Kp146 : Keep h0 T146.heap [] := Kp143.trans K146 (allS (Or.inr sz_b137) all0)
  have f147_0 : Old Z n0 T146.heap := f144_0.keep K146 (allS gf137 all0)
  have f147_1 : Arv Z T146.heap a1 kc .char (3 : Int32) [(.int x0), (.int x1), (.int x2)] (.int (0 : Int32)) := f144_1.keep K146 (ninS ne137_a1 nin0)
  refine own_by (fun _ k => XS.goto X143.here hx rfl (pc0 := 29) (pc' := 8) rfl (hb hby d24_29) (by decide) (by decide) (XS.iload X143.here hx rfl (hb hby d24_8) rfl (XS.iloadN X143.here hx rfl (hb hby d24_10) rfl (XS.icmpNo X143.here hx rfl (hb hby d24_11) rfl (tlt (by decide : (2 : Int32) < (3 : Int32))).2.1 (XS.aloadN X143.here hx rfl (hb hby d24_14) rfl rfl (XS.iload X143.here hx rfl (hb hby d24_15) rfl (XS.aloadN X143.here hx rfl (hb hby d24_17) rfl rfl (XS.iloadN X143.here hx rfl (hb hby d24_18) rfl (X143.caload hx (j := (2 : Int32)) (v := (.int x2)) Ar145.1 (State.isArrayOf_alike hZ.alike Ar145.2.1) Ar145.2.2 hin145 hat145 (g := (mkF m 19 #[Rv a1, Iv 2, Iv 3, Rv b137, Iv 2] [(.int 2), (.ref a1), (.int 2), (.ref b137)])) rfl rfl (hb hby d24_19) _ (st146 _ k)))))))))) ?_
  show own_Fin _ _ _ _ _ _ _ T146 (mkF m 23 #[Rv a1, Iv 2, Iv 3, Rv b137, Iv 2] [])
  refine own_by (fun _ k => XS.iinc X146.here hx rfl (hb hby d24_23) rfl (l' := #[Rv a1, Iv ((2 : Int32) + (1 : Int32)), Iv 3, Rv b137, Iv 2]) rfl k) ?_
  show own_Fin _ _ _ _ _ _ _ T146 (mkF m 26 #[Rv a1, Iv ((2 : Int32) + (1 : Int32)), Iv 3, Rv b137, Iv 2] [])
  rw [(by decide : ((2 : Int32) + (1 : Int32)) = (3 : Int32))]
  show own_Fin _ _ _ _ _ _ _ T146 (mkF m 26 #[Rv a1, Iv 3, Iv 3, Rv b137, Iv 2] [])
  refine own_by (fun _ k => XS.iinc X146.here hx rfl (hb hby d24_26) rfl (l' := #[Rv a1, Iv 3, Iv 3, Rv b137, Iv ((2 : Int32) + (1 : Int32))]) rfl k) ?_
  show own_Fin _ _ _ _ _ _ _ T146 (mkF m 29 #[Rv a1, Iv 3, Iv 3, Rv b137, Iv ((2 : Int32) + (1 : Int32))] [])
  rw [(by decide : ((2 : Int32) + (1 : Int32)) = (3 : Int32))]
  show own_Fin _ _ _ _ _ _ _ T146 (mkF m 29 #[Rv a1, Iv 3, Iv 3, Rv b137, Iv 3] [])
  refine own_by (fun _ k => XS.goto X146.here hx rfl (pc0 := 29) (pc' := 8) rfl (hb hby d24_29) (by decide) (by decide) (XS.iload X146.here hx rfl (hb hby d24_8) rfl (XS.iloadN X146.here hx rfl (hb hby d24_10) rfl (XS.icmpYes X146.here hx rfl (pc0 := 11) (pc' := 32) rfl (hb hby d24_11) rfl (flt (by decide : ¬ ((3 : Int32) < (3 : Int32)))).2.1 (by decide) (by decide) (XS.aloadN X146.here hx rfl (hb hby d24_32) rfl rfl k))))) ?_
  exact own_retA X146 hx hlk (t := (.array .byte)) hret rfl rfl rfl (hb hby d24_33) ⟨_, _, rfl, N146, Kp146, sz_b137, Vr146⟩ (by decide) (by decide)
def own_QrmGC3_0 (x0 x1 x2 : Int32) (h0 : Heap) (n0 : Nat) (v : Option Value) (h : Heap) (L : List Loc) : Prop := v = some (.int x0) ∧ Fr n0 L ∧ h = h0
set_option maxRecDepth 65536 in
set_option maxHeartbeats 40000000 in
theorem rmGC3_0 (l : Launch) (Z : State) (a0 : Array Value) (hw : own_W a0 Z) (ws : List Jvm.Cond) (cs : Int32) (gS : Value) (a1 : Addr) (k1 : ClassId) (x0 x1 x2 : Int32) (h0 : Heap) (n0 : Nat) (Z0 : n0 ≤ h0.size) (V_env : own_Env Z cs gS) (Od : Old Z n0 h0) (V1 : Arv Z h0 a1 k1 .byte (6 : Int32) [(.int (own_lo x0)), (.int (own_hi x0)), (.int (own_lo x1)), (.int (own_hi x1)), (.int (own_lo x2)), (.int (own_hi x2))] (.int (0 : Int32))) (hch : own_ch x0) : own_Met l Z mn8 jdk_52_method_5_code 2 (some .char) ws (own_R 0 0 0 0) #[(.ref a1), (.int (0 : Int32))] h0 (own_QrmGC3_0 x0 x1 x2 h0 n0) := by
  refine own_enter n0 (plainFor_of_name own_pn58) (fun m => ef_RI_2 m a1 (0 : Int32) ) (fun p e s m below meth c s₁ hx hby hlk hml hret hown hnm hZ X0 e0 N0 => ?_)
  show own_Fin _ _ _ _ _ _ _ s₁ (mkF m 0 #[Rv a1, Iv 0] [])
  obtain ⟨T148, X148, e148, st148⟩ := getS2 X0 hx hZ hown (host := "") (Or.inl (own_g hw 114)) Via.refl e0 (V_env.1.ext Od.2) (g := (mkF m 0 #[Rv a1, Iv 0] [])) rfl (hb hby d28_0)
  refine own_by (fun _ k => st148 _ (XS.ifYes X148.here hx rfl (pc0 := 3) (pc' := 28) rfl (hb hby d28_3) rfl ((if0 _ _).trans (feq (by decide : ¬ ((1 : Int32) = (0 : Int32)))).2) (by decide) (by decide) (XS.iloadN X148.here hx rfl (hb hby d28_28) rfl (XS.iconst X148.here hx rfl (hb hby d28_29) (XS.ishl X148.here hx rfl (hb hby d28_30) rfl k))))) ?_
  show own_Fin _ _ _ _ _ _ _ T148 (mkF m 31 #[Rv a1, Iv 0] [(.int ((0 : Int32) <<< ((1 : Int32) &&& 31)))])
  rw [(by decide : ((0 : Int32) <<< ((1 : Int32) &&& 31)) = (0 : Int32))]
  show own_Fin _ _ _ _ _ _ _ T148 (mkF m 31 #[Rv a1, Iv 0] [(.int 0)])
  refine own_by (fun _ k => XS.istoreN X148.here hx rfl (hb hby d28_31) rfl (l' := #[Rv a1, Iv 0]) rfl (XS.aloadN X148.here hx rfl (hb hby d28_32) rfl rfl (XS.iloadN X148.here hx rfl (hb hby d28_33) rfl (XS.iinc X148.here hx rfl (hb hby d28_34) rfl (l' := #[Rv a1, Iv ((0 : Int32) + (1 : Int32))]) rfl k)))) ?_
  show own_Fin _ _ _ _ _ _ _ T148 (mkF m 37 #[Rv a1, Iv ((0 : Int32) + (1 : Int32))] [(.int 0), (.ref a1)])
  rw [(by decide : ((0 : Int32) + (1 : Int32)) = (1 : Int32))]
  show own_Fin _ _ _ _ _ _ _ T148 (mkF m 37 #[Rv a1, Iv 1] [(.int 0), (.ref a1)])
  obtain ⟨cl149, Ar149, -, S149, M149, H149, -⟩ := id V1
  have hin149 : ¬ ((0 : Int32) < 0 ∨ cl149.slots.size ≤ ((0 : Int32)).toNatClampNeg) := inb_of S149 ⟨by decide, by decide⟩
  have hat149 : cl149.slots[((0 : Int32)).toNatClampNeg]? = some (.int (own_lo x0)) := Has.at H149 hin149 rfl
  obtain ⟨T150, X150, e150, st150⟩ := getS2 X148 hx hZ hown (host := "") (Or.inl (own_g hw 115)) Via.refl e148 (V_env.2.1.ext Od.2) (g := (mkF m 42 #[Rv a1, Iv 1] [(.int ((own_lo x0) &&& (255 : Int32)))])) rfl (hb hby d28_42)
  obtain ⟨cl151, Ar151, -, S151, M151, H151, -⟩ := id V1
  have hin151 : ¬ ((1 : Int32) < 0 ∨ cl151.slots.size ≤ ((1 : Int32)).toNatClampNeg) := inb_of S151 ⟨by decide, by decide⟩
  have hat151 : cl151.slots[((1 : Int32)).toNatClampNeg]? = some (.int (own_hi x0)) := Has.at H151 hin151 rfl
  obtain ⟨T152, X152, e152, st152⟩ := getS2 X150 hx hZ hown (host := "") (Or.inl (own_g hw 116)) Via.refl e150 (V_env.2.2.1.ext Od.2) (g := (mkF m 53 #[Rv a1, Iv 1] [(.int ((own_hi x0) &&& (255 : Int32))), (.int (((own_lo x0) &&& (255 : Int32)) <<< ((0 : Int32) &&& 31)))])) rfl (hb hby d28_53)
  refine own_by (fun _ k => X148.baloadBytes hx (j := (0 : Int32)) (v := (.int (own_lo x0))) (by rw [e148]; exact Ar149.1) (State.isArrayOf_alike hZ.alike Ar149.2.1) Ar149.2.2 hin149 hat149 (g := (mkF m 37 #[Rv a1, Iv 1] [(.int 0), (.ref a1)])) rfl rfl (hb hby d28_37) _ (XS.sipush X148.here hx rfl (hb hby d28_38) (XS.iand X148.here hx rfl (hb hby d28_41) rfl (st150 _ (XS.ishl X150.here hx rfl (hb hby d28_45) rfl (XS.aloadN X150.here hx rfl (hb hby d28_46) rfl rfl (XS.iloadN X150.here hx rfl (hb hby d28_47) rfl (X150.baloadBytes hx (j := (1 : Int32)) (v := (.int (own_hi x0))) (by rw [e150]; exact Ar151.1) (State.isArrayOf_alike hZ.alike Ar151.2.1) Ar151.2.2 hin151 hat151 (g := (mkF m 48 #[Rv a1, Iv 1] [(.int 1), (.ref a1), (.int (((own_lo x0) &&& (255 : Int32)) <<< ((0 : Int32) &&& 31)))])) rfl rfl (hb hby d28_48) _ (XS.sipush X150.here hx rfl (hb hby d28_49) (XS.iand X150.here hx rfl (hb hby d28_52) rfl k)))))))))) ?_
  show own_Fin _ _ _ _ _ _ _ T150 (mkF m 53 #[Rv a1, Iv 1] [(.int ((own_hi x0) &&& (255 : Int32))), (.int (((own_lo x0) &&& (255 : Int32)) <<< ((0 : Int32) &&& 31)))])
  refine own_by (fun _ k => st152 _ (XS.ishl X152.here hx rfl (hb hby d28_56) rfl (XS.ior X152.here hx rfl (hb hby d28_57) rfl (XS.i2c X152.here hx rfl (hb hby d28_58) rfl k)))) ?_
  exact own_retZ X152 hx hlk (t := .char) hret (by simp) (hb hby d28_59) ⟨own_vi (own_u16 hch), N0, e152⟩ (by decide) (by decide)
def own_QrmGC3_1 (x0 x1 x2 : Int32) (h0 : Heap) (n0 : Nat) (v : Option Value) (h : Heap) (L : List Loc) : Prop := v = some (.int x1) ∧ Fr n0 L ∧ h = h0
set_option maxRecDepth 65536 in
set_option maxHeartbeats 40000000 in
theorem rmGC3_1 (l : Launch) (Z : State) (a0 : Array Value) (hw : own_W a0 Z) (ws : List Jvm.Cond) (cs : Int32) (gS : Value) (a1 : Addr) (k1 : ClassId) (x0 x1 x2 : Int32) (h0 : Heap) (n0 : Nat) (Z0 : n0 ≤ h0.size) (V_env : own_Env Z cs gS) (Od : Old Z n0 h0) (V1 : Arv Z h0 a1 k1 .byte (6 : Int32) [(.int (own_lo x0)), (.int (own_hi x0)), (.int (own_lo x1)), (.int (own_hi x1)), (.int (own_lo x2)), (.int (own_hi x2))] (.int (0 : Int32))) (hch : own_ch x1) : own_Met l Z mn8 jdk_52_method_5_code 2 (some .char) ws (own_R 0 0 0 0) #[(.ref a1), (.int (1 : Int32))] h0 (own_QrmGC3_1 x0 x1 x2 h0 n0) := by
  refine own_enter n0 (plainFor_of_name own_pn58) (fun m => ef_RI_2 m a1 (1 : Int32) ) (fun p e s m below meth c s₁ hx hby hlk hml hret hown hnm hZ X0 e0 N0 => ?_)
  show own_Fin _ _ _ _ _ _ _ s₁ (mkF m 0 #[Rv a1, Iv 1] [])
  obtain ⟨T153, X153, e153, st153⟩ := getS2 X0 hx hZ hown (host := "") (Or.inl (own_g hw 114)) Via.refl e0 (V_env.1.ext Od.2) (g := (mkF m 0 #[Rv a1, Iv 1] [])) rfl (hb hby d28_0)
  refine own_by (fun _ k => st153 _ (XS.ifYes X153.here hx rfl (pc0 := 3) (pc' := 28) rfl (hb hby d28_3) rfl ((if0 _ _).trans (feq (by decide : ¬ ((1 : Int32) = (0 : Int32)))).2) (by decide) (by decide) (XS.iloadN X153.here hx rfl (hb hby d28_28) rfl (XS.iconst X153.here hx rfl (hb hby d28_29) (XS.ishl X153.here hx rfl (hb hby d28_30) rfl k))))) ?_
  show own_Fin _ _ _ _ _ _ _ T153 (mkF m 31 #[Rv a1, Iv 1] [(.int ((1 : Int32) <<< ((1 : Int32) &&& 31)))])
  rw [(by decide : ((1 : Int32) <<< ((1 : Int32) &&& 31)) = (2 : Int32))]
  show own_Fin _ _ _ _ _ _ _ T153 (mkF m 31 #[Rv a1, Iv 1] [(.int 2)])
  refine own_by (fun _ k => XS.istoreN X153.here hx rfl (hb hby d28_31) rfl (l' := #[Rv a1, Iv 2]) rfl (XS.aloadN X153.here hx rfl (hb hby d28_32) rfl rfl (XS.iloadN X153.here hx rfl (hb hby d28_33) rfl (XS.iinc X153.here hx rfl (hb hby d28_34) rfl (l' := #[Rv a1, Iv ((2 : Int32) + (1 : Int32))]) rfl k)))) ?_
  show own_Fin _ _ _ _ _ _ _ T153 (mkF m 37 #[Rv a1, Iv ((2 : Int32) + (1 : Int32))] [(.int 2), (.ref a1)])
  rw [(by decide : ((2 : Int32) + (1 : Int32)) = (3 : Int32))]
  show own_Fin _ _ _ _ _ _ _ T153 (mkF m 37 #[Rv a1, Iv 3] [(.int 2), (.ref a1)])
  obtain ⟨cl154, Ar154, -, S154, M154, H154, -⟩ := id V1
  have hin154 : ¬ ((2 : Int32) < 0 ∨ cl154.slots.size ≤ ((2 : Int32)).toNatClampNeg) := inb_of S154 ⟨by decide, by decide⟩
  have hat154 : cl154.slots[((2 : Int32)).toNatClampNeg]? = some (.int (own_lo x1)) := Has.at H154 hin154 rfl
  obtain ⟨T155, X155, e155, st155⟩ := getS2 X153 hx hZ hown (host := "") (Or.inl (own_g hw 115)) Via.refl e153 (V_env.2.1.ext Od.2) (g := (mkF m 42 #[Rv a1, Iv 3] [(.int ((own_lo x1) &&& (255 : Int32)))])) rfl (hb hby d28_42)
  obtain ⟨cl156, Ar156, -, S156, M156, H156, -⟩ := id V1
  have hin156 : ¬ ((3 : Int32) < 0 ∨ cl156.slots.size ≤ ((3 : Int32)).toNatClampNeg) := inb_of S156 ⟨by decide, by decide⟩
  have hat156 : cl156.slots[((3 : Int32)).toNatClampNeg]? = some (.int (own_hi x1)) := Has.at H156 hin156 rfl
  obtain ⟨T157, X157, e157, st157⟩ := getS2 X155 hx hZ hown (host := "") (Or.inl (own_g hw 116)) Via.refl e155 (V_env.2.2.1.ext Od.2) (g := (mkF m 53 #[Rv a1, Iv 3] [(.int ((own_hi x1) &&& (255 : Int32))), (.int (((own_lo x1) &&& (255 : Int32)) <<< ((0 : Int32) &&& 31)))])) rfl (hb hby d28_53)
  refine own_by (fun _ k => X153.baloadBytes hx (j := (2 : Int32)) (v := (.int (own_lo x1))) (by rw [e153]; exact Ar154.1) (State.isArrayOf_alike hZ.alike Ar154.2.1) Ar154.2.2 hin154 hat154 (g := (mkF m 37 #[Rv a1, Iv 3] [(.int 2), (.ref a1)])) rfl rfl (hb hby d28_37) _ (XS.sipush X153.here hx rfl (hb hby d28_38) (XS.iand X153.here hx rfl (hb hby d28_41) rfl (st155 _ (XS.ishl X155.here hx rfl (hb hby d28_45) rfl (XS.aloadN X155.here hx rfl (hb hby d28_46) rfl rfl (XS.iloadN X155.here hx rfl (hb hby d28_47) rfl (X155.baloadBytes hx (j := (3 : Int32)) (v := (.int (own_hi x1))) (by rw [e155]; exact Ar156.1) (State.isArrayOf_alike hZ.alike Ar156.2.1) Ar156.2.2 hin156 hat156 (g := (mkF m 48 #[Rv a1, Iv 3] [(.int 3), (.ref a1), (.int (((own_lo x1) &&& (255 : Int32)) <<< ((0 : Int32) &&& 31)))])) rfl rfl (hb hby d28_48) _ (XS.sipush X155.here hx rfl (hb hby d28_49) (XS.iand X155.here hx rfl (hb hby d28_52) rfl k)))))))))) ?_
  show own_Fin _ _ _ _ _ _ _ T155 (mkF m 53 #[Rv a1, Iv 3] [(.int ((own_hi x1) &&& (255 : Int32))), (.int (((own_lo x1) &&& (255 : Int32)) <<< ((0 : Int32) &&& 31)))])
  refine own_by (fun _ k => st157 _ (XS.ishl X157.here hx rfl (hb hby d28_56) rfl (XS.ior X157.here hx rfl (hb hby d28_57) rfl (XS.i2c X157.here hx rfl (hb hby d28_58) rfl k)))) ?_
  exact own_retZ X157 hx hlk (t := .char) hret (by simp) (hb hby d28_59) ⟨own_vi (own_u16 hch), N0, e157⟩ (by decide) (by decide)
def own_QrmGC3_2 (x0 x1 x2 : Int32) (h0 : Heap) (n0 : Nat) (v : Option Value) (h : Heap) (L : List Loc) : Prop := v = some (.int x2) ∧ Fr n0 L ∧ h = h0
set_option maxRecDepth 65536 in
set_option maxHeartbeats 40000000 in
theorem rmGC3_2 (l : Launch) (Z : State) (a0 : Array Value) (hw : own_W a0 Z) (ws : List Jvm.Cond) (cs : Int32) (gS : Value) (a1 : Addr) (k1 : ClassId) (x0 x1 x2 : Int32) (h0 : Heap) (n0 : Nat) (Z0 : n0 ≤ h0.size) (V_env : own_Env Z cs gS) (Od : Old Z n0 h0) (V1 : Arv Z h0 a1 k1 .byte (6 : Int32) [(.int (own_lo x0)), (.int (own_hi x0)), (.int (own_lo x1)), (.int (own_hi x1)), (.int (own_lo x2)), (.int (own_hi x2))] (.int (0 : Int32))) (hch : own_ch x2) : own_Met l Z mn8 jdk_52_method_5_code 2 (some .char) ws (own_R 0 0 0 0) #[(.ref a1), (.int (2 : Int32))] h0 (own_QrmGC3_2 x0 x1 x2 h0 n0) := by
  refine own_enter n0 (plainFor_of_name own_pn58) (fun m => ef_RI_2 m a1 (2 : Int32) ) (fun p e s m below meth c s₁ hx hby hlk hml hret hown hnm hZ X0 e0 N0 => ?_)
  show own_Fin _ _ _ _ _ _ _ s₁ (mkF m 0 #[Rv a1, Iv 2] [])
  obtain ⟨T158, X158, e158, st158⟩ := getS2 X0 hx hZ hown (host := "") (Or.inl (own_g hw 114)) Via.refl e0 (V_env.1.ext Od.2) (g := (mkF m 0 #[Rv a1, Iv 2] [])) rfl (hb hby d28_0)
  refine own_by (fun _ k => st158 _ (XS.ifYes X158.here hx rfl (pc0 := 3) (pc' := 28) rfl (hb hby d28_3) rfl ((if0 _ _).trans (feq (by decide : ¬ ((1 : Int32) = (0 : Int32)))).2) (by decide) (by decide) (XS.iloadN X158.here hx rfl (hb hby d28_28) rfl (XS.iconst X158.here hx rfl (hb hby d28_29) (XS.ishl X158.here hx rfl (hb hby d28_30) rfl k))))) ?_
  show own_Fin _ _ _ _ _ _ _ T158 (mkF m 31 #[Rv a1, Iv 2] [(.int ((2 : Int32) <<< ((1 : Int32) &&& 31)))])
  rw [(by decide : ((2 : Int32) <<< ((1 : Int32) &&& 31)) = (4 : Int32))]
  show own_Fin _ _ _ _ _ _ _ T158 (mkF m 31 #[Rv a1, Iv 2] [(.int 4)])
  refine own_by (fun _ k => XS.istoreN X158.here hx rfl (hb hby d28_31) rfl (l' := #[Rv a1, Iv 4]) rfl (XS.aloadN X158.here hx rfl (hb hby d28_32) rfl rfl (XS.iloadN X158.here hx rfl (hb hby d28_33) rfl (XS.iinc X158.here hx rfl (hb hby d28_34) rfl (l' := #[Rv a1, Iv ((4 : Int32) + (1 : Int32))]) rfl k)))) ?_
  show own_Fin _ _ _ _ _ _ _ T158 (mkF m 37 #[Rv a1, Iv ((4 : Int32) + (1 : Int32))] [(.int 4), (.ref a1)])
  rw [(by decide : ((4 : Int32) + (1 : Int32)) = (5 : Int32))]
  show own_Fin _ _ _ _ _ _ _ T158 (mkF m 37 #[Rv a1, Iv 5] [(.int 4), (.ref a1)])
  obtain ⟨cl159, Ar159, -, S159, M159, H159, -⟩ := id V1
  have hin159 : ¬ ((4 : Int32) < 0 ∨ cl159.slots.size ≤ ((4 : Int32)).toNatClampNeg) := inb_of S159 ⟨by decide, by decide⟩
  have hat159 : cl159.slots[((4 : Int32)).toNatClampNeg]? = some (.int (own_lo x2)) := Has.at H159 hin159 rfl
  obtain ⟨T160, X160, e160, st160⟩ := getS2 X158 hx hZ hown (host := "") (Or.inl (own_g hw 115)) Via.refl e158 (V_env.2.1.ext Od.2) (g := (mkF m 42 #[Rv a1, Iv 5] [(.int ((own_lo x2) &&& (255 : Int32)))])) rfl (hb hby d28_42)
  obtain ⟨cl161, Ar161, -, S161, M161, H161, -⟩ := id V1
  have hin161 : ¬ ((5 : Int32) < 0 ∨ cl161.slots.size ≤ ((5 : Int32)).toNatClampNeg) := inb_of S161 ⟨by decide, by decide⟩
  have hat161 : cl161.slots[((5 : Int32)).toNatClampNeg]? = some (.int (own_hi x2)) := Has.at H161 hin161 rfl
  obtain ⟨T162, X162, e162, st162⟩ := getS2 X160 hx hZ hown (host := "") (Or.inl (own_g hw 116)) Via.refl e160 (V_env.2.2.1.ext Od.2) (g := (mkF m 53 #[Rv a1, Iv 5] [(.int ((own_hi x2) &&& (255 : Int32))), (.int (((own_lo x2) &&& (255 : Int32)) <<< ((0 : Int32) &&& 31)))])) rfl (hb hby d28_53)
  refine own_by (fun _ k => X158.baloadBytes hx (j := (4 : Int32)) (v := (.int (own_lo x2))) (by rw [e158]; exact Ar159.1) (State.isArrayOf_alike hZ.alike Ar159.2.1) Ar159.2.2 hin159 hat159 (g := (mkF m 37 #[Rv a1, Iv 5] [(.int 4), (.ref a1)])) rfl rfl (hb hby d28_37) _ (XS.sipush X158.here hx rfl (hb hby d28_38) (XS.iand X158.here hx rfl (hb hby d28_41) rfl (st160 _ (XS.ishl X160.here hx rfl (hb hby d28_45) rfl (XS.aloadN X160.here hx rfl (hb hby d28_46) rfl rfl (XS.iloadN X160.here hx rfl (hb hby d28_47) rfl (X160.baloadBytes hx (j := (5 : Int32)) (v := (.int (own_hi x2))) (by rw [e160]; exact Ar161.1) (State.isArrayOf_alike hZ.alike Ar161.2.1) Ar161.2.2 hin161 hat161 (g := (mkF m 48 #[Rv a1, Iv 5] [(.int 5), (.ref a1), (.int (((own_lo x2) &&& (255 : Int32)) <<< ((0 : Int32) &&& 31)))])) rfl rfl (hb hby d28_48) _ (XS.sipush X160.here hx rfl (hb hby d28_49) (XS.iand X160.here hx rfl (hb hby d28_52) rfl k)))))))))) ?_
  show own_Fin _ _ _ _ _ _ _ T160 (mkF m 53 #[Rv a1, Iv 5] [(.int ((own_hi x2) &&& (255 : Int32))), (.int (((own_lo x2) &&& (255 : Int32)) <<< ((0 : Int32) &&& 31)))])
  refine own_by (fun _ k => st162 _ (XS.ishl X162.here hx rfl (hb hby d28_56) rfl (XS.ior X162.here hx rfl (hb hby d28_57) rfl (XS.i2c X162.here hx rfl (hb hby d28_58) rfl k)))) ?_
  exact own_retZ X162 hx hlk (t := .char) hret (by simp) (hb hby d28_59) ⟨own_vi (own_u16 hch), N0, e162⟩ (by decide) (by decide)
def own_bad3 (r : Int32) (x0 x1 x2 : Int32) : Prop := (r = (0 : Int32) ∧ (255 : Int32) < x0) ∨ (r = (1 : Int32) ∧ (255 : Int32) < x1) ∨ (r = (2 : Int32) ∧ (255 : Int32) < x2)
def own_QXI3 (Z : State) (a3 : Addr) (kb : ClassId) (x0 x1 x2 : Int32) (h0 : Heap) (n0 : Nat) (v : Option Value) (h : Heap) (L : List Loc) : Prop := ∃ r : Int32, v = some (.int r) ∧ Fr n0 L ∧ Keep h0 h [a3] ∧ ((r = (3 : Int32) ∧ Arv Z h a3 kb .byte (3 : Int32) [(.int x0.toInt8.toInt32), (.int x1.toInt8.toInt32), (.int x2.toInt8.toInt32)] (.int (0 : Int32)) ∧ ¬ (255 : Int32) < x0 ∧ ¬ (255 : Int32) < x1 ∧ ¬ (255 : Int32) < x2) ∨ own_bad3 r x0 x1 x2)
set_option maxRecDepth 65536 in
set_option maxHeartbeats 40000000 in
theorem rmXI3 (l : Launch) (Z : State) (a0 : Array Value) (hw : own_W a0 Z) (ws : List Jvm.Cond) (a1 a3 : Addr) (kc kb : ClassId) (x0 x1 x2 : Int32) (h0 : Heap) (n0 : Nat) (Z0 : n0 ≤ h0.size) (V1 : Arv Z h0 a1 kc .char (3 : Int32) [(.int x0), (.int x1), (.int x2)] (.int (0 : Int32))) (V3 : Arv Z h0 a3 kb .byte (3 : Int32) [(.int (0 : Int32)), (.int (0 : Int32)), (.int (0 : Int32))] (.int (0 : Int32))) (ne13 : a1 ≠ a3) (g_3 : n0 ≤ a3) : own_Met l Z mn9 jdk_52_method_21_code 7 (some .int) ws (own_R 0 0 0 0) #[(.ref a1), (.int (0 : Int32)), (.ref a3), (.int (0 : Int32)), (.int (3 : Int32))] h0 (own_QXI3 Z a3 kb x0 x1 x2 h0 n0) := by
  refine own_enter n0 (plainFor_of_name own_pn58) (fun m => ef_RIRII_7 m a1 (0 : Int32) a3 (0 : Int32) (3 : Int32) ) (fun p e s m below meth c s₁ hx hby hlk hml hret hown hnm hZ X0 e0 N0 => ?_)
  show own_Fin _ _ _ _ _ _ _ s₁ (mkF m 0 #[Rv a1, Iv 0, Rv a3, Iv 0, Iv 3, Uv, Uv] [])
  have Kp163 : Keep h0 h0 [a3] := Keep.refl h0 _
  obtain ⟨cl164, Ar164, -, S164, M164, H164, -⟩ := id V1
  have hin164 : ¬ ((0 : Int32) < 0 ∨ cl164.slots.size ≤ ((0 : Int32)).toNatClampNeg) := inb_of S164 ⟨by decide, by decide⟩
  have hat164 : cl164.slots[((0 : Int32)).toNatClampNeg]? = some (.int x0) := Has.at H164 hin164 rfl
  refine own_by (fun _ k => XS.iconst X0.here hx rfl (hb hby d16_0) (XS.istore X0.here hx rfl (hb hby d16_1) rfl (l' := #[Rv a1, Iv 0, Rv a3, Iv 0, Iv 3, Iv 0, Uv]) rfl (XS.iload X0.here hx rfl (hb hby d16_3) rfl (XS.iload X0.here hx rfl (hb hby d16_5) rfl (XS.icmpNo X0.here hx rfl (hb hby d16_7) rfl (tlt (by decide : (0 : Int32) < (3 : Int32))).2.1 (XS.aloadN X0.here hx rfl (hb hby d16_10) rfl rfl (XS.iloadN X0.here hx rfl (hb hby d16_11) rfl (X0.caload hx (j := (0 : Int32)) (v := (.int x0)) (by rw [e0]; exact Ar164.1) (State.isArrayOf_alike hZ.alike Ar164.2.1) Ar164.2.2 hin164 hat164 (g := (mkF m 12 #[Rv a1, Iv 0, Rv a3, Iv 0, Iv 3, Iv 0, Uv] [(.int 0), (.ref a1)])) rfl rfl (hb hby d16_12) _ (XS.istore X0.here hx rfl (hb hby d16_13) rfl (l' := #[Rv a1, Iv 0, Rv a3, Iv 0, Iv 3, Iv 0, Iv x0]) rfl (XS.iload X0.here hx rfl (hb hby d16_15) rfl k)))))))))) ?_
  show own_Fin _ _ _ _ _ _ _ s₁ (mkF m 17 #[Rv a1, Iv 0, Rv a3, Iv 0, Iv 3, Iv 0, Iv x0] [(.int x0)])
  refine own_by (fun _ k => XS.sipush X0.here hx rfl (hb hby d16_17) k) ?_
  show own_Fin _ _ _ _ _ _ _ s₁ (mkF m 20 #[Rv a1, Iv 0, Rv a3, Iv 0, Iv 3, Iv 0, Iv x0] [(.int 255), (.int x0)])
  by_cases hc20_165 : (255 : Int32) < x0
  · show own_Fin _ _ _ _ _ _ _ s₁ (mkF m 20 #[Rv a1, Iv 0, Rv a3, Iv 0, Iv 3, Iv 0, Iv x0] [(.int 255), (.int x0)])
    refine own_by (fun _ k => XS.icmpNo X0.here hx rfl (hb hby d16_20) rfl (tlt hc20_165).2.2.2 (XS.iload X0.here hx rfl (hb hby d16_23) rfl k)) ?_
    exact own_retI X0 hx hlk hret (hb hby d16_25) (by rw [e0]; exact ⟨_, rfl, N0, Kp163, Or.inr (Or.inl ⟨rfl, hc20_165⟩)⟩) (by decide) (by decide)
  · show own_Fin _ _ _ _ _ _ _ s₁ (mkF m 20 #[Rv a1, Iv 0, Rv a3, Iv 0, Iv 3, Iv 0, Iv x0] [(.int 255), (.int x0)])
    obtain ⟨cl166, Ar166, q166, S166, M166, H166, G166⟩ := id V3
    have hin166 : ¬ ((0 : Int32) < 0 ∨ cl166.slots.size ≤ ((0 : Int32)).toNatClampNeg) := inb_of S166 ⟨by decide, by decide⟩
    obtain ⟨T166, h166, X166, e166, W166, st166⟩ := stB X0 hx hZ e0 Ar166 (j := (0 : Int32)) hin166 (g := (mkF m 31 #[Rv a1, Iv 0, Rv a3, Iv 0, Iv 3, Iv 0, Iv x0] [(.int (x0.toInt8.toInt32)), (.int 0), (.ref a3)])) rfl rfl (hb hby d16_31)
    have V166 : Arv Z h166 a3 kb .byte (3 : Int32) [(.int (x0.toInt8.toInt32).toInt8.toInt32), (.int (0 : Int32)), (.int (0 : Int32))] (.int (0 : Int32)) := Arv.set Ar166 q166 S166 M166 H166 G166 (fits_nar_byte _) W166 0 rfl (Nat.le_of_ble_eq_true rfl)
    have Kp166 : Keep h0 h166 [a3] := Kp163.wr W166 (Or.inl (List.mem_of_getElem? (i := 0) rfl))
    have Zs166 : n0 ≤ h166.size := Nat.le_trans Z0 (Keep.of_wr W166).1
    have N166 := Fr.snoc X166 N0 g_3
    have f167_0 : Arv Z h166 a1 kc .char (3 : Int32) [(.int x0), (.int x1), (.int x2)] (.int (0 : Int32)) := V1.other W166 ne13
    refine own_by (fun _ k => XS.icmpYes X0.here hx rfl (pc0 := 20) (pc' := 26) rfl (hb hby d16_20) rfl (flt hc20_165).2.2.2 (by decide) (by decide) (XS.aloadN X0.here hx rfl (hb hby d16_26) rfl rfl (XS.iloadN X0.here hx rfl (hb hby d16_27) rfl (XS.iload X0.here hx rfl (hb hby d16_28) rfl (XS.i2b X0.here hx rfl (hb hby d16_30) rfl (st166 _ (XS.iinc X166.here hx rfl (hb hby d16_32) rfl (l' := #[Rv a1, Iv ((0 : Int32) + (1 : Int32)), Rv a3, Iv 0, Iv 3, Iv 0, Iv x0]) rfl k))))))) ?_
    show own_Fin _ _ _ _ _ _ _ T166 (mkF m 35 #[Rv a1, Iv ((0 : Int32) + (1 : Int32)), Rv a3, Iv 0, Iv 3, Iv 0, Iv x0] [])
    rw [(by decide : ((0 : Int32) + (1 : Int32)) = (1 : Int32))]
    show own_Fin _ _ _ _ _ _ _ T166 (mkF m 35 #[Rv a1, Iv 1, Rv a3, Iv 0, Iv 3, Iv 0, Iv x0] [])
    refine own_by (fun _ k => XS.iinc X166.here hx rfl (hb hby d16_35) rfl (l' := #[Rv a1, Iv 1, Rv a3, Iv ((0 : Int32) + (1 : Int32)), Iv 3, Iv 0, Iv x0]) rfl k) ?_
    show own_Fin _ _ _ _ _ _ _ T166 (mkF m 38 #[Rv a1, Iv 1, Rv a3, Iv ((0 : Int32) + (1 : Int32)), Iv 3, Iv 0, Iv x0] [])
    rw [(by decide : ((0 : Int32) + (1 : Int32)) = (1 : Int32))]
    show own_Fin _ _ _ _ _ _ _ T166 (mkF m 38 #[Rv a1, Iv 1, Rv a3, Iv 1, Iv 3, Iv 0, Iv x0] [])
    refine own_by (fun _ k => XS.iinc X166.here hx rfl (hb hby d16_38) rfl (l' := #[Rv a1, Iv 1, Rv a3, Iv 1, Iv 3, Iv ((0 : Int32) + (1 : Int32)), Iv x0]) rfl k) ?_
    show own_Fin _ _ _ _ _ _ _ T166 (mkF m 41 #[Rv a1, Iv 1, Rv a3, Iv 1, Iv 3, Iv ((0 : Int32) + (1 : Int32)), Iv x0] [])
    rw [(by decide : ((0 : Int32) + (1 : Int32)) = (1 : Int32))]
    show own_Fin _ _ _ _ _ _ _ T166 (mkF m 41 #[Rv a1, Iv 1, Rv a3, Iv 1, Iv 3, Iv 1, Iv x0] [])
    obtain ⟨cl168, Ar168, -, S168, M168, H168, -⟩ := id f167_0
    have hin168 : ¬ ((1 : Int32) < 0 ∨ cl168.slots.size ≤ ((1 : Int32)).toNatClampNeg) := inb_of S168 ⟨by decide, by decide⟩
    have hat168 : cl168.slots[((1 : Int32)).toNatClampNeg]? = some (.int x1) := Has.at H168 hin168 rfl
    refine own_by (fun _ k => XS.goto X166.here hx rfl (pc0 := 41) (pc' := 3) rfl (hb hby d16_41) (by decide) (by decide) (XS.iload X166.here hx rfl (hb hby d16_3) rfl (XS.iload X166.here hx rfl (hb hby d16_5) rfl (XS.icmpNo X166.here hx rfl (hb hby d16_7) rfl (tlt (by decide : (1 : Int32) < (3 : Int32))).2.1 (XS.aloadN X166.here hx rfl (hb hby d16_10) rfl rfl (XS.iloadN X166.here hx rfl (hb hby d16_11) rfl (X166.caload hx (j := (1 : Int32)) (v := (.int x1)) (by rw [e166]; exact Ar168.1) (State.isArrayOf_alike hZ.alike Ar168.2.1) Ar168.2.2 hin168 hat168 (g := (mkF m 12 #[Rv a1, Iv 1, Rv a3, Iv 1, Iv 3, Iv 1, Iv x0] [(.int 1), (.ref a1)])) rfl rfl (hb hby d16_12) _ (XS.istore X166.here hx rfl (hb hby d16_13) rfl (l' := #[Rv a1, Iv 1, Rv a3, Iv 1, Iv 3, Iv 1, Iv x1]) rfl (XS.iload X166.here hx rfl (hb hby d16_15) rfl (XS.sipush X166.here hx rfl (hb hby d16_17) k)))))))))) ?_
    show own_Fin _ _ _ _ _ _ _ T166 (mkF m 20 #[Rv a1, Iv 1, Rv a3, Iv 1, Iv 3, Iv 1, Iv x1] [(.int 255), (.int x1)])
    by_cases hc20_169 : (255 : Int32) < x1
    · show own_Fin _ _ _ _ _ _ _ T166 (mkF m 20 #[Rv a1, Iv 1, Rv a3, Iv 1, Iv 3, Iv 1, Iv x1] [(.int 255), (.int x1)])
      refine own_by (fun _ k => XS.icmpNo X166.here hx rfl (hb hby d16_20) rfl (tlt hc20_169).2.2.2 (XS.iload X166.here hx rfl (hb hby d16_23) rfl k)) ?_
      exact own_retI X166 hx hlk hret (hb hby d16_25) (by rw [e166]; exact ⟨_, rfl, N166, Kp166, Or.inr (Or.inr (Or.inl ⟨rfl, hc20_169⟩))⟩) (by decide) (by decide)
    · show own_Fin _ _ _ _ _ _ _ T166 (mkF m 20 #[Rv a1, Iv 1, Rv a3, Iv 1, Iv 3, Iv 1, Iv x1] [(.int 255), (.int x1)])
      obtain ⟨cl170, Ar170, q170, S170, M170, H170, G170⟩ := id V166
      have hin170 : ¬ ((1 : Int32) < 0 ∨ cl170.slots.size ≤ ((1 : Int32)).toNatClampNeg) := inb_of S170 ⟨by decide, by decide⟩
      obtain ⟨T170, h170, X170, e170, W170, st170⟩ := stB X166 hx hZ e166 Ar170 (j := (1 : Int32)) hin170 (g := (mkF m 31 #[Rv a1, Iv 1, Rv a3, Iv 1, Iv 3, Iv 1, Iv x1] [(.int (x1.toInt8.toInt32)), (.int 1), (.ref a3)])) rfl rfl (hb hby d16_31)
      have V170 : Arv Z h170 a3 kb .byte (3 : Int32) [(.int (x0.toInt8.toInt32).toInt8.toInt32), (.int (x1.toInt8.toInt32).toInt8.toInt32), (.int (0 : Int32))] (.int (0 : Int32)) := Arv.set Ar170 q170 S170 M170 H170 G170 (fits_nar_byte _) W170 1 rfl (Nat.le_of_ble_eq_true rfl)
      have Kp170 : Keep h0 h170 [a3] := Kp166.wr W170 (Or.inl (List.mem_of_getElem? (i := 0) rfl))
      have Zs170 : n0 ≤ h170.size := Nat.le_trans Zs166 (Keep.of_wr W170).1
      have N170 := Fr.snoc X170 N166 g_3
      have f171_0 : Arv Z h170 a1 kc .char (3 : Int32) [(.int x0), (.int x1), (.int x2)] (.int (0 : Int32)) := f167_0.other W170 ne13
      refine own_by (fun _ k => XS.icmpYes X166.here hx rfl (pc0 := 20) (pc' := 26) rfl (hb hby d16_20) rfl (flt hc20_169).2.2.2 (by decide) (by decide) (XS.aloadN X166.here hx rfl (hb hby d16_26) rfl rfl (XS.iloadN X166.here hx rfl (hb hby d16_27) rfl (XS.iload X166.here hx rfl (hb hby d16_28) rfl (XS.i2b X166.here hx rfl (hb hby d16_30) rfl (st170 _ (XS.iinc X170.here hx rfl (hb hby d16_32) rfl (l' := #[Rv a1, Iv ((1 : Int32) + (1 : Int32)), Rv a3, Iv 1, Iv 3, Iv 1, Iv x1]) rfl k))))))) ?_
      show own_Fin _ _ _ _ _ _ _ T170 (mkF m 35 #[Rv a1, Iv ((1 : Int32) + (1 : Int32)), Rv a3, Iv 1, Iv 3, Iv 1, Iv x1] [])
      rw [(by decide : ((1 : Int32) + (1 : Int32)) = (2 : Int32))]
      show own_Fin _ _ _ _ _ _ _ T170 (mkF m 35 #[Rv a1, Iv 2, Rv a3, Iv 1, Iv 3, Iv 1, Iv x1] [])
      refine own_by (fun _ k => XS.iinc X170.here hx rfl (hb hby d16_35) rfl (l' := #[Rv a1, Iv 2, Rv a3, Iv ((1 : Int32) + (1 : Int32)), Iv 3, Iv 1, Iv x1]) rfl k) ?_
      show own_Fin _ _ _ _ _ _ _ T170 (mkF m 38 #[Rv a1, Iv 2, Rv a3, Iv ((1 : Int32) + (1 : Int32)), Iv 3, Iv 1, Iv x1] [])
      rw [(by decide : ((1 : Int32) + (1 : Int32)) = (2 : Int32))]
      show own_Fin _ _ _ _ _ _ _ T170 (mkF m 38 #[Rv a1, Iv 2, Rv a3, Iv 2, Iv 3, Iv 1, Iv x1] [])
      refine own_by (fun _ k => XS.iinc X170.here hx rfl (hb hby d16_38) rfl (l' := #[Rv a1, Iv 2, Rv a3, Iv 2, Iv 3, Iv ((1 : Int32) + (1 : Int32)), Iv x1]) rfl k) ?_
      show own_Fin _ _ _ _ _ _ _ T170 (mkF m 41 #[Rv a1, Iv 2, Rv a3, Iv 2, Iv 3, Iv ((1 : Int32) + (1 : Int32)), Iv x1] [])
      rw [(by decide : ((1 : Int32) + (1 : Int32)) = (2 : Int32))]
      show own_Fin _ _ _ _ _ _ _ T170 (mkF m 41 #[Rv a1, Iv 2, Rv a3, Iv 2, Iv 3, Iv 2, Iv x1] [])
      obtain ⟨cl172, Ar172, -, S172, M172, H172, -⟩ := id f171_0
      have hin172 : ¬ ((2 : Int32) < 0 ∨ cl172.slots.size ≤ ((2 : Int32)).toNatClampNeg) := inb_of S172 ⟨by decide, by decide⟩
      have hat172 : cl172.slots[((2 : Int32)).toNatClampNeg]? = some (.int x2) := Has.at H172 hin172 rfl
      refine own_by (fun _ k => XS.goto X170.here hx rfl (pc0 := 41) (pc' := 3) rfl (hb hby d16_41) (by decide) (by decide) (XS.iload X170.here hx rfl (hb hby d16_3) rfl (XS.iload X170.here hx rfl (hb hby d16_5) rfl (XS.icmpNo X170.here hx rfl (hb hby d16_7) rfl (tlt (by decide : (2 : Int32) < (3 : Int32))).2.1 (XS.aloadN X170.here hx rfl (hb hby d16_10) rfl rfl (XS.iloadN X170.here hx rfl (hb hby d16_11) rfl (X170.caload hx (j := (2 : Int32)) (v := (.int x2)) (by rw [e170]; exact Ar172.1) (State.isArrayOf_alike hZ.alike Ar172.2.1) Ar172.2.2 hin172 hat172 (g := (mkF m 12 #[Rv a1, Iv 2, Rv a3, Iv 2, Iv 3, Iv 2, Iv x1] [(.int 2), (.ref a1)])) rfl rfl (hb hby d16_12) _ (XS.istore X170.here hx rfl (hb hby d16_13) rfl (l' := #[Rv a1, Iv 2, Rv a3, Iv 2, Iv 3, Iv 2, Iv x2]) rfl (XS.iload X170.here hx rfl (hb hby d16_15) rfl (XS.sipush X170.here hx rfl (hb hby d16_17) k)))))))))) ?_
      show own_Fin _ _ _ _ _ _ _ T170 (mkF m 20 #[Rv a1, Iv 2, Rv a3, Iv 2, Iv 3, Iv 2, Iv x2] [(.int 255), (.int x2)])
      by_cases hc20_173 : (255 : Int32) < x2
      · show own_Fin _ _ _ _ _ _ _ T170 (mkF m 20 #[Rv a1, Iv 2, Rv a3, Iv 2, Iv 3, Iv 2, Iv x2] [(.int 255), (.int x2)])
        refine own_by (fun _ k => XS.icmpNo X170.here hx rfl (hb hby d16_20) rfl (tlt hc20_173).2.2.2 (XS.iload X170.here hx rfl (hb hby d16_23) rfl k)) ?_
        exact own_retI X170 hx hlk hret (hb hby d16_25) (by rw [e170]; exact ⟨_, rfl, N170, Kp170, Or.inr (Or.inr (Or.inr ⟨rfl, hc20_173⟩))⟩) (by decide) (by decide)
      · show own_Fin _ _ _ _ _ _ _ T170 (mkF m 20 #[Rv a1, Iv 2, Rv a3, Iv 2, Iv 3, Iv 2, Iv x2] [(.int 255), (.int x2)])
        obtain ⟨cl174, Ar174, q174, S174, M174, H174, G174⟩ := id V170
        have hin174 : ¬ ((2 : Int32) < 0 ∨ cl174.slots.size ≤ ((2 : Int32)).toNatClampNeg) := inb_of S174 ⟨by decide, by decide⟩
        obtain ⟨T174, h174, X174, e174, W174, st174⟩ := stB X170 hx hZ e170 Ar174 (j := (2 : Int32)) hin174 (g := (mkF m 31 #[Rv a1, Iv 2, Rv a3, Iv 2, Iv 3, Iv 2, Iv x2] [(.int (x2.toInt8.toInt32)), (.int 2), (.ref a3)])) rfl rfl (hb hby d16_31)
        have V174 : Arv Z h174 a3 kb .byte (3 : Int32) [(.int (x0.toInt8.toInt32).toInt8.toInt32), (.int (x1.toInt8.toInt32).toInt8.toInt32), (.int (x2.toInt8.toInt32).toInt8.toInt32)] (.int (0 : Int32)) := Arv.set Ar174 q174 S174 M174 H174 G174 (fits_nar_byte _) W174 2 rfl (Nat.le_of_ble_eq_true rfl)
        have Kp174 : Keep h0 h174 [a3] := Kp170.wr W174 (Or.inl (List.mem_of_getElem? (i := 0) rfl))
        have Zs174 : n0 ≤ h174.size := Nat.le_trans Zs170 (Keep.of_wr W174).1
        have N174 := Fr.snoc X174 N170 g_3
        have f175_0 : Arv Z h174 a1 kc .char (3 : Int32) [(.int x0), (.int x1), (.int x2)] (.int (0 : Int32)) := f171_0.other W174 ne13
        refine own_by (fun _ k => XS.icmpYes X170.here hx rfl (pc0 := 20) (pc' := 26) rfl (hb hby d16_20) rfl (flt hc20_173).2.2.2 (by decide) (by decide) (XS.aloadN X170.here hx rfl (hb hby d16_26) rfl rfl (XS.iloadN X170.here hx rfl (hb hby d16_27) rfl (XS.iload X170.here hx rfl (hb hby d16_28) rfl (XS.i2b X170.here hx rfl (hb hby d16_30) rfl (st174 _ (XS.iinc X174.here hx rfl (hb hby d16_32) rfl (l' := #[Rv a1, Iv ((2 : Int32) + (1 : Int32)), Rv a3, Iv 2, Iv 3, Iv 2, Iv x2]) rfl k))))))) ?_
        show own_Fin _ _ _ _ _ _ _ T174 (mkF m 35 #[Rv a1, Iv ((2 : Int32) + (1 : Int32)), Rv a3, Iv 2, Iv 3, Iv 2, Iv x2] [])
        rw [(by decide : ((2 : Int32) + (1 : Int32)) = (3 : Int32))]
        show own_Fin _ _ _ _ _ _ _ T174 (mkF m 35 #[Rv a1, Iv 3, Rv a3, Iv 2, Iv 3, Iv 2, Iv x2] [])
        refine own_by (fun _ k => XS.iinc X174.here hx rfl (hb hby d16_35) rfl (l' := #[Rv a1, Iv 3, Rv a3, Iv ((2 : Int32) + (1 : Int32)), Iv 3, Iv 2, Iv x2]) rfl k) ?_
        show own_Fin _ _ _ _ _ _ _ T174 (mkF m 38 #[Rv a1, Iv 3, Rv a3, Iv ((2 : Int32) + (1 : Int32)), Iv 3, Iv 2, Iv x2] [])
        rw [(by decide : ((2 : Int32) + (1 : Int32)) = (3 : Int32))]
        show own_Fin _ _ _ _ _ _ _ T174 (mkF m 38 #[Rv a1, Iv 3, Rv a3, Iv 3, Iv 3, Iv 2, Iv x2] [])
        refine own_by (fun _ k => XS.iinc X174.here hx rfl (hb hby d16_38) rfl (l' := #[Rv a1, Iv 3, Rv a3, Iv 3, Iv 3, Iv ((2 : Int32) + (1 : Int32)), Iv x2]) rfl k) ?_
        show own_Fin _ _ _ _ _ _ _ T174 (mkF m 41 #[Rv a1, Iv 3, Rv a3, Iv 3, Iv 3, Iv ((2 : Int32) + (1 : Int32)), Iv x2] [])
        rw [(by decide : ((2 : Int32) + (1 : Int32)) = (3 : Int32))]
        show own_Fin _ _ _ _ _ _ _ T174 (mkF m 41 #[Rv a1, Iv 3, Rv a3, Iv 3, Iv 3, Iv 3, Iv x2] [])
        refine own_by (fun _ k => XS.goto X174.here hx rfl (pc0 := 41) (pc' := 3) rfl (hb hby d16_41) (by decide) (by decide) (XS.iload X174.here hx rfl (hb hby d16_3) rfl (XS.iload X174.here hx rfl (hb hby d16_5) rfl (XS.icmpYes X174.here hx rfl (pc0 := 7) (pc' := 44) rfl (hb hby d16_7) rfl (flt (by decide : ¬ ((3 : Int32) < (3 : Int32)))).2.1 (by decide) (by decide) (XS.iload X174.here hx rfl (hb hby d16_44) rfl k))))) ?_
        exact own_retI X174 hx hlk hret (hb hby d16_46) (by rw [e174]; exact ⟨_, rfl, N174, Kp174, Or.inl ⟨rfl, (by have q := V174; simp only [own_b8] at q; exact q), hc20_165, hc20_169, hc20_173⟩⟩) (by decide) (by decide)
def own_QXO3 (Z : State) (x0 x1 x2 : Int32) (h0 : Heap) (n0 : Nat) (v : Option Value) (h : Heap) (L : List Loc) : Prop := ∃ (a : Addr) (k : ClassId), v = some (.ref a) ∧ Fr n0 L ∧ Keep h0 h [] ∧ h0.size ≤ a ∧ ((Arv Z h a k .byte (3 : Int32) [(.int x0.toInt8.toInt32), (.int x1.toInt8.toInt32), (.int x2.toInt8.toInt32)] (.int (0 : Int32)) ∧ ¬ (255 : Int32) < x0 ∧ ¬ (255 : Int32) < x1 ∧ ¬ (255 : Int32) < x2) ∨ Arv Z h a k .byte (6 : Int32) [(.int (own_lo x0)), (.int (own_hi x0)), (.int (own_lo x1)), (.int (own_hi x1)), (.int (own_lo x2)), (.int (own_hi x2))] (.int (0 : Int32)))
set_option maxRecDepth 65536 in
set_option maxHeartbeats 40000000 in
theorem rmXO3 (l : Launch) (Z : State) (a0 : Array Value) (hw : own_W a0 Z) (ws : List Jvm.Cond) (cs : Int32) (gS : Value) (a1 : Addr) (kc : ClassId) (x0 x1 x2 : Int32) (h0 : Heap) (n0 : Nat) (Z0 : n0 ≤ h0.size) (V_env : own_Env Z cs gS) (Od : Old Z n0 h0) (V1 : Arv Z h0 a1 kc .char (3 : Int32) [(.int x0), (.int x1), (.int x2)] (.int (0 : Int32))) (hx0 : own_ch x0) (hx1 : own_ch x1) (hx2 : own_ch x2) : own_Met l Z mn10 jdk_52_method_16_code 6 (some (.array .byte)) ws (own_R 3 2 9 40) #[(.ref a1), (.int (0 : Int32)), (.int (3 : Int32))] h0 (own_QXO3 Z x0 x1 x2 h0 n0) := by
  refine own_enter n0 (plainFor_of_name own_pn58) (fun m => ef_RII_6 m a1 (0 : Int32) (3 : Int32) ) (fun p e s m below meth c s₁ hx hby hlk hml hret hown hnm hZ X0 e0 N0 => ?_)
  show own_Fin _ _ _ _ _ _ _ s₁ (mkF m 0 #[Rv a1, Iv 0, Iv 3, Uv, Uv, Uv] [])
  have Kp176 : Keep h0 h0 [] := Keep.refl h0 _
  obtain ⟨T177, h177, k177, X177, e177, E177, A177, st177⟩ := newP X0 hx hZ (own_g hw 21) e0 (g := (mkF m 1 #[Rv a1, Iv 0, Iv 3, Uv, Uv, Uv] [(.int 3)])) rfl (hb hby d15_1) rfl (by decide) (cap := 3) (by decide) (by decide) (by decide) (by decide)
  obtain ⟨b177, g177⟩ : ∃ z, z = h0.size := ⟨_, rfl⟩
  rw [← g177] at A177 st177
  have V177 : Arv Z h177 b177 k177 .byte (3 : Int32) [(.int (0 : Int32)), (.int (0 : Int32)), (.int (0 : Int32))] (.int (0 : Int32)) := (Arv.new A177 (by decide)).pad (pad_rep [] (.int (0 : Int32)) 3)
  have ne177_a1 : a1 ≠ b177 := Nat.ne_of_lt (Nat.lt_of_lt_of_le V1.lt (Nat.le_of_eq g177.symm))
  have gf177 : n0 ≤ b177 := Nat.le_trans Z0 (Nat.le_of_eq g177.symm)
  have Zs177 : n0 ≤ h177.size := Nat.le_trans Z0 E177.1
  have Kp177 : Keep h0 h177 [] := Kp176.ext E177
  have sz_b177 : h0.size ≤ b177 := Nat.le_trans Kp176.1 (Nat.le_of_eq g177.symm)
  have f178_0 : Old Z n0 h177 := Od.ext E177
  have f178_1 : Arv Z h177 a1 kc .char (3 : Int32) [(.int x0), (.int x1), (.int x2)] (.int (0 : Int32)) := V1.ext E177
  obtain ⟨_, _, ⟨T179, L179, k179, n179⟩, -, X179, ⟨Lc179, hQ179, l179, y179, z179⟩, st179⟩ := LawKit.callS X177 hx (y := mn9) hown (own_m hZ hw 76) (own_m hZ hw 77) (own_m hZ hw 74) (own_m hZ hw 78) (by decide) (backOf (W := 0) (rmXI3 l Z a0 hw [] a1 b177 kc k177 x0 x1 x2 h177 n0 Zs177 f178_1 V177 ne177_a1 gf177) hZ (own_g hw 78) (own_g hw 74) (by decide) (by decide)) (g := (mkF m 9 #[Rv a1, Iv 0, Iv 3, Rv b177, Uv, Uv] [(.int 3), (.int 0), (.ref b177), (.int 0), (.ref a1)])) rfl (by rw [hml]; rfl) (argsL := [(.ref a1), (.int (0 : Int32)), (.ref b177), (.int (0 : Int32)), (.int (3 : Int32))]) (rest := []) (lenOf own_pd179 rfl) rfl (own_z rfl) (hb hby d15_9) (fun _ _ => ⟨rfl, e177, (by decide : 1 + 0 ≤ _), (by decide : 3 + 0 ≤ _)⟩)
  dsimp only [Pt.U, Pt.locs, Pt.cells, Pt.slots] at X179 l179 y179 z179 st179 hQ179
  subst l179 y179 z179
  obtain ⟨r179, rfl, Nq179, K179, hd179⟩ := hQ179
  have N179 := Fr.app N0 Nq179
  have Zs179 : n0 ≤ T179.heap.size := Nat.le_trans Zs177 K179.1
  have Kp179 : Keep h0 T179.heap [] := Kp177.trans K179 (allS (Or.inr sz_b177) all0)
  have f180_0 : Old Z n0 T179.heap := f178_0.keep K179 (allS gf177 all0)
  have f180_1 : Arv Z T179.heap a1 kc .char (3 : Int32) [(.int x0), (.int x1), (.int x2)] (.int (0 : Int32)) := f178_1.keep K179 (ninS ne177_a1 nin0)
  refine own_by (fun _ k => XS.iloadN X0.here hx rfl (hb hby d15_0) rfl (st177 _ (XS.astoreN X177.here hx rfl (hb hby d15_3) rfl rfl (l' := #[Rv a1, Iv 0, Iv 3, Rv b177, Uv, Uv]) rfl (XS.aloadN X177.here hx rfl (hb hby d15_4) rfl rfl (XS.iloadN X177.here hx rfl (hb hby d15_5) rfl (XS.aloadN X177.here hx rfl (hb hby d15_6) rfl rfl (XS.iconst X177.here hx rfl (hb hby d15_7) (XS.iloadN X177.here hx rfl (hb hby d15_8) rfl (st179 _ k))))))))) ?_
  rcases hd179 with ⟨rfl, Vr179, hk0, hk1, hk2⟩ | ⟨rfl, hb0⟩ | ⟨rfl, hb1⟩ | ⟨rfl, hb2⟩
  · show own_Fin _ _ _ _ _ _ _ T179 (mkF m 12 #[Rv a1, Iv 0, Iv 3, Rv b177, Uv, Uv] [(.int 3)])
    refine own_by (fun _ k => XS.istore X179.here hx rfl (hb hby d15_12) rfl (l' := #[Rv a1, Iv 0, Iv 3, Rv b177, Iv 3, Uv]) rfl (XS.iload X179.here hx rfl (hb hby d15_14) rfl (XS.iloadN X179.here hx rfl (hb hby d15_16) rfl (XS.icmpYes X179.here hx rfl (pc0 := 17) (pc' := 57) rfl (hb hby d15_17) rfl (teq (by decide : (3 : Int32) = (3 : Int32))).1 (by decide) (by decide) (XS.aloadN X179.here hx rfl (hb hby d15_57) rfl rfl k))))) ?_
    exact own_retA X179 hx hlk (t := (.array .byte)) hret rfl rfl rfl (hb hby d15_58) ⟨_, _, rfl, N179, Kp179, sz_b177, Or.inl ⟨Vr179, hk0, hk1, hk2⟩⟩ (by decide) (by decide)
  · show own_Fin _ _ _ _ _ _ _ T179 (mkF m 12 #[Rv a1, Iv 0, Iv 3, Rv b177, Uv, Uv] [(.int 0)])
    obtain ⟨_, _, ⟨T181, L181, k181, n181⟩, -, X181, ⟨Lc181, hQ181, l181, y181, z181⟩, st181⟩ := LawKit.callS X179 hx (y := mn7) hown (own_m hZ hw 101) (own_m hZ hw 102) (own_m hZ hw 74) (own_m hZ hw 103) (by decide) (backOf (W := 0) (rmTB3 l Z a0 hw [] cs gS a1 kc x0 x1 x2 T179.heap n0 Zs179 V_env f180_0 f180_1) hZ (own_g hw 103) (own_g hw 74) (by decide) (by decide)) (g := (mkF m 23 #[Rv a1, Iv 0, Iv 3, Rv b177, Iv 0, Uv] [(.int 3), (.int 0), (.ref a1)])) rfl (by rw [hml]; rfl) (argsL := [(.ref a1), (.int (0 : Int32)), (.int (3 : Int32))]) (rest := []) (lenOf own_pd190 rfl) rfl (own_z rfl) (hb hby d15_23) (fun _ _ => ⟨rfl, rfl, (by decide : 1 + 1 ≤ _), (by decide : 3 + 6 ≤ _)⟩)
    dsimp only [Pt.U, Pt.locs, Pt.cells, Pt.slots] at X181 l181 y181 z181 st181 hQ181
    subst l181 y181 z181
    obtain ⟨b181, k181, rfl, Nq181, K181, ge181, V181⟩ := hQ181
    have N181 := Fr.app N179 Nq181
    have Zs181 : n0 ≤ T181.heap.size := Nat.le_trans Zs179 K181.1
    have Kp181 : Keep h0 T181.heap [] := Kp179.trans K181 all0
    have f182_0 : Old Z n0 T181.heap := f180_0.keep K181 all0
    have f182_1 : Arv Z T181.heap a1 kc .char (3 : Int32) [(.int x0), (.int x1), (.int x2)] (.int (0 : Int32)) := f180_1.keep K181 nin0
    have ne181_a1 : a1 ≠ b181 := Nat.ne_of_lt (Nat.lt_of_lt_of_le f180_1.lt ge181)
    have gf181 : n0 ≤ b181 := Nat.le_trans Zs179 ge181
    have sz_b181 : h0.size ≤ b181 := Nat.le_trans Kp179.1 ge181
    refine own_by (fun _ k => XS.istore X179.here hx rfl (hb hby d15_12) rfl (l' := #[Rv a1, Iv 0, Iv 3, Rv b177, Iv 0, Uv]) rfl (XS.iload X179.here hx rfl (hb hby d15_14) rfl (XS.iloadN X179.here hx rfl (hb hby d15_16) rfl (XS.icmpNo X179.here hx rfl (hb hby d15_17) rfl (feq (by decide : ¬ ((0 : Int32) = (3 : Int32)))).1 (XS.aloadN X179.here hx rfl (hb hby d15_20) rfl rfl (XS.iloadN X179.here hx rfl (hb hby d15_21) rfl (XS.iloadN X179.here hx rfl (hb hby d15_22) rfl (st181 _ (XS.astore X181.here hx rfl (hb hby d15_26) rfl rfl (l' := #[Rv a1, Iv 0, Iv 3, Rv b177, Iv 0, Rv b181]) rfl (XS.aload X181.here hx rfl (hb hby d15_28) rfl rfl k)))))))))) ?_
    show own_Fin _ _ _ _ _ _ _ T181 (mkF m 30 #[Rv a1, Iv 0, Iv 3, Rv b177, Iv 0, Rv b181] [(.ref b181)])
    obtain ⟨_, _, ⟨T183, L183, k183, n183⟩, -, X183, ⟨Lc183, hQ183, l183, y183, z183⟩, st183⟩ := LawKit.callS X181 hx (y := mn8) hown (own_m hZ hw 117) (own_m hZ hw 118) (own_m hZ hw 74) (own_m hZ hw 119) (by decide) (backOf (W := 0) (rmGC3_0 l Z a0 hw [] cs gS b181 k181 x0 x1 x2 T181.heap n0 Zs181 V_env f182_0 V181 hx0) hZ (own_g hw 119) (own_g hw 74) (by decide) (by decide)) (g := (mkF m 32 #[Rv a1, Iv 0, Iv 3, Rv b177, Iv 0, Rv b181] [(.int 0), (.ref b181)])) rfl (by rw [hml]; rfl) (argsL := [(.ref b181), (.int (0 : Int32))]) (rest := []) (lenOf own_pd195 rfl) rfl (own_z rfl) (hb hby d15_32) (fun _ _ => ⟨rfl, rfl, (by decide : 2 + 0 ≤ _), (by decide : 9 + 0 ≤ _)⟩)
    dsimp only [Pt.U, Pt.locs, Pt.cells, Pt.slots] at X183 l183 y183 z183 st183 hQ183
    subst l183 y183 z183
    obtain ⟨rfl, Nq183, eh183⟩ := hQ183
    have N183 := Fr.app N181 Nq183
    refine own_by (fun _ k => XS.iload X181.here hx rfl (hb hby d15_30) rfl (st183 _ (XS.sipush X183.here hx rfl (hb hby d15_35) (XS.icmpYes X183.here hx rfl (pc0 := 38) (pc' := 54) rfl (hb hby d15_38) rfl (tlt hb0).2.2.1 (by decide) (by decide) (XS.aload X183.here hx rfl (hb hby d15_54) rfl rfl k))))) ?_
    exact own_retA X183 hx hlk (t := (.array .byte)) hret rfl rfl rfl (hb hby d15_56) (by rw [eh183]; exact ⟨_, _, rfl, N183, Kp181, sz_b181, Or.inr V181⟩) (by decide) (by decide)
  · show own_Fin _ _ _ _ _ _ _ T179 (mkF m 12 #[Rv a1, Iv 0, Iv 3, Rv b177, Uv, Uv] [(.int 1)])
    obtain ⟨_, _, ⟨T184, L184, k184, n184⟩, -, X184, ⟨Lc184, hQ184, l184, y184, z184⟩, st184⟩ := LawKit.callS X179 hx (y := mn7) hown (own_m hZ hw 101) (own_m hZ hw 102) (own_m hZ hw 74) (own_m hZ hw 103) (by decide) (backOf (W := 0) (rmTB3 l Z a0 hw [] cs gS a1 kc x0 x1 x2 T179.heap n0 Zs179 V_env f180_0 f180_1) hZ (own_g hw 103) (own_g hw 74) (by decide) (by decide)) (g := (mkF m 23 #[Rv a1, Iv 0, Iv 3, Rv b177, Iv 1, Uv] [(.int 3), (.int 0), (.ref a1)])) rfl (by rw [hml]; rfl) (argsL := [(.ref a1), (.int (0 : Int32)), (.int (3 : Int32))]) (rest := []) (lenOf own_pd190 rfl) rfl (own_z rfl) (hb hby d15_23) (fun _ _ => ⟨rfl, rfl, (by decide : 1 + 1 ≤ _), (by decide : 3 + 6 ≤ _)⟩)
    dsimp only [Pt.U, Pt.locs, Pt.cells, Pt.slots] at X184 l184 y184 z184 st184 hQ184
    subst l184 y184 z184
    obtain ⟨b184, k184, rfl, Nq184, K184, ge184, V184⟩ := hQ184
    have N184 := Fr.app N179 Nq184
    have Zs184 : n0 ≤ T184.heap.size := Nat.le_trans Zs179 K184.1
    have Kp184 : Keep h0 T184.heap [] := Kp179.trans K184 all0
    have f185_0 : Old Z n0 T184.heap := f180_0.keep K184 all0
    have f185_1 : Arv Z T184.heap a1 kc .char (3 : Int32) [(.int x0), (.int x1), (.int x2)] (.int (0 : Int32)) := f180_1.keep K184 nin0
    have ne184_a1 : a1 ≠ b184 := Nat.ne_of_lt (Nat.lt_of_lt_of_le f180_1.lt ge184)
    have gf184 : n0 ≤ b184 := Nat.le_trans Zs179 ge184
    have sz_b184 : h0.size ≤ b184 := Nat.le_trans Kp179.1 ge184
    refine own_by (fun _ k => XS.istore X179.here hx rfl (hb hby d15_12) rfl (l' := #[Rv a1, Iv 0, Iv 3, Rv b177, Iv 1, Uv]) rfl (XS.iload X179.here hx rfl (hb hby d15_14) rfl (XS.iloadN X179.here hx rfl (hb hby d15_16) rfl (XS.icmpNo X179.here hx rfl (hb hby d15_17) rfl (feq (by decide : ¬ ((1 : Int32) = (3 : Int32)))).1 (XS.aloadN X179.here hx rfl (hb hby d15_20) rfl rfl (XS.iloadN X179.here hx rfl (hb hby d15_21) rfl (XS.iloadN X179.here hx rfl (hb hby d15_22) rfl (st184 _ (XS.astore X184.here hx rfl (hb hby d15_26) rfl rfl (l' := #[Rv a1, Iv 0, Iv 3, Rv b177, Iv 1, Rv b184]) rfl (XS.aload X184.here hx rfl (hb hby d15_28) rfl rfl k)))))))))) ?_
    show own_Fin _ _ _ _ _ _ _ T184 (mkF m 30 #[Rv a1, Iv 0, Iv 3, Rv b177, Iv 1, Rv b184] [(.ref b184)])
    obtain ⟨_, _, ⟨T186, L186, k186, n186⟩, -, X186, ⟨Lc186, hQ186, l186, y186, z186⟩, st186⟩ := LawKit.callS X184 hx (y := mn8) hown (own_m hZ hw 117) (own_m hZ hw 118) (own_m hZ hw 74) (own_m hZ hw 119) (by decide) (backOf (W := 0) (rmGC3_1 l Z a0 hw [] cs gS b184 k184 x0 x1 x2 T184.heap n0 Zs184 V_env f185_0 V184 hx1) hZ (own_g hw 119) (own_g hw 74) (by decide) (by decide)) (g := (mkF m 32 #[Rv a1, Iv 0, Iv 3, Rv b177, Iv 1, Rv b184] [(.int 1), (.ref b184)])) rfl (by rw [hml]; rfl) (argsL := [(.ref b184), (.int (1 : Int32))]) (rest := []) (lenOf own_pd195 rfl) rfl (own_z rfl) (hb hby d15_32) (fun _ _ => ⟨rfl, rfl, (by decide : 2 + 0 ≤ _), (by decide : 9 + 0 ≤ _)⟩)
    dsimp only [Pt.U, Pt.locs, Pt.cells, Pt.slots] at X186 l186 y186 z186 st186 hQ186
    subst l186 y186 z186
    obtain ⟨rfl, Nq186, eh186⟩ := hQ186
    have N186 := Fr.app N184 Nq186
    refine own_by (fun _ k => XS.iload X184.here hx rfl (hb hby d15_30) rfl (st186 _ (XS.sipush X186.here hx rfl (hb hby d15_35) (XS.icmpYes X186.here hx rfl (pc0 := 38) (pc' := 54) rfl (hb hby d15_38) rfl (tlt hb1).2.2.1 (by decide) (by decide) (XS.aload X186.here hx rfl (hb hby d15_54) rfl rfl k))))) ?_
    exact own_retA X186 hx hlk (t := (.array .byte)) hret rfl rfl rfl (hb hby d15_56) (by rw [eh186]; exact ⟨_, _, rfl, N186, Kp184, sz_b184, Or.inr V184⟩) (by decide) (by decide)
  · show own_Fin _ _ _ _ _ _ _ T179 (mkF m 12 #[Rv a1, Iv 0, Iv 3, Rv b177, Uv, Uv] [(.int 2)])
    obtain ⟨_, _, ⟨T187, L187, k187, n187⟩, -, X187, ⟨Lc187, hQ187, l187, y187, z187⟩, st187⟩ := LawKit.callS X179 hx (y := mn7) hown (own_m hZ hw 101) (own_m hZ hw 102) (own_m hZ hw 74) (own_m hZ hw 103) (by decide) (backOf (W := 0) (rmTB3 l Z a0 hw [] cs gS a1 kc x0 x1 x2 T179.heap n0 Zs179 V_env f180_0 f180_1) hZ (own_g hw 103) (own_g hw 74) (by decide) (by decide)) (g := (mkF m 23 #[Rv a1, Iv 0, Iv 3, Rv b177, Iv 2, Uv] [(.int 3), (.int 0), (.ref a1)])) rfl (by rw [hml]; rfl) (argsL := [(.ref a1), (.int (0 : Int32)), (.int (3 : Int32))]) (rest := []) (lenOf own_pd190 rfl) rfl (own_z rfl) (hb hby d15_23) (fun _ _ => ⟨rfl, rfl, (by decide : 1 + 1 ≤ _), (by decide : 3 + 6 ≤ _)⟩)
    dsimp only [Pt.U, Pt.locs, Pt.cells, Pt.slots] at X187 l187 y187 z187 st187 hQ187
    subst l187 y187 z187
    obtain ⟨b187, k187, rfl, Nq187, K187, ge187, V187⟩ := hQ187
    have N187 := Fr.app N179 Nq187
    have Zs187 : n0 ≤ T187.heap.size := Nat.le_trans Zs179 K187.1
    have Kp187 : Keep h0 T187.heap [] := Kp179.trans K187 all0
    have f188_0 : Old Z n0 T187.heap := f180_0.keep K187 all0
    have f188_1 : Arv Z T187.heap a1 kc .char (3 : Int32) [(.int x0), (.int x1), (.int x2)] (.int (0 : Int32)) := f180_1.keep K187 nin0
    have ne187_a1 : a1 ≠ b187 := Nat.ne_of_lt (Nat.lt_of_lt_of_le f180_1.lt ge187)
    have gf187 : n0 ≤ b187 := Nat.le_trans Zs179 ge187
    have sz_b187 : h0.size ≤ b187 := Nat.le_trans Kp179.1 ge187
    refine own_by (fun _ k => XS.istore X179.here hx rfl (hb hby d15_12) rfl (l' := #[Rv a1, Iv 0, Iv 3, Rv b177, Iv 2, Uv]) rfl (XS.iload X179.here hx rfl (hb hby d15_14) rfl (XS.iloadN X179.here hx rfl (hb hby d15_16) rfl (XS.icmpNo X179.here hx rfl (hb hby d15_17) rfl (feq (by decide : ¬ ((2 : Int32) = (3 : Int32)))).1 (XS.aloadN X179.here hx rfl (hb hby d15_20) rfl rfl (XS.iloadN X179.here hx rfl (hb hby d15_21) rfl (XS.iloadN X179.here hx rfl (hb hby d15_22) rfl (st187 _ (XS.astore X187.here hx rfl (hb hby d15_26) rfl rfl (l' := #[Rv a1, Iv 0, Iv 3, Rv b177, Iv 2, Rv b187]) rfl (XS.aload X187.here hx rfl (hb hby d15_28) rfl rfl k)))))))))) ?_
    show own_Fin _ _ _ _ _ _ _ T187 (mkF m 30 #[Rv a1, Iv 0, Iv 3, Rv b177, Iv 2, Rv b187] [(.ref b187)])
    obtain ⟨_, _, ⟨T189, L189, k189, n189⟩, -, X189, ⟨Lc189, hQ189, l189, y189, z189⟩, st189⟩ := LawKit.callS X187 hx (y := mn8) hown (own_m hZ hw 117) (own_m hZ hw 118) (own_m hZ hw 74) (own_m hZ hw 119) (by decide) (backOf (W := 0) (rmGC3_2 l Z a0 hw [] cs gS b187 k187 x0 x1 x2 T187.heap n0 Zs187 V_env f188_0 V187 hx2) hZ (own_g hw 119) (own_g hw 74) (by decide) (by decide)) (g := (mkF m 32 #[Rv a1, Iv 0, Iv 3, Rv b177, Iv 2, Rv b187] [(.int 2), (.ref b187)])) rfl (by rw [hml]; rfl) (argsL := [(.ref b187), (.int (2 : Int32))]) (rest := []) (lenOf own_pd195 rfl) rfl (own_z rfl) (hb hby d15_32) (fun _ _ => ⟨rfl, rfl, (by decide : 2 + 0 ≤ _), (by decide : 9 + 0 ≤ _)⟩)
    dsimp only [Pt.U, Pt.locs, Pt.cells, Pt.slots] at X189 l189 y189 z189 st189 hQ189
    subst l189 y189 z189
    obtain ⟨rfl, Nq189, eh189⟩ := hQ189
    have N189 := Fr.app N187 Nq189
    refine own_by (fun _ k => XS.iload X187.here hx rfl (hb hby d15_30) rfl (st189 _ (XS.sipush X189.here hx rfl (hb hby d15_35) (XS.icmpYes X189.here hx rfl (pc0 := 38) (pc' := 54) rfl (hb hby d15_38) rfl (tlt hb2).2.2.1 (by decide) (by decide) (XS.aload X189.here hx rfl (hb hby d15_54) rfl rfl k))))) ?_
    exact own_retA X189 hx hlk (t := (.array .byte)) hret rfl rfl rfl (hb hby d15_56) (by rw [eh189]; exact ⟨_, _, rfl, N189, Kp187, sz_b187, Or.inr V187⟩) (by decide) (by decide)
def own_Qcl3_3 (h0 : Heap) (n0 : Nat) (v : Option Value) (h : Heap) (L : List Loc) : Prop := v = some (.int (0 : Int32)) ∧ Fr n0 L ∧ h = h0
theorem rmCL3_3 (l : Launch) (Z : State) (a0 : Array Value) (hw : own_W a0 Z) (ws : List Jvm.Cond) (a1 : Addr) (k1 : ClassId) (vs : List Value) (h0 : Heap) (n0 : Nat) (Z0 : n0 ≤ h0.size) (V1 : Arv Z h0 a1 k1 .byte (3 : Int32) vs (.int (0 : Int32))) : own_Met l Z mn11 jdk_52_method_15_code 2 (some .byte) ws (own_R 0 0 0 0) #[(.ref a1), (.int (3 : Int32))] h0 (own_Qcl3_3 h0 n0) := by
  refine own_enter n0 (plainFor_of_name own_pn58) (fun m => ef_RI_2 m a1 (3 : Int32) ) (fun p e s m below meth c s₁ hx hby hlk hml hret hown hnm hZ X0 e0 N0 => ?_)
  show own_Fin _ _ _ _ _ _ _ s₁ (mkF m 0 #[Rv a1, Iv 3] [])
  obtain ⟨cl190, Ar190, -, S190, M190, -, -⟩ := id V1
  refine own_by (fun _ k => XS.iloadN X0.here hx rfl (hb hby d17_0) rfl (XS.aloadN X0.here hx rfl (hb hby d17_1) rfl rfl (X0.arraylength hx (by rw [e0]; exact Ar190.1) (State.isArrayOf_alike hZ.alike Ar190.2.1) (g := (mkF m 2 #[Rv a1, Iv 3] [(.ref a1), (.int 3)])) rfl rfl (hb hby d17_2) _ k))) ?_
  rw [len_of S190 M190]
  show own_Fin _ _ _ _ _ _ _ s₁ (mkF m 3 #[Rv a1, Iv 3] [(.int 3), (.int 3)])
  refine own_by (fun _ k => XS.isub X0.here hx rfl (hb hby d17_3) rfl k) ?_
  show own_Fin _ _ _ _ _ _ _ s₁ (mkF m 4 #[Rv a1, Iv 3] [(.int ((3 : Int32) - (3 : Int32)))])
  rw [(by decide : ((3 : Int32) - (3 : Int32)) = (0 : Int32))]
  show own_Fin _ _ _ _ _ _ _ s₁ (mkF m 4 #[Rv a1, Iv 3] [(.int 0)])
  refine own_by (fun _ k => XS.bipush X0.here hx rfl (hb hby d17_4) (XS.iushr X0.here hx rfl (hb hby d17_6) rfl k)) ?_
  show own_Fin _ _ _ _ _ _ _ s₁ (mkF m 7 #[Rv a1, Iv 3] [(.int (((0 : Int32).toUInt32 >>> ((31 : Int32) &&& 31).toUInt32).toInt32))])
  rw [(by decide : (((0 : Int32).toUInt32 >>> ((31 : Int32) &&& 31).toUInt32).toInt32) = (0 : Int32))]
  show own_Fin _ _ _ _ _ _ _ s₁ (mkF m 7 #[Rv a1, Iv 3] [(.int 0)])
  refine own_by (fun _ k => XS.i2b X0.here hx rfl (hb hby d17_7) rfl k) ?_
  show own_Fin _ _ _ _ _ _ _ s₁ (mkF m 8 #[Rv a1, Iv 3] [(.int ((0 : Int32).toInt8.toInt32))])
  rw [(by decide : ((0 : Int32).toInt8.toInt32) = (0 : Int32))]
  show own_Fin _ _ _ _ _ _ _ s₁ (mkF m 8 #[Rv a1, Iv 3] [(.int 0)])
  exact own_retZ X0 hx hlk (t := .byte) hret (by simp) (hb hby d17_8) ⟨rfl, N0, e0⟩ (by decide) (by decide)
def own_Qcl3_6 (h0 : Heap) (n0 : Nat) (v : Option Value) (h : Heap) (L : List Loc) : Prop := v = some (.int (1 : Int32)) ∧ Fr n0 L ∧ h = h0
theorem rmCL3_6 (l : Launch) (Z : State) (a0 : Array Value) (hw : own_W a0 Z) (ws : List Jvm.Cond) (a1 : Addr) (k1 : ClassId) (vs : List Value) (h0 : Heap) (n0 : Nat) (Z0 : n0 ≤ h0.size) (V1 : Arv Z h0 a1 k1 .byte (6 : Int32) vs (.int (0 : Int32))) : own_Met l Z mn11 jdk_52_method_15_code 2 (some .byte) ws (own_R 0 0 0 0) #[(.ref a1), (.int (3 : Int32))] h0 (own_Qcl3_6 h0 n0) := by
  refine own_enter n0 (plainFor_of_name own_pn58) (fun m => ef_RI_2 m a1 (3 : Int32) ) (fun p e s m below meth c s₁ hx hby hlk hml hret hown hnm hZ X0 e0 N0 => ?_)
  show own_Fin _ _ _ _ _ _ _ s₁ (mkF m 0 #[Rv a1, Iv 3] [])
  obtain ⟨cl191, Ar191, -, S191, M191, -, -⟩ := id V1
  refine own_by (fun _ k => XS.iloadN X0.here hx rfl (hb hby d17_0) rfl (XS.aloadN X0.here hx rfl (hb hby d17_1) rfl rfl (X0.arraylength hx (by rw [e0]; exact Ar191.1) (State.isArrayOf_alike hZ.alike Ar191.2.1) (g := (mkF m 2 #[Rv a1, Iv 3] [(.ref a1), (.int 3)])) rfl rfl (hb hby d17_2) _ k))) ?_
  rw [len_of S191 M191]
  show own_Fin _ _ _ _ _ _ _ s₁ (mkF m 3 #[Rv a1, Iv 3] [(.int 6), (.int 3)])
  refine own_by (fun _ k => XS.isub X0.here hx rfl (hb hby d17_3) rfl k) ?_
  show own_Fin _ _ _ _ _ _ _ s₁ (mkF m 4 #[Rv a1, Iv 3] [(.int ((3 : Int32) - (6 : Int32)))])
  rw [(by decide : ((3 : Int32) - (6 : Int32)) = (-3 : Int32))]
  show own_Fin _ _ _ _ _ _ _ s₁ (mkF m 4 #[Rv a1, Iv 3] [(.int (-3))])
  refine own_by (fun _ k => XS.bipush X0.here hx rfl (hb hby d17_4) (XS.iushr X0.here hx rfl (hb hby d17_6) rfl k)) ?_
  show own_Fin _ _ _ _ _ _ _ s₁ (mkF m 7 #[Rv a1, Iv 3] [(.int (((-3 : Int32).toUInt32 >>> ((31 : Int32) &&& 31).toUInt32).toInt32))])
  rw [(by decide : (((-3 : Int32).toUInt32 >>> ((31 : Int32) &&& 31).toUInt32).toInt32) = (1 : Int32))]
  show own_Fin _ _ _ _ _ _ _ s₁ (mkF m 7 #[Rv a1, Iv 3] [(.int 1)])
  refine own_by (fun _ k => XS.i2b X0.here hx rfl (hb hby d17_7) rfl k) ?_
  show own_Fin _ _ _ _ _ _ _ s₁ (mkF m 8 #[Rv a1, Iv 3] [(.int ((1 : Int32).toInt8.toInt32))])
  rw [(by decide : ((1 : Int32).toInt8.toInt32) = (1 : Int32))]
  show own_Fin _ _ _ _ _ _ _ s₁ (mkF m 8 #[Rv a1, Iv 3] [(.int 1)])
  exact own_retZ X0 hx hlk (t := .byte) hret (by simp) (hb hby d17_8) ⟨rfl, N0, e0⟩ (by decide) (by decide)
def own_QYI3 (Z : State) (a1 : Addr) (x0 x1 x2 : Int32) (h0 : Heap) (n0 : Nat) (v : Option Value) (h : Heap) (L : List Loc) : Prop := ∃ (b : Addr) (k : ClassId), v = none ∧ Fr n0 L ∧ Keep h0 h [a1] ∧ Fld Z h a1 "java/lang/String" "value" "[B" (.ref b) ∧ ((Fld Z h a1 "java/lang/String" "coder" "B" (.int (0 : Int32)) ∧ Arv Z h b k .byte (3 : Int32) [(.int x0.toInt8.toInt32), (.int x1.toInt8.toInt32), (.int x2.toInt8.toInt32)] (.int (0 : Int32)) ∧ ¬ (255 : Int32) < x0 ∧ ¬ (255 : Int32) < x1 ∧ ¬ (255 : Int32) < x2) ∨ (Fld Z h a1 "java/lang/String" "coder" "B" (.int (1 : Int32)) ∧ Arv Z h b k .byte (6 : Int32) [(.int (own_lo x0)), (.int (own_hi x0)), (.int (own_lo x1)), (.int (own_hi x1)), (.int (own_lo x2)), (.int (own_hi x2))] (.int (0 : Int32))))
set_option maxRecDepth 65536 in
set_option maxHeartbeats 40000000 in
theorem rmYI3 (l : Launch) (Z : State) (a0 : Array Value) (hw : own_W a0 Z) (ws : List Jvm.Cond) (cs : Int32) (gS : Value) (a1 a2 : Addr) (kc : ClassId) (x0 x1 x2 : Int32) (h0 : Heap) (n0 : Nat) (Z0 : n0 ≤ h0.size) (V_env : own_Env Z cs gS) (Od : Old Z n0 h0) (E_a1 : Exa Z h0 a1 "java/lang/String") (F_v : Fld Z h0 a1 "java/lang/String" "value" "[B" .null) (F_c : Fld Z h0 a1 "java/lang/String" "coder" "B" (.int (0 : Int32))) (g_a1 : n0 ≤ a1) (V2 : Arv Z h0 a2 kc .char (3 : Int32) [(.int x0), (.int x1), (.int x2)] (.int (0 : Int32))) (ne12 : a2 ≠ a1) (hx0 : own_ch x0) (hx1 : own_ch x1) (hx2 : own_ch x2) : own_Met l Z mn2 jdk_42_method_149_code 6 none ws (own_R 4 2 9 57) #[(.ref a1), (.ref a2), (.int (0 : Int32)), (.int (3 : Int32)), .null] h0 (own_QYI3 Z a1 x0 x1 x2 h0 n0) := by
  refine own_enter n0 (plainFor_of_name own_pn34) (fun m => ef_RRIIN_6 m a1 a2 (0 : Int32) (3 : Int32) ) (fun p e s m below meth c s₁ hx hby hlk hml hret hown hnm hZ X0 e0 N0 => ?_)
  show own_Fin _ _ _ _ _ _ _ s₁ (mkF m 0 #[Rv a1, Rv a2, Iv 0, Iv 3, Nv, Uv] [])
  have Kp192 : Keep h0 h0 [a1] := Keep.refl h0 _
  obtain ⟨T193, X193, e193, st193⟩ := initO X0 hx hZ hown (own_g hw 17) (own_g hw 18) (own_g hw 19) e0 (g := (mkF m 1 #[Rv a1, Rv a2, Iv 0, Iv 3, Nv, Uv] [(.ref a1)])) rfl (by rw [hml]; rfl) rfl (hb hby d3_1) (by decide) (W := 0) (own_z rfl) (by decide)
  obtain ⟨T194, X194, e194, st194⟩ := getS2 X193 hx hZ hown (host := "") (Or.inl (own_g hw 47)) Via.refl e193 (V_env.2.2.2.1.ext Od.2) (g := (mkF m 27 #[Rv a1, Rv a2, Iv 0, Iv 3, Nv, Uv] [])) rfl (hb hby d3_27)
  obtain ⟨_, _, ⟨T195, L195, k195, n195⟩, -, X195, ⟨Lc195, hQ195, l195, y195, z195⟩, st195⟩ := LawKit.callS X194 hx (y := mn10) hown (own_m hZ hw 72) (own_m hZ hw 73) (own_m hZ hw 74) (own_m hZ hw 75) (by decide) (backOf (W := 0) (rmXO3 l Z a0 hw [] cs gS a2 kc x0 x1 x2 h0 n0 Z0 V_env Od V2 hx0 hx1 hx2) hZ (own_g hw 75) (own_g hw 74) (by decide) (by decide)) (g := (mkF m 36 #[Rv a1, Rv a2, Iv 0, Iv 3, Nv, Uv] [(.int 3), (.int 0), (.ref a2)])) rfl (by rw [hml]; rfl) (argsL := [(.ref a2), (.int (0 : Int32)), (.int (3 : Int32))]) (rest := []) (lenOf own_pd190 rfl) rfl (own_z rfl) (hb hby d3_36) (fun _ _ => ⟨rfl, e194, (by decide : 0 + 2 ≤ _), (by decide : 0 + 9 ≤ _)⟩)
  dsimp only [Pt.U, Pt.locs, Pt.cells, Pt.slots] at X195 l195 y195 z195 st195 hQ195
  subst l195 y195 z195
  obtain ⟨b195, k195, rfl, Nq195, K195, ge195, hd195⟩ := hQ195
  have N195 := Fr.app N0 Nq195
  have Zs195 : n0 ≤ T195.heap.size := Nat.le_trans Z0 K195.1
  have Kp195 : Keep h0 T195.heap [a1] := Kp192.trans K195 all0
  have f196_0 : Old Z n0 T195.heap := Od.keep K195 all0
  have f196_1 : Exa Z T195.heap a1 "java/lang/String" := E_a1.keep K195
  have f196_2 : Fld Z T195.heap a1 "java/lang/String" "value" "[B" .null := F_v.keep K195 nin0
  have f196_3 : Fld Z T195.heap a1 "java/lang/String" "coder" "B" (.int (0 : Int32)) := F_c.keep K195 nin0
  have f196_4 : Arv Z T195.heap a2 kc .char (3 : Int32) [(.int x0), (.int x1), (.int x2)] (.int (0 : Int32)) := V2.keep K195 nin0
  have ne195_a1 : a1 ≠ b195 := Nat.ne_of_lt (Nat.lt_of_lt_of_le E_a1.lt ge195)
  have ne195_a2 : a2 ≠ b195 := Nat.ne_of_lt (Nat.lt_of_lt_of_le V2.lt ge195)
  refine own_by (fun _ k => XS.aloadN X0.here hx rfl (hb hby d3_0) rfl rfl (st193 _ (XS.iloadN X193.here hx rfl (hb hby d3_4) rfl (XS.ifYes X193.here hx rfl (pc0 := 5) (pc' := 27) rfl (hb hby d3_5) rfl ((if0 _ _).trans (feq (by decide : ¬ ((3 : Int32) = (0 : Int32)))).2) (by decide) (by decide) (st194 _ (XS.ifNo X194.here hx rfl (hb hby d3_30) rfl ((if0 _ _).trans (feq V_env.2.2.2.2.1).1) (XS.aloadN X194.here hx rfl (hb hby d3_33) rfl rfl (XS.iloadN X194.here hx rfl (hb hby d3_34) rfl (XS.iloadN X194.here hx rfl (hb hby d3_35) rfl (st195 _ k)))))))))) ?_
  rcases hd195 with ⟨V195, hk0, hk1, hk2⟩ | V195
  · show own_Fin _ _ _ _ _ _ _ T195 (mkF m 39 #[Rv a1, Rv a2, Iv 0, Iv 3, Nv, Uv] [(.ref b195)])
    obtain ⟨_, _, ⟨T197, L197, k197, n197⟩, -, X197, ⟨Lc197, hQ197, l197, y197, z197⟩, st197⟩ := LawKit.callS X195 hx (y := mn11) hown (own_m hZ hw 79) (own_m hZ hw 80) (own_m hZ hw 74) (own_m hZ hw 81) (by decide) (backOf (W := 1) (rmCL3_3 l Z a0 hw [] b195 k195 [(.int x0.toInt8.toInt32), (.int x1.toInt8.toInt32), (.int x2.toInt8.toInt32)] T195.heap n0 Zs195 V195) hZ (own_g hw 81) (own_g hw 74) (by decide) (by decide)) (g := (mkF m 45 #[Rv a1, Rv a2, Iv 0, Iv 3, Nv, Rv b195] [(.int 3), (.ref b195), (.ref a1)])) rfl (by rw [hml]; rfl) (argsL := [(.ref b195), (.int (3 : Int32))]) (rest := [(.ref a1)]) (lenOf own_pd219 rfl) rfl (own_z rfl) (hb hby d3_45) (fun _ _ => ⟨rfl, rfl, (by decide : 2 + 0 ≤ _), (by decide : 9 + 0 ≤ _)⟩)
    dsimp only [Pt.U, Pt.locs, Pt.cells, Pt.slots] at X197 l197 y197 z197 st197 hQ197
    subst l197 y197 z197
    obtain ⟨rfl, Nq197, eh197⟩ := hQ197
    have N197 := Fr.app N195 Nq197
    obtain ⟨T198, h198, X198, e198, W198, st198⟩ := putFN X197 hx hZ hown (own_g hw 27) Via.refl eh197 f196_3 f196_1 (Or.inr ⟨(own_g hw 23), rfl, hnm⟩) (own_g hw 7) (ty := .byte) (v' := (.int (0 : Int32))) (by decide) rfl (by decide) (g := (mkF m 48 #[Rv a1, Rv a2, Iv 0, Iv 3, Nv, Rv b195] [(.int 0), (.ref a1)])) rfl rfl (hb hby d3_48)
    have Fw198 : Fld Z h198 a1 "java/lang/String" "coder" "B" (.int (0 : Int32)) := f196_3.same W198
    have Kp198 : Keep h0 h198 [a1] := Kp195.wr W198 (Or.inl (List.mem_of_getElem? (i := 0) rfl))
    have Zs198 : n0 ≤ h198.size := Nat.le_trans Zs195 (Keep.of_wr W198).1
    have N198 := Fr.snoc X198 N197 g_a1
    have f199_0 : Old Z n0 h198 := f196_0.wr W198 g_a1
    have f199_1 : Exa Z h198 a1 "java/lang/String" := f196_1.wr W198
    have f199_2 : Fld Z h198 a1 "java/lang/String" "value" "[B" .null := f196_2.other W198 (Or.inr (slot_ne (Or.inr (own_g hw 22)) (Or.inr (own_g hw 23)) (by decide) (t := (.array .byte)) (t' := .byte) (by decide) (by decide)))
    have f199_4 : Arv Z h198 a2 kc .char (3 : Int32) [(.int x0), (.int x1), (.int x2)] (.int (0 : Int32)) := f196_4.other W198 ne12
    have f199_5 : Arv Z h198 b195 k195 .byte (3 : Int32) [(.int x0.toInt8.toInt32), (.int x1.toInt8.toInt32), (.int x2.toInt8.toInt32)] (.int (0 : Int32)) := V195.other W198 (Ne.symm ne195_a1)
    obtain ⟨T200, h200, X200, e200, W200, st200⟩ := putF X198 hx hZ hown (host := "") (Or.inl (own_g hw 26)) Via.refl e198 f199_2 f199_1 (Or.inr ⟨(own_g hw 22), rfl, hnm⟩) (own_g hw 7) (ty := (.array .byte)) (by decide) rfl rfl (g := (mkF m 54 #[Rv a1, Rv a2, Iv 0, Iv 3, Nv, Rv b195] [(.ref b195), (.ref a1)])) rfl rfl (hb hby d3_54)
    have Fw200 : Fld Z h200 a1 "java/lang/String" "value" "[B" (.ref b195) := f199_2.same W200
    have Kp200 : Keep h0 h200 [a1] := Kp198.wr W200 (Or.inl (List.mem_of_getElem? (i := 0) rfl))
    have Zs200 : n0 ≤ h200.size := Nat.le_trans Zs198 (Keep.of_wr W200).1
    have N200 := Fr.snoc X200 N198 g_a1
    have f201_0 : Old Z n0 h200 := f199_0.wr W200 g_a1
    have f201_1 : Exa Z h200 a1 "java/lang/String" := f199_1.wr W200
    have f201_3 : Arv Z h200 a2 kc .char (3 : Int32) [(.int x0), (.int x1), (.int x2)] (.int (0 : Int32)) := f199_4.other W200 ne12
    have f201_4 : Arv Z h200 b195 k195 .byte (3 : Int32) [(.int x0.toInt8.toInt32), (.int x1.toInt8.toInt32), (.int x2.toInt8.toInt32)] (.int (0 : Int32)) := f199_5.other W200 (Ne.symm ne195_a1)
    have f201_5 : Fld Z h200 a1 "java/lang/String" "coder" "B" (.int (0 : Int32)) := Fw198.other W200 (Or.inr (slot_ne (Or.inr (own_g hw 23)) (Or.inr (own_g hw 22)) (by decide) (t := .byte) (t' := (.array .byte)) (by decide) (by decide)))
    refine own_by (fun _ k => XS.astore X195.here hx rfl (hb hby d3_39) rfl rfl (l' := #[Rv a1, Rv a2, Iv 0, Iv 3, Nv, Rv b195]) rfl (XS.aloadN X195.here hx rfl (hb hby d3_41) rfl rfl (XS.aload X195.here hx rfl (hb hby d3_42) rfl rfl (XS.iloadN X195.here hx rfl (hb hby d3_44) rfl (st197 _ (st198 _ (XS.aloadN X198.here hx rfl (hb hby d3_51) rfl rfl (XS.aload X198.here hx rfl (hb hby d3_52) rfl rfl (st200 _ k))))))))) ?_
    exact own_retV X200 hx hlk hret (hb hby d3_57) (by rw [e200]; exact ⟨_, _, rfl, N200, Kp200, Fw200, Or.inl ⟨f201_5, f201_4, hk0, hk1, hk2⟩⟩) (by decide) (by decide)
  · show own_Fin _ _ _ _ _ _ _ T195 (mkF m 39 #[Rv a1, Rv a2, Iv 0, Iv 3, Nv, Uv] [(.ref b195)])
    obtain ⟨_, _, ⟨T202, L202, k202, n202⟩, -, X202, ⟨Lc202, hQ202, l202, y202, z202⟩, st202⟩ := LawKit.callS X195 hx (y := mn11) hown (own_m hZ hw 79) (own_m hZ hw 80) (own_m hZ hw 74) (own_m hZ hw 81) (by decide) (backOf (W := 1) (rmCL3_6 l Z a0 hw [] b195 k195 [(.int (own_lo x0)), (.int (own_hi x0)), (.int (own_lo x1)), (.int (own_hi x1)), (.int (own_lo x2)), (.int (own_hi x2))] T195.heap n0 Zs195 V195) hZ (own_g hw 81) (own_g hw 74) (by decide) (by decide)) (g := (mkF m 45 #[Rv a1, Rv a2, Iv 0, Iv 3, Nv, Rv b195] [(.int 3), (.ref b195), (.ref a1)])) rfl (by rw [hml]; rfl) (argsL := [(.ref b195), (.int (3 : Int32))]) (rest := [(.ref a1)]) (lenOf own_pd219 rfl) rfl (own_z rfl) (hb hby d3_45) (fun _ _ => ⟨rfl, rfl, (by decide : 2 + 0 ≤ _), (by decide : 9 + 0 ≤ _)⟩)
    dsimp only [Pt.U, Pt.locs, Pt.cells, Pt.slots] at X202 l202 y202 z202 st202 hQ202
    subst l202 y202 z202
    obtain ⟨rfl, Nq202, eh202⟩ := hQ202
    have N202 := Fr.app N195 Nq202
    obtain ⟨T203, h203, X203, e203, W203, st203⟩ := putFN X202 hx hZ hown (own_g hw 27) Via.refl eh202 f196_3 f196_1 (Or.inr ⟨(own_g hw 23), rfl, hnm⟩) (own_g hw 7) (ty := .byte) (v' := (.int (1 : Int32))) (by decide) rfl (by decide) (g := (mkF m 48 #[Rv a1, Rv a2, Iv 0, Iv 3, Nv, Rv b195] [(.int 1), (.ref a1)])) rfl rfl (hb hby d3_48)
    have Fw203 : Fld Z h203 a1 "java/lang/String" "coder" "B" (.int (1 : Int32)) := f196_3.same W203
    have Kp203 : Keep h0 h203 [a1] := Kp195.wr W203 (Or.inl (List.mem_of_getElem? (i := 0) rfl))
    have Zs203 : n0 ≤ h203.size := Nat.le_trans Zs195 (Keep.of_wr W203).1
    have N203 := Fr.snoc X203 N202 g_a1
    have f204_0 : Old Z n0 h203 := f196_0.wr W203 g_a1
    have f204_1 : Exa Z h203 a1 "java/lang/String" := f196_1.wr W203
    have f204_2 : Fld Z h203 a1 "java/lang/String" "value" "[B" .null := f196_2.other W203 (Or.inr (slot_ne (Or.inr (own_g hw 22)) (Or.inr (own_g hw 23)) (by decide) (t := (.array .byte)) (t' := .byte) (by decide) (by decide)))
    have f204_4 : Arv Z h203 a2 kc .char (3 : Int32) [(.int x0), (.int x1), (.int x2)] (.int (0 : Int32)) := f196_4.other W203 ne12
    have f204_5 : Arv Z h203 b195 k195 .byte (6 : Int32) [(.int (own_lo x0)), (.int (own_hi x0)), (.int (own_lo x1)), (.int (own_hi x1)), (.int (own_lo x2)), (.int (own_hi x2))] (.int (0 : Int32)) := V195.other W203 (Ne.symm ne195_a1)
    obtain ⟨T205, h205, X205, e205, W205, st205⟩ := putF X203 hx hZ hown (host := "") (Or.inl (own_g hw 26)) Via.refl e203 f204_2 f204_1 (Or.inr ⟨(own_g hw 22), rfl, hnm⟩) (own_g hw 7) (ty := (.array .byte)) (by decide) rfl rfl (g := (mkF m 54 #[Rv a1, Rv a2, Iv 0, Iv 3, Nv, Rv b195] [(.ref b195), (.ref a1)])) rfl rfl (hb hby d3_54)
    have Fw205 : Fld Z h205 a1 "java/lang/String" "value" "[B" (.ref b195) := f204_2.same W205
    have Kp205 : Keep h0 h205 [a1] := Kp203.wr W205 (Or.inl (List.mem_of_getElem? (i := 0) rfl))
    have Zs205 : n0 ≤ h205.size := Nat.le_trans Zs203 (Keep.of_wr W205).1
    have N205 := Fr.snoc X205 N203 g_a1
    have f206_0 : Old Z n0 h205 := f204_0.wr W205 g_a1
    have f206_1 : Exa Z h205 a1 "java/lang/String" := f204_1.wr W205
    have f206_3 : Arv Z h205 a2 kc .char (3 : Int32) [(.int x0), (.int x1), (.int x2)] (.int (0 : Int32)) := f204_4.other W205 ne12
    have f206_4 : Arv Z h205 b195 k195 .byte (6 : Int32) [(.int (own_lo x0)), (.int (own_hi x0)), (.int (own_lo x1)), (.int (own_hi x1)), (.int (own_lo x2)), (.int (own_hi x2))] (.int (0 : Int32)) := f204_5.other W205 (Ne.symm ne195_a1)
    have f206_5 : Fld Z h205 a1 "java/lang/String" "coder" "B" (.int (1 : Int32)) := Fw203.other W205 (Or.inr (slot_ne (Or.inr (own_g hw 23)) (Or.inr (own_g hw 22)) (by decide) (t := .byte) (t' := (.array .byte)) (by decide) (by decide)))
    refine own_by (fun _ k => XS.astore X195.here hx rfl (hb hby d3_39) rfl rfl (l' := #[Rv a1, Rv a2, Iv 0, Iv 3, Nv, Rv b195]) rfl (XS.aloadN X195.here hx rfl (hb hby d3_41) rfl rfl (XS.aload X195.here hx rfl (hb hby d3_42) rfl rfl (XS.iloadN X195.here hx rfl (hb hby d3_44) rfl (st202 _ (st203 _ (XS.aloadN X203.here hx rfl (hb hby d3_51) rfl rfl (XS.aload X203.here hx rfl (hb hby d3_52) rfl rfl (st205 _ k))))))))) ?_
    exact own_retV X205 hx hlk hret (hb hby d3_57) (by rw [e205]; exact ⟨_, _, rfl, N205, Kp205, Fw205, Or.inr ⟨f206_5, f206_4⟩⟩) (by decide) (by decide)
theorem rmYC3 (l : Launch) (Z : State) (a0 : Array Value) (hw : own_W a0 Z) (ws : List Jvm.Cond) (cs : Int32) (gS : Value) (a1 a2 : Addr) (kc : ClassId) (x0 x1 x2 : Int32) (h0 : Heap) (n0 : Nat) (Z0 : n0 ≤ h0.size) (V_env : own_Env Z cs gS) (Od : Old Z n0 h0) (E_a1 : Exa Z h0 a1 "java/lang/String") (F_v : Fld Z h0 a1 "java/lang/String" "value" "[B" .null) (F_c : Fld Z h0 a1 "java/lang/String" "coder" "B" (.int (0 : Int32))) (g_a1 : n0 ≤ a1) (V2 : Arv Z h0 a2 kc .char (3 : Int32) [(.int x0), (.int x1), (.int x2)] (.int (0 : Int32))) (ne12 : a2 ≠ a1) (hx0 : own_ch x0) (hx1 : own_ch x1) (hx2 : own_ch x2) : own_Met l Z mn3 jdk_42_method_3_code 2 none ws (own_R 5 2 9 74) #[(.ref a1), (.ref a2)] h0 (own_QYI3 Z a1 x0 x1 x2 h0 n0) := by
  refine own_enter n0 (plainFor_of_name own_pn34) (fun m => ef_RR_2 m a1 a2 ) (fun p e s m below meth c s₁ hx hby hlk hml hret hown hnm hZ X0 e0 N0 => ?_)
  show own_Fin _ _ _ _ _ _ _ s₁ (mkF m 0 #[Rv a1, Rv a2] [])
  have Kp207 : Keep h0 h0 [a1] := Keep.refl h0 _
  obtain ⟨cl208, Ar208, -, S208, M208, -, -⟩ := id V2
  refine own_by (fun _ k => XS.aloadN X0.here hx rfl (hb hby d2_0) rfl rfl (XS.aloadN X0.here hx rfl (hb hby d2_1) rfl rfl (XS.iconst X0.here hx rfl (hb hby d2_2) (XS.aloadN X0.here hx rfl (hb hby d2_3) rfl rfl (X0.arraylength hx (by rw [e0]; exact Ar208.1) (State.isArrayOf_alike hZ.alike Ar208.2.1) (g := (mkF m 4 #[Rv a1, Rv a2] [(.ref a2), (.int 0), (.ref a2), (.ref a1)])) rfl rfl (hb hby d2_4) _ k))))) ?_
  rw [len_of S208 M208]
  show own_Fin _ _ _ _ _ _ _ s₁ (mkF m 5 #[Rv a1, Rv a2] [(.int 3), (.int 0), (.ref a2), (.ref a1)])
  obtain ⟨_, _, ⟨T209, L209, k209, n209⟩, -, X209, ⟨Lc209, hQ209, l209, y209, z209⟩, st209⟩ := X0.specialBack hx (y := mn2) rfl hown (own_m hZ hw 13) (own_m hZ hw 14) (own_m hZ hw 16) (by decide) (backOf (W := 0) (rmYI3 l Z a0 hw [] cs gS a1 a2 kc x0 x1 x2 h0 n0 Z0 V_env Od E_a1 F_v F_c g_a1 V2 ne12 hx0 hx1 hx2) hZ (own_g hw 16) (own_g hw 8) (by decide) (by decide)) (g := (mkF m 6 #[Rv a1, Rv a2] [.null, (.int 3), (.int 0), (.ref a2), (.ref a1)])) rfl (by rw [hml]; rfl) (Steps.refl _) (a := a1) (argsL := [(.ref a2), (.int (0 : Int32)), (.int (3 : Int32)), .null]) (rest := []) (lenOf own_pd56 rfl) rfl (own_z rfl) (hb hby d2_6) (fun _ _ => ⟨rfl, e0, (by decide : 0 + 2 ≤ _), (by decide : 0 + 9 ≤ _)⟩)
  dsimp only [Pt.U, Pt.locs, Pt.cells, Pt.slots] at X209 l209 y209 z209 st209 hQ209
  subst l209 y209 z209
  obtain ⟨b209, k209, rfl, Nq209, K209, Gv209, hd209⟩ := hQ209
  have N209 := Fr.app N0 Nq209
  have Zs209 : n0 ≤ T209.heap.size := Nat.le_trans Z0 K209.1
  have Kp209 : Keep h0 T209.heap [a1] := Kp207.trans K209 (allS (Or.inl (List.mem_of_getElem? (i := 0) rfl)) all0)
  have f210_0 : Old Z n0 T209.heap := Od.keep K209 (allS g_a1 all0)
  have f210_1 : Exa Z T209.heap a1 "java/lang/String" := E_a1.keep K209
  have f210_4 : Arv Z T209.heap a2 kc .char (3 : Int32) [(.int x0), (.int x1), (.int x2)] (.int (0 : Int32)) := V2.keep K209 (ninS ne12 nin0)
  refine own_by (fun _ k => XS.aconstNull X0.here hx rfl (hb hby d2_5) (st209.trans k)) ?_
  exact own_retV X209 hx hlk hret (hb hby d2_9) ⟨_, _, rfl, N209, Kp209, Gv209, hd209⟩ (by decide) (by decide)
def own_QrmNBL4 (h0 : Heap) (n0 : Nat) (v : Option Value) (h : Heap) (L : List Loc) : Prop := v = some (.int (8 : Int32)) ∧ Fr n0 L ∧ h = h0
theorem rmNBL4 (l : Launch) (Z : State) (a0 : Array Value) (hw : own_W a0 Z) (ws : List Jvm.Cond)  (h0 : Heap) (n0 : Nat) (Z0 : n0 ≤ h0.size)  : own_Met l Z mn4 jdk_52_method_3_code 1 (some .int) ws (own_R 0 0 0 0) #[(.int (4 : Int32))] h0 (own_QrmNBL4 h0 n0) := by
  refine own_enter n0 (plainFor_of_name own_pn58) (fun m => ef_I_1 m (4 : Int32) ) (fun p e s m below meth c s₁ hx hby hlk hml hret hown hnm hZ X0 e0 N0 => ?_)
  show own_Fin _ _ _ _ _ _ _ s₁ (mkF m 0 #[Iv 4] [])
  refine own_by (fun _ k => XS.iloadN X0.here hx rfl (hb hby d26_0) rfl (XS.ifYes X0.here hx rfl (pc0 := 1) (pc' := 12) rfl (hb hby d26_1) rfl ((if0 _ _).trans (flt (by decide : ¬ ((4 : Int32) < (0 : Int32)))).2.1) (by decide) (by decide) (XS.iloadN X0.here hx rfl (hb hby d26_12) rfl (X0.ldcInt hx hown (own_m hZ hw 110) (g := (mkF m 13 #[Iv 4] [(.int 4)])) rfl (hb hby d26_13) _ (XS.icmpYes X0.here hx rfl (pc0 := 15) (pc' := 55) rfl (hb hby d26_15) rfl (tlt (by decide : (4 : Int32) < (1073741823 : Int32))).1 (by decide) (by decide) (XS.iloadN X0.here hx rfl (hb hby d26_55) rfl (XS.iconst X0.here hx rfl (hb hby d26_56) (XS.ishl X0.here hx rfl (hb hby d26_57) rfl k)))))))) ?_
  show own_Fin _ _ _ _ _ _ _ s₁ (mkF m 58 #[Iv 4] [(.int ((4 : Int32) <<< ((1 : Int32) &&& 31)))])
  rw [(by decide : ((4 : Int32) <<< ((1 : Int32) &&& 31)) = (8 : Int32))]
  show own_Fin _ _ _ _ _ _ _ s₁ (mkF m 58 #[Iv 4] [(.int 8)])
  exact own_retI X0 hx hlk hret (hb hby d26_58) ⟨rfl, N0, e0⟩ (by decide) (by decide)
def own_QNBF4 (Z : State) (h0 : Heap) (n0 : Nat) (v : Option Value) (h : Heap) (L : List Loc) : Prop := ∃ (a : Addr) (k : ClassId), v = some (.ref a) ∧ Fr n0 L ∧ Keep h0 h [] ∧ h0.size ≤ a ∧ Arv Z h a k .byte (8 : Int32) [(.int (0 : Int32)), (.int (0 : Int32)), (.int (0 : Int32)), (.int (0 : Int32)), (.int (0 : Int32)), (.int (0 : Int32)), (.int (0 : Int32)), (.int (0 : Int32))] (.int (0 : Int32))
theorem rmNBF4 (l : Launch) (Z : State) (a0 : Array Value) (hw : own_W a0 Z) (ws : List Jvm.Cond)  (h0 : Heap) (n0 : Nat) (Z0 : n0 ≤ h0.size)  : own_Met l Z mn5 jdk_52_method_2_code 1 (some (.array .byte)) ws (own_R 1 1 8 12) #[(.int (4 : Int32))] h0 (own_QNBF4 Z h0 n0) := by
  refine own_enter n0 (plainFor_of_name own_pn58) (fun m => ef_I_1 m (4 : Int32) ) (fun p e s m below meth c s₁ hx hby hlk hml hret hown hnm hZ X0 e0 N0 => ?_)
  show own_Fin _ _ _ _ _ _ _ s₁ (mkF m 0 #[Iv 4] [])
  have Kp211 : Keep h0 h0 [] := Keep.refl h0 _
  obtain ⟨_, _, ⟨T212, L212, k212, n212⟩, -, X212, ⟨Lc212, hQ212, l212, y212, z212⟩, st212⟩ := LawKit.callS X0 hx (y := mn4) hown (own_m hZ hw 107) (own_m hZ hw 108) (own_m hZ hw 74) (own_m hZ hw 109) (by decide) (backOf (W := 0) (rmNBL4 l Z a0 hw []  h0 n0 Z0 ) hZ (own_g hw 109) (own_g hw 74) (by decide) (by decide)) (g := (mkF m 1 #[Iv 4] [(.int 4)])) rfl (by rw [hml]; rfl) (argsL := [(.int (4 : Int32))]) (rest := []) (lenOf own_pd70 rfl) rfl (own_z rfl) (hb hby d25_1) (fun _ _ => ⟨rfl, e0, (by decide : 0 + 0 ≤ _), (by decide : 0 + 0 ≤ _)⟩)
  dsimp only [Pt.U, Pt.locs, Pt.cells, Pt.slots] at X212 l212 y212 z212 st212 hQ212
  subst l212 y212 z212
  obtain ⟨rfl, Nq212, eh212⟩ := hQ212
  have N212 := Fr.app N0 Nq212
  obtain ⟨T213, h213, k213, X213, e213, E213, A213, st213⟩ := newP X212 hx hZ (own_g hw 21) eh212 (g := (mkF m 4 #[Iv 4] [(.int 8)])) rfl (hb hby d25_4) rfl (by decide) (cap := 8) (by decide) (by decide) (by decide) (by decide)
  obtain ⟨b213, g213⟩ : ∃ z, z = h0.size := ⟨_, rfl⟩
  rw [← g213] at A213 st213
  have V213 : Arv Z h213 b213 k213 .byte (8 : Int32) [(.int (0 : Int32)), (.int (0 : Int32)), (.int (0 : Int32)), (.int (0 : Int32)), (.int (0 : Int32)), (.int (0 : Int32)), (.int (0 : Int32)), (.int (0 : Int32))] (.int (0 : Int32)) := (Arv.new A213 (by decide)).pad (pad_rep [] (.int (0 : Int32)) 8)
  have gf213 : n0 ≤ b213 := Nat.le_trans Z0 (Nat.le_of_eq g213.symm)
  have Zs213 : n0 ≤ h213.size := Nat.le_trans Z0 E213.1
  have Kp213 : Keep h0 h213 [] := Kp211.ext E213
  have sz_b213 : h0.size ≤ b213 := Nat.le_trans Kp211.1 (Nat.le_of_eq g213.symm)
  refine own_by (fun _ k => XS.iloadN X0.here hx rfl (hb hby d25_0) rfl (st212 _ (st213 _ k))) ?_
  exact own_retA X213 hx hlk (t := (.array .byte)) hret rfl rfl rfl (hb hby d25_6) (by rw [e213]; exact ⟨_, _, rfl, N212, Kp213, sz_b213, V213⟩) (by decide) (by decide)
def own_QPC4_0 (Z : State) (a1 : Addr) (k1 : ClassId) (cc : Int32) (w0 w1 w2 w3 w4 w5 w6 w7 : Int32) (h0 : Heap) (n0 : Nat) (v : Option Value) (h : Heap) (L : List Loc) : Prop := v = none ∧ Fr n0 L ∧ Keep h0 h [a1] ∧ Arv Z h a1 k1 .byte (8 : Int32) [(.int (own_lo cc)), (.int (own_hi cc)), (.int w2), (.int w3), (.int w4), (.int w5), (.int w6), (.int w7)] (.int (0 : Int32))
set_option maxRecDepth 65536 in
set_option maxHeartbeats 40000000 in
theorem rmPC4_0 (l : Launch) (Z : State) (a0 : Array Value) (hw : own_W a0 Z) (ws : List Jvm.Cond) (cs : Int32) (gS : Value) (a1 : Addr) (k1 : ClassId) (cc : Int32) (w0 w1 w2 w3 w4 w5 w6 w7 : Int32) (h0 : Heap) (n0 : Nat) (Z0 : n0 ≤ h0.size) (V_env : own_Env Z cs gS) (Od : Old Z n0 h0) (V1 : Arv Z h0 a1 k1 .byte (8 : Int32) [(.int w0), (.int w1), (.int w2), (.int w3), (.int w4), (.int w5), (.int w6), (.int w7)] (.int (0 : Int32))) (g_1 : n0 ≤ a1) : own_Met l Z mn6 jdk_52_method_4_code 3 none ws (own_R 0 0 0 0) #[(.ref a1), (.int (0 : Int32)), (.int cc)] h0 (own_QPC4_0 Z a1 k1 cc w0 w1 w2 w3 w4 w5 w6 w7 h0 n0) := by
  refine own_enter n0 (plainFor_of_name own_pn58) (fun m => ef_RII_3 m a1 (0 : Int32) cc ) (fun p e s m below meth c s₁ hx hby hlk hml hret hown hnm hZ X0 e0 N0 => ?_)
  show own_Fin _ _ _ _ _ _ _ s₁ (mkF m 0 #[Rv a1, Iv 0, Iv cc] [])
  have Kp215 : Keep h0 h0 [a1] := Keep.refl h0 _
  obtain ⟨T216, X216, e216, st216⟩ := getS2 X0 hx hZ hown (host := "") (Or.inl (own_g hw 114)) Via.refl e0 (V_env.1.ext Od.2) (g := (mkF m 0 #[Rv a1, Iv 0, Iv cc] [])) rfl (hb hby d27_0)
  refine own_by (fun _ k => st216 _ (XS.ifYes X216.here hx rfl (pc0 := 3) (pc' := 28) rfl (hb hby d27_3) rfl ((if0 _ _).trans (feq (by decide : ¬ ((1 : Int32) = (0 : Int32)))).2) (by decide) (by decide) (XS.iloadN X216.here hx rfl (hb hby d27_28) rfl (XS.iconst X216.here hx rfl (hb hby d27_29) (XS.ishl X216.here hx rfl (hb hby d27_30) rfl k))))) ?_
  show own_Fin _ _ _ _ _ _ _ T216 (mkF m 31 #[Rv a1, Iv 0, Iv cc] [(.int ((0 : Int32) <<< ((1 : Int32) &&& 31)))])
  rw [(by decide : ((0 : Int32) <<< ((1 : Int32) &&& 31)) = (0 : Int32))]
  show own_Fin _ _ _ _ _ _ _ T216 (mkF m 31 #[Rv a1, Iv 0, Iv cc] [(.int 0)])
  refine own_by (fun _ k => XS.istoreN X216.here hx rfl (hb hby d27_31) rfl (l' := #[Rv a1, Iv 0, Iv cc]) rfl (XS.aloadN X216.here hx rfl (hb hby d27_32) rfl rfl (XS.iloadN X216.here hx rfl (hb hby d27_33) rfl (XS.iinc X216.here hx rfl (hb hby d27_34) rfl (l' := #[Rv a1, Iv ((0 : Int32) + (1 : Int32)), Iv cc]) rfl k)))) ?_
  show own_Fin _ _ _ _ _ _ _ T216 (mkF m 37 #[Rv a1, Iv ((0 : Int32) + (1 : Int32)), Iv cc] [(.int 0), (.ref a1)])
  rw [(by decide : ((0 : Int32) + (1 : Int32)) = (1 : Int32))]
  show own_Fin _ _ _ _ _ _ _ T216 (mkF m 37 #[Rv a1, Iv 1, Iv cc] [(.int 0), (.ref a1)])
  obtain ⟨T217, X217, e217, st217⟩ := getS2 X216 hx hZ hown (host := "") (Or.inl (own_g hw 115)) Via.refl e216 (V_env.2.1.ext Od.2) (g := (mkF m 38 #[Rv a1, Iv 1, Iv cc] [(.int cc), (.int 0), (.ref a1)])) rfl (hb hby d27_38)
  obtain ⟨cl218, Ar218, q218, S218, M218, H218, G218⟩ := id V1
  have hin218 : ¬ ((0 : Int32) < 0 ∨ cl218.slots.size ≤ ((0 : Int32)).toNatClampNeg) := inb_of S218 ⟨by decide, by decide⟩
  obtain ⟨T218, h218, X218, e218, W218, st218⟩ := stB X217 hx hZ e217 Ar218 (j := (0 : Int32)) hin218 (g := (mkF m 43 #[Rv a1, Iv 1, Iv cc] [(.int ((cc >>> ((0 : Int32) &&& 31)).toInt8.toInt32)), (.int 0), (.ref a1)])) rfl rfl (hb hby d27_43)
  have V218 : Arv Z h218 a1 k1 .byte (8 : Int32) [(.int ((cc >>> ((0 : Int32) &&& 31)).toInt8.toInt32).toInt8.toInt32), (.int w1), (.int w2), (.int w3), (.int w4), (.int w5), (.int w6), (.int w7)] (.int (0 : Int32)) := Arv.set Ar218 q218 S218 M218 H218 G218 (fits_nar_byte _) W218 0 rfl (Nat.le_of_ble_eq_true rfl)
  have Kp218 : Keep h0 h218 [a1] := Kp215.wr W218 (Or.inl (List.mem_of_getElem? (i := 0) rfl))
  have Zs218 : n0 ≤ h218.size := Nat.le_trans Z0 (Keep.of_wr W218).1
  have N218 := Fr.snoc X218 N0 g_1
  have f219_0 : Old Z n0 h218 := Od.wr W218 g_1
  obtain ⟨T220, X220, e220, st220⟩ := getS2 X218 hx hZ hown (host := "") (Or.inl (own_g hw 116)) Via.refl e218 (V_env.2.2.1.ext f219_0.2) (g := (mkF m 47 #[Rv a1, Iv 1, Iv cc] [(.int cc), (.int 1), (.ref a1)])) rfl (hb hby d27_47)
  refine own_by (fun _ k => XS.iloadN X216.here hx rfl (hb hby d27_37) rfl (st217 _ (XS.ishr X217.here hx rfl (hb hby d27_41) rfl (XS.i2b X217.here hx rfl (hb hby d27_42) rfl (st218 _ (XS.aloadN X218.here hx rfl (hb hby d27_44) rfl rfl (XS.iloadN X218.here hx rfl (hb hby d27_45) rfl (XS.iloadN X218.here hx rfl (hb hby d27_46) rfl (st220 _ (XS.ishr X220.here hx rfl (hb hby d27_50) rfl k)))))))))) ?_
  show own_Fin _ _ _ _ _ _ _ T220 (mkF m 51 #[Rv a1, Iv 1, Iv cc] [(.int (cc >>> ((8 : Int32) &&& 31))), (.int 1), (.ref a1)])
  obtain ⟨cl221, Ar221, q221, S221, M221, H221, G221⟩ := id V218
  have hin221 : ¬ ((1 : Int32) < 0 ∨ cl221.slots.size ≤ ((1 : Int32)).toNatClampNeg) := inb_of S221 ⟨by decide, by decide⟩
  obtain ⟨T221, h221, X221, e221, W221, st221⟩ := stB X220 hx hZ e220 Ar221 (j := (1 : Int32)) hin221 (g := (mkF m 52 #[Rv a1, Iv 1, Iv cc] [(.int ((cc >>> ((8 : Int32) &&& 31)).toInt8.toInt32)), (.int 1), (.ref a1)])) rfl rfl (hb hby d27_52)
  have V221 : Arv Z h221 a1 k1 .byte (8 : Int32) [(.int ((cc >>> ((0 : Int32) &&& 31)).toInt8.toInt32).toInt8.toInt32), (.int ((cc >>> ((8 : Int32) &&& 31)).toInt8.toInt32).toInt8.toInt32), (.int w2), (.int w3), (.int w4), (.int w5), (.int w6), (.int w7)] (.int (0 : Int32)) := Arv.set Ar221 q221 S221 M221 H221 G221 (fits_nar_byte _) W221 1 rfl (Nat.le_of_ble_eq_true rfl)
  have Kp221 : Keep h0 h221 [a1] := Kp218.wr W221 (Or.inl (List.mem_of_getElem? (i := 0) rfl))
  have Zs221 : n0 ≤ h221.size := Nat.le_trans Zs218 (Keep.of_wr W221).1
  have N221 := Fr.snoc X221 N218 g_1
  have f222_0 : Old Z n0 h221 := f219_0.wr W221 g_1
  refine own_by (fun _ k => XS.i2b X220.here hx rfl (hb hby d27_51) rfl (st221 _ k)) ?_
  exact own_retV X221 hx hlk hret (hb hby d27_53) (by rw [e221]; exact ⟨rfl, N221, Kp221, (by have q := V221; simp only [own_b8] at q; exact q)⟩) (by decide) (by decide)
def own_QPC4_1 (Z : State) (a1 : Addr) (k1 : ClassId) (cc : Int32) (w0 w1 w2 w3 w4 w5 w6 w7 : Int32) (h0 : Heap) (n0 : Nat) (v : Option Value) (h : Heap) (L : List Loc) : Prop := v = none ∧ Fr n0 L ∧ Keep h0 h [a1] ∧ Arv Z h a1 k1 .byte (8 : Int32) [(.int w0), (.int w1), (.int (own_lo cc)), (.int (own_hi cc)), (.int w4), (.int w5), (.int w6), (.int w7)] (.int (0 : Int32))
set_option maxRecDepth 65536 in
set_option maxHeartbeats 40000000 in
theorem rmPC4_1 (l : Launch) (Z : State) (a0 : Array Value) (hw : own_W a0 Z) (ws : List Jvm.Cond) (cs : Int32) (gS : Value) (a1 : Addr) (k1 : ClassId) (cc : Int32) (w0 w1 w2 w3 w4 w5 w6 w7 : Int32) (h0 : Heap) (n0 : Nat) (Z0 : n0 ≤ h0.size) (V_env : own_Env Z cs gS) (Od : Old Z n0 h0) (V1 : Arv Z h0 a1 k1 .byte (8 : Int32) [(.int w0), (.int w1), (.int w2), (.int w3), (.int w4), (.int w5), (.int w6), (.int w7)] (.int (0 : Int32))) (g_1 : n0 ≤ a1) : own_Met l Z mn6 jdk_52_method_4_code 3 none ws (own_R 0 0 0 0) #[(.ref a1), (.int (1 : Int32)), (.int cc)] h0 (own_QPC4_1 Z a1 k1 cc w0 w1 w2 w3 w4 w5 w6 w7 h0 n0) := by
  refine own_enter n0 (plainFor_of_name own_pn58) (fun m => ef_RII_3 m a1 (1 : Int32) cc ) (fun p e s m below meth c s₁ hx hby hlk hml hret hown hnm hZ X0 e0 N0 => ?_)
  show own_Fin _ _ _ _ _ _ _ s₁ (mkF m 0 #[Rv a1, Iv 1, Iv cc] [])
  have Kp223 : Keep h0 h0 [a1] := Keep.refl h0 _
  obtain ⟨T224, X224, e224, st224⟩ := getS2 X0 hx hZ hown (host := "") (Or.inl (own_g hw 114)) Via.refl e0 (V_env.1.ext Od.2) (g := (mkF m 0 #[Rv a1, Iv 1, Iv cc] [])) rfl (hb hby d27_0)
  refine own_by (fun _ k => st224 _ (XS.ifYes X224.here hx rfl (pc0 := 3) (pc' := 28) rfl (hb hby d27_3) rfl ((if0 _ _).trans (feq (by decide : ¬ ((1 : Int32) = (0 : Int32)))).2) (by decide) (by decide) (XS.iloadN X224.here hx rfl (hb hby d27_28) rfl (XS.iconst X224.here hx rfl (hb hby d27_29) (XS.ishl X224.here hx rfl (hb hby d27_30) rfl k))))) ?_
  show own_Fin _ _ _ _ _ _ _ T224 (mkF m 31 #[Rv a1, Iv 1, Iv cc] [(.int ((1 : Int32) <<< ((1 : Int32) &&& 31)))])
  rw [(by decide : ((1 : Int32) <<< ((1 : Int32) &&& 31)) = (2 : Int32))]
  show own_Fin _ _ _ _ _ _ _ T224 (mkF m 31 #[Rv a1, Iv 1, Iv cc] [(.int 2)])
  refine own_by (fun _ k => XS.istoreN X224.here hx rfl (hb hby d27_31) rfl (l' := #[Rv a1, Iv 2, Iv cc]) rfl (XS.aloadN X224.here hx rfl (hb hby d27_32) rfl rfl (XS.iloadN X224.here hx rfl (hb hby d27_33) rfl (XS.iinc X224.here hx rfl (hb hby d27_34) rfl (l' := #[Rv a1, Iv ((2 : Int32) + (1 : Int32)), Iv cc]) rfl k)))) ?_
  show own_Fin _ _ _ _ _ _ _ T224 (mkF m 37 #[Rv a1, Iv ((2 : Int32) + (1 : Int32)), Iv cc] [(.int 2), (.ref a1)])
  rw [(by decide : ((2 : Int32) + (1 : Int32)) = (3 : Int32))]
  show own_Fin _ _ _ _ _ _ _ T224 (mkF m 37 #[Rv a1, Iv 3, Iv cc] [(.int 2), (.ref a1)])
  obtain ⟨T225, X225, e225, st225⟩ := getS2 X224 hx hZ hown (host := "") (Or.inl (own_g hw 115)) Via.refl e224 (V_env.2.1.ext Od.2) (g := (mkF m 38 #[Rv a1, Iv 3, Iv cc] [(.int cc), (.int 2), (.ref a1)])) rfl (hb hby d27_38)
  obtain ⟨cl226, Ar226, q226, S226, M226, H226, G226⟩ := id V1
  have hin226 : ¬ ((2 : Int32) < 0 ∨ cl226.slots.size ≤ ((2 : Int32)).toNatClampNeg) := inb_of S226 ⟨by decide, by decide⟩
  obtain ⟨T226, h226, X226, e226, W226, st226⟩ := stB X225 hx hZ e225 Ar226 (j := (2 : Int32)) hin226 (g := (mkF m 43 #[Rv a1, Iv 3, Iv cc] [(.int ((cc >>> ((0 : Int32) &&& 31)).toInt8.toInt32)), (.int 2), (.ref a1)])) rfl rfl (hb hby d27_43)
  have V226 : Arv Z h226 a1 k1 .byte (8 : Int32) [(.int w0), (.int w1), (.int ((cc >>> ((0 : Int32) &&& 31)).toInt8.toInt32).toInt8.toInt32), (.int w3), (.int w4), (.int w5), (.int w6), (.int w7)] (.int (0 : Int32)) := Arv.set Ar226 q226 S226 M226 H226 G226 (fits_nar_byte _) W226 2 rfl (Nat.le_of_ble_eq_true rfl)
  have Kp226 : Keep h0 h226 [a1] := Kp223.wr W226 (Or.inl (List.mem_of_getElem? (i := 0) rfl))
  have Zs226 : n0 ≤ h226.size := Nat.le_trans Z0 (Keep.of_wr W226).1
  have N226 := Fr.snoc X226 N0 g_1
  have f227_0 : Old Z n0 h226 := Od.wr W226 g_1
  obtain ⟨T228, X228, e228, st228⟩ := getS2 X226 hx hZ hown (host := "") (Or.inl (own_g hw 116)) Via.refl e226 (V_env.2.2.1.ext f227_0.2) (g := (mkF m 47 #[Rv a1, Iv 3, Iv cc] [(.int cc), (.int 3), (.ref a1)])) rfl (hb hby d27_47)
  refine own_by (fun _ k => XS.iloadN X224.here hx rfl (hb hby d27_37) rfl (st225 _ (XS.ishr X225.here hx rfl (hb hby d27_41) rfl (XS.i2b X225.here hx rfl (hb hby d27_42) rfl (st226 _ (XS.aloadN X226.here hx rfl (hb hby d27_44) rfl rfl (XS.iloadN X226.here hx rfl (hb hby d27_45) rfl (XS.iloadN X226.here hx rfl (hb hby d27_46) rfl (st228 _ (XS.ishr X228.here hx rfl (hb hby d27_50) rfl k)))))))))) ?_
  show own_Fin _ _ _ _ _ _ _ T228 (mkF m 51 #[Rv a1, Iv 3, Iv cc] [(.int (cc >>> ((8 : Int32) &&& 31))), (.int 3), (.ref a1)])
  obtain ⟨cl229, Ar229, q229, S229, M229, H229, G229⟩ := id V226
  have hin229 : ¬ ((3 : Int32) < 0 ∨ cl229.slots.size ≤ ((3 : Int32)).toNatClampNeg) := inb_of S229 ⟨by decide, by decide⟩
  obtain ⟨T229, h229, X229, e229, W229, st229⟩ := stB X228 hx hZ e228 Ar229 (j := (3 : Int32)) hin229 (g := (mkF m 52 #[Rv a1, Iv 3, Iv cc] [(.int ((cc >>> ((8 : Int32) &&& 31)).toInt8.toInt32)), (.int 3), (.ref a1)])) rfl rfl (hb hby d27_52)
  have V229 : Arv Z h229 a1 k1 .byte (8 : Int32) [(.int w0), (.int w1), (.int ((cc >>> ((0 : Int32) &&& 31)).toInt8.toInt32).toInt8.toInt32), (.int ((cc >>> ((8 : Int32) &&& 31)).toInt8.toInt32).toInt8.toInt32), (.int w4), (.int w5), (.int w6), (.int w7)] (.int (0 : Int32)) := Arv.set Ar229 q229 S229 M229 H229 G229 (fits_nar_byte _) W229 3 rfl (Nat.le_of_ble_eq_true rfl)
  have Kp229 : Keep h0 h229 [a1] := Kp226.wr W229 (Or.inl (List.mem_of_getElem? (i := 0) rfl))
  have Zs229 : n0 ≤ h229.size := Nat.le_trans Zs226 (Keep.of_wr W229).1
  have N229 := Fr.snoc X229 N226 g_1
  have f230_0 : Old Z n0 h229 := f227_0.wr W229 g_1
  refine own_by (fun _ k => XS.i2b X228.here hx rfl (hb hby d27_51) rfl (st229 _ k)) ?_
  exact own_retV X229 hx hlk hret (hb hby d27_53) (by rw [e229]; exact ⟨rfl, N229, Kp229, (by have q := V229; simp only [own_b8] at q; exact q)⟩) (by decide) (by decide)
def own_QPC4_2 (Z : State) (a1 : Addr) (k1 : ClassId) (cc : Int32) (w0 w1 w2 w3 w4 w5 w6 w7 : Int32) (h0 : Heap) (n0 : Nat) (v : Option Value) (h : Heap) (L : List Loc) : Prop := v = none ∧ Fr n0 L ∧ Keep h0 h [a1] ∧ Arv Z h a1 k1 .byte (8 : Int32) [(.int w0), (.int w1), (.int w2), (.int w3), (.int (own_lo cc)), (.int (own_hi cc)), (.int w6), (.int w7)] (.int (0 : Int32))
set_option maxRecDepth 65536 in
set_option maxHeartbeats 40000000 in
theorem rmPC4_2 (l : Launch) (Z : State) (a0 : Array Value) (hw : own_W a0 Z) (ws : List Jvm.Cond) (cs : Int32) (gS : Value) (a1 : Addr) (k1 : ClassId) (cc : Int32) (w0 w1 w2 w3 w4 w5 w6 w7 : Int32) (h0 : Heap) (n0 : Nat) (Z0 : n0 ≤ h0.size) (V_env : own_Env Z cs gS) (Od : Old Z n0 h0) (V1 : Arv Z h0 a1 k1 .byte (8 : Int32) [(.int w0), (.int w1), (.int w2), (.int w3), (.int w4), (.int w5), (.int w6), (.int w7)] (.int (0 : Int32))) (g_1 : n0 ≤ a1) : own_Met l Z mn6 jdk_52_method_4_code 3 none ws (own_R 0 0 0 0) #[(.ref a1), (.int (2 : Int32)), (.int cc)] h0 (own_QPC4_2 Z a1 k1 cc w0 w1 w2 w3 w4 w5 w6 w7 h0 n0) := by
  refine own_enter n0 (plainFor_of_name own_pn58) (fun m => ef_RII_3 m a1 (2 : Int32) cc ) (fun p e s m below meth c s₁ hx hby hlk hml hret hown hnm hZ X0 e0 N0 => ?_)
  show own_Fin _ _ _ _ _ _ _ s₁ (mkF m 0 #[Rv a1, Iv 2, Iv cc] [])
  have Kp231 : Keep h0 h0 [a1] := Keep.refl h0 _
  obtain ⟨T232, X232, e232, st232⟩ := getS2 X0 hx hZ hown (host := "") (Or.inl (own_g hw 114)) Via.refl e0 (V_env.1.ext Od.2) (g := (mkF m 0 #[Rv a1, Iv 2, Iv cc] [])) rfl (hb hby d27_0)
  refine own_by (fun _ k => st232 _ (XS.ifYes X232.here hx rfl (pc0 := 3) (pc' := 28) rfl (hb hby d27_3) rfl ((if0 _ _).trans (feq (by decide : ¬ ((1 : Int32) = (0 : Int32)))).2) (by decide) (by decide) (XS.iloadN X232.here hx rfl (hb hby d27_28) rfl (XS.iconst X232.here hx rfl (hb hby d27_29) (XS.ishl X232.here hx rfl (hb hby d27_30) rfl k))))) ?_
  show own_Fin _ _ _ _ _ _ _ T232 (mkF m 31 #[Rv a1, Iv 2, Iv cc] [(.int ((2 : Int32) <<< ((1 : Int32) &&& 31)))])
  rw [(by decide : ((2 : Int32) <<< ((1 : Int32) &&& 31)) = (4 : Int32))]
  show own_Fin _ _ _ _ _ _ _ T232 (mkF m 31 #[Rv a1, Iv 2, Iv cc] [(.int 4)])
  refine own_by (fun _ k => XS.istoreN X232.here hx rfl (hb hby d27_31) rfl (l' := #[Rv a1, Iv 4, Iv cc]) rfl (XS.aloadN X232.here hx rfl (hb hby d27_32) rfl rfl (XS.iloadN X232.here hx rfl (hb hby d27_33) rfl (XS.iinc X232.here hx rfl (hb hby d27_34) rfl (l' := #[Rv a1, Iv ((4 : Int32) + (1 : Int32)), Iv cc]) rfl k)))) ?_
  show own_Fin _ _ _ _ _ _ _ T232 (mkF m 37 #[Rv a1, Iv ((4 : Int32) + (1 : Int32)), Iv cc] [(.int 4), (.ref a1)])
  rw [(by decide : ((4 : Int32) + (1 : Int32)) = (5 : Int32))]
  show own_Fin _ _ _ _ _ _ _ T232 (mkF m 37 #[Rv a1, Iv 5, Iv cc] [(.int 4), (.ref a1)])
  obtain ⟨T233, X233, e233, st233⟩ := getS2 X232 hx hZ hown (host := "") (Or.inl (own_g hw 115)) Via.refl e232 (V_env.2.1.ext Od.2) (g := (mkF m 38 #[Rv a1, Iv 5, Iv cc] [(.int cc), (.int 4), (.ref a1)])) rfl (hb hby d27_38)
  obtain ⟨cl234, Ar234, q234, S234, M234, H234, G234⟩ := id V1
  have hin234 : ¬ ((4 : Int32) < 0 ∨ cl234.slots.size ≤ ((4 : Int32)).toNatClampNeg) := inb_of S234 ⟨by decide, by decide⟩
  obtain ⟨T234, h234, X234, e234, W234, st234⟩ := stB X233 hx hZ e233 Ar234 (j := (4 : Int32)) hin234 (g := (mkF m 43 #[Rv a1, Iv 5, Iv cc] [(.int ((cc >>> ((0 : Int32) &&& 31)).toInt8.toInt32)), (.int 4), (.ref a1)])) rfl rfl (hb hby d27_43)
  have V234 : Arv Z h234 a1 k1 .byte (8 : Int32) [(.int w0), (.int w1), (.int w2), (.int w3), (.int ((cc >>> ((0 : Int32) &&& 31)).toInt8.toInt32).toInt8.toInt32), (.int w5), (.int w6), (.int w7)] (.int (0 : Int32)) := Arv.set Ar234 q234 S234 M234 H234 G234 (fits_nar_byte _) W234 4 rfl (Nat.le_of_ble_eq_true rfl)
  have Kp234 : Keep h0 h234 [a1] := Kp231.wr W234 (Or.inl (List.mem_of_getElem? (i := 0) rfl))
  have Zs234 : n0 ≤ h234.size := Nat.le_trans Z0 (Keep.of_wr W234).1
  have N234 := Fr.snoc X234 N0 g_1
  have f235_0 : Old Z n0 h234 := Od.wr W234 g_1
  obtain ⟨T236, X236, e236, st236⟩ := getS2 X234 hx hZ hown (host := "") (Or.inl (own_g hw 116)) Via.refl e234 (V_env.2.2.1.ext f235_0.2) (g := (mkF m 47 #[Rv a1, Iv 5, Iv cc] [(.int cc), (.int 5), (.ref a1)])) rfl (hb hby d27_47)
  refine own_by (fun _ k => XS.iloadN X232.here hx rfl (hb hby d27_37) rfl (st233 _ (XS.ishr X233.here hx rfl (hb hby d27_41) rfl (XS.i2b X233.here hx rfl (hb hby d27_42) rfl (st234 _ (XS.aloadN X234.here hx rfl (hb hby d27_44) rfl rfl (XS.iloadN X234.here hx rfl (hb hby d27_45) rfl (XS.iloadN X234.here hx rfl (hb hby d27_46) rfl (st236 _ (XS.ishr X236.here hx rfl (hb hby d27_50) rfl k)))))))))) ?_
  show own_Fin _ _ _ _ _ _ _ T236 (mkF m 51 #[Rv a1, Iv 5, Iv cc] [(.int (cc >>> ((8 : Int32) &&& 31))), (.int 5), (.ref a1)])
  obtain ⟨cl237, Ar237, q237, S237, M237, H237, G237⟩ := id V234
  have hin237 : ¬ ((5 : Int32) < 0 ∨ cl237.slots.size ≤ ((5 : Int32)).toNatClampNeg) := inb_of S237 ⟨by decide, by decide⟩
  obtain ⟨T237, h237, X237, e237, W237, st237⟩ := stB X236 hx hZ e236 Ar237 (j := (5 : Int32)) hin237 (g := (mkF m 52 #[Rv a1, Iv 5, Iv cc] [(.int ((cc >>> ((8 : Int32) &&& 31)).toInt8.toInt32)), (.int 5), (.ref a1)])) rfl rfl (hb hby d27_52)
  have V237 : Arv Z h237 a1 k1 .byte (8 : Int32) [(.int w0), (.int w1), (.int w2), (.int w3), (.int ((cc >>> ((0 : Int32) &&& 31)).toInt8.toInt32).toInt8.toInt32), (.int ((cc >>> ((8 : Int32) &&& 31)).toInt8.toInt32).toInt8.toInt32), (.int w6), (.int w7)] (.int (0 : Int32)) := Arv.set Ar237 q237 S237 M237 H237 G237 (fits_nar_byte _) W237 5 rfl (Nat.le_of_ble_eq_true rfl)
  have Kp237 : Keep h0 h237 [a1] := Kp234.wr W237 (Or.inl (List.mem_of_getElem? (i := 0) rfl))
  have Zs237 : n0 ≤ h237.size := Nat.le_trans Zs234 (Keep.of_wr W237).1
  have N237 := Fr.snoc X237 N234 g_1
  have f238_0 : Old Z n0 h237 := f235_0.wr W237 g_1
  refine own_by (fun _ k => XS.i2b X236.here hx rfl (hb hby d27_51) rfl (st237 _ k)) ?_
  exact own_retV X237 hx hlk hret (hb hby d27_53) (by rw [e237]; exact ⟨rfl, N237, Kp237, (by have q := V237; simp only [own_b8] at q; exact q)⟩) (by decide) (by decide)
def own_QPC4_3 (Z : State) (a1 : Addr) (k1 : ClassId) (cc : Int32) (w0 w1 w2 w3 w4 w5 w6 w7 : Int32) (h0 : Heap) (n0 : Nat) (v : Option Value) (h : Heap) (L : List Loc) : Prop := v = none ∧ Fr n0 L ∧ Keep h0 h [a1] ∧ Arv Z h a1 k1 .byte (8 : Int32) [(.int w0), (.int w1), (.int w2), (.int w3), (.int w4), (.int w5), (.int (own_lo cc)), (.int (own_hi cc))] (.int (0 : Int32))
set_option maxRecDepth 65536 in
set_option maxHeartbeats 40000000 in
theorem rmPC4_3 (l : Launch) (Z : State) (a0 : Array Value) (hw : own_W a0 Z) (ws : List Jvm.Cond) (cs : Int32) (gS : Value) (a1 : Addr) (k1 : ClassId) (cc : Int32) (w0 w1 w2 w3 w4 w5 w6 w7 : Int32) (h0 : Heap) (n0 : Nat) (Z0 : n0 ≤ h0.size) (V_env : own_Env Z cs gS) (Od : Old Z n0 h0) (V1 : Arv Z h0 a1 k1 .byte (8 : Int32) [(.int w0), (.int w1), (.int w2), (.int w3), (.int w4), (.int w5), (.int w6), (.int w7)] (.int (0 : Int32))) (g_1 : n0 ≤ a1) : own_Met l Z mn6 jdk_52_method_4_code 3 none ws (own_R 0 0 0 0) #[(.ref a1), (.int (3 : Int32)), (.int cc)] h0 (own_QPC4_3 Z a1 k1 cc w0 w1 w2 w3 w4 w5 w6 w7 h0 n0) := by
  refine own_enter n0 (plainFor_of_name own_pn58) (fun m => ef_RII_3 m a1 (3 : Int32) cc ) (fun p e s m below meth c s₁ hx hby hlk hml hret hown hnm hZ X0 e0 N0 => ?_)
  show own_Fin _ _ _ _ _ _ _ s₁ (mkF m 0 #[Rv a1, Iv 3, Iv cc] [])
  have Kp239 : Keep h0 h0 [a1] := Keep.refl h0 _
  obtain ⟨T240, X240, e240, st240⟩ := getS2 X0 hx hZ hown (host := "") (Or.inl (own_g hw 114)) Via.refl e0 (V_env.1.ext Od.2) (g := (mkF m 0 #[Rv a1, Iv 3, Iv cc] [])) rfl (hb hby d27_0)
  refine own_by (fun _ k => st240 _ (XS.ifYes X240.here hx rfl (pc0 := 3) (pc' := 28) rfl (hb hby d27_3) rfl ((if0 _ _).trans (feq (by decide : ¬ ((1 : Int32) = (0 : Int32)))).2) (by decide) (by decide) (XS.iloadN X240.here hx rfl (hb hby d27_28) rfl (XS.iconst X240.here hx rfl (hb hby d27_29) (XS.ishl X240.here hx rfl (hb hby d27_30) rfl k))))) ?_
  show own_Fin _ _ _ _ _ _ _ T240 (mkF m 31 #[Rv a1, Iv 3, Iv cc] [(.int ((3 : Int32) <<< ((1 : Int32) &&& 31)))])
  rw [(by decide : ((3 : Int32) <<< ((1 : Int32) &&& 31)) = (6 : Int32))]
  show own_Fin _ _ _ _ _ _ _ T240 (mkF m 31 #[Rv a1, Iv 3, Iv cc] [(.int 6)])
  refine own_by (fun _ k => XS.istoreN X240.here hx rfl (hb hby d27_31) rfl (l' := #[Rv a1, Iv 6, Iv cc]) rfl (XS.aloadN X240.here hx rfl (hb hby d27_32) rfl rfl (XS.iloadN X240.here hx rfl (hb hby d27_33) rfl (XS.iinc X240.here hx rfl (hb hby d27_34) rfl (l' := #[Rv a1, Iv ((6 : Int32) + (1 : Int32)), Iv cc]) rfl k)))) ?_
  show own_Fin _ _ _ _ _ _ _ T240 (mkF m 37 #[Rv a1, Iv ((6 : Int32) + (1 : Int32)), Iv cc] [(.int 6), (.ref a1)])
  rw [(by decide : ((6 : Int32) + (1 : Int32)) = (7 : Int32))]
  show own_Fin _ _ _ _ _ _ _ T240 (mkF m 37 #[Rv a1, Iv 7, Iv cc] [(.int 6), (.ref a1)])
  obtain ⟨T241, X241, e241, st241⟩ := getS2 X240 hx hZ hown (host := "") (Or.inl (own_g hw 115)) Via.refl e240 (V_env.2.1.ext Od.2) (g := (mkF m 38 #[Rv a1, Iv 7, Iv cc] [(.int cc), (.int 6), (.ref a1)])) rfl (hb hby d27_38)
  obtain ⟨cl242, Ar242, q242, S242, M242, H242, G242⟩ := id V1
  have hin242 : ¬ ((6 : Int32) < 0 ∨ cl242.slots.size ≤ ((6 : Int32)).toNatClampNeg) := inb_of S242 ⟨by decide, by decide⟩
  obtain ⟨T242, h242, X242, e242, W242, st242⟩ := stB X241 hx hZ e241 Ar242 (j := (6 : Int32)) hin242 (g := (mkF m 43 #[Rv a1, Iv 7, Iv cc] [(.int ((cc >>> ((0 : Int32) &&& 31)).toInt8.toInt32)), (.int 6), (.ref a1)])) rfl rfl (hb hby d27_43)
  have V242 : Arv Z h242 a1 k1 .byte (8 : Int32) [(.int w0), (.int w1), (.int w2), (.int w3), (.int w4), (.int w5), (.int ((cc >>> ((0 : Int32) &&& 31)).toInt8.toInt32).toInt8.toInt32), (.int w7)] (.int (0 : Int32)) := Arv.set Ar242 q242 S242 M242 H242 G242 (fits_nar_byte _) W242 6 rfl (Nat.le_of_ble_eq_true rfl)
  have Kp242 : Keep h0 h242 [a1] := Kp239.wr W242 (Or.inl (List.mem_of_getElem? (i := 0) rfl))
  have Zs242 : n0 ≤ h242.size := Nat.le_trans Z0 (Keep.of_wr W242).1
  have N242 := Fr.snoc X242 N0 g_1
  have f243_0 : Old Z n0 h242 := Od.wr W242 g_1
  obtain ⟨T244, X244, e244, st244⟩ := getS2 X242 hx hZ hown (host := "") (Or.inl (own_g hw 116)) Via.refl e242 (V_env.2.2.1.ext f243_0.2) (g := (mkF m 47 #[Rv a1, Iv 7, Iv cc] [(.int cc), (.int 7), (.ref a1)])) rfl (hb hby d27_47)
  refine own_by (fun _ k => XS.iloadN X240.here hx rfl (hb hby d27_37) rfl (st241 _ (XS.ishr X241.here hx rfl (hb hby d27_41) rfl (XS.i2b X241.here hx rfl (hb hby d27_42) rfl (st242 _ (XS.aloadN X242.here hx rfl (hb hby d27_44) rfl rfl (XS.iloadN X242.here hx rfl (hb hby d27_45) rfl (XS.iloadN X242.here hx rfl (hb hby d27_46) rfl (st244 _ (XS.ishr X244.here hx rfl (hb hby d27_50) rfl k)))))))))) ?_
  show own_Fin _ _ _ _ _ _ _ T244 (mkF m 51 #[Rv a1, Iv 7, Iv cc] [(.int (cc >>> ((8 : Int32) &&& 31))), (.int 7), (.ref a1)])
  obtain ⟨cl245, Ar245, q245, S245, M245, H245, G245⟩ := id V242
  have hin245 : ¬ ((7 : Int32) < 0 ∨ cl245.slots.size ≤ ((7 : Int32)).toNatClampNeg) := inb_of S245 ⟨by decide, by decide⟩
  obtain ⟨T245, h245, X245, e245, W245, st245⟩ := stB X244 hx hZ e244 Ar245 (j := (7 : Int32)) hin245 (g := (mkF m 52 #[Rv a1, Iv 7, Iv cc] [(.int ((cc >>> ((8 : Int32) &&& 31)).toInt8.toInt32)), (.int 7), (.ref a1)])) rfl rfl (hb hby d27_52)
  have V245 : Arv Z h245 a1 k1 .byte (8 : Int32) [(.int w0), (.int w1), (.int w2), (.int w3), (.int w4), (.int w5), (.int ((cc >>> ((0 : Int32) &&& 31)).toInt8.toInt32).toInt8.toInt32), (.int ((cc >>> ((8 : Int32) &&& 31)).toInt8.toInt32).toInt8.toInt32)] (.int (0 : Int32)) := Arv.set Ar245 q245 S245 M245 H245 G245 (fits_nar_byte _) W245 7 rfl (Nat.le_of_ble_eq_true rfl)
  have Kp245 : Keep h0 h245 [a1] := Kp242.wr W245 (Or.inl (List.mem_of_getElem? (i := 0) rfl))
  have Zs245 : n0 ≤ h245.size := Nat.le_trans Zs242 (Keep.of_wr W245).1
  have N245 := Fr.snoc X245 N242 g_1
  have f246_0 : Old Z n0 h245 := f243_0.wr W245 g_1
  refine own_by (fun _ k => XS.i2b X244.here hx rfl (hb hby d27_51) rfl (st245 _ k)) ?_
  exact own_retV X245 hx hlk hret (hb hby d27_53) (by rw [e245]; exact ⟨rfl, N245, Kp245, (by have q := V245; simp only [own_b8] at q; exact q)⟩) (by decide) (by decide)
def own_QTB4 (Z : State) (x0 x1 x2 x3 : Int32) (h0 : Heap) (n0 : Nat) (v : Option Value) (h : Heap) (L : List Loc) : Prop := ∃ (a : Addr) (k : ClassId), v = some (.ref a) ∧ Fr n0 L ∧ Keep h0 h [] ∧ h0.size ≤ a ∧ Arv Z h a k .byte (8 : Int32) [(.int (own_lo x0)), (.int (own_hi x0)), (.int (own_lo x1)), (.int (own_hi x1)), (.int (own_lo x2)), (.int (own_hi x2)), (.int (own_lo x3)), (.int (own_hi x3))] (.int (0 : Int32))
set_option maxRecDepth 65536 in
set_option maxHeartbeats 40000000 in
theorem rmTB4 (l : Launch) (Z : State) (a0 : Array Value) (hw : own_W a0 Z) (ws : List Jvm.Cond) (cs : Int32) (gS : Value) (a1 : Addr) (kc : ClassId) (x0 x1 x2 x3 : Int32) (h0 : Heap) (n0 : Nat) (Z0 : n0 ≤ h0.size) (V_env : own_Env Z cs gS) (Od : Old Z n0 h0) (V1 : Arv Z h0 a1 kc .char (4 : Int32) [(.int x0), (.int x1), (.int x2), (.int x3)] (.int (0 : Int32))) : own_Met l Z mn7 jdk_52_method_14_code 5 (some (.array .byte)) ws (own_R 2 1 8 24) #[(.ref a1), (.int (0 : Int32)), (.int (4 : Int32))] h0 (own_QTB4 Z x0 x1 x2 x3 h0 n0) := by
  refine own_enter n0 (plainFor_of_name own_pn58) (fun m => ef_RII_5 m a1 (0 : Int32) (4 : Int32) ) (fun p e s m below meth c s₁ hx hby hlk hml hret hown hnm hZ X0 e0 N0 => ?_)
  show own_Fin _ _ _ _ _ _ _ s₁ (mkF m 0 #[Rv a1, Iv 0, Iv 4, Uv, Uv] [])
  have Kp247 : Keep h0 h0 [] := Keep.refl h0 _
  obtain ⟨_, _, ⟨T248, L248, k248, n248⟩, -, X248, ⟨Lc248, hQ248, l248, y248, z248⟩, st248⟩ := LawKit.callS X0 hx (y := mn5) hown (own_m hZ hw 104) (own_m hZ hw 105) (own_m hZ hw 74) (own_m hZ hw 106) (by decide) (backOf (W := 0) (rmNBF4 l Z a0 hw []  h0 n0 Z0 ) hZ (own_g hw 106) (own_g hw 74) (by decide) (by decide)) (g := (mkF m 1 #[Rv a1, Iv 0, Iv 4, Uv, Uv] [(.int 4)])) rfl (by rw [hml]; rfl) (argsL := [(.int (4 : Int32))]) (rest := []) (lenOf own_pd99 rfl) rfl (own_z rfl) (hb hby d24_1) (fun _ _ => ⟨rfl, e0, (by decide : 0 + 1 ≤ _), (by decide : 0 + 8 ≤ _)⟩)
  dsimp only [Pt.U, Pt.locs, Pt.cells, Pt.slots] at X248 l248 y248 z248 st248 hQ248
  subst l248 y248 z248
  obtain ⟨b248, k248, rfl, Nq248, K248, ge248, V248⟩ := hQ248
  have N248 := Fr.app N0 Nq248
  have Zs248 : n0 ≤ T248.heap.size := Nat.le_trans Z0 K248.1
  have Kp248 : Keep h0 T248.heap [] := Kp247.trans K248 all0
  have f249_0 : Old Z n0 T248.heap := Od.keep K248 all0
  have f249_1 : Arv Z T248.heap a1 kc .char (4 : Int32) [(.int x0), (.int x1), (.int x2), (.int x3)] (.int (0 : Int32)) := V1.keep K248 nin0
  have ne248_a1 : a1 ≠ b248 := Nat.ne_of_lt (Nat.lt_of_lt_of_le V1.lt ge248)
  have gf248 : n0 ≤ b248 := Nat.le_trans Z0 ge248
  have sz_b248 : h0.size ≤ b248 := Nat.le_trans Kp247.1 ge248
  refine own_by (fun _ k => XS.iloadN X0.here hx rfl (hb hby d24_0) rfl (st248 _ (XS.astoreN X248.here hx rfl (hb hby d24_4) rfl rfl (l' := #[Rv a1, Iv 0, Iv 4, Rv b248, Uv]) rfl (XS.iconst X248.here hx rfl (hb hby d24_5) (XS.istore X248.here hx rfl (hb hby d24_6) rfl (l' := #[Rv a1, Iv 0, Iv 4, Rv b248, Iv 0]) rfl (XS.iload X248.here hx rfl (hb hby d24_8) rfl (XS.iloadN X248.here hx rfl (hb hby d24_10) rfl (XS.icmpNo X248.here hx rfl (hb hby d24_11) rfl (tlt (by decide : (0 : Int32) < (4 : Int32))).2.1 (XS.aloadN X248.here hx rfl (hb hby d24_14) rfl rfl (XS.iload X248.here hx rfl (hb hby d24_15) rfl k)))))))))) ?_
  show own_Fin _ _ _ _ _ _ _ T248 (mkF m 17 #[Rv a1, Iv 0, Iv 4, Rv b248, Iv 0] [(.int 0), (.ref b248)])
  obtain ⟨cl250, Ar250, -, S250, M250, H250, -⟩ := id f249_1
  have hin250 : ¬ ((0 : Int32) < 0 ∨ cl250.slots.size ≤ ((0 : Int32)).toNatClampNeg) := inb_of S250 ⟨by decide, by decide⟩
  have hat250 : cl250.slots[((0 : Int32)).toNatClampNeg]? = some (.int x0) := Has.at H250 hin250 rfl
  obtain ⟨_, _, ⟨T251, L251, k251, n251⟩, -, X251, ⟨Lc251, hQ251, l251, y251, z251⟩, st251⟩ := LawKit.callS X248 hx (y := mn6) hown (own_m hZ hw 111) (own_m hZ hw 112) (own_m hZ hw 74) (own_m hZ hw 113) (by decide) (backOf (W := 0) (rmPC4_0 l Z a0 hw [] cs gS b248 k248 x0 (0 : Int32) (0 : Int32) (0 : Int32) (0 : Int32) (0 : Int32) (0 : Int32) (0 : Int32) (0 : Int32) T248.heap n0 Zs248 V_env f249_0 V248 gf248) hZ (own_g hw 113) (own_g hw 74) (by decide) (by decide)) (g := (mkF m 20 #[Rv a1, Iv 0, Iv 4, Rv b248, Iv 0] [(.int x0), (.int 0), (.ref b248)])) rfl (by rw [hml]; rfl) (argsL := [(.ref b248), (.int (0 : Int32)), (.int x0)]) (rest := []) (lenOf own_pd112 rfl) rfl (own_z rfl) (hb hby d24_20) (fun _ _ => ⟨rfl, rfl, (by decide : 1 + 0 ≤ _), (by decide : 8 + 0 ≤ _)⟩)
  dsimp only [Pt.U, Pt.locs, Pt.cells, Pt.slots] at X251 l251 y251 z251 st251 hQ251
  subst l251 y251 z251
  obtain ⟨rfl, Nq251, K251, Vr251⟩ := hQ251
  have N251 := Fr.app N248 Nq251
  have Zs251 : n0 ≤ T251.heap.size := Nat.le_trans Zs248 K251.1
  have Kp251 : Keep h0 T251.heap [] := Kp248.trans K251 (allS (Or.inr sz_b248) all0)
  have f252_0 : Old Z n0 T251.heap := f249_0.keep K251 (allS gf248 all0)
  have f252_1 : Arv Z T251.heap a1 kc .char (4 : Int32) [(.int x0), (.int x1), (.int x2), (.int x3)] (.int (0 : Int32)) := f249_1.keep K251 (ninS ne248_a1 nin0)
  refine own_by (fun _ k => XS.aloadN X248.here hx rfl (hb hby d24_17) rfl rfl (XS.iloadN X248.here hx rfl (hb hby d24_18) rfl (X248.caload hx (j := (0 : Int32)) (v := (.int x0)) Ar250.1 (State.isArrayOf_alike hZ.alike Ar250.2.1) Ar250.2.2 hin250 hat250 (g := (mkF m 19 #[Rv a1, Iv 0, Iv 4, Rv b248, Iv 0] [(.int 0), (.ref a1), (.int 0), (.ref b248)])) rfl rfl (hb hby d24_19) _ (st251 _ (XS.iinc X251.here hx rfl (hb hby d24_23) rfl (l' := #[Rv a1, Iv ((0 : Int32) + (1 : Int32)), Iv 4, Rv b248, Iv 0]) rfl k))))) ?_
  show own_Fin _ _ _ _ _ _ _ T251 (mkF m 26 #[Rv a1, Iv ((0 : Int32) + (1 : Int32)), Iv 4, Rv b248, Iv 0] [])
  rw [(by decide : ((0 : Int32) + (1 : Int32)) = (1 : Int32))]
  show own_Fin _ _ _ _ _ _ _ T251 (mkF m 26 #[Rv a1, Iv 1, Iv 4, Rv b248, Iv 0] [])
  refine own_by (fun _ k => XS.iinc X251.here hx rfl (hb hby d24_26) rfl (l' := #[Rv a1, Iv 1, Iv 4, Rv b248, Iv ((0 : Int32) + (1 : Int32))]) rfl k) ?_
  show own_Fin _ _ _ _ _ _ _ T251 (mkF m 29 #[Rv a1, Iv 1, Iv 4, Rv b248, Iv ((0 : Int32) + (1 : Int32))] [])
  rw [(by decide : ((0 : Int32) + (1 : Int32)) = (1 : Int32))]
  show own_Fin _ _ _ _ _ _ _ T251 (mkF m 29 #[Rv a1, Iv 1, Iv 4, Rv b248, Iv 1] [])
  obtain ⟨cl253, Ar253, -, S253, M253, H253, -⟩ := id f252_1
  have hin253 : ¬ ((1 : Int32) < 0 ∨ cl253.slots.size ≤ ((1 : Int32)).toNatClampNeg) := inb_of S253 ⟨by decide, by decide⟩
  have hat253 : cl253.slots[((1 : Int32)).toNatClampNeg]? = some (.int x1) := Has.at H253 hin253 rfl
  obtain ⟨_, _, ⟨T254, L254, k254, n254⟩, -, X254, ⟨Lc254, hQ254, l254, y254, z254⟩, st254⟩ := LawKit.callS X251 hx (y := mn6) hown (own_m hZ hw 111) (own_m hZ hw 112) (own_m hZ hw 74) (own_m hZ hw 113) (by decide) (backOf (W := 0) (rmPC4_1 l Z a0 hw [] cs gS b248 k248 x1 (own_lo x0) (own_hi x0) (0 : Int32) (0 : Int32) (0 : Int32) (0 : Int32) (0 : Int32) (0 : Int32) T251.heap n0 Zs251 V_env f252_0 Vr251 gf248) hZ (own_g hw 113) (own_g hw 74) (by decide) (by decide)) (g := (mkF m 20 #[Rv a1, Iv 1, Iv 4, Rv b248, Iv 1] [(.int x1), (.int 1), (.ref b248)])) rfl (by rw [hml]; rfl) (argsL := [(.ref b248), (.int (1 : Int32)), (.int x1)]) (rest := []) (lenOf own_pd112 rfl) rfl (own_z rfl) (hb hby d24_20) (fun _ _ => ⟨rfl, rfl, (by decide : 1 + 0 ≤ _), (by decide : 8 + 0 ≤ _)⟩)
  dsimp only [Pt.U, Pt.locs, Pt.cells, Pt.slots] at X254 l254 y254 z254 st254 hQ254
  subst l254 y254 z254
  obtain ⟨rfl, Nq254, K254, Vr254⟩ := hQ254
  have N254 := Fr.app N251 Nq254
  have Zs254 : n0 ≤ T254.heap.size := Nat.le_trans Zs251 K254.1
  have Kp254 : Keep h0 T254.heap [] := Kp251.trans K254 (allS (Or.inr sz_b248) all0)
  have f255_0 : Old Z n0 T254.heap := f252_0.keep K254 (allS gf248 all0)
  have f255_1 : Arv Z T254.heap a1 kc .char (4 : Int32) [(.int x0), (.int x1), (.int x2), (.int x3)] (.int (0 : Int32)) := f252_1.keep K254 (ninS ne248_a1 nin0)
  refine own_by (fun _ k => XS.goto X251.here hx rfl (pc0 := 29) (pc' := 8) rfl (hb hby d24_29) (by decide) (by decide) (XS.iload X251.here hx rfl (hb hby d24_8) rfl (XS.iloadN X251.here hx rfl (hb hby d24_10) rfl (XS.icmpNo X251.here hx rfl (hb hby d24_11) rfl (tlt (by decide : (1 : Int32) < (4 : Int32))).2.1 (XS.aloadN X251.here hx rfl (hb hby d24_14) rfl rfl (XS.iload X251.here hx rfl (hb hby d24_15) rfl (XS.aloadN X251.here hx rfl (hb hby d24_17) rfl rfl (XS.iloadN X251.here hx rfl (hb hby d24_18) rfl (X251.caload hx (j := (1 : Int32)) (v := (.int x1)) Ar253.1 (State.isArrayOf_alike hZ.alike Ar253.2.1) Ar253.2.2 hin253 hat253 (g := (mkF m 19 #[Rv a1, Iv 1, Iv 4, Rv b248, Iv 1] [(.int 1), (.ref a1), (.int 1), (.ref b248)])) rfl rfl (hb hby d24_19) _ (st254 _ k)))))))))) ?_
  show own_Fin _ _ _ _ _ _ _ T254 (mkF m 23 #[Rv a1, Iv 1, Iv 4, Rv b248, Iv 1] [])
  refine own_by (fun _ k => XS.iinc X254.here hx rfl (hb hby d24_23) rfl (l' := #[Rv a1, Iv ((1 : Int32) + (1 : Int32)), Iv 4, Rv b248, Iv 1]) rfl k) ?_
  show own_Fin _ _ _ _ _ _ _ T254 (mkF m 26 #[Rv a1, Iv ((1 : Int32) + (1 : Int32)), Iv 4, Rv b248, Iv 1] [])
  rw [(by decide : ((1 : Int32) + (1 : Int32)) = (2 : Int32))]
  show own_Fin _ _ _ _ _ _ _ T254 (mkF m 26 #[Rv a1, Iv 2, Iv 4, Rv b248, Iv 1] [])
  refine own_by (fun _ k => XS.iinc X254.here hx rfl (hb hby d24_26) rfl (l' := #[Rv a1, Iv 2, Iv 4, Rv b248, Iv ((1 : Int32) + (1 : Int32))]) rfl k) ?_
  show own_Fin _ _ _ _ _ _ _ T254 (mkF m 29 #[Rv a1, Iv 2, Iv 4, Rv b248, Iv ((1 : Int32) + (1 : Int32))] [])
  rw [(by decide : ((1 : Int32) + (1 : Int32)) = (2 : Int32))]
  show own_Fin _ _ _ _ _ _ _ T254 (mkF m 29 #[Rv a1, Iv 2, Iv 4, Rv b248, Iv 2] [])
  obtain ⟨cl256, Ar256, -, S256, M256, H256, -⟩ := id f255_1
  have hin256 : ¬ ((2 : Int32) < 0 ∨ cl256.slots.size ≤ ((2 : Int32)).toNatClampNeg) := inb_of S256 ⟨by decide, by decide⟩
  have hat256 : cl256.slots[((2 : Int32)).toNatClampNeg]? = some (.int x2) := Has.at H256 hin256 rfl
  obtain ⟨_, _, ⟨T257, L257, k257, n257⟩, -, X257, ⟨Lc257, hQ257, l257, y257, z257⟩, st257⟩ := LawKit.callS X254 hx (y := mn6) hown (own_m hZ hw 111) (own_m hZ hw 112) (own_m hZ hw 74) (own_m hZ hw 113) (by decide) (backOf (W := 0) (rmPC4_2 l Z a0 hw [] cs gS b248 k248 x2 (own_lo x0) (own_hi x0) (own_lo x1) (own_hi x1) (0 : Int32) (0 : Int32) (0 : Int32) (0 : Int32) T254.heap n0 Zs254 V_env f255_0 Vr254 gf248) hZ (own_g hw 113) (own_g hw 74) (by decide) (by decide)) (g := (mkF m 20 #[Rv a1, Iv 2, Iv 4, Rv b248, Iv 2] [(.int x2), (.int 2), (.ref b248)])) rfl (by rw [hml]; rfl) (argsL := [(.ref b248), (.int (2 : Int32)), (.int x2)]) (rest := []) (lenOf own_pd112 rfl) rfl (own_z rfl) (hb hby d24_20) (fun _ _ => ⟨rfl, rfl, (by decide : 1 + 0 ≤ _), (by decide : 8 + 0 ≤ _)⟩)
  dsimp only [Pt.U, Pt.locs, Pt.cells, Pt.slots] at X257 l257 y257 z257 st257 hQ257
  subst l257 y257 z257
  obtain ⟨rfl, Nq257, K257, Vr257⟩ := hQ257
  have N257 := Fr.app N254 Nq257
  have Zs257 : n0 ≤ T257.heap.size := Nat.le_trans Zs254 K257.1
  have Kp257 : Keep h0 T257.heap [] := Kp254.trans K257 (allS (Or.inr sz_b248) all0)
  have f258_0 : Old Z n0 T257.heap := f255_0.keep K257 (allS gf248 all0)
  have f258_1 : Arv Z T257.heap a1 kc .char (4 : Int32) [(.int x0), (.int x1), (.int x2), (.int x3)] (.int (0 : Int32)) := f255_1.keep K257 (ninS ne248_a1 nin0)
  refine own_by (fun _ k => XS.goto X254.here hx rfl (pc0 := 29) (pc' := 8) rfl (hb hby d24_29) (by decide) (by decide) (XS.iload X254.here hx rfl (hb hby d24_8) rfl (XS.iloadN X254.here hx rfl (hb hby d24_10) rfl (XS.icmpNo X254.here hx rfl (hb hby d24_11) rfl (tlt (by decide : (2 : Int32) < (4 : Int32))).2.1 (XS.aloadN X254.here hx rfl (hb hby d24_14) rfl rfl (XS.iload X254.here hx rfl (hb hby d24_15) rfl (XS.aloadN X254.here hx rfl (hb hby d24_17) rfl rfl (XS.iloadN X254.here hx rfl (hb hby d24_18) rfl (X254.caload hx (j := (2 : Int32)) (v := (.int x2)) Ar256.1 (State.isArrayOf_alike hZ.alike Ar256.2.1) Ar256.2.2 hin256 hat256 (g := (mkF m 19 #[Rv a1, Iv 2, Iv 4, Rv b248, Iv 2] [(.int 2), (.ref a1), (.int 2), (.ref b248)])) rfl rfl (hb hby d24_19) _ (st257 _ k)))))))))) ?_
  show own_Fin _ _ _ _ _ _ _ T257 (mkF m 23 #[Rv a1, Iv 2, Iv 4, Rv b248, Iv 2] [])
  refine own_by (fun _ k => XS.iinc X257.here hx rfl (hb hby d24_23) rfl (l' := #[Rv a1, Iv ((2 : Int32) + (1 : Int32)), Iv 4, Rv b248, Iv 2]) rfl k) ?_
  show own_Fin _ _ _ _ _ _ _ T257 (mkF m 26 #[Rv a1, Iv ((2 : Int32) + (1 : Int32)), Iv 4, Rv b248, Iv 2] [])
  rw [(by decide : ((2 : Int32) + (1 : Int32)) = (3 : Int32))]
  show own_Fin _ _ _ _ _ _ _ T257 (mkF m 26 #[Rv a1, Iv 3, Iv 4, Rv b248, Iv 2] [])
  refine own_by (fun _ k => XS.iinc X257.here hx rfl (hb hby d24_26) rfl (l' := #[Rv a1, Iv 3, Iv 4, Rv b248, Iv ((2 : Int32) + (1 : Int32))]) rfl k) ?_
  show own_Fin _ _ _ _ _ _ _ T257 (mkF m 29 #[Rv a1, Iv 3, Iv 4, Rv b248, Iv ((2 : Int32) + (1 : Int32))] [])
  rw [(by decide : ((2 : Int32) + (1 : Int32)) = (3 : Int32))]
  show own_Fin _ _ _ _ _ _ _ T257 (mkF m 29 #[Rv a1, Iv 3, Iv 4, Rv b248, Iv 3] [])
  obtain ⟨cl259, Ar259, -, S259, M259, H259, -⟩ := id f258_1
  have hin259 : ¬ ((3 : Int32) < 0 ∨ cl259.slots.size ≤ ((3 : Int32)).toNatClampNeg) := inb_of S259 ⟨by decide, by decide⟩
  have hat259 : cl259.slots[((3 : Int32)).toNatClampNeg]? = some (.int x3) := Has.at H259 hin259 rfl
  obtain ⟨_, _, ⟨T260, L260, k260, n260⟩, -, X260, ⟨Lc260, hQ260, l260, y260, z260⟩, st260⟩ := LawKit.callS X257 hx (y := mn6) hown (own_m hZ hw 111) (own_m hZ hw 112) (own_m hZ hw 74) (own_m hZ hw 113) (by decide) (backOf (W := 0) (rmPC4_3 l Z a0 hw [] cs gS b248 k248 x3 (own_lo x0) (own_hi x0) (own_lo x1) (own_hi x1) (own_lo x2) (own_hi x2) (0 : Int32) (0 : Int32) T257.heap n0 Zs257 V_env f258_0 Vr257 gf248) hZ (own_g hw 113) (own_g hw 74) (by decide) (by decide)) (g := (mkF m 20 #[Rv a1, Iv 3, Iv 4, Rv b248, Iv 3] [(.int x3), (.int 3), (.ref b248)])) rfl (by rw [hml]; rfl) (argsL := [(.ref b248), (.int (3 : Int32)), (.int x3)]) (rest := []) (lenOf own_pd112 rfl) rfl (own_z rfl) (hb hby d24_20) (fun _ _ => ⟨rfl, rfl, (by decide : 1 + 0 ≤ _), (by decide : 8 + 0 ≤ _)⟩)
  dsimp only [Pt.U, Pt.locs, Pt.cells, Pt.slots] at X260 l260 y260 z260 st260 hQ260
  subst l260 y260 z260
  obtain ⟨rfl, Nq260, K260, Vr260⟩ := hQ260
  have N260 := Fr.app N257 Nq260
  have Zs260 : n0 ≤ T260.heap.size := Nat.le_trans Zs257 K260.1
  have Kp260 : Keep h0 T260.heap [] := Kp257.trans K260 (allS (Or.inr sz_b248) all0)
  have f261_0 : Old Z n0 T260.heap := f258_0.keep K260 (allS gf248 all0)
  have f261_1 : Arv Z T260.heap a1 kc .char (4 : Int32) [(.int x0), (.int x1), (.int x2), (.int x3)] (.int (0 : Int32)) := f258_1.keep K260 (ninS ne248_a1 nin0)
  refine own_by (fun _ k => XS.goto X257.here hx rfl (pc0 := 29) (pc' := 8) rfl (hb hby d24_29) (by decide) (by decide) (XS.iload X257.here hx rfl (hb hby d24_8) rfl (XS.iloadN X257.here hx rfl (hb hby d24_10) rfl (XS.icmpNo X257.here hx rfl (hb hby d24_11) rfl (tlt (by decide : (3 : Int32) < (4 : Int32))).2.1 (XS.aloadN X257.here hx rfl (hb hby d24_14) rfl rfl (XS.iload X257.here hx rfl (hb hby d24_15) rfl (XS.aloadN X257.here hx rfl (hb hby d24_17) rfl rfl (XS.iloadN X257.here hx rfl (hb hby d24_18) rfl (X257.caload hx (j := (3 : Int32)) (v := (.int x3)) Ar259.1 (State.isArrayOf_alike hZ.alike Ar259.2.1) Ar259.2.2 hin259 hat259 (g := (mkF m 19 #[Rv a1, Iv 3, Iv 4, Rv b248, Iv 3] [(.int 3), (.ref a1), (.int 3), (.ref b248)])) rfl rfl (hb hby d24_19) _ (st260 _ k)))))))))) ?_
  show own_Fin _ _ _ _ _ _ _ T260 (mkF m 23 #[Rv a1, Iv 3, Iv 4, Rv b248, Iv 3] [])
  refine own_by (fun _ k => XS.iinc X260.here hx rfl (hb hby d24_23) rfl (l' := #[Rv a1, Iv ((3 : Int32) + (1 : Int32)), Iv 4, Rv b248, Iv 3]) rfl k) ?_
  show own_Fin _ _ _ _ _ _ _ T260 (mkF m 26 #[Rv a1, Iv ((3 : Int32) + (1 : Int32)), Iv 4, Rv b248, Iv 3] [])
  rw [(by decide : ((3 : Int32) + (1 : Int32)) = (4 : Int32))]
  show own_Fin _ _ _ _ _ _ _ T260 (mkF m 26 #[Rv a1, Iv 4, Iv 4, Rv b248, Iv 3] [])
  refine own_by (fun _ k => XS.iinc X260.here hx rfl (hb hby d24_26) rfl (l' := #[Rv a1, Iv 4, Iv 4, Rv b248, Iv ((3 : Int32) + (1 : Int32))]) rfl k) ?_
  show own_Fin _ _ _ _ _ _ _ T260 (mkF m 29 #[Rv a1, Iv 4, Iv 4, Rv b248, Iv ((3 : Int32) + (1 : Int32))] [])
  rw [(by decide : ((3 : Int32) + (1 : Int32)) = (4 : Int32))]
  show own_Fin _ _ _ _ _ _ _ T260 (mkF m 29 #[Rv a1, Iv 4, Iv 4, Rv b248, Iv 4] [])
  refine own_by (fun _ k => XS.goto X260.here hx rfl (pc0 := 29) (pc' := 8) rfl (hb hby d24_29) (by decide) (by decide) (XS.iload X260.here hx rfl (hb hby d24_8) rfl (XS.iloadN X260.here hx rfl (hb hby d24_10) rfl (XS.icmpYes X260.here hx rfl (pc0 := 11) (pc' := 32) rfl (hb hby d24_11) rfl (flt (by decide : ¬ ((4 : Int32) < (4 : Int32)))).2.1 (by decide) (by decide) (XS.aloadN X260.here hx rfl (hb hby d24_32) rfl rfl k))))) ?_
  exact own_retA X260 hx hlk (t := (.array .byte)) hret rfl rfl rfl (hb hby d24_33) ⟨_, _, rfl, N260, Kp260, sz_b248, Vr260⟩ (by decide) (by decide)
def own_QrmGC4_0 (x0 x1 x2 x3 : Int32) (h0 : Heap) (n0 : Nat) (v : Option Value) (h : Heap) (L : List Loc) : Prop := v = some (.int x0) ∧ Fr n0 L ∧ h = h0
set_option maxRecDepth 65536 in
set_option maxHeartbeats 40000000 in
theorem rmGC4_0 (l : Launch) (Z : State) (a0 : Array Value) (hw : own_W a0 Z) (ws : List Jvm.Cond) (cs : Int32) (gS : Value) (a1 : Addr) (k1 : ClassId) (x0 x1 x2 x3 : Int32) (h0 : Heap) (n0 : Nat) (Z0 : n0 ≤ h0.size) (V_env : own_Env Z cs gS) (Od : Old Z n0 h0) (V1 : Arv Z h0 a1 k1 .byte (8 : Int32) [(.int (own_lo x0)), (.int (own_hi x0)), (.int (own_lo x1)), (.int (own_hi x1)), (.int (own_lo x2)), (.int (own_hi x2)), (.int (own_lo x3)), (.int (own_hi x3))] (.int (0 : Int32))) (hch : own_ch x0) : own_Met l Z mn8 jdk_52_method_5_code 2 (some .char) ws (own_R 0 0 0 0) #[(.ref a1), (.int (0 : Int32))] h0 (own_QrmGC4_0 x0 x1 x2 x3 h0 n0) := by
  refine own_enter n0 (plainFor_of_name own_pn58) (fun m => ef_RI_2 m a1 (0 : Int32) ) (fun p e s m below meth c s₁ hx hby hlk hml hret hown hnm hZ X0 e0 N0 => ?_)
  show own_Fin _ _ _ _ _ _ _ s₁ (mkF m 0 #[Rv a1, Iv 0] [])
  obtain ⟨T262, X262, e262, st262⟩ := getS2 X0 hx hZ hown (host := "") (Or.inl (own_g hw 114)) Via.refl e0 (V_env.1.ext Od.2) (g := (mkF m 0 #[Rv a1, Iv 0] [])) rfl (hb hby d28_0)
  refine own_by (fun _ k => st262 _ (XS.ifYes X262.here hx rfl (pc0 := 3) (pc' := 28) rfl (hb hby d28_3) rfl ((if0 _ _).trans (feq (by decide : ¬ ((1 : Int32) = (0 : Int32)))).2) (by decide) (by decide) (XS.iloadN X262.here hx rfl (hb hby d28_28) rfl (XS.iconst X262.here hx rfl (hb hby d28_29) (XS.ishl X262.here hx rfl (hb hby d28_30) rfl k))))) ?_
  show own_Fin _ _ _ _ _ _ _ T262 (mkF m 31 #[Rv a1, Iv 0] [(.int ((0 : Int32) <<< ((1 : Int32) &&& 31)))])
  rw [(by decide : ((0 : Int32) <<< ((1 : Int32) &&& 31)) = (0 : Int32))]
  show own_Fin _ _ _ _ _ _ _ T262 (mkF m 31 #[Rv a1, Iv 0] [(.int 0)])
  refine own_by (fun _ k => XS.istoreN X262.here hx rfl (hb hby d28_31) rfl (l' := #[Rv a1, Iv 0]) rfl (XS.aloadN X262.here hx rfl (hb hby d28_32) rfl rfl (XS.iloadN X262.here hx rfl (hb hby d28_33) rfl (XS.iinc X262.here hx rfl (hb hby d28_34) rfl (l' := #[Rv a1, Iv ((0 : Int32) + (1 : Int32))]) rfl k)))) ?_
  show own_Fin _ _ _ _ _ _ _ T262 (mkF m 37 #[Rv a1, Iv ((0 : Int32) + (1 : Int32))] [(.int 0), (.ref a1)])
  rw [(by decide : ((0 : Int32) + (1 : Int32)) = (1 : Int32))]
  show own_Fin _ _ _ _ _ _ _ T262 (mkF m 37 #[Rv a1, Iv 1] [(.int 0), (.ref a1)])
  obtain ⟨cl263, Ar263, -, S263, M263, H263, -⟩ := id V1
  have hin263 : ¬ ((0 : Int32) < 0 ∨ cl263.slots.size ≤ ((0 : Int32)).toNatClampNeg) := inb_of S263 ⟨by decide, by decide⟩
  have hat263 : cl263.slots[((0 : Int32)).toNatClampNeg]? = some (.int (own_lo x0)) := Has.at H263 hin263 rfl
  obtain ⟨T264, X264, e264, st264⟩ := getS2 X262 hx hZ hown (host := "") (Or.inl (own_g hw 115)) Via.refl e262 (V_env.2.1.ext Od.2) (g := (mkF m 42 #[Rv a1, Iv 1] [(.int ((own_lo x0) &&& (255 : Int32)))])) rfl (hb hby d28_42)
  obtain ⟨cl265, Ar265, -, S265, M265, H265, -⟩ := id V1
  have hin265 : ¬ ((1 : Int32) < 0 ∨ cl265.slots.size ≤ ((1 : Int32)).toNatClampNeg) := inb_of S265 ⟨by decide, by decide⟩
  have hat265 : cl265.slots[((1 : Int32)).toNatClampNeg]? = some (.int (own_hi x0)) := Has.at H265 hin265 rfl
  obtain ⟨T266, X266, e266, st266⟩ := getS2 X264 hx hZ hown (host := "") (Or.inl (own_g hw 116)) Via.refl e264 (V_env.2.2.1.ext Od.2) (g := (mkF m 53 #[Rv a1, Iv 1] [(.int ((own_hi x0) &&& (255 : Int32))), (.int (((own_lo x0) &&& (255 : Int32)) <<< ((0 : Int32) &&& 31)))])) rfl (hb hby d28_53)
  refine own_by (fun _ k => X262.baloadBytes hx (j := (0 : Int32)) (v := (.int (own_lo x0))) (by rw [e262]; exact Ar263.1) (State.isArrayOf_alike hZ.alike Ar263.2.1) Ar263.2.2 hin263 hat263 (g := (mkF m 37 #[Rv a1, Iv 1] [(.int 0), (.ref a1)])) rfl rfl (hb hby d28_37) _ (XS.sipush X262.here hx rfl (hb hby d28_38) (XS.iand X262.here hx rfl (hb hby d28_41) rfl (st264 _ (XS.ishl X264.here hx rfl (hb hby d28_45) rfl (XS.aloadN X264.here hx rfl (hb hby d28_46) rfl rfl (XS.iloadN X264.here hx rfl (hb hby d28_47) rfl (X264.baloadBytes hx (j := (1 : Int32)) (v := (.int (own_hi x0))) (by rw [e264]; exact Ar265.1) (State.isArrayOf_alike hZ.alike Ar265.2.1) Ar265.2.2 hin265 hat265 (g := (mkF m 48 #[Rv a1, Iv 1] [(.int 1), (.ref a1), (.int (((own_lo x0) &&& (255 : Int32)) <<< ((0 : Int32) &&& 31)))])) rfl rfl (hb hby d28_48) _ (XS.sipush X264.here hx rfl (hb hby d28_49) (XS.iand X264.here hx rfl (hb hby d28_52) rfl k)))))))))) ?_
  show own_Fin _ _ _ _ _ _ _ T264 (mkF m 53 #[Rv a1, Iv 1] [(.int ((own_hi x0) &&& (255 : Int32))), (.int (((own_lo x0) &&& (255 : Int32)) <<< ((0 : Int32) &&& 31)))])
  refine own_by (fun _ k => st266 _ (XS.ishl X266.here hx rfl (hb hby d28_56) rfl (XS.ior X266.here hx rfl (hb hby d28_57) rfl (XS.i2c X266.here hx rfl (hb hby d28_58) rfl k)))) ?_
  exact own_retZ X266 hx hlk (t := .char) hret (by simp) (hb hby d28_59) ⟨own_vi (own_u16 hch), N0, e266⟩ (by decide) (by decide)
def own_QrmGC4_1 (x0 x1 x2 x3 : Int32) (h0 : Heap) (n0 : Nat) (v : Option Value) (h : Heap) (L : List Loc) : Prop := v = some (.int x1) ∧ Fr n0 L ∧ h = h0
set_option maxRecDepth 65536 in
set_option maxHeartbeats 40000000 in
theorem rmGC4_1 (l : Launch) (Z : State) (a0 : Array Value) (hw : own_W a0 Z) (ws : List Jvm.Cond) (cs : Int32) (gS : Value) (a1 : Addr) (k1 : ClassId) (x0 x1 x2 x3 : Int32) (h0 : Heap) (n0 : Nat) (Z0 : n0 ≤ h0.size) (V_env : own_Env Z cs gS) (Od : Old Z n0 h0) (V1 : Arv Z h0 a1 k1 .byte (8 : Int32) [(.int (own_lo x0)), (.int (own_hi x0)), (.int (own_lo x1)), (.int (own_hi x1)), (.int (own_lo x2)), (.int (own_hi x2)), (.int (own_lo x3)), (.int (own_hi x3))] (.int (0 : Int32))) (hch : own_ch x1) : own_Met l Z mn8 jdk_52_method_5_code 2 (some .char) ws (own_R 0 0 0 0) #[(.ref a1), (.int (1 : Int32))] h0 (own_QrmGC4_1 x0 x1 x2 x3 h0 n0) := by
  refine own_enter n0 (plainFor_of_name own_pn58) (fun m => ef_RI_2 m a1 (1 : Int32) ) (fun p e s m below meth c s₁ hx hby hlk hml hret hown hnm hZ X0 e0 N0 => ?_)
  show own_Fin _ _ _ _ _ _ _ s₁ (mkF m 0 #[Rv a1, Iv 1] [])
  obtain ⟨T267, X267, e267, st267⟩ := getS2 X0 hx hZ hown (host := "") (Or.inl (own_g hw 114)) Via.refl e0 (V_env.1.ext Od.2) (g := (mkF m 0 #[Rv a1, Iv 1] [])) rfl (hb hby d28_0)
  refine own_by (fun _ k => st267 _ (XS.ifYes X267.here hx rfl (pc0 := 3) (pc' := 28) rfl (hb hby d28_3) rfl ((if0 _ _).trans (feq (by decide : ¬ ((1 : Int32) = (0 : Int32)))).2) (by decide) (by decide) (XS.iloadN X267.here hx rfl (hb hby d28_28) rfl (XS.iconst X267.here hx rfl (hb hby d28_29) (XS.ishl X267.here hx rfl (hb hby d28_30) rfl k))))) ?_
  show own_Fin _ _ _ _ _ _ _ T267 (mkF m 31 #[Rv a1, Iv 1] [(.int ((1 : Int32) <<< ((1 : Int32) &&& 31)))])
  rw [(by decide : ((1 : Int32) <<< ((1 : Int32) &&& 31)) = (2 : Int32))]
  show own_Fin _ _ _ _ _ _ _ T267 (mkF m 31 #[Rv a1, Iv 1] [(.int 2)])
  refine own_by (fun _ k => XS.istoreN X267.here hx rfl (hb hby d28_31) rfl (l' := #[Rv a1, Iv 2]) rfl (XS.aloadN X267.here hx rfl (hb hby d28_32) rfl rfl (XS.iloadN X267.here hx rfl (hb hby d28_33) rfl (XS.iinc X267.here hx rfl (hb hby d28_34) rfl (l' := #[Rv a1, Iv ((2 : Int32) + (1 : Int32))]) rfl k)))) ?_
  show own_Fin _ _ _ _ _ _ _ T267 (mkF m 37 #[Rv a1, Iv ((2 : Int32) + (1 : Int32))] [(.int 2), (.ref a1)])
  rw [(by decide : ((2 : Int32) + (1 : Int32)) = (3 : Int32))]
  show own_Fin _ _ _ _ _ _ _ T267 (mkF m 37 #[Rv a1, Iv 3] [(.int 2), (.ref a1)])
  obtain ⟨cl268, Ar268, -, S268, M268, H268, -⟩ := id V1
  have hin268 : ¬ ((2 : Int32) < 0 ∨ cl268.slots.size ≤ ((2 : Int32)).toNatClampNeg) := inb_of S268 ⟨by decide, by decide⟩
  have hat268 : cl268.slots[((2 : Int32)).toNatClampNeg]? = some (.int (own_lo x1)) := Has.at H268 hin268 rfl
  obtain ⟨T269, X269, e269, st269⟩ := getS2 X267 hx hZ hown (host := "") (Or.inl (own_g hw 115)) Via.refl e267 (V_env.2.1.ext Od.2) (g := (mkF m 42 #[Rv a1, Iv 3] [(.int ((own_lo x1) &&& (255 : Int32)))])) rfl (hb hby d28_42)
  obtain ⟨cl270, Ar270, -, S270, M270, H270, -⟩ := id V1
  have hin270 : ¬ ((3 : Int32) < 0 ∨ cl270.slots.size ≤ ((3 : Int32)).toNatClampNeg) := inb_of S270 ⟨by decide, by decide⟩
  have hat270 : cl270.slots[((3 : Int32)).toNatClampNeg]? = some (.int (own_hi x1)) := Has.at H270 hin270 rfl
  obtain ⟨T271, X271, e271, st271⟩ := getS2 X269 hx hZ hown (host := "") (Or.inl (own_g hw 116)) Via.refl e269 (V_env.2.2.1.ext Od.2) (g := (mkF m 53 #[Rv a1, Iv 3] [(.int ((own_hi x1) &&& (255 : Int32))), (.int (((own_lo x1) &&& (255 : Int32)) <<< ((0 : Int32) &&& 31)))])) rfl (hb hby d28_53)
  refine own_by (fun _ k => X267.baloadBytes hx (j := (2 : Int32)) (v := (.int (own_lo x1))) (by rw [e267]; exact Ar268.1) (State.isArrayOf_alike hZ.alike Ar268.2.1) Ar268.2.2 hin268 hat268 (g := (mkF m 37 #[Rv a1, Iv 3] [(.int 2), (.ref a1)])) rfl rfl (hb hby d28_37) _ (XS.sipush X267.here hx rfl (hb hby d28_38) (XS.iand X267.here hx rfl (hb hby d28_41) rfl (st269 _ (XS.ishl X269.here hx rfl (hb hby d28_45) rfl (XS.aloadN X269.here hx rfl (hb hby d28_46) rfl rfl (XS.iloadN X269.here hx rfl (hb hby d28_47) rfl (X269.baloadBytes hx (j := (3 : Int32)) (v := (.int (own_hi x1))) (by rw [e269]; exact Ar270.1) (State.isArrayOf_alike hZ.alike Ar270.2.1) Ar270.2.2 hin270 hat270 (g := (mkF m 48 #[Rv a1, Iv 3] [(.int 3), (.ref a1), (.int (((own_lo x1) &&& (255 : Int32)) <<< ((0 : Int32) &&& 31)))])) rfl rfl (hb hby d28_48) _ (XS.sipush X269.here hx rfl (hb hby d28_49) (XS.iand X269.here hx rfl (hb hby d28_52) rfl k)))))))))) ?_
  show own_Fin _ _ _ _ _ _ _ T269 (mkF m 53 #[Rv a1, Iv 3] [(.int ((own_hi x1) &&& (255 : Int32))), (.int (((own_lo x1) &&& (255 : Int32)) <<< ((0 : Int32) &&& 31)))])
  refine own_by (fun _ k => st271 _ (XS.ishl X271.here hx rfl (hb hby d28_56) rfl (XS.ior X271.here hx rfl (hb hby d28_57) rfl (XS.i2c X271.here hx rfl (hb hby d28_58) rfl k)))) ?_
  exact own_retZ X271 hx hlk (t := .char) hret (by simp) (hb hby d28_59) ⟨own_vi (own_u16 hch), N0, e271⟩ (by decide) (by decide)
def own_QrmGC4_2 (x0 x1 x2 x3 : Int32) (h0 : Heap) (n0 : Nat) (v : Option Value) (h : Heap) (L : List Loc) : Prop := v = some (.int x2) ∧ Fr n0 L ∧ h = h0
set_option maxRecDepth 65536 in
set_option maxHeartbeats 40000000 in
theorem rmGC4_2 (l : Launch) (Z : State) (a0 : Array Value) (hw : own_W a0 Z) (ws : List Jvm.Cond) (cs : Int32) (gS : Value) (a1 : Addr) (k1 : ClassId) (x0 x1 x2 x3 : Int32) (h0 : Heap) (n0 : Nat) (Z0 : n0 ≤ h0.size) (V_env : own_Env Z cs gS) (Od : Old Z n0 h0) (V1 : Arv Z h0 a1 k1 .byte (8 : Int32) [(.int (own_lo x0)), (.int (own_hi x0)), (.int (own_lo x1)), (.int (own_hi x1)), (.int (own_lo x2)), (.int (own_hi x2)), (.int (own_lo x3)), (.int (own_hi x3))] (.int (0 : Int32))) (hch : own_ch x2) : own_Met l Z mn8 jdk_52_method_5_code 2 (some .char) ws (own_R 0 0 0 0) #[(.ref a1), (.int (2 : Int32))] h0 (own_QrmGC4_2 x0 x1 x2 x3 h0 n0) := by
  refine own_enter n0 (plainFor_of_name own_pn58) (fun m => ef_RI_2 m a1 (2 : Int32) ) (fun p e s m below meth c s₁ hx hby hlk hml hret hown hnm hZ X0 e0 N0 => ?_)
  show own_Fin _ _ _ _ _ _ _ s₁ (mkF m 0 #[Rv a1, Iv 2] [])
  obtain ⟨T272, X272, e272, st272⟩ := getS2 X0 hx hZ hown (host := "") (Or.inl (own_g hw 114)) Via.refl e0 (V_env.1.ext Od.2) (g := (mkF m 0 #[Rv a1, Iv 2] [])) rfl (hb hby d28_0)
  refine own_by (fun _ k => st272 _ (XS.ifYes X272.here hx rfl (pc0 := 3) (pc' := 28) rfl (hb hby d28_3) rfl ((if0 _ _).trans (feq (by decide : ¬ ((1 : Int32) = (0 : Int32)))).2) (by decide) (by decide) (XS.iloadN X272.here hx rfl (hb hby d28_28) rfl (XS.iconst X272.here hx rfl (hb hby d28_29) (XS.ishl X272.here hx rfl (hb hby d28_30) rfl k))))) ?_
  show own_Fin _ _ _ _ _ _ _ T272 (mkF m 31 #[Rv a1, Iv 2] [(.int ((2 : Int32) <<< ((1 : Int32) &&& 31)))])
  rw [(by decide : ((2 : Int32) <<< ((1 : Int32) &&& 31)) = (4 : Int32))]
  show own_Fin _ _ _ _ _ _ _ T272 (mkF m 31 #[Rv a1, Iv 2] [(.int 4)])
  refine own_by (fun _ k => XS.istoreN X272.here hx rfl (hb hby d28_31) rfl (l' := #[Rv a1, Iv 4]) rfl (XS.aloadN X272.here hx rfl (hb hby d28_32) rfl rfl (XS.iloadN X272.here hx rfl (hb hby d28_33) rfl (XS.iinc X272.here hx rfl (hb hby d28_34) rfl (l' := #[Rv a1, Iv ((4 : Int32) + (1 : Int32))]) rfl k)))) ?_
  show own_Fin _ _ _ _ _ _ _ T272 (mkF m 37 #[Rv a1, Iv ((4 : Int32) + (1 : Int32))] [(.int 4), (.ref a1)])
  rw [(by decide : ((4 : Int32) + (1 : Int32)) = (5 : Int32))]
  show own_Fin _ _ _ _ _ _ _ T272 (mkF m 37 #[Rv a1, Iv 5] [(.int 4), (.ref a1)])
  obtain ⟨cl273, Ar273, -, S273, M273, H273, -⟩ := id V1
  have hin273 : ¬ ((4 : Int32) < 0 ∨ cl273.slots.size ≤ ((4 : Int32)).toNatClampNeg) := inb_of S273 ⟨by decide, by decide⟩
  have hat273 : cl273.slots[((4 : Int32)).toNatClampNeg]? = some (.int (own_lo x2)) := Has.at H273 hin273 rfl
  obtain ⟨T274, X274, e274, st274⟩ := getS2 X272 hx hZ hown (host := "") (Or.inl (own_g hw 115)) Via.refl e272 (V_env.2.1.ext Od.2) (g := (mkF m 42 #[Rv a1, Iv 5] [(.int ((own_lo x2) &&& (255 : Int32)))])) rfl (hb hby d28_42)
  obtain ⟨cl275, Ar275, -, S275, M275, H275, -⟩ := id V1
  have hin275 : ¬ ((5 : Int32) < 0 ∨ cl275.slots.size ≤ ((5 : Int32)).toNatClampNeg) := inb_of S275 ⟨by decide, by decide⟩
  have hat275 : cl275.slots[((5 : Int32)).toNatClampNeg]? = some (.int (own_hi x2)) := Has.at H275 hin275 rfl
  obtain ⟨T276, X276, e276, st276⟩ := getS2 X274 hx hZ hown (host := "") (Or.inl (own_g hw 116)) Via.refl e274 (V_env.2.2.1.ext Od.2) (g := (mkF m 53 #[Rv a1, Iv 5] [(.int ((own_hi x2) &&& (255 : Int32))), (.int (((own_lo x2) &&& (255 : Int32)) <<< ((0 : Int32) &&& 31)))])) rfl (hb hby d28_53)
  refine own_by (fun _ k => X272.baloadBytes hx (j := (4 : Int32)) (v := (.int (own_lo x2))) (by rw [e272]; exact Ar273.1) (State.isArrayOf_alike hZ.alike Ar273.2.1) Ar273.2.2 hin273 hat273 (g := (mkF m 37 #[Rv a1, Iv 5] [(.int 4), (.ref a1)])) rfl rfl (hb hby d28_37) _ (XS.sipush X272.here hx rfl (hb hby d28_38) (XS.iand X272.here hx rfl (hb hby d28_41) rfl (st274 _ (XS.ishl X274.here hx rfl (hb hby d28_45) rfl (XS.aloadN X274.here hx rfl (hb hby d28_46) rfl rfl (XS.iloadN X274.here hx rfl (hb hby d28_47) rfl (X274.baloadBytes hx (j := (5 : Int32)) (v := (.int (own_hi x2))) (by rw [e274]; exact Ar275.1) (State.isArrayOf_alike hZ.alike Ar275.2.1) Ar275.2.2 hin275 hat275 (g := (mkF m 48 #[Rv a1, Iv 5] [(.int 5), (.ref a1), (.int (((own_lo x2) &&& (255 : Int32)) <<< ((0 : Int32) &&& 31)))])) rfl rfl (hb hby d28_48) _ (XS.sipush X274.here hx rfl (hb hby d28_49) (XS.iand X274.here hx rfl (hb hby d28_52) rfl k)))))))))) ?_
  show own_Fin _ _ _ _ _ _ _ T274 (mkF m 53 #[Rv a1, Iv 5] [(.int ((own_hi x2) &&& (255 : Int32))), (.int (((own_lo x2) &&& (255 : Int32)) <<< ((0 : Int32) &&& 31)))])
  refine own_by (fun _ k => st276 _ (XS.ishl X276.here hx rfl (hb hby d28_56) rfl (XS.ior X276.here hx rfl (hb hby d28_57) rfl (XS.i2c X276.here hx rfl (hb hby d28_58) rfl k)))) ?_
  exact own_retZ X276 hx hlk (t := .char) hret (by simp) (hb hby d28_59) ⟨own_vi (own_u16 hch), N0, e276⟩ (by decide) (by decide)
def own_QrmGC4_3 (x0 x1 x2 x3 : Int32) (h0 : Heap) (n0 : Nat) (v : Option Value) (h : Heap) (L : List Loc) : Prop := v = some (.int x3) ∧ Fr n0 L ∧ h = h0
set_option maxRecDepth 65536 in
set_option maxHeartbeats 40000000 in
theorem rmGC4_3 (l : Launch) (Z : State) (a0 : Array Value) (hw : own_W a0 Z) (ws : List Jvm.Cond) (cs : Int32) (gS : Value) (a1 : Addr) (k1 : ClassId) (x0 x1 x2 x3 : Int32) (h0 : Heap) (n0 : Nat) (Z0 : n0 ≤ h0.size) (V_env : own_Env Z cs gS) (Od : Old Z n0 h0) (V1 : Arv Z h0 a1 k1 .byte (8 : Int32) [(.int (own_lo x0)), (.int (own_hi x0)), (.int (own_lo x1)), (.int (own_hi x1)), (.int (own_lo x2)), (.int (own_hi x2)), (.int (own_lo x3)), (.int (own_hi x3))] (.int (0 : Int32))) (hch : own_ch x3) : own_Met l Z mn8 jdk_52_method_5_code 2 (some .char) ws (own_R 0 0 0 0) #[(.ref a1), (.int (3 : Int32))] h0 (own_QrmGC4_3 x0 x1 x2 x3 h0 n0) := by
  refine own_enter n0 (plainFor_of_name own_pn58) (fun m => ef_RI_2 m a1 (3 : Int32) ) (fun p e s m below meth c s₁ hx hby hlk hml hret hown hnm hZ X0 e0 N0 => ?_)
  show own_Fin _ _ _ _ _ _ _ s₁ (mkF m 0 #[Rv a1, Iv 3] [])
  obtain ⟨T277, X277, e277, st277⟩ := getS2 X0 hx hZ hown (host := "") (Or.inl (own_g hw 114)) Via.refl e0 (V_env.1.ext Od.2) (g := (mkF m 0 #[Rv a1, Iv 3] [])) rfl (hb hby d28_0)
  refine own_by (fun _ k => st277 _ (XS.ifYes X277.here hx rfl (pc0 := 3) (pc' := 28) rfl (hb hby d28_3) rfl ((if0 _ _).trans (feq (by decide : ¬ ((1 : Int32) = (0 : Int32)))).2) (by decide) (by decide) (XS.iloadN X277.here hx rfl (hb hby d28_28) rfl (XS.iconst X277.here hx rfl (hb hby d28_29) (XS.ishl X277.here hx rfl (hb hby d28_30) rfl k))))) ?_
  show own_Fin _ _ _ _ _ _ _ T277 (mkF m 31 #[Rv a1, Iv 3] [(.int ((3 : Int32) <<< ((1 : Int32) &&& 31)))])
  rw [(by decide : ((3 : Int32) <<< ((1 : Int32) &&& 31)) = (6 : Int32))]
  show own_Fin _ _ _ _ _ _ _ T277 (mkF m 31 #[Rv a1, Iv 3] [(.int 6)])
  refine own_by (fun _ k => XS.istoreN X277.here hx rfl (hb hby d28_31) rfl (l' := #[Rv a1, Iv 6]) rfl (XS.aloadN X277.here hx rfl (hb hby d28_32) rfl rfl (XS.iloadN X277.here hx rfl (hb hby d28_33) rfl (XS.iinc X277.here hx rfl (hb hby d28_34) rfl (l' := #[Rv a1, Iv ((6 : Int32) + (1 : Int32))]) rfl k)))) ?_
  show own_Fin _ _ _ _ _ _ _ T277 (mkF m 37 #[Rv a1, Iv ((6 : Int32) + (1 : Int32))] [(.int 6), (.ref a1)])
  rw [(by decide : ((6 : Int32) + (1 : Int32)) = (7 : Int32))]
  show own_Fin _ _ _ _ _ _ _ T277 (mkF m 37 #[Rv a1, Iv 7] [(.int 6), (.ref a1)])
  obtain ⟨cl278, Ar278, -, S278, M278, H278, -⟩ := id V1
  have hin278 : ¬ ((6 : Int32) < 0 ∨ cl278.slots.size ≤ ((6 : Int32)).toNatClampNeg) := inb_of S278 ⟨by decide, by decide⟩
  have hat278 : cl278.slots[((6 : Int32)).toNatClampNeg]? = some (.int (own_lo x3)) := Has.at H278 hin278 rfl
  obtain ⟨T279, X279, e279, st279⟩ := getS2 X277 hx hZ hown (host := "") (Or.inl (own_g hw 115)) Via.refl e277 (V_env.2.1.ext Od.2) (g := (mkF m 42 #[Rv a1, Iv 7] [(.int ((own_lo x3) &&& (255 : Int32)))])) rfl (hb hby d28_42)
  obtain ⟨cl280, Ar280, -, S280, M280, H280, -⟩ := id V1
  have hin280 : ¬ ((7 : Int32) < 0 ∨ cl280.slots.size ≤ ((7 : Int32)).toNatClampNeg) := inb_of S280 ⟨by decide, by decide⟩
  have hat280 : cl280.slots[((7 : Int32)).toNatClampNeg]? = some (.int (own_hi x3)) := Has.at H280 hin280 rfl
  obtain ⟨T281, X281, e281, st281⟩ := getS2 X279 hx hZ hown (host := "") (Or.inl (own_g hw 116)) Via.refl e279 (V_env.2.2.1.ext Od.2) (g := (mkF m 53 #[Rv a1, Iv 7] [(.int ((own_hi x3) &&& (255 : Int32))), (.int (((own_lo x3) &&& (255 : Int32)) <<< ((0 : Int32) &&& 31)))])) rfl (hb hby d28_53)
  refine own_by (fun _ k => X277.baloadBytes hx (j := (6 : Int32)) (v := (.int (own_lo x3))) (by rw [e277]; exact Ar278.1) (State.isArrayOf_alike hZ.alike Ar278.2.1) Ar278.2.2 hin278 hat278 (g := (mkF m 37 #[Rv a1, Iv 7] [(.int 6), (.ref a1)])) rfl rfl (hb hby d28_37) _ (XS.sipush X277.here hx rfl (hb hby d28_38) (XS.iand X277.here hx rfl (hb hby d28_41) rfl (st279 _ (XS.ishl X279.here hx rfl (hb hby d28_45) rfl (XS.aloadN X279.here hx rfl (hb hby d28_46) rfl rfl (XS.iloadN X279.here hx rfl (hb hby d28_47) rfl (X279.baloadBytes hx (j := (7 : Int32)) (v := (.int (own_hi x3))) (by rw [e279]; exact Ar280.1) (State.isArrayOf_alike hZ.alike Ar280.2.1) Ar280.2.2 hin280 hat280 (g := (mkF m 48 #[Rv a1, Iv 7] [(.int 7), (.ref a1), (.int (((own_lo x3) &&& (255 : Int32)) <<< ((0 : Int32) &&& 31)))])) rfl rfl (hb hby d28_48) _ (XS.sipush X279.here hx rfl (hb hby d28_49) (XS.iand X279.here hx rfl (hb hby d28_52) rfl k)))))))))) ?_
  show own_Fin _ _ _ _ _ _ _ T279 (mkF m 53 #[Rv a1, Iv 7] [(.int ((own_hi x3) &&& (255 : Int32))), (.int (((own_lo x3) &&& (255 : Int32)) <<< ((0 : Int32) &&& 31)))])
  refine own_by (fun _ k => st281 _ (XS.ishl X281.here hx rfl (hb hby d28_56) rfl (XS.ior X281.here hx rfl (hb hby d28_57) rfl (XS.i2c X281.here hx rfl (hb hby d28_58) rfl k)))) ?_
  exact own_retZ X281 hx hlk (t := .char) hret (by simp) (hb hby d28_59) ⟨own_vi (own_u16 hch), N0, e281⟩ (by decide) (by decide)
def own_bad4 (r : Int32) (x0 x1 x2 x3 : Int32) : Prop := (r = (0 : Int32) ∧ (255 : Int32) < x0) ∨ (r = (1 : Int32) ∧ (255 : Int32) < x1) ∨ (r = (2 : Int32) ∧ (255 : Int32) < x2) ∨ (r = (3 : Int32) ∧ (255 : Int32) < x3)
def own_QXI4 (Z : State) (a3 : Addr) (kb : ClassId) (x0 x1 x2 x3 : Int32) (h0 : Heap) (n0 : Nat) (v : Option Value) (h : Heap) (L : List Loc) : Prop := ∃ r : Int32, v = some (.int r) ∧ Fr n0 L ∧ Keep h0 h [a3] ∧ ((r = (4 : Int32) ∧ Arv Z h a3 kb .byte (4 : Int32) [(.int x0.toInt8.toInt32), (.int x1.toInt8.toInt32), (.int x2.toInt8.toInt32), (.int x3.toInt8.toInt32)] (.int (0 : Int32)) ∧ ¬ (255 : Int32) < x0 ∧ ¬ (255 : Int32) < x1 ∧ ¬ (255 : Int32) < x2 ∧ ¬ (255 : Int32) < x3) ∨ own_bad4 r x0 x1 x2 x3)
set_option maxRecDepth 65536 in
set_option maxHeartbeats 40000000 in
theorem rmXI4 (l : Launch) (Z : State) (a0 : Array Value) (hw : own_W a0 Z) (ws : List Jvm.Cond) (a1 a3 : Addr) (kc kb : ClassId) (x0 x1 x2 x3 : Int32) (h0 : Heap) (n0 : Nat) (Z0 : n0 ≤ h0.size) (V1 : Arv Z h0 a1 kc .char (4 : Int32) [(.int x0), (.int x1), (.int x2), (.int x3)] (.int (0 : Int32))) (V3 : Arv Z h0 a3 kb .byte (4 : Int32) [(.int (0 : Int32)), (.int (0 : Int32)), (.int (0 : Int32)), (.int (0 : Int32))] (.int (0 : Int32))) (ne13 : a1 ≠ a3) (g_3 : n0 ≤ a3) : own_Met l Z mn9 jdk_52_method_21_code 7 (some .int) ws (own_R 0 0 0 0) #[(.ref a1), (.int (0 : Int32)), (.ref a3), (.int (0 : Int32)), (.int (4 : Int32))] h0 (own_QXI4 Z a3 kb x0 x1 x2 x3 h0 n0) := by
  refine own_enter n0 (plainFor_of_name own_pn58) (fun m => ef_RIRII_7 m a1 (0 : Int32) a3 (0 : Int32) (4 : Int32) ) (fun p e s m below meth c s₁ hx hby hlk hml hret hown hnm hZ X0 e0 N0 => ?_)
  show own_Fin _ _ _ _ _ _ _ s₁ (mkF m 0 #[Rv a1, Iv 0, Rv a3, Iv 0, Iv 4, Uv, Uv] [])
  have Kp282 : Keep h0 h0 [a3] := Keep.refl h0 _
  obtain ⟨cl283, Ar283, -, S283, M283, H283, -⟩ := id V1
  have hin283 : ¬ ((0 : Int32) < 0 ∨ cl283.slots.size ≤ ((0 : Int32)).toNatClampNeg) := inb_of S283 ⟨by decide, by decide⟩
  have hat283 : cl283.slots[((0 : Int32)).toNatClampNeg]? = some (.int x0) := Has.at H283 hin283 rfl
  refine own_by (fun _ k => XS.iconst X0.here hx rfl (hb hby d16_0) (XS.istore X0.here hx rfl (hb hby d16_1) rfl (l' := #[Rv a1, Iv 0, Rv a3, Iv 0, Iv 4, Iv 0, Uv]) rfl (XS.iload X0.here hx rfl (hb hby d16_3) rfl (XS.iload X0.here hx rfl (hb hby d16_5) rfl (XS.icmpNo X0.here hx rfl (hb hby d16_7) rfl (tlt (by decide : (0 : Int32) < (4 : Int32))).2.1 (XS.aloadN X0.here hx rfl (hb hby d16_10) rfl rfl (XS.iloadN X0.here hx rfl (hb hby d16_11) rfl (X0.caload hx (j := (0 : Int32)) (v := (.int x0)) (by rw [e0]; exact Ar283.1) (State.isArrayOf_alike hZ.alike Ar283.2.1) Ar283.2.2 hin283 hat283 (g := (mkF m 12 #[Rv a1, Iv 0, Rv a3, Iv 0, Iv 4, Iv 0, Uv] [(.int 0), (.ref a1)])) rfl rfl (hb hby d16_12) _ (XS.istore X0.here hx rfl (hb hby d16_13) rfl (l' := #[Rv a1, Iv 0, Rv a3, Iv 0, Iv 4, Iv 0, Iv x0]) rfl (XS.iload X0.here hx rfl (hb hby d16_15) rfl k)))))))))) ?_
  show own_Fin _ _ _ _ _ _ _ s₁ (mkF m 17 #[Rv a1, Iv 0, Rv a3, Iv 0, Iv 4, Iv 0, Iv x0] [(.int x0)])
  refine own_by (fun _ k => XS.sipush X0.here hx rfl (hb hby d16_17) k) ?_
  show own_Fin _ _ _ _ _ _ _ s₁ (mkF m 20 #[Rv a1, Iv 0, Rv a3, Iv 0, Iv 4, Iv 0, Iv x0] [(.int 255), (.int x0)])
  by_cases hc20_284 : (255 : Int32) < x0
  · show own_Fin _ _ _ _ _ _ _ s₁ (mkF m 20 #[Rv a1, Iv 0, Rv a3, Iv 0, Iv 4, Iv 0, Iv x0] [(.int 255), (.int x0)])
    refine own_by (fun _ k => XS.icmpNo X0.here hx rfl (hb hby d16_20) rfl (tlt hc20_284).2.2.2 (XS.iload X0.here hx rfl (hb hby d16_23) rfl k)) ?_
    exact own_retI X0 hx hlk hret (hb hby d16_25) (by rw [e0]; exact ⟨_, rfl, N0, Kp282, Or.inr (Or.inl ⟨rfl, hc20_284⟩)⟩) (by decide) (by decide)
  · show own_Fin _ _ _ _ _ _ _ s₁ (mkF m 20 #[Rv a1, Iv 0, Rv a3, Iv 0, Iv 4, Iv 0, Iv x0] [(.int 255), (.int x0)])
    obtain ⟨cl285, Ar285, q285, S285, M285, H285, G285⟩ := id V3
    have hin285 : ¬ ((0 : Int32) < 0 ∨ cl285.slots.size ≤ ((0 : Int32)).toNatClampNeg) := inb_of S285 ⟨by decide, by decide⟩
    obtain ⟨T285, h285, X285, e285, W285, st285⟩ := stB X0 hx hZ e0 Ar285 (j := (0 : Int32)) hin285 (g := (mkF m 31 #[Rv a1, Iv 0, Rv a3, Iv 0, Iv 4, Iv 0, Iv x0] [(.int (x0.toInt8.toInt32)), (.int 0), (.ref a3)])) rfl rfl (hb hby d16_31)
    have V285 : Arv Z h285 a3 kb .byte (4 : Int32) [(.int (x0.toInt8.toInt32).toInt8.toInt32), (.int (0 : Int32)), (.int (0 : Int32)), (.int (0 : Int32))] (.int (0 : Int32)) := Arv.set Ar285 q285 S285 M285 H285 G285 (fits_nar_byte _) W285 0 rfl (Nat.le_of_ble_eq_true rfl)
    have Kp285 : Keep h0 h285 [a3] := Kp282.wr W285 (Or.inl (List.mem_of_getElem? (i := 0) rfl))
    have Zs285 : n0 ≤ h285.size := Nat.le_trans Z0 (Keep.of_wr W285).1
    have N285 := Fr.snoc X285 N0 g_3
    have f286_0 : Arv Z h285 a1 kc .char (4 : Int32) [(.int x0), (.int x1), (.int x2), (.int x3)] (.int (0 : Int32)) := V1.other W285 ne13
    refine own_by (fun _ k => XS.icmpYes X0.here hx rfl (pc0 := 20) (pc' := 26) rfl (hb hby d16_20) rfl (flt hc20_284).2.2.2 (by decide) (by decide) (XS.aloadN X0.here hx rfl (hb hby d16_26) rfl rfl (XS.iloadN X0.here hx rfl (hb hby d16_27) rfl (XS.iload X0.here hx rfl (hb hby d16_28) rfl (XS.i2b X0.here hx rfl (hb hby d16_30) rfl (st285 _ (XS.iinc X285.here hx rfl (hb hby d16_32) rfl (l' := #[Rv a1, Iv ((0 : Int32) + (1 : Int32)), Rv a3, Iv 0, Iv 4, Iv 0, Iv x0]) rfl k))))))) ?_
    show own_Fin _ _ _ _ _ _ _ T285 (mkF m 35 #[Rv a1, Iv ((0 : Int32) + (1 : Int32)), Rv a3, Iv 0, Iv 4, Iv 0, Iv x0] [])
    rw [(by decide : ((0 : Int32) + (1 : Int32)) = (1 : Int32))]
    show own_Fin _ _ _ _ _ _ _ T285 (mkF m 35 #[Rv a1, Iv 1, Rv a3, Iv 0, Iv 4, Iv 0, Iv x0] [])
    refine own_by (fun _ k => XS.iinc X285.here hx rfl (hb hby d16_35) rfl (l' := #[Rv a1, Iv 1, Rv a3, Iv ((0 : Int32) + (1 : Int32)), Iv 4, Iv 0, Iv x0]) rfl k) ?_
    show own_Fin _ _ _ _ _ _ _ T285 (mkF m 38 #[Rv a1, Iv 1, Rv a3, Iv ((0 : Int32) + (1 : Int32)), Iv 4, Iv 0, Iv x0] [])
    rw [(by decide : ((0 : Int32) + (1 : Int32)) = (1 : Int32))]
    show own_Fin _ _ _ _ _ _ _ T285 (mkF m 38 #[Rv a1, Iv 1, Rv a3, Iv 1, Iv 4, Iv 0, Iv x0] [])
    refine own_by (fun _ k => XS.iinc X285.here hx rfl (hb hby d16_38) rfl (l' := #[Rv a1, Iv 1, Rv a3, Iv 1, Iv 4, Iv ((0 : Int32) + (1 : Int32)), Iv x0]) rfl k) ?_
    show own_Fin _ _ _ _ _ _ _ T285 (mkF m 41 #[Rv a1, Iv 1, Rv a3, Iv 1, Iv 4, Iv ((0 : Int32) + (1 : Int32)), Iv x0] [])
    rw [(by decide : ((0 : Int32) + (1 : Int32)) = (1 : Int32))]
    show own_Fin _ _ _ _ _ _ _ T285 (mkF m 41 #[Rv a1, Iv 1, Rv a3, Iv 1, Iv 4, Iv 1, Iv x0] [])
    obtain ⟨cl287, Ar287, -, S287, M287, H287, -⟩ := id f286_0
    have hin287 : ¬ ((1 : Int32) < 0 ∨ cl287.slots.size ≤ ((1 : Int32)).toNatClampNeg) := inb_of S287 ⟨by decide, by decide⟩
    have hat287 : cl287.slots[((1 : Int32)).toNatClampNeg]? = some (.int x1) := Has.at H287 hin287 rfl
    refine own_by (fun _ k => XS.goto X285.here hx rfl (pc0 := 41) (pc' := 3) rfl (hb hby d16_41) (by decide) (by decide) (XS.iload X285.here hx rfl (hb hby d16_3) rfl (XS.iload X285.here hx rfl (hb hby d16_5) rfl (XS.icmpNo X285.here hx rfl (hb hby d16_7) rfl (tlt (by decide : (1 : Int32) < (4 : Int32))).2.1 (XS.aloadN X285.here hx rfl (hb hby d16_10) rfl rfl (XS.iloadN X285.here hx rfl (hb hby d16_11) rfl (X285.caload hx (j := (1 : Int32)) (v := (.int x1)) (by rw [e285]; exact Ar287.1) (State.isArrayOf_alike hZ.alike Ar287.2.1) Ar287.2.2 hin287 hat287 (g := (mkF m 12 #[Rv a1, Iv 1, Rv a3, Iv 1, Iv 4, Iv 1, Iv x0] [(.int 1), (.ref a1)])) rfl rfl (hb hby d16_12) _ (XS.istore X285.here hx rfl (hb hby d16_13) rfl (l' := #[Rv a1, Iv 1, Rv a3, Iv 1, Iv 4, Iv 1, Iv x1]) rfl (XS.iload X285.here hx rfl (hb hby d16_15) rfl (XS.sipush X285.here hx rfl (hb hby d16_17) k)))))))))) ?_
    show own_Fin _ _ _ _ _ _ _ T285 (mkF m 20 #[Rv a1, Iv 1, Rv a3, Iv 1, Iv 4, Iv 1, Iv x1] [(.int 255), (.int x1)])
    by_cases hc20_288 : (255 : Int32) < x1
    · show own_Fin _ _ _ _ _ _ _ T285 (mkF m 20 #[Rv a1, Iv 1, Rv a3, Iv 1, Iv 4, Iv 1, Iv x1] [(.int 255), (.int x1)])
      refine own_by (fun _ k => XS.icmpNo X285.here hx rfl (hb hby d16_20) rfl (tlt hc20_288).2.2.2 (XS.iload X285.here hx rfl (hb hby d16_23) rfl k)) ?_
      exact own_retI X285 hx hlk hret (hb hby d16_25) (by rw [e285]; exact ⟨_, rfl, N285, Kp285, Or.inr (Or.inr (Or.inl ⟨rfl, hc20_288⟩))⟩) (by decide) (by decide)
    · show own_Fin _ _ _ _ _ _ _ T285 (mkF m 20 #[Rv a1, Iv 1, Rv a3, Iv 1, Iv 4, Iv 1, Iv x1] [(.int 255), (.int x1)])
      obtain ⟨cl289, Ar289, q289, S289, M289, H289, G289⟩ := id V285
      have hin289 : ¬ ((1 : Int32) < 0 ∨ cl289.slots.size ≤ ((1 : Int32)).toNatClampNeg) := inb_of S289 ⟨by decide, by decide⟩
      obtain ⟨T289, h289, X289, e289, W289, st289⟩ := stB X285 hx hZ e285 Ar289 (j := (1 : Int32)) hin289 (g := (mkF m 31 #[Rv a1, Iv 1, Rv a3, Iv 1, Iv 4, Iv 1, Iv x1] [(.int (x1.toInt8.toInt32)), (.int 1), (.ref a3)])) rfl rfl (hb hby d16_31)
      have V289 : Arv Z h289 a3 kb .byte (4 : Int32) [(.int (x0.toInt8.toInt32).toInt8.toInt32), (.int (x1.toInt8.toInt32).toInt8.toInt32), (.int (0 : Int32)), (.int (0 : Int32))] (.int (0 : Int32)) := Arv.set Ar289 q289 S289 M289 H289 G289 (fits_nar_byte _) W289 1 rfl (Nat.le_of_ble_eq_true rfl)
      have Kp289 : Keep h0 h289 [a3] := Kp285.wr W289 (Or.inl (List.mem_of_getElem? (i := 0) rfl))
      have Zs289 : n0 ≤ h289.size := Nat.le_trans Zs285 (Keep.of_wr W289).1
      have N289 := Fr.snoc X289 N285 g_3
      have f290_0 : Arv Z h289 a1 kc .char (4 : Int32) [(.int x0), (.int x1), (.int x2), (.int x3)] (.int (0 : Int32)) := f286_0.other W289 ne13
      refine own_by (fun _ k => XS.icmpYes X285.here hx rfl (pc0 := 20) (pc' := 26) rfl (hb hby d16_20) rfl (flt hc20_288).2.2.2 (by decide) (by decide) (XS.aloadN X285.here hx rfl (hb hby d16_26) rfl rfl (XS.iloadN X285.here hx rfl (hb hby d16_27) rfl (XS.iload X285.here hx rfl (hb hby d16_28) rfl (XS.i2b X285.here hx rfl (hb hby d16_30) rfl (st289 _ (XS.iinc X289.here hx rfl (hb hby d16_32) rfl (l' := #[Rv a1, Iv ((1 : Int32) + (1 : Int32)), Rv a3, Iv 1, Iv 4, Iv 1, Iv x1]) rfl k))))))) ?_
      show own_Fin _ _ _ _ _ _ _ T289 (mkF m 35 #[Rv a1, Iv ((1 : Int32) + (1 : Int32)), Rv a3, Iv 1, Iv 4, Iv 1, Iv x1] [])
      rw [(by decide : ((1 : Int32) + (1 : Int32)) = (2 : Int32))]
      show own_Fin _ _ _ _ _ _ _ T289 (mkF m 35 #[Rv a1, Iv 2, Rv a3, Iv 1, Iv 4, Iv 1, Iv x1] [])
      refine own_by (fun _ k => XS.iinc X289.here hx rfl (hb hby d16_35) rfl (l' := #[Rv a1, Iv 2, Rv a3, Iv ((1 : Int32) + (1 : Int32)), Iv 4, Iv 1, Iv x1]) rfl k) ?_
      show own_Fin _ _ _ _ _ _ _ T289 (mkF m 38 #[Rv a1, Iv 2, Rv a3, Iv ((1 : Int32) + (1 : Int32)), Iv 4, Iv 1, Iv x1] [])
      rw [(by decide : ((1 : Int32) + (1 : Int32)) = (2 : Int32))]
      show own_Fin _ _ _ _ _ _ _ T289 (mkF m 38 #[Rv a1, Iv 2, Rv a3, Iv 2, Iv 4, Iv 1, Iv x1] [])
      refine own_by (fun _ k => XS.iinc X289.here hx rfl (hb hby d16_38) rfl (l' := #[Rv a1, Iv 2, Rv a3, Iv 2, Iv 4, Iv ((1 : Int32) + (1 : Int32)), Iv x1]) rfl k) ?_
      show own_Fin _ _ _ _ _ _ _ T289 (mkF m 41 #[Rv a1, Iv 2, Rv a3, Iv 2, Iv 4, Iv ((1 : Int32) + (1 : Int32)), Iv x1] [])
      rw [(by decide : ((1 : Int32) + (1 : Int32)) = (2 : Int32))]
      show own_Fin _ _ _ _ _ _ _ T289 (mkF m 41 #[Rv a1, Iv 2, Rv a3, Iv 2, Iv 4, Iv 2, Iv x1] [])
      obtain ⟨cl291, Ar291, -, S291, M291, H291, -⟩ := id f290_0
      have hin291 : ¬ ((2 : Int32) < 0 ∨ cl291.slots.size ≤ ((2 : Int32)).toNatClampNeg) := inb_of S291 ⟨by decide, by decide⟩
      have hat291 : cl291.slots[((2 : Int32)).toNatClampNeg]? = some (.int x2) := Has.at H291 hin291 rfl
      refine own_by (fun _ k => XS.goto X289.here hx rfl (pc0 := 41) (pc' := 3) rfl (hb hby d16_41) (by decide) (by decide) (XS.iload X289.here hx rfl (hb hby d16_3) rfl (XS.iload X289.here hx rfl (hb hby d16_5) rfl (XS.icmpNo X289.here hx rfl (hb hby d16_7) rfl (tlt (by decide : (2 : Int32) < (4 : Int32))).2.1 (XS.aloadN X289.here hx rfl (hb hby d16_10) rfl rfl (XS.iloadN X289.here hx rfl (hb hby d16_11) rfl (X289.caload hx (j := (2 : Int32)) (v := (.int x2)) (by rw [e289]; exact Ar291.1) (State.isArrayOf_alike hZ.alike Ar291.2.1) Ar291.2.2 hin291 hat291 (g := (mkF m 12 #[Rv a1, Iv 2, Rv a3, Iv 2, Iv 4, Iv 2, Iv x1] [(.int 2), (.ref a1)])) rfl rfl (hb hby d16_12) _ (XS.istore X289.here hx rfl (hb hby d16_13) rfl (l' := #[Rv a1, Iv 2, Rv a3, Iv 2, Iv 4, Iv 2, Iv x2]) rfl (XS.iload X289.here hx rfl (hb hby d16_15) rfl (XS.sipush X289.here hx rfl (hb hby d16_17) k)))))))))) ?_
      show own_Fin _ _ _ _ _ _ _ T289 (mkF m 20 #[Rv a1, Iv 2, Rv a3, Iv 2, Iv 4, Iv 2, Iv x2] [(.int 255), (.int x2)])
      by_cases hc20_292 : (255 : Int32) < x2
      · show own_Fin _ _ _ _ _ _ _ T289 (mkF m 20 #[Rv a1, Iv 2, Rv a3, Iv 2, Iv 4, Iv 2, Iv x2] [(.int 255), (.int x2)])
        refine own_by (fun _ k => XS.icmpNo X289.here hx rfl (hb hby d16_20) rfl (tlt hc20_292).2.2.2 (XS.iload X289.here hx rfl (hb hby d16_23) rfl k)) ?_
        exact own_retI X289 hx hlk hret (hb hby d16_25) (by rw [e289]; exact ⟨_, rfl, N289, Kp289, Or.inr (Or.inr (Or.inr (Or.inl ⟨rfl, hc20_292⟩)))⟩) (by decide) (by decide)
      · show own_Fin _ _ _ _ _ _ _ T289 (mkF m 20 #[Rv a1, Iv 2, Rv a3, Iv 2, Iv 4, Iv 2, Iv x2] [(.int 255), (.int x2)])
        obtain ⟨cl293, Ar293, q293, S293, M293, H293, G293⟩ := id V289
        have hin293 : ¬ ((2 : Int32) < 0 ∨ cl293.slots.size ≤ ((2 : Int32)).toNatClampNeg) := inb_of S293 ⟨by decide, by decide⟩
        obtain ⟨T293, h293, X293, e293, W293, st293⟩ := stB X289 hx hZ e289 Ar293 (j := (2 : Int32)) hin293 (g := (mkF m 31 #[Rv a1, Iv 2, Rv a3, Iv 2, Iv 4, Iv 2, Iv x2] [(.int (x2.toInt8.toInt32)), (.int 2), (.ref a3)])) rfl rfl (hb hby d16_31)
        have V293 : Arv Z h293 a3 kb .byte (4 : Int32) [(.int (x0.toInt8.toInt32).toInt8.toInt32), (.int (x1.toInt8.toInt32).toInt8.toInt32), (.int (x2.toInt8.toInt32).toInt8.toInt32), (.int (0 : Int32))] (.int (0 : Int32)) := Arv.set Ar293 q293 S293 M293 H293 G293 (fits_nar_byte _) W293 2 rfl (Nat.le_of_ble_eq_true rfl)
        have Kp293 : Keep h0 h293 [a3] := Kp289.wr W293 (Or.inl (List.mem_of_getElem? (i := 0) rfl))
        have Zs293 : n0 ≤ h293.size := Nat.le_trans Zs289 (Keep.of_wr W293).1
        have N293 := Fr.snoc X293 N289 g_3
        have f294_0 : Arv Z h293 a1 kc .char (4 : Int32) [(.int x0), (.int x1), (.int x2), (.int x3)] (.int (0 : Int32)) := f290_0.other W293 ne13
        refine own_by (fun _ k => XS.icmpYes X289.here hx rfl (pc0 := 20) (pc' := 26) rfl (hb hby d16_20) rfl (flt hc20_292).2.2.2 (by decide) (by decide) (XS.aloadN X289.here hx rfl (hb hby d16_26) rfl rfl (XS.iloadN X289.here hx rfl (hb hby d16_27) rfl (XS.iload X289.here hx rfl (hb hby d16_28) rfl (XS.i2b X289.here hx rfl (hb hby d16_30) rfl (st293 _ (XS.iinc X293.here hx rfl (hb hby d16_32) rfl (l' := #[Rv a1, Iv ((2 : Int32) + (1 : Int32)), Rv a3, Iv 2, Iv 4, Iv 2, Iv x2]) rfl k))))))) ?_
        show own_Fin _ _ _ _ _ _ _ T293 (mkF m 35 #[Rv a1, Iv ((2 : Int32) + (1 : Int32)), Rv a3, Iv 2, Iv 4, Iv 2, Iv x2] [])
        rw [(by decide : ((2 : Int32) + (1 : Int32)) = (3 : Int32))]
        show own_Fin _ _ _ _ _ _ _ T293 (mkF m 35 #[Rv a1, Iv 3, Rv a3, Iv 2, Iv 4, Iv 2, Iv x2] [])
        refine own_by (fun _ k => XS.iinc X293.here hx rfl (hb hby d16_35) rfl (l' := #[Rv a1, Iv 3, Rv a3, Iv ((2 : Int32) + (1 : Int32)), Iv 4, Iv 2, Iv x2]) rfl k) ?_
        show own_Fin _ _ _ _ _ _ _ T293 (mkF m 38 #[Rv a1, Iv 3, Rv a3, Iv ((2 : Int32) + (1 : Int32)), Iv 4, Iv 2, Iv x2] [])
        rw [(by decide : ((2 : Int32) + (1 : Int32)) = (3 : Int32))]
        show own_Fin _ _ _ _ _ _ _ T293 (mkF m 38 #[Rv a1, Iv 3, Rv a3, Iv 3, Iv 4, Iv 2, Iv x2] [])
        refine own_by (fun _ k => XS.iinc X293.here hx rfl (hb hby d16_38) rfl (l' := #[Rv a1, Iv 3, Rv a3, Iv 3, Iv 4, Iv ((2 : Int32) + (1 : Int32)), Iv x2]) rfl k) ?_
        show own_Fin _ _ _ _ _ _ _ T293 (mkF m 41 #[Rv a1, Iv 3, Rv a3, Iv 3, Iv 4, Iv ((2 : Int32) + (1 : Int32)), Iv x2] [])
        rw [(by decide : ((2 : Int32) + (1 : Int32)) = (3 : Int32))]
        show own_Fin _ _ _ _ _ _ _ T293 (mkF m 41 #[Rv a1, Iv 3, Rv a3, Iv 3, Iv 4, Iv 3, Iv x2] [])
        obtain ⟨cl295, Ar295, -, S295, M295, H295, -⟩ := id f294_0
        have hin295 : ¬ ((3 : Int32) < 0 ∨ cl295.slots.size ≤ ((3 : Int32)).toNatClampNeg) := inb_of S295 ⟨by decide, by decide⟩
        have hat295 : cl295.slots[((3 : Int32)).toNatClampNeg]? = some (.int x3) := Has.at H295 hin295 rfl
        refine own_by (fun _ k => XS.goto X293.here hx rfl (pc0 := 41) (pc' := 3) rfl (hb hby d16_41) (by decide) (by decide) (XS.iload X293.here hx rfl (hb hby d16_3) rfl (XS.iload X293.here hx rfl (hb hby d16_5) rfl (XS.icmpNo X293.here hx rfl (hb hby d16_7) rfl (tlt (by decide : (3 : Int32) < (4 : Int32))).2.1 (XS.aloadN X293.here hx rfl (hb hby d16_10) rfl rfl (XS.iloadN X293.here hx rfl (hb hby d16_11) rfl (X293.caload hx (j := (3 : Int32)) (v := (.int x3)) (by rw [e293]; exact Ar295.1) (State.isArrayOf_alike hZ.alike Ar295.2.1) Ar295.2.2 hin295 hat295 (g := (mkF m 12 #[Rv a1, Iv 3, Rv a3, Iv 3, Iv 4, Iv 3, Iv x2] [(.int 3), (.ref a1)])) rfl rfl (hb hby d16_12) _ (XS.istore X293.here hx rfl (hb hby d16_13) rfl (l' := #[Rv a1, Iv 3, Rv a3, Iv 3, Iv 4, Iv 3, Iv x3]) rfl (XS.iload X293.here hx rfl (hb hby d16_15) rfl (XS.sipush X293.here hx rfl (hb hby d16_17) k)))))))))) ?_
        show own_Fin _ _ _ _ _ _ _ T293 (mkF m 20 #[Rv a1, Iv 3, Rv a3, Iv 3, Iv 4, Iv 3, Iv x3] [(.int 255), (.int x3)])
        by_cases hc20_296 : (255 : Int32) < x3
        · show own_Fin _ _ _ _ _ _ _ T293 (mkF m 20 #[Rv a1, Iv 3, Rv a3, Iv 3, Iv 4, Iv 3, Iv x3] [(.int 255), (.int x3)])
          refine own_by (fun _ k => XS.icmpNo X293.here hx rfl (hb hby d16_20) rfl (tlt hc20_296).2.2.2 (XS.iload X293.here hx rfl (hb hby d16_23) rfl k)) ?_
          exact own_retI X293 hx hlk hret (hb hby d16_25) (by rw [e293]; exact ⟨_, rfl, N293, Kp293, Or.inr (Or.inr (Or.inr (Or.inr ⟨rfl, hc20_296⟩)))⟩) (by decide) (by decide)
        · show own_Fin _ _ _ _ _ _ _ T293 (mkF m 20 #[Rv a1, Iv 3, Rv a3, Iv 3, Iv 4, Iv 3, Iv x3] [(.int 255), (.int x3)])
          obtain ⟨cl297, Ar297, q297, S297, M297, H297, G297⟩ := id V293
          have hin297 : ¬ ((3 : Int32) < 0 ∨ cl297.slots.size ≤ ((3 : Int32)).toNatClampNeg) := inb_of S297 ⟨by decide, by decide⟩
          obtain ⟨T297, h297, X297, e297, W297, st297⟩ := stB X293 hx hZ e293 Ar297 (j := (3 : Int32)) hin297 (g := (mkF m 31 #[Rv a1, Iv 3, Rv a3, Iv 3, Iv 4, Iv 3, Iv x3] [(.int (x3.toInt8.toInt32)), (.int 3), (.ref a3)])) rfl rfl (hb hby d16_31)
          have V297 : Arv Z h297 a3 kb .byte (4 : Int32) [(.int (x0.toInt8.toInt32).toInt8.toInt32), (.int (x1.toInt8.toInt32).toInt8.toInt32), (.int (x2.toInt8.toInt32).toInt8.toInt32), (.int (x3.toInt8.toInt32).toInt8.toInt32)] (.int (0 : Int32)) := Arv.set Ar297 q297 S297 M297 H297 G297 (fits_nar_byte _) W297 3 rfl (Nat.le_of_ble_eq_true rfl)
          have Kp297 : Keep h0 h297 [a3] := Kp293.wr W297 (Or.inl (List.mem_of_getElem? (i := 0) rfl))
          have Zs297 : n0 ≤ h297.size := Nat.le_trans Zs293 (Keep.of_wr W297).1
          have N297 := Fr.snoc X297 N293 g_3
          have f298_0 : Arv Z h297 a1 kc .char (4 : Int32) [(.int x0), (.int x1), (.int x2), (.int x3)] (.int (0 : Int32)) := f294_0.other W297 ne13
          refine own_by (fun _ k => XS.icmpYes X293.here hx rfl (pc0 := 20) (pc' := 26) rfl (hb hby d16_20) rfl (flt hc20_296).2.2.2 (by decide) (by decide) (XS.aloadN X293.here hx rfl (hb hby d16_26) rfl rfl (XS.iloadN X293.here hx rfl (hb hby d16_27) rfl (XS.iload X293.here hx rfl (hb hby d16_28) rfl (XS.i2b X293.here hx rfl (hb hby d16_30) rfl (st297 _ (XS.iinc X297.here hx rfl (hb hby d16_32) rfl (l' := #[Rv a1, Iv ((3 : Int32) + (1 : Int32)), Rv a3, Iv 3, Iv 4, Iv 3, Iv x3]) rfl k))))))) ?_
          show own_Fin _ _ _ _ _ _ _ T297 (mkF m 35 #[Rv a1, Iv ((3 : Int32) + (1 : Int32)), Rv a3, Iv 3, Iv 4, Iv 3, Iv x3] [])
          rw [(by decide : ((3 : Int32) + (1 : Int32)) = (4 : Int32))]
          show own_Fin _ _ _ _ _ _ _ T297 (mkF m 35 #[Rv a1, Iv 4, Rv a3, Iv 3, Iv 4, Iv 3, Iv x3] [])
          refine own_by (fun _ k => XS.iinc X297.here hx rfl (hb hby d16_35) rfl (l' := #[Rv a1, Iv 4, Rv a3, Iv ((3 : Int32) + (1 : Int32)), Iv 4, Iv 3, Iv x3]) rfl k) ?_
          show own_Fin _ _ _ _ _ _ _ T297 (mkF m 38 #[Rv a1, Iv 4, Rv a3, Iv ((3 : Int32) + (1 : Int32)), Iv 4, Iv 3, Iv x3] [])
          rw [(by decide : ((3 : Int32) + (1 : Int32)) = (4 : Int32))]
          show own_Fin _ _ _ _ _ _ _ T297 (mkF m 38 #[Rv a1, Iv 4, Rv a3, Iv 4, Iv 4, Iv 3, Iv x3] [])
          refine own_by (fun _ k => XS.iinc X297.here hx rfl (hb hby d16_38) rfl (l' := #[Rv a1, Iv 4, Rv a3, Iv 4, Iv 4, Iv ((3 : Int32) + (1 : Int32)), Iv x3]) rfl k) ?_
          show own_Fin _ _ _ _ _ _ _ T297 (mkF m 41 #[Rv a1, Iv 4, Rv a3, Iv 4, Iv 4, Iv ((3 : Int32) + (1 : Int32)), Iv x3] [])
          rw [(by decide : ((3 : Int32) + (1 : Int32)) = (4 : Int32))]
          show own_Fin _ _ _ _ _ _ _ T297 (mkF m 41 #[Rv a1, Iv 4, Rv a3, Iv 4, Iv 4, Iv 4, Iv x3] [])
          refine own_by (fun _ k => XS.goto X297.here hx rfl (pc0 := 41) (pc' := 3) rfl (hb hby d16_41) (by decide) (by decide) (XS.iload X297.here hx rfl (hb hby d16_3) rfl (XS.iload X297.here hx rfl (hb hby d16_5) rfl (XS.icmpYes X297.here hx rfl (pc0 := 7) (pc' := 44) rfl (hb hby d16_7) rfl (flt (by decide : ¬ ((4 : Int32) < (4 : Int32)))).2.1 (by decide) (by decide) (XS.iload X297.here hx rfl (hb hby d16_44) rfl k))))) ?_
          exact own_retI X297 hx hlk hret (hb hby d16_46) (by rw [e297]; exact ⟨_, rfl, N297, Kp297, Or.inl ⟨rfl, (by have q := V297; simp only [own_b8] at q; exact q), hc20_284, hc20_288, hc20_292, hc20_296⟩⟩) (by decide) (by decide)
def own_QXO4 (Z : State) (x0 x1 x2 x3 : Int32) (h0 : Heap) (n0 : Nat) (v : Option Value) (h : Heap) (L : List Loc) : Prop := ∃ (a : Addr) (k : ClassId), v = some (.ref a) ∧ Fr n0 L ∧ Keep h0 h [] ∧ h0.size ≤ a ∧ ((Arv Z h a k .byte (4 : Int32) [(.int x0.toInt8.toInt32), (.int x1.toInt8.toInt32), (.int x2.toInt8.toInt32), (.int x3.toInt8.toInt32)] (.int (0 : Int32)) ∧ ¬ (255 : Int32) < x0 ∧ ¬ (255 : Int32) < x1 ∧ ¬ (255 : Int32) < x2 ∧ ¬ (255 : Int32) < x3) ∨ Arv Z h a k .byte (8 : Int32) [(.int (own_lo x0)), (.int (own_hi x0)), (.int (own_lo x1)), (.int (own_hi x1)), (.int (own_lo x2)), (.int (own_hi x2)), (.int (own_lo x3)), (.int (own_hi x3))] (.int (0 : Int32)))
set_option maxRecDepth 65536 in
set_option maxHeartbeats 40000000 in
theorem rmXO4 (l : Launch) (Z : State) (a0 : Array Value) (hw : own_W a0 Z) (ws : List Jvm.Cond) (cs : Int32) (gS : Value) (a1 : Addr) (kc : ClassId) (x0 x1 x2 x3 : Int32) (h0 : Heap) (n0 : Nat) (Z0 : n0 ≤ h0.size) (V_env : own_Env Z cs gS) (Od : Old Z n0 h0) (V1 : Arv Z h0 a1 kc .char (4 : Int32) [(.int x0), (.int x1), (.int x2), (.int x3)] (.int (0 : Int32))) (hx0 : own_ch x0) (hx1 : own_ch x1) (hx2 : own_ch x2) (hx3 : own_ch x3) : own_Met l Z mn10 jdk_52_method_16_code 6 (some (.array .byte)) ws (own_R 3 2 12 40) #[(.ref a1), (.int (0 : Int32)), (.int (4 : Int32))] h0 (own_QXO4 Z x0 x1 x2 x3 h0 n0) := by
  refine own_enter n0 (plainFor_of_name own_pn58) (fun m => ef_RII_6 m a1 (0 : Int32) (4 : Int32) ) (fun p e s m below meth c s₁ hx hby hlk hml hret hown hnm hZ X0 e0 N0 => ?_)
  show own_Fin _ _ _ _ _ _ _ s₁ (mkF m 0 #[Rv a1, Iv 0, Iv 4, Uv, Uv, Uv] [])
  have Kp299 : Keep h0 h0 [] := Keep.refl h0 _
  obtain ⟨T300, h300, k300, X300, e300, E300, A300, st300⟩ := newP X0 hx hZ (own_g hw 21) e0 (g := (mkF m 1 #[Rv a1, Iv 0, Iv 4, Uv, Uv, Uv] [(.int 4)])) rfl (hb hby d15_1) rfl (by decide) (cap := 4) (by decide) (by decide) (by decide) (by decide)
  obtain ⟨b300, g300⟩ : ∃ z, z = h0.size := ⟨_, rfl⟩
  rw [← g300] at A300 st300
  have V300 : Arv Z h300 b300 k300 .byte (4 : Int32) [(.int (0 : Int32)), (.int (0 : Int32)), (.int (0 : Int32)), (.int (0 : Int32))] (.int (0 : Int32)) := (Arv.new A300 (by decide)).pad (pad_rep [] (.int (0 : Int32)) 4)
  have ne300_a1 : a1 ≠ b300 := Nat.ne_of_lt (Nat.lt_of_lt_of_le V1.lt (Nat.le_of_eq g300.symm))
  have gf300 : n0 ≤ b300 := Nat.le_trans Z0 (Nat.le_of_eq g300.symm)
  have Zs300 : n0 ≤ h300.size := Nat.le_trans Z0 E300.1
  have Kp300 : Keep h0 h300 [] := Kp299.ext E300
  have sz_b300 : h0.size ≤ b300 := Nat.le_trans Kp299.1 (Nat.le_of_eq g300.symm)
  have f301_0 : Old Z n0 h300 := Od.ext E300
  have f301_1 : Arv Z h300 a1 kc .char (4 : Int32) [(.int x0), (.int x1), (.int x2), (.int x3)] (.int (0 : Int32)) := V1.ext E300
  obtain ⟨_, _, ⟨T302, L302, k302, n302⟩, -, X302, ⟨Lc302, hQ302, l302, y302, z302⟩, st302⟩ := LawKit.callS X300 hx (y := mn9) hown (own_m hZ hw 76) (own_m hZ hw 77) (own_m hZ hw 74) (own_m hZ hw 78) (by decide) (backOf (W := 0) (rmXI4 l Z a0 hw [] a1 b300 kc k300 x0 x1 x2 x3 h300 n0 Zs300 f301_1 V300 ne300_a1 gf300) hZ (own_g hw 78) (own_g hw 74) (by decide) (by decide)) (g := (mkF m 9 #[Rv a1, Iv 0, Iv 4, Rv b300, Uv, Uv] [(.int 4), (.int 0), (.ref b300), (.int 0), (.ref a1)])) rfl (by rw [hml]; rfl) (argsL := [(.ref a1), (.int (0 : Int32)), (.ref b300), (.int (0 : Int32)), (.int (4 : Int32))]) (rest := []) (lenOf own_pd179 rfl) rfl (own_z rfl) (hb hby d15_9) (fun _ _ => ⟨rfl, e300, (by decide : 1 + 0 ≤ _), (by decide : 4 + 0 ≤ _)⟩)
  dsimp only [Pt.U, Pt.locs, Pt.cells, Pt.slots] at X302 l302 y302 z302 st302 hQ302
  subst l302 y302 z302
  obtain ⟨r302, rfl, Nq302, K302, hd302⟩ := hQ302
  have N302 := Fr.app N0 Nq302
  have Zs302 : n0 ≤ T302.heap.size := Nat.le_trans Zs300 K302.1
  have Kp302 : Keep h0 T302.heap [] := Kp300.trans K302 (allS (Or.inr sz_b300) all0)
  have f303_0 : Old Z n0 T302.heap := f301_0.keep K302 (allS gf300 all0)
  have f303_1 : Arv Z T302.heap a1 kc .char (4 : Int32) [(.int x0), (.int x1), (.int x2), (.int x3)] (.int (0 : Int32)) := f301_1.keep K302 (ninS ne300_a1 nin0)
  refine own_by (fun _ k => XS.iloadN X0.here hx rfl (hb hby d15_0) rfl (st300 _ (XS.astoreN X300.here hx rfl (hb hby d15_3) rfl rfl (l' := #[Rv a1, Iv 0, Iv 4, Rv b300, Uv, Uv]) rfl (XS.aloadN X300.here hx rfl (hb hby d15_4) rfl rfl (XS.iloadN X300.here hx rfl (hb hby d15_5) rfl (XS.aloadN X300.here hx rfl (hb hby d15_6) rfl rfl (XS.iconst X300.here hx rfl (hb hby d15_7) (XS.iloadN X300.here hx rfl (hb hby d15_8) rfl (st302 _ k))))))))) ?_
  rcases hd302 with ⟨rfl, Vr302, hk0, hk1, hk2, hk3⟩ | ⟨rfl, hb0⟩ | ⟨rfl, hb1⟩ | ⟨rfl, hb2⟩ | ⟨rfl, hb3⟩
  · show own_Fin _ _ _ _ _ _ _ T302 (mkF m 12 #[Rv a1, Iv 0, Iv 4, Rv b300, Uv, Uv] [(.int 4)])
    refine own_by (fun _ k => XS.istore X302.here hx rfl (hb hby d15_12) rfl (l' := #[Rv a1, Iv 0, Iv 4, Rv b300, Iv 4, Uv]) rfl (XS.iload X302.here hx rfl (hb hby d15_14) rfl (XS.iloadN X302.here hx rfl (hb hby d15_16) rfl (XS.icmpYes X302.here hx rfl (pc0 := 17) (pc' := 57) rfl (hb hby d15_17) rfl (teq (by decide : (4 : Int32) = (4 : Int32))).1 (by decide) (by decide) (XS.aloadN X302.here hx rfl (hb hby d15_57) rfl rfl k))))) ?_
    exact own_retA X302 hx hlk (t := (.array .byte)) hret rfl rfl rfl (hb hby d15_58) ⟨_, _, rfl, N302, Kp302, sz_b300, Or.inl ⟨Vr302, hk0, hk1, hk2, hk3⟩⟩ (by decide) (by decide)
  · show own_Fin _ _ _ _ _ _ _ T302 (mkF m 12 #[Rv a1, Iv 0, Iv 4, Rv b300, Uv, Uv] [(.int 0)])
    obtain ⟨_, _, ⟨T304, L304, k304, n304⟩, -, X304, ⟨Lc304, hQ304, l304, y304, z304⟩, st304⟩ := LawKit.callS X302 hx (y := mn7) hown (own_m hZ hw 101) (own_m hZ hw 102) (own_m hZ hw 74) (own_m hZ hw 103) (by decide) (backOf (W := 0) (rmTB4 l Z a0 hw [] cs gS a1 kc x0 x1 x2 x3 T302.heap n0 Zs302 V_env f303_0 f303_1) hZ (own_g hw 103) (own_g hw 74) (by decide) (by decide)) (g := (mkF m 23 #[Rv a1, Iv 0, Iv 4, Rv b300, Iv 0, Uv] [(.int 4), (.int 0), (.ref a1)])) rfl (by rw [hml]; rfl) (argsL := [(.ref a1), (.int (0 : Int32)), (.int (4 : Int32))]) (rest := []) (lenOf own_pd190 rfl) rfl (own_z rfl) (hb hby d15_23) (fun _ _ => ⟨rfl, rfl, (by decide : 1 + 1 ≤ _), (by decide : 4 + 8 ≤ _)⟩)
    dsimp only [Pt.U, Pt.locs, Pt.cells, Pt.slots] at X304 l304 y304 z304 st304 hQ304
    subst l304 y304 z304
    obtain ⟨b304, k304, rfl, Nq304, K304, ge304, V304⟩ := hQ304
    have N304 := Fr.app N302 Nq304
    have Zs304 : n0 ≤ T304.heap.size := Nat.le_trans Zs302 K304.1
    have Kp304 : Keep h0 T304.heap [] := Kp302.trans K304 all0
    have f305_0 : Old Z n0 T304.heap := f303_0.keep K304 all0
    have f305_1 : Arv Z T304.heap a1 kc .char (4 : Int32) [(.int x0), (.int x1), (.int x2), (.int x3)] (.int (0 : Int32)) := f303_1.keep K304 nin0
    have ne304_a1 : a1 ≠ b304 := Nat.ne_of_lt (Nat.lt_of_lt_of_le f303_1.lt ge304)
    have gf304 : n0 ≤ b304 := Nat.le_trans Zs302 ge304
    have sz_b304 : h0.size ≤ b304 := Nat.le_trans Kp302.1 ge304
    refine own_by (fun _ k => XS.istore X302.here hx rfl (hb hby d15_12) rfl (l' := #[Rv a1, Iv 0, Iv 4, Rv b300, Iv 0, Uv]) rfl (XS.iload X302.here hx rfl (hb hby d15_14) rfl (XS.iloadN X302.here hx rfl (hb hby d15_16) rfl (XS.icmpNo X302.here hx rfl (hb hby d15_17) rfl (feq (by decide : ¬ ((0 : Int32) = (4 : Int32)))).1 (XS.aloadN X302.here hx rfl (hb hby d15_20) rfl rfl (XS.iloadN X302.here hx rfl (hb hby d15_21) rfl (XS.iloadN X302.here hx rfl (hb hby d15_22) rfl (st304 _ (XS.astore X304.here hx rfl (hb hby d15_26) rfl rfl (l' := #[Rv a1, Iv 0, Iv 4, Rv b300, Iv 0, Rv b304]) rfl (XS.aload X304.here hx rfl (hb hby d15_28) rfl rfl k)))))))))) ?_
    show own_Fin _ _ _ _ _ _ _ T304 (mkF m 30 #[Rv a1, Iv 0, Iv 4, Rv b300, Iv 0, Rv b304] [(.ref b304)])
    obtain ⟨_, _, ⟨T306, L306, k306, n306⟩, -, X306, ⟨Lc306, hQ306, l306, y306, z306⟩, st306⟩ := LawKit.callS X304 hx (y := mn8) hown (own_m hZ hw 117) (own_m hZ hw 118) (own_m hZ hw 74) (own_m hZ hw 119) (by decide) (backOf (W := 0) (rmGC4_0 l Z a0 hw [] cs gS b304 k304 x0 x1 x2 x3 T304.heap n0 Zs304 V_env f305_0 V304 hx0) hZ (own_g hw 119) (own_g hw 74) (by decide) (by decide)) (g := (mkF m 32 #[Rv a1, Iv 0, Iv 4, Rv b300, Iv 0, Rv b304] [(.int 0), (.ref b304)])) rfl (by rw [hml]; rfl) (argsL := [(.ref b304), (.int (0 : Int32))]) (rest := []) (lenOf own_pd195 rfl) rfl (own_z rfl) (hb hby d15_32) (fun _ _ => ⟨rfl, rfl, (by decide : 2 + 0 ≤ _), (by decide : 12 + 0 ≤ _)⟩)
    dsimp only [Pt.U, Pt.locs, Pt.cells, Pt.slots] at X306 l306 y306 z306 st306 hQ306
    subst l306 y306 z306
    obtain ⟨rfl, Nq306, eh306⟩ := hQ306
    have N306 := Fr.app N304 Nq306
    refine own_by (fun _ k => XS.iload X304.here hx rfl (hb hby d15_30) rfl (st306 _ (XS.sipush X306.here hx rfl (hb hby d15_35) (XS.icmpYes X306.here hx rfl (pc0 := 38) (pc' := 54) rfl (hb hby d15_38) rfl (tlt hb0).2.2.1 (by decide) (by decide) (XS.aload X306.here hx rfl (hb hby d15_54) rfl rfl k))))) ?_
    exact own_retA X306 hx hlk (t := (.array .byte)) hret rfl rfl rfl (hb hby d15_56) (by rw [eh306]; exact ⟨_, _, rfl, N306, Kp304, sz_b304, Or.inr V304⟩) (by decide) (by decide)
  · show own_Fin _ _ _ _ _ _ _ T302 (mkF m 12 #[Rv a1, Iv 0, Iv 4, Rv b300, Uv, Uv] [(.int 1)])
    obtain ⟨_, _, ⟨T307, L307, k307, n307⟩, -, X307, ⟨Lc307, hQ307, l307, y307, z307⟩, st307⟩ := LawKit.callS X302 hx (y := mn7) hown (own_m hZ hw 101) (own_m hZ hw 102) (own_m hZ hw 74) (own_m hZ hw 103) (by decide) (backOf (W := 0) (rmTB4 l Z a0 hw [] cs gS a1 kc x0 x1 x2 x3 T302.heap n0 Zs302 V_env f303_0 f303_1) hZ (own_g hw 103) (own_g hw 74) (by decide) (by decide)) (g := (mkF m 23 #[Rv a1, Iv 0, Iv 4, Rv b300, Iv 1, Uv] [(.int 4), (.int 0), (.ref a1)])) rfl (by rw [hml]; rfl) (argsL := [(.ref a1), (.int (0 : Int32)), (.int (4 : Int32))]) (rest := []) (lenOf own_pd190 rfl) rfl (own_z rfl) (hb hby d15_23) (fun _ _ => ⟨rfl, rfl, (by decide : 1 + 1 ≤ _), (by decide : 4 + 8 ≤ _)⟩)
    dsimp only [Pt.U, Pt.locs, Pt.cells, Pt.slots] at X307 l307 y307 z307 st307 hQ307
    subst l307 y307 z307
    obtain ⟨b307, k307, rfl, Nq307, K307, ge307, V307⟩ := hQ307
    have N307 := Fr.app N302 Nq307
    have Zs307 : n0 ≤ T307.heap.size := Nat.le_trans Zs302 K307.1
    have Kp307 : Keep h0 T307.heap [] := Kp302.trans K307 all0
    have f308_0 : Old Z n0 T307.heap := f303_0.keep K307 all0
    have f308_1 : Arv Z T307.heap a1 kc .char (4 : Int32) [(.int x0), (.int x1), (.int x2), (.int x3)] (.int (0 : Int32)) := f303_1.keep K307 nin0
    have ne307_a1 : a1 ≠ b307 := Nat.ne_of_lt (Nat.lt_of_lt_of_le f303_1.lt ge307)
    have gf307 : n0 ≤ b307 := Nat.le_trans Zs302 ge307
    have sz_b307 : h0.size ≤ b307 := Nat.le_trans Kp302.1 ge307
    refine own_by (fun _ k => XS.istore X302.here hx rfl (hb hby d15_12) rfl (l' := #[Rv a1, Iv 0, Iv 4, Rv b300, Iv 1, Uv]) rfl (XS.iload X302.here hx rfl (hb hby d15_14) rfl (XS.iloadN X302.here hx rfl (hb hby d15_16) rfl (XS.icmpNo X302.here hx rfl (hb hby d15_17) rfl (feq (by decide : ¬ ((1 : Int32) = (4 : Int32)))).1 (XS.aloadN X302.here hx rfl (hb hby d15_20) rfl rfl (XS.iloadN X302.here hx rfl (hb hby d15_21) rfl (XS.iloadN X302.here hx rfl (hb hby d15_22) rfl (st307 _ (XS.astore X307.here hx rfl (hb hby d15_26) rfl rfl (l' := #[Rv a1, Iv 0, Iv 4, Rv b300, Iv 1, Rv b307]) rfl (XS.aload X307.here hx rfl (hb hby d15_28) rfl rfl k)))))))))) ?_
    show own_Fin _ _ _ _ _ _ _ T307 (mkF m 30 #[Rv a1, Iv 0, Iv 4, Rv b300, Iv 1, Rv b307] [(.ref b307)])
    obtain ⟨_, _, ⟨T309, L309, k309, n309⟩, -, X309, ⟨Lc309, hQ309, l309, y309, z309⟩, st309⟩ := LawKit.callS X307 hx (y := mn8) hown (own_m hZ hw 117) (own_m hZ hw 118) (own_m hZ hw 74) (own_m hZ hw 119) (by decide) (backOf (W := 0) (rmGC4_1 l Z a0 hw [] cs gS b307 k307 x0 x1 x2 x3 T307.heap n0 Zs307 V_env f308_0 V307 hx1) hZ (own_g hw 119) (own_g hw 74) (by decide) (by decide)) (g := (mkF m 32 #[Rv a1, Iv 0, Iv 4, Rv b300, Iv 1, Rv b307] [(.int 1), (.ref b307)])) rfl (by rw [hml]; rfl) (argsL := [(.ref b307), (.int (1 : Int32))]) (rest := []) (lenOf own_pd195 rfl) rfl (own_z rfl) (hb hby d15_32) (fun _ _ => ⟨rfl, rfl, (by decide : 2 + 0 ≤ _), (by decide : 12 + 0 ≤ _)⟩)
    dsimp only [Pt.U, Pt.locs, Pt.cells, Pt.slots] at X309 l309 y309 z309 st309 hQ309
    subst l309 y309 z309
    obtain ⟨rfl, Nq309, eh309⟩ := hQ309
    have N309 := Fr.app N307 Nq309
    refine own_by (fun _ k => XS.iload X307.here hx rfl (hb hby d15_30) rfl (st309 _ (XS.sipush X309.here hx rfl (hb hby d15_35) (XS.icmpYes X309.here hx rfl (pc0 := 38) (pc' := 54) rfl (hb hby d15_38) rfl (tlt hb1).2.2.1 (by decide) (by decide) (XS.aload X309.here hx rfl (hb hby d15_54) rfl rfl k))))) ?_
    exact own_retA X309 hx hlk (t := (.array .byte)) hret rfl rfl rfl (hb hby d15_56) (by rw [eh309]; exact ⟨_, _, rfl, N309, Kp307, sz_b307, Or.inr V307⟩) (by decide) (by decide)
  · show own_Fin _ _ _ _ _ _ _ T302 (mkF m 12 #[Rv a1, Iv 0, Iv 4, Rv b300, Uv, Uv] [(.int 2)])
    obtain ⟨_, _, ⟨T310, L310, k310, n310⟩, -, X310, ⟨Lc310, hQ310, l310, y310, z310⟩, st310⟩ := LawKit.callS X302 hx (y := mn7) hown (own_m hZ hw 101) (own_m hZ hw 102) (own_m hZ hw 74) (own_m hZ hw 103) (by decide) (backOf (W := 0) (rmTB4 l Z a0 hw [] cs gS a1 kc x0 x1 x2 x3 T302.heap n0 Zs302 V_env f303_0 f303_1) hZ (own_g hw 103) (own_g hw 74) (by decide) (by decide)) (g := (mkF m 23 #[Rv a1, Iv 0, Iv 4, Rv b300, Iv 2, Uv] [(.int 4), (.int 0), (.ref a1)])) rfl (by rw [hml]; rfl) (argsL := [(.ref a1), (.int (0 : Int32)), (.int (4 : Int32))]) (rest := []) (lenOf own_pd190 rfl) rfl (own_z rfl) (hb hby d15_23) (fun _ _ => ⟨rfl, rfl, (by decide : 1 + 1 ≤ _), (by decide : 4 + 8 ≤ _)⟩)
    dsimp only [Pt.U, Pt.locs, Pt.cells, Pt.slots] at X310 l310 y310 z310 st310 hQ310
    subst l310 y310 z310
    obtain ⟨b310, k310, rfl, Nq310, K310, ge310, V310⟩ := hQ310
    have N310 := Fr.app N302 Nq310
    have Zs310 : n0 ≤ T310.heap.size := Nat.le_trans Zs302 K310.1
    have Kp310 : Keep h0 T310.heap [] := Kp302.trans K310 all0
    have f311_0 : Old Z n0 T310.heap := f303_0.keep K310 all0
    have f311_1 : Arv Z T310.heap a1 kc .char (4 : Int32) [(.int x0), (.int x1), (.int x2), (.int x3)] (.int (0 : Int32)) := f303_1.keep K310 nin0
    have ne310_a1 : a1 ≠ b310 := Nat.ne_of_lt (Nat.lt_of_lt_of_le f303_1.lt ge310)
    have gf310 : n0 ≤ b310 := Nat.le_trans Zs302 ge310
    have sz_b310 : h0.size ≤ b310 := Nat.le_trans Kp302.1 ge310
    refine own_by (fun _ k => XS.istore X302.here hx rfl (hb hby d15_12) rfl (l' := #[Rv a1, Iv 0, Iv 4, Rv b300, Iv 2, Uv]) rfl (XS.iload X302.here hx rfl (hb hby d15_14) rfl (XS.iloadN X302.here hx rfl (hb hby d15_16) rfl (XS.icmpNo X302.here hx rfl (hb hby d15_17) rfl (feq (by decide : ¬ ((2 : Int32) = (4 : Int32)))).1 (XS.aloadN X302.here hx rfl (hb hby d15_20) rfl rfl (XS.iloadN X302.here hx rfl (hb hby d15_21) rfl (XS.iloadN X302.here hx rfl (hb hby d15_22) rfl (st310 _ (XS.astore X310.here hx rfl (hb hby d15_26) rfl rfl (l' := #[Rv a1, Iv 0, Iv 4, Rv b300, Iv 2, Rv b310]) rfl (XS.aload X310.here hx rfl (hb hby d15_28) rfl rfl k)))))))))) ?_
    show own_Fin _ _ _ _ _ _ _ T310 (mkF m 30 #[Rv a1, Iv 0, Iv 4, Rv b300, Iv 2, Rv b310] [(.ref b310)])
    obtain ⟨_, _, ⟨T312, L312, k312, n312⟩, -, X312, ⟨Lc312, hQ312, l312, y312, z312⟩, st312⟩ := LawKit.callS X310 hx (y := mn8) hown (own_m hZ hw 117) (own_m hZ hw 118) (own_m hZ hw 74) (own_m hZ hw 119) (by decide) (backOf (W := 0) (rmGC4_2 l Z a0 hw [] cs gS b310 k310 x0 x1 x2 x3 T310.heap n0 Zs310 V_env f311_0 V310 hx2) hZ (own_g hw 119) (own_g hw 74) (by decide) (by decide)) (g := (mkF m 32 #[Rv a1, Iv 0, Iv 4, Rv b300, Iv 2, Rv b310] [(.int 2), (.ref b310)])) rfl (by rw [hml]; rfl) (argsL := [(.ref b310), (.int (2 : Int32))]) (rest := []) (lenOf own_pd195 rfl) rfl (own_z rfl) (hb hby d15_32) (fun _ _ => ⟨rfl, rfl, (by decide : 2 + 0 ≤ _), (by decide : 12 + 0 ≤ _)⟩)
    dsimp only [Pt.U, Pt.locs, Pt.cells, Pt.slots] at X312 l312 y312 z312 st312 hQ312
    subst l312 y312 z312
    obtain ⟨rfl, Nq312, eh312⟩ := hQ312
    have N312 := Fr.app N310 Nq312
    refine own_by (fun _ k => XS.iload X310.here hx rfl (hb hby d15_30) rfl (st312 _ (XS.sipush X312.here hx rfl (hb hby d15_35) (XS.icmpYes X312.here hx rfl (pc0 := 38) (pc' := 54) rfl (hb hby d15_38) rfl (tlt hb2).2.2.1 (by decide) (by decide) (XS.aload X312.here hx rfl (hb hby d15_54) rfl rfl k))))) ?_
    exact own_retA X312 hx hlk (t := (.array .byte)) hret rfl rfl rfl (hb hby d15_56) (by rw [eh312]; exact ⟨_, _, rfl, N312, Kp310, sz_b310, Or.inr V310⟩) (by decide) (by decide)
  · show own_Fin _ _ _ _ _ _ _ T302 (mkF m 12 #[Rv a1, Iv 0, Iv 4, Rv b300, Uv, Uv] [(.int 3)])
    obtain ⟨_, _, ⟨T313, L313, k313, n313⟩, -, X313, ⟨Lc313, hQ313, l313, y313, z313⟩, st313⟩ := LawKit.callS X302 hx (y := mn7) hown (own_m hZ hw 101) (own_m hZ hw 102) (own_m hZ hw 74) (own_m hZ hw 103) (by decide) (backOf (W := 0) (rmTB4 l Z a0 hw [] cs gS a1 kc x0 x1 x2 x3 T302.heap n0 Zs302 V_env f303_0 f303_1) hZ (own_g hw 103) (own_g hw 74) (by decide) (by decide)) (g := (mkF m 23 #[Rv a1, Iv 0, Iv 4, Rv b300, Iv 3, Uv] [(.int 4), (.int 0), (.ref a1)])) rfl (by rw [hml]; rfl) (argsL := [(.ref a1), (.int (0 : Int32)), (.int (4 : Int32))]) (rest := []) (lenOf own_pd190 rfl) rfl (own_z rfl) (hb hby d15_23) (fun _ _ => ⟨rfl, rfl, (by decide : 1 + 1 ≤ _), (by decide : 4 + 8 ≤ _)⟩)
    dsimp only [Pt.U, Pt.locs, Pt.cells, Pt.slots] at X313 l313 y313 z313 st313 hQ313
    subst l313 y313 z313
    obtain ⟨b313, k313, rfl, Nq313, K313, ge313, V313⟩ := hQ313
    have N313 := Fr.app N302 Nq313
    have Zs313 : n0 ≤ T313.heap.size := Nat.le_trans Zs302 K313.1
    have Kp313 : Keep h0 T313.heap [] := Kp302.trans K313 all0
    have f314_0 : Old Z n0 T313.heap := f303_0.keep K313 all0
    have f314_1 : Arv Z T313.heap a1 kc .char (4 : Int32) [(.int x0), (.int x1), (.int x2), (.int x3)] (.int (0 : Int32)) := f303_1.keep K313 nin0
    have ne313_a1 : a1 ≠ b313 := Nat.ne_of_lt (Nat.lt_of_lt_of_le f303_1.lt ge313)
    have gf313 : n0 ≤ b313 := Nat.le_trans Zs302 ge313
    have sz_b313 : h0.size ≤ b313 := Nat.le_trans Kp302.1 ge313
    refine own_by (fun _ k => XS.istore X302.here hx rfl (hb hby d15_12) rfl (l' := #[Rv a1, Iv 0, Iv 4, Rv b300, Iv 3, Uv]) rfl (XS.iload X302.here hx rfl (hb hby d15_14) rfl (XS.iloadN X302.here hx rfl (hb hby d15_16) rfl (XS.icmpNo X302.here hx rfl (hb hby d15_17) rfl (feq (by decide : ¬ ((3 : Int32) = (4 : Int32)))).1 (XS.aloadN X302.here hx rfl (hb hby d15_20) rfl rfl (XS.iloadN X302.here hx rfl (hb hby d15_21) rfl (XS.iloadN X302.here hx rfl (hb hby d15_22) rfl (st313 _ (XS.astore X313.here hx rfl (hb hby d15_26) rfl rfl (l' := #[Rv a1, Iv 0, Iv 4, Rv b300, Iv 3, Rv b313]) rfl (XS.aload X313.here hx rfl (hb hby d15_28) rfl rfl k)))))))))) ?_
    show own_Fin _ _ _ _ _ _ _ T313 (mkF m 30 #[Rv a1, Iv 0, Iv 4, Rv b300, Iv 3, Rv b313] [(.ref b313)])
    obtain ⟨_, _, ⟨T315, L315, k315, n315⟩, -, X315, ⟨Lc315, hQ315, l315, y315, z315⟩, st315⟩ := LawKit.callS X313 hx (y := mn8) hown (own_m hZ hw 117) (own_m hZ hw 118) (own_m hZ hw 74) (own_m hZ hw 119) (by decide) (backOf (W := 0) (rmGC4_3 l Z a0 hw [] cs gS b313 k313 x0 x1 x2 x3 T313.heap n0 Zs313 V_env f314_0 V313 hx3) hZ (own_g hw 119) (own_g hw 74) (by decide) (by decide)) (g := (mkF m 32 #[Rv a1, Iv 0, Iv 4, Rv b300, Iv 3, Rv b313] [(.int 3), (.ref b313)])) rfl (by rw [hml]; rfl) (argsL := [(.ref b313), (.int (3 : Int32))]) (rest := []) (lenOf own_pd195 rfl) rfl (own_z rfl) (hb hby d15_32) (fun _ _ => ⟨rfl, rfl, (by decide : 2 + 0 ≤ _), (by decide : 12 + 0 ≤ _)⟩)
    dsimp only [Pt.U, Pt.locs, Pt.cells, Pt.slots] at X315 l315 y315 z315 st315 hQ315
    subst l315 y315 z315
    obtain ⟨rfl, Nq315, eh315⟩ := hQ315
    have N315 := Fr.app N313 Nq315
    refine own_by (fun _ k => XS.iload X313.here hx rfl (hb hby d15_30) rfl (st315 _ (XS.sipush X315.here hx rfl (hb hby d15_35) (XS.icmpYes X315.here hx rfl (pc0 := 38) (pc' := 54) rfl (hb hby d15_38) rfl (tlt hb3).2.2.1 (by decide) (by decide) (XS.aload X315.here hx rfl (hb hby d15_54) rfl rfl k))))) ?_
    exact own_retA X315 hx hlk (t := (.array .byte)) hret rfl rfl rfl (hb hby d15_56) (by rw [eh315]; exact ⟨_, _, rfl, N315, Kp313, sz_b313, Or.inr V313⟩) (by decide) (by decide)
def own_Qcl4_4 (h0 : Heap) (n0 : Nat) (v : Option Value) (h : Heap) (L : List Loc) : Prop := v = some (.int (0 : Int32)) ∧ Fr n0 L ∧ h = h0
theorem rmCL4_4 (l : Launch) (Z : State) (a0 : Array Value) (hw : own_W a0 Z) (ws : List Jvm.Cond) (a1 : Addr) (k1 : ClassId) (vs : List Value) (h0 : Heap) (n0 : Nat) (Z0 : n0 ≤ h0.size) (V1 : Arv Z h0 a1 k1 .byte (4 : Int32) vs (.int (0 : Int32))) : own_Met l Z mn11 jdk_52_method_15_code 2 (some .byte) ws (own_R 0 0 0 0) #[(.ref a1), (.int (4 : Int32))] h0 (own_Qcl4_4 h0 n0) := by
  refine own_enter n0 (plainFor_of_name own_pn58) (fun m => ef_RI_2 m a1 (4 : Int32) ) (fun p e s m below meth c s₁ hx hby hlk hml hret hown hnm hZ X0 e0 N0 => ?_)
  show own_Fin _ _ _ _ _ _ _ s₁ (mkF m 0 #[Rv a1, Iv 4] [])
  obtain ⟨cl316, Ar316, -, S316, M316, -, -⟩ := id V1
  refine own_by (fun _ k => XS.iloadN X0.here hx rfl (hb hby d17_0) rfl (XS.aloadN X0.here hx rfl (hb hby d17_1) rfl rfl (X0.arraylength hx (by rw [e0]; exact Ar316.1) (State.isArrayOf_alike hZ.alike Ar316.2.1) (g := (mkF m 2 #[Rv a1, Iv 4] [(.ref a1), (.int 4)])) rfl rfl (hb hby d17_2) _ k))) ?_
  rw [len_of S316 M316]
  show own_Fin _ _ _ _ _ _ _ s₁ (mkF m 3 #[Rv a1, Iv 4] [(.int 4), (.int 4)])
  refine own_by (fun _ k => XS.isub X0.here hx rfl (hb hby d17_3) rfl k) ?_
  show own_Fin _ _ _ _ _ _ _ s₁ (mkF m 4 #[Rv a1, Iv 4] [(.int ((4 : Int32) - (4 : Int32)))])
  rw [(by decide : ((4 : Int32) - (4 : Int32)) = (0 : Int32))]
  show own_Fin _ _ _ _ _ _ _ s₁ (mkF m 4 #[Rv a1, Iv 4] [(.int 0)])
  refine own_by (fun _ k => XS.bipush X0.here hx rfl (hb hby d17_4) (XS.iushr X0.here hx rfl (hb hby d17_6) rfl k)) ?_
  show own_Fin _ _ _ _ _ _ _ s₁ (mkF m 7 #[Rv a1, Iv 4] [(.int (((0 : Int32).toUInt32 >>> ((31 : Int32) &&& 31).toUInt32).toInt32))])
  rw [(by decide : (((0 : Int32).toUInt32 >>> ((31 : Int32) &&& 31).toUInt32).toInt32) = (0 : Int32))]
  show own_Fin _ _ _ _ _ _ _ s₁ (mkF m 7 #[Rv a1, Iv 4] [(.int 0)])
  refine own_by (fun _ k => XS.i2b X0.here hx rfl (hb hby d17_7) rfl k) ?_
  show own_Fin _ _ _ _ _ _ _ s₁ (mkF m 8 #[Rv a1, Iv 4] [(.int ((0 : Int32).toInt8.toInt32))])
  rw [(by decide : ((0 : Int32).toInt8.toInt32) = (0 : Int32))]
  show own_Fin _ _ _ _ _ _ _ s₁ (mkF m 8 #[Rv a1, Iv 4] [(.int 0)])
  exact own_retZ X0 hx hlk (t := .byte) hret (by simp) (hb hby d17_8) ⟨rfl, N0, e0⟩ (by decide) (by decide)
def own_Qcl4_8 (h0 : Heap) (n0 : Nat) (v : Option Value) (h : Heap) (L : List Loc) : Prop := v = some (.int (1 : Int32)) ∧ Fr n0 L ∧ h = h0
theorem rmCL4_8 (l : Launch) (Z : State) (a0 : Array Value) (hw : own_W a0 Z) (ws : List Jvm.Cond) (a1 : Addr) (k1 : ClassId) (vs : List Value) (h0 : Heap) (n0 : Nat) (Z0 : n0 ≤ h0.size) (V1 : Arv Z h0 a1 k1 .byte (8 : Int32) vs (.int (0 : Int32))) : own_Met l Z mn11 jdk_52_method_15_code 2 (some .byte) ws (own_R 0 0 0 0) #[(.ref a1), (.int (4 : Int32))] h0 (own_Qcl4_8 h0 n0) := by
  refine own_enter n0 (plainFor_of_name own_pn58) (fun m => ef_RI_2 m a1 (4 : Int32) ) (fun p e s m below meth c s₁ hx hby hlk hml hret hown hnm hZ X0 e0 N0 => ?_)
  show own_Fin _ _ _ _ _ _ _ s₁ (mkF m 0 #[Rv a1, Iv 4] [])
  obtain ⟨cl317, Ar317, -, S317, M317, -, -⟩ := id V1
  refine own_by (fun _ k => XS.iloadN X0.here hx rfl (hb hby d17_0) rfl (XS.aloadN X0.here hx rfl (hb hby d17_1) rfl rfl (X0.arraylength hx (by rw [e0]; exact Ar317.1) (State.isArrayOf_alike hZ.alike Ar317.2.1) (g := (mkF m 2 #[Rv a1, Iv 4] [(.ref a1), (.int 4)])) rfl rfl (hb hby d17_2) _ k))) ?_
  rw [len_of S317 M317]
  show own_Fin _ _ _ _ _ _ _ s₁ (mkF m 3 #[Rv a1, Iv 4] [(.int 8), (.int 4)])
  refine own_by (fun _ k => XS.isub X0.here hx rfl (hb hby d17_3) rfl k) ?_
  show own_Fin _ _ _ _ _ _ _ s₁ (mkF m 4 #[Rv a1, Iv 4] [(.int ((4 : Int32) - (8 : Int32)))])
  rw [(by decide : ((4 : Int32) - (8 : Int32)) = (-4 : Int32))]
  show own_Fin _ _ _ _ _ _ _ s₁ (mkF m 4 #[Rv a1, Iv 4] [(.int (-4))])
  refine own_by (fun _ k => XS.bipush X0.here hx rfl (hb hby d17_4) (XS.iushr X0.here hx rfl (hb hby d17_6) rfl k)) ?_
  show own_Fin _ _ _ _ _ _ _ s₁ (mkF m 7 #[Rv a1, Iv 4] [(.int (((-4 : Int32).toUInt32 >>> ((31 : Int32) &&& 31).toUInt32).toInt32))])
  rw [(by decide : (((-4 : Int32).toUInt32 >>> ((31 : Int32) &&& 31).toUInt32).toInt32) = (1 : Int32))]
  show own_Fin _ _ _ _ _ _ _ s₁ (mkF m 7 #[Rv a1, Iv 4] [(.int 1)])
  refine own_by (fun _ k => XS.i2b X0.here hx rfl (hb hby d17_7) rfl k) ?_
  show own_Fin _ _ _ _ _ _ _ s₁ (mkF m 8 #[Rv a1, Iv 4] [(.int ((1 : Int32).toInt8.toInt32))])
  rw [(by decide : ((1 : Int32).toInt8.toInt32) = (1 : Int32))]
  show own_Fin _ _ _ _ _ _ _ s₁ (mkF m 8 #[Rv a1, Iv 4] [(.int 1)])
  exact own_retZ X0 hx hlk (t := .byte) hret (by simp) (hb hby d17_8) ⟨rfl, N0, e0⟩ (by decide) (by decide)
def own_QYI4 (Z : State) (a1 : Addr) (x0 x1 x2 x3 : Int32) (h0 : Heap) (n0 : Nat) (v : Option Value) (h : Heap) (L : List Loc) : Prop := ∃ (b : Addr) (k : ClassId), v = none ∧ Fr n0 L ∧ Keep h0 h [a1] ∧ Fld Z h a1 "java/lang/String" "value" "[B" (.ref b) ∧ ((Fld Z h a1 "java/lang/String" "coder" "B" (.int (0 : Int32)) ∧ Arv Z h b k .byte (4 : Int32) [(.int x0.toInt8.toInt32), (.int x1.toInt8.toInt32), (.int x2.toInt8.toInt32), (.int x3.toInt8.toInt32)] (.int (0 : Int32)) ∧ ¬ (255 : Int32) < x0 ∧ ¬ (255 : Int32) < x1 ∧ ¬ (255 : Int32) < x2 ∧ ¬ (255 : Int32) < x3) ∨ (Fld Z h a1 "java/lang/String" "coder" "B" (.int (1 : Int32)) ∧ Arv Z h b k .byte (8 : Int32) [(.int (own_lo x0)), (.int (own_hi x0)), (.int (own_lo x1)), (.int (own_hi x1)), (.int (own_lo x2)), (.int (own_hi x2)), (.int (own_lo x3)), (.int (own_hi x3))] (.int (0 : Int32))))
set_option maxRecDepth 65536 in
set_option maxHeartbeats 40000000 in
theorem rmYI4 (l : Launch) (Z : State) (a0 : Array Value) (hw : own_W a0 Z) (ws : List Jvm.Cond) (cs : Int32) (gS : Value) (a1 a2 : Addr) (kc : ClassId) (x0 x1 x2 x3 : Int32) (h0 : Heap) (n0 : Nat) (Z0 : n0 ≤ h0.size) (V_env : own_Env Z cs gS) (Od : Old Z n0 h0) (E_a1 : Exa Z h0 a1 "java/lang/String") (F_v : Fld Z h0 a1 "java/lang/String" "value" "[B" .null) (F_c : Fld Z h0 a1 "java/lang/String" "coder" "B" (.int (0 : Int32))) (g_a1 : n0 ≤ a1) (V2 : Arv Z h0 a2 kc .char (4 : Int32) [(.int x0), (.int x1), (.int x2), (.int x3)] (.int (0 : Int32))) (ne12 : a2 ≠ a1) (hx0 : own_ch x0) (hx1 : own_ch x1) (hx2 : own_ch x2) (hx3 : own_ch x3) : own_Met l Z mn2 jdk_42_method_149_code 6 none ws (own_R 4 2 12 57) #[(.ref a1), (.ref a2), (.int (0 : Int32)), (.int (4 : Int32)), .null] h0 (own_QYI4 Z a1 x0 x1 x2 x3 h0 n0) := by
  refine own_enter n0 (plainFor_of_name own_pn34) (fun m => ef_RRIIN_6 m a1 a2 (0 : Int32) (4 : Int32) ) (fun p e s m below meth c s₁ hx hby hlk hml hret hown hnm hZ X0 e0 N0 => ?_)
  show own_Fin _ _ _ _ _ _ _ s₁ (mkF m 0 #[Rv a1, Rv a2, Iv 0, Iv 4, Nv, Uv] [])
  have Kp318 : Keep h0 h0 [a1] := Keep.refl h0 _
  obtain ⟨T319, X319, e319, st319⟩ := initO X0 hx hZ hown (own_g hw 17) (own_g hw 18) (own_g hw 19) e0 (g := (mkF m 1 #[Rv a1, Rv a2, Iv 0, Iv 4, Nv, Uv] [(.ref a1)])) rfl (by rw [hml]; rfl) rfl (hb hby d3_1) (by decide) (W := 0) (own_z rfl) (by decide)
  obtain ⟨T320, X320, e320, st320⟩ := getS2 X319 hx hZ hown (host := "") (Or.inl (own_g hw 47)) Via.refl e319 (V_env.2.2.2.1.ext Od.2) (g := (mkF m 27 #[Rv a1, Rv a2, Iv 0, Iv 4, Nv, Uv] [])) rfl (hb hby d3_27)
  obtain ⟨_, _, ⟨T321, L321, k321, n321⟩, -, X321, ⟨Lc321, hQ321, l321, y321, z321⟩, st321⟩ := LawKit.callS X320 hx (y := mn10) hown (own_m hZ hw 72) (own_m hZ hw 73) (own_m hZ hw 74) (own_m hZ hw 75) (by decide) (backOf (W := 0) (rmXO4 l Z a0 hw [] cs gS a2 kc x0 x1 x2 x3 h0 n0 Z0 V_env Od V2 hx0 hx1 hx2 hx3) hZ (own_g hw 75) (own_g hw 74) (by decide) (by decide)) (g := (mkF m 36 #[Rv a1, Rv a2, Iv 0, Iv 4, Nv, Uv] [(.int 4), (.int 0), (.ref a2)])) rfl (by rw [hml]; rfl) (argsL := [(.ref a2), (.int (0 : Int32)), (.int (4 : Int32))]) (rest := []) (lenOf own_pd190 rfl) rfl (own_z rfl) (hb hby d3_36) (fun _ _ => ⟨rfl, e320, (by decide : 0 + 2 ≤ _), (by decide : 0 + 12 ≤ _)⟩)
  dsimp only [Pt.U, Pt.locs, Pt.cells, Pt.slots] at X321 l321 y321 z321 st321 hQ321
  subst l321 y321 z321
  obtain ⟨b321, k321, rfl, Nq321, K321, ge321, hd321⟩ := hQ321
  have N321 := Fr.app N0 Nq321
  have Zs321 : n0 ≤ T321.heap.size := Nat.le_trans Z0 K321.1
  have Kp321 : Keep h0 T321.heap [a1] := Kp318.trans K321 all0
  have f322_0 : Old Z n0 T321.heap := Od.keep K321 all0
  have f322_1 : Exa Z T321.heap a1 "java/lang/String" := E_a1.keep K321
  have f322_2 : Fld Z T321.heap a1 "java/lang/String" "value" "[B" .null := F_v.keep K321 nin0
  have f322_3 : Fld Z T321.heap a1 "java/lang/String" "coder" "B" (.int (0 : Int32)) := F_c.keep K321 nin0
  have f322_4 : Arv Z T321.heap a2 kc .char (4 : Int32) [(.int x0), (.int x1), (.int x2), (.int x3)] (.int (0 : Int32)) := V2.keep K321 nin0
  have ne321_a1 : a1 ≠ b321 := Nat.ne_of_lt (Nat.lt_of_lt_of_le E_a1.lt ge321)
  have ne321_a2 : a2 ≠ b321 := Nat.ne_of_lt (Nat.lt_of_lt_of_le V2.lt ge321)
  refine own_by (fun _ k => XS.aloadN X0.here hx rfl (hb hby d3_0) rfl rfl (st319 _ (XS.iloadN X319.here hx rfl (hb hby d3_4) rfl (XS.ifYes X319.here hx rfl (pc0 := 5) (pc' := 27) rfl (hb hby d3_5) rfl ((if0 _ _).trans (feq (by decide : ¬ ((4 : Int32) = (0 : Int32)))).2) (by decide) (by decide) (st320 _ (XS.ifNo X320.here hx rfl (hb hby d3_30) rfl ((if0 _ _).trans (feq V_env.2.2.2.2.1).1) (XS.aloadN X320.here hx rfl (hb hby d3_33) rfl rfl (XS.iloadN X320.here hx rfl (hb hby d3_34) rfl (XS.iloadN X320.here hx rfl (hb hby d3_35) rfl (st321 _ k)))))))))) ?_
  rcases hd321 with ⟨V321, hk0, hk1, hk2, hk3⟩ | V321
  · show own_Fin _ _ _ _ _ _ _ T321 (mkF m 39 #[Rv a1, Rv a2, Iv 0, Iv 4, Nv, Uv] [(.ref b321)])
    obtain ⟨_, _, ⟨T323, L323, k323, n323⟩, -, X323, ⟨Lc323, hQ323, l323, y323, z323⟩, st323⟩ := LawKit.callS X321 hx (y := mn11) hown (own_m hZ hw 79) (own_m hZ hw 80) (own_m hZ hw 74) (own_m hZ hw 81) (by decide) (backOf (W := 1) (rmCL4_4 l Z a0 hw [] b321 k321 [(.int x0.toInt8.toInt32), (.int x1.toInt8.toInt32), (.int x2.toInt8.toInt32), (.int x3.toInt8.toInt32)] T321.heap n0 Zs321 V321) hZ (own_g hw 81) (own_g hw 74) (by decide) (by decide)) (g := (mkF m 45 #[Rv a1, Rv a2, Iv 0, Iv 4, Nv, Rv b321] [(.int 4), (.ref b321), (.ref a1)])) rfl (by rw [hml]; rfl) (argsL := [(.ref b321), (.int (4 : Int32))]) (rest := [(.ref a1)]) (lenOf own_pd219 rfl) rfl (own_z rfl) (hb hby d3_45) (fun _ _ => ⟨rfl, rfl, (by decide : 2 + 0 ≤ _), (by decide : 12 + 0 ≤ _)⟩)
    dsimp only [Pt.U, Pt.locs, Pt.cells, Pt.slots] at X323 l323 y323 z323 st323 hQ323
    subst l323 y323 z323
    obtain ⟨rfl, Nq323, eh323⟩ := hQ323
    have N323 := Fr.app N321 Nq323
    obtain ⟨T324, h324, X324, e324, W324, st324⟩ := putFN X323 hx hZ hown (own_g hw 27) Via.refl eh323 f322_3 f322_1 (Or.inr ⟨(own_g hw 23), rfl, hnm⟩) (own_g hw 7) (ty := .byte) (v' := (.int (0 : Int32))) (by decide) rfl (by decide) (g := (mkF m 48 #[Rv a1, Rv a2, Iv 0, Iv 4, Nv, Rv b321] [(.int 0), (.ref a1)])) rfl rfl (hb hby d3_48)
    have Fw324 : Fld Z h324 a1 "java/lang/String" "coder" "B" (.int (0 : Int32)) := f322_3.same W324
    have Kp324 : Keep h0 h324 [a1] := Kp321.wr W324 (Or.inl (List.mem_of_getElem? (i := 0) rfl))
    have Zs324 : n0 ≤ h324.size := Nat.le_trans Zs321 (Keep.of_wr W324).1
    have N324 := Fr.snoc X324 N323 g_a1
    have f325_0 : Old Z n0 h324 := f322_0.wr W324 g_a1
    have f325_1 : Exa Z h324 a1 "java/lang/String" := f322_1.wr W324
    have f325_2 : Fld Z h324 a1 "java/lang/String" "value" "[B" .null := f322_2.other W324 (Or.inr (slot_ne (Or.inr (own_g hw 22)) (Or.inr (own_g hw 23)) (by decide) (t := (.array .byte)) (t' := .byte) (by decide) (by decide)))
    have f325_4 : Arv Z h324 a2 kc .char (4 : Int32) [(.int x0), (.int x1), (.int x2), (.int x3)] (.int (0 : Int32)) := f322_4.other W324 ne12
    have f325_5 : Arv Z h324 b321 k321 .byte (4 : Int32) [(.int x0.toInt8.toInt32), (.int x1.toInt8.toInt32), (.int x2.toInt8.toInt32), (.int x3.toInt8.toInt32)] (.int (0 : Int32)) := V321.other W324 (Ne.symm ne321_a1)
    obtain ⟨T326, h326, X326, e326, W326, st326⟩ := putF X324 hx hZ hown (host := "") (Or.inl (own_g hw 26)) Via.refl e324 f325_2 f325_1 (Or.inr ⟨(own_g hw 22), rfl, hnm⟩) (own_g hw 7) (ty := (.array .byte)) (by decide) rfl rfl (g := (mkF m 54 #[Rv a1, Rv a2, Iv 0, Iv 4, Nv, Rv b321] [(.ref b321), (.ref a1)])) rfl rfl (hb hby d3_54)
    have Fw326 : Fld Z h326 a1 "java/lang/String" "value" "[B" (.ref b321) := f325_2.same W326
    have Kp326 : Keep h0 h326 [a1] := Kp324.wr W326 (Or.inl (List.mem_of_getElem? (i := 0) rfl))
    have Zs326 : n0 ≤ h326.size := Nat.le_trans Zs324 (Keep.of_wr W326).1
    have N326 := Fr.snoc X326 N324 g_a1
    have f327_0 : Old Z n0 h326 := f325_0.wr W326 g_a1
    have f327_1 : Exa Z h326 a1 "java/lang/String" := f325_1.wr W326
    have f327_3 : Arv Z h326 a2 kc .char (4 : Int32) [(.int x0), (.int x1), (.int x2), (.int x3)] (.int (0 : Int32)) := f325_4.other W326 ne12
    have f327_4 : Arv Z h326 b321 k321 .byte (4 : Int32) [(.int x0.toInt8.toInt32), (.int x1.toInt8.toInt32), (.int x2.toInt8.toInt32), (.int x3.toInt8.toInt32)] (.int (0 : Int32)) := f325_5.other W326 (Ne.symm ne321_a1)
    have f327_5 : Fld Z h326 a1 "java/lang/String" "coder" "B" (.int (0 : Int32)) := Fw324.other W326 (Or.inr (slot_ne (Or.inr (own_g hw 23)) (Or.inr (own_g hw 22)) (by decide) (t := .byte) (t' := (.array .byte)) (by decide) (by decide)))
    refine own_by (fun _ k => XS.astore X321.here hx rfl (hb hby d3_39) rfl rfl (l' := #[Rv a1, Rv a2, Iv 0, Iv 4, Nv, Rv b321]) rfl (XS.aloadN X321.here hx rfl (hb hby d3_41) rfl rfl (XS.aload X321.here hx rfl (hb hby d3_42) rfl rfl (XS.iloadN X321.here hx rfl (hb hby d3_44) rfl (st323 _ (st324 _ (XS.aloadN X324.here hx rfl (hb hby d3_51) rfl rfl (XS.aload X324.here hx rfl (hb hby d3_52) rfl rfl (st326 _ k))))))))) ?_
    exact own_retV X326 hx hlk hret (hb hby d3_57) (by rw [e326]; exact ⟨_, _, rfl, N326, Kp326, Fw326, Or.inl ⟨f327_5, f327_4, hk0, hk1, hk2, hk3⟩⟩) (by decide) (by decide)
  · show own_Fin _ _ _ _ _ _ _ T321 (mkF m 39 #[Rv a1, Rv a2, Iv 0, Iv 4, Nv, Uv] [(.ref b321)])
    obtain ⟨_, _, ⟨T328, L328, k328, n328⟩, -, X328, ⟨Lc328, hQ328, l328, y328, z328⟩, st328⟩ := LawKit.callS X321 hx (y := mn11) hown (own_m hZ hw 79) (own_m hZ hw 80) (own_m hZ hw 74) (own_m hZ hw 81) (by decide) (backOf (W := 1) (rmCL4_8 l Z a0 hw [] b321 k321 [(.int (own_lo x0)), (.int (own_hi x0)), (.int (own_lo x1)), (.int (own_hi x1)), (.int (own_lo x2)), (.int (own_hi x2)), (.int (own_lo x3)), (.int (own_hi x3))] T321.heap n0 Zs321 V321) hZ (own_g hw 81) (own_g hw 74) (by decide) (by decide)) (g := (mkF m 45 #[Rv a1, Rv a2, Iv 0, Iv 4, Nv, Rv b321] [(.int 4), (.ref b321), (.ref a1)])) rfl (by rw [hml]; rfl) (argsL := [(.ref b321), (.int (4 : Int32))]) (rest := [(.ref a1)]) (lenOf own_pd219 rfl) rfl (own_z rfl) (hb hby d3_45) (fun _ _ => ⟨rfl, rfl, (by decide : 2 + 0 ≤ _), (by decide : 12 + 0 ≤ _)⟩)
    dsimp only [Pt.U, Pt.locs, Pt.cells, Pt.slots] at X328 l328 y328 z328 st328 hQ328
    subst l328 y328 z328
    obtain ⟨rfl, Nq328, eh328⟩ := hQ328
    have N328 := Fr.app N321 Nq328
    obtain ⟨T329, h329, X329, e329, W329, st329⟩ := putFN X328 hx hZ hown (own_g hw 27) Via.refl eh328 f322_3 f322_1 (Or.inr ⟨(own_g hw 23), rfl, hnm⟩) (own_g hw 7) (ty := .byte) (v' := (.int (1 : Int32))) (by decide) rfl (by decide) (g := (mkF m 48 #[Rv a1, Rv a2, Iv 0, Iv 4, Nv, Rv b321] [(.int 1), (.ref a1)])) rfl rfl (hb hby d3_48)
    have Fw329 : Fld Z h329 a1 "java/lang/String" "coder" "B" (.int (1 : Int32)) := f322_3.same W329
    have Kp329 : Keep h0 h329 [a1] := Kp321.wr W329 (Or.inl (List.mem_of_getElem? (i := 0) rfl))
    have Zs329 : n0 ≤ h329.size := Nat.le_trans Zs321 (Keep.of_wr W329).1
    have N329 := Fr.snoc X329 N328 g_a1
    have f330_0 : Old Z n0 h329 := f322_0.wr W329 g_a1
    have f330_1 : Exa Z h329 a1 "java/lang/String" := f322_1.wr W329
    have f330_2 : Fld Z h329 a1 "java/lang/String" "value" "[B" .null := f322_2.other W329 (Or.inr (slot_ne (Or.inr (own_g hw 22)) (Or.inr (own_g hw 23)) (by decide) (t := (.array .byte)) (t' := .byte) (by decide) (by decide)))
    have f330_4 : Arv Z h329 a2 kc .char (4 : Int32) [(.int x0), (.int x1), (.int x2), (.int x3)] (.int (0 : Int32)) := f322_4.other W329 ne12
    have f330_5 : Arv Z h329 b321 k321 .byte (8 : Int32) [(.int (own_lo x0)), (.int (own_hi x0)), (.int (own_lo x1)), (.int (own_hi x1)), (.int (own_lo x2)), (.int (own_hi x2)), (.int (own_lo x3)), (.int (own_hi x3))] (.int (0 : Int32)) := V321.other W329 (Ne.symm ne321_a1)
    obtain ⟨T331, h331, X331, e331, W331, st331⟩ := putF X329 hx hZ hown (host := "") (Or.inl (own_g hw 26)) Via.refl e329 f330_2 f330_1 (Or.inr ⟨(own_g hw 22), rfl, hnm⟩) (own_g hw 7) (ty := (.array .byte)) (by decide) rfl rfl (g := (mkF m 54 #[Rv a1, Rv a2, Iv 0, Iv 4, Nv, Rv b321] [(.ref b321), (.ref a1)])) rfl rfl (hb hby d3_54)
    have Fw331 : Fld Z h331 a1 "java/lang/String" "value" "[B" (.ref b321) := f330_2.same W331
    have Kp331 : Keep h0 h331 [a1] := Kp329.wr W331 (Or.inl (List.mem_of_getElem? (i := 0) rfl))
    have Zs331 : n0 ≤ h331.size := Nat.le_trans Zs329 (Keep.of_wr W331).1
    have N331 := Fr.snoc X331 N329 g_a1
    have f332_0 : Old Z n0 h331 := f330_0.wr W331 g_a1
    have f332_1 : Exa Z h331 a1 "java/lang/String" := f330_1.wr W331
    have f332_3 : Arv Z h331 a2 kc .char (4 : Int32) [(.int x0), (.int x1), (.int x2), (.int x3)] (.int (0 : Int32)) := f330_4.other W331 ne12
    have f332_4 : Arv Z h331 b321 k321 .byte (8 : Int32) [(.int (own_lo x0)), (.int (own_hi x0)), (.int (own_lo x1)), (.int (own_hi x1)), (.int (own_lo x2)), (.int (own_hi x2)), (.int (own_lo x3)), (.int (own_hi x3))] (.int (0 : Int32)) := f330_5.other W331 (Ne.symm ne321_a1)
    have f332_5 : Fld Z h331 a1 "java/lang/String" "coder" "B" (.int (1 : Int32)) := Fw329.other W331 (Or.inr (slot_ne (Or.inr (own_g hw 23)) (Or.inr (own_g hw 22)) (by decide) (t := .byte) (t' := (.array .byte)) (by decide) (by decide)))
    refine own_by (fun _ k => XS.astore X321.here hx rfl (hb hby d3_39) rfl rfl (l' := #[Rv a1, Rv a2, Iv 0, Iv 4, Nv, Rv b321]) rfl (XS.aloadN X321.here hx rfl (hb hby d3_41) rfl rfl (XS.aload X321.here hx rfl (hb hby d3_42) rfl rfl (XS.iloadN X321.here hx rfl (hb hby d3_44) rfl (st328 _ (st329 _ (XS.aloadN X329.here hx rfl (hb hby d3_51) rfl rfl (XS.aload X329.here hx rfl (hb hby d3_52) rfl rfl (st331 _ k))))))))) ?_
    exact own_retV X331 hx hlk hret (hb hby d3_57) (by rw [e331]; exact ⟨_, _, rfl, N331, Kp331, Fw331, Or.inr ⟨f332_5, f332_4⟩⟩) (by decide) (by decide)
theorem rmYC4 (l : Launch) (Z : State) (a0 : Array Value) (hw : own_W a0 Z) (ws : List Jvm.Cond) (cs : Int32) (gS : Value) (a1 a2 : Addr) (kc : ClassId) (x0 x1 x2 x3 : Int32) (h0 : Heap) (n0 : Nat) (Z0 : n0 ≤ h0.size) (V_env : own_Env Z cs gS) (Od : Old Z n0 h0) (E_a1 : Exa Z h0 a1 "java/lang/String") (F_v : Fld Z h0 a1 "java/lang/String" "value" "[B" .null) (F_c : Fld Z h0 a1 "java/lang/String" "coder" "B" (.int (0 : Int32))) (g_a1 : n0 ≤ a1) (V2 : Arv Z h0 a2 kc .char (4 : Int32) [(.int x0), (.int x1), (.int x2), (.int x3)] (.int (0 : Int32))) (ne12 : a2 ≠ a1) (hx0 : own_ch x0) (hx1 : own_ch x1) (hx2 : own_ch x2) (hx3 : own_ch x3) : own_Met l Z mn3 jdk_42_method_3_code 2 none ws (own_R 5 2 12 74) #[(.ref a1), (.ref a2)] h0 (own_QYI4 Z a1 x0 x1 x2 x3 h0 n0) := by
  refine own_enter n0 (plainFor_of_name own_pn34) (fun m => ef_RR_2 m a1 a2 ) (fun p e s m below meth c s₁ hx hby hlk hml hret hown hnm hZ X0 e0 N0 => ?_)
  show own_Fin _ _ _ _ _ _ _ s₁ (mkF m 0 #[Rv a1, Rv a2] [])
  have Kp333 : Keep h0 h0 [a1] := Keep.refl h0 _
  obtain ⟨cl334, Ar334, -, S334, M334, -, -⟩ := id V2
  refine own_by (fun _ k => XS.aloadN X0.here hx rfl (hb hby d2_0) rfl rfl (XS.aloadN X0.here hx rfl (hb hby d2_1) rfl rfl (XS.iconst X0.here hx rfl (hb hby d2_2) (XS.aloadN X0.here hx rfl (hb hby d2_3) rfl rfl (X0.arraylength hx (by rw [e0]; exact Ar334.1) (State.isArrayOf_alike hZ.alike Ar334.2.1) (g := (mkF m 4 #[Rv a1, Rv a2] [(.ref a2), (.int 0), (.ref a2), (.ref a1)])) rfl rfl (hb hby d2_4) _ k))))) ?_
  rw [len_of S334 M334]
  show own_Fin _ _ _ _ _ _ _ s₁ (mkF m 5 #[Rv a1, Rv a2] [(.int 4), (.int 0), (.ref a2), (.ref a1)])
  obtain ⟨_, _, ⟨T335, L335, k335, n335⟩, -, X335, ⟨Lc335, hQ335, l335, y335, z335⟩, st335⟩ := X0.specialBack hx (y := mn2) rfl hown (own_m hZ hw 13) (own_m hZ hw 14) (own_m hZ hw 16) (by decide) (backOf (W := 0) (rmYI4 l Z a0 hw [] cs gS a1 a2 kc x0 x1 x2 x3 h0 n0 Z0 V_env Od E_a1 F_v F_c g_a1 V2 ne12 hx0 hx1 hx2 hx3) hZ (own_g hw 16) (own_g hw 8) (by decide) (by decide)) (g := (mkF m 6 #[Rv a1, Rv a2] [.null, (.int 4), (.int 0), (.ref a2), (.ref a1)])) rfl (by rw [hml]; rfl) (Steps.refl _) (a := a1) (argsL := [(.ref a2), (.int (0 : Int32)), (.int (4 : Int32)), .null]) (rest := []) (lenOf own_pd56 rfl) rfl (own_z rfl) (hb hby d2_6) (fun _ _ => ⟨rfl, e0, (by decide : 0 + 2 ≤ _), (by decide : 0 + 12 ≤ _)⟩)
  dsimp only [Pt.U, Pt.locs, Pt.cells, Pt.slots] at X335 l335 y335 z335 st335 hQ335
  subst l335 y335 z335
  obtain ⟨b335, k335, rfl, Nq335, K335, Gv335, hd335⟩ := hQ335
  have N335 := Fr.app N0 Nq335
  have Zs335 : n0 ≤ T335.heap.size := Nat.le_trans Z0 K335.1
  have Kp335 : Keep h0 T335.heap [a1] := Kp333.trans K335 (allS (Or.inl (List.mem_of_getElem? (i := 0) rfl)) all0)
  have f336_0 : Old Z n0 T335.heap := Od.keep K335 (allS g_a1 all0)
  have f336_1 : Exa Z T335.heap a1 "java/lang/String" := E_a1.keep K335
  have f336_4 : Arv Z T335.heap a2 kc .char (4 : Int32) [(.int x0), (.int x1), (.int x2), (.int x3)] (.int (0 : Int32)) := V2.keep K335 (ninS ne12 nin0)
  refine own_by (fun _ k => XS.aconstNull X0.here hx rfl (hb hby d2_5) (st335.trans k)) ?_
  exact own_retV X335 hx hlk hret (hb hby d2_9) ⟨_, _, rfl, N335, Kp335, Gv335, hd335⟩ (by decide) (by decide)
def own_QrmNBL1 (h0 : Heap) (n0 : Nat) (v : Option Value) (h : Heap) (L : List Loc) : Prop := v = some (.int (2 : Int32)) ∧ Fr n0 L ∧ h = h0
theorem rmNBL1 (l : Launch) (Z : State) (a0 : Array Value) (hw : own_W a0 Z) (ws : List Jvm.Cond)  (h0 : Heap) (n0 : Nat) (Z0 : n0 ≤ h0.size)  : own_Met l Z mn4 jdk_52_method_3_code 1 (some .int) ws (own_R 0 0 0 0) #[(.int (1 : Int32))] h0 (own_QrmNBL1 h0 n0) := by
  refine own_enter n0 (plainFor_of_name own_pn58) (fun m => ef_I_1 m (1 : Int32) ) (fun p e s m below meth c s₁ hx hby hlk hml hret hown hnm hZ X0 e0 N0 => ?_)
  show own_Fin _ _ _ _ _ _ _ s₁ (mkF m 0 #[Iv 1] [])
  refine own_by (fun _ k => XS.iloadN X0.here hx rfl (hb hby d26_0) rfl (XS.ifYes X0.here hx rfl (pc0 := 1) (pc' := 12) rfl (hb hby d26_1) rfl ((if0 _ _).trans (flt (by decide : ¬ ((1 : Int32) < (0 : Int32)))).2.1) (by decide) (by decide) (XS.iloadN X0.here hx rfl (hb hby d26_12) rfl (X0.ldcInt hx hown (own_m hZ hw 110) (g := (mkF m 13 #[Iv 1] [(.int 1)])) rfl (hb hby d26_13) _ (XS.icmpYes X0.here hx rfl (pc0 := 15) (pc' := 55) rfl (hb hby d26_15) rfl (tlt (by decide : (1 : Int32) < (1073741823 : Int32))).1 (by decide) (by decide) (XS.iloadN X0.here hx rfl (hb hby d26_55) rfl (XS.iconst X0.here hx rfl (hb hby d26_56) (XS.ishl X0.here hx rfl (hb hby d26_57) rfl k)))))))) ?_
  show own_Fin _ _ _ _ _ _ _ s₁ (mkF m 58 #[Iv 1] [(.int ((1 : Int32) <<< ((1 : Int32) &&& 31)))])
  rw [(by decide : ((1 : Int32) <<< ((1 : Int32) &&& 31)) = (2 : Int32))]
  show own_Fin _ _ _ _ _ _ _ s₁ (mkF m 58 #[Iv 1] [(.int 2)])
  exact own_retI X0 hx hlk hret (hb hby d26_58) ⟨rfl, N0, e0⟩ (by decide) (by decide)
def own_QNBF1 (Z : State) (h0 : Heap) (n0 : Nat) (v : Option Value) (h : Heap) (L : List Loc) : Prop := ∃ (a : Addr) (k : ClassId), v = some (.ref a) ∧ Fr n0 L ∧ Keep h0 h [] ∧ h0.size ≤ a ∧ Arv Z h a k .byte (2 : Int32) [(.int (0 : Int32)), (.int (0 : Int32))] (.int (0 : Int32))
theorem rmNBF1 (l : Launch) (Z : State) (a0 : Array Value) (hw : own_W a0 Z) (ws : List Jvm.Cond)  (h0 : Heap) (n0 : Nat) (Z0 : n0 ≤ h0.size)  : own_Met l Z mn5 jdk_52_method_2_code 1 (some (.array .byte)) ws (own_R 1 1 2 12) #[(.int (1 : Int32))] h0 (own_QNBF1 Z h0 n0) := by
  refine own_enter n0 (plainFor_of_name own_pn58) (fun m => ef_I_1 m (1 : Int32) ) (fun p e s m below meth c s₁ hx hby hlk hml hret hown hnm hZ X0 e0 N0 => ?_)
  show own_Fin _ _ _ _ _ _ _ s₁ (mkF m 0 #[Iv 1] [])
  have Kp337 : Keep h0 h0 [] := Keep.refl h0 _
  obtain ⟨_, _, ⟨T338, L338, k338, n338⟩, -, X338, ⟨Lc338, hQ338, l338, y338, z338⟩, st338⟩ := LawKit.callS X0 hx (y := mn4) hown (own_m hZ hw 107) (own_m hZ hw 108) (own_m hZ hw 74) (own_m hZ hw 109) (by decide) (backOf (W := 0) (rmNBL1 l Z a0 hw []  h0 n0 Z0 ) hZ (own_g hw 109) (own_g hw 74) (by decide) (by decide)) (g := (mkF m 1 #[Iv 1] [(.int 1)])) rfl (by rw [hml]; rfl) (argsL := [(.int (1 : Int32))]) (rest := []) (lenOf own_pd70 rfl) rfl (own_z rfl) (hb hby d25_1) (fun _ _ => ⟨rfl, e0, (by decide : 0 + 0 ≤ _), (by decide : 0 + 0 ≤ _)⟩)
  dsimp only [Pt.U, Pt.locs, Pt.cells, Pt.slots] at X338 l338 y338 z338 st338 hQ338
  subst l338 y338 z338
  obtain ⟨rfl, Nq338, eh338⟩ := hQ338
  have N338 := Fr.app N0 Nq338
  obtain ⟨T339, h339, k339, X339, e339, E339, A339, st339⟩ := newP X338 hx hZ (own_g hw 21) eh338 (g := (mkF m 4 #[Iv 1] [(.int 2)])) rfl (hb hby d25_4) rfl (by decide) (cap := 2) (by decide) (by decide) (by decide) (by decide)
  obtain ⟨b339, g339⟩ : ∃ z, z = h0.size := ⟨_, rfl⟩
  rw [← g339] at A339 st339
  have V339 : Arv Z h339 b339 k339 .byte (2 : Int32) [(.int (0 : Int32)), (.int (0 : Int32))] (.int (0 : Int32)) := (Arv.new A339 (by decide)).pad (pad_rep [] (.int (0 : Int32)) 2)
  have gf339 : n0 ≤ b339 := Nat.le_trans Z0 (Nat.le_of_eq g339.symm)
  have Zs339 : n0 ≤ h339.size := Nat.le_trans Z0 E339.1
  have Kp339 : Keep h0 h339 [] := Kp337.ext E339
  have sz_b339 : h0.size ≤ b339 := Nat.le_trans Kp337.1 (Nat.le_of_eq g339.symm)
  refine own_by (fun _ k => XS.iloadN X0.here hx rfl (hb hby d25_0) rfl (st338 _ (st339 _ k))) ?_
  exact own_retA X339 hx hlk (t := (.array .byte)) hret rfl rfl rfl (hb hby d25_6) (by rw [e339]; exact ⟨_, _, rfl, N338, Kp339, sz_b339, V339⟩) (by decide) (by decide)
def own_QPC1_0 (Z : State) (a1 : Addr) (k1 : ClassId) (cc : Int32) (w0 w1 : Int32) (h0 : Heap) (n0 : Nat) (v : Option Value) (h : Heap) (L : List Loc) : Prop := v = none ∧ Fr n0 L ∧ Keep h0 h [a1] ∧ Arv Z h a1 k1 .byte (2 : Int32) [(.int (own_lo cc)), (.int (own_hi cc))] (.int (0 : Int32))
set_option maxRecDepth 65536 in
set_option maxHeartbeats 40000000 in
theorem rmPC1_0 (l : Launch) (Z : State) (a0 : Array Value) (hw : own_W a0 Z) (ws : List Jvm.Cond) (cs : Int32) (gS : Value) (a1 : Addr) (k1 : ClassId) (cc : Int32) (w0 w1 : Int32) (h0 : Heap) (n0 : Nat) (Z0 : n0 ≤ h0.size) (V_env : own_Env Z cs gS) (Od : Old Z n0 h0) (V1 : Arv Z h0 a1 k1 .byte (2 : Int32) [(.int w0), (.int w1)] (.int (0 : Int32))) (g_1 : n0 ≤ a1) : own_Met l Z mn6 jdk_52_method_4_code 3 none ws (own_R 0 0 0 0) #[(.ref a1), (.int (0 : Int32)), (.int cc)] h0 (own_QPC1_0 Z a1 k1 cc w0 w1 h0 n0) := by
  refine own_enter n0 (plainFor_of_name own_pn58) (fun m => ef_RII_3 m a1 (0 : Int32) cc ) (fun p e s m below meth c s₁ hx hby hlk hml hret hown hnm hZ X0 e0 N0 => ?_)
  show own_Fin _ _ _ _ _ _ _ s₁ (mkF m 0 #[Rv a1, Iv 0, Iv cc] [])
  have Kp341 : Keep h0 h0 [a1] := Keep.refl h0 _
  obtain ⟨T342, X342, e342, st342⟩ := getS2 X0 hx hZ hown (host := "") (Or.inl (own_g hw 114)) Via.refl e0 (V_env.1.ext Od.2) (g := (mkF m 0 #[Rv a1, Iv 0, Iv cc] [])) rfl (hb hby d27_0)
  refine own_by (fun _ k => st342 _ (XS.ifYes X342.here hx rfl (pc0 := 3) (pc' := 28) rfl (hb hby d27_3) rfl ((if0 _ _).trans (feq (by decide : ¬ ((1 : Int32) = (0 : Int32)))).2) (by decide) (by decide) (XS.iloadN X342.here hx rfl (hb hby d27_28) rfl (XS.iconst X342.here hx rfl (hb hby d27_29) (XS.ishl X342.here hx rfl (hb hby d27_30) rfl k))))) ?_
  show own_Fin _ _ _ _ _ _ _ T342 (mkF m 31 #[Rv a1, Iv 0, Iv cc] [(.int ((0 : Int32) <<< ((1 : Int32) &&& 31)))])
  rw [(by decide : ((0 : Int32) <<< ((1 : Int32) &&& 31)) = (0 : Int32))]
  show own_Fin _ _ _ _ _ _ _ T342 (mkF m 31 #[Rv a1, Iv 0, Iv cc] [(.int 0)])
  refine own_by (fun _ k => XS.istoreN X342.here hx rfl (hb hby d27_31) rfl (l' := #[Rv a1, Iv 0, Iv cc]) rfl (XS.aloadN X342.here hx rfl (hb hby d27_32) rfl rfl (XS.iloadN X342.here hx rfl (hb hby d27_33) rfl (XS.iinc X342.here hx rfl (hb hby d27_34) rfl (l' := #[Rv a1, Iv ((0 : Int32) + (1 : Int32)), Iv cc]) rfl k)))) ?_
  show own_Fin _ _ _ _ _ _ _ T342 (mkF m 37 #[Rv a1, Iv ((0 : Int32) + (1 : Int32)), Iv cc] [(.int 0), (.ref a1)])
  rw [(by decide : ((0 : Int32) + (1 : Int32)) = (1 : Int32))]
  show own_Fin _ _ _ _ _ _ _ T342 (mkF m 37 #[Rv a1, Iv 1, Iv cc] [(.int 0), (.ref a1)])
  obtain ⟨T343, X343, e343, st343⟩ := getS2 X342 hx hZ hown (host := "") (Or.inl (own_g hw 115)) Via.refl e342 (V_env.2.1.ext Od.2) (g := (mkF m 38 #[Rv a1, Iv 1, Iv cc] [(.int cc), (.int 0), (.ref a1)])) rfl (hb hby d27_38)
  obtain ⟨cl344, Ar344, q344, S344, M344, H344, G344⟩ := id V1
  have hin344 : ¬ ((0 : Int32) < 0 ∨ cl344.slots.size ≤ ((0 : Int32)).toNatClampNeg) := inb_of S344 ⟨by decide, by decide⟩
  obtain ⟨T344, h344, X344, e344, W344, st344⟩ := stB X343 hx hZ e343 Ar344 (j := (0 : Int32)) hin344 (g := (mkF m 43 #[Rv a1, Iv 1, Iv cc] [(.int ((cc >>> ((0 : Int32) &&& 31)).toInt8.toInt32)), (.int 0), (.ref a1)])) rfl rfl (hb hby d27_43)
  have V344 : Arv Z h344 a1 k1 .byte (2 : Int32) [(.int ((cc >>> ((0 : Int32) &&& 31)).toInt8.toInt32).toInt8.toInt32), (.int w1)] (.int (0 : Int32)) := Arv.set Ar344 q344 S344 M344 H344 G344 (fits_nar_byte _) W344 0 rfl (Nat.le_of_ble_eq_true rfl)
  have Kp344 : Keep h0 h344 [a1] := Kp341.wr W344 (Or.inl (List.mem_of_getElem? (i := 0) rfl))
  have Zs344 : n0 ≤ h344.size := Nat.le_trans Z0 (Keep.of_wr W344).1
  have N344 := Fr.snoc X344 N0 g_1
  have f345_0 : Old Z n0 h344 := Od.wr W344 g_1
  obtain ⟨T346, X346, e346, st346⟩ := getS2 X344 hx hZ hown (host := "") (Or.inl (own_g hw 116)) Via.refl e344 (V_env.2.2.1.ext f345_0.2) (g := (mkF m 47 #[Rv a1, Iv 1, Iv cc] [(.int cc), (.int 1), (.ref a1)])) rfl (hb hby d27_47)
  refine own_by (fun _ k => XS.iloadN X342.here hx rfl (hb hby d27_37) rfl (st343 _ (XS.ishr X343.here hx rfl (hb hby d27_41) rfl (XS.i2b X343.here hx rfl (hb hby d27_42) rfl (st344 _ (XS.aloadN X344.here hx rfl (hb hby d27_44) rfl rfl (XS.iloadN X344.here hx rfl (hb hby d27_45) rfl (XS.iloadN X344.here hx rfl (hb hby d27_46) rfl (st346 _ (XS.ishr X346.here hx rfl (hb hby d27_50) rfl k)))))))))) ?_
  show own_Fin _ _ _ _ _ _ _ T346 (mkF m 51 #[Rv a1, Iv 1, Iv cc] [(.int (cc >>> ((8 : Int32) &&& 31))), (.int 1), (.ref a1)])
  obtain ⟨cl347, Ar347, q347, S347, M347, H347, G347⟩ := id V344
  have hin347 : ¬ ((1 : Int32) < 0 ∨ cl347.slots.size ≤ ((1 : Int32)).toNatClampNeg) := inb_of S347 ⟨by decide, by decide⟩
  obtain ⟨T347, h347, X347, e347, W347, st347⟩ := stB X346 hx hZ e346 Ar347 (j := (1 : Int32)) hin347 (g := (mkF m 52 #[Rv a1, Iv 1, Iv cc] [(.int ((cc >>> ((8 : Int32) &&& 31)).toInt8.toInt32)), (.int 1), (.ref a1)])) rfl rfl (hb hby d27_52)
  have V347 : Arv Z h347 a1 k1 .byte (2 : Int32) [(.int ((cc >>> ((0 : Int32) &&& 31)).toInt8.toInt32).toInt8.toInt32), (.int ((cc >>> ((8 : Int32) &&& 31)).toInt8.toInt32).toInt8.toInt32)] (.int (0 : Int32)) := Arv.set Ar347 q347 S347 M347 H347 G347 (fits_nar_byte _) W347 1 rfl (Nat.le_of_ble_eq_true rfl)
  have Kp347 : Keep h0 h347 [a1] := Kp344.wr W347 (Or.inl (List.mem_of_getElem? (i := 0) rfl))
  have Zs347 : n0 ≤ h347.size := Nat.le_trans Zs344 (Keep.of_wr W347).1
  have N347 := Fr.snoc X347 N344 g_1
  have f348_0 : Old Z n0 h347 := f345_0.wr W347 g_1
  refine own_by (fun _ k => XS.i2b X346.here hx rfl (hb hby d27_51) rfl (st347 _ k)) ?_
  exact own_retV X347 hx hlk hret (hb hby d27_53) (by rw [e347]; exact ⟨rfl, N347, Kp347, (by have q := V347; simp only [own_b8] at q; exact q)⟩) (by decide) (by decide)
def own_QTB1 (Z : State) (x0 : Int32) (h0 : Heap) (n0 : Nat) (v : Option Value) (h : Heap) (L : List Loc) : Prop := ∃ (a : Addr) (k : ClassId), v = some (.ref a) ∧ Fr n0 L ∧ Keep h0 h [] ∧ h0.size ≤ a ∧ Arv Z h a k .byte (2 : Int32) [(.int (own_lo x0)), (.int (own_hi x0))] (.int (0 : Int32))
set_option maxRecDepth 65536 in
set_option maxHeartbeats 40000000 in
theorem rmTB1 (l : Launch) (Z : State) (a0 : Array Value) (hw : own_W a0 Z) (ws : List Jvm.Cond) (cs : Int32) (gS : Value) (a1 : Addr) (kc : ClassId) (x0 : Int32) (h0 : Heap) (n0 : Nat) (Z0 : n0 ≤ h0.size) (V_env : own_Env Z cs gS) (Od : Old Z n0 h0) (V1 : Arv Z h0 a1 kc .char (1 : Int32) [(.int x0)] (.int (0 : Int32))) : own_Met l Z mn7 jdk_52_method_14_code 5 (some (.array .byte)) ws (own_R 2 1 2 24) #[(.ref a1), (.int (0 : Int32)), (.int (1 : Int32))] h0 (own_QTB1 Z x0 h0 n0) := by
  refine own_enter n0 (plainFor_of_name own_pn58) (fun m => ef_RII_5 m a1 (0 : Int32) (1 : Int32) ) (fun p e s m below meth c s₁ hx hby hlk hml hret hown hnm hZ X0 e0 N0 => ?_)
  show own_Fin _ _ _ _ _ _ _ s₁ (mkF m 0 #[Rv a1, Iv 0, Iv 1, Uv, Uv] [])
  have Kp349 : Keep h0 h0 [] := Keep.refl h0 _
  obtain ⟨_, _, ⟨T350, L350, k350, n350⟩, -, X350, ⟨Lc350, hQ350, l350, y350, z350⟩, st350⟩ := LawKit.callS X0 hx (y := mn5) hown (own_m hZ hw 104) (own_m hZ hw 105) (own_m hZ hw 74) (own_m hZ hw 106) (by decide) (backOf (W := 0) (rmNBF1 l Z a0 hw []  h0 n0 Z0 ) hZ (own_g hw 106) (own_g hw 74) (by decide) (by decide)) (g := (mkF m 1 #[Rv a1, Iv 0, Iv 1, Uv, Uv] [(.int 1)])) rfl (by rw [hml]; rfl) (argsL := [(.int (1 : Int32))]) (rest := []) (lenOf own_pd99 rfl) rfl (own_z rfl) (hb hby d24_1) (fun _ _ => ⟨rfl, e0, (by decide : 0 + 1 ≤ _), (by decide : 0 + 2 ≤ _)⟩)
  dsimp only [Pt.U, Pt.locs, Pt.cells, Pt.slots] at X350 l350 y350 z350 st350 hQ350
  subst l350 y350 z350
  obtain ⟨b350, k350, rfl, Nq350, K350, ge350, V350⟩ := hQ350
  have N350 := Fr.app N0 Nq350
  have Zs350 : n0 ≤ T350.heap.size := Nat.le_trans Z0 K350.1
  have Kp350 : Keep h0 T350.heap [] := Kp349.trans K350 all0
  have f351_0 : Old Z n0 T350.heap := Od.keep K350 all0
  have f351_1 : Arv Z T350.heap a1 kc .char (1 : Int32) [(.int x0)] (.int (0 : Int32)) := V1.keep K350 nin0
  have ne350_a1 : a1 ≠ b350 := Nat.ne_of_lt (Nat.lt_of_lt_of_le V1.lt ge350)
  have gf350 : n0 ≤ b350 := Nat.le_trans Z0 ge350
  have sz_b350 : h0.size ≤ b350 := Nat.le_trans Kp349.1 ge350
  refine own_by (fun _ k => XS.iloadN X0.here hx rfl (hb hby d24_0) rfl (st350 _ (XS.astoreN X350.here hx rfl (hb hby d24_4) rfl rfl (l' := #[Rv a1, Iv 0, Iv 1, Rv b350, Uv]) rfl (XS.iconst X350.here hx rfl (hb hby d24_5) (XS.istore X350.here hx rfl (hb hby d24_6) rfl (l' := #[Rv a1, Iv 0, Iv 1, Rv b350, Iv 0]) rfl (XS.iload X350.here hx rfl (hb hby d24_8) rfl (XS.iloadN X350.here hx rfl (hb hby d24_10) rfl (XS.icmpNo X350.here hx rfl (hb hby d24_11) rfl (tlt (by decide : (0 : Int32) < (1 : Int32))).2.1 (XS.aloadN X350.here hx rfl (hb hby d24_14) rfl rfl (XS.iload X350.here hx rfl (hb hby d24_15) rfl k)))))))))) ?_
  show own_Fin _ _ _ _ _ _ _ T350 (mkF m 17 #[Rv a1, Iv 0, Iv 1, Rv b350, Iv 0] [(.int 0), (.ref b350)])
  obtain ⟨cl352, Ar352, -, S352, M352, H352, -⟩ := id f351_1
  have hin352 : ¬ ((0 : Int32) < 0 ∨ cl352.slots.size ≤ ((0 : Int32)).toNatClampNeg) := inb_of S352 ⟨by decide, by decide⟩
  have hat352 : cl352.slots[((0 : Int32)).toNatClampNeg]? = some (.int x0) := Has.at H352 hin352 rfl
  obtain ⟨_, _, ⟨T353, L353, k353, n353⟩, -, X353, ⟨Lc353, hQ353, l353, y353, z353⟩, st353⟩ := LawKit.callS X350 hx (y := mn6) hown (own_m hZ hw 111) (own_m hZ hw 112) (own_m hZ hw 74) (own_m hZ hw 113) (by decide) (backOf (W := 0) (rmPC1_0 l Z a0 hw [] cs gS b350 k350 x0 (0 : Int32) (0 : Int32) T350.heap n0 Zs350 V_env f351_0 V350 gf350) hZ (own_g hw 113) (own_g hw 74) (by decide) (by decide)) (g := (mkF m 20 #[Rv a1, Iv 0, Iv 1, Rv b350, Iv 0] [(.int x0), (.int 0), (.ref b350)])) rfl (by rw [hml]; rfl) (argsL := [(.ref b350), (.int (0 : Int32)), (.int x0)]) (rest := []) (lenOf own_pd112 rfl) rfl (own_z rfl) (hb hby d24_20) (fun _ _ => ⟨rfl, rfl, (by decide : 1 + 0 ≤ _), (by decide : 2 + 0 ≤ _)⟩)
  dsimp only [Pt.U, Pt.locs, Pt.cells, Pt.slots] at X353 l353 y353 z353 st353 hQ353
  subst l353 y353 z353
  obtain ⟨rfl, Nq353, K353, Vr353⟩ := hQ353
  have N353 := Fr.app N350 Nq353
  have Zs353 : n0 ≤ T353.heap.size := Nat.le_trans Zs350 K353.1
  have Kp353 : Keep h0 T353.heap [] := Kp350.trans K353 (allS (Or.inr sz_b350) all0)
  have f354_0 : Old Z n0 T353.heap := f351_0.keep K353 (allS gf350 all0)
  have f354_1 : Arv Z T353.heap a1 kc .char (1 : Int32) [(.int x0)] (.int (0 : Int32)) := f351_1.keep K353 (ninS ne350_a1 nin0)
  refine own_by (fun _ k => XS.aloadN X350.here hx rfl (hb hby d24_17) rfl rfl (XS.iloadN X350.here hx rfl (hb hby d24_18) rfl (X350.caload hx (j := (0 : Int32)) (v := (.int x0)) Ar352.1 (State.isArrayOf_alike hZ.alike Ar352.2.1) Ar352.2.2 hin352 hat352 (g := (mkF m 19 #[Rv a1, Iv 0, Iv 1, Rv b350, Iv 0] [(.int 0), (.ref a1), (.int 0), (.ref b350)])) rfl rfl (hb hby d24_19) _ (st353 _ (XS.iinc X353.here hx rfl (hb hby d24_23) rfl (l' := #[Rv a1, Iv ((0 : Int32) + (1 : Int32)), Iv 1, Rv b350, Iv 0]) rfl k))))) ?_
  show own_Fin _ _ _ _ _ _ _ T353 (mkF m 26 #[Rv a1, Iv ((0 : Int32) + (1 : Int32)), Iv 1, Rv b350, Iv 0] [])
  rw [(by decide : ((0 : Int32) + (1 : Int32)) = (1 : Int32))]
  show own_Fin _ _ _ _ _ _ _ T353 (mkF m 26 #[Rv a1, Iv 1, Iv 1, Rv b350, Iv 0] [])
  refine own_by (fun _ k => XS.iinc X353.here hx rfl (hb hby d24_26) rfl (l' := #[Rv a1, Iv 1, Iv 1, Rv b350, Iv ((0 : Int32) + (1 : Int32))]) rfl k) ?_
  show own_Fin _ _ _ _ _ _ _ T353 (mkF m 29 #[Rv a1, Iv 1, Iv 1, Rv b350, Iv ((0 : Int32) + (1 : Int32))] [])
  rw [(by decide : ((0 : Int32) + (1 : Int32)) = (1 : Int32))]
  show own_Fin _ _ _ _ _ _ _ T353 (mkF m 29 #[Rv a1, Iv 1, Iv 1, Rv b350, Iv 1] [])
  refine own_by (fun _ k => XS.goto X353.here hx rfl (pc0 := 29) (pc' := 8) rfl (hb hby d24_29) (by decide) (by decide) (XS.iload X353.here hx rfl (hb hby d24_8) rfl (XS.iloadN X353.here hx rfl (hb hby d24_10) rfl (XS.icmpYes X353.here hx rfl (pc0 := 11) (pc' := 32) rfl (hb hby d24_11) rfl (flt (by decide : ¬ ((1 : Int32) < (1 : Int32)))).2.1 (by decide) (by decide) (XS.aloadN X353.here hx rfl (hb hby d24_32) rfl rfl k))))) ?_
  exact own_retA X353 hx hlk (t := (.array .byte)) hret rfl rfl rfl (hb hby d24_33) ⟨_, _, rfl, N353, Kp353, sz_b350, Vr353⟩ (by decide) (by decide)
theorem own_pn225 : plainName "java/lang/StringLatin1" = true := by first | (simp [plainName, overriddenIn]; done) | decide +kernel
theorem d21_0 : decode jdk_43_method_3_code 0 = .ok (.iload_n 0, 1) := by decide +kernel
theorem d21_1 : decode jdk_43_method_3_code 1 = .ok (.sipush 255, 3) := by decide +kernel
theorem d21_4 : decode jdk_43_method_3_code 4 = .ok (.if_icmp .gt 7, 3) := by decide +kernel
theorem d21_7 : decode jdk_43_method_3_code 7 = .ok (.iconst 1, 1) := by decide +kernel
theorem d21_8 : decode jdk_43_method_3_code 8 = .ok (.goto 4, 3) := by decide +kernel
theorem d21_12 : decode jdk_43_method_3_code 12 = .ok (.ireturn, 1) := by decide +kernel
def own_QrmCEL (h0 : Heap) (n0 : Nat) (v : Option Value) (h : Heap) (L : List Loc) : Prop := v = some (.int (1 : Int32)) ∧ Fr n0 L ∧ h = h0
theorem rmCEL (l : Launch) (Z : State) (a0 : Array Value) (hw : own_W a0 Z) (ws : List Jvm.Cond) (p1 : Int32) (h0 : Heap) (n0 : Nat) (Z0 : n0 ≤ h0.size) (hb1 : ¬ (255 : Int32) < p1) : own_Met l Z mn12 jdk_43_method_3_code 1 (some .boolean) ws (own_R 0 0 0 0) #[(.int p1)] h0 (own_QrmCEL h0 n0) := by
  refine own_enter n0 (plainFor_of_name own_pn225) (fun m => ef_I_1 m p1 ) (fun p e s m below meth c s₁ hx hby hlk hml hret hown hnm hZ X0 e0 N0 => ?_)
  show own_Fin _ _ _ _ _ _ _ s₁ (mkF m 0 #[Iv p1] [])
  refine own_by (fun _ k => XS.iloadN X0.here hx rfl (hb hby d21_0) rfl (XS.sipush X0.here hx rfl (hb hby d21_1) (XS.icmpNo X0.here hx rfl (hb hby d21_4) rfl (flt hb1).2.2.1 (XS.iconst X0.here hx rfl (hb hby d21_7) (XS.goto X0.here hx rfl (pc0 := 8) (pc' := 12) rfl (hb hby d21_8) (by decide) (by decide) k))))) ?_
  exact own_retZ X0 hx hlk (t := .boolean) hret (by simp) (hb hby d21_12) ⟨rfl, N0, e0⟩ (by decide) (by decide)
theorem d21_11 : decode jdk_43_method_3_code 11 = .ok (.iconst 0, 1) := by decide +kernel
def own_QrmCEU (h0 : Heap) (n0 : Nat) (v : Option Value) (h : Heap) (L : List Loc) : Prop := v = some (.int (0 : Int32)) ∧ Fr n0 L ∧ h = h0
theorem rmCEU (l : Launch) (Z : State) (a0 : Array Value) (hw : own_W a0 Z) (ws : List Jvm.Cond) (p1 : Int32) (h0 : Heap) (n0 : Nat) (Z0 : n0 ≤ h0.size) (hb1 : (255 : Int32) < p1) : own_Met l Z mn12 jdk_43_method_3_code 1 (some .boolean) ws (own_R 0 0 0 0) #[(.int p1)] h0 (own_QrmCEU h0 n0) := by
  refine own_enter n0 (plainFor_of_name own_pn225) (fun m => ef_I_1 m p1 ) (fun p e s m below meth c s₁ hx hby hlk hml hret hown hnm hZ X0 e0 N0 => ?_)
  show own_Fin _ _ _ _ _ _ _ s₁ (mkF m 0 #[Iv p1] [])
  refine own_by (fun _ k => XS.iloadN X0.here hx rfl (hb hby d21_0) rfl (XS.sipush X0.here hx rfl (hb hby d21_1) (XS.icmpYes X0.here hx rfl (pc0 := 4) (pc' := 11) rfl (hb hby d21_4) rfl (tlt hb1).2.2.1 (by decide) (by decide) (XS.iconst X0.here hx rfl (hb hby d21_11) k)))) ?_
  exact own_retZ X0 hx hlk (t := .boolean) hret (by simp) (hb hby d21_12) ⟨rfl, N0, e0⟩ (by decide) (by decide)
theorem d22_0 : decode jdk_43_method_46_code 0 = .ok (.iconst 1, 1) := by decide +kernel
theorem d22_1 : decode jdk_43_method_46_code 1 = .ok (.newarray .byte, 2) := by decide +kernel
theorem d22_3 : decode jdk_43_method_46_code 3 = .ok (.dup, 1) := by decide +kernel
theorem d22_4 : decode jdk_43_method_46_code 4 = .ok (.iconst 0, 1) := by decide +kernel
theorem d22_5 : decode jdk_43_method_46_code 5 = .ok (.iload_n 0, 1) := by decide +kernel
theorem d22_6 : decode jdk_43_method_46_code 6 = .ok (.i2b, 1) := by decide +kernel
theorem d22_7 : decode jdk_43_method_46_code 7 = .ok (.bastore, 1) := by decide +kernel
theorem d22_8 : decode jdk_43_method_46_code 8 = .ok (.areturn, 1) := by decide +kernel
def own_QTBL (Z : State) (p1 : Int32) (h0 : Heap) (n0 : Nat) (v : Option Value) (h : Heap) (L : List Loc) : Prop := ∃ (a : Addr) (k : ClassId), v = some (.ref a) ∧ Fr n0 L ∧ Keep h0 h [] ∧ h0.size ≤ a ∧ Arv Z h a k .byte (1 : Int32) [(.int p1.toInt8.toInt32)] (.int (0 : Int32))
theorem rmTBL (l : Launch) (Z : State) (a0 : Array Value) (hw : own_W a0 Z) (ws : List Jvm.Cond) (p1 : Int32) (h0 : Heap) (n0 : Nat) (Z0 : n0 ≤ h0.size)  : own_Met l Z mn13 jdk_43_method_46_code 1 (some (.array .byte)) ws (own_R 0 1 1 0) #[(.int p1)] h0 (own_QTBL Z p1 h0 n0) := by
  refine own_enter n0 (plainFor_of_name own_pn225) (fun m => ef_I_1 m p1 ) (fun p e s m below meth c s₁ hx hby hlk hml hret hown hnm hZ X0 e0 N0 => ?_)
  show own_Fin _ _ _ _ _ _ _ s₁ (mkF m 0 #[Iv p1] [])
  have Kp355 : Keep h0 h0 [] := Keep.refl h0 _
  obtain ⟨T356, h356, k356, X356, e356, E356, A356, st356⟩ := newP X0 hx hZ (own_g hw 21) e0 (g := (mkF m 1 #[Iv p1] [(.int 1)])) rfl (hb hby d22_1) rfl (by decide) (cap := 1) (by decide) (by decide) (by decide) (by decide)
  obtain ⟨b356, g356⟩ : ∃ z, z = h0.size := ⟨_, rfl⟩
  rw [← g356] at A356 st356
  have V356 : Arv Z h356 b356 k356 .byte (1 : Int32) [(.int (0 : Int32))] (.int (0 : Int32)) := (Arv.new A356 (by decide)).pad (pad_rep [] (.int (0 : Int32)) 1)
  have gf356 : n0 ≤ b356 := Nat.le_trans Z0 (Nat.le_of_eq g356.symm)
  have Zs356 : n0 ≤ h356.size := Nat.le_trans Z0 E356.1
  have Kp356 : Keep h0 h356 [] := Kp355.ext E356
  have sz_b356 : h0.size ≤ b356 := Nat.le_trans Kp355.1 (Nat.le_of_eq g356.symm)
  obtain ⟨cl358, Ar358, q358, S358, M358, H358, G358⟩ := id V356
  have hin358 : ¬ ((0 : Int32) < 0 ∨ cl358.slots.size ≤ ((0 : Int32)).toNatClampNeg) := inb_of S358 ⟨by decide, by decide⟩
  obtain ⟨T358, h358, X358, e358, W358, st358⟩ := stB X356 hx hZ e356 Ar358 (j := (0 : Int32)) hin358 (g := (mkF m 7 #[Iv p1] [(.int (p1.toInt8.toInt32)), (.int 0), (.ref b356), (.ref b356)])) rfl rfl (hb hby d22_7)
  have V358 : Arv Z h358 b356 k356 .byte (1 : Int32) [(.int (p1.toInt8.toInt32).toInt8.toInt32)] (.int (0 : Int32)) := Arv.set Ar358 q358 S358 M358 H358 G358 (fits_nar_byte _) W358 0 rfl (Nat.le_of_ble_eq_true rfl)
  have Kp358 : Keep h0 h358 [] := Kp356.wr W358 (Or.inr sz_b356)
  have Zs358 : n0 ≤ h358.size := Nat.le_trans Zs356 (Keep.of_wr W358).1
  have N358 := Fr.snoc X358 N0 gf356
  refine own_by (fun _ k => XS.iconst X0.here hx rfl (hb hby d22_0) (st356 _ (XS.dup X356.here hx rfl (hb hby d22_3) rfl rfl (XS.iconst X356.here hx rfl (hb hby d22_4) (XS.iloadN X356.here hx rfl (hb hby d22_5) rfl (XS.i2b X356.here hx rfl (hb hby d22_6) rfl (st358 _ k))))))) ?_
  exact own_retA X358 hx hlk (t := (.array .byte)) hret rfl rfl rfl (hb hby d22_8) (by rw [e358]; exact ⟨_, _, rfl, N358, Kp358, sz_b356, (by have q := V358; simp only [own_b8] at q; exact q)⟩) (by decide) (by decide)
theorem d36_0 : decode jdk_52_method_24_code 0 = .ok (.iconst 2, 1) := by decide +kernel
theorem d36_1 : decode jdk_52_method_24_code 1 = .ok (.newarray .byte, 2) := by decide +kernel
theorem d36_3 : decode jdk_52_method_24_code 3 = .ok (.astore_n 1, 1) := by decide +kernel
theorem d36_4 : decode jdk_52_method_24_code 4 = .ok (.aload_n 1, 1) := by decide +kernel
theorem d36_5 : decode jdk_52_method_24_code 5 = .ok (.iconst 0, 1) := by decide +kernel
theorem d36_6 : decode jdk_52_method_24_code 6 = .ok (.iload_n 0, 1) := by decide +kernel
theorem d36_7 : decode jdk_52_method_24_code 7 = .ok (.invokestatic 111, 3) := by decide +kernel
theorem d36_10 : decode jdk_52_method_24_code 10 = .ok (.aload_n 1, 1) := by decide +kernel
theorem d36_11 : decode jdk_52_method_24_code 11 = .ok (.areturn, 1) := by decide +kernel
def own_QTBU (Z : State) (p1 : Int32) (h0 : Heap) (n0 : Nat) (v : Option Value) (h : Heap) (L : List Loc) : Prop := ∃ (a : Addr) (k : ClassId), v = some (.ref a) ∧ Fr n0 L ∧ Keep h0 h [] ∧ h0.size ≤ a ∧ Arv Z h a k .byte (2 : Int32) [(.int (own_lo p1)), (.int (own_hi p1))] (.int (0 : Int32))
theorem rmTBU (l : Launch) (Z : State) (a0 : Array Value) (hw : own_W a0 Z) (ws : List Jvm.Cond) (cs : Int32) (gS : Value) (p1 : Int32) (h0 : Heap) (n0 : Nat) (Z0 : n0 ≤ h0.size) (V_env : own_Env Z cs gS) (Od : Old Z n0 h0) : own_Met l Z mn14 jdk_52_method_24_code 2 (some (.array .byte)) ws (own_R 1 1 2 14) #[(.int p1)] h0 (own_QTBU Z p1 h0 n0) := by
  refine own_enter n0 (plainFor_of_name own_pn58) (fun m => ef_I_2 m p1 ) (fun p e s m below meth c s₁ hx hby hlk hml hret hown hnm hZ X0 e0 N0 => ?_)
  show own_Fin _ _ _ _ _ _ _ s₁ (mkF m 0 #[Iv p1, Uv] [])
  have Kp360 : Keep h0 h0 [] := Keep.refl h0 _
  obtain ⟨T361, h361, k361, X361, e361, E361, A361, st361⟩ := newP X0 hx hZ (own_g hw 21) e0 (g := (mkF m 1 #[Iv p1, Uv] [(.int 2)])) rfl (hb hby d36_1) rfl (by decide) (cap := 2) (by decide) (by decide) (by decide) (by decide)
  obtain ⟨b361, g361⟩ : ∃ z, z = h0.size := ⟨_, rfl⟩
  rw [← g361] at A361 st361
  have V361 : Arv Z h361 b361 k361 .byte (2 : Int32) [(.int (0 : Int32)), (.int (0 : Int32))] (.int (0 : Int32)) := (Arv.new A361 (by decide)).pad (pad_rep [] (.int (0 : Int32)) 2)
  have gf361 : n0 ≤ b361 := Nat.le_trans Z0 (Nat.le_of_eq g361.symm)
  have Zs361 : n0 ≤ h361.size := Nat.le_trans Z0 E361.1
  have Kp361 : Keep h0 h361 [] := Kp360.ext E361
  have sz_b361 : h0.size ≤ b361 := Nat.le_trans Kp360.1 (Nat.le_of_eq g361.symm)
  have f362_0 : Old Z n0 h361 := Od.ext E361
  obtain ⟨_, _, ⟨T363, L363, k363, n363⟩, -, X363, ⟨Lc363, hQ363, l363, y363, z363⟩, st363⟩ := LawKit.callS X361 hx (y := mn6) hown (own_m hZ hw 111) (own_m hZ hw 112) (own_m hZ hw 74) (own_m hZ hw 113) (by decide) (backOf (W := 0) (rmPC1_0 l Z a0 hw [] cs gS b361 k361 p1 (0 : Int32) (0 : Int32) h361 n0 Zs361 V_env f362_0 V361 gf361) hZ (own_g hw 113) (own_g hw 74) (by decide) (by decide)) (g := (mkF m 7 #[Iv p1, Rv b361] [(.int p1), (.int 0), (.ref b361)])) rfl (by rw [hml]; rfl) (argsL := [(.ref b361), (.int (0 : Int32)), (.int p1)]) (rest := []) (lenOf own_pd112 rfl) rfl (own_z rfl) (hb hby d36_7) (fun _ _ => ⟨rfl, e361, (by decide : 1 + 0 ≤ _), (by decide : 2 + 0 ≤ _)⟩)
  dsimp only [Pt.U, Pt.locs, Pt.cells, Pt.slots] at X363 l363 y363 z363 st363 hQ363
  subst l363 y363 z363
  obtain ⟨rfl, Nq363, K363, Vr363⟩ := hQ363
  have N363 := Fr.app N0 Nq363
  have Zs363 : n0 ≤ T363.heap.size := Nat.le_trans Zs361 K363.1
  have Kp363 : Keep h0 T363.heap [] := Kp361.trans K363 (allS (Or.inr sz_b361) all0)
  have f364_0 : Old Z n0 T363.heap := f362_0.keep K363 (allS gf361 all0)
  refine own_by (fun _ k => XS.iconst X0.here hx rfl (hb hby d36_0) (st361 _ (XS.astoreN X361.here hx rfl (hb hby d36_3) rfl rfl (l' := #[Iv p1, Rv b361]) rfl (XS.aloadN X361.here hx rfl (hb hby d36_4) rfl rfl (XS.iconst X361.here hx rfl (hb hby d36_5) (XS.iloadN X361.here hx rfl (hb hby d36_6) rfl (st363 _ (XS.aloadN X363.here hx rfl (hb hby d36_10) rfl rfl k)))))))) ?_
  exact own_retA X363 hx hlk (t := (.array .byte)) hret rfl rfl rfl (hb hby d36_11) ⟨_, _, rfl, N363, Kp363, sz_b361, Vr363⟩ (by decide) (by decide)
theorem d23_0 : decode jdk_42_method_151_code 0 = .ok (.aload_n 0, 1) := by decide +kernel
theorem d23_1 : decode jdk_42_method_151_code 1 = .ok (.invokespecial 1, 3) := by decide +kernel
theorem d23_4 : decode jdk_42_method_151_code 4 = .ok (.aload_n 0, 1) := by decide +kernel
theorem d23_5 : decode jdk_42_method_151_code 5 = .ok (.aload_n 1, 1) := by decide +kernel
theorem d23_6 : decode jdk_42_method_151_code 6 = .ok (.putfield 9, 3) := by decide +kernel
theorem d23_9 : decode jdk_42_method_151_code 9 = .ok (.aload_n 0, 1) := by decide +kernel
theorem d23_10 : decode jdk_42_method_151_code 10 = .ok (.iload_n 2, 1) := by decide +kernel
theorem d23_11 : decode jdk_42_method_151_code 11 = .ok (.putfield 15, 3) := by decide +kernel
theorem d23_14 : decode jdk_42_method_151_code 14 = .ok (.return_, 1) := by decide +kernel
theorem ef_RRI_3 (m : MethodId) (x0 : Addr) (x1 : Addr) (x2 : Int32) : entryFrame m #[(.ref x0), (.ref x1), (.int x2)] 3 = mkF m 0 #[.val (.ref x0), .val (.ref x1), .val (.int x2)] [] := by first | (simp [entryFrame, mkF, argsToLocals, Value.category]; done) | rfl
def own_QBB0 (Z : State) (a1 a2 : Addr) (h0 : Heap) (n0 : Nat) (v : Option Value) (h : Heap) (L : List Loc) : Prop := v = none ∧ Fr n0 L ∧ Keep h0 h [a1] ∧ Fld Z h a1 "java/lang/String" "value" "[B" (.ref a2) ∧ Fld Z h a1 "java/lang/String" "coder" "B" (.int (0 : Int32))
theorem rmBB0 (l : Launch) (Z : State) (a0 : Array Value) (hw : own_W a0 Z) (ws : List Jvm.Cond) (a1 a2 : Addr) (h0 : Heap) (n0 : Nat) (Z0 : n0 ≤ h0.size) (E_a1 : Exa Z h0 a1 "java/lang/String") (F_v : Fld Z h0 a1 "java/lang/String" "value" "[B" .null) (F_c : Fld Z h0 a1 "java/lang/String" "coder" "B" (.int (0 : Int32))) (g_a1 : n0 ≤ a1) : own_Met l Z mn15 jdk_42_method_151_code 3 none ws (own_R 1 0 0 12) #[(.ref a1), (.ref a2), (.int (0 : Int32))] h0 (own_QBB0 Z a1 a2 h0 n0) := by
  refine own_enter n0 (plainFor_of_name own_pn34) (fun m => ef_RRI_3 m a1 a2 (0 : Int32) ) (fun p e s m below meth c s₁ hx hby hlk hml hret hown hnm hZ X0 e0 N0 => ?_)
  show own_Fin _ _ _ _ _ _ _ s₁ (mkF m 0 #[Rv a1, Rv a2, Iv 0] [])
  have Kp365 : Keep h0 h0 [a1] := Keep.refl h0 _
  obtain ⟨T366, X366, e366, st366⟩ := initO X0 hx hZ hown (own_g hw 17) (own_g hw 18) (own_g hw 19) e0 (g := (mkF m 1 #[Rv a1, Rv a2, Iv 0] [(.ref a1)])) rfl (by rw [hml]; rfl) rfl (hb hby d23_1) (by decide) (W := 0) (own_z rfl) (by decide)
  obtain ⟨T367, h367, X367, e367, W367, st367⟩ := putF X366 hx hZ hown (host := "") (Or.inl (own_g hw 26)) Via.refl e366 F_v E_a1 (Or.inr ⟨(own_g hw 22), rfl, hnm⟩) (own_g hw 7) (ty := (.array .byte)) (by decide) rfl rfl (g := (mkF m 6 #[Rv a1, Rv a2, Iv 0] [(.ref a2), (.ref a1)])) rfl rfl (hb hby d23_6)
  have Fw367 : Fld Z h367 a1 "java/lang/String" "value" "[B" (.ref a2) := F_v.same W367
  have Kp367 : Keep h0 h367 [a1] := Kp365.wr W367 (Or.inl (List.mem_of_getElem? (i := 0) rfl))
  have Zs367 : n0 ≤ h367.size := Nat.le_trans Z0 (Keep.of_wr W367).1
  have N367 := Fr.snoc X367 N0 g_a1
  have f368_0 : Exa Z h367 a1 "java/lang/String" := E_a1.wr W367
  have f368_2 : Fld Z h367 a1 "java/lang/String" "coder" "B" (.int (0 : Int32)) := F_c.other W367 (Or.inr (slot_ne (Or.inr (own_g hw 23)) (Or.inr (own_g hw 22)) (by decide) (t := .byte) (t' := (.array .byte)) (by decide) (by decide)))
  obtain ⟨T369, h369, X369, e369, W369, st369⟩ := putFN X367 hx hZ hown (own_g hw 27) Via.refl e367 f368_2 f368_0 (Or.inr ⟨(own_g hw 23), rfl, hnm⟩) (own_g hw 7) (ty := .byte) (v' := (.int (0 : Int32))) (by decide) rfl (by decide) (g := (mkF m 11 #[Rv a1, Rv a2, Iv 0] [(.int 0), (.ref a1)])) rfl rfl (hb hby d23_11)
  have Fw369 : Fld Z h369 a1 "java/lang/String" "coder" "B" (.int (0 : Int32)) := f368_2.same W369
  have Kp369 : Keep h0 h369 [a1] := Kp367.wr W369 (Or.inl (List.mem_of_getElem? (i := 0) rfl))
  have Zs369 : n0 ≤ h369.size := Nat.le_trans Zs367 (Keep.of_wr W369).1
  have N369 := Fr.snoc X369 N367 g_a1
  have f370_0 : Exa Z h369 a1 "java/lang/String" := f368_0.wr W369
  have f370_2 : Fld Z h369 a1 "java/lang/String" "value" "[B" (.ref a2) := Fw367.other W369 (Or.inr (slot_ne (Or.inr (own_g hw 22)) (Or.inr (own_g hw 23)) (by decide) (t := (.array .byte)) (t' := .byte) (by decide) (by decide)))
  refine own_by (fun _ k => XS.aloadN X0.here hx rfl (hb hby d23_0) rfl rfl (st366 _ (XS.aloadN X366.here hx rfl (hb hby d23_4) rfl rfl (XS.aloadN X366.here hx rfl (hb hby d23_5) rfl rfl (st367 _ (XS.aloadN X367.here hx rfl (hb hby d23_9) rfl rfl (XS.iloadN X367.here hx rfl (hb hby d23_10) rfl (st369 _ k)))))))) ?_
  exact own_retV X369 hx hlk hret (hb hby d23_14) (by rw [e369]; exact ⟨rfl, N369, Kp369, f370_2, Fw369⟩) (by decide) (by decide)
def own_QBB1 (Z : State) (a1 a2 : Addr) (h0 : Heap) (n0 : Nat) (v : Option Value) (h : Heap) (L : List Loc) : Prop := v = none ∧ Fr n0 L ∧ Keep h0 h [a1] ∧ Fld Z h a1 "java/lang/String" "value" "[B" (.ref a2) ∧ Fld Z h a1 "java/lang/String" "coder" "B" (.int (1 : Int32))
theorem rmBB1 (l : Launch) (Z : State) (a0 : Array Value) (hw : own_W a0 Z) (ws : List Jvm.Cond) (a1 a2 : Addr) (h0 : Heap) (n0 : Nat) (Z0 : n0 ≤ h0.size) (E_a1 : Exa Z h0 a1 "java/lang/String") (F_v : Fld Z h0 a1 "java/lang/String" "value" "[B" .null) (F_c : Fld Z h0 a1 "java/lang/String" "coder" "B" (.int (0 : Int32))) (g_a1 : n0 ≤ a1) : own_Met l Z mn15 jdk_42_method_151_code 3 none ws (own_R 1 0 0 12) #[(.ref a1), (.ref a2), (.int (1 : Int32))] h0 (own_QBB1 Z a1 a2 h0 n0) := by
  refine own_enter n0 (plainFor_of_name own_pn34) (fun m => ef_RRI_3 m a1 a2 (1 : Int32) ) (fun p e s m below meth c s₁ hx hby hlk hml hret hown hnm hZ X0 e0 N0 => ?_)
  show own_Fin _ _ _ _ _ _ _ s₁ (mkF m 0 #[Rv a1, Rv a2, Iv 1] [])
  have Kp371 : Keep h0 h0 [a1] := Keep.refl h0 _
  obtain ⟨T372, X372, e372, st372⟩ := initO X0 hx hZ hown (own_g hw 17) (own_g hw 18) (own_g hw 19) e0 (g := (mkF m 1 #[Rv a1, Rv a2, Iv 1] [(.ref a1)])) rfl (by rw [hml]; rfl) rfl (hb hby d23_1) (by decide) (W := 0) (own_z rfl) (by decide)
  obtain ⟨T373, h373, X373, e373, W373, st373⟩ := putF X372 hx hZ hown (host := "") (Or.inl (own_g hw 26)) Via.refl e372 F_v E_a1 (Or.inr ⟨(own_g hw 22), rfl, hnm⟩) (own_g hw 7) (ty := (.array .byte)) (by decide) rfl rfl (g := (mkF m 6 #[Rv a1, Rv a2, Iv 1] [(.ref a2), (.ref a1)])) rfl rfl (hb hby d23_6)
  have Fw373 : Fld Z h373 a1 "java/lang/String" "value" "[B" (.ref a2) := F_v.same W373
  have Kp373 : Keep h0 h373 [a1] := Kp371.wr W373 (Or.inl (List.mem_of_getElem? (i := 0) rfl))
  have Zs373 : n0 ≤ h373.size := Nat.le_trans Z0 (Keep.of_wr W373).1
  have N373 := Fr.snoc X373 N0 g_a1
  have f374_0 : Exa Z h373 a1 "java/lang/String" := E_a1.wr W373
  have f374_2 : Fld Z h373 a1 "java/lang/String" "coder" "B" (.int (0 : Int32)) := F_c.other W373 (Or.inr (slot_ne (Or.inr (own_g hw 23)) (Or.inr (own_g hw 22)) (by decide) (t := .byte) (t' := (.array .byte)) (by decide) (by decide)))
  obtain ⟨T375, h375, X375, e375, W375, st375⟩ := putFN X373 hx hZ hown (own_g hw 27) Via.refl e373 f374_2 f374_0 (Or.inr ⟨(own_g hw 23), rfl, hnm⟩) (own_g hw 7) (ty := .byte) (v' := (.int (1 : Int32))) (by decide) rfl (by decide) (g := (mkF m 11 #[Rv a1, Rv a2, Iv 1] [(.int 1), (.ref a1)])) rfl rfl (hb hby d23_11)
  have Fw375 : Fld Z h375 a1 "java/lang/String" "coder" "B" (.int (1 : Int32)) := f374_2.same W375
  have Kp375 : Keep h0 h375 [a1] := Kp373.wr W375 (Or.inl (List.mem_of_getElem? (i := 0) rfl))
  have Zs375 : n0 ≤ h375.size := Nat.le_trans Zs373 (Keep.of_wr W375).1
  have N375 := Fr.snoc X375 N373 g_a1
  have f376_0 : Exa Z h375 a1 "java/lang/String" := f374_0.wr W375
  have f376_2 : Fld Z h375 a1 "java/lang/String" "value" "[B" (.ref a2) := Fw373.other W375 (Or.inr (slot_ne (Or.inr (own_g hw 22)) (Or.inr (own_g hw 23)) (by decide) (t := (.array .byte)) (t' := .byte) (by decide) (by decide)))
  refine own_by (fun _ k => XS.aloadN X0.here hx rfl (hb hby d23_0) rfl rfl (st372 _ (XS.aloadN X372.here hx rfl (hb hby d23_4) rfl rfl (XS.aloadN X372.here hx rfl (hb hby d23_5) rfl rfl (st373 _ (XS.aloadN X373.here hx rfl (hb hby d23_9) rfl rfl (XS.iloadN X373.here hx rfl (hb hby d23_10) rfl (st375 _ k)))))))) ?_
  exact own_retV X375 hx hlk hret (hb hby d23_14) (by rw [e375]; exact ⟨rfl, N375, Kp375, f376_2, Fw375⟩) (by decide) (by decide)
theorem d20_0 : decode jdk_42_method_139_code 0 = .ok (.getstatic 38, 3) := by decide +kernel
theorem d20_3 : decode jdk_42_method_139_code 3 = .ok (.ifCond .eq 23, 3) := by decide +kernel
theorem d20_6 : decode jdk_42_method_139_code 6 = .ok (.iload_n 0, 1) := by decide +kernel
theorem d20_7 : decode jdk_42_method_139_code 7 = .ok (.invokestatic 1015, 3) := by decide +kernel
theorem own_pd264 : parseMethodDescriptor "(C)Z" = some ⟨[.char], some .boolean⟩ := by decide +kernel
theorem d20_10 : decode jdk_42_method_139_code 10 = .ok (.ifCond .eq 16, 3) := by decide +kernel
theorem d20_26 : decode jdk_42_method_139_code 26 = .ok (.new 10, 3) := by decide +kernel
theorem d20_29 : decode jdk_42_method_139_code 29 = .ok (.dup, 1) := by decide +kernel
theorem d20_30 : decode jdk_42_method_139_code 30 = .ok (.iload_n 0, 1) := by decide +kernel
theorem d20_31 : decode jdk_42_method_139_code 31 = .ok (.invokestatic 1021, 3) := by decide +kernel
theorem own_pd270 : parseMethodDescriptor "(C)[B" = some ⟨[.char], some (.array .byte)⟩ := by decide +kernel
theorem d20_34 : decode jdk_42_method_139_code 34 = .ok (.iconst 1, 1) := by decide +kernel
theorem d20_35 : decode jdk_42_method_139_code 35 = .ok (.invokespecial 209, 3) := by decide +kernel
theorem own_pd273 : parseMethodDescriptor "([BB)V" = some ⟨[(.array .byte), .byte], none⟩ := by decide +kernel
theorem d20_38 : decode jdk_42_method_139_code 38 = .ok (.areturn, 1) := by decide +kernel
theorem d20_13 : decode jdk_42_method_139_code 13 = .ok (.new 10, 3) := by decide +kernel
theorem d20_16 : decode jdk_42_method_139_code 16 = .ok (.dup, 1) := by decide +kernel
theorem d20_17 : decode jdk_42_method_139_code 17 = .ok (.iload_n 0, 1) := by decide +kernel
theorem d20_18 : decode jdk_42_method_139_code 18 = .ok (.invokestatic 1018, 3) := by decide +kernel
theorem d20_21 : decode jdk_42_method_139_code 21 = .ok (.iconst 0, 1) := by decide +kernel
theorem d20_22 : decode jdk_42_method_139_code 22 = .ok (.invokespecial 209, 3) := by decide +kernel
theorem d20_25 : decode jdk_42_method_139_code 25 = .ok (.areturn, 1) := by decide +kernel
def own_QVO (Z : State) (p1 : Int32) (h0 : Heap) (n0 : Nat) (v : Option Value) (h : Heap) (L : List Loc) : Prop := ∃ (a b : Addr) (k : ClassId), v = some (.ref a) ∧ Fr n0 L ∧ Keep h0 h [] ∧ h0.size ≤ a ∧ Exa Z h a "java/lang/String" ∧ Fld Z h a "java/lang/String" "value" "[B" (.ref b) ∧ ((Fld Z h a "java/lang/String" "coder" "B" (.int (0 : Int32)) ∧ Arv Z h b k .byte (1 : Int32) [(.int p1.toInt8.toInt32)] (.int (0 : Int32)) ∧ ¬ (255 : Int32) < p1) ∨ (Fld Z h a "java/lang/String" "coder" "B" (.int (1 : Int32)) ∧ Arv Z h b k .byte (2 : Int32) [(.int (own_lo p1)), (.int (own_hi p1))] (.int (0 : Int32))))
set_option maxRecDepth 65536 in
set_option maxHeartbeats 40000000 in
theorem rmVO (l : Launch) (Z : State) (a0 : Array Value) (hw : own_W a0 Z) (ws : List Jvm.Cond) (cs : Int32) (gS : Value) (p1 : Int32) (h0 : Heap) (n0 : Nat) (Z0 : n0 ≤ h0.size) (V_env : own_Env Z cs gS) (Od : Old Z n0 h0) : own_Met l Z mn16 jdk_42_method_139_code 1 (some (.object "java/lang/String")) ws (own_R 2 2 6 29) #[(.int p1)] h0 (own_QVO Z p1 h0 n0) := by
  refine own_enter n0 (plainFor_of_name own_pn34) (fun m => ef_I_1 m p1 ) (fun p e s m below meth c s₁ hx hby hlk hml hret hown hnm hZ X0 e0 N0 => ?_)
  show own_Fin _ _ _ _ _ _ _ s₁ (mkF m 0 #[Iv p1] [])
  have Kp377 : Keep h0 h0 [] := Keep.refl h0 _
  obtain ⟨T378, X378, e378, st378⟩ := getS2 X0 hx hZ hown (host := "") (Or.inl (own_g hw 47)) Via.refl e0 (V_env.2.2.2.1.ext Od.2) (g := (mkF m 0 #[Iv p1] [])) rfl (hb hby d20_0)
  refine own_by (fun _ k => st378 _ (XS.ifNo X378.here hx rfl (hb hby d20_3) rfl ((if0 _ _).trans (feq V_env.2.2.2.2.1).1) k)) ?_
  show own_Fin _ _ _ _ _ _ _ T378 (mkF m 6 #[Iv p1] [])
  by_cases hu : (255 : Int32) < p1
  · show own_Fin _ _ _ _ _ _ _ T378 (mkF m 6 #[Iv p1] [])
    obtain ⟨_, _, ⟨T379, L379, k379, n379⟩, -, X379, ⟨Lc379, hQ379, l379, y379, z379⟩, st379⟩ := LawKit.callS X378 hx (y := mn12) hown (own_m hZ hw 91) (own_m hZ hw 92) (own_m hZ hw 60) (own_m hZ hw 93) (by decide) (backOf (W := 0) (rmCEU l Z a0 hw [] p1 h0 n0 Z0 hu) hZ (own_g hw 93) (own_g hw 60) (by decide) (by decide)) (g := (mkF m 7 #[Iv p1] [(.int p1)])) rfl (by rw [hml]; rfl) (argsL := [(.int p1)]) (rest := []) (lenOf own_pd264 rfl) rfl (own_z rfl) (hb hby d20_7) (fun _ _ => ⟨rfl, e378, (by decide : 0 + 0 ≤ _), (by decide : 0 + 0 ≤ _)⟩)
    dsimp only [Pt.U, Pt.locs, Pt.cells, Pt.slots] at X379 l379 y379 z379 st379 hQ379
    subst l379 y379 z379
    obtain ⟨rfl, Nq379, eh379⟩ := hQ379
    have N379 := Fr.app N0 Nq379
    obtain ⟨T380, h380, X380, e380, E380, A380, D380, -, st380⟩ := newO X379 hx hZ hown (own_g hw 94) (own_g hw 7) (own_g hw 8) eh379 (g := (mkF m 26 #[Iv p1] [])) rfl (hb hby d20_26) (by decide) (by decide)
    obtain ⟨b380, g380⟩ : ∃ z, z = h0.size := ⟨_, rfl⟩
    rw [← g380] at A380 D380 st380
    have gf380 : n0 ≤ b380 := Nat.le_trans Z0 (Nat.le_of_eq g380.symm)
    have Zs380 : n0 ≤ h380.size := Nat.le_trans Z0 E380.1
    have Kp380 : Keep h0 h380 [] := Kp377.ext E380
    have sz_b380 : h0.size ≤ b380 := Nat.le_trans Kp377.1 (Nat.le_of_eq g380.symm)
    have f381_0 : Old Z n0 h380 := Od.ext E380
    have F380_value : Fld Z h380 b380 "java/lang/String" "value" "[B" .null := D380 (Or.inr (own_g hw 22)) (ty := (.array .byte)) (by decide)
    have F380_coder : Fld Z h380 b380 "java/lang/String" "coder" "B" (.int (0 : Int32)) := D380 (Or.inr (own_g hw 23)) (ty := .byte) (by decide)
    obtain ⟨_, _, ⟨T382, L382, k382, n382⟩, -, X382, ⟨Lc382, hQ382, l382, y382, z382⟩, st382⟩ := LawKit.callS X380 hx (y := mn14) hown (own_m hZ hw 146) (own_m hZ hw 147) (own_m hZ hw 74) (own_m hZ hw 148) (by decide) (backOf (W := 2) (rmTBU l Z a0 hw [] cs gS p1 h380 n0 Zs380 V_env f381_0) hZ (own_g hw 148) (own_g hw 74) (by decide) (by decide)) (g := (mkF m 31 #[Iv p1] [(.int p1), (.ref b380), (.ref b380)])) rfl (by rw [hml]; rfl) (argsL := [(.int p1)]) (rest := [(.ref b380), (.ref b380)]) (lenOf own_pd270 rfl) rfl (own_z rfl) (hb hby d20_31) (fun _ _ => ⟨rfl, e380, (by decide : 1 + 1 ≤ _), (by decide : 4 + 2 ≤ _)⟩)
    dsimp only [Pt.U, Pt.locs, Pt.cells, Pt.slots] at X382 l382 y382 z382 st382 hQ382
    subst l382 y382 z382
    obtain ⟨b382, k382, rfl, Nq382, K382, ge382, V382⟩ := hQ382
    have N382 := Fr.app N379 Nq382
    have Zs382 : n0 ≤ T382.heap.size := Nat.le_trans Zs380 K382.1
    have Kp382 : Keep h0 T382.heap [] := Kp380.trans K382 all0
    have f383_0 : Old Z n0 T382.heap := f381_0.keep K382 all0
    have f383_1 : Exa Z T382.heap b380 "java/lang/String" := A380.keep K382
    have f383_2 : Fld Z T382.heap b380 "java/lang/String" "value" "[B" .null := F380_value.keep K382 nin0
    have f383_3 : Fld Z T382.heap b380 "java/lang/String" "coder" "B" (.int (0 : Int32)) := F380_coder.keep K382 nin0
    have ne382_b380 : b380 ≠ b382 := Nat.ne_of_lt (Nat.lt_of_lt_of_le A380.lt ge382)
    have gf382 : n0 ≤ b382 := Nat.le_trans Zs380 ge382
    have sz_b382 : h0.size ≤ b382 := Nat.le_trans Kp380.1 ge382
    obtain ⟨_, _, ⟨T384, L384, k384, n384⟩, -, X384, ⟨Lc384, hQ384, l384, y384, z384⟩, st384⟩ := X382.specialBack hx (y := mn15) rfl hown (own_m hZ hw 98) (own_m hZ hw 99) (own_m hZ hw 100) (by decide) (backOf (W := 1) (rmBB1 l Z a0 hw [] b380 b382 T382.heap n0 Zs382 f383_1 f383_2 f383_3 gf380) hZ (own_g hw 100) (own_g hw 8) (by decide) (by decide)) (g := (mkF m 35 #[Iv p1] [(.int 1), (.ref b382), (.ref b380), (.ref b380)])) rfl (by rw [hml]; rfl) (Steps.refl _) (a := b380) (argsL := [(.ref b382), (.int (1 : Int32))]) (rest := [(.ref b380)]) (lenOf own_pd273 rfl) rfl (own_z rfl) (hb hby d20_35) (fun _ _ => ⟨rfl, rfl, (by decide : 2 + 0 ≤ _), (by decide : 6 + 0 ≤ _)⟩)
    dsimp only [Pt.U, Pt.locs, Pt.cells, Pt.slots] at X384 l384 y384 z384 st384 hQ384
    subst l384 y384 z384
    obtain ⟨rfl, Nq384, K384, Gv384, Gc384⟩ := hQ384
    have N384 := Fr.app N382 Nq384
    have Zs384 : n0 ≤ T384.heap.size := Nat.le_trans Zs382 K384.1
    have Kp384 : Keep h0 T384.heap [] := Kp382.trans K384 (allS (Or.inr sz_b380) all0)
    have f385_0 : Old Z n0 T384.heap := f383_0.keep K384 (allS gf380 all0)
    have f385_1 : Exa Z T384.heap b380 "java/lang/String" := f383_1.keep K384
    have f385_4 : Arv Z T384.heap b382 k382 .byte (2 : Int32) [(.int (own_lo p1)), (.int (own_hi p1))] (.int (0 : Int32)) := V382.keep K384 (ninS (Ne.symm ne382_b380) nin0)
    refine own_by (fun _ k => XS.iloadN X378.here hx rfl (hb hby d20_6) rfl (st379 _ (XS.ifYes X379.here hx rfl (pc0 := 10) (pc' := 26) rfl (hb hby d20_10) rfl ((if0 _ _).trans (teq (by decide : (0 : Int32) = (0 : Int32))).1) (by decide) (by decide) (st380 _ (XS.dup X380.here hx rfl (hb hby d20_29) rfl rfl (XS.iloadN X380.here hx rfl (hb hby d20_30) rfl (st382 _ (XS.iconst X382.here hx rfl (hb hby d20_34) (st384.trans k))))))))) ?_
    exact own_retA X384 hx hlk (t := (.object "java/lang/String")) hret rfl rfl rfl (hb hby d20_38) ⟨_, _, _, rfl, N384, Kp384, sz_b380, f385_1, Gv384, Or.inr ⟨Gc384, f385_4⟩⟩ (by decide) (by decide)
  · show own_Fin _ _ _ _ _ _ _ T378 (mkF m 6 #[Iv p1] [])
    obtain ⟨_, _, ⟨T386, L386, k386, n386⟩, -, X386, ⟨Lc386, hQ386, l386, y386, z386⟩, st386⟩ := LawKit.callS X378 hx (y := mn12) hown (own_m hZ hw 91) (own_m hZ hw 92) (own_m hZ hw 60) (own_m hZ hw 93) (by decide) (backOf (W := 0) (rmCEL l Z a0 hw [] p1 h0 n0 Z0 hu) hZ (own_g hw 93) (own_g hw 60) (by decide) (by decide)) (g := (mkF m 7 #[Iv p1] [(.int p1)])) rfl (by rw [hml]; rfl) (argsL := [(.int p1)]) (rest := []) (lenOf own_pd264 rfl) rfl (own_z rfl) (hb hby d20_7) (fun _ _ => ⟨rfl, e378, (by decide : 0 + 0 ≤ _), (by decide : 0 + 0 ≤ _)⟩)
    dsimp only [Pt.U, Pt.locs, Pt.cells, Pt.slots] at X386 l386 y386 z386 st386 hQ386
    subst l386 y386 z386
    obtain ⟨rfl, Nq386, eh386⟩ := hQ386
    have N386 := Fr.app N0 Nq386
    obtain ⟨T387, h387, X387, e387, E387, A387, D387, -, st387⟩ := newO X386 hx hZ hown (own_g hw 94) (own_g hw 7) (own_g hw 8) eh386 (g := (mkF m 13 #[Iv p1] [])) rfl (hb hby d20_13) (by decide) (by decide)
    obtain ⟨b387, g387⟩ : ∃ z, z = h0.size := ⟨_, rfl⟩
    rw [← g387] at A387 D387 st387
    have gf387 : n0 ≤ b387 := Nat.le_trans Z0 (Nat.le_of_eq g387.symm)
    have Zs387 : n0 ≤ h387.size := Nat.le_trans Z0 E387.1
    have Kp387 : Keep h0 h387 [] := Kp377.ext E387
    have sz_b387 : h0.size ≤ b387 := Nat.le_trans Kp377.1 (Nat.le_of_eq g387.symm)
    have f388_0 : Old Z n0 h387 := Od.ext E387
    have F387_value : Fld Z h387 b387 "java/lang/String" "value" "[B" .null := D387 (Or.inr (own_g hw 22)) (ty := (.array .byte)) (by decide)
    have F387_coder : Fld Z h387 b387 "java/lang/String" "coder" "B" (.int (0 : Int32)) := D387 (Or.inr (own_g hw 23)) (ty := .byte) (by decide)
    obtain ⟨_, _, ⟨T389, L389, k389, n389⟩, -, X389, ⟨Lc389, hQ389, l389, y389, z389⟩, st389⟩ := LawKit.callS X387 hx (y := mn13) hown (own_m hZ hw 95) (own_m hZ hw 96) (own_m hZ hw 60) (own_m hZ hw 97) (by decide) (backOf (W := 2) (rmTBL l Z a0 hw [] p1 h387 n0 Zs387 ) hZ (own_g hw 97) (own_g hw 60) (by decide) (by decide)) (g := (mkF m 18 #[Iv p1] [(.int p1), (.ref b387), (.ref b387)])) rfl (by rw [hml]; rfl) (argsL := [(.int p1)]) (rest := [(.ref b387), (.ref b387)]) (lenOf own_pd270 rfl) rfl (own_z rfl) (hb hby d20_18) (fun _ _ => ⟨rfl, e387, (by decide : 1 + 1 ≤ _), (by decide : 4 + 1 ≤ _)⟩)
    dsimp only [Pt.U, Pt.locs, Pt.cells, Pt.slots] at X389 l389 y389 z389 st389 hQ389
    subst l389 y389 z389
    obtain ⟨b389, k389, rfl, Nq389, K389, ge389, V389⟩ := hQ389
    have N389 := Fr.app N386 Nq389
    have Zs389 : n0 ≤ T389.heap.size := Nat.le_trans Zs387 K389.1
    have Kp389 : Keep h0 T389.heap [] := Kp387.trans K389 all0
    have f390_0 : Old Z n0 T389.heap := f388_0.keep K389 all0
    have f390_1 : Exa Z T389.heap b387 "java/lang/String" := A387.keep K389
    have f390_2 : Fld Z T389.heap b387 "java/lang/String" "value" "[B" .null := F387_value.keep K389 nin0
    have f390_3 : Fld Z T389.heap b387 "java/lang/String" "coder" "B" (.int (0 : Int32)) := F387_coder.keep K389 nin0
    have ne389_b387 : b387 ≠ b389 := Nat.ne_of_lt (Nat.lt_of_lt_of_le A387.lt ge389)
    have gf389 : n0 ≤ b389 := Nat.le_trans Zs387 ge389
    have sz_b389 : h0.size ≤ b389 := Nat.le_trans Kp387.1 ge389
    obtain ⟨_, _, ⟨T391, L391, k391, n391⟩, -, X391, ⟨Lc391, hQ391, l391, y391, z391⟩, st391⟩ := X389.specialBack hx (y := mn15) rfl hown (own_m hZ hw 98) (own_m hZ hw 99) (own_m hZ hw 100) (by decide) (backOf (W := 1) (rmBB0 l Z a0 hw [] b387 b389 T389.heap n0 Zs389 f390_1 f390_2 f390_3 gf387) hZ (own_g hw 100) (own_g hw 8) (by decide) (by decide)) (g := (mkF m 22 #[Iv p1] [(.int 0), (.ref b389), (.ref b387), (.ref b387)])) rfl (by rw [hml]; rfl) (Steps.refl _) (a := b387) (argsL := [(.ref b389), (.int (0 : Int32))]) (rest := [(.ref b387)]) (lenOf own_pd273 rfl) rfl (own_z rfl) (hb hby d20_22) (fun _ _ => ⟨rfl, rfl, (by decide : 2 + 0 ≤ _), (by decide : 5 + 0 ≤ _)⟩)
    dsimp only [Pt.U, Pt.locs, Pt.cells, Pt.slots] at X391 l391 y391 z391 st391 hQ391
    subst l391 y391 z391
    obtain ⟨rfl, Nq391, K391, Gv391, Gc391⟩ := hQ391
    have N391 := Fr.app N389 Nq391
    have Zs391 : n0 ≤ T391.heap.size := Nat.le_trans Zs389 K391.1
    have Kp391 : Keep h0 T391.heap [] := Kp389.trans K391 (allS (Or.inr sz_b387) all0)
    have f392_0 : Old Z n0 T391.heap := f390_0.keep K391 (allS gf387 all0)
    have f392_1 : Exa Z T391.heap b387 "java/lang/String" := f390_1.keep K391
    have f392_4 : Arv Z T391.heap b389 k389 .byte (1 : Int32) [(.int p1.toInt8.toInt32)] (.int (0 : Int32)) := V389.keep K391 (ninS (Ne.symm ne389_b387) nin0)
    refine own_by (fun _ k => XS.iloadN X378.here hx rfl (hb hby d20_6) rfl (st386 _ (XS.ifNo X386.here hx rfl (hb hby d20_10) rfl ((if0 _ _).trans (feq (by decide : ¬ ((1 : Int32) = (0 : Int32)))).1) (st387 _ (XS.dup X387.here hx rfl (hb hby d20_16) rfl rfl (XS.iloadN X387.here hx rfl (hb hby d20_17) rfl (st389 _ (XS.iconst X389.here hx rfl (hb hby d20_21) (st391.trans k))))))))) ?_
    exact own_retA X391 hx hlk (t := (.object "java/lang/String")) hret rfl rfl rfl (hb hby d20_25) ⟨_, _, _, rfl, N391, Kp391, sz_b387, f392_1, Gv391, Or.inl ⟨Gc391, f392_4, hu⟩⟩ (by decide) (by decide)
theorem d8_0 : decode jdk_42_method_154_code 0 = .ok (.getstatic 38, 3) := by decide +kernel
theorem d8_3 : decode jdk_42_method_154_code 3 = .ok (.ifCond .eq 14, 3) := by decide +kernel
theorem d8_6 : decode jdk_42_method_154_code 6 = .ok (.aload_n 0, 1) := by decide +kernel
theorem d8_7 : decode jdk_42_method_154_code 7 = .ok (.getfield 15, 3) := by decide +kernel
theorem d8_10 : decode jdk_42_method_154_code 10 = .ok (.ifCond .ne 7, 3) := by decide +kernel
theorem d8_13 : decode jdk_42_method_154_code 13 = .ok (.iconst 1, 1) := by decide +kernel
theorem d8_14 : decode jdk_42_method_154_code 14 = .ok (.goto 4, 3) := by decide +kernel
theorem d8_18 : decode jdk_42_method_154_code 18 = .ok (.ireturn, 1) := by decide +kernel
theorem ef_R_1 (m : MethodId) (x0 : Addr) : entryFrame m #[(.ref x0)] 1 = mkF m 0 #[.val (.ref x0)] [] := by first | (simp [entryFrame, mkF, argsToLocals, Value.category]; done) | rfl
def own_QrmIs0 (h0 : Heap) (n0 : Nat) (v : Option Value) (h : Heap) (L : List Loc) : Prop := v = some (.int (1 : Int32)) ∧ Fr n0 L ∧ h = h0
theorem rmIs0 (l : Launch) (Z : State) (a0 : Array Value) (hw : own_W a0 Z) (ws : List Jvm.Cond) (cs : Int32) (gS : Value) (a1 : Addr) (h0 : Heap) (n0 : Nat) (Z0 : n0 ≤ h0.size) (V_env : own_Env Z cs gS) (Od : Old Z n0 h0) (F1 : Fld Z h0 a1 "java/lang/String" "coder" "B" (.int (0 : Int32))) : own_Met l Z mn17 jdk_42_method_154_code 1 (some .boolean) ws (own_R 0 0 0 0) #[(.ref a1)] h0 (own_QrmIs0 h0 n0) := by
  refine own_enter n0 (plainFor_of_name own_pn34) (fun m => ef_R_1 m a1 ) (fun p e s m below meth c s₁ hx hby hlk hml hret hown hnm hZ X0 e0 N0 => ?_)
  show own_Fin _ _ _ _ _ _ _ s₁ (mkF m 0 #[Rv a1] [])
  obtain ⟨T393, X393, e393, st393⟩ := getS2 X0 hx hZ hown (host := "") (Or.inl (own_g hw 47)) Via.refl e0 (V_env.2.2.2.1.ext Od.2) (g := (mkF m 0 #[Rv a1] [])) rfl (hb hby d8_0)
  obtain ⟨T394, X394, e394, st394⟩ := getF X393 hx hZ hown (host := "") (Or.inl (own_g hw 27)) Via.refl e393 F1 (g := (mkF m 7 #[Rv a1] [(.ref a1)])) rfl rfl (hb hby d8_7)
  refine own_by (fun _ k => st393 _ (XS.ifNo X393.here hx rfl (hb hby d8_3) rfl ((if0 _ _).trans (feq V_env.2.2.2.2.1).1) (XS.aloadN X393.here hx rfl (hb hby d8_6) rfl rfl (st394 _ (XS.ifNo X394.here hx rfl (hb hby d8_10) rfl ((if0 _ _).trans (teq (by decide : (0 : Int32) = (0 : Int32))).2) (XS.iconst X394.here hx rfl (hb hby d8_13) (XS.goto X394.here hx rfl (pc0 := 14) (pc' := 18) rfl (hb hby d8_14) (by decide) (by decide) k))))))) ?_
  exact own_retZ X394 hx hlk (t := .boolean) hret (by simp) (hb hby d8_18) ⟨rfl, N0, e394⟩ (by decide) (by decide)
theorem d10_0 : decode jdk_42_method_152_code 0 = .ok (.getstatic 38, 3) := by decide +kernel
theorem d10_3 : decode jdk_42_method_152_code 3 = .ok (.ifCond .eq 10, 3) := by decide +kernel
theorem d10_6 : decode jdk_42_method_152_code 6 = .ok (.aload_n 0, 1) := by decide +kernel
theorem d10_7 : decode jdk_42_method_152_code 7 = .ok (.getfield 15, 3) := by decide +kernel
theorem d10_10 : decode jdk_42_method_152_code 10 = .ok (.goto 4, 3) := by decide +kernel
theorem d10_14 : decode jdk_42_method_152_code 14 = .ok (.ireturn, 1) := by decide +kernel
def own_QrmCd0 (h0 : Heap) (n0 : Nat) (v : Option Value) (h : Heap) (L : List Loc) : Prop := v = some (.int (0 : Int32)) ∧ Fr n0 L ∧ h = h0
theorem rmCd0 (l : Launch) (Z : State) (a0 : Array Value) (hw : own_W a0 Z) (ws : List Jvm.Cond) (cs : Int32) (gS : Value) (a1 : Addr) (h0 : Heap) (n0 : Nat) (Z0 : n0 ≤ h0.size) (V_env : own_Env Z cs gS) (Od : Old Z n0 h0) (F1 : Fld Z h0 a1 "java/lang/String" "coder" "B" (.int (0 : Int32))) : own_Met l Z mn18 jdk_42_method_152_code 1 (some .byte) ws (own_R 0 0 0 0) #[(.ref a1)] h0 (own_QrmCd0 h0 n0) := by
  refine own_enter n0 (plainFor_of_name own_pn34) (fun m => ef_R_1 m a1 ) (fun p e s m below meth c s₁ hx hby hlk hml hret hown hnm hZ X0 e0 N0 => ?_)
  show own_Fin _ _ _ _ _ _ _ s₁ (mkF m 0 #[Rv a1] [])
  obtain ⟨T395, X395, e395, st395⟩ := getS2 X0 hx hZ hown (host := "") (Or.inl (own_g hw 47)) Via.refl e0 (V_env.2.2.2.1.ext Od.2) (g := (mkF m 0 #[Rv a1] [])) rfl (hb hby d10_0)
  obtain ⟨T396, X396, e396, st396⟩ := getF X395 hx hZ hown (host := "") (Or.inl (own_g hw 27)) Via.refl e395 F1 (g := (mkF m 7 #[Rv a1] [(.ref a1)])) rfl rfl (hb hby d10_7)
  refine own_by (fun _ k => st395 _ (XS.ifNo X395.here hx rfl (hb hby d10_3) rfl ((if0 _ _).trans (feq V_env.2.2.2.2.1).1) (XS.aloadN X395.here hx rfl (hb hby d10_6) rfl rfl (st396 _ (XS.goto X396.here hx rfl (pc0 := 10) (pc' := 14) rfl (hb hby d10_10) (by decide) (by decide) k))))) ?_
  exact own_retZ X396 hx hlk (t := .byte) hret (by simp) (hb hby d10_14) ⟨rfl, N0, e396⟩ (by decide) (by decide)
theorem d8_17 : decode jdk_42_method_154_code 17 = .ok (.iconst 0, 1) := by decide +kernel
def own_QrmIs1 (h0 : Heap) (n0 : Nat) (v : Option Value) (h : Heap) (L : List Loc) : Prop := v = some (.int (0 : Int32)) ∧ Fr n0 L ∧ h = h0
theorem rmIs1 (l : Launch) (Z : State) (a0 : Array Value) (hw : own_W a0 Z) (ws : List Jvm.Cond) (cs : Int32) (gS : Value) (a1 : Addr) (h0 : Heap) (n0 : Nat) (Z0 : n0 ≤ h0.size) (V_env : own_Env Z cs gS) (Od : Old Z n0 h0) (F1 : Fld Z h0 a1 "java/lang/String" "coder" "B" (.int (1 : Int32))) : own_Met l Z mn17 jdk_42_method_154_code 1 (some .boolean) ws (own_R 0 0 0 0) #[(.ref a1)] h0 (own_QrmIs1 h0 n0) := by
  refine own_enter n0 (plainFor_of_name own_pn34) (fun m => ef_R_1 m a1 ) (fun p e s m below meth c s₁ hx hby hlk hml hret hown hnm hZ X0 e0 N0 => ?_)
  show own_Fin _ _ _ _ _ _ _ s₁ (mkF m 0 #[Rv a1] [])
  obtain ⟨T397, X397, e397, st397⟩ := getS2 X0 hx hZ hown (host := "") (Or.inl (own_g hw 47)) Via.refl e0 (V_env.2.2.2.1.ext Od.2) (g := (mkF m 0 #[Rv a1] [])) rfl (hb hby d8_0)
  obtain ⟨T398, X398, e398, st398⟩ := getF X397 hx hZ hown (host := "") (Or.inl (own_g hw 27)) Via.refl e397 F1 (g := (mkF m 7 #[Rv a1] [(.ref a1)])) rfl rfl (hb hby d8_7)
  refine own_by (fun _ k => st397 _ (XS.ifNo X397.here hx rfl (hb hby d8_3) rfl ((if0 _ _).trans (feq V_env.2.2.2.2.1).1) (XS.aloadN X397.here hx rfl (hb hby d8_6) rfl rfl (st398 _ (XS.ifYes X398.here hx rfl (pc0 := 10) (pc' := 17) rfl (hb hby d8_10) rfl ((if0 _ _).trans (feq (by decide : ¬ ((1 : Int32) = (0 : Int32)))).2) (by decide) (by decide) (XS.iconst X398.here hx rfl (hb hby d8_17) k)))))) ?_
  exact own_retZ X398 hx hlk (t := .boolean) hret (by simp) (hb hby d8_18) ⟨rfl, N0, e398⟩ (by decide) (by decide)
def own_QrmCd1 (h0 : Heap) (n0 : Nat) (v : Option Value) (h : Heap) (L : List Loc) : Prop := v = some (.int (1 : Int32)) ∧ Fr n0 L ∧ h = h0
theorem rmCd1 (l : Launch) (Z : State) (a0 : Array Value) (hw : own_W a0 Z) (ws : List Jvm.Cond) (cs : Int32) (gS : Value) (a1 : Addr) (h0 : Heap) (n0 : Nat) (Z0 : n0 ≤ h0.size) (V_env : own_Env Z cs gS) (Od : Old Z n0 h0) (F1 : Fld Z h0 a1 "java/lang/String" "coder" "B" (.int (1 : Int32))) : own_Met l Z mn18 jdk_42_method_152_code 1 (some .byte) ws (own_R 0 0 0 0) #[(.ref a1)] h0 (own_QrmCd1 h0 n0) := by
  refine own_enter n0 (plainFor_of_name own_pn34) (fun m => ef_R_1 m a1 ) (fun p e s m below meth c s₁ hx hby hlk hml hret hown hnm hZ X0 e0 N0 => ?_)
  show own_Fin _ _ _ _ _ _ _ s₁ (mkF m 0 #[Rv a1] [])
  obtain ⟨T399, X399, e399, st399⟩ := getS2 X0 hx hZ hown (host := "") (Or.inl (own_g hw 47)) Via.refl e0 (V_env.2.2.2.1.ext Od.2) (g := (mkF m 0 #[Rv a1] [])) rfl (hb hby d10_0)
  obtain ⟨T400, X400, e400, st400⟩ := getF X399 hx hZ hown (host := "") (Or.inl (own_g hw 27)) Via.refl e399 F1 (g := (mkF m 7 #[Rv a1] [(.ref a1)])) rfl rfl (hb hby d10_7)
  refine own_by (fun _ k => st399 _ (XS.ifNo X399.here hx rfl (hb hby d10_3) rfl ((if0 _ _).trans (feq V_env.2.2.2.2.1).1) (XS.aloadN X399.here hx rfl (hb hby d10_6) rfl rfl (st400 _ (XS.goto X400.here hx rfl (pc0 := 10) (pc' := 14) rfl (hb hby d10_10) (by decide) (by decide) k))))) ?_
  exact own_retZ X400 hx hlk (t := .byte) hret (by simp) (hb hby d10_14) ⟨rfl, N0, e400⟩ (by decide) (by decide)
theorem d12_0 : decode jdk_43_method_4_code 0 = .ok (.iload_n 0, 1) := by decide +kernel
theorem d12_1 : decode jdk_43_method_4_code 1 = .ok (.ifCond .lt 14, 3) := by decide +kernel
theorem d12_4 : decode jdk_43_method_4_code 4 = .ok (.iload_n 0, 1) := by decide +kernel
theorem d12_5 : decode jdk_43_method_4_code 5 = .ok (.sipush 255, 3) := by decide +kernel
theorem d12_8 : decode jdk_43_method_4_code 8 = .ok (.if_icmp .gt 7, 3) := by decide +kernel
theorem d12_11 : decode jdk_43_method_4_code 11 = .ok (.iconst 1, 1) := by decide +kernel
theorem d12_12 : decode jdk_43_method_4_code 12 = .ok (.goto 4, 3) := by decide +kernel
theorem d12_16 : decode jdk_43_method_4_code 16 = .ok (.ireturn, 1) := by decide +kernel
def own_QrmCe (h0 : Heap) (n0 : Nat) (v : Option Value) (h : Heap) (L : List Loc) : Prop := v = some (.int (1 : Int32)) ∧ Fr n0 L ∧ h = h0
theorem rmCe (l : Launch) (Z : State) (a0 : Array Value) (hw : own_W a0 Z) (ws : List Jvm.Cond) (ch : Int32) (h0 : Heap) (n0 : Nat) (Z0 : n0 ≤ h0.size) (hq : own_cq ch) : own_Met l Z mn19 jdk_43_method_4_code 1 (some .boolean) ws (own_R 0 0 0 0) #[(.int ch)] h0 (own_QrmCe h0 n0) := by
  refine own_enter n0 (plainFor_of_name own_pn225) (fun m => ef_I_1 m ch ) (fun p e s m below meth c s₁ hx hby hlk hml hret hown hnm hZ X0 e0 N0 => ?_)
  show own_Fin _ _ _ _ _ _ _ s₁ (mkF m 0 #[Iv ch] [])
  refine own_by (fun _ k => XS.iloadN X0.here hx rfl (hb hby d12_0) rfl (XS.ifNo X0.here hx rfl (hb hby d12_1) rfl ((if0 _ _).trans (flt hq.1).1) (XS.iloadN X0.here hx rfl (hb hby d12_4) rfl (XS.sipush X0.here hx rfl (hb hby d12_5) (XS.icmpNo X0.here hx rfl (hb hby d12_8) rfl (flt hq.2.1).2.2.1 (XS.iconst X0.here hx rfl (hb hby d12_11) (XS.goto X0.here hx rfl (pc0 := 12) (pc' := 16) rfl (hb hby d12_12) (by decide) (by decide) k))))))) ?_
  exact own_retZ X0 hx hlk (t := .boolean) hret (by simp) (hb hby d12_16) ⟨rfl, N0, e0⟩ (by decide) (by decide)
theorem d13_0 : decode jdk_29_method_65_code 0 = .ok (.iload_n 0, 1) := by decide +kernel
theorem d13_1 : decode jdk_29_method_65_code 1 = .ok (.iload_n 1, 1) := by decide +kernel
theorem d13_2 : decode jdk_29_method_65_code 2 = .ok (.if_icmp .lt 7, 3) := by decide +kernel
theorem d13_5 : decode jdk_29_method_65_code 5 = .ok (.iload_n 0, 1) := by decide +kernel
theorem d13_6 : decode jdk_29_method_65_code 6 = .ok (.goto 4, 3) := by decide +kernel
theorem d13_10 : decode jdk_29_method_65_code 10 = .ok (.ireturn, 1) := by decide +kernel
theorem ef_II_2 (m : MethodId) (x0 : Int32) (x1 : Int32) : entryFrame m #[(.int x0), (.int x1)] 2 = mkF m 0 #[.val (.int x0), .val (.int x1)] [] := by first | (simp [entryFrame, mkF, argsToLocals, Value.category]; done) | rfl
def own_Qrmmax_0_0 (h0 : Heap) (n0 : Nat) (v : Option Value) (h : Heap) (L : List Loc) : Prop := v = some (.int (0 : Int32)) ∧ Fr n0 L ∧ h = h0
theorem rmmax_0_0 (l : Launch) (Z : State) (a0 : Array Value) (hw : own_W a0 Z) (ws : List Jvm.Cond)  (h0 : Heap) (n0 : Nat) (Z0 : n0 ≤ h0.size)  : own_Met l Z mn20 jdk_29_method_65_code 2 (some .int) ws (own_R 0 0 0 0) #[(.int (0 : Int32)), (.int (0 : Int32))] h0 (own_Qrmmax_0_0 h0 n0) := by
  refine own_enter n0 (by decide +kernel) (fun m => ef_II_2 m (0 : Int32) (0 : Int32) ) (fun p e s m below meth c s₁ hx hby hlk hml hret hown hnm hZ X0 e0 N0 => ?_)
  show own_Fin _ _ _ _ _ _ _ s₁ (mkF m 0 #[Iv 0, Iv 0] [])
  refine own_by (fun _ k => XS.iloadN X0.here hx rfl (hb hby d13_0) rfl (XS.iloadN X0.here hx rfl (hb hby d13_1) rfl (XS.icmpNo X0.here hx rfl (hb hby d13_2) rfl (flt (by decide : ¬ ((0 : Int32) < (0 : Int32)))).1 (XS.iloadN X0.here hx rfl (hb hby d13_5) rfl (XS.goto X0.here hx rfl (pc0 := 6) (pc' := 10) rfl (hb hby d13_6) (by decide) (by decide) k))))) ?_
  exact own_retI X0 hx hlk hret (hb hby d13_10) ⟨rfl, N0, e0⟩ (by decide) (by decide)
theorem d14_0 : decode jdk_29_method_69_code 0 = .ok (.iload_n 0, 1) := by decide +kernel
theorem d14_1 : decode jdk_29_method_69_code 1 = .ok (.iload_n 1, 1) := by decide +kernel
theorem d14_2 : decode jdk_29_method_69_code 2 = .ok (.if_icmp .gt 7, 3) := by decide +kernel
theorem d14_5 : decode jdk_29_method_69_code 5 = .ok (.iload_n 0, 1) := by decide +kernel
theorem d14_6 : decode jdk_29_method_69_code 6 = .ok (.goto 4, 3) := by decide +kernel
theorem d14_10 : decode jdk_29_method_69_code 10 = .ok (.ireturn, 1) := by decide +kernel
def own_Qrmmin_0_0 (h0 : Heap) (n0 : Nat) (v : Option Value) (h : Heap) (L : List Loc) : Prop := v = some (.int (0 : Int32)) ∧ Fr n0 L ∧ h = h0
theorem rmmin_0_0 (l : Launch) (Z : State) (a0 : Array Value) (hw : own_W a0 Z) (ws : List Jvm.Cond)  (h0 : Heap) (n0 : Nat) (Z0 : n0 ≤ h0.size)  : own_Met l Z mn21 jdk_29_method_69_code 2 (some .int) ws (own_R 0 0 0 0) #[(.int (0 : Int32)), (.int (0 : Int32))] h0 (own_Qrmmin_0_0 h0 n0) := by
  refine own_enter n0 (by decide +kernel) (fun m => ef_II_2 m (0 : Int32) (0 : Int32) ) (fun p e s m below meth c s₁ hx hby hlk hml hret hown hnm hZ X0 e0 N0 => ?_)
  show own_Fin _ _ _ _ _ _ _ s₁ (mkF m 0 #[Iv 0, Iv 0] [])
  refine own_by (fun _ k => XS.iloadN X0.here hx rfl (hb hby d14_0) rfl (XS.iloadN X0.here hx rfl (hb hby d14_1) rfl (XS.icmpNo X0.here hx rfl (hb hby d14_2) rfl (flt (by decide : ¬ ((0 : Int32) < (0 : Int32)))).2.2.1 (XS.iloadN X0.here hx rfl (hb hby d14_5) rfl (XS.goto X0.here hx rfl (pc0 := 6) (pc' := 10) rfl (hb hby d14_6) (by decide) (by decide) k))))) ?_
  exact own_retI X0 hx hlk hret (hb hby d14_10) ⟨rfl, N0, e0⟩ (by decide) (by decide)
theorem d11_0 : decode jdk_43_method_22_code 0 = .ok (.iload_n 1, 1) := by decide +kernel
theorem d11_1 : decode jdk_43_method_22_code 1 = .ok (.invokestatic 88, 3) := by decide +kernel
theorem own_pd322 : parseMethodDescriptor "(I)Z" = some ⟨[.int], some .boolean⟩ := by decide +kernel
theorem d11_4 : decode jdk_43_method_22_code 4 = .ok (.ifCond .ne 5, 3) := by decide +kernel
theorem d11_9 : decode jdk_43_method_22_code 9 = .ok (.iload_n 2, 1) := by decide +kernel
theorem d11_10 : decode jdk_43_method_22_code 10 = .ok (.iconst 0, 1) := by decide +kernel
theorem d11_11 : decode jdk_43_method_22_code 11 = .ok (.invokestatic 92, 3) := by decide +kernel
theorem own_pd327 : parseMethodDescriptor "(II)I" = some ⟨[.int, .int], some .int⟩ := by decide +kernel
theorem d11_14 : decode jdk_43_method_22_code 14 = .ok (.istore_n 2, 1) := by decide +kernel
theorem d11_15 : decode jdk_43_method_22_code 15 = .ok (.iload_n 3, 1) := by decide +kernel
theorem d11_16 : decode jdk_43_method_22_code 16 = .ok (.aload_n 0, 1) := by decide +kernel
theorem d11_17 : decode jdk_43_method_22_code 17 = .ok (.arraylength, 1) := by decide +kernel
theorem d11_18 : decode jdk_43_method_22_code 18 = .ok (.invokestatic 38, 3) := by decide +kernel
theorem d11_21 : decode jdk_43_method_22_code 21 = .ok (.istore_n 3, 1) := by decide +kernel
theorem d11_22 : decode jdk_43_method_22_code 22 = .ok (.iload_n 2, 1) := by decide +kernel
theorem d11_23 : decode jdk_43_method_22_code 23 = .ok (.iload_n 3, 1) := by decide +kernel
theorem d11_24 : decode jdk_43_method_22_code 24 = .ok (.if_icmp .lt 5, 3) := by decide +kernel
theorem d11_27 : decode jdk_43_method_22_code 27 = .ok (.iconst (-1), 1) := by decide +kernel
theorem d11_28 : decode jdk_43_method_22_code 28 = .ok (.ireturn, 1) := by decide +kernel
theorem ef_RIII_4 (m : MethodId) (x0 : Addr) (x1 : Int32) (x2 : Int32) (x3 : Int32) : entryFrame m #[(.ref x0), (.int x1), (.int x2), (.int x3)] 4 = mkF m 0 #[.val (.ref x0), .val (.int x1), .val (.int x2), .val (.int x3)] [] := by first | (simp [entryFrame, mkF, argsToLocals, Value.category]; done) | rfl
def own_QrmIo0L (ch : Int32) (h0 : Heap) (n0 : Nat) (v : Option Value) (h : Heap) (L : List Loc) : Prop := v = some (.int (own_find (ch.toInt8.toInt32) [] (0 : Int32))) ∧ Fr n0 L ∧ h = h0
set_option maxRecDepth 65536 in
set_option maxHeartbeats 40000000 in
theorem rmIo0L (l : Launch) (Z : State) (a0 : Array Value) (hw : own_W a0 Z) (ws : List Jvm.Cond) (cs : Int32) (gS : Value) (v1 : Addr) (k1 : ClassId) (ch : Int32)  (h0 : Heap) (n0 : Nat) (Z0 : n0 ≤ h0.size) (V_env : own_Env Z cs gS) (Od : Old Z n0 h0) (V1 : Arv Z h0 v1 k1 .byte (0 : Int32) [] (.int (0 : Int32))) (hq : own_cq ch) : own_Met l Z mn22 jdk_43_method_22_code 4 (some .int) ws (own_R 1 0 0 13) #[(.ref v1), (.int ch), (.int (0 : Int32)), (.int (0 : Int32))] h0 (own_QrmIo0L ch h0 n0) := by
  refine own_enter n0 (plainFor_of_name own_pn225) (fun m => ef_RIII_4 m v1 ch (0 : Int32) (0 : Int32) ) (fun p e s m below meth c s₁ hx hby hlk hml hret hown hnm hZ X0 e0 N0 => ?_)
  show own_Fin _ _ _ _ _ _ _ s₁ (mkF m 0 #[Rv v1, Iv ch, Iv 0, Iv 0] [])
  obtain ⟨_, _, ⟨T401, L401, k401, n401⟩, -, X401, ⟨Lc401, hQ401, l401, y401, z401⟩, st401⟩ := LawKit.callS X0 hx (y := mn19) hown (own_m hZ hw 62) (own_m hZ hw 63) (own_m hZ hw 60) (own_m hZ hw 64) (by decide) (backOf (W := 0) (rmCe l Z a0 hw [] ch h0 n0 Z0 hq) hZ (own_g hw 64) (own_g hw 60) (by decide) (by decide)) (g := (mkF m 1 #[Rv v1, Iv ch, Iv 0, Iv 0] [(.int ch)])) rfl (by rw [hml]; rfl) (argsL := [(.int ch)]) (rest := []) (lenOf own_pd322 rfl) rfl (own_z rfl) (hb hby d11_1) (fun _ _ => ⟨rfl, e0, (by decide : 0 + 0 ≤ _), (by decide : 0 + 0 ≤ _)⟩)
  dsimp only [Pt.U, Pt.locs, Pt.cells, Pt.slots] at X401 l401 y401 z401 st401 hQ401
  subst l401 y401 z401
  obtain ⟨rfl, Nq401, eh401⟩ := hQ401
  have N401 := Fr.app N0 Nq401
  obtain ⟨_, _, ⟨T402, L402, k402, n402⟩, -, X402, ⟨Lc402, hQ402, l402, y402, z402⟩, st402⟩ := LawKit.callS X401 hx (y := mn20) hown (own_m hZ hw 65) (own_m hZ hw 66) (own_m hZ hw 67) (own_m hZ hw 68) (by decide) (backOf (W := 0) (rmmax_0_0 l Z a0 hw []  h0 n0 Z0 ) hZ (own_g hw 68) (own_g hw 67) (by decide) (by decide)) (g := (mkF m 11 #[Rv v1, Iv ch, Iv 0, Iv 0] [(.int 0), (.int 0)])) rfl (by rw [hml]; rfl) (argsL := [(.int (0 : Int32)), (.int (0 : Int32))]) (rest := []) (lenOf own_pd327 rfl) rfl (own_z rfl) (hb hby d11_11) (fun _ _ => ⟨rfl, eh401, (by decide : 0 + 0 ≤ _), (by decide : 0 + 0 ≤ _)⟩)
  dsimp only [Pt.U, Pt.locs, Pt.cells, Pt.slots] at X402 l402 y402 z402 st402 hQ402
  subst l402 y402 z402
  obtain ⟨rfl, Nq402, eh402⟩ := hQ402
  have N402 := Fr.app N401 Nq402
  obtain ⟨cl403, Ar403, -, S403, M403, -, -⟩ := id V1
  refine own_by (fun _ k => XS.iloadN X0.here hx rfl (hb hby d11_0) rfl (st401 _ (XS.ifYes X401.here hx rfl (pc0 := 4) (pc' := 9) rfl (hb hby d11_4) rfl ((if0 _ _).trans (feq (by decide : ¬ ((1 : Int32) = (0 : Int32)))).2) (by decide) (by decide) (XS.iloadN X401.here hx rfl (hb hby d11_9) rfl (XS.iconst X401.here hx rfl (hb hby d11_10) (st402 _ (XS.istoreN X402.here hx rfl (hb hby d11_14) rfl (l' := #[Rv v1, Iv ch, Iv 0, Iv 0]) rfl (XS.iloadN X402.here hx rfl (hb hby d11_15) rfl (XS.aloadN X402.here hx rfl (hb hby d11_16) rfl rfl (X402.arraylength hx (by rw [eh402]; exact Ar403.1) (State.isArrayOf_alike hZ.alike Ar403.2.1) (g := (mkF m 17 #[Rv v1, Iv ch, Iv 0, Iv 0] [(.ref v1), (.int 0)])) rfl rfl (hb hby d11_17) _ k)))))))))) ?_
  rw [len_of S403 M403]
  show own_Fin _ _ _ _ _ _ _ T402 (mkF m 18 #[Rv v1, Iv ch, Iv 0, Iv 0] [(.int 0), (.int 0)])
  obtain ⟨_, _, ⟨T404, L404, k404, n404⟩, -, X404, ⟨Lc404, hQ404, l404, y404, z404⟩, st404⟩ := LawKit.callS X402 hx (y := mn21) hown (own_m hZ hw 69) (own_m hZ hw 70) (own_m hZ hw 67) (own_m hZ hw 71) (by decide) (backOf (W := 0) (rmmin_0_0 l Z a0 hw []  h0 n0 Z0 ) hZ (own_g hw 71) (own_g hw 67) (by decide) (by decide)) (g := (mkF m 18 #[Rv v1, Iv ch, Iv 0, Iv 0] [(.int 0), (.int 0)])) rfl (by rw [hml]; rfl) (argsL := [(.int (0 : Int32)), (.int (0 : Int32))]) (rest := []) (lenOf own_pd327 rfl) rfl (own_z rfl) (hb hby d11_18) (fun _ _ => ⟨rfl, eh402, (by decide : 0 + 0 ≤ _), (by decide : 0 + 0 ≤ _)⟩)
  dsimp only [Pt.U, Pt.locs, Pt.cells, Pt.slots] at X404 l404 y404 z404 st404 hQ404
  subst l404 y404 z404
  obtain ⟨rfl, Nq404, eh404⟩ := hQ404
  have N404 := Fr.app N402 Nq404
  refine own_by (fun _ k => st404 _ (XS.istoreN X404.here hx rfl (hb hby d11_21) rfl (l' := #[Rv v1, Iv ch, Iv 0, Iv 0]) rfl (XS.iloadN X404.here hx rfl (hb hby d11_22) rfl (XS.iloadN X404.here hx rfl (hb hby d11_23) rfl (XS.icmpNo X404.here hx rfl (hb hby d11_24) rfl (flt (by decide : ¬ ((0 : Int32) < (0 : Int32)))).1 (XS.iconst X404.here hx rfl (hb hby d11_27) k)))))) ?_
  exact own_retI X404 hx hlk hret (hb hby d11_28) ⟨own_vi (by show (-1 : Int32) = _; first | (simp only [own_find, if_neg V_env.2.2.2.2.1, if_neg hq.1, if_neg hq.2.1, if_pos hq.2.2]; done) | (simp only [own_find, if_neg V_env.2.2.2.2.1, if_neg hq.1, if_neg hq.2.1, if_pos hq.2.2]; decide) | simp [own_find, V_env.2.2.2.2.1, hq.1, hq.2.1, hq.2.2]), N404, eh404⟩ (by decide) (by decide)
theorem d9_0 : decode jdk_42_method_54_code 0 = .ok (.aload_n 0, 1) := by decide +kernel
theorem d9_1 : decode jdk_42_method_54_code 1 = .ok (.getfield 9, 3) := by decide +kernel
theorem d9_4 : decode jdk_42_method_54_code 4 = .ok (.arraylength, 1) := by decide +kernel
theorem d9_5 : decode jdk_42_method_54_code 5 = .ok (.aload_n 0, 1) := by decide +kernel
theorem d9_6 : decode jdk_42_method_54_code 6 = .ok (.invokevirtual 335, 3) := by decide +kernel
theorem own_pd344 : parseMethodDescriptor "()B" = some ⟨[], some .byte⟩ := by decide +kernel
theorem d9_9 : decode jdk_42_method_54_code 9 = .ok (.ishr, 1) := by decide +kernel
theorem d9_10 : decode jdk_42_method_54_code 10 = .ok (.ireturn, 1) := by decide +kernel
def own_QrmSl0_L (h0 : Heap) (n0 : Nat) (v : Option Value) (h : Heap) (L : List Loc) : Prop := v = some (.int (0 : Int32)) ∧ Fr n0 L ∧ h = h0
theorem rmSl0_L (l : Launch) (Z : State) (a0 : Array Value) (hw : own_W a0 Z) (ws : List Jvm.Cond) (cs : Int32) (gS : Value) (a1 v1 : Addr) (k1 : ClassId) (vs : List Value) (h0 : Heap) (n0 : Nat) (Z0 : n0 ≤ h0.size) (V_env : own_Env Z cs gS) (Od : Old Z n0 h0) (E_a1 : Exa Z h0 a1 "java/lang/String") (F1 : Fld Z h0 a1 "java/lang/String" "value" "[B" (.ref v1)) (F2 : Fld Z h0 a1 "java/lang/String" "coder" "B" (.int (0 : Int32))) (V1 : Arv Z h0 v1 k1 .byte (0 : Int32) vs (.int (0 : Int32))) : own_Met l Z mn23 jdk_42_method_54_code 1 (some .int) ws (own_R 1 0 0 13) #[(.ref a1)] h0 (own_QrmSl0_L h0 n0) := by
  refine own_enter n0 (plainFor_of_name own_pn34) (fun m => ef_R_1 m a1 ) (fun p e s m below meth c s₁ hx hby hlk hml hret hown hnm hZ X0 e0 N0 => ?_)
  show own_Fin _ _ _ _ _ _ _ s₁ (mkF m 0 #[Rv a1] [])
  obtain ⟨T405, X405, e405, st405⟩ := getF X0 hx hZ hown (host := "") (Or.inl (own_g hw 26)) Via.refl e0 F1 (g := (mkF m 1 #[Rv a1] [(.ref a1)])) rfl rfl (hb hby d9_1)
  obtain ⟨cl406, Ar406, -, S406, M406, -, -⟩ := id V1
  refine own_by (fun _ k => XS.aloadN X0.here hx rfl (hb hby d9_0) rfl rfl (st405 _ (X405.arraylength hx (by rw [e405]; exact Ar406.1) (State.isArrayOf_alike hZ.alike Ar406.2.1) (g := (mkF m 4 #[Rv a1] [(.ref v1)])) rfl rfl (hb hby d9_4) _ k))) ?_
  rw [len_of S406 M406]
  show own_Fin _ _ _ _ _ _ _ T405 (mkF m 5 #[Rv a1] [(.int 0)])
  obtain ⟨cq407, kq407, q407a, q407b, q407c⟩ := isOf hZ e405 E_a1
  obtain ⟨_, _, ⟨T407, L407, k407, n407⟩, -, X407, ⟨Lc407, hQ407, l407, y407, z407⟩, st407⟩ := X405.virtualBack hx (y := mn18) (z := mn18) hown (own_m hZ hw 53) (own_m hZ hw 54) (notFace_of_selects (args := #[]) (own_m hZ hw 56)) (own_m hZ hw 56) (own_m hZ hw 55) (by decide) (backOf (W := 1) (rmCd0 l Z a0 hw [] cs gS a1 h0 n0 Z0 V_env Od F2) hZ (own_g hw 57) (own_g hw 8) (by decide) (by decide)) q407a q407c (g := (mkF m 6 #[Rv a1] [(.ref a1), (.int 0)])) rfl (by rw [hml]; rfl) (Steps.refl _) (argsL := []) (rest := [(.int (0 : Int32))]) (lenOf own_pd344 rfl) rfl (own_z rfl) (hb hby d9_6) (fun _ _ => ⟨rfl, e405, (by decide : 0 + 0 ≤ _), (by decide : 0 + 0 ≤ _)⟩)
  dsimp only [Pt.U, Pt.locs, Pt.cells, Pt.slots] at X407 l407 y407 z407 st407 hQ407
  subst l407 y407 z407
  obtain ⟨rfl, Nq407, eh407⟩ := hQ407
  have N407 := Fr.app N0 Nq407
  refine own_by (fun _ k => XS.aloadN X405.here hx rfl (hb hby d9_5) rfl rfl (st407.trans (XS.ishr X407.here hx rfl (hb hby d9_9) rfl k))) ?_
  show own_Fin _ _ _ _ _ _ _ T407 (mkF m 10 #[Rv a1] [(.int ((0 : Int32) >>> ((0 : Int32) &&& 31)))])
  rw [(by decide : ((0 : Int32) >>> ((0 : Int32) &&& 31)) = (0 : Int32))]
  show own_Fin _ _ _ _ _ _ _ T407 (mkF m 10 #[Rv a1] [(.int 0)])
  exact own_retI X407 hx hlk hret (hb hby d9_10) ⟨rfl, N407, eh407⟩ (by decide) (by decide)
theorem d7_0 : decode jdk_42_method_80_code 0 = .ok (.aload_n 0, 1) := by decide +kernel
theorem d7_1 : decode jdk_42_method_80_code 1 = .ok (.invokevirtual 492, 3) := by decide +kernel
theorem own_pd349 : parseMethodDescriptor "()Z" = some ⟨[], some .boolean⟩ := by decide +kernel
theorem d7_4 : decode jdk_42_method_80_code 4 = .ok (.ifCond .eq 19, 3) := by decide +kernel
theorem d7_7 : decode jdk_42_method_80_code 7 = .ok (.aload_n 0, 1) := by decide +kernel
theorem d7_8 : decode jdk_42_method_80_code 8 = .ok (.getfield 9, 3) := by decide +kernel
theorem d7_11 : decode jdk_42_method_80_code 11 = .ok (.iload_n 1, 1) := by decide +kernel
theorem d7_12 : decode jdk_42_method_80_code 12 = .ok (.iload_n 2, 1) := by decide +kernel
theorem d7_13 : decode jdk_42_method_80_code 13 = .ok (.aload_n 0, 1) := by decide +kernel
theorem d7_14 : decode jdk_42_method_80_code 14 = .ok (.invokevirtual 505, 3) := by decide +kernel
theorem own_pd357 : parseMethodDescriptor "()I" = some ⟨[], some .int⟩ := by decide +kernel
theorem d7_17 : decode jdk_42_method_80_code 17 = .ok (.invokestatic 637, 3) := by decide +kernel
theorem own_pd359 : parseMethodDescriptor "([BIII)I" = some ⟨[(.array .byte), .int, .int, .int], some .int⟩ := by decide +kernel
theorem d7_20 : decode jdk_42_method_80_code 20 = .ok (.goto 16, 3) := by decide +kernel
theorem d7_36 : decode jdk_42_method_80_code 36 = .ok (.ireturn, 1) := by decide +kernel
def own_QrmI20L (ch : Int32) (h0 : Heap) (n0 : Nat) (v : Option Value) (h : Heap) (L : List Loc) : Prop := v = some (.int (own_find (ch.toInt8.toInt32) [] (0 : Int32))) ∧ Fr n0 L ∧ h = h0
set_option maxRecDepth 65536 in
set_option maxHeartbeats 40000000 in
theorem rmI20L (l : Launch) (Z : State) (a0 : Array Value) (hw : own_W a0 Z) (ws : List Jvm.Cond) (cs : Int32) (gS : Value) (a1 : Addr) (v1 : Addr) (k1 : ClassId) (ch : Int32)  (h0 : Heap) (n0 : Nat) (Z0 : n0 ≤ h0.size) (V_env : own_Env Z cs gS) (Od : Old Z n0 h0) (E_a1 : Exa Z h0 a1 "java/lang/String") (F1 : Fld Z h0 a1 "java/lang/String" "value" "[B" (.ref v1)) (F2 : Fld Z h0 a1 "java/lang/String" "coder" "B" (.int (0 : Int32))) (V1 : Arv Z h0 v1 k1 .byte (0 : Int32) [] (.int (0 : Int32))) (hq : own_cq ch) : own_Met l Z mn24 jdk_42_method_80_code 3 (some .int) ws (own_R 2 0 0 28) #[(.ref a1), (.int ch), (.int (0 : Int32))] h0 (own_QrmI20L ch h0 n0) := by
  refine own_enter n0 (plainFor_of_name own_pn34) (fun m => ef_RII_3 m a1 ch (0 : Int32) ) (fun p e s m below meth c s₁ hx hby hlk hml hret hown hnm hZ X0 e0 N0 => ?_)
  show own_Fin _ _ _ _ _ _ _ s₁ (mkF m 0 #[Rv a1, Iv ch, Iv 0] [])
  obtain ⟨cq408, kq408, q408a, q408b, q408c⟩ := isOf hZ e0 E_a1
  obtain ⟨_, _, ⟨T408, L408, k408, n408⟩, -, X408, ⟨Lc408, hQ408, l408, y408, z408⟩, st408⟩ := X0.virtualBack hx (y := mn17) (z := mn17) hown (own_m hZ hw 42) (own_m hZ hw 43) (notFace_of_selects (args := #[]) (own_m hZ hw 45)) (own_m hZ hw 45) (own_m hZ hw 44) (by decide) (backOf (W := 0) (rmIs0 l Z a0 hw [] cs gS a1 h0 n0 Z0 V_env Od F2) hZ (own_g hw 46) (own_g hw 8) (by decide) (by decide)) q408a q408c (g := (mkF m 1 #[Rv a1, Iv ch, Iv 0] [(.ref a1)])) rfl (by rw [hml]; rfl) (Steps.refl _) (argsL := []) (rest := []) (lenOf own_pd349 rfl) rfl (own_z rfl) (hb hby d7_1) (fun _ _ => ⟨rfl, e0, (by decide : 0 + 0 ≤ _), (by decide : 0 + 0 ≤ _)⟩)
  dsimp only [Pt.U, Pt.locs, Pt.cells, Pt.slots] at X408 l408 y408 z408 st408 hQ408
  subst l408 y408 z408
  obtain ⟨rfl, Nq408, eh408⟩ := hQ408
  have N408 := Fr.app N0 Nq408
  obtain ⟨T409, X409, e409, st409⟩ := getF X408 hx hZ hown (host := "") (Or.inl (own_g hw 26)) Via.refl eh408 F1 (g := (mkF m 8 #[Rv a1, Iv ch, Iv 0] [(.ref a1)])) rfl rfl (hb hby d7_8)
  obtain ⟨cq410, kq410, q410a, q410b, q410c⟩ := isOf hZ e409 E_a1
  obtain ⟨_, _, ⟨T410, L410, k410, n410⟩, -, X410, ⟨Lc410, hQ410, l410, y410, z410⟩, st410⟩ := X409.virtualBack hx (y := mn23) (z := mn23) hown (own_m hZ hw 48) (own_m hZ hw 49) (notFace_of_selects (args := #[]) (own_m hZ hw 51)) (own_m hZ hw 51) (own_m hZ hw 50) (by decide) (backOf (W := 3) (rmSl0_L l Z a0 hw [] cs gS a1 v1 k1 [] h0 n0 Z0 V_env Od E_a1 F1 F2 V1) hZ (own_g hw 52) (own_g hw 8) (by decide) (by decide)) q410a q410c (g := (mkF m 14 #[Rv a1, Iv ch, Iv 0] [(.ref a1), (.int 0), (.int ch), (.ref v1)])) rfl (by rw [hml]; rfl) (Steps.refl _) (argsL := []) (rest := [(.int (0 : Int32)), (.int ch), (.ref v1)]) (lenOf own_pd357 rfl) rfl (own_z rfl) (hb hby d7_14) (fun _ _ => ⟨rfl, e409, (by decide : 0 + 0 ≤ _), (by decide : 0 + 0 ≤ _)⟩)
  dsimp only [Pt.U, Pt.locs, Pt.cells, Pt.slots] at X410 l410 y410 z410 st410 hQ410
  subst l410 y410 z410
  obtain ⟨rfl, Nq410, eh410⟩ := hQ410
  have N410 := Fr.app N408 Nq410
  obtain ⟨_, _, ⟨T411, L411, k411, n411⟩, -, X411, ⟨Lc411, hQ411, l411, y411, z411⟩, st411⟩ := LawKit.callS X410 hx (y := mn22) hown (own_m hZ hw 58) (own_m hZ hw 59) (own_m hZ hw 60) (own_m hZ hw 61) (by decide) (backOf (W := 0) (rmIo0L l Z a0 hw [] cs gS v1 k1 ch  h0 n0 Z0 V_env Od V1 hq ) hZ (own_g hw 61) (own_g hw 60) (by decide) (by decide)) (g := (mkF m 17 #[Rv a1, Iv ch, Iv 0] [(.int 0), (.int 0), (.int ch), (.ref v1)])) rfl (by rw [hml]; rfl) (argsL := [(.ref v1), (.int ch), (.int (0 : Int32)), (.int (0 : Int32))]) (rest := []) (lenOf own_pd359 rfl) rfl (own_z rfl) (hb hby d7_17) (fun _ _ => ⟨rfl, eh410, (by decide : 0 + 0 ≤ _), (by decide : 0 + 0 ≤ _)⟩)
  dsimp only [Pt.U, Pt.locs, Pt.cells, Pt.slots] at X411 l411 y411 z411 st411 hQ411
  subst l411 y411 z411
  obtain ⟨rfl, Nq411, eh411⟩ := hQ411
  have N411 := Fr.app N410 Nq411
  refine own_by (fun _ k => XS.aloadN X0.here hx rfl (hb hby d7_0) rfl rfl (st408.trans (XS.ifNo X408.here hx rfl (hb hby d7_4) rfl ((if0 _ _).trans (feq (by decide : ¬ ((1 : Int32) = (0 : Int32)))).1) (XS.aloadN X408.here hx rfl (hb hby d7_7) rfl rfl (st409 _ (XS.iloadN X409.here hx rfl (hb hby d7_11) rfl (XS.iloadN X409.here hx rfl (hb hby d7_12) rfl (XS.aloadN X409.here hx rfl (hb hby d7_13) rfl rfl (st410.trans (st411 _ k)))))))))) ?_
  show own_Fin _ _ _ _ _ _ _ T411 (mkF m 20 #[Rv a1, Iv ch, Iv 0] [(.int (own_find (ch.toInt8.toInt32) [] (0 : Int32)))])
  refine own_by (fun _ k => XS.goto X411.here hx rfl (pc0 := 20) (pc' := 36) rfl (hb hby d7_20) (by decide) (by decide) k) ?_
  exact own_retI X411 hx hlk hret (hb hby d7_36) ⟨rfl, N411, eh411⟩ (by decide) (by decide)
theorem d6_0 : decode jdk_42_method_79_code 0 = .ok (.aload_n 0, 1) := by decide +kernel
theorem d6_1 : decode jdk_42_method_79_code 1 = .ok (.iload_n 1, 1) := by decide +kernel
theorem d6_2 : decode jdk_42_method_79_code 2 = .ok (.iconst 0, 1) := by decide +kernel
theorem d6_3 : decode jdk_42_method_79_code 3 = .ok (.invokevirtual 633, 3) := by decide +kernel
theorem d6_6 : decode jdk_42_method_79_code 6 = .ok (.ireturn, 1) := by decide +kernel
def own_QrmIx0L (ch : Int32) (h0 : Heap) (n0 : Nat) (v : Option Value) (h : Heap) (L : List Loc) : Prop := v = some (.int (own_find (ch.toInt8.toInt32) [] (0 : Int32))) ∧ Fr n0 L ∧ h = h0
theorem rmIx0L (l : Launch) (Z : State) (a0 : Array Value) (hw : own_W a0 Z) (ws : List Jvm.Cond) (cs : Int32) (gS : Value) (a1 : Addr) (v1 : Addr) (k1 : ClassId) (ch : Int32)  (h0 : Heap) (n0 : Nat) (Z0 : n0 ≤ h0.size) (V_env : own_Env Z cs gS) (Od : Old Z n0 h0) (E_a1 : Exa Z h0 a1 "java/lang/String") (F1 : Fld Z h0 a1 "java/lang/String" "value" "[B" (.ref v1)) (F2 : Fld Z h0 a1 "java/lang/String" "coder" "B" (.int (0 : Int32))) (V1 : Arv Z h0 v1 k1 .byte (0 : Int32) [] (.int (0 : Int32))) (hq : own_cq ch) : own_Met l Z mn25 jdk_42_method_79_code 2 (some .int) ws (own_R 3 0 0 42) #[(.ref a1), (.int ch)] h0 (own_QrmIx0L ch h0 n0) := by
  refine own_enter n0 (plainFor_of_name own_pn34) (fun m => ef_RI_2 m a1 ch ) (fun p e s m below meth c s₁ hx hby hlk hml hret hown hnm hZ X0 e0 N0 => ?_)
  show own_Fin _ _ _ _ _ _ _ s₁ (mkF m 0 #[Rv a1, Iv ch] [])
  obtain ⟨cq412, kq412, q412a, q412b, q412c⟩ := isOf hZ e0 E_a1
  obtain ⟨_, _, ⟨T412, L412, k412, n412⟩, -, X412, ⟨Lc412, hQ412, l412, y412, z412⟩, st412⟩ := X0.virtualBack hx (y := mn24) (z := mn24) hown (own_m hZ hw 37) (own_m hZ hw 38) (notFace_of_selects (args := #[]) (own_m hZ hw 40)) (own_m hZ hw 40) (own_m hZ hw 39) (by decide) (backOf (W := 0) (rmI20L l Z a0 hw [] cs gS a1 v1 k1 ch  h0 n0 Z0 V_env Od E_a1 F1 F2 V1 hq ) hZ (own_g hw 41) (own_g hw 8) (by decide) (by decide)) q412a q412c (g := (mkF m 3 #[Rv a1, Iv ch] [(.int 0), (.int ch), (.ref a1)])) rfl (by rw [hml]; rfl) (Steps.refl _) (argsL := [(.int ch), (.int (0 : Int32))]) (rest := []) (lenOf own_pd327 rfl) rfl (own_z rfl) (hb hby d6_3) (fun _ _ => ⟨rfl, e0, (by decide : 0 + 0 ≤ _), (by decide : 0 + 0 ≤ _)⟩)
  dsimp only [Pt.U, Pt.locs, Pt.cells, Pt.slots] at X412 l412 y412 z412 st412 hQ412
  subst l412 y412 z412
  obtain ⟨rfl, Nq412, eh412⟩ := hQ412
  have N412 := Fr.app N0 Nq412
  refine own_by (fun _ k => XS.aloadN X0.here hx rfl (hb hby d6_0) rfl rfl (XS.iloadN X0.here hx rfl (hb hby d6_1) rfl (XS.iconst X0.here hx rfl (hb hby d6_2) (st412.trans k)))) ?_
  exact own_retI X412 hx hlk hret (hb hby d6_6) ⟨rfl, N412, eh412⟩ (by decide) (by decide)
theorem own_pn367 : plainName "com/example/trustee/trustee/PartPattern" = true := by first | (simp [plainName, overriddenIn]; done) | decide +kernel
theorem d5_0 : decode prog_17_method_3_code 0 = .ok (.aload_n 0, 1) := by decide +kernel
theorem d5_1 : decode prog_17_method_3_code 1 = .ok (.bipush 42, 2) := by decide +kernel
theorem d5_3 : decode prog_17_method_3_code 3 = .ok (.invokevirtual 87, 3) := by decide +kernel
theorem d5_6 : decode prog_17_method_3_code 6 = .ok (.ifCond .ge 12, 3) := by decide +kernel
theorem d5_9 : decode prog_17_method_3_code 9 = .ok (.aload_n 0, 1) := by decide +kernel
theorem d5_10 : decode prog_17_method_3_code 10 = .ok (.bipush 63, 2) := by decide +kernel
theorem d5_12 : decode prog_17_method_3_code 12 = .ok (.invokevirtual 87, 3) := by decide +kernel
theorem d5_15 : decode prog_17_method_3_code 15 = .ok (.ifCond .lt 7, 3) := by decide +kernel
theorem d5_22 : decode prog_17_method_3_code 22 = .ok (.iconst 0, 1) := by decide +kernel
theorem d5_23 : decode prog_17_method_3_code 23 = .ok (.ireturn, 1) := by decide +kernel
theorem d5_18 : decode prog_17_method_3_code 18 = .ok (.iconst 1, 1) := by decide +kernel
theorem d5_19 : decode prog_17_method_3_code 19 = .ok (.goto 4, 3) := by decide +kernel
def own_QIW0L (h0 : Heap) (n0 : Nat) (v : Option Value) (h : Heap) (L : List Loc) : Prop := v = some (.int (own_iw (own_find ((42 : Int32).toInt8.toInt32) [] (0 : Int32)) (own_find ((63 : Int32).toInt8.toInt32) [] (0 : Int32)))) ∧ Fr n0 L ∧ h = h0
set_option maxRecDepth 65536 in
set_option maxHeartbeats 40000000 in
theorem rmIW0L (l : Launch) (Z : State) (a0 : Array Value) (hw : own_W a0 Z) (ws : List Jvm.Cond) (cs : Int32) (gS : Value) (a1 v1 : Addr) (k1 : ClassId)  (h0 : Heap) (n0 : Nat) (Z0 : n0 ≤ h0.size) (V_env : own_Env Z cs gS) (Od : Old Z n0 h0) (E_a1 : Exa Z h0 a1 "java/lang/String") (F1 : Fld Z h0 a1 "java/lang/String" "value" "[B" (.ref v1)) (F2 : Fld Z h0 a1 "java/lang/String" "coder" "B" (.int (0 : Int32))) (V1 : Arv Z h0 v1 k1 .byte (0 : Int32) [] (.int (0 : Int32))) : own_Met l Z mn26 prog_17_method_3_code 1 (some .boolean) ws (own_R 4 0 0 55) #[(.ref a1)] h0 (own_QIW0L h0 n0) := by
  refine own_enter n0 (plainFor_of_name own_pn367) (fun m => ef_R_1 m a1 ) (fun p e s m below meth c s₁ hx hby hlk hml hret hown hnm hZ X0 e0 N0 => ?_)
  show own_Fin _ _ _ _ _ _ _ s₁ (mkF m 0 #[Rv a1] [])
  obtain ⟨cq413, kq413, q413a, q413b, q413c⟩ := isOf hZ e0 E_a1
  obtain ⟨_, _, ⟨T413, L413, k413, n413⟩, -, X413, ⟨Lc413, hQ413, l413, y413, z413⟩, st413⟩ := X0.virtualBack hx (y := mn25) (z := mn25) hown (own_m hZ hw 32) (own_m hZ hw 33) (notFace_of_selects (args := #[]) (own_m hZ hw 35)) (own_m hZ hw 35) (own_m hZ hw 34) (by decide) (backOf (W := 0) (rmIx0L l Z a0 hw [] cs gS a1 v1 k1 (42 : Int32)  h0 n0 Z0 V_env Od E_a1 F1 F2 V1 ⟨by decide, by decide, by decide⟩ ) hZ (own_g hw 36) (own_g hw 8) (by decide) (by decide)) q413a q413c (g := (mkF m 3 #[Rv a1] [(.int 42), (.ref a1)])) rfl (by rw [hml]; rfl) (Steps.refl _) (argsL := [(.int (42 : Int32))]) (rest := []) (lenOf own_pd70 rfl) rfl (own_z rfl) (hb hby d5_3) (fun _ _ => ⟨rfl, e0, (by decide : 0 + 0 ≤ _), (by decide : 0 + 0 ≤ _)⟩)
  dsimp only [Pt.U, Pt.locs, Pt.cells, Pt.slots] at X413 l413 y413 z413 st413 hQ413
  subst l413 y413 z413
  obtain ⟨rfl, Nq413, eh413⟩ := hQ413
  have N413 := Fr.app N0 Nq413
  refine own_by (fun _ k => XS.aloadN X0.here hx rfl (hb hby d5_0) rfl rfl (XS.bipush X0.here hx rfl (hb hby d5_1) (st413.trans k))) ?_
  show own_Fin _ _ _ _ _ _ _ T413 (mkF m 6 #[Rv a1] [(.int (own_find ((42 : Int32).toInt8.toInt32) [] (0 : Int32)))])
  by_cases hc6_414 : (own_find ((42 : Int32).toInt8.toInt32) [] (0 : Int32)) < (0 : Int32)
  · show own_Fin _ _ _ _ _ _ _ T413 (mkF m 6 #[Rv a1] [(.int (own_find ((42 : Int32).toInt8.toInt32) [] (0 : Int32)))])
    obtain ⟨cq415, kq415, q415a, q415b, q415c⟩ := isOf hZ eh413 E_a1
    obtain ⟨_, _, ⟨T415, L415, k415, n415⟩, -, X415, ⟨Lc415, hQ415, l415, y415, z415⟩, st415⟩ := X413.virtualBack hx (y := mn25) (z := mn25) hown (own_m hZ hw 32) (own_m hZ hw 33) (notFace_of_selects (args := #[]) (own_m hZ hw 35)) (own_m hZ hw 35) (own_m hZ hw 34) (by decide) (backOf (W := 0) (rmIx0L l Z a0 hw [] cs gS a1 v1 k1 (63 : Int32)  h0 n0 Z0 V_env Od E_a1 F1 F2 V1 ⟨by decide, by decide, by decide⟩ ) hZ (own_g hw 36) (own_g hw 8) (by decide) (by decide)) q415a q415c (g := (mkF m 12 #[Rv a1] [(.int 63), (.ref a1)])) rfl (by rw [hml]; rfl) (Steps.refl _) (argsL := [(.int (63 : Int32))]) (rest := []) (lenOf own_pd70 rfl) rfl (own_z rfl) (hb hby d5_12) (fun _ _ => ⟨rfl, eh413, (by decide : 0 + 0 ≤ _), (by decide : 0 + 0 ≤ _)⟩)
    dsimp only [Pt.U, Pt.locs, Pt.cells, Pt.slots] at X415 l415 y415 z415 st415 hQ415
    subst l415 y415 z415
    obtain ⟨rfl, Nq415, eh415⟩ := hQ415
    have N415 := Fr.app N413 Nq415
    refine own_by (fun _ k => XS.ifNo X413.here hx rfl (hb hby d5_6) rfl ((if0 _ _).trans (tlt hc6_414).2.1) (XS.aloadN X413.here hx rfl (hb hby d5_9) rfl rfl (XS.bipush X413.here hx rfl (hb hby d5_10) (st415.trans k)))) ?_
    show own_Fin _ _ _ _ _ _ _ T415 (mkF m 15 #[Rv a1] [(.int (own_find ((63 : Int32).toInt8.toInt32) [] (0 : Int32)))])
    by_cases hc15_416 : (own_find ((63 : Int32).toInt8.toInt32) [] (0 : Int32)) < (0 : Int32)
    · show own_Fin _ _ _ _ _ _ _ T415 (mkF m 15 #[Rv a1] [(.int (own_find ((63 : Int32).toInt8.toInt32) [] (0 : Int32)))])
      refine own_by (fun _ k => XS.ifYes X415.here hx rfl (pc0 := 15) (pc' := 22) rfl (hb hby d5_15) rfl ((if0 _ _).trans (tlt hc15_416).1) (by decide) (by decide) (XS.iconst X415.here hx rfl (hb hby d5_22) k)) ?_
      exact own_retZ X415 hx hlk (t := .boolean) hret (by simp) (hb hby d5_23) ⟨own_vi (by show (0 : Int32) = _; first | (simp only [own_iw, if_neg V_env.2.2.2.2.1, if_pos hc6_414, if_pos hc15_416]; done) | (simp only [own_iw, if_neg V_env.2.2.2.2.1, if_pos hc6_414, if_pos hc15_416]; decide) | simp [own_iw, V_env.2.2.2.2.1, hc6_414, hc15_416]), N415, eh415⟩ (by decide) (by decide)
    · show own_Fin _ _ _ _ _ _ _ T415 (mkF m 15 #[Rv a1] [(.int (own_find ((63 : Int32).toInt8.toInt32) [] (0 : Int32)))])
      refine own_by (fun _ k => XS.ifNo X415.here hx rfl (hb hby d5_15) rfl ((if0 _ _).trans (flt hc15_416).1) (XS.iconst X415.here hx rfl (hb hby d5_18) (XS.goto X415.here hx rfl (pc0 := 19) (pc' := 23) rfl (hb hby d5_19) (by decide) (by decide) k))) ?_
      exact own_retZ X415 hx hlk (t := .boolean) hret (by simp) (hb hby d5_23) ⟨own_vi (by show (1 : Int32) = _; first | (simp only [own_iw, if_neg V_env.2.2.2.2.1, if_pos hc6_414, if_neg hc15_416]; done) | (simp only [own_iw, if_neg V_env.2.2.2.2.1, if_pos hc6_414, if_neg hc15_416]; decide) | simp [own_iw, V_env.2.2.2.2.1, hc6_414, hc15_416]), N415, eh415⟩ (by decide) (by decide)
  · show own_Fin _ _ _ _ _ _ _ T413 (mkF m 6 #[Rv a1] [(.int (own_find ((42 : Int32).toInt8.toInt32) [] (0 : Int32)))])
    refine own_by (fun _ k => XS.ifYes X413.here hx rfl (pc0 := 6) (pc' := 18) rfl (hb hby d5_6) rfl ((if0 _ _).trans (flt hc6_414).2.1) (by decide) (by decide) (XS.iconst X413.here hx rfl (hb hby d5_18) (XS.goto X413.here hx rfl (pc0 := 19) (pc' := 23) rfl (hb hby d5_19) (by decide) (by decide) k))) ?_
    exact own_retZ X413 hx hlk (t := .boolean) hret (by simp) (hb hby d5_23) ⟨own_vi (by show (1 : Int32) = _; first | (simp only [own_iw, if_neg V_env.2.2.2.2.1, if_neg hc6_414]; done) | (simp only [own_iw, if_neg V_env.2.2.2.2.1, if_neg hc6_414]; decide) | simp [own_iw, V_env.2.2.2.2.1, hc6_414]), N413, eh413⟩ (by decide) (by decide)
theorem d19_0 : decode jdk_43_method_23_code 0 = .ok (.iload_n 1, 1) := by decide +kernel
theorem d19_1 : decode jdk_43_method_23_code 1 = .ok (.i2b, 1) := by decide +kernel
theorem d19_2 : decode jdk_43_method_23_code 2 = .ok (.istore 4, 2) := by decide +kernel
theorem d19_4 : decode jdk_43_method_23_code 4 = .ok (.iload_n 2, 1) := by decide +kernel
theorem d19_5 : decode jdk_43_method_23_code 5 = .ok (.istore 5, 2) := by decide +kernel
theorem d19_7 : decode jdk_43_method_23_code 7 = .ok (.iload 5, 2) := by decide +kernel
theorem d19_9 : decode jdk_43_method_23_code 9 = .ok (.iload_n 3, 1) := by decide +kernel
theorem d19_10 : decode jdk_43_method_23_code 10 = .ok (.if_icmp .ge 21, 3) := by decide +kernel
theorem d19_13 : decode jdk_43_method_23_code 13 = .ok (.aload_n 0, 1) := by decide +kernel
theorem d19_14 : decode jdk_43_method_23_code 14 = .ok (.iload 5, 2) := by decide +kernel
theorem d19_16 : decode jdk_43_method_23_code 16 = .ok (.baload, 1) := by decide +kernel
theorem d19_17 : decode jdk_43_method_23_code 17 = .ok (.iload 4, 2) := by decide +kernel
theorem d19_19 : decode jdk_43_method_23_code 19 = .ok (.if_icmp .ne 6, 3) := by decide +kernel
theorem d19_22 : decode jdk_43_method_23_code 22 = .ok (.iload 5, 2) := by decide +kernel
theorem d19_24 : decode jdk_43_method_23_code 24 = .ok (.ireturn, 1) := by decide +kernel
theorem d19_25 : decode jdk_43_method_23_code 25 = .ok (.iinc 5 1, 3) := by decide +kernel
theorem d19_28 : decode jdk_43_method_23_code 28 = .ok (.goto (-21), 3) := by decide +kernel
theorem d19_31 : decode jdk_43_method_23_code 31 = .ok (.iconst (-1), 1) := by decide +kernel
theorem d19_32 : decode jdk_43_method_23_code 32 = .ok (.ireturn, 1) := by decide +kernel
theorem ef_RIII_6 (m : MethodId) (x0 : Addr) (x1 : Int32) (x2 : Int32) (x3 : Int32) : entryFrame m #[(.ref x0), (.int x1), (.int x2), (.int x3)] 6 = mkF m 0 #[.val (.ref x0), .val (.int x1), .val (.int x2), .val (.int x3), .unset, .unset] [] := by first | (simp [entryFrame, mkF, argsToLocals, Value.category]; done) | rfl
def own_QrmIc1L (ch : Int32) (x0 : Int32) (h0 : Heap) (n0 : Nat) (v : Option Value) (h : Heap) (L : List Loc) : Prop := v = some (.int (own_find (ch.toInt8.toInt32) [x0.toInt8.toInt32] (0 : Int32))) ∧ Fr n0 L ∧ h = h0
set_option maxRecDepth 65536 in
set_option maxHeartbeats 40000000 in
theorem rmIc1L (l : Launch) (Z : State) (a0 : Array Value) (hw : own_W a0 Z) (ws : List Jvm.Cond) (cs : Int32) (gS : Value) (v1 : Addr) (k1 : ClassId) (ch : Int32) (x0 : Int32) (h0 : Heap) (n0 : Nat) (Z0 : n0 ≤ h0.size) (V_env : own_Env Z cs gS) (Od : Old Z n0 h0) (V1 : Arv Z h0 v1 k1 .byte (1 : Int32) [(.int x0.toInt8.toInt32)] (.int (0 : Int32))) (hq : own_cq ch) : own_Met l Z mn27 jdk_43_method_23_code 6 (some .int) ws (own_R 0 0 0 0) #[(.ref v1), (.int ch), (.int (0 : Int32)), (.int (1 : Int32))] h0 (own_QrmIc1L ch x0 h0 n0) := by
  refine own_enter n0 (plainFor_of_name own_pn225) (fun m => ef_RIII_6 m v1 ch (0 : Int32) (1 : Int32) ) (fun p e s m below meth c s₁ hx hby hlk hml hret hown hnm hZ X0 e0 N0 => ?_)
  show own_Fin _ _ _ _ _ _ _ s₁ (mkF m 0 #[Rv v1, Iv ch, Iv 0, Iv 1, Uv, Uv] [])
  obtain ⟨cl417, Ar417, -, S417, M417, H417, -⟩ := id V1
  have hin417 : ¬ ((0 : Int32) < 0 ∨ cl417.slots.size ≤ ((0 : Int32)).toNatClampNeg) := inb_of S417 ⟨by decide, by decide⟩
  have hat417 : cl417.slots[((0 : Int32)).toNatClampNeg]? = some (.int x0.toInt8.toInt32) := Has.at H417 hin417 rfl
  refine own_by (fun _ k => XS.iloadN X0.here hx rfl (hb hby d19_0) rfl (XS.i2b X0.here hx rfl (hb hby d19_1) rfl (XS.istore X0.here hx rfl (hb hby d19_2) rfl (l' := #[Rv v1, Iv ch, Iv 0, Iv 1, Iv (ch.toInt8.toInt32), Uv]) rfl (XS.iloadN X0.here hx rfl (hb hby d19_4) rfl (XS.istore X0.here hx rfl (hb hby d19_5) rfl (l' := #[Rv v1, Iv ch, Iv 0, Iv 1, Iv (ch.toInt8.toInt32), Iv 0]) rfl (XS.iload X0.here hx rfl (hb hby d19_7) rfl (XS.iloadN X0.here hx rfl (hb hby d19_9) rfl (XS.icmpNo X0.here hx rfl (hb hby d19_10) rfl (tlt (by decide : (0 : Int32) < (1 : Int32))).2.1 (XS.aloadN X0.here hx rfl (hb hby d19_13) rfl rfl (XS.iload X0.here hx rfl (hb hby d19_14) rfl k)))))))))) ?_
  show own_Fin _ _ _ _ _ _ _ s₁ (mkF m 16 #[Rv v1, Iv ch, Iv 0, Iv 1, Iv (ch.toInt8.toInt32), Iv 0] [(.int 0), (.ref v1)])
  refine own_by (fun _ k => X0.baloadBytes hx (j := (0 : Int32)) (v := (.int x0.toInt8.toInt32)) (by rw [e0]; exact Ar417.1) (State.isArrayOf_alike hZ.alike Ar417.2.1) Ar417.2.2 hin417 hat417 (g := (mkF m 16 #[Rv v1, Iv ch, Iv 0, Iv 1, Iv (ch.toInt8.toInt32), Iv 0] [(.int 0), (.ref v1)])) rfl rfl (hb hby d19_16) _ (XS.iload X0.here hx rfl (hb hby d19_17) rfl k)) ?_
  show own_Fin _ _ _ _ _ _ _ s₁ (mkF m 19 #[Rv v1, Iv ch, Iv 0, Iv 1, Iv (ch.toInt8.toInt32), Iv 0] [(.int (ch.toInt8.toInt32)), (.int x0.toInt8.toInt32)])
  by_cases hc19_418 : x0.toInt8.toInt32 = (ch.toInt8.toInt32)
  · show own_Fin _ _ _ _ _ _ _ s₁ (mkF m 19 #[Rv v1, Iv ch, Iv 0, Iv 1, Iv (ch.toInt8.toInt32), Iv 0] [(.int (ch.toInt8.toInt32)), (.int x0.toInt8.toInt32)])
    refine own_by (fun _ k => XS.icmpNo X0.here hx rfl (hb hby d19_19) rfl (teq hc19_418).2 (XS.iload X0.here hx rfl (hb hby d19_22) rfl k)) ?_
    exact own_retI X0 hx hlk hret (hb hby d19_24) ⟨own_vi (by show (0 : Int32) = _; first | (simp only [own_find, if_neg V_env.2.2.2.2.1, if_neg hq.1, if_neg hq.2.1, if_pos hq.2.2, if_pos hc19_418]; done) | (simp only [own_find, if_neg V_env.2.2.2.2.1, if_neg hq.1, if_neg hq.2.1, if_pos hq.2.2, if_pos hc19_418]; decide) | simp [own_find, V_env.2.2.2.2.1, hq.1, hq.2.1, hq.2.2, hc19_418]), N0, e0⟩ (by decide) (by decide)
  · show own_Fin _ _ _ _ _ _ _ s₁ (mkF m 19 #[Rv v1, Iv ch, Iv 0, Iv 1, Iv (ch.toInt8.toInt32), Iv 0] [(.int (ch.toInt8.toInt32)), (.int x0.toInt8.toInt32)])
    refine own_by (fun _ k => XS.icmpYes X0.here hx rfl (pc0 := 19) (pc' := 25) rfl (hb hby d19_19) rfl (feq hc19_418).2 (by decide) (by decide) (XS.iinc X0.here hx rfl (hb hby d19_25) rfl (l' := #[Rv v1, Iv ch, Iv 0, Iv 1, Iv (ch.toInt8.toInt32), Iv ((0 : Int32) + (1 : Int32))]) rfl k)) ?_
    show own_Fin _ _ _ _ _ _ _ s₁ (mkF m 28 #[Rv v1, Iv ch, Iv 0, Iv 1, Iv (ch.toInt8.toInt32), Iv ((0 : Int32) + (1 : Int32))] [])
    rw [(by decide : ((0 : Int32) + (1 : Int32)) = (1 : Int32))]
    show own_Fin _ _ _ _ _ _ _ s₁ (mkF m 28 #[Rv v1, Iv ch, Iv 0, Iv 1, Iv (ch.toInt8.toInt32), Iv 1] [])
    refine own_by (fun _ k => XS.goto X0.here hx rfl (pc0 := 28) (pc' := 7) rfl (hb hby d19_28) (by decide) (by decide) (XS.iload X0.here hx rfl (hb hby d19_7) rfl (XS.iloadN X0.here hx rfl (hb hby d19_9) rfl (XS.icmpYes X0.here hx rfl (pc0 := 10) (pc' := 31) rfl (hb hby d19_10) rfl (flt (by decide : ¬ ((1 : Int32) < (1 : Int32)))).2.1 (by decide) (by decide) (XS.iconst X0.here hx rfl (hb hby d19_31) k))))) ?_
    exact own_retI X0 hx hlk hret (hb hby d19_32) ⟨own_vi (by show (-1 : Int32) = _; first | (simp only [own_find, if_neg V_env.2.2.2.2.1, if_neg hq.1, if_neg hq.2.1, if_pos hq.2.2, if_neg hc19_418]; done) | (simp only [own_find, if_neg V_env.2.2.2.2.1, if_neg hq.1, if_neg hq.2.1, if_pos hq.2.2, if_neg hc19_418]; decide) | simp [own_find, V_env.2.2.2.2.1, hq.1, hq.2.1, hq.2.2, hc19_418]), N0, e0⟩ (by decide) (by decide)
def own_Qrmmin_1_1 (h0 : Heap) (n0 : Nat) (v : Option Value) (h : Heap) (L : List Loc) : Prop := v = some (.int (1 : Int32)) ∧ Fr n0 L ∧ h = h0
theorem rmmin_1_1 (l : Launch) (Z : State) (a0 : Array Value) (hw : own_W a0 Z) (ws : List Jvm.Cond)  (h0 : Heap) (n0 : Nat) (Z0 : n0 ≤ h0.size)  : own_Met l Z mn21 jdk_29_method_69_code 2 (some .int) ws (own_R 0 0 0 0) #[(.int (1 : Int32)), (.int (1 : Int32))] h0 (own_Qrmmin_1_1 h0 n0) := by
  refine own_enter n0 (by decide +kernel) (fun m => ef_II_2 m (1 : Int32) (1 : Int32) ) (fun p e s m below meth c s₁ hx hby hlk hml hret hown hnm hZ X0 e0 N0 => ?_)
  show own_Fin _ _ _ _ _ _ _ s₁ (mkF m 0 #[Iv 1, Iv 1] [])
  refine own_by (fun _ k => XS.iloadN X0.here hx rfl (hb hby d14_0) rfl (XS.iloadN X0.here hx rfl (hb hby d14_1) rfl (XS.icmpNo X0.here hx rfl (hb hby d14_2) rfl (flt (by decide : ¬ ((1 : Int32) < (1 : Int32)))).2.2.1 (XS.iloadN X0.here hx rfl (hb hby d14_5) rfl (XS.goto X0.here hx rfl (pc0 := 6) (pc' := 10) rfl (hb hby d14_6) (by decide) (by decide) k))))) ?_
  exact own_retI X0 hx hlk hret (hb hby d14_10) ⟨rfl, N0, e0⟩ (by decide) (by decide)
theorem d11_29 : decode jdk_43_method_22_code 29 = .ok (.aload_n 0, 1) := by decide +kernel
theorem d11_30 : decode jdk_43_method_22_code 30 = .ok (.iload_n 1, 1) := by decide +kernel
theorem d11_31 : decode jdk_43_method_22_code 31 = .ok (.iload_n 2, 1) := by decide +kernel
theorem d11_32 : decode jdk_43_method_22_code 32 = .ok (.iload_n 3, 1) := by decide +kernel
theorem d11_33 : decode jdk_43_method_22_code 33 = .ok (.invokestatic 95, 3) := by decide +kernel
theorem d11_36 : decode jdk_43_method_22_code 36 = .ok (.ireturn, 1) := by decide +kernel
def own_QrmIo1L (ch : Int32) (x0 : Int32) (h0 : Heap) (n0 : Nat) (v : Option Value) (h : Heap) (L : List Loc) : Prop := v = some (.int (own_find (ch.toInt8.toInt32) [x0.toInt8.toInt32] (0 : Int32))) ∧ Fr n0 L ∧ h = h0
set_option maxRecDepth 65536 in
set_option maxHeartbeats 40000000 in
theorem rmIo1L (l : Launch) (Z : State) (a0 : Array Value) (hw : own_W a0 Z) (ws : List Jvm.Cond) (cs : Int32) (gS : Value) (v1 : Addr) (k1 : ClassId) (ch : Int32) (x0 : Int32) (h0 : Heap) (n0 : Nat) (Z0 : n0 ≤ h0.size) (V_env : own_Env Z cs gS) (Od : Old Z n0 h0) (V1 : Arv Z h0 v1 k1 .byte (1 : Int32) [(.int x0.toInt8.toInt32)] (.int (0 : Int32))) (hq : own_cq ch) : own_Met l Z mn22 jdk_43_method_22_code 4 (some .int) ws (own_R 1 0 0 17) #[(.ref v1), (.int ch), (.int (0 : Int32)), (.int (1 : Int32))] h0 (own_QrmIo1L ch x0 h0 n0) := by
  refine own_enter n0 (plainFor_of_name own_pn225) (fun m => ef_RIII_4 m v1 ch (0 : Int32) (1 : Int32) ) (fun p e s m below meth c s₁ hx hby hlk hml hret hown hnm hZ X0 e0 N0 => ?_)
  show own_Fin _ _ _ _ _ _ _ s₁ (mkF m 0 #[Rv v1, Iv ch, Iv 0, Iv 1] [])
  obtain ⟨_, _, ⟨T419, L419, k419, n419⟩, -, X419, ⟨Lc419, hQ419, l419, y419, z419⟩, st419⟩ := LawKit.callS X0 hx (y := mn19) hown (own_m hZ hw 62) (own_m hZ hw 63) (own_m hZ hw 60) (own_m hZ hw 64) (by decide) (backOf (W := 0) (rmCe l Z a0 hw [] ch h0 n0 Z0 hq) hZ (own_g hw 64) (own_g hw 60) (by decide) (by decide)) (g := (mkF m 1 #[Rv v1, Iv ch, Iv 0, Iv 1] [(.int ch)])) rfl (by rw [hml]; rfl) (argsL := [(.int ch)]) (rest := []) (lenOf own_pd322 rfl) rfl (own_z rfl) (hb hby d11_1) (fun _ _ => ⟨rfl, e0, (by decide : 0 + 0 ≤ _), (by decide : 0 + 0 ≤ _)⟩)
  dsimp only [Pt.U, Pt.locs, Pt.cells, Pt.slots] at X419 l419 y419 z419 st419 hQ419
  subst l419 y419 z419
  obtain ⟨rfl, Nq419, eh419⟩ := hQ419
  have N419 := Fr.app N0 Nq419
  obtain ⟨_, _, ⟨T420, L420, k420, n420⟩, -, X420, ⟨Lc420, hQ420, l420, y420, z420⟩, st420⟩ := LawKit.callS X419 hx (y := mn20) hown (own_m hZ hw 65) (own_m hZ hw 66) (own_m hZ hw 67) (own_m hZ hw 68) (by decide) (backOf (W := 0) (rmmax_0_0 l Z a0 hw []  h0 n0 Z0 ) hZ (own_g hw 68) (own_g hw 67) (by decide) (by decide)) (g := (mkF m 11 #[Rv v1, Iv ch, Iv 0, Iv 1] [(.int 0), (.int 0)])) rfl (by rw [hml]; rfl) (argsL := [(.int (0 : Int32)), (.int (0 : Int32))]) (rest := []) (lenOf own_pd327 rfl) rfl (own_z rfl) (hb hby d11_11) (fun _ _ => ⟨rfl, eh419, (by decide : 0 + 0 ≤ _), (by decide : 0 + 0 ≤ _)⟩)
  dsimp only [Pt.U, Pt.locs, Pt.cells, Pt.slots] at X420 l420 y420 z420 st420 hQ420
  subst l420 y420 z420
  obtain ⟨rfl, Nq420, eh420⟩ := hQ420
  have N420 := Fr.app N419 Nq420
  obtain ⟨cl421, Ar421, -, S421, M421, -, -⟩ := id V1
  refine own_by (fun _ k => XS.iloadN X0.here hx rfl (hb hby d11_0) rfl (st419 _ (XS.ifYes X419.here hx rfl (pc0 := 4) (pc' := 9) rfl (hb hby d11_4) rfl ((if0 _ _).trans (feq (by decide : ¬ ((1 : Int32) = (0 : Int32)))).2) (by decide) (by decide) (XS.iloadN X419.here hx rfl (hb hby d11_9) rfl (XS.iconst X419.here hx rfl (hb hby d11_10) (st420 _ (XS.istoreN X420.here hx rfl (hb hby d11_14) rfl (l' := #[Rv v1, Iv ch, Iv 0, Iv 1]) rfl (XS.iloadN X420.here hx rfl (hb hby d11_15) rfl (XS.aloadN X420.here hx rfl (hb hby d11_16) rfl rfl (X420.arraylength hx (by rw [eh420]; exact Ar421.1) (State.isArrayOf_alike hZ.alike Ar421.2.1) (g := (mkF m 17 #[Rv v1, Iv ch, Iv 0, Iv 1] [(.ref v1), (.int 1)])) rfl rfl (hb hby d11_17) _ k)))))))))) ?_
  rw [len_of S421 M421]
  show own_Fin _ _ _ _ _ _ _ T420 (mkF m 18 #[Rv v1, Iv ch, Iv 0, Iv 1] [(.int 1), (.int 1)])
  obtain ⟨_, _, ⟨T422, L422, k422, n422⟩, -, X422, ⟨Lc422, hQ422, l422, y422, z422⟩, st422⟩ := LawKit.callS X420 hx (y := mn21) hown (own_m hZ hw 69) (own_m hZ hw 70) (own_m hZ hw 67) (own_m hZ hw 71) (by decide) (backOf (W := 0) (rmmin_1_1 l Z a0 hw []  h0 n0 Z0 ) hZ (own_g hw 71) (own_g hw 67) (by decide) (by decide)) (g := (mkF m 18 #[Rv v1, Iv ch, Iv 0, Iv 1] [(.int 1), (.int 1)])) rfl (by rw [hml]; rfl) (argsL := [(.int (1 : Int32)), (.int (1 : Int32))]) (rest := []) (lenOf own_pd327 rfl) rfl (own_z rfl) (hb hby d11_18) (fun _ _ => ⟨rfl, eh420, (by decide : 0 + 0 ≤ _), (by decide : 0 + 0 ≤ _)⟩)
  dsimp only [Pt.U, Pt.locs, Pt.cells, Pt.slots] at X422 l422 y422 z422 st422 hQ422
  subst l422 y422 z422
  obtain ⟨rfl, Nq422, eh422⟩ := hQ422
  have N422 := Fr.app N420 Nq422
  obtain ⟨_, _, ⟨T423, L423, k423, n423⟩, -, X423, ⟨Lc423, hQ423, l423, y423, z423⟩, st423⟩ := LawKit.callS X422 hx (y := mn27) hown (own_m hZ hw 85) (own_m hZ hw 86) (own_m hZ hw 60) (own_m hZ hw 87) (by decide) (backOf (W := 0) (rmIc1L l Z a0 hw [] cs gS v1 k1 ch x0 h0 n0 Z0 V_env Od V1 hq ) hZ (own_g hw 87) (own_g hw 60) (by decide) (by decide)) (g := (mkF m 33 #[Rv v1, Iv ch, Iv 0, Iv 1] [(.int 1), (.int 0), (.int ch), (.ref v1)])) rfl (by rw [hml]; rfl) (argsL := [(.ref v1), (.int ch), (.int (0 : Int32)), (.int (1 : Int32))]) (rest := []) (lenOf own_pd359 rfl) rfl (own_z rfl) (hb hby d11_33) (fun _ _ => ⟨rfl, eh422, (by decide : 0 + 0 ≤ _), (by decide : 0 + 0 ≤ _)⟩)
  dsimp only [Pt.U, Pt.locs, Pt.cells, Pt.slots] at X423 l423 y423 z423 st423 hQ423
  subst l423 y423 z423
  obtain ⟨rfl, Nq423, eh423⟩ := hQ423
  have N423 := Fr.app N422 Nq423
  refine own_by (fun _ k => st422 _ (XS.istoreN X422.here hx rfl (hb hby d11_21) rfl (l' := #[Rv v1, Iv ch, Iv 0, Iv 1]) rfl (XS.iloadN X422.here hx rfl (hb hby d11_22) rfl (XS.iloadN X422.here hx rfl (hb hby d11_23) rfl (XS.icmpYes X422.here hx rfl (pc0 := 24) (pc' := 29) rfl (hb hby d11_24) rfl (tlt (by decide : (0 : Int32) < (1 : Int32))).1 (by decide) (by decide) (XS.aloadN X422.here hx rfl (hb hby d11_29) rfl rfl (XS.iloadN X422.here hx rfl (hb hby d11_30) rfl (XS.iloadN X422.here hx rfl (hb hby d11_31) rfl (XS.iloadN X422.here hx rfl (hb hby d11_32) rfl (st423 _ k)))))))))) ?_
  exact own_retI X423 hx hlk hret (hb hby d11_36) ⟨rfl, N423, eh423⟩ (by decide) (by decide)
def own_QrmSl1_L (h0 : Heap) (n0 : Nat) (v : Option Value) (h : Heap) (L : List Loc) : Prop := v = some (.int (1 : Int32)) ∧ Fr n0 L ∧ h = h0
theorem rmSl1_L (l : Launch) (Z : State) (a0 : Array Value) (hw : own_W a0 Z) (ws : List Jvm.Cond) (cs : Int32) (gS : Value) (a1 v1 : Addr) (k1 : ClassId) (vs : List Value) (h0 : Heap) (n0 : Nat) (Z0 : n0 ≤ h0.size) (V_env : own_Env Z cs gS) (Od : Old Z n0 h0) (E_a1 : Exa Z h0 a1 "java/lang/String") (F1 : Fld Z h0 a1 "java/lang/String" "value" "[B" (.ref v1)) (F2 : Fld Z h0 a1 "java/lang/String" "coder" "B" (.int (0 : Int32))) (V1 : Arv Z h0 v1 k1 .byte (1 : Int32) vs (.int (0 : Int32))) : own_Met l Z mn23 jdk_42_method_54_code 1 (some .int) ws (own_R 1 0 0 13) #[(.ref a1)] h0 (own_QrmSl1_L h0 n0) := by
  refine own_enter n0 (plainFor_of_name own_pn34) (fun m => ef_R_1 m a1 ) (fun p e s m below meth c s₁ hx hby hlk hml hret hown hnm hZ X0 e0 N0 => ?_)
  show own_Fin _ _ _ _ _ _ _ s₁ (mkF m 0 #[Rv a1] [])
  obtain ⟨T424, X424, e424, st424⟩ := getF X0 hx hZ hown (host := "") (Or.inl (own_g hw 26)) Via.refl e0 F1 (g := (mkF m 1 #[Rv a1] [(.ref a1)])) rfl rfl (hb hby d9_1)
  obtain ⟨cl425, Ar425, -, S425, M425, -, -⟩ := id V1
  refine own_by (fun _ k => XS.aloadN X0.here hx rfl (hb hby d9_0) rfl rfl (st424 _ (X424.arraylength hx (by rw [e424]; exact Ar425.1) (State.isArrayOf_alike hZ.alike Ar425.2.1) (g := (mkF m 4 #[Rv a1] [(.ref v1)])) rfl rfl (hb hby d9_4) _ k))) ?_
  rw [len_of S425 M425]
  show own_Fin _ _ _ _ _ _ _ T424 (mkF m 5 #[Rv a1] [(.int 1)])
  obtain ⟨cq426, kq426, q426a, q426b, q426c⟩ := isOf hZ e424 E_a1
  obtain ⟨_, _, ⟨T426, L426, k426, n426⟩, -, X426, ⟨Lc426, hQ426, l426, y426, z426⟩, st426⟩ := X424.virtualBack hx (y := mn18) (z := mn18) hown (own_m hZ hw 53) (own_m hZ hw 54) (notFace_of_selects (args := #[]) (own_m hZ hw 56)) (own_m hZ hw 56) (own_m hZ hw 55) (by decide) (backOf (W := 1) (rmCd0 l Z a0 hw [] cs gS a1 h0 n0 Z0 V_env Od F2) hZ (own_g hw 57) (own_g hw 8) (by decide) (by decide)) q426a q426c (g := (mkF m 6 #[Rv a1] [(.ref a1), (.int 1)])) rfl (by rw [hml]; rfl) (Steps.refl _) (argsL := []) (rest := [(.int (1 : Int32))]) (lenOf own_pd344 rfl) rfl (own_z rfl) (hb hby d9_6) (fun _ _ => ⟨rfl, e424, (by decide : 0 + 0 ≤ _), (by decide : 0 + 0 ≤ _)⟩)
  dsimp only [Pt.U, Pt.locs, Pt.cells, Pt.slots] at X426 l426 y426 z426 st426 hQ426
  subst l426 y426 z426
  obtain ⟨rfl, Nq426, eh426⟩ := hQ426
  have N426 := Fr.app N0 Nq426
  refine own_by (fun _ k => XS.aloadN X424.here hx rfl (hb hby d9_5) rfl rfl (st426.trans (XS.ishr X426.here hx rfl (hb hby d9_9) rfl k))) ?_
  show own_Fin _ _ _ _ _ _ _ T426 (mkF m 10 #[Rv a1] [(.int ((1 : Int32) >>> ((0 : Int32) &&& 31)))])
  rw [(by decide : ((1 : Int32) >>> ((0 : Int32) &&& 31)) = (1 : Int32))]
  show own_Fin _ _ _ _ _ _ _ T426 (mkF m 10 #[Rv a1] [(.int 1)])
  exact own_retI X426 hx hlk hret (hb hby d9_10) ⟨rfl, N426, eh426⟩ (by decide) (by decide)
def own_QrmI21L (ch : Int32) (x0 : Int32) (h0 : Heap) (n0 : Nat) (v : Option Value) (h : Heap) (L : List Loc) : Prop := v = some (.int (own_find (ch.toInt8.toInt32) [x0.toInt8.toInt32] (0 : Int32))) ∧ Fr n0 L ∧ h = h0
set_option maxRecDepth 65536 in
set_option maxHeartbeats 40000000 in
theorem rmI21L (l : Launch) (Z : State) (a0 : Array Value) (hw : own_W a0 Z) (ws : List Jvm.Cond) (cs : Int32) (gS : Value) (a1 : Addr) (v1 : Addr) (k1 : ClassId) (ch : Int32) (x0 : Int32) (h0 : Heap) (n0 : Nat) (Z0 : n0 ≤ h0.size) (V_env : own_Env Z cs gS) (Od : Old Z n0 h0) (E_a1 : Exa Z h0 a1 "java/lang/String") (F1 : Fld Z h0 a1 "java/lang/String" "value" "[B" (.ref v1)) (F2 : Fld Z h0 a1 "java/lang/String" "coder" "B" (.int (0 : Int32))) (V1 : Arv Z h0 v1 k1 .byte (1 : Int32) [(.int x0.toInt8.toInt32)] (.int (0 : Int32))) (hq : own_cq ch) : own_Met l Z mn24 jdk_42_method_80_code 3 (some .int) ws (own_R 2 0 0 32) #[(.ref a1), (.int ch), (.int (0 : Int32))] h0 (own_QrmI21L ch x0 h0 n0) := by
  refine own_enter n0 (plainFor_of_name own_pn34) (fun m => ef_RII_3 m a1 ch (0 : Int32) ) (fun p e s m below meth c s₁ hx hby hlk hml hret hown hnm hZ X0 e0 N0 => ?_)
  show own_Fin _ _ _ _ _ _ _ s₁ (mkF m 0 #[Rv a1, Iv ch, Iv 0] [])
  obtain ⟨cq427, kq427, q427a, q427b, q427c⟩ := isOf hZ e0 E_a1
  obtain ⟨_, _, ⟨T427, L427, k427, n427⟩, -, X427, ⟨Lc427, hQ427, l427, y427, z427⟩, st427⟩ := X0.virtualBack hx (y := mn17) (z := mn17) hown (own_m hZ hw 42) (own_m hZ hw 43) (notFace_of_selects (args := #[]) (own_m hZ hw 45)) (own_m hZ hw 45) (own_m hZ hw 44) (by decide) (backOf (W := 0) (rmIs0 l Z a0 hw [] cs gS a1 h0 n0 Z0 V_env Od F2) hZ (own_g hw 46) (own_g hw 8) (by decide) (by decide)) q427a q427c (g := (mkF m 1 #[Rv a1, Iv ch, Iv 0] [(.ref a1)])) rfl (by rw [hml]; rfl) (Steps.refl _) (argsL := []) (rest := []) (lenOf own_pd349 rfl) rfl (own_z rfl) (hb hby d7_1) (fun _ _ => ⟨rfl, e0, (by decide : 0 + 0 ≤ _), (by decide : 0 + 0 ≤ _)⟩)
  dsimp only [Pt.U, Pt.locs, Pt.cells, Pt.slots] at X427 l427 y427 z427 st427 hQ427
  subst l427 y427 z427
  obtain ⟨rfl, Nq427, eh427⟩ := hQ427
  have N427 := Fr.app N0 Nq427
  obtain ⟨T428, X428, e428, st428⟩ := getF X427 hx hZ hown (host := "") (Or.inl (own_g hw 26)) Via.refl eh427 F1 (g := (mkF m 8 #[Rv a1, Iv ch, Iv 0] [(.ref a1)])) rfl rfl (hb hby d7_8)
  obtain ⟨cq429, kq429, q429a, q429b, q429c⟩ := isOf hZ e428 E_a1
  obtain ⟨_, _, ⟨T429, L429, k429, n429⟩, -, X429, ⟨Lc429, hQ429, l429, y429, z429⟩, st429⟩ := X428.virtualBack hx (y := mn23) (z := mn23) hown (own_m hZ hw 48) (own_m hZ hw 49) (notFace_of_selects (args := #[]) (own_m hZ hw 51)) (own_m hZ hw 51) (own_m hZ hw 50) (by decide) (backOf (W := 3) (rmSl1_L l Z a0 hw [] cs gS a1 v1 k1 [(.int x0.toInt8.toInt32)] h0 n0 Z0 V_env Od E_a1 F1 F2 V1) hZ (own_g hw 52) (own_g hw 8) (by decide) (by decide)) q429a q429c (g := (mkF m 14 #[Rv a1, Iv ch, Iv 0] [(.ref a1), (.int 0), (.int ch), (.ref v1)])) rfl (by rw [hml]; rfl) (Steps.refl _) (argsL := []) (rest := [(.int (0 : Int32)), (.int ch), (.ref v1)]) (lenOf own_pd357 rfl) rfl (own_z rfl) (hb hby d7_14) (fun _ _ => ⟨rfl, e428, (by decide : 0 + 0 ≤ _), (by decide : 0 + 0 ≤ _)⟩)
  dsimp only [Pt.U, Pt.locs, Pt.cells, Pt.slots] at X429 l429 y429 z429 st429 hQ429
  subst l429 y429 z429
  obtain ⟨rfl, Nq429, eh429⟩ := hQ429
  have N429 := Fr.app N427 Nq429
  obtain ⟨_, _, ⟨T430, L430, k430, n430⟩, -, X430, ⟨Lc430, hQ430, l430, y430, z430⟩, st430⟩ := LawKit.callS X429 hx (y := mn22) hown (own_m hZ hw 58) (own_m hZ hw 59) (own_m hZ hw 60) (own_m hZ hw 61) (by decide) (backOf (W := 0) (rmIo1L l Z a0 hw [] cs gS v1 k1 ch x0 h0 n0 Z0 V_env Od V1 hq ) hZ (own_g hw 61) (own_g hw 60) (by decide) (by decide)) (g := (mkF m 17 #[Rv a1, Iv ch, Iv 0] [(.int 1), (.int 0), (.int ch), (.ref v1)])) rfl (by rw [hml]; rfl) (argsL := [(.ref v1), (.int ch), (.int (0 : Int32)), (.int (1 : Int32))]) (rest := []) (lenOf own_pd359 rfl) rfl (own_z rfl) (hb hby d7_17) (fun _ _ => ⟨rfl, eh429, (by decide : 0 + 0 ≤ _), (by decide : 0 + 0 ≤ _)⟩)
  dsimp only [Pt.U, Pt.locs, Pt.cells, Pt.slots] at X430 l430 y430 z430 st430 hQ430
  subst l430 y430 z430
  obtain ⟨rfl, Nq430, eh430⟩ := hQ430
  have N430 := Fr.app N429 Nq430
  refine own_by (fun _ k => XS.aloadN X0.here hx rfl (hb hby d7_0) rfl rfl (st427.trans (XS.ifNo X427.here hx rfl (hb hby d7_4) rfl ((if0 _ _).trans (feq (by decide : ¬ ((1 : Int32) = (0 : Int32)))).1) (XS.aloadN X427.here hx rfl (hb hby d7_7) rfl rfl (st428 _ (XS.iloadN X428.here hx rfl (hb hby d7_11) rfl (XS.iloadN X428.here hx rfl (hb hby d7_12) rfl (XS.aloadN X428.here hx rfl (hb hby d7_13) rfl rfl (st429.trans (st430 _ k)))))))))) ?_
  show own_Fin _ _ _ _ _ _ _ T430 (mkF m 20 #[Rv a1, Iv ch, Iv 0] [(.int (own_find (ch.toInt8.toInt32) [x0.toInt8.toInt32] (0 : Int32)))])
  refine own_by (fun _ k => XS.goto X430.here hx rfl (pc0 := 20) (pc' := 36) rfl (hb hby d7_20) (by decide) (by decide) k) ?_
  exact own_retI X430 hx hlk hret (hb hby d7_36) ⟨rfl, N430, eh430⟩ (by decide) (by decide)
def own_QrmIx1L (ch : Int32) (x0 : Int32) (h0 : Heap) (n0 : Nat) (v : Option Value) (h : Heap) (L : List Loc) : Prop := v = some (.int (own_find (ch.toInt8.toInt32) [x0.toInt8.toInt32] (0 : Int32))) ∧ Fr n0 L ∧ h = h0
theorem rmIx1L (l : Launch) (Z : State) (a0 : Array Value) (hw : own_W a0 Z) (ws : List Jvm.Cond) (cs : Int32) (gS : Value) (a1 : Addr) (v1 : Addr) (k1 : ClassId) (ch : Int32) (x0 : Int32) (h0 : Heap) (n0 : Nat) (Z0 : n0 ≤ h0.size) (V_env : own_Env Z cs gS) (Od : Old Z n0 h0) (E_a1 : Exa Z h0 a1 "java/lang/String") (F1 : Fld Z h0 a1 "java/lang/String" "value" "[B" (.ref v1)) (F2 : Fld Z h0 a1 "java/lang/String" "coder" "B" (.int (0 : Int32))) (V1 : Arv Z h0 v1 k1 .byte (1 : Int32) [(.int x0.toInt8.toInt32)] (.int (0 : Int32))) (hq : own_cq ch) : own_Met l Z mn25 jdk_42_method_79_code 2 (some .int) ws (own_R 3 0 0 46) #[(.ref a1), (.int ch)] h0 (own_QrmIx1L ch x0 h0 n0) := by
  refine own_enter n0 (plainFor_of_name own_pn34) (fun m => ef_RI_2 m a1 ch ) (fun p e s m below meth c s₁ hx hby hlk hml hret hown hnm hZ X0 e0 N0 => ?_)
  show own_Fin _ _ _ _ _ _ _ s₁ (mkF m 0 #[Rv a1, Iv ch] [])
  obtain ⟨cq431, kq431, q431a, q431b, q431c⟩ := isOf hZ e0 E_a1
  obtain ⟨_, _, ⟨T431, L431, k431, n431⟩, -, X431, ⟨Lc431, hQ431, l431, y431, z431⟩, st431⟩ := X0.virtualBack hx (y := mn24) (z := mn24) hown (own_m hZ hw 37) (own_m hZ hw 38) (notFace_of_selects (args := #[]) (own_m hZ hw 40)) (own_m hZ hw 40) (own_m hZ hw 39) (by decide) (backOf (W := 0) (rmI21L l Z a0 hw [] cs gS a1 v1 k1 ch x0 h0 n0 Z0 V_env Od E_a1 F1 F2 V1 hq ) hZ (own_g hw 41) (own_g hw 8) (by decide) (by decide)) q431a q431c (g := (mkF m 3 #[Rv a1, Iv ch] [(.int 0), (.int ch), (.ref a1)])) rfl (by rw [hml]; rfl) (Steps.refl _) (argsL := [(.int ch), (.int (0 : Int32))]) (rest := []) (lenOf own_pd327 rfl) rfl (own_z rfl) (hb hby d6_3) (fun _ _ => ⟨rfl, e0, (by decide : 0 + 0 ≤ _), (by decide : 0 + 0 ≤ _)⟩)
  dsimp only [Pt.U, Pt.locs, Pt.cells, Pt.slots] at X431 l431 y431 z431 st431 hQ431
  subst l431 y431 z431
  obtain ⟨rfl, Nq431, eh431⟩ := hQ431
  have N431 := Fr.app N0 Nq431
  refine own_by (fun _ k => XS.aloadN X0.here hx rfl (hb hby d6_0) rfl rfl (XS.iloadN X0.here hx rfl (hb hby d6_1) rfl (XS.iconst X0.here hx rfl (hb hby d6_2) (st431.trans k)))) ?_
  exact own_retI X431 hx hlk hret (hb hby d6_6) ⟨rfl, N431, eh431⟩ (by decide) (by decide)
def own_QIW1L (x0 : Int32) (h0 : Heap) (n0 : Nat) (v : Option Value) (h : Heap) (L : List Loc) : Prop := v = some (.int (own_iw (own_find ((42 : Int32).toInt8.toInt32) [x0.toInt8.toInt32] (0 : Int32)) (own_find ((63 : Int32).toInt8.toInt32) [x0.toInt8.toInt32] (0 : Int32)))) ∧ Fr n0 L ∧ h = h0
set_option maxRecDepth 65536 in
set_option maxHeartbeats 40000000 in
theorem rmIW1L (l : Launch) (Z : State) (a0 : Array Value) (hw : own_W a0 Z) (ws : List Jvm.Cond) (cs : Int32) (gS : Value) (a1 v1 : Addr) (k1 : ClassId) (x0 : Int32)  (h0 : Heap) (n0 : Nat) (Z0 : n0 ≤ h0.size) (V_env : own_Env Z cs gS) (Od : Old Z n0 h0) (E_a1 : Exa Z h0 a1 "java/lang/String") (F1 : Fld Z h0 a1 "java/lang/String" "value" "[B" (.ref v1)) (F2 : Fld Z h0 a1 "java/lang/String" "coder" "B" (.int (0 : Int32))) (V1 : Arv Z h0 v1 k1 .byte (1 : Int32) [(.int x0.toInt8.toInt32)] (.int (0 : Int32))) : own_Met l Z mn26 prog_17_method_3_code 1 (some .boolean) ws (own_R 4 0 0 59) #[(.ref a1)] h0 (own_QIW1L x0 h0 n0) := by
  refine own_enter n0 (plainFor_of_name own_pn367) (fun m => ef_R_1 m a1 ) (fun p e s m below meth c s₁ hx hby hlk hml hret hown hnm hZ X0 e0 N0 => ?_)
  show own_Fin _ _ _ _ _ _ _ s₁ (mkF m 0 #[Rv a1] [])
  obtain ⟨cq432, kq432, q432a, q432b, q432c⟩ := isOf hZ e0 E_a1
  obtain ⟨_, _, ⟨T432, L432, k432, n432⟩, -, X432, ⟨Lc432, hQ432, l432, y432, z432⟩, st432⟩ := X0.virtualBack hx (y := mn25) (z := mn25) hown (own_m hZ hw 32) (own_m hZ hw 33) (notFace_of_selects (args := #[]) (own_m hZ hw 35)) (own_m hZ hw 35) (own_m hZ hw 34) (by decide) (backOf (W := 0) (rmIx1L l Z a0 hw [] cs gS a1 v1 k1 (42 : Int32) x0 h0 n0 Z0 V_env Od E_a1 F1 F2 V1 ⟨by decide, by decide, by decide⟩ ) hZ (own_g hw 36) (own_g hw 8) (by decide) (by decide)) q432a q432c (g := (mkF m 3 #[Rv a1] [(.int 42), (.ref a1)])) rfl (by rw [hml]; rfl) (Steps.refl _) (argsL := [(.int (42 : Int32))]) (rest := []) (lenOf own_pd70 rfl) rfl (own_z rfl) (hb hby d5_3) (fun _ _ => ⟨rfl, e0, (by decide : 0 + 0 ≤ _), (by decide : 0 + 0 ≤ _)⟩)
  dsimp only [Pt.U, Pt.locs, Pt.cells, Pt.slots] at X432 l432 y432 z432 st432 hQ432
  subst l432 y432 z432
  obtain ⟨rfl, Nq432, eh432⟩ := hQ432
  have N432 := Fr.app N0 Nq432
  refine own_by (fun _ k => XS.aloadN X0.here hx rfl (hb hby d5_0) rfl rfl (XS.bipush X0.here hx rfl (hb hby d5_1) (st432.trans k))) ?_
  show own_Fin _ _ _ _ _ _ _ T432 (mkF m 6 #[Rv a1] [(.int (own_find ((42 : Int32).toInt8.toInt32) [x0.toInt8.toInt32] (0 : Int32)))])
  by_cases hc6_433 : (own_find ((42 : Int32).toInt8.toInt32) [x0.toInt8.toInt32] (0 : Int32)) < (0 : Int32)
  · show own_Fin _ _ _ _ _ _ _ T432 (mkF m 6 #[Rv a1] [(.int (own_find ((42 : Int32).toInt8.toInt32) [x0.toInt8.toInt32] (0 : Int32)))])
    obtain ⟨cq434, kq434, q434a, q434b, q434c⟩ := isOf hZ eh432 E_a1
    obtain ⟨_, _, ⟨T434, L434, k434, n434⟩, -, X434, ⟨Lc434, hQ434, l434, y434, z434⟩, st434⟩ := X432.virtualBack hx (y := mn25) (z := mn25) hown (own_m hZ hw 32) (own_m hZ hw 33) (notFace_of_selects (args := #[]) (own_m hZ hw 35)) (own_m hZ hw 35) (own_m hZ hw 34) (by decide) (backOf (W := 0) (rmIx1L l Z a0 hw [] cs gS a1 v1 k1 (63 : Int32) x0 h0 n0 Z0 V_env Od E_a1 F1 F2 V1 ⟨by decide, by decide, by decide⟩ ) hZ (own_g hw 36) (own_g hw 8) (by decide) (by decide)) q434a q434c (g := (mkF m 12 #[Rv a1] [(.int 63), (.ref a1)])) rfl (by rw [hml]; rfl) (Steps.refl _) (argsL := [(.int (63 : Int32))]) (rest := []) (lenOf own_pd70 rfl) rfl (own_z rfl) (hb hby d5_12) (fun _ _ => ⟨rfl, eh432, (by decide : 0 + 0 ≤ _), (by decide : 0 + 0 ≤ _)⟩)
    dsimp only [Pt.U, Pt.locs, Pt.cells, Pt.slots] at X434 l434 y434 z434 st434 hQ434
    subst l434 y434 z434
    obtain ⟨rfl, Nq434, eh434⟩ := hQ434
    have N434 := Fr.app N432 Nq434
    refine own_by (fun _ k => XS.ifNo X432.here hx rfl (hb hby d5_6) rfl ((if0 _ _).trans (tlt hc6_433).2.1) (XS.aloadN X432.here hx rfl (hb hby d5_9) rfl rfl (XS.bipush X432.here hx rfl (hb hby d5_10) (st434.trans k)))) ?_
    show own_Fin _ _ _ _ _ _ _ T434 (mkF m 15 #[Rv a1] [(.int (own_find ((63 : Int32).toInt8.toInt32) [x0.toInt8.toInt32] (0 : Int32)))])
    by_cases hc15_435 : (own_find ((63 : Int32).toInt8.toInt32) [x0.toInt8.toInt32] (0 : Int32)) < (0 : Int32)
    · show own_Fin _ _ _ _ _ _ _ T434 (mkF m 15 #[Rv a1] [(.int (own_find ((63 : Int32).toInt8.toInt32) [x0.toInt8.toInt32] (0 : Int32)))])
      refine own_by (fun _ k => XS.ifYes X434.here hx rfl (pc0 := 15) (pc' := 22) rfl (hb hby d5_15) rfl ((if0 _ _).trans (tlt hc15_435).1) (by decide) (by decide) (XS.iconst X434.here hx rfl (hb hby d5_22) k)) ?_
      exact own_retZ X434 hx hlk (t := .boolean) hret (by simp) (hb hby d5_23) ⟨own_vi (by show (0 : Int32) = _; first | (simp only [own_iw, if_neg V_env.2.2.2.2.1, if_pos hc6_433, if_pos hc15_435]; done) | (simp only [own_iw, if_neg V_env.2.2.2.2.1, if_pos hc6_433, if_pos hc15_435]; decide) | simp [own_iw, V_env.2.2.2.2.1, hc6_433, hc15_435]), N434, eh434⟩ (by decide) (by decide)
    · show own_Fin _ _ _ _ _ _ _ T434 (mkF m 15 #[Rv a1] [(.int (own_find ((63 : Int32).toInt8.toInt32) [x0.toInt8.toInt32] (0 : Int32)))])
      refine own_by (fun _ k => XS.ifNo X434.here hx rfl (hb hby d5_15) rfl ((if0 _ _).trans (flt hc15_435).1) (XS.iconst X434.here hx rfl (hb hby d5_18) (XS.goto X434.here hx rfl (pc0 := 19) (pc' := 23) rfl (hb hby d5_19) (by decide) (by decide) k))) ?_
      exact own_retZ X434 hx hlk (t := .boolean) hret (by simp) (hb hby d5_23) ⟨own_vi (by show (1 : Int32) = _; first | (simp only [own_iw, if_neg V_env.2.2.2.2.1, if_pos hc6_433, if_neg hc15_435]; done) | (simp only [own_iw, if_neg V_env.2.2.2.2.1, if_pos hc6_433, if_neg hc15_435]; decide) | simp [own_iw, V_env.2.2.2.2.1, hc6_433, hc15_435]), N434, eh434⟩ (by decide) (by decide)
  · show own_Fin _ _ _ _ _ _ _ T432 (mkF m 6 #[Rv a1] [(.int (own_find ((42 : Int32).toInt8.toInt32) [x0.toInt8.toInt32] (0 : Int32)))])
    refine own_by (fun _ k => XS.ifYes X432.here hx rfl (pc0 := 6) (pc' := 18) rfl (hb hby d5_6) rfl ((if0 _ _).trans (flt hc6_433).2.1) (by decide) (by decide) (XS.iconst X432.here hx rfl (hb hby d5_18) (XS.goto X432.here hx rfl (pc0 := 19) (pc' := 23) rfl (hb hby d5_19) (by decide) (by decide) k))) ?_
    exact own_retZ X432 hx hlk (t := .boolean) hret (by simp) (hb hby d5_23) ⟨own_vi (by show (1 : Int32) = _; first | (simp only [own_iw, if_neg V_env.2.2.2.2.1, if_neg hc6_433]; done) | (simp only [own_iw, if_neg V_env.2.2.2.2.1, if_neg hc6_433]; decide) | simp [own_iw, V_env.2.2.2.2.1, hc6_433]), N432, eh432⟩ (by decide) (by decide)
theorem d32_0 : decode jdk_52_method_6_code 0 = .ok (.aload_n 0, 1) := by decide +kernel
theorem d32_1 : decode jdk_52_method_6_code 1 = .ok (.arraylength, 1) := by decide +kernel
theorem d32_2 : decode jdk_52_method_6_code 2 = .ok (.iconst 1, 1) := by decide +kernel
theorem d32_3 : decode jdk_52_method_6_code 3 = .ok (.ishr, 1) := by decide +kernel
theorem d32_4 : decode jdk_52_method_6_code 4 = .ok (.ireturn, 1) := by decide +kernel
def own_QrmLu1 (h0 : Heap) (n0 : Nat) (v : Option Value) (h : Heap) (L : List Loc) : Prop := v = some (.int (1 : Int32)) ∧ Fr n0 L ∧ h = h0
theorem rmLu1 (l : Launch) (Z : State) (a0 : Array Value) (hw : own_W a0 Z) (ws : List Jvm.Cond) (v1 : Addr) (k1 : ClassId) (vs : List Value) (h0 : Heap) (n0 : Nat) (Z0 : n0 ≤ h0.size) (V1 : Arv Z h0 v1 k1 .byte (2 : Int32) vs (.int (0 : Int32))) : own_Met l Z mn28 jdk_52_method_6_code 1 (some .int) ws (own_R 0 0 0 0) #[(.ref v1)] h0 (own_QrmLu1 h0 n0) := by
  refine own_enter n0 (plainFor_of_name own_pn58) (fun m => ef_R_1 m v1 ) (fun p e s m below meth c s₁ hx hby hlk hml hret hown hnm hZ X0 e0 N0 => ?_)
  show own_Fin _ _ _ _ _ _ _ s₁ (mkF m 0 #[Rv v1] [])
  obtain ⟨cl436, Ar436, -, S436, M436, -, -⟩ := id V1
  refine own_by (fun _ k => XS.aloadN X0.here hx rfl (hb hby d32_0) rfl rfl (X0.arraylength hx (by rw [e0]; exact Ar436.1) (State.isArrayOf_alike hZ.alike Ar436.2.1) (g := (mkF m 1 #[Rv v1] [(.ref v1)])) rfl rfl (hb hby d32_1) _ k)) ?_
  rw [len_of S436 M436]
  show own_Fin _ _ _ _ _ _ _ s₁ (mkF m 2 #[Rv v1] [(.int 2)])
  refine own_by (fun _ k => XS.iconst X0.here hx rfl (hb hby d32_2) (XS.ishr X0.here hx rfl (hb hby d32_3) rfl k)) ?_
  show own_Fin _ _ _ _ _ _ _ s₁ (mkF m 4 #[Rv v1] [(.int ((2 : Int32) >>> ((1 : Int32) &&& 31)))])
  rw [(by decide : ((2 : Int32) >>> ((1 : Int32) &&& 31)) = (1 : Int32))]
  show own_Fin _ _ _ _ _ _ _ s₁ (mkF m 4 #[Rv v1] [(.int 1)])
  exact own_retI X0 hx hlk hret (hb hby d32_4) ⟨rfl, N0, e0⟩ (by decide) (by decide)
theorem own_pn412 : plainName "jdk/internal/util/Preconditions" = true := by first | (simp [plainName, overriddenIn]; done) | decide +kernel
theorem d34_0 : decode jdk_41_method_12_code 0 = .ok (.iload_n 0, 1) := by decide +kernel
theorem d34_1 : decode jdk_41_method_12_code 1 = .ok (.ifCond .lt 13, 3) := by decide +kernel
theorem d34_4 : decode jdk_41_method_12_code 4 = .ok (.iload_n 0, 1) := by decide +kernel
theorem d34_5 : decode jdk_41_method_12_code 5 = .ok (.iload_n 1, 1) := by decide +kernel
theorem d34_6 : decode jdk_41_method_12_code 6 = .ok (.if_icmp .gt 8, 3) := by decide +kernel
theorem d34_9 : decode jdk_41_method_12_code 9 = .ok (.iload_n 1, 1) := by decide +kernel
theorem d34_10 : decode jdk_41_method_12_code 10 = .ok (.iload_n 2, 1) := by decide +kernel
theorem d34_11 : decode jdk_41_method_12_code 11 = .ok (.if_icmp .le 11, 3) := by decide +kernel
theorem d34_22 : decode jdk_41_method_12_code 22 = .ok (.iload_n 0, 1) := by decide +kernel
theorem d34_23 : decode jdk_41_method_12_code 23 = .ok (.ireturn, 1) := by decide +kernel
theorem ef_IIIV_4 (m : MethodId) (x0 : Int32) (x1 : Int32) (x2 : Int32) (x3 : Value) (hx3 : x3.category = 1) : entryFrame m #[(.int x0), (.int x1), (.int x2), x3] 4 = mkF m 0 #[.val (.int x0), .val (.int x1), .val (.int x2), .val x3] [] := by first | (simp [entryFrame, mkF, argsToLocals, Value.category, hx3]; done) | rfl | (cases x3 <;> first | rfl | (simp [Value.category] at hx3; done))
def own_QrmCf1 (h0 : Heap) (n0 : Nat) (v : Option Value) (h : Heap) (L : List Loc) : Prop := v = some (.int (0 : Int32)) ∧ Fr n0 L ∧ h = h0
theorem rmCf1 (l : Launch) (Z : State) (a0 : Array Value) (hw : own_W a0 Z) (ws : List Jvm.Cond) (gS : Value) (h0 : Heap) (n0 : Nat) (Z0 : n0 ≤ h0.size) (hgS : gS.isRef = true) : own_Met l Z mn29 jdk_41_method_12_code 4 (some .int) ws (own_R 0 0 0 0) #[(.int (0 : Int32)), (.int (1 : Int32)), (.int (1 : Int32)), gS] h0 (own_QrmCf1 h0 n0) := by
  refine own_enter n0 (plainFor_of_name own_pn412) (fun m => ef_IIIV_4 m (0 : Int32) (1 : Int32) (1 : Int32) gS (by rcases ref_cases (by assumption : (gS).isRef = true) with h | ⟨_, h⟩ <;> rw [h] <;> rfl)) (fun p e s m below meth c s₁ hx hby hlk hml hret hown hnm hZ X0 e0 N0 => ?_)
  show own_Fin _ _ _ _ _ _ _ s₁ (mkF m 0 #[Iv 0, Iv 1, Iv 1, .val gS] [])
  refine own_by (fun _ k => XS.iloadN X0.here hx rfl (hb hby d34_0) rfl (XS.ifNo X0.here hx rfl (hb hby d34_1) rfl ((if0 _ _).trans (flt (by decide : ¬ ((0 : Int32) < (0 : Int32)))).1) (XS.iloadN X0.here hx rfl (hb hby d34_4) rfl (XS.iloadN X0.here hx rfl (hb hby d34_5) rfl (XS.icmpNo X0.here hx rfl (hb hby d34_6) rfl (flt (by decide : ¬ ((1 : Int32) < (0 : Int32)))).2.2.1 (XS.iloadN X0.here hx rfl (hb hby d34_9) rfl (XS.iloadN X0.here hx rfl (hb hby d34_10) rfl (XS.icmpYes X0.here hx rfl (pc0 := 11) (pc' := 22) rfl (hb hby d34_11) rfl (flt (by decide : ¬ ((1 : Int32) < (1 : Int32)))).2.2.2 (by decide) (by decide) (XS.iloadN X0.here hx rfl (hb hby d34_22) rfl k))))))))) ?_
  exact own_retI X0 hx hlk hret (hb hby d34_23) ⟨rfl, N0, e0⟩ (by decide) (by decide)
theorem d33_0 : decode jdk_42_method_158_code 0 = .ok (.iload_n 0, 1) := by decide +kernel
theorem d33_1 : decode jdk_42_method_158_code 1 = .ok (.iload_n 1, 1) := by decide +kernel
theorem d33_2 : decode jdk_42_method_158_code 2 = .ok (.iload_n 2, 1) := by decide +kernel
theorem d33_3 : decode jdk_42_method_158_code 3 = .ok (.getstatic 1053, 3) := by decide +kernel
theorem d33_6 : decode jdk_42_method_158_code 6 = .ok (.invokestatic 1062, 3) := by decide +kernel
theorem own_pd429 : parseMethodDescriptor "(IIILjava/util/function/BiFunction;)I" = some ⟨[.int, .int, .int, (.object "java/util/function/BiFunction")], some .int⟩ := by decide +kernel
theorem d33_9 : decode jdk_42_method_158_code 9 = .ok (.pop, 1) := by decide +kernel
theorem d33_10 : decode jdk_42_method_158_code 10 = .ok (.return_, 1) := by decide +kernel
theorem ef_III_3 (m : MethodId) (x0 : Int32) (x1 : Int32) (x2 : Int32) : entryFrame m #[(.int x0), (.int x1), (.int x2)] 3 = mkF m 0 #[.val (.int x0), .val (.int x1), .val (.int x2)] [] := by first | (simp [entryFrame, mkF, argsToLocals, Value.category]; done) | rfl
def own_QCb1 (h0 : Heap) (n0 : Nat) (v : Option Value) (h : Heap) (L : List Loc) : Prop := v = none ∧ Fr n0 L ∧ h = h0
theorem rmCb1 (l : Launch) (Z : State) (a0 : Array Value) (hw : own_W a0 Z) (ws : List Jvm.Cond) (cs : Int32) (gS : Value) (h0 : Heap) (n0 : Nat) (Z0 : n0 ≤ h0.size) (V_env : own_Env Z cs gS) (Od : Old Z n0 h0) : own_Met l Z mn30 jdk_42_method_158_code 3 none ws (own_R 1 0 0 15) #[(.int (0 : Int32)), (.int (1 : Int32)), (.int (1 : Int32))] h0 (own_QCb1 h0 n0) := by
  refine own_enter n0 (plainFor_of_name own_pn34) (fun m => ef_III_3 m (0 : Int32) (1 : Int32) (1 : Int32) ) (fun p e s m below meth c s₁ hx hby hlk hml hret hown hnm hZ X0 e0 N0 => ?_)
  show own_Fin _ _ _ _ _ _ _ s₁ (mkF m 0 #[Iv 0, Iv 1, Iv 1] [])
  have hgS : gS.isRef = true := V_env.2.2.2.2.2.2
  obtain ⟨T437, X437, e437, st437⟩ := getS2 X0 hx hZ hown (host := "") (Or.inl (own_g hw 138)) Via.refl e0 (V_env.2.2.2.2.2.1.ext Od.2) (g := (mkF m 3 #[Iv 0, Iv 1, Iv 1] [(.int 1), (.int 1), (.int 0)])) rfl (hb hby d33_3)
  obtain ⟨_, _, ⟨T438, L438, k438, n438⟩, -, X438, ⟨Lc438, hQ438, l438, y438, z438⟩, st438⟩ := LawKit.callS X437 hx (y := mn29) hown (own_m hZ hw 140) (own_m hZ hw 141) (own_m hZ hw 139) (own_m hZ hw 142) (by decide) (backOf (W := 0) (rmCf1 l Z a0 hw [] gS h0 n0 Z0 hgS) hZ (own_g hw 142) (own_g hw 139) (by decide) (by decide)) (g := (mkF m 6 #[Iv 0, Iv 1, Iv 1] [gS, (.int 1), (.int 1), (.int 0)])) rfl (by rw [hml]; rfl) (argsL := [(.int (0 : Int32)), (.int (1 : Int32)), (.int (1 : Int32)), gS]) (rest := []) (lenOf own_pd429 rfl) rfl (own_z rfl) (hb hby d33_6) (fun _ _ => ⟨rfl, e437, (by decide : 0 + 0 ≤ _), (by decide : 0 + 0 ≤ _)⟩)
  dsimp only [Pt.U, Pt.locs, Pt.cells, Pt.slots] at X438 l438 y438 z438 st438 hQ438
  subst l438 y438 z438
  obtain ⟨rfl, Nq438, eh438⟩ := hQ438
  have N438 := Fr.app N0 Nq438
  refine own_by (fun _ k => XS.iloadN X0.here hx rfl (hb hby d33_0) rfl (XS.iloadN X0.here hx rfl (hb hby d33_1) rfl (XS.iloadN X0.here hx rfl (hb hby d33_2) rfl (st437 _ (st438 _ (XS.pop X438.here hx rfl (hb hby d33_9) rfl rfl k)))))) ?_
  exact own_retV X438 hx hlk hret (hb hby d33_10) ⟨rfl, N438, eh438⟩ (by decide) (by decide)
theorem d31_0 : decode jdk_52_method_93_code 0 = .ok (.iload_n 0, 1) := by decide +kernel
theorem d31_1 : decode jdk_52_method_93_code 1 = .ok (.iload_n 1, 1) := by decide +kernel
theorem d31_2 : decode jdk_52_method_93_code 2 = .ok (.aload_n 2, 1) := by decide +kernel
theorem d31_3 : decode jdk_52_method_93_code 3 = .ok (.invokestatic 48, 3) := by decide +kernel
theorem own_pd437 : parseMethodDescriptor "([B)I" = some ⟨[(.array .byte)], some .int⟩ := by decide +kernel
theorem d31_6 : decode jdk_52_method_93_code 6 = .ok (.invokestatic 241, 3) := by decide +kernel
theorem own_pd439 : parseMethodDescriptor "(III)V" = some ⟨[.int, .int, .int], none⟩ := by decide +kernel
theorem d31_9 : decode jdk_52_method_93_code 9 = .ok (.return_, 1) := by decide +kernel
theorem ef_IIR_3 (m : MethodId) (x0 : Int32) (x1 : Int32) (x2 : Addr) : entryFrame m #[(.int x0), (.int x1), (.ref x2)] 3 = mkF m 0 #[.val (.int x0), .val (.int x1), .val (.ref x2)] [] := by first | (simp [entryFrame, mkF, argsToLocals, Value.category]; done) | rfl
theorem rmCu1 (l : Launch) (Z : State) (a0 : Array Value) (hw : own_W a0 Z) (ws : List Jvm.Cond) (cs : Int32) (gS : Value) (v1 : Addr) (k1 : ClassId) (vs : List Value) (h0 : Heap) (n0 : Nat) (Z0 : n0 ≤ h0.size) (V_env : own_Env Z cs gS) (Od : Old Z n0 h0) (V1 : Arv Z h0 v1 k1 .byte (2 : Int32) vs (.int (0 : Int32))) : own_Met l Z mn31 jdk_52_method_93_code 3 none ws (own_R 2 0 0 29) #[(.int (0 : Int32)), (.int (1 : Int32)), (.ref v1)] h0 (own_QCb1 h0 n0) := by
  refine own_enter n0 (plainFor_of_name own_pn58) (fun m => ef_IIR_3 m (0 : Int32) (1 : Int32) v1 ) (fun p e s m below meth c s₁ hx hby hlk hml hret hown hnm hZ X0 e0 N0 => ?_)
  show own_Fin _ _ _ _ _ _ _ s₁ (mkF m 0 #[Iv 0, Iv 1, Rv v1] [])
  obtain ⟨_, _, ⟨T439, L439, k439, n439⟩, -, X439, ⟨Lc439, hQ439, l439, y439, z439⟩, st439⟩ := LawKit.callS X0 hx (y := mn28) hown (own_m hZ hw 132) (own_m hZ hw 133) (own_m hZ hw 74) (own_m hZ hw 134) (by decide) (backOf (W := 2) (rmLu1 l Z a0 hw [] v1 k1 vs h0 n0 Z0 V1) hZ (own_g hw 134) (own_g hw 74) (by decide) (by decide)) (g := (mkF m 3 #[Iv 0, Iv 1, Rv v1] [(.ref v1), (.int 1), (.int 0)])) rfl (by rw [hml]; rfl) (argsL := [(.ref v1)]) (rest := [(.int (1 : Int32)), (.int (0 : Int32))]) (lenOf own_pd437 rfl) rfl (own_z rfl) (hb hby d31_3) (fun _ _ => ⟨rfl, e0, (by decide : 0 + 0 ≤ _), (by decide : 0 + 0 ≤ _)⟩)
  dsimp only [Pt.U, Pt.locs, Pt.cells, Pt.slots] at X439 l439 y439 z439 st439 hQ439
  subst l439 y439 z439
  obtain ⟨rfl, Nq439, eh439⟩ := hQ439
  have N439 := Fr.app N0 Nq439
  obtain ⟨_, _, ⟨T440, L440, k440, n440⟩, -, X440, ⟨Lc440, hQ440, l440, y440, z440⟩, st440⟩ := LawKit.callS X439 hx (y := mn30) hown (own_m hZ hw 135) (own_m hZ hw 136) (own_m hZ hw 8) (own_m hZ hw 137) (by decide) (backOf (W := 0) (rmCb1 l Z a0 hw [] cs gS h0 n0 Z0 V_env Od) hZ (own_g hw 137) (own_g hw 8) (by decide) (by decide)) (g := (mkF m 6 #[Iv 0, Iv 1, Rv v1] [(.int 1), (.int 1), (.int 0)])) rfl (by rw [hml]; rfl) (argsL := [(.int (0 : Int32)), (.int (1 : Int32)), (.int (1 : Int32))]) (rest := []) (lenOf own_pd439 rfl) rfl (own_z rfl) (hb hby d31_6) (fun _ _ => ⟨rfl, eh439, (by decide : 0 + 0 ≤ _), (by decide : 0 + 0 ≤ _)⟩)
  dsimp only [Pt.U, Pt.locs, Pt.cells, Pt.slots] at X440 l440 y440 z440 st440 hQ440
  subst l440 y440 z440
  obtain ⟨rfl, Nq440, eh440⟩ := hQ440
  have N440 := Fr.app N439 Nq440
  refine own_by (fun _ k => XS.iloadN X0.here hx rfl (hb hby d31_0) rfl (XS.iloadN X0.here hx rfl (hb hby d31_1) rfl (XS.aloadN X0.here hx rfl (hb hby d31_2) rfl rfl (st439 _ (st440 _ k))))) ?_
  exact own_retV X440 hx hlk hret (hb hby d31_9) ⟨rfl, N440, eh440⟩ (by decide) (by decide)
def own_QrmGC1_0 (x0 : Int32) (h0 : Heap) (n0 : Nat) (v : Option Value) (h : Heap) (L : List Loc) : Prop := v = some (.int x0) ∧ Fr n0 L ∧ h = h0
set_option maxRecDepth 65536 in
set_option maxHeartbeats 40000000 in
theorem rmGC1_0 (l : Launch) (Z : State) (a0 : Array Value) (hw : own_W a0 Z) (ws : List Jvm.Cond) (cs : Int32) (gS : Value) (a1 : Addr) (k1 : ClassId) (x0 : Int32) (h0 : Heap) (n0 : Nat) (Z0 : n0 ≤ h0.size) (V_env : own_Env Z cs gS) (Od : Old Z n0 h0) (V1 : Arv Z h0 a1 k1 .byte (2 : Int32) [(.int (own_lo x0)), (.int (own_hi x0))] (.int (0 : Int32))) (hch : own_ch x0) : own_Met l Z mn8 jdk_52_method_5_code 2 (some .char) ws (own_R 0 0 0 0) #[(.ref a1), (.int (0 : Int32))] h0 (own_QrmGC1_0 x0 h0 n0) := by
  refine own_enter n0 (plainFor_of_name own_pn58) (fun m => ef_RI_2 m a1 (0 : Int32) ) (fun p e s m below meth c s₁ hx hby hlk hml hret hown hnm hZ X0 e0 N0 => ?_)
  show own_Fin _ _ _ _ _ _ _ s₁ (mkF m 0 #[Rv a1, Iv 0] [])
  obtain ⟨T441, X441, e441, st441⟩ := getS2 X0 hx hZ hown (host := "") (Or.inl (own_g hw 114)) Via.refl e0 (V_env.1.ext Od.2) (g := (mkF m 0 #[Rv a1, Iv 0] [])) rfl (hb hby d28_0)
  refine own_by (fun _ k => st441 _ (XS.ifYes X441.here hx rfl (pc0 := 3) (pc' := 28) rfl (hb hby d28_3) rfl ((if0 _ _).trans (feq (by decide : ¬ ((1 : Int32) = (0 : Int32)))).2) (by decide) (by decide) (XS.iloadN X441.here hx rfl (hb hby d28_28) rfl (XS.iconst X441.here hx rfl (hb hby d28_29) (XS.ishl X441.here hx rfl (hb hby d28_30) rfl k))))) ?_
  show own_Fin _ _ _ _ _ _ _ T441 (mkF m 31 #[Rv a1, Iv 0] [(.int ((0 : Int32) <<< ((1 : Int32) &&& 31)))])
  rw [(by decide : ((0 : Int32) <<< ((1 : Int32) &&& 31)) = (0 : Int32))]
  show own_Fin _ _ _ _ _ _ _ T441 (mkF m 31 #[Rv a1, Iv 0] [(.int 0)])
  refine own_by (fun _ k => XS.istoreN X441.here hx rfl (hb hby d28_31) rfl (l' := #[Rv a1, Iv 0]) rfl (XS.aloadN X441.here hx rfl (hb hby d28_32) rfl rfl (XS.iloadN X441.here hx rfl (hb hby d28_33) rfl (XS.iinc X441.here hx rfl (hb hby d28_34) rfl (l' := #[Rv a1, Iv ((0 : Int32) + (1 : Int32))]) rfl k)))) ?_
  show own_Fin _ _ _ _ _ _ _ T441 (mkF m 37 #[Rv a1, Iv ((0 : Int32) + (1 : Int32))] [(.int 0), (.ref a1)])
  rw [(by decide : ((0 : Int32) + (1 : Int32)) = (1 : Int32))]
  show own_Fin _ _ _ _ _ _ _ T441 (mkF m 37 #[Rv a1, Iv 1] [(.int 0), (.ref a1)])
  obtain ⟨cl442, Ar442, -, S442, M442, H442, -⟩ := id V1
  have hin442 : ¬ ((0 : Int32) < 0 ∨ cl442.slots.size ≤ ((0 : Int32)).toNatClampNeg) := inb_of S442 ⟨by decide, by decide⟩
  have hat442 : cl442.slots[((0 : Int32)).toNatClampNeg]? = some (.int (own_lo x0)) := Has.at H442 hin442 rfl
  obtain ⟨T443, X443, e443, st443⟩ := getS2 X441 hx hZ hown (host := "") (Or.inl (own_g hw 115)) Via.refl e441 (V_env.2.1.ext Od.2) (g := (mkF m 42 #[Rv a1, Iv 1] [(.int ((own_lo x0) &&& (255 : Int32)))])) rfl (hb hby d28_42)
  obtain ⟨cl444, Ar444, -, S444, M444, H444, -⟩ := id V1
  have hin444 : ¬ ((1 : Int32) < 0 ∨ cl444.slots.size ≤ ((1 : Int32)).toNatClampNeg) := inb_of S444 ⟨by decide, by decide⟩
  have hat444 : cl444.slots[((1 : Int32)).toNatClampNeg]? = some (.int (own_hi x0)) := Has.at H444 hin444 rfl
  obtain ⟨T445, X445, e445, st445⟩ := getS2 X443 hx hZ hown (host := "") (Or.inl (own_g hw 116)) Via.refl e443 (V_env.2.2.1.ext Od.2) (g := (mkF m 53 #[Rv a1, Iv 1] [(.int ((own_hi x0) &&& (255 : Int32))), (.int (((own_lo x0) &&& (255 : Int32)) <<< ((0 : Int32) &&& 31)))])) rfl (hb hby d28_53)
  refine own_by (fun _ k => X441.baloadBytes hx (j := (0 : Int32)) (v := (.int (own_lo x0))) (by rw [e441]; exact Ar442.1) (State.isArrayOf_alike hZ.alike Ar442.2.1) Ar442.2.2 hin442 hat442 (g := (mkF m 37 #[Rv a1, Iv 1] [(.int 0), (.ref a1)])) rfl rfl (hb hby d28_37) _ (XS.sipush X441.here hx rfl (hb hby d28_38) (XS.iand X441.here hx rfl (hb hby d28_41) rfl (st443 _ (XS.ishl X443.here hx rfl (hb hby d28_45) rfl (XS.aloadN X443.here hx rfl (hb hby d28_46) rfl rfl (XS.iloadN X443.here hx rfl (hb hby d28_47) rfl (X443.baloadBytes hx (j := (1 : Int32)) (v := (.int (own_hi x0))) (by rw [e443]; exact Ar444.1) (State.isArrayOf_alike hZ.alike Ar444.2.1) Ar444.2.2 hin444 hat444 (g := (mkF m 48 #[Rv a1, Iv 1] [(.int 1), (.ref a1), (.int (((own_lo x0) &&& (255 : Int32)) <<< ((0 : Int32) &&& 31)))])) rfl rfl (hb hby d28_48) _ (XS.sipush X443.here hx rfl (hb hby d28_49) (XS.iand X443.here hx rfl (hb hby d28_52) rfl k)))))))))) ?_
  show own_Fin _ _ _ _ _ _ _ T443 (mkF m 53 #[Rv a1, Iv 1] [(.int ((own_hi x0) &&& (255 : Int32))), (.int (((own_lo x0) &&& (255 : Int32)) <<< ((0 : Int32) &&& 31)))])
  refine own_by (fun _ k => st445 _ (XS.ishl X445.here hx rfl (hb hby d28_56) rfl (XS.ior X445.here hx rfl (hb hby d28_57) rfl (XS.i2c X445.here hx rfl (hb hby d28_58) rfl k)))) ?_
  exact own_retZ X445 hx hlk (t := .char) hret (by simp) (hb hby d28_59) ⟨own_vi (own_u16 hch), N0, e445⟩ (by decide) (by decide)
theorem d35_0 : decode jdk_52_method_48_code 0 = .ok (.iload_n 2, 1) := by decide +kernel
theorem d35_1 : decode jdk_52_method_48_code 1 = .ok (.istore 4, 2) := by decide +kernel
theorem d35_3 : decode jdk_52_method_48_code 3 = .ok (.iload 4, 2) := by decide +kernel
theorem d35_5 : decode jdk_52_method_48_code 5 = .ok (.iload_n 3, 1) := by decide +kernel
theorem d35_6 : decode jdk_52_method_48_code 6 = .ok (.if_icmp .ge 22, 3) := by decide +kernel
theorem d35_9 : decode jdk_52_method_48_code 9 = .ok (.aload_n 0, 1) := by decide +kernel
theorem d35_10 : decode jdk_52_method_48_code 10 = .ok (.iload 4, 2) := by decide +kernel
theorem d35_12 : decode jdk_52_method_48_code 12 = .ok (.invokestatic 71, 3) := by decide +kernel
theorem d35_15 : decode jdk_52_method_48_code 15 = .ok (.iload_n 1, 1) := by decide +kernel
theorem d35_16 : decode jdk_52_method_48_code 16 = .ok (.if_icmp .ne 6, 3) := by decide +kernel
theorem d35_19 : decode jdk_52_method_48_code 19 = .ok (.iload 4, 2) := by decide +kernel
theorem d35_21 : decode jdk_52_method_48_code 21 = .ok (.ireturn, 1) := by decide +kernel
theorem d35_22 : decode jdk_52_method_48_code 22 = .ok (.iinc 4 1, 3) := by decide +kernel
theorem d35_25 : decode jdk_52_method_48_code 25 = .ok (.goto (-22), 3) := by decide +kernel
theorem d35_28 : decode jdk_52_method_48_code 28 = .ok (.iconst (-1), 1) := by decide +kernel
theorem d35_29 : decode jdk_52_method_48_code 29 = .ok (.ireturn, 1) := by decide +kernel
theorem ef_RIII_5 (m : MethodId) (x0 : Addr) (x1 : Int32) (x2 : Int32) (x3 : Int32) : entryFrame m #[(.ref x0), (.int x1), (.int x2), (.int x3)] 5 = mkF m 0 #[.val (.ref x0), .val (.int x1), .val (.int x2), .val (.int x3), .unset] [] := by first | (simp [entryFrame, mkF, argsToLocals, Value.category]; done) | rfl
def own_QrmIn1U (ch : Int32) (x0 : Int32) (h0 : Heap) (n0 : Nat) (v : Option Value) (h : Heap) (L : List Loc) : Prop := v = some (.int (own_find ch [x0] (0 : Int32))) ∧ Fr n0 L ∧ h = h0
set_option maxRecDepth 65536 in
set_option maxHeartbeats 40000000 in
theorem rmIn1U (l : Launch) (Z : State) (a0 : Array Value) (hw : own_W a0 Z) (ws : List Jvm.Cond) (cs : Int32) (gS : Value) (v1 : Addr) (k1 : ClassId) (ch : Int32) (x0 : Int32) (h0 : Heap) (n0 : Nat) (Z0 : n0 ≤ h0.size) (V_env : own_Env Z cs gS) (Od : Old Z n0 h0) (V1 : Arv Z h0 v1 k1 .byte (2 : Int32) [(.int (own_lo x0)), (.int (own_hi x0))] (.int (0 : Int32))) (hq : own_cq ch) (hx0 : own_ch x0) : own_Met l Z mn32 jdk_52_method_48_code 5 (some .int) ws (own_R 1 0 0 13) #[(.ref v1), (.int ch), (.int (0 : Int32)), (.int (1 : Int32))] h0 (own_QrmIn1U ch x0 h0 n0) := by
  refine own_enter n0 (plainFor_of_name own_pn58) (fun m => ef_RIII_5 m v1 ch (0 : Int32) (1 : Int32) ) (fun p e s m below meth c s₁ hx hby hlk hml hret hown hnm hZ X0 e0 N0 => ?_)
  show own_Fin _ _ _ _ _ _ _ s₁ (mkF m 0 #[Rv v1, Iv ch, Iv 0, Iv 1, Uv] [])
  obtain ⟨_, _, ⟨T446, L446, k446, n446⟩, -, X446, ⟨Lc446, hQ446, l446, y446, z446⟩, st446⟩ := LawKit.callS X0 hx (y := mn8) hown (own_m hZ hw 117) (own_m hZ hw 118) (own_m hZ hw 74) (own_m hZ hw 119) (by decide) (backOf (W := 0) (rmGC1_0 l Z a0 hw [] cs gS v1 k1 x0 h0 n0 Z0 V_env Od V1 hx0) hZ (own_g hw 119) (own_g hw 74) (by decide) (by decide)) (g := (mkF m 12 #[Rv v1, Iv ch, Iv 0, Iv 1, Iv 0] [(.int 0), (.ref v1)])) rfl (by rw [hml]; rfl) (argsL := [(.ref v1), (.int (0 : Int32))]) (rest := []) (lenOf own_pd195 rfl) rfl (own_z rfl) (hb hby d35_12) (fun _ _ => ⟨rfl, e0, (by decide : 0 + 0 ≤ _), (by decide : 0 + 0 ≤ _)⟩)
  dsimp only [Pt.U, Pt.locs, Pt.cells, Pt.slots] at X446 l446 y446 z446 st446 hQ446
  subst l446 y446 z446
  obtain ⟨rfl, Nq446, eh446⟩ := hQ446
  have N446 := Fr.app N0 Nq446
  refine own_by (fun _ k => XS.iloadN X0.here hx rfl (hb hby d35_0) rfl (XS.istore X0.here hx rfl (hb hby d35_1) rfl (l' := #[Rv v1, Iv ch, Iv 0, Iv 1, Iv 0]) rfl (XS.iload X0.here hx rfl (hb hby d35_3) rfl (XS.iloadN X0.here hx rfl (hb hby d35_5) rfl (XS.icmpNo X0.here hx rfl (hb hby d35_6) rfl (tlt (by decide : (0 : Int32) < (1 : Int32))).2.1 (XS.aloadN X0.here hx rfl (hb hby d35_9) rfl rfl (XS.iload X0.here hx rfl (hb hby d35_10) rfl (st446 _ (XS.iloadN X446.here hx rfl (hb hby d35_15) rfl k))))))))) ?_
  show own_Fin _ _ _ _ _ _ _ T446 (mkF m 16 #[Rv v1, Iv ch, Iv 0, Iv 1, Iv 0] [(.int ch), (.int x0)])
  by_cases hc16_447 : x0 = ch
  · show own_Fin _ _ _ _ _ _ _ T446 (mkF m 16 #[Rv v1, Iv ch, Iv 0, Iv 1, Iv 0] [(.int ch), (.int x0)])
    refine own_by (fun _ k => XS.icmpNo X446.here hx rfl (hb hby d35_16) rfl (teq hc16_447).2 (XS.iload X446.here hx rfl (hb hby d35_19) rfl k)) ?_
    exact own_retI X446 hx hlk hret (hb hby d35_21) ⟨own_vi (by show (0 : Int32) = _; first | (simp only [own_find, if_neg V_env.2.2.2.2.1, if_neg hq.1, if_neg hq.2.1, if_pos hq.2.2, if_pos hc16_447]; done) | (simp only [own_find, if_neg V_env.2.2.2.2.1, if_neg hq.1, if_neg hq.2.1, if_pos hq.2.2, if_pos hc16_447]; decide) | simp [own_find, V_env.2.2.2.2.1, hq.1, hq.2.1, hq.2.2, hc16_447]), N446, eh446⟩ (by decide) (by decide)
  · show own_Fin _ _ _ _ _ _ _ T446 (mkF m 16 #[Rv v1, Iv ch, Iv 0, Iv 1, Iv 0] [(.int ch), (.int x0)])
    refine own_by (fun _ k => XS.icmpYes X446.here hx rfl (pc0 := 16) (pc' := 22) rfl (hb hby d35_16) rfl (feq hc16_447).2 (by decide) (by decide) (XS.iinc X446.here hx rfl (hb hby d35_22) rfl (l' := #[Rv v1, Iv ch, Iv 0, Iv 1, Iv ((0 : Int32) + (1 : Int32))]) rfl k)) ?_
    show own_Fin _ _ _ _ _ _ _ T446 (mkF m 25 #[Rv v1, Iv ch, Iv 0, Iv 1, Iv ((0 : Int32) + (1 : Int32))] [])
    rw [(by decide : ((0 : Int32) + (1 : Int32)) = (1 : Int32))]
    show own_Fin _ _ _ _ _ _ _ T446 (mkF m 25 #[Rv v1, Iv ch, Iv 0, Iv 1, Iv 1] [])
    refine own_by (fun _ k => XS.goto X446.here hx rfl (pc0 := 25) (pc' := 3) rfl (hb hby d35_25) (by decide) (by decide) (XS.iload X446.here hx rfl (hb hby d35_3) rfl (XS.iloadN X446.here hx rfl (hb hby d35_5) rfl (XS.icmpYes X446.here hx rfl (pc0 := 6) (pc' := 28) rfl (hb hby d35_6) rfl (flt (by decide : ¬ ((1 : Int32) < (1 : Int32)))).2.1 (by decide) (by decide) (XS.iconst X446.here hx rfl (hb hby d35_28) k))))) ?_
    exact own_retI X446 hx hlk hret (hb hby d35_29) ⟨own_vi (by show (-1 : Int32) = _; first | (simp only [own_find, if_neg V_env.2.2.2.2.1, if_neg hq.1, if_neg hq.2.1, if_pos hq.2.2, if_neg hc16_447]; done) | (simp only [own_find, if_neg V_env.2.2.2.2.1, if_neg hq.1, if_neg hq.2.1, if_pos hq.2.2, if_neg hc16_447]; decide) | simp [own_find, V_env.2.2.2.2.1, hq.1, hq.2.1, hq.2.2, hc16_447]), N446, eh446⟩ (by decide) (by decide)
theorem d30_0 : decode jdk_52_method_47_code 0 = .ok (.iload_n 2, 1) := by decide +kernel
theorem d30_1 : decode jdk_52_method_47_code 1 = .ok (.iload_n 3, 1) := by decide +kernel
theorem d30_2 : decode jdk_52_method_47_code 2 = .ok (.aload_n 0, 1) := by decide +kernel
theorem d30_3 : decode jdk_52_method_47_code 3 = .ok (.invokestatic 96, 3) := by decide +kernel
theorem own_pd462 : parseMethodDescriptor "(II[B)V" = some ⟨[.int, .int, (.array .byte)], none⟩ := by decide +kernel
theorem d30_6 : decode jdk_52_method_47_code 6 = .ok (.aload_n 0, 1) := by decide +kernel
theorem d30_7 : decode jdk_52_method_47_code 7 = .ok (.iload_n 1, 1) := by decide +kernel
theorem d30_8 : decode jdk_52_method_47_code 8 = .ok (.iload_n 2, 1) := by decide +kernel
theorem d30_9 : decode jdk_52_method_47_code 9 = .ok (.iload_n 3, 1) := by decide +kernel
theorem d30_10 : decode jdk_52_method_47_code 10 = .ok (.invokestatic 244, 3) := by decide +kernel
theorem d30_13 : decode jdk_52_method_47_code 13 = .ok (.ireturn, 1) := by decide +kernel
def own_QrmIc1U (ch : Int32) (x0 : Int32) (h0 : Heap) (n0 : Nat) (v : Option Value) (h : Heap) (L : List Loc) : Prop := v = some (.int (own_find ch [x0] (0 : Int32))) ∧ Fr n0 L ∧ h = h0
theorem rmIc1U (l : Launch) (Z : State) (a0 : Array Value) (hw : own_W a0 Z) (ws : List Jvm.Cond) (cs : Int32) (gS : Value) (v1 : Addr) (k1 : ClassId) (ch : Int32) (x0 : Int32) (h0 : Heap) (n0 : Nat) (Z0 : n0 ≤ h0.size) (V_env : own_Env Z cs gS) (Od : Old Z n0 h0) (V1 : Arv Z h0 v1 k1 .byte (2 : Int32) [(.int (own_lo x0)), (.int (own_hi x0))] (.int (0 : Int32))) (hq : own_cq ch) (hx0 : own_ch x0) : own_Met l Z mn33 jdk_52_method_47_code 4 (some .int) ws (own_R 3 0 0 43) #[(.ref v1), (.int ch), (.int (0 : Int32)), (.int (1 : Int32))] h0 (own_QrmIc1U ch x0 h0 n0) := by
  refine own_enter n0 (plainFor_of_name own_pn58) (fun m => ef_RIII_4 m v1 ch (0 : Int32) (1 : Int32) ) (fun p e s m below meth c s₁ hx hby hlk hml hret hown hnm hZ X0 e0 N0 => ?_)
  show own_Fin _ _ _ _ _ _ _ s₁ (mkF m 0 #[Rv v1, Iv ch, Iv 0, Iv 1] [])
  obtain ⟨_, _, ⟨T448, L448, k448, n448⟩, -, X448, ⟨Lc448, hQ448, l448, y448, z448⟩, st448⟩ := LawKit.callS X0 hx (y := mn31) hown (own_m hZ hw 129) (own_m hZ hw 130) (own_m hZ hw 74) (own_m hZ hw 131) (by decide) (backOf (W := 0) (rmCu1 l Z a0 hw [] cs gS v1 k1 [(.int (own_lo x0)), (.int (own_hi x0))] h0 n0 Z0 V_env Od V1) hZ (own_g hw 131) (own_g hw 74) (by decide) (by decide)) (g := (mkF m 3 #[Rv v1, Iv ch, Iv 0, Iv 1] [(.ref v1), (.int 1), (.int 0)])) rfl (by rw [hml]; rfl) (argsL := [(.int (0 : Int32)), (.int (1 : Int32)), (.ref v1)]) (rest := []) (lenOf own_pd462 rfl) rfl (own_z rfl) (hb hby d30_3) (fun _ _ => ⟨rfl, e0, (by decide : 0 + 0 ≤ _), (by decide : 0 + 0 ≤ _)⟩)
  dsimp only [Pt.U, Pt.locs, Pt.cells, Pt.slots] at X448 l448 y448 z448 st448 hQ448
  subst l448 y448 z448
  obtain ⟨rfl, Nq448, eh448⟩ := hQ448
  have N448 := Fr.app N0 Nq448
  obtain ⟨_, _, ⟨T449, L449, k449, n449⟩, -, X449, ⟨Lc449, hQ449, l449, y449, z449⟩, st449⟩ := LawKit.callS X448 hx (y := mn32) hown (own_m hZ hw 143) (own_m hZ hw 144) (own_m hZ hw 74) (own_m hZ hw 145) (by decide) (backOf (W := 0) (rmIn1U l Z a0 hw [] cs gS v1 k1 ch x0 h0 n0 Z0 V_env Od V1 hq hx0) hZ (own_g hw 145) (own_g hw 74) (by decide) (by decide)) (g := (mkF m 10 #[Rv v1, Iv ch, Iv 0, Iv 1] [(.int 1), (.int 0), (.int ch), (.ref v1)])) rfl (by rw [hml]; rfl) (argsL := [(.ref v1), (.int ch), (.int (0 : Int32)), (.int (1 : Int32))]) (rest := []) (lenOf own_pd359 rfl) rfl (own_z rfl) (hb hby d30_10) (fun _ _ => ⟨rfl, eh448, (by decide : 0 + 0 ≤ _), (by decide : 0 + 0 ≤ _)⟩)
  dsimp only [Pt.U, Pt.locs, Pt.cells, Pt.slots] at X449 l449 y449 z449 st449 hQ449
  subst l449 y449 z449
  obtain ⟨rfl, Nq449, eh449⟩ := hQ449
  have N449 := Fr.app N448 Nq449
  refine own_by (fun _ k => XS.iloadN X0.here hx rfl (hb hby d30_0) rfl (XS.iloadN X0.here hx rfl (hb hby d30_1) rfl (XS.aloadN X0.here hx rfl (hb hby d30_2) rfl rfl (st448 _ (XS.aloadN X448.here hx rfl (hb hby d30_6) rfl rfl (XS.iloadN X448.here hx rfl (hb hby d30_7) rfl (XS.iloadN X448.here hx rfl (hb hby d30_8) rfl (XS.iloadN X448.here hx rfl (hb hby d30_9) rfl (st449 _ k))))))))) ?_
  exact own_retI X449 hx hlk hret (hb hby d30_13) ⟨rfl, N449, eh449⟩ (by decide) (by decide)
theorem d29_0 : decode jdk_52_method_40_code 0 = .ok (.iload_n 2, 1) := by decide +kernel
theorem d29_1 : decode jdk_52_method_40_code 1 = .ok (.iconst 0, 1) := by decide +kernel
theorem d29_2 : decode jdk_52_method_40_code 2 = .ok (.invokestatic 224, 3) := by decide +kernel
theorem d29_5 : decode jdk_52_method_40_code 5 = .ok (.istore_n 2, 1) := by decide +kernel
theorem d29_6 : decode jdk_52_method_40_code 6 = .ok (.iload_n 3, 1) := by decide +kernel
theorem d29_7 : decode jdk_52_method_40_code 7 = .ok (.aload_n 0, 1) := by decide +kernel
theorem d29_8 : decode jdk_52_method_40_code 8 = .ok (.arraylength, 1) := by decide +kernel
theorem d29_9 : decode jdk_52_method_40_code 9 = .ok (.iconst 1, 1) := by decide +kernel
theorem d29_10 : decode jdk_52_method_40_code 10 = .ok (.ishr, 1) := by decide +kernel
theorem d29_11 : decode jdk_52_method_40_code 11 = .ok (.invokestatic 183, 3) := by decide +kernel
theorem d29_14 : decode jdk_52_method_40_code 14 = .ok (.istore_n 3, 1) := by decide +kernel
theorem d29_15 : decode jdk_52_method_40_code 15 = .ok (.iload_n 2, 1) := by decide +kernel
theorem d29_16 : decode jdk_52_method_40_code 16 = .ok (.iload_n 3, 1) := by decide +kernel
theorem d29_17 : decode jdk_52_method_40_code 17 = .ok (.if_icmp .lt 5, 3) := by decide +kernel
theorem d29_22 : decode jdk_52_method_40_code 22 = .ok (.iload_n 1, 1) := by decide +kernel
theorem d29_23 : decode jdk_52_method_40_code 23 = .ok (.ldc 227, 2) := by decide +kernel
theorem d29_25 : decode jdk_52_method_40_code 25 = .ok (.if_icmp .ge 11, 3) := by decide +kernel
theorem d29_28 : decode jdk_52_method_40_code 28 = .ok (.aload_n 0, 1) := by decide +kernel
theorem d29_29 : decode jdk_52_method_40_code 29 = .ok (.iload_n 1, 1) := by decide +kernel
theorem d29_30 : decode jdk_52_method_40_code 30 = .ok (.iload_n 2, 1) := by decide +kernel
theorem d29_31 : decode jdk_52_method_40_code 31 = .ok (.iload_n 3, 1) := by decide +kernel
theorem d29_32 : decode jdk_52_method_40_code 32 = .ok (.invokestatic 228, 3) := by decide +kernel
theorem d29_35 : decode jdk_52_method_40_code 35 = .ok (.ireturn, 1) := by decide +kernel
def own_QrmIo1U (ch : Int32) (x0 : Int32) (h0 : Heap) (n0 : Nat) (v : Option Value) (h : Heap) (L : List Loc) : Prop := v = some (.int (own_find ch [x0] (0 : Int32))) ∧ Fr n0 L ∧ h = h0
set_option maxRecDepth 65536 in
set_option maxHeartbeats 40000000 in
theorem rmIo1U (l : Launch) (Z : State) (a0 : Array Value) (hw : own_W a0 Z) (ws : List Jvm.Cond) (cs : Int32) (gS : Value) (v1 : Addr) (k1 : ClassId) (ch : Int32) (x0 : Int32) (h0 : Heap) (n0 : Nat) (Z0 : n0 ≤ h0.size) (V_env : own_Env Z cs gS) (Od : Old Z n0 h0) (V1 : Arv Z h0 v1 k1 .byte (2 : Int32) [(.int (own_lo x0)), (.int (own_hi x0))] (.int (0 : Int32))) (hq : own_cq ch) (hx0 : own_ch x0) : own_Met l Z mn34 jdk_52_method_40_code 4 (some .int) ws (own_R 4 0 0 58) #[(.ref v1), (.int ch), (.int (0 : Int32)), (.int (1 : Int32))] h0 (own_QrmIo1U ch x0 h0 n0) := by
  refine own_enter n0 (plainFor_of_name own_pn58) (fun m => ef_RIII_4 m v1 ch (0 : Int32) (1 : Int32) ) (fun p e s m below meth c s₁ hx hby hlk hml hret hown hnm hZ X0 e0 N0 => ?_)
  show own_Fin _ _ _ _ _ _ _ s₁ (mkF m 0 #[Rv v1, Iv ch, Iv 0, Iv 1] [])
  obtain ⟨_, _, ⟨T450, L450, k450, n450⟩, -, X450, ⟨Lc450, hQ450, l450, y450, z450⟩, st450⟩ := LawKit.callS X0 hx (y := mn20) hown (own_m hZ hw 123) (own_m hZ hw 66) (own_m hZ hw 67) (own_m hZ hw 68) (by decide) (backOf (W := 0) (rmmax_0_0 l Z a0 hw []  h0 n0 Z0 ) hZ (own_g hw 68) (own_g hw 67) (by decide) (by decide)) (g := (mkF m 2 #[Rv v1, Iv ch, Iv 0, Iv 1] [(.int 0), (.int 0)])) rfl (by rw [hml]; rfl) (argsL := [(.int (0 : Int32)), (.int (0 : Int32))]) (rest := []) (lenOf own_pd327 rfl) rfl (own_z rfl) (hb hby d29_2) (fun _ _ => ⟨rfl, e0, (by decide : 0 + 0 ≤ _), (by decide : 0 + 0 ≤ _)⟩)
  dsimp only [Pt.U, Pt.locs, Pt.cells, Pt.slots] at X450 l450 y450 z450 st450 hQ450
  subst l450 y450 z450
  obtain ⟨rfl, Nq450, eh450⟩ := hQ450
  have N450 := Fr.app N0 Nq450
  obtain ⟨cl451, Ar451, -, S451, M451, -, -⟩ := id V1
  refine own_by (fun _ k => XS.iloadN X0.here hx rfl (hb hby d29_0) rfl (XS.iconst X0.here hx rfl (hb hby d29_1) (st450 _ (XS.istoreN X450.here hx rfl (hb hby d29_5) rfl (l' := #[Rv v1, Iv ch, Iv 0, Iv 1]) rfl (XS.iloadN X450.here hx rfl (hb hby d29_6) rfl (XS.aloadN X450.here hx rfl (hb hby d29_7) rfl rfl (X450.arraylength hx (by rw [eh450]; exact Ar451.1) (State.isArrayOf_alike hZ.alike Ar451.2.1) (g := (mkF m 8 #[Rv v1, Iv ch, Iv 0, Iv 1] [(.ref v1), (.int 1)])) rfl rfl (hb hby d29_8) _ k))))))) ?_
  rw [len_of S451 M451]
  show own_Fin _ _ _ _ _ _ _ T450 (mkF m 9 #[Rv v1, Iv ch, Iv 0, Iv 1] [(.int 2), (.int 1)])
  refine own_by (fun _ k => XS.iconst X450.here hx rfl (hb hby d29_9) (XS.ishr X450.here hx rfl (hb hby d29_10) rfl k)) ?_
  show own_Fin _ _ _ _ _ _ _ T450 (mkF m 11 #[Rv v1, Iv ch, Iv 0, Iv 1] [(.int ((2 : Int32) >>> ((1 : Int32) &&& 31))), (.int 1)])
  rw [(by decide : ((2 : Int32) >>> ((1 : Int32) &&& 31)) = (1 : Int32))]
  show own_Fin _ _ _ _ _ _ _ T450 (mkF m 11 #[Rv v1, Iv ch, Iv 0, Iv 1] [(.int 1), (.int 1)])
  obtain ⟨_, _, ⟨T452, L452, k452, n452⟩, -, X452, ⟨Lc452, hQ452, l452, y452, z452⟩, st452⟩ := LawKit.callS X450 hx (y := mn21) hown (own_m hZ hw 124) (own_m hZ hw 70) (own_m hZ hw 67) (own_m hZ hw 71) (by decide) (backOf (W := 0) (rmmin_1_1 l Z a0 hw []  h0 n0 Z0 ) hZ (own_g hw 71) (own_g hw 67) (by decide) (by decide)) (g := (mkF m 11 #[Rv v1, Iv ch, Iv 0, Iv 1] [(.int 1), (.int 1)])) rfl (by rw [hml]; rfl) (argsL := [(.int (1 : Int32)), (.int (1 : Int32))]) (rest := []) (lenOf own_pd327 rfl) rfl (own_z rfl) (hb hby d29_11) (fun _ _ => ⟨rfl, eh450, (by decide : 0 + 0 ≤ _), (by decide : 0 + 0 ≤ _)⟩)
  dsimp only [Pt.U, Pt.locs, Pt.cells, Pt.slots] at X452 l452 y452 z452 st452 hQ452
  subst l452 y452 z452
  obtain ⟨rfl, Nq452, eh452⟩ := hQ452
  have N452 := Fr.app N450 Nq452
  refine own_by (fun _ k => st452 _ (XS.istoreN X452.here hx rfl (hb hby d29_14) rfl (l' := #[Rv v1, Iv ch, Iv 0, Iv 1]) rfl (XS.iloadN X452.here hx rfl (hb hby d29_15) rfl (XS.iloadN X452.here hx rfl (hb hby d29_16) rfl (XS.icmpYes X452.here hx rfl (pc0 := 17) (pc' := 22) rfl (hb hby d29_17) rfl (tlt (by decide : (0 : Int32) < (1 : Int32))).1 (by decide) (by decide) (XS.iloadN X452.here hx rfl (hb hby d29_22) rfl (X452.ldcInt hx hown (own_m hZ hw 125) (g := (mkF m 23 #[Rv v1, Iv ch, Iv 0, Iv 1] [(.int ch)])) rfl (hb hby d29_23) _ (XS.icmpNo X452.here hx rfl (hb hby d29_25) rfl (tlt hq.2.2).2.1 (XS.aloadN X452.here hx rfl (hb hby d29_28) rfl rfl (XS.iloadN X452.here hx rfl (hb hby d29_29) rfl k)))))))))) ?_
  show own_Fin _ _ _ _ _ _ _ T452 (mkF m 30 #[Rv v1, Iv ch, Iv 0, Iv 1] [(.int ch), (.ref v1)])
  obtain ⟨_, _, ⟨T453, L453, k453, n453⟩, -, X453, ⟨Lc453, hQ453, l453, y453, z453⟩, st453⟩ := LawKit.callS X452 hx (y := mn33) hown (own_m hZ hw 126) (own_m hZ hw 127) (own_m hZ hw 74) (own_m hZ hw 128) (by decide) (backOf (W := 0) (rmIc1U l Z a0 hw [] cs gS v1 k1 ch x0 h0 n0 Z0 V_env Od V1 hq hx0) hZ (own_g hw 128) (own_g hw 74) (by decide) (by decide)) (g := (mkF m 32 #[Rv v1, Iv ch, Iv 0, Iv 1] [(.int 1), (.int 0), (.int ch), (.ref v1)])) rfl (by rw [hml]; rfl) (argsL := [(.ref v1), (.int ch), (.int (0 : Int32)), (.int (1 : Int32))]) (rest := []) (lenOf own_pd359 rfl) rfl (own_z rfl) (hb hby d29_32) (fun _ _ => ⟨rfl, eh452, (by decide : 0 + 0 ≤ _), (by decide : 0 + 0 ≤ _)⟩)
  dsimp only [Pt.U, Pt.locs, Pt.cells, Pt.slots] at X453 l453 y453 z453 st453 hQ453
  subst l453 y453 z453
  obtain ⟨rfl, Nq453, eh453⟩ := hQ453
  have N453 := Fr.app N452 Nq453
  refine own_by (fun _ k => XS.iloadN X452.here hx rfl (hb hby d29_30) rfl (XS.iloadN X452.here hx rfl (hb hby d29_31) rfl (st453 _ k))) ?_
  exact own_retI X453 hx hlk hret (hb hby d29_35) ⟨rfl, N453, eh453⟩ (by decide) (by decide)
def own_QrmSl1_U (h0 : Heap) (n0 : Nat) (v : Option Value) (h : Heap) (L : List Loc) : Prop := v = some (.int (1 : Int32)) ∧ Fr n0 L ∧ h = h0
theorem rmSl1_U (l : Launch) (Z : State) (a0 : Array Value) (hw : own_W a0 Z) (ws : List Jvm.Cond) (cs : Int32) (gS : Value) (a1 v1 : Addr) (k1 : ClassId) (vs : List Value) (h0 : Heap) (n0 : Nat) (Z0 : n0 ≤ h0.size) (V_env : own_Env Z cs gS) (Od : Old Z n0 h0) (E_a1 : Exa Z h0 a1 "java/lang/String") (F1 : Fld Z h0 a1 "java/lang/String" "value" "[B" (.ref v1)) (F2 : Fld Z h0 a1 "java/lang/String" "coder" "B" (.int (1 : Int32))) (V1 : Arv Z h0 v1 k1 .byte (2 : Int32) vs (.int (0 : Int32))) : own_Met l Z mn23 jdk_42_method_54_code 1 (some .int) ws (own_R 1 0 0 13) #[(.ref a1)] h0 (own_QrmSl1_U h0 n0) := by
  refine own_enter n0 (plainFor_of_name own_pn34) (fun m => ef_R_1 m a1 ) (fun p e s m below meth c s₁ hx hby hlk hml hret hown hnm hZ X0 e0 N0 => ?_)
  show own_Fin _ _ _ _ _ _ _ s₁ (mkF m 0 #[Rv a1] [])
  obtain ⟨T454, X454, e454, st454⟩ := getF X0 hx hZ hown (host := "") (Or.inl (own_g hw 26)) Via.refl e0 F1 (g := (mkF m 1 #[Rv a1] [(.ref a1)])) rfl rfl (hb hby d9_1)
  obtain ⟨cl455, Ar455, -, S455, M455, -, -⟩ := id V1
  refine own_by (fun _ k => XS.aloadN X0.here hx rfl (hb hby d9_0) rfl rfl (st454 _ (X454.arraylength hx (by rw [e454]; exact Ar455.1) (State.isArrayOf_alike hZ.alike Ar455.2.1) (g := (mkF m 4 #[Rv a1] [(.ref v1)])) rfl rfl (hb hby d9_4) _ k))) ?_
  rw [len_of S455 M455]
  show own_Fin _ _ _ _ _ _ _ T454 (mkF m 5 #[Rv a1] [(.int 2)])
  obtain ⟨cq456, kq456, q456a, q456b, q456c⟩ := isOf hZ e454 E_a1
  obtain ⟨_, _, ⟨T456, L456, k456, n456⟩, -, X456, ⟨Lc456, hQ456, l456, y456, z456⟩, st456⟩ := X454.virtualBack hx (y := mn18) (z := mn18) hown (own_m hZ hw 53) (own_m hZ hw 54) (notFace_of_selects (args := #[]) (own_m hZ hw 56)) (own_m hZ hw 56) (own_m hZ hw 55) (by decide) (backOf (W := 1) (rmCd1 l Z a0 hw [] cs gS a1 h0 n0 Z0 V_env Od F2) hZ (own_g hw 57) (own_g hw 8) (by decide) (by decide)) q456a q456c (g := (mkF m 6 #[Rv a1] [(.ref a1), (.int 2)])) rfl (by rw [hml]; rfl) (Steps.refl _) (argsL := []) (rest := [(.int (2 : Int32))]) (lenOf own_pd344 rfl) rfl (own_z rfl) (hb hby d9_6) (fun _ _ => ⟨rfl, e454, (by decide : 0 + 0 ≤ _), (by decide : 0 + 0 ≤ _)⟩)
  dsimp only [Pt.U, Pt.locs, Pt.cells, Pt.slots] at X456 l456 y456 z456 st456 hQ456
  subst l456 y456 z456
  obtain ⟨rfl, Nq456, eh456⟩ := hQ456
  have N456 := Fr.app N0 Nq456
  refine own_by (fun _ k => XS.aloadN X454.here hx rfl (hb hby d9_5) rfl rfl (st456.trans (XS.ishr X456.here hx rfl (hb hby d9_9) rfl k))) ?_
  show own_Fin _ _ _ _ _ _ _ T456 (mkF m 10 #[Rv a1] [(.int ((2 : Int32) >>> ((1 : Int32) &&& 31)))])
  rw [(by decide : ((2 : Int32) >>> ((1 : Int32) &&& 31)) = (1 : Int32))]
  show own_Fin _ _ _ _ _ _ _ T456 (mkF m 10 #[Rv a1] [(.int 1)])
  exact own_retI X456 hx hlk hret (hb hby d9_10) ⟨rfl, N456, eh456⟩ (by decide) (by decide)
theorem d7_23 : decode jdk_42_method_80_code 23 = .ok (.aload_n 0, 1) := by decide +kernel
theorem d7_24 : decode jdk_42_method_80_code 24 = .ok (.getfield 9, 3) := by decide +kernel
theorem d7_27 : decode jdk_42_method_80_code 27 = .ok (.iload_n 1, 1) := by decide +kernel
theorem d7_28 : decode jdk_42_method_80_code 28 = .ok (.iload_n 2, 1) := by decide +kernel
theorem d7_29 : decode jdk_42_method_80_code 29 = .ok (.aload_n 0, 1) := by decide +kernel
theorem d7_30 : decode jdk_42_method_80_code 30 = .ok (.invokevirtual 505, 3) := by decide +kernel
theorem d7_33 : decode jdk_42_method_80_code 33 = .ok (.invokestatic 640, 3) := by decide +kernel
def own_QrmI21U (ch : Int32) (x0 : Int32) (h0 : Heap) (n0 : Nat) (v : Option Value) (h : Heap) (L : List Loc) : Prop := v = some (.int (own_find ch [x0] (0 : Int32))) ∧ Fr n0 L ∧ h = h0
set_option maxRecDepth 65536 in
set_option maxHeartbeats 40000000 in
theorem rmI21U (l : Launch) (Z : State) (a0 : Array Value) (hw : own_W a0 Z) (ws : List Jvm.Cond) (cs : Int32) (gS : Value) (a1 : Addr) (v1 : Addr) (k1 : ClassId) (ch : Int32) (x0 : Int32) (h0 : Heap) (n0 : Nat) (Z0 : n0 ≤ h0.size) (V_env : own_Env Z cs gS) (Od : Old Z n0 h0) (E_a1 : Exa Z h0 a1 "java/lang/String") (F1 : Fld Z h0 a1 "java/lang/String" "value" "[B" (.ref v1)) (F2 : Fld Z h0 a1 "java/lang/String" "coder" "B" (.int (1 : Int32))) (V1 : Arv Z h0 v1 k1 .byte (2 : Int32) [(.int (own_lo x0)), (.int (own_hi x0))] (.int (0 : Int32))) (hq : own_cq ch) (hx0 : own_ch x0) : own_Met l Z mn24 jdk_42_method_80_code 3 (some .int) ws (own_R 5 0 0 73) #[(.ref a1), (.int ch), (.int (0 : Int32))] h0 (own_QrmI21U ch x0 h0 n0) := by
  refine own_enter n0 (plainFor_of_name own_pn34) (fun m => ef_RII_3 m a1 ch (0 : Int32) ) (fun p e s m below meth c s₁ hx hby hlk hml hret hown hnm hZ X0 e0 N0 => ?_)
  show own_Fin _ _ _ _ _ _ _ s₁ (mkF m 0 #[Rv a1, Iv ch, Iv 0] [])
  obtain ⟨cq457, kq457, q457a, q457b, q457c⟩ := isOf hZ e0 E_a1
  obtain ⟨_, _, ⟨T457, L457, k457, n457⟩, -, X457, ⟨Lc457, hQ457, l457, y457, z457⟩, st457⟩ := X0.virtualBack hx (y := mn17) (z := mn17) hown (own_m hZ hw 42) (own_m hZ hw 43) (notFace_of_selects (args := #[]) (own_m hZ hw 45)) (own_m hZ hw 45) (own_m hZ hw 44) (by decide) (backOf (W := 0) (rmIs1 l Z a0 hw [] cs gS a1 h0 n0 Z0 V_env Od F2) hZ (own_g hw 46) (own_g hw 8) (by decide) (by decide)) q457a q457c (g := (mkF m 1 #[Rv a1, Iv ch, Iv 0] [(.ref a1)])) rfl (by rw [hml]; rfl) (Steps.refl _) (argsL := []) (rest := []) (lenOf own_pd349 rfl) rfl (own_z rfl) (hb hby d7_1) (fun _ _ => ⟨rfl, e0, (by decide : 0 + 0 ≤ _), (by decide : 0 + 0 ≤ _)⟩)
  dsimp only [Pt.U, Pt.locs, Pt.cells, Pt.slots] at X457 l457 y457 z457 st457 hQ457
  subst l457 y457 z457
  obtain ⟨rfl, Nq457, eh457⟩ := hQ457
  have N457 := Fr.app N0 Nq457
  obtain ⟨T458, X458, e458, st458⟩ := getF X457 hx hZ hown (host := "") (Or.inl (own_g hw 26)) Via.refl eh457 F1 (g := (mkF m 24 #[Rv a1, Iv ch, Iv 0] [(.ref a1)])) rfl rfl (hb hby d7_24)
  obtain ⟨cq459, kq459, q459a, q459b, q459c⟩ := isOf hZ e458 E_a1
  obtain ⟨_, _, ⟨T459, L459, k459, n459⟩, -, X459, ⟨Lc459, hQ459, l459, y459, z459⟩, st459⟩ := X458.virtualBack hx (y := mn23) (z := mn23) hown (own_m hZ hw 48) (own_m hZ hw 49) (notFace_of_selects (args := #[]) (own_m hZ hw 51)) (own_m hZ hw 51) (own_m hZ hw 50) (by decide) (backOf (W := 3) (rmSl1_U l Z a0 hw [] cs gS a1 v1 k1 [(.int (own_lo x0)), (.int (own_hi x0))] h0 n0 Z0 V_env Od E_a1 F1 F2 V1) hZ (own_g hw 52) (own_g hw 8) (by decide) (by decide)) q459a q459c (g := (mkF m 30 #[Rv a1, Iv ch, Iv 0] [(.ref a1), (.int 0), (.int ch), (.ref v1)])) rfl (by rw [hml]; rfl) (Steps.refl _) (argsL := []) (rest := [(.int (0 : Int32)), (.int ch), (.ref v1)]) (lenOf own_pd357 rfl) rfl (own_z rfl) (hb hby d7_30) (fun _ _ => ⟨rfl, e458, (by decide : 0 + 0 ≤ _), (by decide : 0 + 0 ≤ _)⟩)
  dsimp only [Pt.U, Pt.locs, Pt.cells, Pt.slots] at X459 l459 y459 z459 st459 hQ459
  subst l459 y459 z459
  obtain ⟨rfl, Nq459, eh459⟩ := hQ459
  have N459 := Fr.app N457 Nq459
  obtain ⟨_, _, ⟨T460, L460, k460, n460⟩, -, X460, ⟨Lc460, hQ460, l460, y460, z460⟩, st460⟩ := LawKit.callS X459 hx (y := mn34) hown (own_m hZ hw 120) (own_m hZ hw 121) (own_m hZ hw 74) (own_m hZ hw 122) (by decide) (backOf (W := 0) (rmIo1U l Z a0 hw [] cs gS v1 k1 ch x0 h0 n0 Z0 V_env Od V1 hq hx0) hZ (own_g hw 122) (own_g hw 74) (by decide) (by decide)) (g := (mkF m 33 #[Rv a1, Iv ch, Iv 0] [(.int 1), (.int 0), (.int ch), (.ref v1)])) rfl (by rw [hml]; rfl) (argsL := [(.ref v1), (.int ch), (.int (0 : Int32)), (.int (1 : Int32))]) (rest := []) (lenOf own_pd359 rfl) rfl (own_z rfl) (hb hby d7_33) (fun _ _ => ⟨rfl, eh459, (by decide : 0 + 0 ≤ _), (by decide : 0 + 0 ≤ _)⟩)
  dsimp only [Pt.U, Pt.locs, Pt.cells, Pt.slots] at X460 l460 y460 z460 st460 hQ460
  subst l460 y460 z460
  obtain ⟨rfl, Nq460, eh460⟩ := hQ460
  have N460 := Fr.app N459 Nq460
  refine own_by (fun _ k => XS.aloadN X0.here hx rfl (hb hby d7_0) rfl rfl (st457.trans (XS.ifYes X457.here hx rfl (pc0 := 4) (pc' := 23) rfl (hb hby d7_4) rfl ((if0 _ _).trans (teq (by decide : (0 : Int32) = (0 : Int32))).1) (by decide) (by decide) (XS.aloadN X457.here hx rfl (hb hby d7_23) rfl rfl (st458 _ (XS.iloadN X458.here hx rfl (hb hby d7_27) rfl (XS.iloadN X458.here hx rfl (hb hby d7_28) rfl (XS.aloadN X458.here hx rfl (hb hby d7_29) rfl rfl (st459.trans (st460 _ k)))))))))) ?_
  exact own_retI X460 hx hlk hret (hb hby d7_36) ⟨rfl, N460, eh460⟩ (by decide) (by decide)
def own_QrmIx1U (ch : Int32) (x0 : Int32) (h0 : Heap) (n0 : Nat) (v : Option Value) (h : Heap) (L : List Loc) : Prop := v = some (.int (own_find ch [x0] (0 : Int32))) ∧ Fr n0 L ∧ h = h0
theorem rmIx1U (l : Launch) (Z : State) (a0 : Array Value) (hw : own_W a0 Z) (ws : List Jvm.Cond) (cs : Int32) (gS : Value) (a1 : Addr) (v1 : Addr) (k1 : ClassId) (ch : Int32) (x0 : Int32) (h0 : Heap) (n0 : Nat) (Z0 : n0 ≤ h0.size) (V_env : own_Env Z cs gS) (Od : Old Z n0 h0) (E_a1 : Exa Z h0 a1 "java/lang/String") (F1 : Fld Z h0 a1 "java/lang/String" "value" "[B" (.ref v1)) (F2 : Fld Z h0 a1 "java/lang/String" "coder" "B" (.int (1 : Int32))) (V1 : Arv Z h0 v1 k1 .byte (2 : Int32) [(.int (own_lo x0)), (.int (own_hi x0))] (.int (0 : Int32))) (hq : own_cq ch) (hx0 : own_ch x0) : own_Met l Z mn25 jdk_42_method_79_code 2 (some .int) ws (own_R 6 0 0 87) #[(.ref a1), (.int ch)] h0 (own_QrmIx1U ch x0 h0 n0) := by
  refine own_enter n0 (plainFor_of_name own_pn34) (fun m => ef_RI_2 m a1 ch ) (fun p e s m below meth c s₁ hx hby hlk hml hret hown hnm hZ X0 e0 N0 => ?_)
  show own_Fin _ _ _ _ _ _ _ s₁ (mkF m 0 #[Rv a1, Iv ch] [])
  obtain ⟨cq461, kq461, q461a, q461b, q461c⟩ := isOf hZ e0 E_a1
  obtain ⟨_, _, ⟨T461, L461, k461, n461⟩, -, X461, ⟨Lc461, hQ461, l461, y461, z461⟩, st461⟩ := X0.virtualBack hx (y := mn24) (z := mn24) hown (own_m hZ hw 37) (own_m hZ hw 38) (notFace_of_selects (args := #[]) (own_m hZ hw 40)) (own_m hZ hw 40) (own_m hZ hw 39) (by decide) (backOf (W := 0) (rmI21U l Z a0 hw [] cs gS a1 v1 k1 ch x0 h0 n0 Z0 V_env Od E_a1 F1 F2 V1 hq hx0) hZ (own_g hw 41) (own_g hw 8) (by decide) (by decide)) q461a q461c (g := (mkF m 3 #[Rv a1, Iv ch] [(.int 0), (.int ch), (.ref a1)])) rfl (by rw [hml]; rfl) (Steps.refl _) (argsL := [(.int ch), (.int (0 : Int32))]) (rest := []) (lenOf own_pd327 rfl) rfl (own_z rfl) (hb hby d6_3) (fun _ _ => ⟨rfl, e0, (by decide : 0 + 0 ≤ _), (by decide : 0 + 0 ≤ _)⟩)
  dsimp only [Pt.U, Pt.locs, Pt.cells, Pt.slots] at X461 l461 y461 z461 st461 hQ461
  subst l461 y461 z461
  obtain ⟨rfl, Nq461, eh461⟩ := hQ461
  have N461 := Fr.app N0 Nq461
  refine own_by (fun _ k => XS.aloadN X0.here hx rfl (hb hby d6_0) rfl rfl (XS.iloadN X0.here hx rfl (hb hby d6_1) rfl (XS.iconst X0.here hx rfl (hb hby d6_2) (st461.trans k)))) ?_
  exact own_retI X461 hx hlk hret (hb hby d6_6) ⟨rfl, N461, eh461⟩ (by decide) (by decide)
def own_QIW1U (x0 : Int32) (h0 : Heap) (n0 : Nat) (v : Option Value) (h : Heap) (L : List Loc) : Prop := v = some (.int (own_iw (own_find (42 : Int32) [x0] (0 : Int32)) (own_find (63 : Int32) [x0] (0 : Int32)))) ∧ Fr n0 L ∧ h = h0
set_option maxRecDepth 65536 in
set_option maxHeartbeats 40000000 in
theorem rmIW1U (l : Launch) (Z : State) (a0 : Array Value) (hw : own_W a0 Z) (ws : List Jvm.Cond) (cs : Int32) (gS : Value) (a1 v1 : Addr) (k1 : ClassId) (x0 : Int32)  (h0 : Heap) (n0 : Nat) (Z0 : n0 ≤ h0.size) (V_env : own_Env Z cs gS) (Od : Old Z n0 h0) (E_a1 : Exa Z h0 a1 "java/lang/String") (F1 : Fld Z h0 a1 "java/lang/String" "value" "[B" (.ref v1)) (F2 : Fld Z h0 a1 "java/lang/String" "coder" "B" (.int (1 : Int32))) (V1 : Arv Z h0 v1 k1 .byte (2 : Int32) [(.int (own_lo x0)), (.int (own_hi x0))] (.int (0 : Int32))) (hx0 : own_ch x0) : own_Met l Z mn26 prog_17_method_3_code 1 (some .boolean) ws (own_R 7 0 0 100) #[(.ref a1)] h0 (own_QIW1U x0 h0 n0) := by
  refine own_enter n0 (plainFor_of_name own_pn367) (fun m => ef_R_1 m a1 ) (fun p e s m below meth c s₁ hx hby hlk hml hret hown hnm hZ X0 e0 N0 => ?_)
  show own_Fin _ _ _ _ _ _ _ s₁ (mkF m 0 #[Rv a1] [])
  obtain ⟨cq462, kq462, q462a, q462b, q462c⟩ := isOf hZ e0 E_a1
  obtain ⟨_, _, ⟨T462, L462, k462, n462⟩, -, X462, ⟨Lc462, hQ462, l462, y462, z462⟩, st462⟩ := X0.virtualBack hx (y := mn25) (z := mn25) hown (own_m hZ hw 32) (own_m hZ hw 33) (notFace_of_selects (args := #[]) (own_m hZ hw 35)) (own_m hZ hw 35) (own_m hZ hw 34) (by decide) (backOf (W := 0) (rmIx1U l Z a0 hw [] cs gS a1 v1 k1 (42 : Int32) x0 h0 n0 Z0 V_env Od E_a1 F1 F2 V1 ⟨by decide, by decide, by decide⟩ hx0) hZ (own_g hw 36) (own_g hw 8) (by decide) (by decide)) q462a q462c (g := (mkF m 3 #[Rv a1] [(.int 42), (.ref a1)])) rfl (by rw [hml]; rfl) (Steps.refl _) (argsL := [(.int (42 : Int32))]) (rest := []) (lenOf own_pd70 rfl) rfl (own_z rfl) (hb hby d5_3) (fun _ _ => ⟨rfl, e0, (by decide : 0 + 0 ≤ _), (by decide : 0 + 0 ≤ _)⟩)
  dsimp only [Pt.U, Pt.locs, Pt.cells, Pt.slots] at X462 l462 y462 z462 st462 hQ462
  subst l462 y462 z462
  obtain ⟨rfl, Nq462, eh462⟩ := hQ462
  have N462 := Fr.app N0 Nq462
  refine own_by (fun _ k => XS.aloadN X0.here hx rfl (hb hby d5_0) rfl rfl (XS.bipush X0.here hx rfl (hb hby d5_1) (st462.trans k))) ?_
  show own_Fin _ _ _ _ _ _ _ T462 (mkF m 6 #[Rv a1] [(.int (own_find (42 : Int32) [x0] (0 : Int32)))])
  by_cases hc6_463 : (own_find (42 : Int32) [x0] (0 : Int32)) < (0 : Int32)
  · show own_Fin _ _ _ _ _ _ _ T462 (mkF m 6 #[Rv a1] [(.int (own_find (42 : Int32) [x0] (0 : Int32)))])
    obtain ⟨cq464, kq464, q464a, q464b, q464c⟩ := isOf hZ eh462 E_a1
    obtain ⟨_, _, ⟨T464, L464, k464, n464⟩, -, X464, ⟨Lc464, hQ464, l464, y464, z464⟩, st464⟩ := X462.virtualBack hx (y := mn25) (z := mn25) hown (own_m hZ hw 32) (own_m hZ hw 33) (notFace_of_selects (args := #[]) (own_m hZ hw 35)) (own_m hZ hw 35) (own_m hZ hw 34) (by decide) (backOf (W := 0) (rmIx1U l Z a0 hw [] cs gS a1 v1 k1 (63 : Int32) x0 h0 n0 Z0 V_env Od E_a1 F1 F2 V1 ⟨by decide, by decide, by decide⟩ hx0) hZ (own_g hw 36) (own_g hw 8) (by decide) (by decide)) q464a q464c (g := (mkF m 12 #[Rv a1] [(.int 63), (.ref a1)])) rfl (by rw [hml]; rfl) (Steps.refl _) (argsL := [(.int (63 : Int32))]) (rest := []) (lenOf own_pd70 rfl) rfl (own_z rfl) (hb hby d5_12) (fun _ _ => ⟨rfl, eh462, (by decide : 0 + 0 ≤ _), (by decide : 0 + 0 ≤ _)⟩)
    dsimp only [Pt.U, Pt.locs, Pt.cells, Pt.slots] at X464 l464 y464 z464 st464 hQ464
    subst l464 y464 z464
    obtain ⟨rfl, Nq464, eh464⟩ := hQ464
    have N464 := Fr.app N462 Nq464
    refine own_by (fun _ k => XS.ifNo X462.here hx rfl (hb hby d5_6) rfl ((if0 _ _).trans (tlt hc6_463).2.1) (XS.aloadN X462.here hx rfl (hb hby d5_9) rfl rfl (XS.bipush X462.here hx rfl (hb hby d5_10) (st464.trans k)))) ?_
    show own_Fin _ _ _ _ _ _ _ T464 (mkF m 15 #[Rv a1] [(.int (own_find (63 : Int32) [x0] (0 : Int32)))])
    by_cases hc15_465 : (own_find (63 : Int32) [x0] (0 : Int32)) < (0 : Int32)
    · show own_Fin _ _ _ _ _ _ _ T464 (mkF m 15 #[Rv a1] [(.int (own_find (63 : Int32) [x0] (0 : Int32)))])
      refine own_by (fun _ k => XS.ifYes X464.here hx rfl (pc0 := 15) (pc' := 22) rfl (hb hby d5_15) rfl ((if0 _ _).trans (tlt hc15_465).1) (by decide) (by decide) (XS.iconst X464.here hx rfl (hb hby d5_22) k)) ?_
      exact own_retZ X464 hx hlk (t := .boolean) hret (by simp) (hb hby d5_23) ⟨own_vi (by show (0 : Int32) = _; first | (simp only [own_iw, if_neg V_env.2.2.2.2.1, if_pos hc6_463, if_pos hc15_465]; done) | (simp only [own_iw, if_neg V_env.2.2.2.2.1, if_pos hc6_463, if_pos hc15_465]; decide) | simp [own_iw, V_env.2.2.2.2.1, hc6_463, hc15_465]), N464, eh464⟩ (by decide) (by decide)
    · show own_Fin _ _ _ _ _ _ _ T464 (mkF m 15 #[Rv a1] [(.int (own_find (63 : Int32) [x0] (0 : Int32)))])
      refine own_by (fun _ k => XS.ifNo X464.here hx rfl (hb hby d5_15) rfl ((if0 _ _).trans (flt hc15_465).1) (XS.iconst X464.here hx rfl (hb hby d5_18) (XS.goto X464.here hx rfl (pc0 := 19) (pc' := 23) rfl (hb hby d5_19) (by decide) (by decide) k))) ?_
      exact own_retZ X464 hx hlk (t := .boolean) hret (by simp) (hb hby d5_23) ⟨own_vi (by show (1 : Int32) = _; first | (simp only [own_iw, if_neg V_env.2.2.2.2.1, if_pos hc6_463, if_neg hc15_465]; done) | (simp only [own_iw, if_neg V_env.2.2.2.2.1, if_pos hc6_463, if_neg hc15_465]; decide) | simp [own_iw, V_env.2.2.2.2.1, hc6_463, hc15_465]), N464, eh464⟩ (by decide) (by decide)
  · show own_Fin _ _ _ _ _ _ _ T462 (mkF m 6 #[Rv a1] [(.int (own_find (42 : Int32) [x0] (0 : Int32)))])
    refine own_by (fun _ k => XS.ifYes X462.here hx rfl (pc0 := 6) (pc' := 18) rfl (hb hby d5_6) rfl ((if0 _ _).trans (flt hc6_463).2.1) (by decide) (by decide) (XS.iconst X462.here hx rfl (hb hby d5_18) (XS.goto X462.here hx rfl (pc0 := 19) (pc' := 23) rfl (hb hby d5_19) (by decide) (by decide) k))) ?_
    exact own_retZ X462 hx hlk (t := .boolean) hret (by simp) (hb hby d5_23) ⟨own_vi (by show (1 : Int32) = _; first | (simp only [own_iw, if_neg V_env.2.2.2.2.1, if_neg hc6_463]; done) | (simp only [own_iw, if_neg V_env.2.2.2.2.1, if_neg hc6_463]; decide) | simp [own_iw, V_env.2.2.2.2.1, hc6_463]), N462, eh462⟩ (by decide) (by decide)
def own_QrmIc2L (ch : Int32) (x0 x1 : Int32) (h0 : Heap) (n0 : Nat) (v : Option Value) (h : Heap) (L : List Loc) : Prop := v = some (.int (own_find (ch.toInt8.toInt32) [x0.toInt8.toInt32, x1.toInt8.toInt32] (0 : Int32))) ∧ Fr n0 L ∧ h = h0
set_option maxRecDepth 65536 in
set_option maxHeartbeats 40000000 in
theorem rmIc2L (l : Launch) (Z : State) (a0 : Array Value) (hw : own_W a0 Z) (ws : List Jvm.Cond) (cs : Int32) (gS : Value) (v1 : Addr) (k1 : ClassId) (ch : Int32) (x0 x1 : Int32) (h0 : Heap) (n0 : Nat) (Z0 : n0 ≤ h0.size) (V_env : own_Env Z cs gS) (Od : Old Z n0 h0) (V1 : Arv Z h0 v1 k1 .byte (2 : Int32) [(.int x0.toInt8.toInt32), (.int x1.toInt8.toInt32)] (.int (0 : Int32))) (hq : own_cq ch) : own_Met l Z mn27 jdk_43_method_23_code 6 (some .int) ws (own_R 0 0 0 0) #[(.ref v1), (.int ch), (.int (0 : Int32)), (.int (2 : Int32))] h0 (own_QrmIc2L ch x0 x1 h0 n0) := by
  refine own_enter n0 (plainFor_of_name own_pn225) (fun m => ef_RIII_6 m v1 ch (0 : Int32) (2 : Int32) ) (fun p e s m below meth c s₁ hx hby hlk hml hret hown hnm hZ X0 e0 N0 => ?_)
  show own_Fin _ _ _ _ _ _ _ s₁ (mkF m 0 #[Rv v1, Iv ch, Iv 0, Iv 2, Uv, Uv] [])
  obtain ⟨cl466, Ar466, -, S466, M466, H466, -⟩ := id V1
  have hin466 : ¬ ((0 : Int32) < 0 ∨ cl466.slots.size ≤ ((0 : Int32)).toNatClampNeg) := inb_of S466 ⟨by decide, by decide⟩
  have hat466 : cl466.slots[((0 : Int32)).toNatClampNeg]? = some (.int x0.toInt8.toInt32) := Has.at H466 hin466 rfl
  refine own_by (fun _ k => XS.iloadN X0.here hx rfl (hb hby d19_0) rfl (XS.i2b X0.here hx rfl (hb hby d19_1) rfl (XS.istore X0.here hx rfl (hb hby d19_2) rfl (l' := #[Rv v1, Iv ch, Iv 0, Iv 2, Iv (ch.toInt8.toInt32), Uv]) rfl (XS.iloadN X0.here hx rfl (hb hby d19_4) rfl (XS.istore X0.here hx rfl (hb hby d19_5) rfl (l' := #[Rv v1, Iv ch, Iv 0, Iv 2, Iv (ch.toInt8.toInt32), Iv 0]) rfl (XS.iload X0.here hx rfl (hb hby d19_7) rfl (XS.iloadN X0.here hx rfl (hb hby d19_9) rfl (XS.icmpNo X0.here hx rfl (hb hby d19_10) rfl (tlt (by decide : (0 : Int32) < (2 : Int32))).2.1 (XS.aloadN X0.here hx rfl (hb hby d19_13) rfl rfl (XS.iload X0.here hx rfl (hb hby d19_14) rfl k)))))))))) ?_
  show own_Fin _ _ _ _ _ _ _ s₁ (mkF m 16 #[Rv v1, Iv ch, Iv 0, Iv 2, Iv (ch.toInt8.toInt32), Iv 0] [(.int 0), (.ref v1)])
  refine own_by (fun _ k => X0.baloadBytes hx (j := (0 : Int32)) (v := (.int x0.toInt8.toInt32)) (by rw [e0]; exact Ar466.1) (State.isArrayOf_alike hZ.alike Ar466.2.1) Ar466.2.2 hin466 hat466 (g := (mkF m 16 #[Rv v1, Iv ch, Iv 0, Iv 2, Iv (ch.toInt8.toInt32), Iv 0] [(.int 0), (.ref v1)])) rfl rfl (hb hby d19_16) _ (XS.iload X0.here hx rfl (hb hby d19_17) rfl k)) ?_
  show own_Fin _ _ _ _ _ _ _ s₁ (mkF m 19 #[Rv v1, Iv ch, Iv 0, Iv 2, Iv (ch.toInt8.toInt32), Iv 0] [(.int (ch.toInt8.toInt32)), (.int x0.toInt8.toInt32)])
  by_cases hc19_467 : x0.toInt8.toInt32 = (ch.toInt8.toInt32)
  · show own_Fin _ _ _ _ _ _ _ s₁ (mkF m 19 #[Rv v1, Iv ch, Iv 0, Iv 2, Iv (ch.toInt8.toInt32), Iv 0] [(.int (ch.toInt8.toInt32)), (.int x0.toInt8.toInt32)])
    refine own_by (fun _ k => XS.icmpNo X0.here hx rfl (hb hby d19_19) rfl (teq hc19_467).2 (XS.iload X0.here hx rfl (hb hby d19_22) rfl k)) ?_
    exact own_retI X0 hx hlk hret (hb hby d19_24) ⟨own_vi (by show (0 : Int32) = _; first | (simp only [own_find, if_neg V_env.2.2.2.2.1, if_neg hq.1, if_neg hq.2.1, if_pos hq.2.2, if_pos hc19_467]; done) | (simp only [own_find, if_neg V_env.2.2.2.2.1, if_neg hq.1, if_neg hq.2.1, if_pos hq.2.2, if_pos hc19_467]; decide) | simp [own_find, V_env.2.2.2.2.1, hq.1, hq.2.1, hq.2.2, hc19_467]), N0, e0⟩ (by decide) (by decide)
  · show own_Fin _ _ _ _ _ _ _ s₁ (mkF m 19 #[Rv v1, Iv ch, Iv 0, Iv 2, Iv (ch.toInt8.toInt32), Iv 0] [(.int (ch.toInt8.toInt32)), (.int x0.toInt8.toInt32)])
    refine own_by (fun _ k => XS.icmpYes X0.here hx rfl (pc0 := 19) (pc' := 25) rfl (hb hby d19_19) rfl (feq hc19_467).2 (by decide) (by decide) (XS.iinc X0.here hx rfl (hb hby d19_25) rfl (l' := #[Rv v1, Iv ch, Iv 0, Iv 2, Iv (ch.toInt8.toInt32), Iv ((0 : Int32) + (1 : Int32))]) rfl k)) ?_
    show own_Fin _ _ _ _ _ _ _ s₁ (mkF m 28 #[Rv v1, Iv ch, Iv 0, Iv 2, Iv (ch.toInt8.toInt32), Iv ((0 : Int32) + (1 : Int32))] [])
    rw [(by decide : ((0 : Int32) + (1 : Int32)) = (1 : Int32))]
    show own_Fin _ _ _ _ _ _ _ s₁ (mkF m 28 #[Rv v1, Iv ch, Iv 0, Iv 2, Iv (ch.toInt8.toInt32), Iv 1] [])
    obtain ⟨cl468, Ar468, -, S468, M468, H468, -⟩ := id V1
    have hin468 : ¬ ((1 : Int32) < 0 ∨ cl468.slots.size ≤ ((1 : Int32)).toNatClampNeg) := inb_of S468 ⟨by decide, by decide⟩
    have hat468 : cl468.slots[((1 : Int32)).toNatClampNeg]? = some (.int x1.toInt8.toInt32) := Has.at H468 hin468 rfl
    refine own_by (fun _ k => XS.goto X0.here hx rfl (pc0 := 28) (pc' := 7) rfl (hb hby d19_28) (by decide) (by decide) (XS.iload X0.here hx rfl (hb hby d19_7) rfl (XS.iloadN X0.here hx rfl (hb hby d19_9) rfl (XS.icmpNo X0.here hx rfl (hb hby d19_10) rfl (tlt (by decide : (1 : Int32) < (2 : Int32))).2.1 (XS.aloadN X0.here hx rfl (hb hby d19_13) rfl rfl (XS.iload X0.here hx rfl (hb hby d19_14) rfl (X0.baloadBytes hx (j := (1 : Int32)) (v := (.int x1.toInt8.toInt32)) (by rw [e0]; exact Ar468.1) (State.isArrayOf_alike hZ.alike Ar468.2.1) Ar468.2.2 hin468 hat468 (g := (mkF m 16 #[Rv v1, Iv ch, Iv 0, Iv 2, Iv (ch.toInt8.toInt32), Iv 1] [(.int 1), (.ref v1)])) rfl rfl (hb hby d19_16) _ (XS.iload X0.here hx rfl (hb hby d19_17) rfl k)))))))) ?_
    show own_Fin _ _ _ _ _ _ _ s₁ (mkF m 19 #[Rv v1, Iv ch, Iv 0, Iv 2, Iv (ch.toInt8.toInt32), Iv 1] [(.int (ch.toInt8.toInt32)), (.int x1.toInt8.toInt32)])
    by_cases hc19_469 : x1.toInt8.toInt32 = (ch.toInt8.toInt32)
    · show own_Fin _ _ _ _ _ _ _ s₁ (mkF m 19 #[Rv v1, Iv ch, Iv 0, Iv 2, Iv (ch.toInt8.toInt32), Iv 1] [(.int (ch.toInt8.toInt32)), (.int x1.toInt8.toInt32)])
      refine own_by (fun _ k => XS.icmpNo X0.here hx rfl (hb hby d19_19) rfl (teq hc19_469).2 (XS.iload X0.here hx rfl (hb hby d19_22) rfl k)) ?_
      exact own_retI X0 hx hlk hret (hb hby d19_24) ⟨own_vi (by show (1 : Int32) = _; first | (simp only [own_find, if_neg V_env.2.2.2.2.1, if_neg hq.1, if_neg hq.2.1, if_pos hq.2.2, if_neg hc19_467, if_pos hc19_469]; done) | (simp only [own_find, if_neg V_env.2.2.2.2.1, if_neg hq.1, if_neg hq.2.1, if_pos hq.2.2, if_neg hc19_467, if_pos hc19_469]; decide) | simp [own_find, V_env.2.2.2.2.1, hq.1, hq.2.1, hq.2.2, hc19_467, hc19_469]), N0, e0⟩ (by decide) (by decide)
    · show own_Fin _ _ _ _ _ _ _ s₁ (mkF m 19 #[Rv v1, Iv ch, Iv 0, Iv 2, Iv (ch.toInt8.toInt32), Iv 1] [(.int (ch.toInt8.toInt32)), (.int x1.toInt8.toInt32)])
      refine own_by (fun _ k => XS.icmpYes X0.here hx rfl (pc0 := 19) (pc' := 25) rfl (hb hby d19_19) rfl (feq hc19_469).2 (by decide) (by decide) (XS.iinc X0.here hx rfl (hb hby d19_25) rfl (l' := #[Rv v1, Iv ch, Iv 0, Iv 2, Iv (ch.toInt8.toInt32), Iv ((1 : Int32) + (1 : Int32))]) rfl k)) ?_
      show own_Fin _ _ _ _ _ _ _ s₁ (mkF m 28 #[Rv v1, Iv ch, Iv 0, Iv 2, Iv (ch.toInt8.toInt32), Iv ((1 : Int32) + (1 : Int32))] [])
      rw [(by decide : ((1 : Int32) + (1 : Int32)) = (2 : Int32))]
      show own_Fin _ _ _ _ _ _ _ s₁ (mkF m 28 #[Rv v1, Iv ch, Iv 0, Iv 2, Iv (ch.toInt8.toInt32), Iv 2] [])
      refine own_by (fun _ k => XS.goto X0.here hx rfl (pc0 := 28) (pc' := 7) rfl (hb hby d19_28) (by decide) (by decide) (XS.iload X0.here hx rfl (hb hby d19_7) rfl (XS.iloadN X0.here hx rfl (hb hby d19_9) rfl (XS.icmpYes X0.here hx rfl (pc0 := 10) (pc' := 31) rfl (hb hby d19_10) rfl (flt (by decide : ¬ ((2 : Int32) < (2 : Int32)))).2.1 (by decide) (by decide) (XS.iconst X0.here hx rfl (hb hby d19_31) k))))) ?_
      exact own_retI X0 hx hlk hret (hb hby d19_32) ⟨own_vi (by show (-1 : Int32) = _; first | (simp only [own_find, if_neg V_env.2.2.2.2.1, if_neg hq.1, if_neg hq.2.1, if_pos hq.2.2, if_neg hc19_467, if_neg hc19_469]; done) | (simp only [own_find, if_neg V_env.2.2.2.2.1, if_neg hq.1, if_neg hq.2.1, if_pos hq.2.2, if_neg hc19_467, if_neg hc19_469]; decide) | simp [own_find, V_env.2.2.2.2.1, hq.1, hq.2.1, hq.2.2, hc19_467, hc19_469]), N0, e0⟩ (by decide) (by decide)
def own_Qrmmin_2_2 (h0 : Heap) (n0 : Nat) (v : Option Value) (h : Heap) (L : List Loc) : Prop := v = some (.int (2 : Int32)) ∧ Fr n0 L ∧ h = h0
theorem rmmin_2_2 (l : Launch) (Z : State) (a0 : Array Value) (hw : own_W a0 Z) (ws : List Jvm.Cond)  (h0 : Heap) (n0 : Nat) (Z0 : n0 ≤ h0.size)  : own_Met l Z mn21 jdk_29_method_69_code 2 (some .int) ws (own_R 0 0 0 0) #[(.int (2 : Int32)), (.int (2 : Int32))] h0 (own_Qrmmin_2_2 h0 n0) := by
  refine own_enter n0 (by decide +kernel) (fun m => ef_II_2 m (2 : Int32) (2 : Int32) ) (fun p e s m below meth c s₁ hx hby hlk hml hret hown hnm hZ X0 e0 N0 => ?_)
  show own_Fin _ _ _ _ _ _ _ s₁ (mkF m 0 #[Iv 2, Iv 2] [])
  refine own_by (fun _ k => XS.iloadN X0.here hx rfl (hb hby d14_0) rfl (XS.iloadN X0.here hx rfl (hb hby d14_1) rfl (XS.icmpNo X0.here hx rfl (hb hby d14_2) rfl (flt (by decide : ¬ ((2 : Int32) < (2 : Int32)))).2.2.1 (XS.iloadN X0.here hx rfl (hb hby d14_5) rfl (XS.goto X0.here hx rfl (pc0 := 6) (pc' := 10) rfl (hb hby d14_6) (by decide) (by decide) k))))) ?_
  exact own_retI X0 hx hlk hret (hb hby d14_10) ⟨rfl, N0, e0⟩ (by decide) (by decide)
def own_QrmIo2L (ch : Int32) (x0 x1 : Int32) (h0 : Heap) (n0 : Nat) (v : Option Value) (h : Heap) (L : List Loc) : Prop := v = some (.int (own_find (ch.toInt8.toInt32) [x0.toInt8.toInt32, x1.toInt8.toInt32] (0 : Int32))) ∧ Fr n0 L ∧ h = h0
set_option maxRecDepth 65536 in
set_option maxHeartbeats 40000000 in
theorem rmIo2L (l : Launch) (Z : State) (a0 : Array Value) (hw : own_W a0 Z) (ws : List Jvm.Cond) (cs : Int32) (gS : Value) (v1 : Addr) (k1 : ClassId) (ch : Int32) (x0 x1 : Int32) (h0 : Heap) (n0 : Nat) (Z0 : n0 ≤ h0.size) (V_env : own_Env Z cs gS) (Od : Old Z n0 h0) (V1 : Arv Z h0 v1 k1 .byte (2 : Int32) [(.int x0.toInt8.toInt32), (.int x1.toInt8.toInt32)] (.int (0 : Int32))) (hq : own_cq ch) : own_Met l Z mn22 jdk_43_method_22_code 4 (some .int) ws (own_R 1 0 0 17) #[(.ref v1), (.int ch), (.int (0 : Int32)), (.int (2 : Int32))] h0 (own_QrmIo2L ch x0 x1 h0 n0) := by
  refine own_enter n0 (plainFor_of_name own_pn225) (fun m => ef_RIII_4 m v1 ch (0 : Int32) (2 : Int32) ) (fun p e s m below meth c s₁ hx hby hlk hml hret hown hnm hZ X0 e0 N0 => ?_)
  show own_Fin _ _ _ _ _ _ _ s₁ (mkF m 0 #[Rv v1, Iv ch, Iv 0, Iv 2] [])
  obtain ⟨_, _, ⟨T470, L470, k470, n470⟩, -, X470, ⟨Lc470, hQ470, l470, y470, z470⟩, st470⟩ := LawKit.callS X0 hx (y := mn19) hown (own_m hZ hw 62) (own_m hZ hw 63) (own_m hZ hw 60) (own_m hZ hw 64) (by decide) (backOf (W := 0) (rmCe l Z a0 hw [] ch h0 n0 Z0 hq) hZ (own_g hw 64) (own_g hw 60) (by decide) (by decide)) (g := (mkF m 1 #[Rv v1, Iv ch, Iv 0, Iv 2] [(.int ch)])) rfl (by rw [hml]; rfl) (argsL := [(.int ch)]) (rest := []) (lenOf own_pd322 rfl) rfl (own_z rfl) (hb hby d11_1) (fun _ _ => ⟨rfl, e0, (by decide : 0 + 0 ≤ _), (by decide : 0 + 0 ≤ _)⟩)
  dsimp only [Pt.U, Pt.locs, Pt.cells, Pt.slots] at X470 l470 y470 z470 st470 hQ470
  subst l470 y470 z470
  obtain ⟨rfl, Nq470, eh470⟩ := hQ470
  have N470 := Fr.app N0 Nq470
  obtain ⟨_, _, ⟨T471, L471, k471, n471⟩, -, X471, ⟨Lc471, hQ471, l471, y471, z471⟩, st471⟩ := LawKit.callS X470 hx (y := mn20) hown (own_m hZ hw 65) (own_m hZ hw 66) (own_m hZ hw 67) (own_m hZ hw 68) (by decide) (backOf (W := 0) (rmmax_0_0 l Z a0 hw []  h0 n0 Z0 ) hZ (own_g hw 68) (own_g hw 67) (by decide) (by decide)) (g := (mkF m 11 #[Rv v1, Iv ch, Iv 0, Iv 2] [(.int 0), (.int 0)])) rfl (by rw [hml]; rfl) (argsL := [(.int (0 : Int32)), (.int (0 : Int32))]) (rest := []) (lenOf own_pd327 rfl) rfl (own_z rfl) (hb hby d11_11) (fun _ _ => ⟨rfl, eh470, (by decide : 0 + 0 ≤ _), (by decide : 0 + 0 ≤ _)⟩)
  dsimp only [Pt.U, Pt.locs, Pt.cells, Pt.slots] at X471 l471 y471 z471 st471 hQ471
  subst l471 y471 z471
  obtain ⟨rfl, Nq471, eh471⟩ := hQ471
  have N471 := Fr.app N470 Nq471
  obtain ⟨cl472, Ar472, -, S472, M472, -, -⟩ := id V1
  refine own_by (fun _ k => XS.iloadN X0.here hx rfl (hb hby d11_0) rfl (st470 _ (XS.ifYes X470.here hx rfl (pc0 := 4) (pc' := 9) rfl (hb hby d11_4) rfl ((if0 _ _).trans (feq (by decide : ¬ ((1 : Int32) = (0 : Int32)))).2) (by decide) (by decide) (XS.iloadN X470.here hx rfl (hb hby d11_9) rfl (XS.iconst X470.here hx rfl (hb hby d11_10) (st471 _ (XS.istoreN X471.here hx rfl (hb hby d11_14) rfl (l' := #[Rv v1, Iv ch, Iv 0, Iv 2]) rfl (XS.iloadN X471.here hx rfl (hb hby d11_15) rfl (XS.aloadN X471.here hx rfl (hb hby d11_16) rfl rfl (X471.arraylength hx (by rw [eh471]; exact Ar472.1) (State.isArrayOf_alike hZ.alike Ar472.2.1) (g := (mkF m 17 #[Rv v1, Iv ch, Iv 0, Iv 2] [(.ref v1), (.int 2)])) rfl rfl (hb hby d11_17) _ k)))))))))) ?_
  rw [len_of S472 M472]
  show own_Fin _ _ _ _ _ _ _ T471 (mkF m 18 #[Rv v1, Iv ch, Iv 0, Iv 2] [(.int 2), (.int 2)])
  obtain ⟨_, _, ⟨T473, L473, k473, n473⟩, -, X473, ⟨Lc473, hQ473, l473, y473, z473⟩, st473⟩ := LawKit.callS X471 hx (y := mn21) hown (own_m hZ hw 69) (own_m hZ hw 70) (own_m hZ hw 67) (own_m hZ hw 71) (by decide) (backOf (W := 0) (rmmin_2_2 l Z a0 hw []  h0 n0 Z0 ) hZ (own_g hw 71) (own_g hw 67) (by decide) (by decide)) (g := (mkF m 18 #[Rv v1, Iv ch, Iv 0, Iv 2] [(.int 2), (.int 2)])) rfl (by rw [hml]; rfl) (argsL := [(.int (2 : Int32)), (.int (2 : Int32))]) (rest := []) (lenOf own_pd327 rfl) rfl (own_z rfl) (hb hby d11_18) (fun _ _ => ⟨rfl, eh471, (by decide : 0 + 0 ≤ _), (by decide : 0 + 0 ≤ _)⟩)
  dsimp only [Pt.U, Pt.locs, Pt.cells, Pt.slots] at X473 l473 y473 z473 st473 hQ473
  subst l473 y473 z473
  obtain ⟨rfl, Nq473, eh473⟩ := hQ473
  have N473 := Fr.app N471 Nq473
  obtain ⟨_, _, ⟨T474, L474, k474, n474⟩, -, X474, ⟨Lc474, hQ474, l474, y474, z474⟩, st474⟩ := LawKit.callS X473 hx (y := mn27) hown (own_m hZ hw 85) (own_m hZ hw 86) (own_m hZ hw 60) (own_m hZ hw 87) (by decide) (backOf (W := 0) (rmIc2L l Z a0 hw [] cs gS v1 k1 ch x0 x1 h0 n0 Z0 V_env Od V1 hq ) hZ (own_g hw 87) (own_g hw 60) (by decide) (by decide)) (g := (mkF m 33 #[Rv v1, Iv ch, Iv 0, Iv 2] [(.int 2), (.int 0), (.int ch), (.ref v1)])) rfl (by rw [hml]; rfl) (argsL := [(.ref v1), (.int ch), (.int (0 : Int32)), (.int (2 : Int32))]) (rest := []) (lenOf own_pd359 rfl) rfl (own_z rfl) (hb hby d11_33) (fun _ _ => ⟨rfl, eh473, (by decide : 0 + 0 ≤ _), (by decide : 0 + 0 ≤ _)⟩)
  dsimp only [Pt.U, Pt.locs, Pt.cells, Pt.slots] at X474 l474 y474 z474 st474 hQ474
  subst l474 y474 z474
  obtain ⟨rfl, Nq474, eh474⟩ := hQ474
  have N474 := Fr.app N473 Nq474
  refine own_by (fun _ k => st473 _ (XS.istoreN X473.here hx rfl (hb hby d11_21) rfl (l' := #[Rv v1, Iv ch, Iv 0, Iv 2]) rfl (XS.iloadN X473.here hx rfl (hb hby d11_22) rfl (XS.iloadN X473.here hx rfl (hb hby d11_23) rfl (XS.icmpYes X473.here hx rfl (pc0 := 24) (pc' := 29) rfl (hb hby d11_24) rfl (tlt (by decide : (0 : Int32) < (2 : Int32))).1 (by decide) (by decide) (XS.aloadN X473.here hx rfl (hb hby d11_29) rfl rfl (XS.iloadN X473.here hx rfl (hb hby d11_30) rfl (XS.iloadN X473.here hx rfl (hb hby d11_31) rfl (XS.iloadN X473.here hx rfl (hb hby d11_32) rfl (st474 _ k)))))))))) ?_
  exact own_retI X474 hx hlk hret (hb hby d11_36) ⟨rfl, N474, eh474⟩ (by decide) (by decide)
def own_QrmSl2_L (h0 : Heap) (n0 : Nat) (v : Option Value) (h : Heap) (L : List Loc) : Prop := v = some (.int (2 : Int32)) ∧ Fr n0 L ∧ h = h0
theorem rmSl2_L (l : Launch) (Z : State) (a0 : Array Value) (hw : own_W a0 Z) (ws : List Jvm.Cond) (cs : Int32) (gS : Value) (a1 v1 : Addr) (k1 : ClassId) (vs : List Value) (h0 : Heap) (n0 : Nat) (Z0 : n0 ≤ h0.size) (V_env : own_Env Z cs gS) (Od : Old Z n0 h0) (E_a1 : Exa Z h0 a1 "java/lang/String") (F1 : Fld Z h0 a1 "java/lang/String" "value" "[B" (.ref v1)) (F2 : Fld Z h0 a1 "java/lang/String" "coder" "B" (.int (0 : Int32))) (V1 : Arv Z h0 v1 k1 .byte (2 : Int32) vs (.int (0 : Int32))) : own_Met l Z mn23 jdk_42_method_54_code 1 (some .int) ws (own_R 1 0 0 13) #[(.ref a1)] h0 (own_QrmSl2_L h0 n0) := by
  refine own_enter n0 (plainFor_of_name own_pn34) (fun m => ef_R_1 m a1 ) (fun p e s m below meth c s₁ hx hby hlk hml hret hown hnm hZ X0 e0 N0 => ?_)
  show own_Fin _ _ _ _ _ _ _ s₁ (mkF m 0 #[Rv a1] [])
  obtain ⟨T475, X475, e475, st475⟩ := getF X0 hx hZ hown (host := "") (Or.inl (own_g hw 26)) Via.refl e0 F1 (g := (mkF m 1 #[Rv a1] [(.ref a1)])) rfl rfl (hb hby d9_1)
  obtain ⟨cl476, Ar476, -, S476, M476, -, -⟩ := id V1
  refine own_by (fun _ k => XS.aloadN X0.here hx rfl (hb hby d9_0) rfl rfl (st475 _ (X475.arraylength hx (by rw [e475]; exact Ar476.1) (State.isArrayOf_alike hZ.alike Ar476.2.1) (g := (mkF m 4 #[Rv a1] [(.ref v1)])) rfl rfl (hb hby d9_4) _ k))) ?_
  rw [len_of S476 M476]
  show own_Fin _ _ _ _ _ _ _ T475 (mkF m 5 #[Rv a1] [(.int 2)])
  obtain ⟨cq477, kq477, q477a, q477b, q477c⟩ := isOf hZ e475 E_a1
  obtain ⟨_, _, ⟨T477, L477, k477, n477⟩, -, X477, ⟨Lc477, hQ477, l477, y477, z477⟩, st477⟩ := X475.virtualBack hx (y := mn18) (z := mn18) hown (own_m hZ hw 53) (own_m hZ hw 54) (notFace_of_selects (args := #[]) (own_m hZ hw 56)) (own_m hZ hw 56) (own_m hZ hw 55) (by decide) (backOf (W := 1) (rmCd0 l Z a0 hw [] cs gS a1 h0 n0 Z0 V_env Od F2) hZ (own_g hw 57) (own_g hw 8) (by decide) (by decide)) q477a q477c (g := (mkF m 6 #[Rv a1] [(.ref a1), (.int 2)])) rfl (by rw [hml]; rfl) (Steps.refl _) (argsL := []) (rest := [(.int (2 : Int32))]) (lenOf own_pd344 rfl) rfl (own_z rfl) (hb hby d9_6) (fun _ _ => ⟨rfl, e475, (by decide : 0 + 0 ≤ _), (by decide : 0 + 0 ≤ _)⟩)
  dsimp only [Pt.U, Pt.locs, Pt.cells, Pt.slots] at X477 l477 y477 z477 st477 hQ477
  subst l477 y477 z477
  obtain ⟨rfl, Nq477, eh477⟩ := hQ477
  have N477 := Fr.app N0 Nq477
  refine own_by (fun _ k => XS.aloadN X475.here hx rfl (hb hby d9_5) rfl rfl (st477.trans (XS.ishr X477.here hx rfl (hb hby d9_9) rfl k))) ?_
  show own_Fin _ _ _ _ _ _ _ T477 (mkF m 10 #[Rv a1] [(.int ((2 : Int32) >>> ((0 : Int32) &&& 31)))])
  rw [(by decide : ((2 : Int32) >>> ((0 : Int32) &&& 31)) = (2 : Int32))]
  show own_Fin _ _ _ _ _ _ _ T477 (mkF m 10 #[Rv a1] [(.int 2)])
  exact own_retI X477 hx hlk hret (hb hby d9_10) ⟨rfl, N477, eh477⟩ (by decide) (by decide)
def own_QrmI22L (ch : Int32) (x0 x1 : Int32) (h0 : Heap) (n0 : Nat) (v : Option Value) (h : Heap) (L : List Loc) : Prop := v = some (.int (own_find (ch.toInt8.toInt32) [x0.toInt8.toInt32, x1.toInt8.toInt32] (0 : Int32))) ∧ Fr n0 L ∧ h = h0
set_option maxRecDepth 65536 in
set_option maxHeartbeats 40000000 in
theorem rmI22L (l : Launch) (Z : State) (a0 : Array Value) (hw : own_W a0 Z) (ws : List Jvm.Cond) (cs : Int32) (gS : Value) (a1 : Addr) (v1 : Addr) (k1 : ClassId) (ch : Int32) (x0 x1 : Int32) (h0 : Heap) (n0 : Nat) (Z0 : n0 ≤ h0.size) (V_env : own_Env Z cs gS) (Od : Old Z n0 h0) (E_a1 : Exa Z h0 a1 "java/lang/String") (F1 : Fld Z h0 a1 "java/lang/String" "value" "[B" (.ref v1)) (F2 : Fld Z h0 a1 "java/lang/String" "coder" "B" (.int (0 : Int32))) (V1 : Arv Z h0 v1 k1 .byte (2 : Int32) [(.int x0.toInt8.toInt32), (.int x1.toInt8.toInt32)] (.int (0 : Int32))) (hq : own_cq ch) : own_Met l Z mn24 jdk_42_method_80_code 3 (some .int) ws (own_R 2 0 0 32) #[(.ref a1), (.int ch), (.int (0 : Int32))] h0 (own_QrmI22L ch x0 x1 h0 n0) := by
  refine own_enter n0 (plainFor_of_name own_pn34) (fun m => ef_RII_3 m a1 ch (0 : Int32) ) (fun p e s m below meth c s₁ hx hby hlk hml hret hown hnm hZ X0 e0 N0 => ?_)
  show own_Fin _ _ _ _ _ _ _ s₁ (mkF m 0 #[Rv a1, Iv ch, Iv 0] [])
  obtain ⟨cq478, kq478, q478a, q478b, q478c⟩ := isOf hZ e0 E_a1
  obtain ⟨_, _, ⟨T478, L478, k478, n478⟩, -, X478, ⟨Lc478, hQ478, l478, y478, z478⟩, st478⟩ := X0.virtualBack hx (y := mn17) (z := mn17) hown (own_m hZ hw 42) (own_m hZ hw 43) (notFace_of_selects (args := #[]) (own_m hZ hw 45)) (own_m hZ hw 45) (own_m hZ hw 44) (by decide) (backOf (W := 0) (rmIs0 l Z a0 hw [] cs gS a1 h0 n0 Z0 V_env Od F2) hZ (own_g hw 46) (own_g hw 8) (by decide) (by decide)) q478a q478c (g := (mkF m 1 #[Rv a1, Iv ch, Iv 0] [(.ref a1)])) rfl (by rw [hml]; rfl) (Steps.refl _) (argsL := []) (rest := []) (lenOf own_pd349 rfl) rfl (own_z rfl) (hb hby d7_1) (fun _ _ => ⟨rfl, e0, (by decide : 0 + 0 ≤ _), (by decide : 0 + 0 ≤ _)⟩)
  dsimp only [Pt.U, Pt.locs, Pt.cells, Pt.slots] at X478 l478 y478 z478 st478 hQ478
  subst l478 y478 z478
  obtain ⟨rfl, Nq478, eh478⟩ := hQ478
  have N478 := Fr.app N0 Nq478
  obtain ⟨T479, X479, e479, st479⟩ := getF X478 hx hZ hown (host := "") (Or.inl (own_g hw 26)) Via.refl eh478 F1 (g := (mkF m 8 #[Rv a1, Iv ch, Iv 0] [(.ref a1)])) rfl rfl (hb hby d7_8)
  obtain ⟨cq480, kq480, q480a, q480b, q480c⟩ := isOf hZ e479 E_a1
  obtain ⟨_, _, ⟨T480, L480, k480, n480⟩, -, X480, ⟨Lc480, hQ480, l480, y480, z480⟩, st480⟩ := X479.virtualBack hx (y := mn23) (z := mn23) hown (own_m hZ hw 48) (own_m hZ hw 49) (notFace_of_selects (args := #[]) (own_m hZ hw 51)) (own_m hZ hw 51) (own_m hZ hw 50) (by decide) (backOf (W := 3) (rmSl2_L l Z a0 hw [] cs gS a1 v1 k1 [(.int x0.toInt8.toInt32), (.int x1.toInt8.toInt32)] h0 n0 Z0 V_env Od E_a1 F1 F2 V1) hZ (own_g hw 52) (own_g hw 8) (by decide) (by decide)) q480a q480c (g := (mkF m 14 #[Rv a1, Iv ch, Iv 0] [(.ref a1), (.int 0), (.int ch), (.ref v1)])) rfl (by rw [hml]; rfl) (Steps.refl _) (argsL := []) (rest := [(.int (0 : Int32)), (.int ch), (.ref v1)]) (lenOf own_pd357 rfl) rfl (own_z rfl) (hb hby d7_14) (fun _ _ => ⟨rfl, e479, (by decide : 0 + 0 ≤ _), (by decide : 0 + 0 ≤ _)⟩)
  dsimp only [Pt.U, Pt.locs, Pt.cells, Pt.slots] at X480 l480 y480 z480 st480 hQ480
  subst l480 y480 z480
  obtain ⟨rfl, Nq480, eh480⟩ := hQ480
  have N480 := Fr.app N478 Nq480
  obtain ⟨_, _, ⟨T481, L481, k481, n481⟩, -, X481, ⟨Lc481, hQ481, l481, y481, z481⟩, st481⟩ := LawKit.callS X480 hx (y := mn22) hown (own_m hZ hw 58) (own_m hZ hw 59) (own_m hZ hw 60) (own_m hZ hw 61) (by decide) (backOf (W := 0) (rmIo2L l Z a0 hw [] cs gS v1 k1 ch x0 x1 h0 n0 Z0 V_env Od V1 hq ) hZ (own_g hw 61) (own_g hw 60) (by decide) (by decide)) (g := (mkF m 17 #[Rv a1, Iv ch, Iv 0] [(.int 2), (.int 0), (.int ch), (.ref v1)])) rfl (by rw [hml]; rfl) (argsL := [(.ref v1), (.int ch), (.int (0 : Int32)), (.int (2 : Int32))]) (rest := []) (lenOf own_pd359 rfl) rfl (own_z rfl) (hb hby d7_17) (fun _ _ => ⟨rfl, eh480, (by decide : 0 + 0 ≤ _), (by decide : 0 + 0 ≤ _)⟩)
  dsimp only [Pt.U, Pt.locs, Pt.cells, Pt.slots] at X481 l481 y481 z481 st481 hQ481
  subst l481 y481 z481
  obtain ⟨rfl, Nq481, eh481⟩ := hQ481
  have N481 := Fr.app N480 Nq481
  refine own_by (fun _ k => XS.aloadN X0.here hx rfl (hb hby d7_0) rfl rfl (st478.trans (XS.ifNo X478.here hx rfl (hb hby d7_4) rfl ((if0 _ _).trans (feq (by decide : ¬ ((1 : Int32) = (0 : Int32)))).1) (XS.aloadN X478.here hx rfl (hb hby d7_7) rfl rfl (st479 _ (XS.iloadN X479.here hx rfl (hb hby d7_11) rfl (XS.iloadN X479.here hx rfl (hb hby d7_12) rfl (XS.aloadN X479.here hx rfl (hb hby d7_13) rfl rfl (st480.trans (st481 _ k)))))))))) ?_
  show own_Fin _ _ _ _ _ _ _ T481 (mkF m 20 #[Rv a1, Iv ch, Iv 0] [(.int (own_find (ch.toInt8.toInt32) [x0.toInt8.toInt32, x1.toInt8.toInt32] (0 : Int32)))])
  refine own_by (fun _ k => XS.goto X481.here hx rfl (pc0 := 20) (pc' := 36) rfl (hb hby d7_20) (by decide) (by decide) k) ?_
  exact own_retI X481 hx hlk hret (hb hby d7_36) ⟨rfl, N481, eh481⟩ (by decide) (by decide)
def own_QrmIx2L (ch : Int32) (x0 x1 : Int32) (h0 : Heap) (n0 : Nat) (v : Option Value) (h : Heap) (L : List Loc) : Prop := v = some (.int (own_find (ch.toInt8.toInt32) [x0.toInt8.toInt32, x1.toInt8.toInt32] (0 : Int32))) ∧ Fr n0 L ∧ h = h0
theorem rmIx2L (l : Launch) (Z : State) (a0 : Array Value) (hw : own_W a0 Z) (ws : List Jvm.Cond) (cs : Int32) (gS : Value) (a1 : Addr) (v1 : Addr) (k1 : ClassId) (ch : Int32) (x0 x1 : Int32) (h0 : Heap) (n0 : Nat) (Z0 : n0 ≤ h0.size) (V_env : own_Env Z cs gS) (Od : Old Z n0 h0) (E_a1 : Exa Z h0 a1 "java/lang/String") (F1 : Fld Z h0 a1 "java/lang/String" "value" "[B" (.ref v1)) (F2 : Fld Z h0 a1 "java/lang/String" "coder" "B" (.int (0 : Int32))) (V1 : Arv Z h0 v1 k1 .byte (2 : Int32) [(.int x0.toInt8.toInt32), (.int x1.toInt8.toInt32)] (.int (0 : Int32))) (hq : own_cq ch) : own_Met l Z mn25 jdk_42_method_79_code 2 (some .int) ws (own_R 3 0 0 46) #[(.ref a1), (.int ch)] h0 (own_QrmIx2L ch x0 x1 h0 n0) := by
  refine own_enter n0 (plainFor_of_name own_pn34) (fun m => ef_RI_2 m a1 ch ) (fun p e s m below meth c s₁ hx hby hlk hml hret hown hnm hZ X0 e0 N0 => ?_)
  show own_Fin _ _ _ _ _ _ _ s₁ (mkF m 0 #[Rv a1, Iv ch] [])
  obtain ⟨cq482, kq482, q482a, q482b, q482c⟩ := isOf hZ e0 E_a1
  obtain ⟨_, _, ⟨T482, L482, k482, n482⟩, -, X482, ⟨Lc482, hQ482, l482, y482, z482⟩, st482⟩ := X0.virtualBack hx (y := mn24) (z := mn24) hown (own_m hZ hw 37) (own_m hZ hw 38) (notFace_of_selects (args := #[]) (own_m hZ hw 40)) (own_m hZ hw 40) (own_m hZ hw 39) (by decide) (backOf (W := 0) (rmI22L l Z a0 hw [] cs gS a1 v1 k1 ch x0 x1 h0 n0 Z0 V_env Od E_a1 F1 F2 V1 hq ) hZ (own_g hw 41) (own_g hw 8) (by decide) (by decide)) q482a q482c (g := (mkF m 3 #[Rv a1, Iv ch] [(.int 0), (.int ch), (.ref a1)])) rfl (by rw [hml]; rfl) (Steps.refl _) (argsL := [(.int ch), (.int (0 : Int32))]) (rest := []) (lenOf own_pd327 rfl) rfl (own_z rfl) (hb hby d6_3) (fun _ _ => ⟨rfl, e0, (by decide : 0 + 0 ≤ _), (by decide : 0 + 0 ≤ _)⟩)
  dsimp only [Pt.U, Pt.locs, Pt.cells, Pt.slots] at X482 l482 y482 z482 st482 hQ482
  subst l482 y482 z482
  obtain ⟨rfl, Nq482, eh482⟩ := hQ482
  have N482 := Fr.app N0 Nq482
  refine own_by (fun _ k => XS.aloadN X0.here hx rfl (hb hby d6_0) rfl rfl (XS.iloadN X0.here hx rfl (hb hby d6_1) rfl (XS.iconst X0.here hx rfl (hb hby d6_2) (st482.trans k)))) ?_
  exact own_retI X482 hx hlk hret (hb hby d6_6) ⟨rfl, N482, eh482⟩ (by decide) (by decide)
def own_QIW2L (x0 x1 : Int32) (h0 : Heap) (n0 : Nat) (v : Option Value) (h : Heap) (L : List Loc) : Prop := v = some (.int (own_iw (own_find ((42 : Int32).toInt8.toInt32) [x0.toInt8.toInt32, x1.toInt8.toInt32] (0 : Int32)) (own_find ((63 : Int32).toInt8.toInt32) [x0.toInt8.toInt32, x1.toInt8.toInt32] (0 : Int32)))) ∧ Fr n0 L ∧ h = h0
set_option maxRecDepth 65536 in
set_option maxHeartbeats 40000000 in
theorem rmIW2L (l : Launch) (Z : State) (a0 : Array Value) (hw : own_W a0 Z) (ws : List Jvm.Cond) (cs : Int32) (gS : Value) (a1 v1 : Addr) (k1 : ClassId) (x0 x1 : Int32)  (h0 : Heap) (n0 : Nat) (Z0 : n0 ≤ h0.size) (V_env : own_Env Z cs gS) (Od : Old Z n0 h0) (E_a1 : Exa Z h0 a1 "java/lang/String") (F1 : Fld Z h0 a1 "java/lang/String" "value" "[B" (.ref v1)) (F2 : Fld Z h0 a1 "java/lang/String" "coder" "B" (.int (0 : Int32))) (V1 : Arv Z h0 v1 k1 .byte (2 : Int32) [(.int x0.toInt8.toInt32), (.int x1.toInt8.toInt32)] (.int (0 : Int32))) : own_Met l Z mn26 prog_17_method_3_code 1 (some .boolean) ws (own_R 4 0 0 59) #[(.ref a1)] h0 (own_QIW2L x0 x1 h0 n0) := by
  refine own_enter n0 (plainFor_of_name own_pn367) (fun m => ef_R_1 m a1 ) (fun p e s m below meth c s₁ hx hby hlk hml hret hown hnm hZ X0 e0 N0 => ?_)
  show own_Fin _ _ _ _ _ _ _ s₁ (mkF m 0 #[Rv a1] [])
  obtain ⟨cq483, kq483, q483a, q483b, q483c⟩ := isOf hZ e0 E_a1
  obtain ⟨_, _, ⟨T483, L483, k483, n483⟩, -, X483, ⟨Lc483, hQ483, l483, y483, z483⟩, st483⟩ := X0.virtualBack hx (y := mn25) (z := mn25) hown (own_m hZ hw 32) (own_m hZ hw 33) (notFace_of_selects (args := #[]) (own_m hZ hw 35)) (own_m hZ hw 35) (own_m hZ hw 34) (by decide) (backOf (W := 0) (rmIx2L l Z a0 hw [] cs gS a1 v1 k1 (42 : Int32) x0 x1 h0 n0 Z0 V_env Od E_a1 F1 F2 V1 ⟨by decide, by decide, by decide⟩ ) hZ (own_g hw 36) (own_g hw 8) (by decide) (by decide)) q483a q483c (g := (mkF m 3 #[Rv a1] [(.int 42), (.ref a1)])) rfl (by rw [hml]; rfl) (Steps.refl _) (argsL := [(.int (42 : Int32))]) (rest := []) (lenOf own_pd70 rfl) rfl (own_z rfl) (hb hby d5_3) (fun _ _ => ⟨rfl, e0, (by decide : 0 + 0 ≤ _), (by decide : 0 + 0 ≤ _)⟩)
  dsimp only [Pt.U, Pt.locs, Pt.cells, Pt.slots] at X483 l483 y483 z483 st483 hQ483
  subst l483 y483 z483
  obtain ⟨rfl, Nq483, eh483⟩ := hQ483
  have N483 := Fr.app N0 Nq483
  refine own_by (fun _ k => XS.aloadN X0.here hx rfl (hb hby d5_0) rfl rfl (XS.bipush X0.here hx rfl (hb hby d5_1) (st483.trans k))) ?_
  show own_Fin _ _ _ _ _ _ _ T483 (mkF m 6 #[Rv a1] [(.int (own_find ((42 : Int32).toInt8.toInt32) [x0.toInt8.toInt32, x1.toInt8.toInt32] (0 : Int32)))])
  by_cases hc6_484 : (own_find ((42 : Int32).toInt8.toInt32) [x0.toInt8.toInt32, x1.toInt8.toInt32] (0 : Int32)) < (0 : Int32)
  · show own_Fin _ _ _ _ _ _ _ T483 (mkF m 6 #[Rv a1] [(.int (own_find ((42 : Int32).toInt8.toInt32) [x0.toInt8.toInt32, x1.toInt8.toInt32] (0 : Int32)))])
    obtain ⟨cq485, kq485, q485a, q485b, q485c⟩ := isOf hZ eh483 E_a1
    obtain ⟨_, _, ⟨T485, L485, k485, n485⟩, -, X485, ⟨Lc485, hQ485, l485, y485, z485⟩, st485⟩ := X483.virtualBack hx (y := mn25) (z := mn25) hown (own_m hZ hw 32) (own_m hZ hw 33) (notFace_of_selects (args := #[]) (own_m hZ hw 35)) (own_m hZ hw 35) (own_m hZ hw 34) (by decide) (backOf (W := 0) (rmIx2L l Z a0 hw [] cs gS a1 v1 k1 (63 : Int32) x0 x1 h0 n0 Z0 V_env Od E_a1 F1 F2 V1 ⟨by decide, by decide, by decide⟩ ) hZ (own_g hw 36) (own_g hw 8) (by decide) (by decide)) q485a q485c (g := (mkF m 12 #[Rv a1] [(.int 63), (.ref a1)])) rfl (by rw [hml]; rfl) (Steps.refl _) (argsL := [(.int (63 : Int32))]) (rest := []) (lenOf own_pd70 rfl) rfl (own_z rfl) (hb hby d5_12) (fun _ _ => ⟨rfl, eh483, (by decide : 0 + 0 ≤ _), (by decide : 0 + 0 ≤ _)⟩)
    dsimp only [Pt.U, Pt.locs, Pt.cells, Pt.slots] at X485 l485 y485 z485 st485 hQ485
    subst l485 y485 z485
    obtain ⟨rfl, Nq485, eh485⟩ := hQ485
    have N485 := Fr.app N483 Nq485
    refine own_by (fun _ k => XS.ifNo X483.here hx rfl (hb hby d5_6) rfl ((if0 _ _).trans (tlt hc6_484).2.1) (XS.aloadN X483.here hx rfl (hb hby d5_9) rfl rfl (XS.bipush X483.here hx rfl (hb hby d5_10) (st485.trans k)))) ?_
    show own_Fin _ _ _ _ _ _ _ T485 (mkF m 15 #[Rv a1] [(.int (own_find ((63 : Int32).toInt8.toInt32) [x0.toInt8.toInt32, x1.toInt8.toInt32] (0 : Int32)))])
    by_cases hc15_486 : (own_find ((63 : Int32).toInt8.toInt32) [x0.toInt8.toInt32, x1.toInt8.toInt32] (0 : Int32)) < (0 : Int32)
    · show own_Fin _ _ _ _ _ _ _ T485 (mkF m 15 #[Rv a1] [(.int (own_find ((63 : Int32).toInt8.toInt32) [x0.toInt8.toInt32, x1.toInt8.toInt32] (0 : Int32)))])
      refine own_by (fun _ k => XS.ifYes X485.here hx rfl (pc0 := 15) (pc' := 22) rfl (hb hby d5_15) rfl ((if0 _ _).trans (tlt hc15_486).1) (by decide) (by decide) (XS.iconst X485.here hx rfl (hb hby d5_22) k)) ?_
      exact own_retZ X485 hx hlk (t := .boolean) hret (by simp) (hb hby d5_23) ⟨own_vi (by show (0 : Int32) = _; first | (simp only [own_iw, if_neg V_env.2.2.2.2.1, if_pos hc6_484, if_pos hc15_486]; done) | (simp only [own_iw, if_neg V_env.2.2.2.2.1, if_pos hc6_484, if_pos hc15_486]; decide) | simp [own_iw, V_env.2.2.2.2.1, hc6_484, hc15_486]), N485, eh485⟩ (by decide) (by decide)
    · show own_Fin _ _ _ _ _ _ _ T485 (mkF m 15 #[Rv a1] [(.int (own_find ((63 : Int32).toInt8.toInt32) [x0.toInt8.toInt32, x1.toInt8.toInt32] (0 : Int32)))])
      refine own_by (fun _ k => XS.ifNo X485.here hx rfl (hb hby d5_15) rfl ((if0 _ _).trans (flt hc15_486).1) (XS.iconst X485.here hx rfl (hb hby d5_18) (XS.goto X485.here hx rfl (pc0 := 19) (pc' := 23) rfl (hb hby d5_19) (by decide) (by decide) k))) ?_
      exact own_retZ X485 hx hlk (t := .boolean) hret (by simp) (hb hby d5_23) ⟨own_vi (by show (1 : Int32) = _; first | (simp only [own_iw, if_neg V_env.2.2.2.2.1, if_pos hc6_484, if_neg hc15_486]; done) | (simp only [own_iw, if_neg V_env.2.2.2.2.1, if_pos hc6_484, if_neg hc15_486]; decide) | simp [own_iw, V_env.2.2.2.2.1, hc6_484, hc15_486]), N485, eh485⟩ (by decide) (by decide)
  · show own_Fin _ _ _ _ _ _ _ T483 (mkF m 6 #[Rv a1] [(.int (own_find ((42 : Int32).toInt8.toInt32) [x0.toInt8.toInt32, x1.toInt8.toInt32] (0 : Int32)))])
    refine own_by (fun _ k => XS.ifYes X483.here hx rfl (pc0 := 6) (pc' := 18) rfl (hb hby d5_6) rfl ((if0 _ _).trans (flt hc6_484).2.1) (by decide) (by decide) (XS.iconst X483.here hx rfl (hb hby d5_18) (XS.goto X483.here hx rfl (pc0 := 19) (pc' := 23) rfl (hb hby d5_19) (by decide) (by decide) k))) ?_
    exact own_retZ X483 hx hlk (t := .boolean) hret (by simp) (hb hby d5_23) ⟨own_vi (by show (1 : Int32) = _; first | (simp only [own_iw, if_neg V_env.2.2.2.2.1, if_neg hc6_484]; done) | (simp only [own_iw, if_neg V_env.2.2.2.2.1, if_neg hc6_484]; decide) | simp [own_iw, V_env.2.2.2.2.1, hc6_484]), N483, eh483⟩ (by decide) (by decide)
def own_QrmLu2 (h0 : Heap) (n0 : Nat) (v : Option Value) (h : Heap) (L : List Loc) : Prop := v = some (.int (2 : Int32)) ∧ Fr n0 L ∧ h = h0
theorem rmLu2 (l : Launch) (Z : State) (a0 : Array Value) (hw : own_W a0 Z) (ws : List Jvm.Cond) (v1 : Addr) (k1 : ClassId) (vs : List Value) (h0 : Heap) (n0 : Nat) (Z0 : n0 ≤ h0.size) (V1 : Arv Z h0 v1 k1 .byte (4 : Int32) vs (.int (0 : Int32))) : own_Met l Z mn28 jdk_52_method_6_code 1 (some .int) ws (own_R 0 0 0 0) #[(.ref v1)] h0 (own_QrmLu2 h0 n0) := by
  refine own_enter n0 (plainFor_of_name own_pn58) (fun m => ef_R_1 m v1 ) (fun p e s m below meth c s₁ hx hby hlk hml hret hown hnm hZ X0 e0 N0 => ?_)
  show own_Fin _ _ _ _ _ _ _ s₁ (mkF m 0 #[Rv v1] [])
  obtain ⟨cl487, Ar487, -, S487, M487, -, -⟩ := id V1
  refine own_by (fun _ k => XS.aloadN X0.here hx rfl (hb hby d32_0) rfl rfl (X0.arraylength hx (by rw [e0]; exact Ar487.1) (State.isArrayOf_alike hZ.alike Ar487.2.1) (g := (mkF m 1 #[Rv v1] [(.ref v1)])) rfl rfl (hb hby d32_1) _ k)) ?_
  rw [len_of S487 M487]
  show own_Fin _ _ _ _ _ _ _ s₁ (mkF m 2 #[Rv v1] [(.int 4)])
  refine own_by (fun _ k => XS.iconst X0.here hx rfl (hb hby d32_2) (XS.ishr X0.here hx rfl (hb hby d32_3) rfl k)) ?_
  show own_Fin _ _ _ _ _ _ _ s₁ (mkF m 4 #[Rv v1] [(.int ((4 : Int32) >>> ((1 : Int32) &&& 31)))])
  rw [(by decide : ((4 : Int32) >>> ((1 : Int32) &&& 31)) = (2 : Int32))]
  show own_Fin _ _ _ _ _ _ _ s₁ (mkF m 4 #[Rv v1] [(.int 2)])
  exact own_retI X0 hx hlk hret (hb hby d32_4) ⟨rfl, N0, e0⟩ (by decide) (by decide)
def own_QrmCf2 (h0 : Heap) (n0 : Nat) (v : Option Value) (h : Heap) (L : List Loc) : Prop := v = some (.int (0 : Int32)) ∧ Fr n0 L ∧ h = h0
theorem rmCf2 (l : Launch) (Z : State) (a0 : Array Value) (hw : own_W a0 Z) (ws : List Jvm.Cond) (gS : Value) (h0 : Heap) (n0 : Nat) (Z0 : n0 ≤ h0.size) (hgS : gS.isRef = true) : own_Met l Z mn29 jdk_41_method_12_code 4 (some .int) ws (own_R 0 0 0 0) #[(.int (0 : Int32)), (.int (2 : Int32)), (.int (2 : Int32)), gS] h0 (own_QrmCf2 h0 n0) := by
  refine own_enter n0 (plainFor_of_name own_pn412) (fun m => ef_IIIV_4 m (0 : Int32) (2 : Int32) (2 : Int32) gS (by rcases ref_cases (by assumption : (gS).isRef = true) with h | ⟨_, h⟩ <;> rw [h] <;> rfl)) (fun p e s m below meth c s₁ hx hby hlk hml hret hown hnm hZ X0 e0 N0 => ?_)
  show own_Fin _ _ _ _ _ _ _ s₁ (mkF m 0 #[Iv 0, Iv 2, Iv 2, .val gS] [])
  refine own_by (fun _ k => XS.iloadN X0.here hx rfl (hb hby d34_0) rfl (XS.ifNo X0.here hx rfl (hb hby d34_1) rfl ((if0 _ _).trans (flt (by decide : ¬ ((0 : Int32) < (0 : Int32)))).1) (XS.iloadN X0.here hx rfl (hb hby d34_4) rfl (XS.iloadN X0.here hx rfl (hb hby d34_5) rfl (XS.icmpNo X0.here hx rfl (hb hby d34_6) rfl (flt (by decide : ¬ ((2 : Int32) < (0 : Int32)))).2.2.1 (XS.iloadN X0.here hx rfl (hb hby d34_9) rfl (XS.iloadN X0.here hx rfl (hb hby d34_10) rfl (XS.icmpYes X0.here hx rfl (pc0 := 11) (pc' := 22) rfl (hb hby d34_11) rfl (flt (by decide : ¬ ((2 : Int32) < (2 : Int32)))).2.2.2 (by decide) (by decide) (XS.iloadN X0.here hx rfl (hb hby d34_22) rfl k))))))))) ?_
  exact own_retI X0 hx hlk hret (hb hby d34_23) ⟨rfl, N0, e0⟩ (by decide) (by decide)
def own_QCb2 (h0 : Heap) (n0 : Nat) (v : Option Value) (h : Heap) (L : List Loc) : Prop := v = none ∧ Fr n0 L ∧ h = h0
theorem rmCb2 (l : Launch) (Z : State) (a0 : Array Value) (hw : own_W a0 Z) (ws : List Jvm.Cond) (cs : Int32) (gS : Value) (h0 : Heap) (n0 : Nat) (Z0 : n0 ≤ h0.size) (V_env : own_Env Z cs gS) (Od : Old Z n0 h0) : own_Met l Z mn30 jdk_42_method_158_code 3 none ws (own_R 1 0 0 15) #[(.int (0 : Int32)), (.int (2 : Int32)), (.int (2 : Int32))] h0 (own_QCb2 h0 n0) := by
  refine own_enter n0 (plainFor_of_name own_pn34) (fun m => ef_III_3 m (0 : Int32) (2 : Int32) (2 : Int32) ) (fun p e s m below meth c s₁ hx hby hlk hml hret hown hnm hZ X0 e0 N0 => ?_)
  show own_Fin _ _ _ _ _ _ _ s₁ (mkF m 0 #[Iv 0, Iv 2, Iv 2] [])
  have hgS : gS.isRef = true := V_env.2.2.2.2.2.2
  obtain ⟨T488, X488, e488, st488⟩ := getS2 X0 hx hZ hown (host := "") (Or.inl (own_g hw 138)) Via.refl e0 (V_env.2.2.2.2.2.1.ext Od.2) (g := (mkF m 3 #[Iv 0, Iv 2, Iv 2] [(.int 2), (.int 2), (.int 0)])) rfl (hb hby d33_3)
  obtain ⟨_, _, ⟨T489, L489, k489, n489⟩, -, X489, ⟨Lc489, hQ489, l489, y489, z489⟩, st489⟩ := LawKit.callS X488 hx (y := mn29) hown (own_m hZ hw 140) (own_m hZ hw 141) (own_m hZ hw 139) (own_m hZ hw 142) (by decide) (backOf (W := 0) (rmCf2 l Z a0 hw [] gS h0 n0 Z0 hgS) hZ (own_g hw 142) (own_g hw 139) (by decide) (by decide)) (g := (mkF m 6 #[Iv 0, Iv 2, Iv 2] [gS, (.int 2), (.int 2), (.int 0)])) rfl (by rw [hml]; rfl) (argsL := [(.int (0 : Int32)), (.int (2 : Int32)), (.int (2 : Int32)), gS]) (rest := []) (lenOf own_pd429 rfl) rfl (own_z rfl) (hb hby d33_6) (fun _ _ => ⟨rfl, e488, (by decide : 0 + 0 ≤ _), (by decide : 0 + 0 ≤ _)⟩)
  dsimp only [Pt.U, Pt.locs, Pt.cells, Pt.slots] at X489 l489 y489 z489 st489 hQ489
  subst l489 y489 z489
  obtain ⟨rfl, Nq489, eh489⟩ := hQ489
  have N489 := Fr.app N0 Nq489
  refine own_by (fun _ k => XS.iloadN X0.here hx rfl (hb hby d33_0) rfl (XS.iloadN X0.here hx rfl (hb hby d33_1) rfl (XS.iloadN X0.here hx rfl (hb hby d33_2) rfl (st488 _ (st489 _ (XS.pop X489.here hx rfl (hb hby d33_9) rfl rfl k)))))) ?_
  exact own_retV X489 hx hlk hret (hb hby d33_10) ⟨rfl, N489, eh489⟩ (by decide) (by decide)
theorem rmCu2 (l : Launch) (Z : State) (a0 : Array Value) (hw : own_W a0 Z) (ws : List Jvm.Cond) (cs : Int32) (gS : Value) (v1 : Addr) (k1 : ClassId) (vs : List Value) (h0 : Heap) (n0 : Nat) (Z0 : n0 ≤ h0.size) (V_env : own_Env Z cs gS) (Od : Old Z n0 h0) (V1 : Arv Z h0 v1 k1 .byte (4 : Int32) vs (.int (0 : Int32))) : own_Met l Z mn31 jdk_52_method_93_code 3 none ws (own_R 2 0 0 29) #[(.int (0 : Int32)), (.int (2 : Int32)), (.ref v1)] h0 (own_QCb2 h0 n0) := by
  refine own_enter n0 (plainFor_of_name own_pn58) (fun m => ef_IIR_3 m (0 : Int32) (2 : Int32) v1 ) (fun p e s m below meth c s₁ hx hby hlk hml hret hown hnm hZ X0 e0 N0 => ?_)
  show own_Fin _ _ _ _ _ _ _ s₁ (mkF m 0 #[Iv 0, Iv 2, Rv v1] [])
  obtain ⟨_, _, ⟨T490, L490, k490, n490⟩, -, X490, ⟨Lc490, hQ490, l490, y490, z490⟩, st490⟩ := LawKit.callS X0 hx (y := mn28) hown (own_m hZ hw 132) (own_m hZ hw 133) (own_m hZ hw 74) (own_m hZ hw 134) (by decide) (backOf (W := 2) (rmLu2 l Z a0 hw [] v1 k1 vs h0 n0 Z0 V1) hZ (own_g hw 134) (own_g hw 74) (by decide) (by decide)) (g := (mkF m 3 #[Iv 0, Iv 2, Rv v1] [(.ref v1), (.int 2), (.int 0)])) rfl (by rw [hml]; rfl) (argsL := [(.ref v1)]) (rest := [(.int (2 : Int32)), (.int (0 : Int32))]) (lenOf own_pd437 rfl) rfl (own_z rfl) (hb hby d31_3) (fun _ _ => ⟨rfl, e0, (by decide : 0 + 0 ≤ _), (by decide : 0 + 0 ≤ _)⟩)
  dsimp only [Pt.U, Pt.locs, Pt.cells, Pt.slots] at X490 l490 y490 z490 st490 hQ490
  subst l490 y490 z490
  obtain ⟨rfl, Nq490, eh490⟩ := hQ490
  have N490 := Fr.app N0 Nq490
  obtain ⟨_, _, ⟨T491, L491, k491, n491⟩, -, X491, ⟨Lc491, hQ491, l491, y491, z491⟩, st491⟩ := LawKit.callS X490 hx (y := mn30) hown (own_m hZ hw 135) (own_m hZ hw 136) (own_m hZ hw 8) (own_m hZ hw 137) (by decide) (backOf (W := 0) (rmCb2 l Z a0 hw [] cs gS h0 n0 Z0 V_env Od) hZ (own_g hw 137) (own_g hw 8) (by decide) (by decide)) (g := (mkF m 6 #[Iv 0, Iv 2, Rv v1] [(.int 2), (.int 2), (.int 0)])) rfl (by rw [hml]; rfl) (argsL := [(.int (0 : Int32)), (.int (2 : Int32)), (.int (2 : Int32))]) (rest := []) (lenOf own_pd439 rfl) rfl (own_z rfl) (hb hby d31_6) (fun _ _ => ⟨rfl, eh490, (by decide : 0 + 0 ≤ _), (by decide : 0 + 0 ≤ _)⟩)
  dsimp only [Pt.U, Pt.locs, Pt.cells, Pt.slots] at X491 l491 y491 z491 st491 hQ491
  subst l491 y491 z491
  obtain ⟨rfl, Nq491, eh491⟩ := hQ491
  have N491 := Fr.app N490 Nq491
  refine own_by (fun _ k => XS.iloadN X0.here hx rfl (hb hby d31_0) rfl (XS.iloadN X0.here hx rfl (hb hby d31_1) rfl (XS.aloadN X0.here hx rfl (hb hby d31_2) rfl rfl (st490 _ (st491 _ k))))) ?_
  exact own_retV X491 hx hlk hret (hb hby d31_9) ⟨rfl, N491, eh491⟩ (by decide) (by decide)
def own_QrmIn2U (ch : Int32) (x0 x1 : Int32) (h0 : Heap) (n0 : Nat) (v : Option Value) (h : Heap) (L : List Loc) : Prop := v = some (.int (own_find ch [x0, x1] (0 : Int32))) ∧ Fr n0 L ∧ h = h0
set_option maxRecDepth 65536 in
set_option maxHeartbeats 40000000 in
theorem rmIn2U (l : Launch) (Z : State) (a0 : Array Value) (hw : own_W a0 Z) (ws : List Jvm.Cond) (cs : Int32) (gS : Value) (v1 : Addr) (k1 : ClassId) (ch : Int32) (x0 x1 : Int32) (h0 : Heap) (n0 : Nat) (Z0 : n0 ≤ h0.size) (V_env : own_Env Z cs gS) (Od : Old Z n0 h0) (V1 : Arv Z h0 v1 k1 .byte (4 : Int32) [(.int (own_lo x0)), (.int (own_hi x0)), (.int (own_lo x1)), (.int (own_hi x1))] (.int (0 : Int32))) (hq : own_cq ch) (hx0 : own_ch x0) (hx1 : own_ch x1) : own_Met l Z mn32 jdk_52_method_48_code 5 (some .int) ws (own_R 1 0 0 13) #[(.ref v1), (.int ch), (.int (0 : Int32)), (.int (2 : Int32))] h0 (own_QrmIn2U ch x0 x1 h0 n0) := by
  refine own_enter n0 (plainFor_of_name own_pn58) (fun m => ef_RIII_5 m v1 ch (0 : Int32) (2 : Int32) ) (fun p e s m below meth c s₁ hx hby hlk hml hret hown hnm hZ X0 e0 N0 => ?_)
  show own_Fin _ _ _ _ _ _ _ s₁ (mkF m 0 #[Rv v1, Iv ch, Iv 0, Iv 2, Uv] [])
  obtain ⟨_, _, ⟨T492, L492, k492, n492⟩, -, X492, ⟨Lc492, hQ492, l492, y492, z492⟩, st492⟩ := LawKit.callS X0 hx (y := mn8) hown (own_m hZ hw 117) (own_m hZ hw 118) (own_m hZ hw 74) (own_m hZ hw 119) (by decide) (backOf (W := 0) (rmGC2_0 l Z a0 hw [] cs gS v1 k1 x0 x1 h0 n0 Z0 V_env Od V1 hx0) hZ (own_g hw 119) (own_g hw 74) (by decide) (by decide)) (g := (mkF m 12 #[Rv v1, Iv ch, Iv 0, Iv 2, Iv 0] [(.int 0), (.ref v1)])) rfl (by rw [hml]; rfl) (argsL := [(.ref v1), (.int (0 : Int32))]) (rest := []) (lenOf own_pd195 rfl) rfl (own_z rfl) (hb hby d35_12) (fun _ _ => ⟨rfl, e0, (by decide : 0 + 0 ≤ _), (by decide : 0 + 0 ≤ _)⟩)
  dsimp only [Pt.U, Pt.locs, Pt.cells, Pt.slots] at X492 l492 y492 z492 st492 hQ492
  subst l492 y492 z492
  obtain ⟨rfl, Nq492, eh492⟩ := hQ492
  have N492 := Fr.app N0 Nq492
  refine own_by (fun _ k => XS.iloadN X0.here hx rfl (hb hby d35_0) rfl (XS.istore X0.here hx rfl (hb hby d35_1) rfl (l' := #[Rv v1, Iv ch, Iv 0, Iv 2, Iv 0]) rfl (XS.iload X0.here hx rfl (hb hby d35_3) rfl (XS.iloadN X0.here hx rfl (hb hby d35_5) rfl (XS.icmpNo X0.here hx rfl (hb hby d35_6) rfl (tlt (by decide : (0 : Int32) < (2 : Int32))).2.1 (XS.aloadN X0.here hx rfl (hb hby d35_9) rfl rfl (XS.iload X0.here hx rfl (hb hby d35_10) rfl (st492 _ (XS.iloadN X492.here hx rfl (hb hby d35_15) rfl k))))))))) ?_
  show own_Fin _ _ _ _ _ _ _ T492 (mkF m 16 #[Rv v1, Iv ch, Iv 0, Iv 2, Iv 0] [(.int ch), (.int x0)])
  by_cases hc16_493 : x0 = ch
  · show own_Fin _ _ _ _ _ _ _ T492 (mkF m 16 #[Rv v1, Iv ch, Iv 0, Iv 2, Iv 0] [(.int ch), (.int x0)])
    refine own_by (fun _ k => XS.icmpNo X492.here hx rfl (hb hby d35_16) rfl (teq hc16_493).2 (XS.iload X492.here hx rfl (hb hby d35_19) rfl k)) ?_
    exact own_retI X492 hx hlk hret (hb hby d35_21) ⟨own_vi (by show (0 : Int32) = _; first | (simp only [own_find, if_neg V_env.2.2.2.2.1, if_neg hq.1, if_neg hq.2.1, if_pos hq.2.2, if_pos hc16_493]; done) | (simp only [own_find, if_neg V_env.2.2.2.2.1, if_neg hq.1, if_neg hq.2.1, if_pos hq.2.2, if_pos hc16_493]; decide) | simp [own_find, V_env.2.2.2.2.1, hq.1, hq.2.1, hq.2.2, hc16_493]), N492, eh492⟩ (by decide) (by decide)
  · show own_Fin _ _ _ _ _ _ _ T492 (mkF m 16 #[Rv v1, Iv ch, Iv 0, Iv 2, Iv 0] [(.int ch), (.int x0)])
    refine own_by (fun _ k => XS.icmpYes X492.here hx rfl (pc0 := 16) (pc' := 22) rfl (hb hby d35_16) rfl (feq hc16_493).2 (by decide) (by decide) (XS.iinc X492.here hx rfl (hb hby d35_22) rfl (l' := #[Rv v1, Iv ch, Iv 0, Iv 2, Iv ((0 : Int32) + (1 : Int32))]) rfl k)) ?_
    show own_Fin _ _ _ _ _ _ _ T492 (mkF m 25 #[Rv v1, Iv ch, Iv 0, Iv 2, Iv ((0 : Int32) + (1 : Int32))] [])
    rw [(by decide : ((0 : Int32) + (1 : Int32)) = (1 : Int32))]
    show own_Fin _ _ _ _ _ _ _ T492 (mkF m 25 #[Rv v1, Iv ch, Iv 0, Iv 2, Iv 1] [])
    obtain ⟨_, _, ⟨T494, L494, k494, n494⟩, -, X494, ⟨Lc494, hQ494, l494, y494, z494⟩, st494⟩ := LawKit.callS X492 hx (y := mn8) hown (own_m hZ hw 117) (own_m hZ hw 118) (own_m hZ hw 74) (own_m hZ hw 119) (by decide) (backOf (W := 0) (rmGC2_1 l Z a0 hw [] cs gS v1 k1 x0 x1 h0 n0 Z0 V_env Od V1 hx1) hZ (own_g hw 119) (own_g hw 74) (by decide) (by decide)) (g := (mkF m 12 #[Rv v1, Iv ch, Iv 0, Iv 2, Iv 1] [(.int 1), (.ref v1)])) rfl (by rw [hml]; rfl) (argsL := [(.ref v1), (.int (1 : Int32))]) (rest := []) (lenOf own_pd195 rfl) rfl (own_z rfl) (hb hby d35_12) (fun _ _ => ⟨rfl, eh492, (by decide : 0 + 0 ≤ _), (by decide : 0 + 0 ≤ _)⟩)
    dsimp only [Pt.U, Pt.locs, Pt.cells, Pt.slots] at X494 l494 y494 z494 st494 hQ494
    subst l494 y494 z494
    obtain ⟨rfl, Nq494, eh494⟩ := hQ494
    have N494 := Fr.app N492 Nq494
    refine own_by (fun _ k => XS.goto X492.here hx rfl (pc0 := 25) (pc' := 3) rfl (hb hby d35_25) (by decide) (by decide) (XS.iload X492.here hx rfl (hb hby d35_3) rfl (XS.iloadN X492.here hx rfl (hb hby d35_5) rfl (XS.icmpNo X492.here hx rfl (hb hby d35_6) rfl (tlt (by decide : (1 : Int32) < (2 : Int32))).2.1 (XS.aloadN X492.here hx rfl (hb hby d35_9) rfl rfl (XS.iload X492.here hx rfl (hb hby d35_10) rfl (st494 _ (XS.iloadN X494.here hx rfl (hb hby d35_15) rfl k)))))))) ?_
    show own_Fin _ _ _ _ _ _ _ T494 (mkF m 16 #[Rv v1, Iv ch, Iv 0, Iv 2, Iv 1] [(.int ch), (.int x1)])
    by_cases hc16_495 : x1 = ch
    · show own_Fin _ _ _ _ _ _ _ T494 (mkF m 16 #[Rv v1, Iv ch, Iv 0, Iv 2, Iv 1] [(.int ch), (.int x1)])
      refine own_by (fun _ k => XS.icmpNo X494.here hx rfl (hb hby d35_16) rfl (teq hc16_495).2 (XS.iload X494.here hx rfl (hb hby d35_19) rfl k)) ?_
      exact own_retI X494 hx hlk hret (hb hby d35_21) ⟨own_vi (by show (1 : Int32) = _; first | (simp only [own_find, if_neg V_env.2.2.2.2.1, if_neg hq.1, if_neg hq.2.1, if_pos hq.2.2, if_neg hc16_493, if_pos hc16_495]; done) | (simp only [own_find, if_neg V_env.2.2.2.2.1, if_neg hq.1, if_neg hq.2.1, if_pos hq.2.2, if_neg hc16_493, if_pos hc16_495]; decide) | simp [own_find, V_env.2.2.2.2.1, hq.1, hq.2.1, hq.2.2, hc16_493, hc16_495]), N494, eh494⟩ (by decide) (by decide)
    · show own_Fin _ _ _ _ _ _ _ T494 (mkF m 16 #[Rv v1, Iv ch, Iv 0, Iv 2, Iv 1] [(.int ch), (.int x1)])
      refine own_by (fun _ k => XS.icmpYes X494.here hx rfl (pc0 := 16) (pc' := 22) rfl (hb hby d35_16) rfl (feq hc16_495).2 (by decide) (by decide) (XS.iinc X494.here hx rfl (hb hby d35_22) rfl (l' := #[Rv v1, Iv ch, Iv 0, Iv 2, Iv ((1 : Int32) + (1 : Int32))]) rfl k)) ?_
      show own_Fin _ _ _ _ _ _ _ T494 (mkF m 25 #[Rv v1, Iv ch, Iv 0, Iv 2, Iv ((1 : Int32) + (1 : Int32))] [])
      rw [(by decide : ((1 : Int32) + (1 : Int32)) = (2 : Int32))]
      show own_Fin _ _ _ _ _ _ _ T494 (mkF m 25 #[Rv v1, Iv ch, Iv 0, Iv 2, Iv 2] [])
      refine own_by (fun _ k => XS.goto X494.here hx rfl (pc0 := 25) (pc' := 3) rfl (hb hby d35_25) (by decide) (by decide) (XS.iload X494.here hx rfl (hb hby d35_3) rfl (XS.iloadN X494.here hx rfl (hb hby d35_5) rfl (XS.icmpYes X494.here hx rfl (pc0 := 6) (pc' := 28) rfl (hb hby d35_6) rfl (flt (by decide : ¬ ((2 : Int32) < (2 : Int32)))).2.1 (by decide) (by decide) (XS.iconst X494.here hx rfl (hb hby d35_28) k))))) ?_
      exact own_retI X494 hx hlk hret (hb hby d35_29) ⟨own_vi (by show (-1 : Int32) = _; first | (simp only [own_find, if_neg V_env.2.2.2.2.1, if_neg hq.1, if_neg hq.2.1, if_pos hq.2.2, if_neg hc16_493, if_neg hc16_495]; done) | (simp only [own_find, if_neg V_env.2.2.2.2.1, if_neg hq.1, if_neg hq.2.1, if_pos hq.2.2, if_neg hc16_493, if_neg hc16_495]; decide) | simp [own_find, V_env.2.2.2.2.1, hq.1, hq.2.1, hq.2.2, hc16_493, hc16_495]), N494, eh494⟩ (by decide) (by decide)
def own_QrmIc2U (ch : Int32) (x0 x1 : Int32) (h0 : Heap) (n0 : Nat) (v : Option Value) (h : Heap) (L : List Loc) : Prop := v = some (.int (own_find ch [x0, x1] (0 : Int32))) ∧ Fr n0 L ∧ h = h0
theorem rmIc2U (l : Launch) (Z : State) (a0 : Array Value) (hw : own_W a0 Z) (ws : List Jvm.Cond) (cs : Int32) (gS : Value) (v1 : Addr) (k1 : ClassId) (ch : Int32) (x0 x1 : Int32) (h0 : Heap) (n0 : Nat) (Z0 : n0 ≤ h0.size) (V_env : own_Env Z cs gS) (Od : Old Z n0 h0) (V1 : Arv Z h0 v1 k1 .byte (4 : Int32) [(.int (own_lo x0)), (.int (own_hi x0)), (.int (own_lo x1)), (.int (own_hi x1))] (.int (0 : Int32))) (hq : own_cq ch) (hx0 : own_ch x0) (hx1 : own_ch x1) : own_Met l Z mn33 jdk_52_method_47_code 4 (some .int) ws (own_R 3 0 0 43) #[(.ref v1), (.int ch), (.int (0 : Int32)), (.int (2 : Int32))] h0 (own_QrmIc2U ch x0 x1 h0 n0) := by
  refine own_enter n0 (plainFor_of_name own_pn58) (fun m => ef_RIII_4 m v1 ch (0 : Int32) (2 : Int32) ) (fun p e s m below meth c s₁ hx hby hlk hml hret hown hnm hZ X0 e0 N0 => ?_)
  show own_Fin _ _ _ _ _ _ _ s₁ (mkF m 0 #[Rv v1, Iv ch, Iv 0, Iv 2] [])
  obtain ⟨_, _, ⟨T496, L496, k496, n496⟩, -, X496, ⟨Lc496, hQ496, l496, y496, z496⟩, st496⟩ := LawKit.callS X0 hx (y := mn31) hown (own_m hZ hw 129) (own_m hZ hw 130) (own_m hZ hw 74) (own_m hZ hw 131) (by decide) (backOf (W := 0) (rmCu2 l Z a0 hw [] cs gS v1 k1 [(.int (own_lo x0)), (.int (own_hi x0)), (.int (own_lo x1)), (.int (own_hi x1))] h0 n0 Z0 V_env Od V1) hZ (own_g hw 131) (own_g hw 74) (by decide) (by decide)) (g := (mkF m 3 #[Rv v1, Iv ch, Iv 0, Iv 2] [(.ref v1), (.int 2), (.int 0)])) rfl (by rw [hml]; rfl) (argsL := [(.int (0 : Int32)), (.int (2 : Int32)), (.ref v1)]) (rest := []) (lenOf own_pd462 rfl) rfl (own_z rfl) (hb hby d30_3) (fun _ _ => ⟨rfl, e0, (by decide : 0 + 0 ≤ _), (by decide : 0 + 0 ≤ _)⟩)
  dsimp only [Pt.U, Pt.locs, Pt.cells, Pt.slots] at X496 l496 y496 z496 st496 hQ496
  subst l496 y496 z496
  obtain ⟨rfl, Nq496, eh496⟩ := hQ496
  have N496 := Fr.app N0 Nq496
  obtain ⟨_, _, ⟨T497, L497, k497, n497⟩, -, X497, ⟨Lc497, hQ497, l497, y497, z497⟩, st497⟩ := LawKit.callS X496 hx (y := mn32) hown (own_m hZ hw 143) (own_m hZ hw 144) (own_m hZ hw 74) (own_m hZ hw 145) (by decide) (backOf (W := 0) (rmIn2U l Z a0 hw [] cs gS v1 k1 ch x0 x1 h0 n0 Z0 V_env Od V1 hq hx0 hx1) hZ (own_g hw 145) (own_g hw 74) (by decide) (by decide)) (g := (mkF m 10 #[Rv v1, Iv ch, Iv 0, Iv 2] [(.int 2), (.int 0), (.int ch), (.ref v1)])) rfl (by rw [hml]; rfl) (argsL := [(.ref v1), (.int ch), (.int (0 : Int32)), (.int (2 : Int32))]) (rest := []) (lenOf own_pd359 rfl) rfl (own_z rfl) (hb hby d30_10) (fun _ _ => ⟨rfl, eh496, (by decide : 0 + 0 ≤ _), (by decide : 0 + 0 ≤ _)⟩)
  dsimp only [Pt.U, Pt.locs, Pt.cells, Pt.slots] at X497 l497 y497 z497 st497 hQ497
  subst l497 y497 z497
  obtain ⟨rfl, Nq497, eh497⟩ := hQ497
  have N497 := Fr.app N496 Nq497
  refine own_by (fun _ k => XS.iloadN X0.here hx rfl (hb hby d30_0) rfl (XS.iloadN X0.here hx rfl (hb hby d30_1) rfl (XS.aloadN X0.here hx rfl (hb hby d30_2) rfl rfl (st496 _ (XS.aloadN X496.here hx rfl (hb hby d30_6) rfl rfl (XS.iloadN X496.here hx rfl (hb hby d30_7) rfl (XS.iloadN X496.here hx rfl (hb hby d30_8) rfl (XS.iloadN X496.here hx rfl (hb hby d30_9) rfl (st497 _ k))))))))) ?_
  exact own_retI X497 hx hlk hret (hb hby d30_13) ⟨rfl, N497, eh497⟩ (by decide) (by decide)
def own_QrmIo2U (ch : Int32) (x0 x1 : Int32) (h0 : Heap) (n0 : Nat) (v : Option Value) (h : Heap) (L : List Loc) : Prop := v = some (.int (own_find ch [x0, x1] (0 : Int32))) ∧ Fr n0 L ∧ h = h0
set_option maxRecDepth 65536 in
set_option maxHeartbeats 40000000 in
theorem rmIo2U (l : Launch) (Z : State) (a0 : Array Value) (hw : own_W a0 Z) (ws : List Jvm.Cond) (cs : Int32) (gS : Value) (v1 : Addr) (k1 : ClassId) (ch : Int32) (x0 x1 : Int32) (h0 : Heap) (n0 : Nat) (Z0 : n0 ≤ h0.size) (V_env : own_Env Z cs gS) (Od : Old Z n0 h0) (V1 : Arv Z h0 v1 k1 .byte (4 : Int32) [(.int (own_lo x0)), (.int (own_hi x0)), (.int (own_lo x1)), (.int (own_hi x1))] (.int (0 : Int32))) (hq : own_cq ch) (hx0 : own_ch x0) (hx1 : own_ch x1) : own_Met l Z mn34 jdk_52_method_40_code 4 (some .int) ws (own_R 4 0 0 58) #[(.ref v1), (.int ch), (.int (0 : Int32)), (.int (2 : Int32))] h0 (own_QrmIo2U ch x0 x1 h0 n0) := by
  refine own_enter n0 (plainFor_of_name own_pn58) (fun m => ef_RIII_4 m v1 ch (0 : Int32) (2 : Int32) ) (fun p e s m below meth c s₁ hx hby hlk hml hret hown hnm hZ X0 e0 N0 => ?_)
  show own_Fin _ _ _ _ _ _ _ s₁ (mkF m 0 #[Rv v1, Iv ch, Iv 0, Iv 2] [])
  obtain ⟨_, _, ⟨T498, L498, k498, n498⟩, -, X498, ⟨Lc498, hQ498, l498, y498, z498⟩, st498⟩ := LawKit.callS X0 hx (y := mn20) hown (own_m hZ hw 123) (own_m hZ hw 66) (own_m hZ hw 67) (own_m hZ hw 68) (by decide) (backOf (W := 0) (rmmax_0_0 l Z a0 hw []  h0 n0 Z0 ) hZ (own_g hw 68) (own_g hw 67) (by decide) (by decide)) (g := (mkF m 2 #[Rv v1, Iv ch, Iv 0, Iv 2] [(.int 0), (.int 0)])) rfl (by rw [hml]; rfl) (argsL := [(.int (0 : Int32)), (.int (0 : Int32))]) (rest := []) (lenOf own_pd327 rfl) rfl (own_z rfl) (hb hby d29_2) (fun _ _ => ⟨rfl, e0, (by decide : 0 + 0 ≤ _), (by decide : 0 + 0 ≤ _)⟩)
  dsimp only [Pt.U, Pt.locs, Pt.cells, Pt.slots] at X498 l498 y498 z498 st498 hQ498
  subst l498 y498 z498
  obtain ⟨rfl, Nq498, eh498⟩ := hQ498
  have N498 := Fr.app N0 Nq498
  obtain ⟨cl499, Ar499, -, S499, M499, -, -⟩ := id V1
  refine own_by (fun _ k => XS.iloadN X0.here hx rfl (hb hby d29_0) rfl (XS.iconst X0.here hx rfl (hb hby d29_1) (st498 _ (XS.istoreN X498.here hx rfl (hb hby d29_5) rfl (l' := #[Rv v1, Iv ch, Iv 0, Iv 2]) rfl (XS.iloadN X498.here hx rfl (hb hby d29_6) rfl (XS.aloadN X498.here hx rfl (hb hby d29_7) rfl rfl (X498.arraylength hx (by rw [eh498]; exact Ar499.1) (State.isArrayOf_alike hZ.alike Ar499.2.1) (g := (mkF m 8 #[Rv v1, Iv ch, Iv 0, Iv 2] [(.ref v1), (.int 2)])) rfl rfl (hb hby d29_8) _ k))))))) ?_
  rw [len_of S499 M499]
  show own_Fin _ _ _ _ _ _ _ T498 (mkF m 9 #[Rv v1, Iv ch, Iv 0, Iv 2] [(.int 4), (.int 2)])
  refine own_by (fun _ k => XS.iconst X498.here hx rfl (hb hby d29_9) (XS.ishr X498.here hx rfl (hb hby d29_10) rfl k)) ?_
  show own_Fin _ _ _ _ _ _ _ T498 (mkF m 11 #[Rv v1, Iv ch, Iv 0, Iv 2] [(.int ((4 : Int32) >>> ((1 : Int32) &&& 31))), (.int 2)])
  rw [(by decide : ((4 : Int32) >>> ((1 : Int32) &&& 31)) = (2 : Int32))]
  show own_Fin _ _ _ _ _ _ _ T498 (mkF m 11 #[Rv v1, Iv ch, Iv 0, Iv 2] [(.int 2), (.int 2)])
  obtain ⟨_, _, ⟨T500, L500, k500, n500⟩, -, X500, ⟨Lc500, hQ500, l500, y500, z500⟩, st500⟩ := LawKit.callS X498 hx (y := mn21) hown (own_m hZ hw 124) (own_m hZ hw 70) (own_m hZ hw 67) (own_m hZ hw 71) (by decide) (backOf (W := 0) (rmmin_2_2 l Z a0 hw []  h0 n0 Z0 ) hZ (own_g hw 71) (own_g hw 67) (by decide) (by decide)) (g := (mkF m 11 #[Rv v1, Iv ch, Iv 0, Iv 2] [(.int 2), (.int 2)])) rfl (by rw [hml]; rfl) (argsL := [(.int (2 : Int32)), (.int (2 : Int32))]) (rest := []) (lenOf own_pd327 rfl) rfl (own_z rfl) (hb hby d29_11) (fun _ _ => ⟨rfl, eh498, (by decide : 0 + 0 ≤ _), (by decide : 0 + 0 ≤ _)⟩)
  dsimp only [Pt.U, Pt.locs, Pt.cells, Pt.slots] at X500 l500 y500 z500 st500 hQ500
  subst l500 y500 z500
  obtain ⟨rfl, Nq500, eh500⟩ := hQ500
  have N500 := Fr.app N498 Nq500
  refine own_by (fun _ k => st500 _ (XS.istoreN X500.here hx rfl (hb hby d29_14) rfl (l' := #[Rv v1, Iv ch, Iv 0, Iv 2]) rfl (XS.iloadN X500.here hx rfl (hb hby d29_15) rfl (XS.iloadN X500.here hx rfl (hb hby d29_16) rfl (XS.icmpYes X500.here hx rfl (pc0 := 17) (pc' := 22) rfl (hb hby d29_17) rfl (tlt (by decide : (0 : Int32) < (2 : Int32))).1 (by decide) (by decide) (XS.iloadN X500.here hx rfl (hb hby d29_22) rfl (X500.ldcInt hx hown (own_m hZ hw 125) (g := (mkF m 23 #[Rv v1, Iv ch, Iv 0, Iv 2] [(.int ch)])) rfl (hb hby d29_23) _ (XS.icmpNo X500.here hx rfl (hb hby d29_25) rfl (tlt hq.2.2).2.1 (XS.aloadN X500.here hx rfl (hb hby d29_28) rfl rfl (XS.iloadN X500.here hx rfl (hb hby d29_29) rfl k)))))))))) ?_
  show own_Fin _ _ _ _ _ _ _ T500 (mkF m 30 #[Rv v1, Iv ch, Iv 0, Iv 2] [(.int ch), (.ref v1)])
  obtain ⟨_, _, ⟨T501, L501, k501, n501⟩, -, X501, ⟨Lc501, hQ501, l501, y501, z501⟩, st501⟩ := LawKit.callS X500 hx (y := mn33) hown (own_m hZ hw 126) (own_m hZ hw 127) (own_m hZ hw 74) (own_m hZ hw 128) (by decide) (backOf (W := 0) (rmIc2U l Z a0 hw [] cs gS v1 k1 ch x0 x1 h0 n0 Z0 V_env Od V1 hq hx0 hx1) hZ (own_g hw 128) (own_g hw 74) (by decide) (by decide)) (g := (mkF m 32 #[Rv v1, Iv ch, Iv 0, Iv 2] [(.int 2), (.int 0), (.int ch), (.ref v1)])) rfl (by rw [hml]; rfl) (argsL := [(.ref v1), (.int ch), (.int (0 : Int32)), (.int (2 : Int32))]) (rest := []) (lenOf own_pd359 rfl) rfl (own_z rfl) (hb hby d29_32) (fun _ _ => ⟨rfl, eh500, (by decide : 0 + 0 ≤ _), (by decide : 0 + 0 ≤ _)⟩)
  dsimp only [Pt.U, Pt.locs, Pt.cells, Pt.slots] at X501 l501 y501 z501 st501 hQ501
  subst l501 y501 z501
  obtain ⟨rfl, Nq501, eh501⟩ := hQ501
  have N501 := Fr.app N500 Nq501
  refine own_by (fun _ k => XS.iloadN X500.here hx rfl (hb hby d29_30) rfl (XS.iloadN X500.here hx rfl (hb hby d29_31) rfl (st501 _ k))) ?_
  exact own_retI X501 hx hlk hret (hb hby d29_35) ⟨rfl, N501, eh501⟩ (by decide) (by decide)
def own_QrmSl2_U (h0 : Heap) (n0 : Nat) (v : Option Value) (h : Heap) (L : List Loc) : Prop := v = some (.int (2 : Int32)) ∧ Fr n0 L ∧ h = h0
theorem rmSl2_U (l : Launch) (Z : State) (a0 : Array Value) (hw : own_W a0 Z) (ws : List Jvm.Cond) (cs : Int32) (gS : Value) (a1 v1 : Addr) (k1 : ClassId) (vs : List Value) (h0 : Heap) (n0 : Nat) (Z0 : n0 ≤ h0.size) (V_env : own_Env Z cs gS) (Od : Old Z n0 h0) (E_a1 : Exa Z h0 a1 "java/lang/String") (F1 : Fld Z h0 a1 "java/lang/String" "value" "[B" (.ref v1)) (F2 : Fld Z h0 a1 "java/lang/String" "coder" "B" (.int (1 : Int32))) (V1 : Arv Z h0 v1 k1 .byte (4 : Int32) vs (.int (0 : Int32))) : own_Met l Z mn23 jdk_42_method_54_code 1 (some .int) ws (own_R 1 0 0 13) #[(.ref a1)] h0 (own_QrmSl2_U h0 n0) := by
  refine own_enter n0 (plainFor_of_name own_pn34) (fun m => ef_R_1 m a1 ) (fun p e s m below meth c s₁ hx hby hlk hml hret hown hnm hZ X0 e0 N0 => ?_)
  show own_Fin _ _ _ _ _ _ _ s₁ (mkF m 0 #[Rv a1] [])
  obtain ⟨T502, X502, e502, st502⟩ := getF X0 hx hZ hown (host := "") (Or.inl (own_g hw 26)) Via.refl e0 F1 (g := (mkF m 1 #[Rv a1] [(.ref a1)])) rfl rfl (hb hby d9_1)
  obtain ⟨cl503, Ar503, -, S503, M503, -, -⟩ := id V1
  refine own_by (fun _ k => XS.aloadN X0.here hx rfl (hb hby d9_0) rfl rfl (st502 _ (X502.arraylength hx (by rw [e502]; exact Ar503.1) (State.isArrayOf_alike hZ.alike Ar503.2.1) (g := (mkF m 4 #[Rv a1] [(.ref v1)])) rfl rfl (hb hby d9_4) _ k))) ?_
  rw [len_of S503 M503]
  show own_Fin _ _ _ _ _ _ _ T502 (mkF m 5 #[Rv a1] [(.int 4)])
  obtain ⟨cq504, kq504, q504a, q504b, q504c⟩ := isOf hZ e502 E_a1
  obtain ⟨_, _, ⟨T504, L504, k504, n504⟩, -, X504, ⟨Lc504, hQ504, l504, y504, z504⟩, st504⟩ := X502.virtualBack hx (y := mn18) (z := mn18) hown (own_m hZ hw 53) (own_m hZ hw 54) (notFace_of_selects (args := #[]) (own_m hZ hw 56)) (own_m hZ hw 56) (own_m hZ hw 55) (by decide) (backOf (W := 1) (rmCd1 l Z a0 hw [] cs gS a1 h0 n0 Z0 V_env Od F2) hZ (own_g hw 57) (own_g hw 8) (by decide) (by decide)) q504a q504c (g := (mkF m 6 #[Rv a1] [(.ref a1), (.int 4)])) rfl (by rw [hml]; rfl) (Steps.refl _) (argsL := []) (rest := [(.int (4 : Int32))]) (lenOf own_pd344 rfl) rfl (own_z rfl) (hb hby d9_6) (fun _ _ => ⟨rfl, e502, (by decide : 0 + 0 ≤ _), (by decide : 0 + 0 ≤ _)⟩)
  dsimp only [Pt.U, Pt.locs, Pt.cells, Pt.slots] at X504 l504 y504 z504 st504 hQ504
  subst l504 y504 z504
  obtain ⟨rfl, Nq504, eh504⟩ := hQ504
  have N504 := Fr.app N0 Nq504
  refine own_by (fun _ k => XS.aloadN X502.here hx rfl (hb hby d9_5) rfl rfl (st504.trans (XS.ishr X504.here hx rfl (hb hby d9_9) rfl k))) ?_
  show own_Fin _ _ _ _ _ _ _ T504 (mkF m 10 #[Rv a1] [(.int ((4 : Int32) >>> ((1 : Int32) &&& 31)))])
  rw [(by decide : ((4 : Int32) >>> ((1 : Int32) &&& 31)) = (2 : Int32))]
  show own_Fin _ _ _ _ _ _ _ T504 (mkF m 10 #[Rv a1] [(.int 2)])
  exact own_retI X504 hx hlk hret (hb hby d9_10) ⟨rfl, N504, eh504⟩ (by decide) (by decide)
def own_QrmI22U (ch : Int32) (x0 x1 : Int32) (h0 : Heap) (n0 : Nat) (v : Option Value) (h : Heap) (L : List Loc) : Prop := v = some (.int (own_find ch [x0, x1] (0 : Int32))) ∧ Fr n0 L ∧ h = h0
set_option maxRecDepth 65536 in
set_option maxHeartbeats 40000000 in
theorem rmI22U (l : Launch) (Z : State) (a0 : Array Value) (hw : own_W a0 Z) (ws : List Jvm.Cond) (cs : Int32) (gS : Value) (a1 : Addr) (v1 : Addr) (k1 : ClassId) (ch : Int32) (x0 x1 : Int32) (h0 : Heap) (n0 : Nat) (Z0 : n0 ≤ h0.size) (V_env : own_Env Z cs gS) (Od : Old Z n0 h0) (E_a1 : Exa Z h0 a1 "java/lang/String") (F1 : Fld Z h0 a1 "java/lang/String" "value" "[B" (.ref v1)) (F2 : Fld Z h0 a1 "java/lang/String" "coder" "B" (.int (1 : Int32))) (V1 : Arv Z h0 v1 k1 .byte (4 : Int32) [(.int (own_lo x0)), (.int (own_hi x0)), (.int (own_lo x1)), (.int (own_hi x1))] (.int (0 : Int32))) (hq : own_cq ch) (hx0 : own_ch x0) (hx1 : own_ch x1) : own_Met l Z mn24 jdk_42_method_80_code 3 (some .int) ws (own_R 5 0 0 73) #[(.ref a1), (.int ch), (.int (0 : Int32))] h0 (own_QrmI22U ch x0 x1 h0 n0) := by
  refine own_enter n0 (plainFor_of_name own_pn34) (fun m => ef_RII_3 m a1 ch (0 : Int32) ) (fun p e s m below meth c s₁ hx hby hlk hml hret hown hnm hZ X0 e0 N0 => ?_)
  show own_Fin _ _ _ _ _ _ _ s₁ (mkF m 0 #[Rv a1, Iv ch, Iv 0] [])
  obtain ⟨cq505, kq505, q505a, q505b, q505c⟩ := isOf hZ e0 E_a1
  obtain ⟨_, _, ⟨T505, L505, k505, n505⟩, -, X505, ⟨Lc505, hQ505, l505, y505, z505⟩, st505⟩ := X0.virtualBack hx (y := mn17) (z := mn17) hown (own_m hZ hw 42) (own_m hZ hw 43) (notFace_of_selects (args := #[]) (own_m hZ hw 45)) (own_m hZ hw 45) (own_m hZ hw 44) (by decide) (backOf (W := 0) (rmIs1 l Z a0 hw [] cs gS a1 h0 n0 Z0 V_env Od F2) hZ (own_g hw 46) (own_g hw 8) (by decide) (by decide)) q505a q505c (g := (mkF m 1 #[Rv a1, Iv ch, Iv 0] [(.ref a1)])) rfl (by rw [hml]; rfl) (Steps.refl _) (argsL := []) (rest := []) (lenOf own_pd349 rfl) rfl (own_z rfl) (hb hby d7_1) (fun _ _ => ⟨rfl, e0, (by decide : 0 + 0 ≤ _), (by decide : 0 + 0 ≤ _)⟩)
  dsimp only [Pt.U, Pt.locs, Pt.cells, Pt.slots] at X505 l505 y505 z505 st505 hQ505
  subst l505 y505 z505
  obtain ⟨rfl, Nq505, eh505⟩ := hQ505
  have N505 := Fr.app N0 Nq505
  obtain ⟨T506, X506, e506, st506⟩ := getF X505 hx hZ hown (host := "") (Or.inl (own_g hw 26)) Via.refl eh505 F1 (g := (mkF m 24 #[Rv a1, Iv ch, Iv 0] [(.ref a1)])) rfl rfl (hb hby d7_24)
  obtain ⟨cq507, kq507, q507a, q507b, q507c⟩ := isOf hZ e506 E_a1
  obtain ⟨_, _, ⟨T507, L507, k507, n507⟩, -, X507, ⟨Lc507, hQ507, l507, y507, z507⟩, st507⟩ := X506.virtualBack hx (y := mn23) (z := mn23) hown (own_m hZ hw 48) (own_m hZ hw 49) (notFace_of_selects (args := #[]) (own_m hZ hw 51)) (own_m hZ hw 51) (own_m hZ hw 50) (by decide) (backOf (W := 3) (rmSl2_U l Z a0 hw [] cs gS a1 v1 k1 [(.int (own_lo x0)), (.int (own_hi x0)), (.int (own_lo x1)), (.int (own_hi x1))] h0 n0 Z0 V_env Od E_a1 F1 F2 V1) hZ (own_g hw 52) (own_g hw 8) (by decide) (by decide)) q507a q507c (g := (mkF m 30 #[Rv a1, Iv ch, Iv 0] [(.ref a1), (.int 0), (.int ch), (.ref v1)])) rfl (by rw [hml]; rfl) (Steps.refl _) (argsL := []) (rest := [(.int (0 : Int32)), (.int ch), (.ref v1)]) (lenOf own_pd357 rfl) rfl (own_z rfl) (hb hby d7_30) (fun _ _ => ⟨rfl, e506, (by decide : 0 + 0 ≤ _), (by decide : 0 + 0 ≤ _)⟩)
  dsimp only [Pt.U, Pt.locs, Pt.cells, Pt.slots] at X507 l507 y507 z507 st507 hQ507
  subst l507 y507 z507
  obtain ⟨rfl, Nq507, eh507⟩ := hQ507
  have N507 := Fr.app N505 Nq507
  obtain ⟨_, _, ⟨T508, L508, k508, n508⟩, -, X508, ⟨Lc508, hQ508, l508, y508, z508⟩, st508⟩ := LawKit.callS X507 hx (y := mn34) hown (own_m hZ hw 120) (own_m hZ hw 121) (own_m hZ hw 74) (own_m hZ hw 122) (by decide) (backOf (W := 0) (rmIo2U l Z a0 hw [] cs gS v1 k1 ch x0 x1 h0 n0 Z0 V_env Od V1 hq hx0 hx1) hZ (own_g hw 122) (own_g hw 74) (by decide) (by decide)) (g := (mkF m 33 #[Rv a1, Iv ch, Iv 0] [(.int 2), (.int 0), (.int ch), (.ref v1)])) rfl (by rw [hml]; rfl) (argsL := [(.ref v1), (.int ch), (.int (0 : Int32)), (.int (2 : Int32))]) (rest := []) (lenOf own_pd359 rfl) rfl (own_z rfl) (hb hby d7_33) (fun _ _ => ⟨rfl, eh507, (by decide : 0 + 0 ≤ _), (by decide : 0 + 0 ≤ _)⟩)
  dsimp only [Pt.U, Pt.locs, Pt.cells, Pt.slots] at X508 l508 y508 z508 st508 hQ508
  subst l508 y508 z508
  obtain ⟨rfl, Nq508, eh508⟩ := hQ508
  have N508 := Fr.app N507 Nq508
  refine own_by (fun _ k => XS.aloadN X0.here hx rfl (hb hby d7_0) rfl rfl (st505.trans (XS.ifYes X505.here hx rfl (pc0 := 4) (pc' := 23) rfl (hb hby d7_4) rfl ((if0 _ _).trans (teq (by decide : (0 : Int32) = (0 : Int32))).1) (by decide) (by decide) (XS.aloadN X505.here hx rfl (hb hby d7_23) rfl rfl (st506 _ (XS.iloadN X506.here hx rfl (hb hby d7_27) rfl (XS.iloadN X506.here hx rfl (hb hby d7_28) rfl (XS.aloadN X506.here hx rfl (hb hby d7_29) rfl rfl (st507.trans (st508 _ k)))))))))) ?_
  exact own_retI X508 hx hlk hret (hb hby d7_36) ⟨rfl, N508, eh508⟩ (by decide) (by decide)
def own_QrmIx2U (ch : Int32) (x0 x1 : Int32) (h0 : Heap) (n0 : Nat) (v : Option Value) (h : Heap) (L : List Loc) : Prop := v = some (.int (own_find ch [x0, x1] (0 : Int32))) ∧ Fr n0 L ∧ h = h0
theorem rmIx2U (l : Launch) (Z : State) (a0 : Array Value) (hw : own_W a0 Z) (ws : List Jvm.Cond) (cs : Int32) (gS : Value) (a1 : Addr) (v1 : Addr) (k1 : ClassId) (ch : Int32) (x0 x1 : Int32) (h0 : Heap) (n0 : Nat) (Z0 : n0 ≤ h0.size) (V_env : own_Env Z cs gS) (Od : Old Z n0 h0) (E_a1 : Exa Z h0 a1 "java/lang/String") (F1 : Fld Z h0 a1 "java/lang/String" "value" "[B" (.ref v1)) (F2 : Fld Z h0 a1 "java/lang/String" "coder" "B" (.int (1 : Int32))) (V1 : Arv Z h0 v1 k1 .byte (4 : Int32) [(.int (own_lo x0)), (.int (own_hi x0)), (.int (own_lo x1)), (.int (own_hi x1))] (.int (0 : Int32))) (hq : own_cq ch) (hx0 : own_ch x0) (hx1 : own_ch x1) : own_Met l Z mn25 jdk_42_method_79_code 2 (some .int) ws (own_R 6 0 0 87) #[(.ref a1), (.int ch)] h0 (own_QrmIx2U ch x0 x1 h0 n0) := by
  refine own_enter n0 (plainFor_of_name own_pn34) (fun m => ef_RI_2 m a1 ch ) (fun p e s m below meth c s₁ hx hby hlk hml hret hown hnm hZ X0 e0 N0 => ?_)
  show own_Fin _ _ _ _ _ _ _ s₁ (mkF m 0 #[Rv a1, Iv ch] [])
  obtain ⟨cq509, kq509, q509a, q509b, q509c⟩ := isOf hZ e0 E_a1
  obtain ⟨_, _, ⟨T509, L509, k509, n509⟩, -, X509, ⟨Lc509, hQ509, l509, y509, z509⟩, st509⟩ := X0.virtualBack hx (y := mn24) (z := mn24) hown (own_m hZ hw 37) (own_m hZ hw 38) (notFace_of_selects (args := #[]) (own_m hZ hw 40)) (own_m hZ hw 40) (own_m hZ hw 39) (by decide) (backOf (W := 0) (rmI22U l Z a0 hw [] cs gS a1 v1 k1 ch x0 x1 h0 n0 Z0 V_env Od E_a1 F1 F2 V1 hq hx0 hx1) hZ (own_g hw 41) (own_g hw 8) (by decide) (by decide)) q509a q509c (g := (mkF m 3 #[Rv a1, Iv ch] [(.int 0), (.int ch), (.ref a1)])) rfl (by rw [hml]; rfl) (Steps.refl _) (argsL := [(.int ch), (.int (0 : Int32))]) (rest := []) (lenOf own_pd327 rfl) rfl (own_z rfl) (hb hby d6_3) (fun _ _ => ⟨rfl, e0, (by decide : 0 + 0 ≤ _), (by decide : 0 + 0 ≤ _)⟩)
  dsimp only [Pt.U, Pt.locs, Pt.cells, Pt.slots] at X509 l509 y509 z509 st509 hQ509
  subst l509 y509 z509
  obtain ⟨rfl, Nq509, eh509⟩ := hQ509
  have N509 := Fr.app N0 Nq509
  refine own_by (fun _ k => XS.aloadN X0.here hx rfl (hb hby d6_0) rfl rfl (XS.iloadN X0.here hx rfl (hb hby d6_1) rfl (XS.iconst X0.here hx rfl (hb hby d6_2) (st509.trans k)))) ?_
  exact own_retI X509 hx hlk hret (hb hby d6_6) ⟨rfl, N509, eh509⟩ (by decide) (by decide)
def own_QIW2U (x0 x1 : Int32) (h0 : Heap) (n0 : Nat) (v : Option Value) (h : Heap) (L : List Loc) : Prop := v = some (.int (own_iw (own_find (42 : Int32) [x0, x1] (0 : Int32)) (own_find (63 : Int32) [x0, x1] (0 : Int32)))) ∧ Fr n0 L ∧ h = h0
set_option maxRecDepth 65536 in
set_option maxHeartbeats 40000000 in
theorem rmIW2U (l : Launch) (Z : State) (a0 : Array Value) (hw : own_W a0 Z) (ws : List Jvm.Cond) (cs : Int32) (gS : Value) (a1 v1 : Addr) (k1 : ClassId) (x0 x1 : Int32)  (h0 : Heap) (n0 : Nat) (Z0 : n0 ≤ h0.size) (V_env : own_Env Z cs gS) (Od : Old Z n0 h0) (E_a1 : Exa Z h0 a1 "java/lang/String") (F1 : Fld Z h0 a1 "java/lang/String" "value" "[B" (.ref v1)) (F2 : Fld Z h0 a1 "java/lang/String" "coder" "B" (.int (1 : Int32))) (V1 : Arv Z h0 v1 k1 .byte (4 : Int32) [(.int (own_lo x0)), (.int (own_hi x0)), (.int (own_lo x1)), (.int (own_hi x1))] (.int (0 : Int32))) (hx0 : own_ch x0) (hx1 : own_ch x1) : own_Met l Z mn26 prog_17_method_3_code 1 (some .boolean) ws (own_R 7 0 0 100) #[(.ref a1)] h0 (own_QIW2U x0 x1 h0 n0) := by
  refine own_enter n0 (plainFor_of_name own_pn367) (fun m => ef_R_1 m a1 ) (fun p e s m below meth c s₁ hx hby hlk hml hret hown hnm hZ X0 e0 N0 => ?_)
  show own_Fin _ _ _ _ _ _ _ s₁ (mkF m 0 #[Rv a1] [])
  obtain ⟨cq510, kq510, q510a, q510b, q510c⟩ := isOf hZ e0 E_a1
  obtain ⟨_, _, ⟨T510, L510, k510, n510⟩, -, X510, ⟨Lc510, hQ510, l510, y510, z510⟩, st510⟩ := X0.virtualBack hx (y := mn25) (z := mn25) hown (own_m hZ hw 32) (own_m hZ hw 33) (notFace_of_selects (args := #[]) (own_m hZ hw 35)) (own_m hZ hw 35) (own_m hZ hw 34) (by decide) (backOf (W := 0) (rmIx2U l Z a0 hw [] cs gS a1 v1 k1 (42 : Int32) x0 x1 h0 n0 Z0 V_env Od E_a1 F1 F2 V1 ⟨by decide, by decide, by decide⟩ hx0 hx1) hZ (own_g hw 36) (own_g hw 8) (by decide) (by decide)) q510a q510c (g := (mkF m 3 #[Rv a1] [(.int 42), (.ref a1)])) rfl (by rw [hml]; rfl) (Steps.refl _) (argsL := [(.int (42 : Int32))]) (rest := []) (lenOf own_pd70 rfl) rfl (own_z rfl) (hb hby d5_3) (fun _ _ => ⟨rfl, e0, (by decide : 0 + 0 ≤ _), (by decide : 0 + 0 ≤ _)⟩)
  dsimp only [Pt.U, Pt.locs, Pt.cells, Pt.slots] at X510 l510 y510 z510 st510 hQ510
  subst l510 y510 z510
  obtain ⟨rfl, Nq510, eh510⟩ := hQ510
  have N510 := Fr.app N0 Nq510
  refine own_by (fun _ k => XS.aloadN X0.here hx rfl (hb hby d5_0) rfl rfl (XS.bipush X0.here hx rfl (hb hby d5_1) (st510.trans k))) ?_
  show own_Fin _ _ _ _ _ _ _ T510 (mkF m 6 #[Rv a1] [(.int (own_find (42 : Int32) [x0, x1] (0 : Int32)))])
  by_cases hc6_511 : (own_find (42 : Int32) [x0, x1] (0 : Int32)) < (0 : Int32)
  · show own_Fin _ _ _ _ _ _ _ T510 (mkF m 6 #[Rv a1] [(.int (own_find (42 : Int32) [x0, x1] (0 : Int32)))])
    obtain ⟨cq512, kq512, q512a, q512b, q512c⟩ := isOf hZ eh510 E_a1
    obtain ⟨_, _, ⟨T512, L512, k512, n512⟩, -, X512, ⟨Lc512, hQ512, l512, y512, z512⟩, st512⟩ := X510.virtualBack hx (y := mn25) (z := mn25) hown (own_m hZ hw 32) (own_m hZ hw 33) (notFace_of_selects (args := #[]) (own_m hZ hw 35)) (own_m hZ hw 35) (own_m hZ hw 34) (by decide) (backOf (W := 0) (rmIx2U l Z a0 hw [] cs gS a1 v1 k1 (63 : Int32) x0 x1 h0 n0 Z0 V_env Od E_a1 F1 F2 V1 ⟨by decide, by decide, by decide⟩ hx0 hx1) hZ (own_g hw 36) (own_g hw 8) (by decide) (by decide)) q512a q512c (g := (mkF m 12 #[Rv a1] [(.int 63), (.ref a1)])) rfl (by rw [hml]; rfl) (Steps.refl _) (argsL := [(.int (63 : Int32))]) (rest := []) (lenOf own_pd70 rfl) rfl (own_z rfl) (hb hby d5_12) (fun _ _ => ⟨rfl, eh510, (by decide : 0 + 0 ≤ _), (by decide : 0 + 0 ≤ _)⟩)
    dsimp only [Pt.U, Pt.locs, Pt.cells, Pt.slots] at X512 l512 y512 z512 st512 hQ512
    subst l512 y512 z512
    obtain ⟨rfl, Nq512, eh512⟩ := hQ512
    have N512 := Fr.app N510 Nq512
    refine own_by (fun _ k => XS.ifNo X510.here hx rfl (hb hby d5_6) rfl ((if0 _ _).trans (tlt hc6_511).2.1) (XS.aloadN X510.here hx rfl (hb hby d5_9) rfl rfl (XS.bipush X510.here hx rfl (hb hby d5_10) (st512.trans k)))) ?_
    show own_Fin _ _ _ _ _ _ _ T512 (mkF m 15 #[Rv a1] [(.int (own_find (63 : Int32) [x0, x1] (0 : Int32)))])
    by_cases hc15_513 : (own_find (63 : Int32) [x0, x1] (0 : Int32)) < (0 : Int32)
    · show own_Fin _ _ _ _ _ _ _ T512 (mkF m 15 #[Rv a1] [(.int (own_find (63 : Int32) [x0, x1] (0 : Int32)))])
      refine own_by (fun _ k => XS.ifYes X512.here hx rfl (pc0 := 15) (pc' := 22) rfl (hb hby d5_15) rfl ((if0 _ _).trans (tlt hc15_513).1) (by decide) (by decide) (XS.iconst X512.here hx rfl (hb hby d5_22) k)) ?_
      exact own_retZ X512 hx hlk (t := .boolean) hret (by simp) (hb hby d5_23) ⟨own_vi (by show (0 : Int32) = _; first | (simp only [own_iw, if_neg V_env.2.2.2.2.1, if_pos hc6_511, if_pos hc15_513]; done) | (simp only [own_iw, if_neg V_env.2.2.2.2.1, if_pos hc6_511, if_pos hc15_513]; decide) | simp [own_iw, V_env.2.2.2.2.1, hc6_511, hc15_513]), N512, eh512⟩ (by decide) (by decide)
    · show own_Fin _ _ _ _ _ _ _ T512 (mkF m 15 #[Rv a1] [(.int (own_find (63 : Int32) [x0, x1] (0 : Int32)))])
      refine own_by (fun _ k => XS.ifNo X512.here hx rfl (hb hby d5_15) rfl ((if0 _ _).trans (flt hc15_513).1) (XS.iconst X512.here hx rfl (hb hby d5_18) (XS.goto X512.here hx rfl (pc0 := 19) (pc' := 23) rfl (hb hby d5_19) (by decide) (by decide) k))) ?_
      exact own_retZ X512 hx hlk (t := .boolean) hret (by simp) (hb hby d5_23) ⟨own_vi (by show (1 : Int32) = _; first | (simp only [own_iw, if_neg V_env.2.2.2.2.1, if_pos hc6_511, if_neg hc15_513]; done) | (simp only [own_iw, if_neg V_env.2.2.2.2.1, if_pos hc6_511, if_neg hc15_513]; decide) | simp [own_iw, V_env.2.2.2.2.1, hc6_511, hc15_513]), N512, eh512⟩ (by decide) (by decide)
  · show own_Fin _ _ _ _ _ _ _ T510 (mkF m 6 #[Rv a1] [(.int (own_find (42 : Int32) [x0, x1] (0 : Int32)))])
    refine own_by (fun _ k => XS.ifYes X510.here hx rfl (pc0 := 6) (pc' := 18) rfl (hb hby d5_6) rfl ((if0 _ _).trans (flt hc6_511).2.1) (by decide) (by decide) (XS.iconst X510.here hx rfl (hb hby d5_18) (XS.goto X510.here hx rfl (pc0 := 19) (pc' := 23) rfl (hb hby d5_19) (by decide) (by decide) k))) ?_
    exact own_retZ X510 hx hlk (t := .boolean) hret (by simp) (hb hby d5_23) ⟨own_vi (by show (1 : Int32) = _; first | (simp only [own_iw, if_neg V_env.2.2.2.2.1, if_neg hc6_511]; done) | (simp only [own_iw, if_neg V_env.2.2.2.2.1, if_neg hc6_511]; decide) | simp [own_iw, V_env.2.2.2.2.1, hc6_511]), N510, eh510⟩ (by decide) (by decide)
def own_QrmIc3L (ch : Int32) (x0 x1 x2 : Int32) (h0 : Heap) (n0 : Nat) (v : Option Value) (h : Heap) (L : List Loc) : Prop := v = some (.int (own_find (ch.toInt8.toInt32) [x0.toInt8.toInt32, x1.toInt8.toInt32, x2.toInt8.toInt32] (0 : Int32))) ∧ Fr n0 L ∧ h = h0
set_option maxRecDepth 65536 in
set_option maxHeartbeats 40000000 in
theorem rmIc3L (l : Launch) (Z : State) (a0 : Array Value) (hw : own_W a0 Z) (ws : List Jvm.Cond) (cs : Int32) (gS : Value) (v1 : Addr) (k1 : ClassId) (ch : Int32) (x0 x1 x2 : Int32) (h0 : Heap) (n0 : Nat) (Z0 : n0 ≤ h0.size) (V_env : own_Env Z cs gS) (Od : Old Z n0 h0) (V1 : Arv Z h0 v1 k1 .byte (3 : Int32) [(.int x0.toInt8.toInt32), (.int x1.toInt8.toInt32), (.int x2.toInt8.toInt32)] (.int (0 : Int32))) (hq : own_cq ch) : own_Met l Z mn27 jdk_43_method_23_code 6 (some .int) ws (own_R 0 0 0 0) #[(.ref v1), (.int ch), (.int (0 : Int32)), (.int (3 : Int32))] h0 (own_QrmIc3L ch x0 x1 x2 h0 n0) := by
  refine own_enter n0 (plainFor_of_name own_pn225) (fun m => ef_RIII_6 m v1 ch (0 : Int32) (3 : Int32) ) (fun p e s m below meth c s₁ hx hby hlk hml hret hown hnm hZ X0 e0 N0 => ?_)
  show own_Fin _ _ _ _ _ _ _ s₁ (mkF m 0 #[Rv v1, Iv ch, Iv 0, Iv 3, Uv, Uv] [])
  obtain ⟨cl514, Ar514, -, S514, M514, H514, -⟩ := id V1
  have hin514 : ¬ ((0 : Int32) < 0 ∨ cl514.slots.size ≤ ((0 : Int32)).toNatClampNeg) := inb_of S514 ⟨by decide, by decide⟩
  have hat514 : cl514.slots[((0 : Int32)).toNatClampNeg]? = some (.int x0.toInt8.toInt32) := Has.at H514 hin514 rfl
  refine own_by (fun _ k => XS.iloadN X0.here hx rfl (hb hby d19_0) rfl (XS.i2b X0.here hx rfl (hb hby d19_1) rfl (XS.istore X0.here hx rfl (hb hby d19_2) rfl (l' := #[Rv v1, Iv ch, Iv 0, Iv 3, Iv (ch.toInt8.toInt32), Uv]) rfl (XS.iloadN X0.here hx rfl (hb hby d19_4) rfl (XS.istore X0.here hx rfl (hb hby d19_5) rfl (l' := #[Rv v1, Iv ch, Iv 0, Iv 3, Iv (ch.toInt8.toInt32), Iv 0]) rfl (XS.iload X0.here hx rfl (hb hby d19_7) rfl (XS.iloadN X0.here hx rfl (hb hby d19_9) rfl (XS.icmpNo X0.here hx rfl (hb hby d19_10) rfl (tlt (by decide : (0 : Int32) < (3 : Int32))).2.1 (XS.aloadN X0.here hx rfl (hb hby d19_13) rfl rfl (XS.iload X0.here hx rfl (hb hby d19_14) rfl k)))))))))) ?_
  show own_Fin _ _ _ _ _ _ _ s₁ (mkF m 16 #[Rv v1, Iv ch, Iv 0, Iv 3, Iv (ch.toInt8.toInt32), Iv 0] [(.int 0), (.ref v1)])
  refine own_by (fun _ k => X0.baloadBytes hx (j := (0 : Int32)) (v := (.int x0.toInt8.toInt32)) (by rw [e0]; exact Ar514.1) (State.isArrayOf_alike hZ.alike Ar514.2.1) Ar514.2.2 hin514 hat514 (g := (mkF m 16 #[Rv v1, Iv ch, Iv 0, Iv 3, Iv (ch.toInt8.toInt32), Iv 0] [(.int 0), (.ref v1)])) rfl rfl (hb hby d19_16) _ (XS.iload X0.here hx rfl (hb hby d19_17) rfl k)) ?_
  show own_Fin _ _ _ _ _ _ _ s₁ (mkF m 19 #[Rv v1, Iv ch, Iv 0, Iv 3, Iv (ch.toInt8.toInt32), Iv 0] [(.int (ch.toInt8.toInt32)), (.int x0.toInt8.toInt32)])
  by_cases hc19_515 : x0.toInt8.toInt32 = (ch.toInt8.toInt32)
  · show own_Fin _ _ _ _ _ _ _ s₁ (mkF m 19 #[Rv v1, Iv ch, Iv 0, Iv 3, Iv (ch.toInt8.toInt32), Iv 0] [(.int (ch.toInt8.toInt32)), (.int x0.toInt8.toInt32)])
    refine own_by (fun _ k => XS.icmpNo X0.here hx rfl (hb hby d19_19) rfl (teq hc19_515).2 (XS.iload X0.here hx rfl (hb hby d19_22) rfl k)) ?_
    exact own_retI X0 hx hlk hret (hb hby d19_24) ⟨own_vi (by show (0 : Int32) = _; first | (simp only [own_find, if_neg V_env.2.2.2.2.1, if_neg hq.1, if_neg hq.2.1, if_pos hq.2.2, if_pos hc19_515]; done) | (simp only [own_find, if_neg V_env.2.2.2.2.1, if_neg hq.1, if_neg hq.2.1, if_pos hq.2.2, if_pos hc19_515]; decide) | simp [own_find, V_env.2.2.2.2.1, hq.1, hq.2.1, hq.2.2, hc19_515]), N0, e0⟩ (by decide) (by decide)
  · show own_Fin _ _ _ _ _ _ _ s₁ (mkF m 19 #[Rv v1, Iv ch, Iv 0, Iv 3, Iv (ch.toInt8.toInt32), Iv 0] [(.int (ch.toInt8.toInt32)), (.int x0.toInt8.toInt32)])
    refine own_by (fun _ k => XS.icmpYes X0.here hx rfl (pc0 := 19) (pc' := 25) rfl (hb hby d19_19) rfl (feq hc19_515).2 (by decide) (by decide) (XS.iinc X0.here hx rfl (hb hby d19_25) rfl (l' := #[Rv v1, Iv ch, Iv 0, Iv 3, Iv (ch.toInt8.toInt32), Iv ((0 : Int32) + (1 : Int32))]) rfl k)) ?_
    show own_Fin _ _ _ _ _ _ _ s₁ (mkF m 28 #[Rv v1, Iv ch, Iv 0, Iv 3, Iv (ch.toInt8.toInt32), Iv ((0 : Int32) + (1 : Int32))] [])
    rw [(by decide : ((0 : Int32) + (1 : Int32)) = (1 : Int32))]
    show own_Fin _ _ _ _ _ _ _ s₁ (mkF m 28 #[Rv v1, Iv ch, Iv 0, Iv 3, Iv (ch.toInt8.toInt32), Iv 1] [])
    obtain ⟨cl516, Ar516, -, S516, M516, H516, -⟩ := id V1
    have hin516 : ¬ ((1 : Int32) < 0 ∨ cl516.slots.size ≤ ((1 : Int32)).toNatClampNeg) := inb_of S516 ⟨by decide, by decide⟩
    have hat516 : cl516.slots[((1 : Int32)).toNatClampNeg]? = some (.int x1.toInt8.toInt32) := Has.at H516 hin516 rfl
    refine own_by (fun _ k => XS.goto X0.here hx rfl (pc0 := 28) (pc' := 7) rfl (hb hby d19_28) (by decide) (by decide) (XS.iload X0.here hx rfl (hb hby d19_7) rfl (XS.iloadN X0.here hx rfl (hb hby d19_9) rfl (XS.icmpNo X0.here hx rfl (hb hby d19_10) rfl (tlt (by decide : (1 : Int32) < (3 : Int32))).2.1 (XS.aloadN X0.here hx rfl (hb hby d19_13) rfl rfl (XS.iload X0.here hx rfl (hb hby d19_14) rfl (X0.baloadBytes hx (j := (1 : Int32)) (v := (.int x1.toInt8.toInt32)) (by rw [e0]; exact Ar516.1) (State.isArrayOf_alike hZ.alike Ar516.2.1) Ar516.2.2 hin516 hat516 (g := (mkF m 16 #[Rv v1, Iv ch, Iv 0, Iv 3, Iv (ch.toInt8.toInt32), Iv 1] [(.int 1), (.ref v1)])) rfl rfl (hb hby d19_16) _ (XS.iload X0.here hx rfl (hb hby d19_17) rfl k)))))))) ?_
    show own_Fin _ _ _ _ _ _ _ s₁ (mkF m 19 #[Rv v1, Iv ch, Iv 0, Iv 3, Iv (ch.toInt8.toInt32), Iv 1] [(.int (ch.toInt8.toInt32)), (.int x1.toInt8.toInt32)])
    by_cases hc19_517 : x1.toInt8.toInt32 = (ch.toInt8.toInt32)
    · show own_Fin _ _ _ _ _ _ _ s₁ (mkF m 19 #[Rv v1, Iv ch, Iv 0, Iv 3, Iv (ch.toInt8.toInt32), Iv 1] [(.int (ch.toInt8.toInt32)), (.int x1.toInt8.toInt32)])
      refine own_by (fun _ k => XS.icmpNo X0.here hx rfl (hb hby d19_19) rfl (teq hc19_517).2 (XS.iload X0.here hx rfl (hb hby d19_22) rfl k)) ?_
      exact own_retI X0 hx hlk hret (hb hby d19_24) ⟨own_vi (by show (1 : Int32) = _; first | (simp only [own_find, if_neg V_env.2.2.2.2.1, if_neg hq.1, if_neg hq.2.1, if_pos hq.2.2, if_neg hc19_515, if_pos hc19_517]; done) | (simp only [own_find, if_neg V_env.2.2.2.2.1, if_neg hq.1, if_neg hq.2.1, if_pos hq.2.2, if_neg hc19_515, if_pos hc19_517]; decide) | simp [own_find, V_env.2.2.2.2.1, hq.1, hq.2.1, hq.2.2, hc19_515, hc19_517]), N0, e0⟩ (by decide) (by decide)
    · show own_Fin _ _ _ _ _ _ _ s₁ (mkF m 19 #[Rv v1, Iv ch, Iv 0, Iv 3, Iv (ch.toInt8.toInt32), Iv 1] [(.int (ch.toInt8.toInt32)), (.int x1.toInt8.toInt32)])
      refine own_by (fun _ k => XS.icmpYes X0.here hx rfl (pc0 := 19) (pc' := 25) rfl (hb hby d19_19) rfl (feq hc19_517).2 (by decide) (by decide) (XS.iinc X0.here hx rfl (hb hby d19_25) rfl (l' := #[Rv v1, Iv ch, Iv 0, Iv 3, Iv (ch.toInt8.toInt32), Iv ((1 : Int32) + (1 : Int32))]) rfl k)) ?_
      show own_Fin _ _ _ _ _ _ _ s₁ (mkF m 28 #[Rv v1, Iv ch, Iv 0, Iv 3, Iv (ch.toInt8.toInt32), Iv ((1 : Int32) + (1 : Int32))] [])
      rw [(by decide : ((1 : Int32) + (1 : Int32)) = (2 : Int32))]
      show own_Fin _ _ _ _ _ _ _ s₁ (mkF m 28 #[Rv v1, Iv ch, Iv 0, Iv 3, Iv (ch.toInt8.toInt32), Iv 2] [])
      obtain ⟨cl518, Ar518, -, S518, M518, H518, -⟩ := id V1
      have hin518 : ¬ ((2 : Int32) < 0 ∨ cl518.slots.size ≤ ((2 : Int32)).toNatClampNeg) := inb_of S518 ⟨by decide, by decide⟩
      have hat518 : cl518.slots[((2 : Int32)).toNatClampNeg]? = some (.int x2.toInt8.toInt32) := Has.at H518 hin518 rfl
      refine own_by (fun _ k => XS.goto X0.here hx rfl (pc0 := 28) (pc' := 7) rfl (hb hby d19_28) (by decide) (by decide) (XS.iload X0.here hx rfl (hb hby d19_7) rfl (XS.iloadN X0.here hx rfl (hb hby d19_9) rfl (XS.icmpNo X0.here hx rfl (hb hby d19_10) rfl (tlt (by decide : (2 : Int32) < (3 : Int32))).2.1 (XS.aloadN X0.here hx rfl (hb hby d19_13) rfl rfl (XS.iload X0.here hx rfl (hb hby d19_14) rfl (X0.baloadBytes hx (j := (2 : Int32)) (v := (.int x2.toInt8.toInt32)) (by rw [e0]; exact Ar518.1) (State.isArrayOf_alike hZ.alike Ar518.2.1) Ar518.2.2 hin518 hat518 (g := (mkF m 16 #[Rv v1, Iv ch, Iv 0, Iv 3, Iv (ch.toInt8.toInt32), Iv 2] [(.int 2), (.ref v1)])) rfl rfl (hb hby d19_16) _ (XS.iload X0.here hx rfl (hb hby d19_17) rfl k)))))))) ?_
      show own_Fin _ _ _ _ _ _ _ s₁ (mkF m 19 #[Rv v1, Iv ch, Iv 0, Iv 3, Iv (ch.toInt8.toInt32), Iv 2] [(.int (ch.toInt8.toInt32)), (.int x2.toInt8.toInt32)])
      by_cases hc19_519 : x2.toInt8.toInt32 = (ch.toInt8.toInt32)
      · show own_Fin _ _ _ _ _ _ _ s₁ (mkF m 19 #[Rv v1, Iv ch, Iv 0, Iv 3, Iv (ch.toInt8.toInt32), Iv 2] [(.int (ch.toInt8.toInt32)), (.int x2.toInt8.toInt32)])
        refine own_by (fun _ k => XS.icmpNo X0.here hx rfl (hb hby d19_19) rfl (teq hc19_519).2 (XS.iload X0.here hx rfl (hb hby d19_22) rfl k)) ?_
        exact own_retI X0 hx hlk hret (hb hby d19_24) ⟨own_vi (by show (2 : Int32) = _; first | (simp only [own_find, if_neg V_env.2.2.2.2.1, if_neg hq.1, if_neg hq.2.1, if_pos hq.2.2, if_neg hc19_515, if_neg hc19_517, if_pos hc19_519]; done) | (simp only [own_find, if_neg V_env.2.2.2.2.1, if_neg hq.1, if_neg hq.2.1, if_pos hq.2.2, if_neg hc19_515, if_neg hc19_517, if_pos hc19_519]; decide) | simp [own_find, V_env.2.2.2.2.1, hq.1, hq.2.1, hq.2.2, hc19_515, hc19_517, hc19_519]), N0, e0⟩ (by decide) (by decide)
      · show own_Fin _ _ _ _ _ _ _ s₁ (mkF m 19 #[Rv v1, Iv ch, Iv 0, Iv 3, Iv (ch.toInt8.toInt32), Iv 2] [(.int (ch.toInt8.toInt32)), (.int x2.toInt8.toInt32)])
        refine own_by (fun _ k => XS.icmpYes X0.here hx rfl (pc0 := 19) (pc' := 25) rfl (hb hby d19_19) rfl (feq hc19_519).2 (by decide) (by decide) (XS.iinc X0.here hx rfl (hb hby d19_25) rfl (l' := #[Rv v1, Iv ch, Iv 0, Iv 3, Iv (ch.toInt8.toInt32), Iv ((2 : Int32) + (1 : Int32))]) rfl k)) ?_
        show own_Fin _ _ _ _ _ _ _ s₁ (mkF m 28 #[Rv v1, Iv ch, Iv 0, Iv 3, Iv (ch.toInt8.toInt32), Iv ((2 : Int32) + (1 : Int32))] [])
        rw [(by decide : ((2 : Int32) + (1 : Int32)) = (3 : Int32))]
        show own_Fin _ _ _ _ _ _ _ s₁ (mkF m 28 #[Rv v1, Iv ch, Iv 0, Iv 3, Iv (ch.toInt8.toInt32), Iv 3] [])
        refine own_by (fun _ k => XS.goto X0.here hx rfl (pc0 := 28) (pc' := 7) rfl (hb hby d19_28) (by decide) (by decide) (XS.iload X0.here hx rfl (hb hby d19_7) rfl (XS.iloadN X0.here hx rfl (hb hby d19_9) rfl (XS.icmpYes X0.here hx rfl (pc0 := 10) (pc' := 31) rfl (hb hby d19_10) rfl (flt (by decide : ¬ ((3 : Int32) < (3 : Int32)))).2.1 (by decide) (by decide) (XS.iconst X0.here hx rfl (hb hby d19_31) k))))) ?_
        exact own_retI X0 hx hlk hret (hb hby d19_32) ⟨own_vi (by show (-1 : Int32) = _; first | (simp only [own_find, if_neg V_env.2.2.2.2.1, if_neg hq.1, if_neg hq.2.1, if_pos hq.2.2, if_neg hc19_515, if_neg hc19_517, if_neg hc19_519]; done) | (simp only [own_find, if_neg V_env.2.2.2.2.1, if_neg hq.1, if_neg hq.2.1, if_pos hq.2.2, if_neg hc19_515, if_neg hc19_517, if_neg hc19_519]; decide) | simp [own_find, V_env.2.2.2.2.1, hq.1, hq.2.1, hq.2.2, hc19_515, hc19_517, hc19_519]), N0, e0⟩ (by decide) (by decide)
def own_Qrmmin_3_3 (h0 : Heap) (n0 : Nat) (v : Option Value) (h : Heap) (L : List Loc) : Prop := v = some (.int (3 : Int32)) ∧ Fr n0 L ∧ h = h0
theorem rmmin_3_3 (l : Launch) (Z : State) (a0 : Array Value) (hw : own_W a0 Z) (ws : List Jvm.Cond)  (h0 : Heap) (n0 : Nat) (Z0 : n0 ≤ h0.size)  : own_Met l Z mn21 jdk_29_method_69_code 2 (some .int) ws (own_R 0 0 0 0) #[(.int (3 : Int32)), (.int (3 : Int32))] h0 (own_Qrmmin_3_3 h0 n0) := by
  refine own_enter n0 (by decide +kernel) (fun m => ef_II_2 m (3 : Int32) (3 : Int32) ) (fun p e s m below meth c s₁ hx hby hlk hml hret hown hnm hZ X0 e0 N0 => ?_)
  show own_Fin _ _ _ _ _ _ _ s₁ (mkF m 0 #[Iv 3, Iv 3] [])
  refine own_by (fun _ k => XS.iloadN X0.here hx rfl (hb hby d14_0) rfl (XS.iloadN X0.here hx rfl (hb hby d14_1) rfl (XS.icmpNo X0.here hx rfl (hb hby d14_2) rfl (flt (by decide : ¬ ((3 : Int32) < (3 : Int32)))).2.2.1 (XS.iloadN X0.here hx rfl (hb hby d14_5) rfl (XS.goto X0.here hx rfl (pc0 := 6) (pc' := 10) rfl (hb hby d14_6) (by decide) (by decide) k))))) ?_
  exact own_retI X0 hx hlk hret (hb hby d14_10) ⟨rfl, N0, e0⟩ (by decide) (by decide)
def own_QrmIo3L (ch : Int32) (x0 x1 x2 : Int32) (h0 : Heap) (n0 : Nat) (v : Option Value) (h : Heap) (L : List Loc) : Prop := v = some (.int (own_find (ch.toInt8.toInt32) [x0.toInt8.toInt32, x1.toInt8.toInt32, x2.toInt8.toInt32] (0 : Int32))) ∧ Fr n0 L ∧ h = h0
set_option maxRecDepth 65536 in
set_option maxHeartbeats 40000000 in
theorem rmIo3L (l : Launch) (Z : State) (a0 : Array Value) (hw : own_W a0 Z) (ws : List Jvm.Cond) (cs : Int32) (gS : Value) (v1 : Addr) (k1 : ClassId) (ch : Int32) (x0 x1 x2 : Int32) (h0 : Heap) (n0 : Nat) (Z0 : n0 ≤ h0.size) (V_env : own_Env Z cs gS) (Od : Old Z n0 h0) (V1 : Arv Z h0 v1 k1 .byte (3 : Int32) [(.int x0.toInt8.toInt32), (.int x1.toInt8.toInt32), (.int x2.toInt8.toInt32)] (.int (0 : Int32))) (hq : own_cq ch) : own_Met l Z mn22 jdk_43_method_22_code 4 (some .int) ws (own_R 1 0 0 17) #[(.ref v1), (.int ch), (.int (0 : Int32)), (.int (3 : Int32))] h0 (own_QrmIo3L ch x0 x1 x2 h0 n0) := by
  refine own_enter n0 (plainFor_of_name own_pn225) (fun m => ef_RIII_4 m v1 ch (0 : Int32) (3 : Int32) ) (fun p e s m below meth c s₁ hx hby hlk hml hret hown hnm hZ X0 e0 N0 => ?_)
  show own_Fin _ _ _ _ _ _ _ s₁ (mkF m 0 #[Rv v1, Iv ch, Iv 0, Iv 3] [])
  obtain ⟨_, _, ⟨T520, L520, k520, n520⟩, -, X520, ⟨Lc520, hQ520, l520, y520, z520⟩, st520⟩ := LawKit.callS X0 hx (y := mn19) hown (own_m hZ hw 62) (own_m hZ hw 63) (own_m hZ hw 60) (own_m hZ hw 64) (by decide) (backOf (W := 0) (rmCe l Z a0 hw [] ch h0 n0 Z0 hq) hZ (own_g hw 64) (own_g hw 60) (by decide) (by decide)) (g := (mkF m 1 #[Rv v1, Iv ch, Iv 0, Iv 3] [(.int ch)])) rfl (by rw [hml]; rfl) (argsL := [(.int ch)]) (rest := []) (lenOf own_pd322 rfl) rfl (own_z rfl) (hb hby d11_1) (fun _ _ => ⟨rfl, e0, (by decide : 0 + 0 ≤ _), (by decide : 0 + 0 ≤ _)⟩)
  dsimp only [Pt.U, Pt.locs, Pt.cells, Pt.slots] at X520 l520 y520 z520 st520 hQ520
  subst l520 y520 z520
  obtain ⟨rfl, Nq520, eh520⟩ := hQ520
  have N520 := Fr.app N0 Nq520
  obtain ⟨_, _, ⟨T521, L521, k521, n521⟩, -, X521, ⟨Lc521, hQ521, l521, y521, z521⟩, st521⟩ := LawKit.callS X520 hx (y := mn20) hown (own_m hZ hw 65) (own_m hZ hw 66) (own_m hZ hw 67) (own_m hZ hw 68) (by decide) (backOf (W := 0) (rmmax_0_0 l Z a0 hw []  h0 n0 Z0 ) hZ (own_g hw 68) (own_g hw 67) (by decide) (by decide)) (g := (mkF m 11 #[Rv v1, Iv ch, Iv 0, Iv 3] [(.int 0), (.int 0)])) rfl (by rw [hml]; rfl) (argsL := [(.int (0 : Int32)), (.int (0 : Int32))]) (rest := []) (lenOf own_pd327 rfl) rfl (own_z rfl) (hb hby d11_11) (fun _ _ => ⟨rfl, eh520, (by decide : 0 + 0 ≤ _), (by decide : 0 + 0 ≤ _)⟩)
  dsimp only [Pt.U, Pt.locs, Pt.cells, Pt.slots] at X521 l521 y521 z521 st521 hQ521
  subst l521 y521 z521
  obtain ⟨rfl, Nq521, eh521⟩ := hQ521
  have N521 := Fr.app N520 Nq521
  obtain ⟨cl522, Ar522, -, S522, M522, -, -⟩ := id V1
  refine own_by (fun _ k => XS.iloadN X0.here hx rfl (hb hby d11_0) rfl (st520 _ (XS.ifYes X520.here hx rfl (pc0 := 4) (pc' := 9) rfl (hb hby d11_4) rfl ((if0 _ _).trans (feq (by decide : ¬ ((1 : Int32) = (0 : Int32)))).2) (by decide) (by decide) (XS.iloadN X520.here hx rfl (hb hby d11_9) rfl (XS.iconst X520.here hx rfl (hb hby d11_10) (st521 _ (XS.istoreN X521.here hx rfl (hb hby d11_14) rfl (l' := #[Rv v1, Iv ch, Iv 0, Iv 3]) rfl (XS.iloadN X521.here hx rfl (hb hby d11_15) rfl (XS.aloadN X521.here hx rfl (hb hby d11_16) rfl rfl (X521.arraylength hx (by rw [eh521]; exact Ar522.1) (State.isArrayOf_alike hZ.alike Ar522.2.1) (g := (mkF m 17 #[Rv v1, Iv ch, Iv 0, Iv 3] [(.ref v1), (.int 3)])) rfl rfl (hb hby d11_17) _ k)))))))))) ?_
  rw [len_of S522 M522]
  show own_Fin _ _ _ _ _ _ _ T521 (mkF m 18 #[Rv v1, Iv ch, Iv 0, Iv 3] [(.int 3), (.int 3)])
  obtain ⟨_, _, ⟨T523, L523, k523, n523⟩, -, X523, ⟨Lc523, hQ523, l523, y523, z523⟩, st523⟩ := LawKit.callS X521 hx (y := mn21) hown (own_m hZ hw 69) (own_m hZ hw 70) (own_m hZ hw 67) (own_m hZ hw 71) (by decide) (backOf (W := 0) (rmmin_3_3 l Z a0 hw []  h0 n0 Z0 ) hZ (own_g hw 71) (own_g hw 67) (by decide) (by decide)) (g := (mkF m 18 #[Rv v1, Iv ch, Iv 0, Iv 3] [(.int 3), (.int 3)])) rfl (by rw [hml]; rfl) (argsL := [(.int (3 : Int32)), (.int (3 : Int32))]) (rest := []) (lenOf own_pd327 rfl) rfl (own_z rfl) (hb hby d11_18) (fun _ _ => ⟨rfl, eh521, (by decide : 0 + 0 ≤ _), (by decide : 0 + 0 ≤ _)⟩)
  dsimp only [Pt.U, Pt.locs, Pt.cells, Pt.slots] at X523 l523 y523 z523 st523 hQ523
  subst l523 y523 z523
  obtain ⟨rfl, Nq523, eh523⟩ := hQ523
  have N523 := Fr.app N521 Nq523
  obtain ⟨_, _, ⟨T524, L524, k524, n524⟩, -, X524, ⟨Lc524, hQ524, l524, y524, z524⟩, st524⟩ := LawKit.callS X523 hx (y := mn27) hown (own_m hZ hw 85) (own_m hZ hw 86) (own_m hZ hw 60) (own_m hZ hw 87) (by decide) (backOf (W := 0) (rmIc3L l Z a0 hw [] cs gS v1 k1 ch x0 x1 x2 h0 n0 Z0 V_env Od V1 hq ) hZ (own_g hw 87) (own_g hw 60) (by decide) (by decide)) (g := (mkF m 33 #[Rv v1, Iv ch, Iv 0, Iv 3] [(.int 3), (.int 0), (.int ch), (.ref v1)])) rfl (by rw [hml]; rfl) (argsL := [(.ref v1), (.int ch), (.int (0 : Int32)), (.int (3 : Int32))]) (rest := []) (lenOf own_pd359 rfl) rfl (own_z rfl) (hb hby d11_33) (fun _ _ => ⟨rfl, eh523, (by decide : 0 + 0 ≤ _), (by decide : 0 + 0 ≤ _)⟩)
  dsimp only [Pt.U, Pt.locs, Pt.cells, Pt.slots] at X524 l524 y524 z524 st524 hQ524
  subst l524 y524 z524
  obtain ⟨rfl, Nq524, eh524⟩ := hQ524
  have N524 := Fr.app N523 Nq524
  refine own_by (fun _ k => st523 _ (XS.istoreN X523.here hx rfl (hb hby d11_21) rfl (l' := #[Rv v1, Iv ch, Iv 0, Iv 3]) rfl (XS.iloadN X523.here hx rfl (hb hby d11_22) rfl (XS.iloadN X523.here hx rfl (hb hby d11_23) rfl (XS.icmpYes X523.here hx rfl (pc0 := 24) (pc' := 29) rfl (hb hby d11_24) rfl (tlt (by decide : (0 : Int32) < (3 : Int32))).1 (by decide) (by decide) (XS.aloadN X523.here hx rfl (hb hby d11_29) rfl rfl (XS.iloadN X523.here hx rfl (hb hby d11_30) rfl (XS.iloadN X523.here hx rfl (hb hby d11_31) rfl (XS.iloadN X523.here hx rfl (hb hby d11_32) rfl (st524 _ k)))))))))) ?_
  exact own_retI X524 hx hlk hret (hb hby d11_36) ⟨rfl, N524, eh524⟩ (by decide) (by decide)
def own_QrmSl3_L (h0 : Heap) (n0 : Nat) (v : Option Value) (h : Heap) (L : List Loc) : Prop := v = some (.int (3 : Int32)) ∧ Fr n0 L ∧ h = h0
theorem rmSl3_L (l : Launch) (Z : State) (a0 : Array Value) (hw : own_W a0 Z) (ws : List Jvm.Cond) (cs : Int32) (gS : Value) (a1 v1 : Addr) (k1 : ClassId) (vs : List Value) (h0 : Heap) (n0 : Nat) (Z0 : n0 ≤ h0.size) (V_env : own_Env Z cs gS) (Od : Old Z n0 h0) (E_a1 : Exa Z h0 a1 "java/lang/String") (F1 : Fld Z h0 a1 "java/lang/String" "value" "[B" (.ref v1)) (F2 : Fld Z h0 a1 "java/lang/String" "coder" "B" (.int (0 : Int32))) (V1 : Arv Z h0 v1 k1 .byte (3 : Int32) vs (.int (0 : Int32))) : own_Met l Z mn23 jdk_42_method_54_code 1 (some .int) ws (own_R 1 0 0 13) #[(.ref a1)] h0 (own_QrmSl3_L h0 n0) := by
  refine own_enter n0 (plainFor_of_name own_pn34) (fun m => ef_R_1 m a1 ) (fun p e s m below meth c s₁ hx hby hlk hml hret hown hnm hZ X0 e0 N0 => ?_)
  show own_Fin _ _ _ _ _ _ _ s₁ (mkF m 0 #[Rv a1] [])
  obtain ⟨T525, X525, e525, st525⟩ := getF X0 hx hZ hown (host := "") (Or.inl (own_g hw 26)) Via.refl e0 F1 (g := (mkF m 1 #[Rv a1] [(.ref a1)])) rfl rfl (hb hby d9_1)
  obtain ⟨cl526, Ar526, -, S526, M526, -, -⟩ := id V1
  refine own_by (fun _ k => XS.aloadN X0.here hx rfl (hb hby d9_0) rfl rfl (st525 _ (X525.arraylength hx (by rw [e525]; exact Ar526.1) (State.isArrayOf_alike hZ.alike Ar526.2.1) (g := (mkF m 4 #[Rv a1] [(.ref v1)])) rfl rfl (hb hby d9_4) _ k))) ?_
  rw [len_of S526 M526]
  show own_Fin _ _ _ _ _ _ _ T525 (mkF m 5 #[Rv a1] [(.int 3)])
  obtain ⟨cq527, kq527, q527a, q527b, q527c⟩ := isOf hZ e525 E_a1
  obtain ⟨_, _, ⟨T527, L527, k527, n527⟩, -, X527, ⟨Lc527, hQ527, l527, y527, z527⟩, st527⟩ := X525.virtualBack hx (y := mn18) (z := mn18) hown (own_m hZ hw 53) (own_m hZ hw 54) (notFace_of_selects (args := #[]) (own_m hZ hw 56)) (own_m hZ hw 56) (own_m hZ hw 55) (by decide) (backOf (W := 1) (rmCd0 l Z a0 hw [] cs gS a1 h0 n0 Z0 V_env Od F2) hZ (own_g hw 57) (own_g hw 8) (by decide) (by decide)) q527a q527c (g := (mkF m 6 #[Rv a1] [(.ref a1), (.int 3)])) rfl (by rw [hml]; rfl) (Steps.refl _) (argsL := []) (rest := [(.int (3 : Int32))]) (lenOf own_pd344 rfl) rfl (own_z rfl) (hb hby d9_6) (fun _ _ => ⟨rfl, e525, (by decide : 0 + 0 ≤ _), (by decide : 0 + 0 ≤ _)⟩)
  dsimp only [Pt.U, Pt.locs, Pt.cells, Pt.slots] at X527 l527 y527 z527 st527 hQ527
  subst l527 y527 z527
  obtain ⟨rfl, Nq527, eh527⟩ := hQ527
  have N527 := Fr.app N0 Nq527
  refine own_by (fun _ k => XS.aloadN X525.here hx rfl (hb hby d9_5) rfl rfl (st527.trans (XS.ishr X527.here hx rfl (hb hby d9_9) rfl k))) ?_
  show own_Fin _ _ _ _ _ _ _ T527 (mkF m 10 #[Rv a1] [(.int ((3 : Int32) >>> ((0 : Int32) &&& 31)))])
  rw [(by decide : ((3 : Int32) >>> ((0 : Int32) &&& 31)) = (3 : Int32))]
  show own_Fin _ _ _ _ _ _ _ T527 (mkF m 10 #[Rv a1] [(.int 3)])
  exact own_retI X527 hx hlk hret (hb hby d9_10) ⟨rfl, N527, eh527⟩ (by decide) (by decide)
def own_QrmI23L (ch : Int32) (x0 x1 x2 : Int32) (h0 : Heap) (n0 : Nat) (v : Option Value) (h : Heap) (L : List Loc) : Prop := v = some (.int (own_find (ch.toInt8.toInt32) [x0.toInt8.toInt32, x1.toInt8.toInt32, x2.toInt8.toInt32] (0 : Int32))) ∧ Fr n0 L ∧ h = h0
set_option maxRecDepth 65536 in
set_option maxHeartbeats 40000000 in
theorem rmI23L (l : Launch) (Z : State) (a0 : Array Value) (hw : own_W a0 Z) (ws : List Jvm.Cond) (cs : Int32) (gS : Value) (a1 : Addr) (v1 : Addr) (k1 : ClassId) (ch : Int32) (x0 x1 x2 : Int32) (h0 : Heap) (n0 : Nat) (Z0 : n0 ≤ h0.size) (V_env : own_Env Z cs gS) (Od : Old Z n0 h0) (E_a1 : Exa Z h0 a1 "java/lang/String") (F1 : Fld Z h0 a1 "java/lang/String" "value" "[B" (.ref v1)) (F2 : Fld Z h0 a1 "java/lang/String" "coder" "B" (.int (0 : Int32))) (V1 : Arv Z h0 v1 k1 .byte (3 : Int32) [(.int x0.toInt8.toInt32), (.int x1.toInt8.toInt32), (.int x2.toInt8.toInt32)] (.int (0 : Int32))) (hq : own_cq ch) : own_Met l Z mn24 jdk_42_method_80_code 3 (some .int) ws (own_R 2 0 0 32) #[(.ref a1), (.int ch), (.int (0 : Int32))] h0 (own_QrmI23L ch x0 x1 x2 h0 n0) := by
  refine own_enter n0 (plainFor_of_name own_pn34) (fun m => ef_RII_3 m a1 ch (0 : Int32) ) (fun p e s m below meth c s₁ hx hby hlk hml hret hown hnm hZ X0 e0 N0 => ?_)
  show own_Fin _ _ _ _ _ _ _ s₁ (mkF m 0 #[Rv a1, Iv ch, Iv 0] [])
  obtain ⟨cq528, kq528, q528a, q528b, q528c⟩ := isOf hZ e0 E_a1
  obtain ⟨_, _, ⟨T528, L528, k528, n528⟩, -, X528, ⟨Lc528, hQ528, l528, y528, z528⟩, st528⟩ := X0.virtualBack hx (y := mn17) (z := mn17) hown (own_m hZ hw 42) (own_m hZ hw 43) (notFace_of_selects (args := #[]) (own_m hZ hw 45)) (own_m hZ hw 45) (own_m hZ hw 44) (by decide) (backOf (W := 0) (rmIs0 l Z a0 hw [] cs gS a1 h0 n0 Z0 V_env Od F2) hZ (own_g hw 46) (own_g hw 8) (by decide) (by decide)) q528a q528c (g := (mkF m 1 #[Rv a1, Iv ch, Iv 0] [(.ref a1)])) rfl (by rw [hml]; rfl) (Steps.refl _) (argsL := []) (rest := []) (lenOf own_pd349 rfl) rfl (own_z rfl) (hb hby d7_1) (fun _ _ => ⟨rfl, e0, (by decide : 0 + 0 ≤ _), (by decide : 0 + 0 ≤ _)⟩)
  dsimp only [Pt.U, Pt.locs, Pt.cells, Pt.slots] at X528 l528 y528 z528 st528 hQ528
  subst l528 y528 z528
  obtain ⟨rfl, Nq528, eh528⟩ := hQ528
  have N528 := Fr.app N0 Nq528
  obtain ⟨T529, X529, e529, st529⟩ := getF X528 hx hZ hown (host := "") (Or.inl (own_g hw 26)) Via.refl eh528 F1 (g := (mkF m 8 #[Rv a1, Iv ch, Iv 0] [(.ref a1)])) rfl rfl (hb hby d7_8)
  obtain ⟨cq530, kq530, q530a, q530b, q530c⟩ := isOf hZ e529 E_a1
  obtain ⟨_, _, ⟨T530, L530, k530, n530⟩, -, X530, ⟨Lc530, hQ530, l530, y530, z530⟩, st530⟩ := X529.virtualBack hx (y := mn23) (z := mn23) hown (own_m hZ hw 48) (own_m hZ hw 49) (notFace_of_selects (args := #[]) (own_m hZ hw 51)) (own_m hZ hw 51) (own_m hZ hw 50) (by decide) (backOf (W := 3) (rmSl3_L l Z a0 hw [] cs gS a1 v1 k1 [(.int x0.toInt8.toInt32), (.int x1.toInt8.toInt32), (.int x2.toInt8.toInt32)] h0 n0 Z0 V_env Od E_a1 F1 F2 V1) hZ (own_g hw 52) (own_g hw 8) (by decide) (by decide)) q530a q530c (g := (mkF m 14 #[Rv a1, Iv ch, Iv 0] [(.ref a1), (.int 0), (.int ch), (.ref v1)])) rfl (by rw [hml]; rfl) (Steps.refl _) (argsL := []) (rest := [(.int (0 : Int32)), (.int ch), (.ref v1)]) (lenOf own_pd357 rfl) rfl (own_z rfl) (hb hby d7_14) (fun _ _ => ⟨rfl, e529, (by decide : 0 + 0 ≤ _), (by decide : 0 + 0 ≤ _)⟩)
  dsimp only [Pt.U, Pt.locs, Pt.cells, Pt.slots] at X530 l530 y530 z530 st530 hQ530
  subst l530 y530 z530
  obtain ⟨rfl, Nq530, eh530⟩ := hQ530
  have N530 := Fr.app N528 Nq530
  obtain ⟨_, _, ⟨T531, L531, k531, n531⟩, -, X531, ⟨Lc531, hQ531, l531, y531, z531⟩, st531⟩ := LawKit.callS X530 hx (y := mn22) hown (own_m hZ hw 58) (own_m hZ hw 59) (own_m hZ hw 60) (own_m hZ hw 61) (by decide) (backOf (W := 0) (rmIo3L l Z a0 hw [] cs gS v1 k1 ch x0 x1 x2 h0 n0 Z0 V_env Od V1 hq ) hZ (own_g hw 61) (own_g hw 60) (by decide) (by decide)) (g := (mkF m 17 #[Rv a1, Iv ch, Iv 0] [(.int 3), (.int 0), (.int ch), (.ref v1)])) rfl (by rw [hml]; rfl) (argsL := [(.ref v1), (.int ch), (.int (0 : Int32)), (.int (3 : Int32))]) (rest := []) (lenOf own_pd359 rfl) rfl (own_z rfl) (hb hby d7_17) (fun _ _ => ⟨rfl, eh530, (by decide : 0 + 0 ≤ _), (by decide : 0 + 0 ≤ _)⟩)
  dsimp only [Pt.U, Pt.locs, Pt.cells, Pt.slots] at X531 l531 y531 z531 st531 hQ531
  subst l531 y531 z531
  obtain ⟨rfl, Nq531, eh531⟩ := hQ531
  have N531 := Fr.app N530 Nq531
  refine own_by (fun _ k => XS.aloadN X0.here hx rfl (hb hby d7_0) rfl rfl (st528.trans (XS.ifNo X528.here hx rfl (hb hby d7_4) rfl ((if0 _ _).trans (feq (by decide : ¬ ((1 : Int32) = (0 : Int32)))).1) (XS.aloadN X528.here hx rfl (hb hby d7_7) rfl rfl (st529 _ (XS.iloadN X529.here hx rfl (hb hby d7_11) rfl (XS.iloadN X529.here hx rfl (hb hby d7_12) rfl (XS.aloadN X529.here hx rfl (hb hby d7_13) rfl rfl (st530.trans (st531 _ k)))))))))) ?_
  show own_Fin _ _ _ _ _ _ _ T531 (mkF m 20 #[Rv a1, Iv ch, Iv 0] [(.int (own_find (ch.toInt8.toInt32) [x0.toInt8.toInt32, x1.toInt8.toInt32, x2.toInt8.toInt32] (0 : Int32)))])
  refine own_by (fun _ k => XS.goto X531.here hx rfl (pc0 := 20) (pc' := 36) rfl (hb hby d7_20) (by decide) (by decide) k) ?_
  exact own_retI X531 hx hlk hret (hb hby d7_36) ⟨rfl, N531, eh531⟩ (by decide) (by decide)
def own_QrmIx3L (ch : Int32) (x0 x1 x2 : Int32) (h0 : Heap) (n0 : Nat) (v : Option Value) (h : Heap) (L : List Loc) : Prop := v = some (.int (own_find (ch.toInt8.toInt32) [x0.toInt8.toInt32, x1.toInt8.toInt32, x2.toInt8.toInt32] (0 : Int32))) ∧ Fr n0 L ∧ h = h0
theorem rmIx3L (l : Launch) (Z : State) (a0 : Array Value) (hw : own_W a0 Z) (ws : List Jvm.Cond) (cs : Int32) (gS : Value) (a1 : Addr) (v1 : Addr) (k1 : ClassId) (ch : Int32) (x0 x1 x2 : Int32) (h0 : Heap) (n0 : Nat) (Z0 : n0 ≤ h0.size) (V_env : own_Env Z cs gS) (Od : Old Z n0 h0) (E_a1 : Exa Z h0 a1 "java/lang/String") (F1 : Fld Z h0 a1 "java/lang/String" "value" "[B" (.ref v1)) (F2 : Fld Z h0 a1 "java/lang/String" "coder" "B" (.int (0 : Int32))) (V1 : Arv Z h0 v1 k1 .byte (3 : Int32) [(.int x0.toInt8.toInt32), (.int x1.toInt8.toInt32), (.int x2.toInt8.toInt32)] (.int (0 : Int32))) (hq : own_cq ch) : own_Met l Z mn25 jdk_42_method_79_code 2 (some .int) ws (own_R 3 0 0 46) #[(.ref a1), (.int ch)] h0 (own_QrmIx3L ch x0 x1 x2 h0 n0) := by
  refine own_enter n0 (plainFor_of_name own_pn34) (fun m => ef_RI_2 m a1 ch ) (fun p e s m below meth c s₁ hx hby hlk hml hret hown hnm hZ X0 e0 N0 => ?_)
  show own_Fin _ _ _ _ _ _ _ s₁ (mkF m 0 #[Rv a1, Iv ch] [])
  obtain ⟨cq532, kq532, q532a, q532b, q532c⟩ := isOf hZ e0 E_a1
  obtain ⟨_, _, ⟨T532, L532, k532, n532⟩, -, X532, ⟨Lc532, hQ532, l532, y532, z532⟩, st532⟩ := X0.virtualBack hx (y := mn24) (z := mn24) hown (own_m hZ hw 37) (own_m hZ hw 38) (notFace_of_selects (args := #[]) (own_m hZ hw 40)) (own_m hZ hw 40) (own_m hZ hw 39) (by decide) (backOf (W := 0) (rmI23L l Z a0 hw [] cs gS a1 v1 k1 ch x0 x1 x2 h0 n0 Z0 V_env Od E_a1 F1 F2 V1 hq ) hZ (own_g hw 41) (own_g hw 8) (by decide) (by decide)) q532a q532c (g := (mkF m 3 #[Rv a1, Iv ch] [(.int 0), (.int ch), (.ref a1)])) rfl (by rw [hml]; rfl) (Steps.refl _) (argsL := [(.int ch), (.int (0 : Int32))]) (rest := []) (lenOf own_pd327 rfl) rfl (own_z rfl) (hb hby d6_3) (fun _ _ => ⟨rfl, e0, (by decide : 0 + 0 ≤ _), (by decide : 0 + 0 ≤ _)⟩)
  dsimp only [Pt.U, Pt.locs, Pt.cells, Pt.slots] at X532 l532 y532 z532 st532 hQ532
  subst l532 y532 z532
  obtain ⟨rfl, Nq532, eh532⟩ := hQ532
  have N532 := Fr.app N0 Nq532
  refine own_by (fun _ k => XS.aloadN X0.here hx rfl (hb hby d6_0) rfl rfl (XS.iloadN X0.here hx rfl (hb hby d6_1) rfl (XS.iconst X0.here hx rfl (hb hby d6_2) (st532.trans k)))) ?_
  exact own_retI X532 hx hlk hret (hb hby d6_6) ⟨rfl, N532, eh532⟩ (by decide) (by decide)
def own_QIW3L (x0 x1 x2 : Int32) (h0 : Heap) (n0 : Nat) (v : Option Value) (h : Heap) (L : List Loc) : Prop := v = some (.int (own_iw (own_find ((42 : Int32).toInt8.toInt32) [x0.toInt8.toInt32, x1.toInt8.toInt32, x2.toInt8.toInt32] (0 : Int32)) (own_find ((63 : Int32).toInt8.toInt32) [x0.toInt8.toInt32, x1.toInt8.toInt32, x2.toInt8.toInt32] (0 : Int32)))) ∧ Fr n0 L ∧ h = h0
set_option maxRecDepth 65536 in
set_option maxHeartbeats 40000000 in
theorem rmIW3L (l : Launch) (Z : State) (a0 : Array Value) (hw : own_W a0 Z) (ws : List Jvm.Cond) (cs : Int32) (gS : Value) (a1 v1 : Addr) (k1 : ClassId) (x0 x1 x2 : Int32)  (h0 : Heap) (n0 : Nat) (Z0 : n0 ≤ h0.size) (V_env : own_Env Z cs gS) (Od : Old Z n0 h0) (E_a1 : Exa Z h0 a1 "java/lang/String") (F1 : Fld Z h0 a1 "java/lang/String" "value" "[B" (.ref v1)) (F2 : Fld Z h0 a1 "java/lang/String" "coder" "B" (.int (0 : Int32))) (V1 : Arv Z h0 v1 k1 .byte (3 : Int32) [(.int x0.toInt8.toInt32), (.int x1.toInt8.toInt32), (.int x2.toInt8.toInt32)] (.int (0 : Int32))) : own_Met l Z mn26 prog_17_method_3_code 1 (some .boolean) ws (own_R 4 0 0 59) #[(.ref a1)] h0 (own_QIW3L x0 x1 x2 h0 n0) := by
  refine own_enter n0 (plainFor_of_name own_pn367) (fun m => ef_R_1 m a1 ) (fun p e s m below meth c s₁ hx hby hlk hml hret hown hnm hZ X0 e0 N0 => ?_)
  show own_Fin _ _ _ _ _ _ _ s₁ (mkF m 0 #[Rv a1] [])
  obtain ⟨cq533, kq533, q533a, q533b, q533c⟩ := isOf hZ e0 E_a1
  obtain ⟨_, _, ⟨T533, L533, k533, n533⟩, -, X533, ⟨Lc533, hQ533, l533, y533, z533⟩, st533⟩ := X0.virtualBack hx (y := mn25) (z := mn25) hown (own_m hZ hw 32) (own_m hZ hw 33) (notFace_of_selects (args := #[]) (own_m hZ hw 35)) (own_m hZ hw 35) (own_m hZ hw 34) (by decide) (backOf (W := 0) (rmIx3L l Z a0 hw [] cs gS a1 v1 k1 (42 : Int32) x0 x1 x2 h0 n0 Z0 V_env Od E_a1 F1 F2 V1 ⟨by decide, by decide, by decide⟩ ) hZ (own_g hw 36) (own_g hw 8) (by decide) (by decide)) q533a q533c (g := (mkF m 3 #[Rv a1] [(.int 42), (.ref a1)])) rfl (by rw [hml]; rfl) (Steps.refl _) (argsL := [(.int (42 : Int32))]) (rest := []) (lenOf own_pd70 rfl) rfl (own_z rfl) (hb hby d5_3) (fun _ _ => ⟨rfl, e0, (by decide : 0 + 0 ≤ _), (by decide : 0 + 0 ≤ _)⟩)
  dsimp only [Pt.U, Pt.locs, Pt.cells, Pt.slots] at X533 l533 y533 z533 st533 hQ533
  subst l533 y533 z533
  obtain ⟨rfl, Nq533, eh533⟩ := hQ533
  have N533 := Fr.app N0 Nq533
  refine own_by (fun _ k => XS.aloadN X0.here hx rfl (hb hby d5_0) rfl rfl (XS.bipush X0.here hx rfl (hb hby d5_1) (st533.trans k))) ?_
  show own_Fin _ _ _ _ _ _ _ T533 (mkF m 6 #[Rv a1] [(.int (own_find ((42 : Int32).toInt8.toInt32) [x0.toInt8.toInt32, x1.toInt8.toInt32, x2.toInt8.toInt32] (0 : Int32)))])
  by_cases hc6_534 : (own_find ((42 : Int32).toInt8.toInt32) [x0.toInt8.toInt32, x1.toInt8.toInt32, x2.toInt8.toInt32] (0 : Int32)) < (0 : Int32)
  · show own_Fin _ _ _ _ _ _ _ T533 (mkF m 6 #[Rv a1] [(.int (own_find ((42 : Int32).toInt8.toInt32) [x0.toInt8.toInt32, x1.toInt8.toInt32, x2.toInt8.toInt32] (0 : Int32)))])
    obtain ⟨cq535, kq535, q535a, q535b, q535c⟩ := isOf hZ eh533 E_a1
    obtain ⟨_, _, ⟨T535, L535, k535, n535⟩, -, X535, ⟨Lc535, hQ535, l535, y535, z535⟩, st535⟩ := X533.virtualBack hx (y := mn25) (z := mn25) hown (own_m hZ hw 32) (own_m hZ hw 33) (notFace_of_selects (args := #[]) (own_m hZ hw 35)) (own_m hZ hw 35) (own_m hZ hw 34) (by decide) (backOf (W := 0) (rmIx3L l Z a0 hw [] cs gS a1 v1 k1 (63 : Int32) x0 x1 x2 h0 n0 Z0 V_env Od E_a1 F1 F2 V1 ⟨by decide, by decide, by decide⟩ ) hZ (own_g hw 36) (own_g hw 8) (by decide) (by decide)) q535a q535c (g := (mkF m 12 #[Rv a1] [(.int 63), (.ref a1)])) rfl (by rw [hml]; rfl) (Steps.refl _) (argsL := [(.int (63 : Int32))]) (rest := []) (lenOf own_pd70 rfl) rfl (own_z rfl) (hb hby d5_12) (fun _ _ => ⟨rfl, eh533, (by decide : 0 + 0 ≤ _), (by decide : 0 + 0 ≤ _)⟩)
    dsimp only [Pt.U, Pt.locs, Pt.cells, Pt.slots] at X535 l535 y535 z535 st535 hQ535
    subst l535 y535 z535
    obtain ⟨rfl, Nq535, eh535⟩ := hQ535
    have N535 := Fr.app N533 Nq535
    refine own_by (fun _ k => XS.ifNo X533.here hx rfl (hb hby d5_6) rfl ((if0 _ _).trans (tlt hc6_534).2.1) (XS.aloadN X533.here hx rfl (hb hby d5_9) rfl rfl (XS.bipush X533.here hx rfl (hb hby d5_10) (st535.trans k)))) ?_
    show own_Fin _ _ _ _ _ _ _ T535 (mkF m 15 #[Rv a1] [(.int (own_find ((63 : Int32).toInt8.toInt32) [x0.toInt8.toInt32, x1.toInt8.toInt32, x2.toInt8.toInt32] (0 : Int32)))])
    by_cases hc15_536 : (own_find ((63 : Int32).toInt8.toInt32) [x0.toInt8.toInt32, x1.toInt8.toInt32, x2.toInt8.toInt32] (0 : Int32)) < (0 : Int32)
    · show own_Fin _ _ _ _ _ _ _ T535 (mkF m 15 #[Rv a1] [(.int (own_find ((63 : Int32).toInt8.toInt32) [x0.toInt8.toInt32, x1.toInt8.toInt32, x2.toInt8.toInt32] (0 : Int32)))])
      refine own_by (fun _ k => XS.ifYes X535.here hx rfl (pc0 := 15) (pc' := 22) rfl (hb hby d5_15) rfl ((if0 _ _).trans (tlt hc15_536).1) (by decide) (by decide) (XS.iconst X535.here hx rfl (hb hby d5_22) k)) ?_
      exact own_retZ X535 hx hlk (t := .boolean) hret (by simp) (hb hby d5_23) ⟨own_vi (by show (0 : Int32) = _; first | (simp only [own_iw, if_neg V_env.2.2.2.2.1, if_pos hc6_534, if_pos hc15_536]; done) | (simp only [own_iw, if_neg V_env.2.2.2.2.1, if_pos hc6_534, if_pos hc15_536]; decide) | simp [own_iw, V_env.2.2.2.2.1, hc6_534, hc15_536]), N535, eh535⟩ (by decide) (by decide)
    · show own_Fin _ _ _ _ _ _ _ T535 (mkF m 15 #[Rv a1] [(.int (own_find ((63 : Int32).toInt8.toInt32) [x0.toInt8.toInt32, x1.toInt8.toInt32, x2.toInt8.toInt32] (0 : Int32)))])
      refine own_by (fun _ k => XS.ifNo X535.here hx rfl (hb hby d5_15) rfl ((if0 _ _).trans (flt hc15_536).1) (XS.iconst X535.here hx rfl (hb hby d5_18) (XS.goto X535.here hx rfl (pc0 := 19) (pc' := 23) rfl (hb hby d5_19) (by decide) (by decide) k))) ?_
      exact own_retZ X535 hx hlk (t := .boolean) hret (by simp) (hb hby d5_23) ⟨own_vi (by show (1 : Int32) = _; first | (simp only [own_iw, if_neg V_env.2.2.2.2.1, if_pos hc6_534, if_neg hc15_536]; done) | (simp only [own_iw, if_neg V_env.2.2.2.2.1, if_pos hc6_534, if_neg hc15_536]; decide) | simp [own_iw, V_env.2.2.2.2.1, hc6_534, hc15_536]), N535, eh535⟩ (by decide) (by decide)
  · show own_Fin _ _ _ _ _ _ _ T533 (mkF m 6 #[Rv a1] [(.int (own_find ((42 : Int32).toInt8.toInt32) [x0.toInt8.toInt32, x1.toInt8.toInt32, x2.toInt8.toInt32] (0 : Int32)))])
    refine own_by (fun _ k => XS.ifYes X533.here hx rfl (pc0 := 6) (pc' := 18) rfl (hb hby d5_6) rfl ((if0 _ _).trans (flt hc6_534).2.1) (by decide) (by decide) (XS.iconst X533.here hx rfl (hb hby d5_18) (XS.goto X533.here hx rfl (pc0 := 19) (pc' := 23) rfl (hb hby d5_19) (by decide) (by decide) k))) ?_
    exact own_retZ X533 hx hlk (t := .boolean) hret (by simp) (hb hby d5_23) ⟨own_vi (by show (1 : Int32) = _; first | (simp only [own_iw, if_neg V_env.2.2.2.2.1, if_neg hc6_534]; done) | (simp only [own_iw, if_neg V_env.2.2.2.2.1, if_neg hc6_534]; decide) | simp [own_iw, V_env.2.2.2.2.1, hc6_534]), N533, eh533⟩ (by decide) (by decide)
def own_QrmLu3 (h0 : Heap) (n0 : Nat) (v : Option Value) (h : Heap) (L : List Loc) : Prop := v = some (.int (3 : Int32)) ∧ Fr n0 L ∧ h = h0
theorem rmLu3 (l : Launch) (Z : State) (a0 : Array Value) (hw : own_W a0 Z) (ws : List Jvm.Cond) (v1 : Addr) (k1 : ClassId) (vs : List Value) (h0 : Heap) (n0 : Nat) (Z0 : n0 ≤ h0.size) (V1 : Arv Z h0 v1 k1 .byte (6 : Int32) vs (.int (0 : Int32))) : own_Met l Z mn28 jdk_52_method_6_code 1 (some .int) ws (own_R 0 0 0 0) #[(.ref v1)] h0 (own_QrmLu3 h0 n0) := by
  refine own_enter n0 (plainFor_of_name own_pn58) (fun m => ef_R_1 m v1 ) (fun p e s m below meth c s₁ hx hby hlk hml hret hown hnm hZ X0 e0 N0 => ?_)
  show own_Fin _ _ _ _ _ _ _ s₁ (mkF m 0 #[Rv v1] [])
  obtain ⟨cl537, Ar537, -, S537, M537, -, -⟩ := id V1
  refine own_by (fun _ k => XS.aloadN X0.here hx rfl (hb hby d32_0) rfl rfl (X0.arraylength hx (by rw [e0]; exact Ar537.1) (State.isArrayOf_alike hZ.alike Ar537.2.1) (g := (mkF m 1 #[Rv v1] [(.ref v1)])) rfl rfl (hb hby d32_1) _ k)) ?_
  rw [len_of S537 M537]
  show own_Fin _ _ _ _ _ _ _ s₁ (mkF m 2 #[Rv v1] [(.int 6)])
  refine own_by (fun _ k => XS.iconst X0.here hx rfl (hb hby d32_2) (XS.ishr X0.here hx rfl (hb hby d32_3) rfl k)) ?_
  show own_Fin _ _ _ _ _ _ _ s₁ (mkF m 4 #[Rv v1] [(.int ((6 : Int32) >>> ((1 : Int32) &&& 31)))])
  rw [(by decide : ((6 : Int32) >>> ((1 : Int32) &&& 31)) = (3 : Int32))]
  show own_Fin _ _ _ _ _ _ _ s₁ (mkF m 4 #[Rv v1] [(.int 3)])
  exact own_retI X0 hx hlk hret (hb hby d32_4) ⟨rfl, N0, e0⟩ (by decide) (by decide)
def own_QrmCf3 (h0 : Heap) (n0 : Nat) (v : Option Value) (h : Heap) (L : List Loc) : Prop := v = some (.int (0 : Int32)) ∧ Fr n0 L ∧ h = h0
theorem rmCf3 (l : Launch) (Z : State) (a0 : Array Value) (hw : own_W a0 Z) (ws : List Jvm.Cond) (gS : Value) (h0 : Heap) (n0 : Nat) (Z0 : n0 ≤ h0.size) (hgS : gS.isRef = true) : own_Met l Z mn29 jdk_41_method_12_code 4 (some .int) ws (own_R 0 0 0 0) #[(.int (0 : Int32)), (.int (3 : Int32)), (.int (3 : Int32)), gS] h0 (own_QrmCf3 h0 n0) := by
  refine own_enter n0 (plainFor_of_name own_pn412) (fun m => ef_IIIV_4 m (0 : Int32) (3 : Int32) (3 : Int32) gS (by rcases ref_cases (by assumption : (gS).isRef = true) with h | ⟨_, h⟩ <;> rw [h] <;> rfl)) (fun p e s m below meth c s₁ hx hby hlk hml hret hown hnm hZ X0 e0 N0 => ?_)
  show own_Fin _ _ _ _ _ _ _ s₁ (mkF m 0 #[Iv 0, Iv 3, Iv 3, .val gS] [])
  refine own_by (fun _ k => XS.iloadN X0.here hx rfl (hb hby d34_0) rfl (XS.ifNo X0.here hx rfl (hb hby d34_1) rfl ((if0 _ _).trans (flt (by decide : ¬ ((0 : Int32) < (0 : Int32)))).1) (XS.iloadN X0.here hx rfl (hb hby d34_4) rfl (XS.iloadN X0.here hx rfl (hb hby d34_5) rfl (XS.icmpNo X0.here hx rfl (hb hby d34_6) rfl (flt (by decide : ¬ ((3 : Int32) < (0 : Int32)))).2.2.1 (XS.iloadN X0.here hx rfl (hb hby d34_9) rfl (XS.iloadN X0.here hx rfl (hb hby d34_10) rfl (XS.icmpYes X0.here hx rfl (pc0 := 11) (pc' := 22) rfl (hb hby d34_11) rfl (flt (by decide : ¬ ((3 : Int32) < (3 : Int32)))).2.2.2 (by decide) (by decide) (XS.iloadN X0.here hx rfl (hb hby d34_22) rfl k))))))))) ?_
  exact own_retI X0 hx hlk hret (hb hby d34_23) ⟨rfl, N0, e0⟩ (by decide) (by decide)
def own_QCb3 (h0 : Heap) (n0 : Nat) (v : Option Value) (h : Heap) (L : List Loc) : Prop := v = none ∧ Fr n0 L ∧ h = h0
theorem rmCb3 (l : Launch) (Z : State) (a0 : Array Value) (hw : own_W a0 Z) (ws : List Jvm.Cond) (cs : Int32) (gS : Value) (h0 : Heap) (n0 : Nat) (Z0 : n0 ≤ h0.size) (V_env : own_Env Z cs gS) (Od : Old Z n0 h0) : own_Met l Z mn30 jdk_42_method_158_code 3 none ws (own_R 1 0 0 15) #[(.int (0 : Int32)), (.int (3 : Int32)), (.int (3 : Int32))] h0 (own_QCb3 h0 n0) := by
  refine own_enter n0 (plainFor_of_name own_pn34) (fun m => ef_III_3 m (0 : Int32) (3 : Int32) (3 : Int32) ) (fun p e s m below meth c s₁ hx hby hlk hml hret hown hnm hZ X0 e0 N0 => ?_)
  show own_Fin _ _ _ _ _ _ _ s₁ (mkF m 0 #[Iv 0, Iv 3, Iv 3] [])
  have hgS : gS.isRef = true := V_env.2.2.2.2.2.2
  obtain ⟨T538, X538, e538, st538⟩ := getS2 X0 hx hZ hown (host := "") (Or.inl (own_g hw 138)) Via.refl e0 (V_env.2.2.2.2.2.1.ext Od.2) (g := (mkF m 3 #[Iv 0, Iv 3, Iv 3] [(.int 3), (.int 3), (.int 0)])) rfl (hb hby d33_3)
  obtain ⟨_, _, ⟨T539, L539, k539, n539⟩, -, X539, ⟨Lc539, hQ539, l539, y539, z539⟩, st539⟩ := LawKit.callS X538 hx (y := mn29) hown (own_m hZ hw 140) (own_m hZ hw 141) (own_m hZ hw 139) (own_m hZ hw 142) (by decide) (backOf (W := 0) (rmCf3 l Z a0 hw [] gS h0 n0 Z0 hgS) hZ (own_g hw 142) (own_g hw 139) (by decide) (by decide)) (g := (mkF m 6 #[Iv 0, Iv 3, Iv 3] [gS, (.int 3), (.int 3), (.int 0)])) rfl (by rw [hml]; rfl) (argsL := [(.int (0 : Int32)), (.int (3 : Int32)), (.int (3 : Int32)), gS]) (rest := []) (lenOf own_pd429 rfl) rfl (own_z rfl) (hb hby d33_6) (fun _ _ => ⟨rfl, e538, (by decide : 0 + 0 ≤ _), (by decide : 0 + 0 ≤ _)⟩)
  dsimp only [Pt.U, Pt.locs, Pt.cells, Pt.slots] at X539 l539 y539 z539 st539 hQ539
  subst l539 y539 z539
  obtain ⟨rfl, Nq539, eh539⟩ := hQ539
  have N539 := Fr.app N0 Nq539
  refine own_by (fun _ k => XS.iloadN X0.here hx rfl (hb hby d33_0) rfl (XS.iloadN X0.here hx rfl (hb hby d33_1) rfl (XS.iloadN X0.here hx rfl (hb hby d33_2) rfl (st538 _ (st539 _ (XS.pop X539.here hx rfl (hb hby d33_9) rfl rfl k)))))) ?_
  exact own_retV X539 hx hlk hret (hb hby d33_10) ⟨rfl, N539, eh539⟩ (by decide) (by decide)
theorem rmCu3 (l : Launch) (Z : State) (a0 : Array Value) (hw : own_W a0 Z) (ws : List Jvm.Cond) (cs : Int32) (gS : Value) (v1 : Addr) (k1 : ClassId) (vs : List Value) (h0 : Heap) (n0 : Nat) (Z0 : n0 ≤ h0.size) (V_env : own_Env Z cs gS) (Od : Old Z n0 h0) (V1 : Arv Z h0 v1 k1 .byte (6 : Int32) vs (.int (0 : Int32))) : own_Met l Z mn31 jdk_52_method_93_code 3 none ws (own_R 2 0 0 29) #[(.int (0 : Int32)), (.int (3 : Int32)), (.ref v1)] h0 (own_QCb3 h0 n0) := by
  refine own_enter n0 (plainFor_of_name own_pn58) (fun m => ef_IIR_3 m (0 : Int32) (3 : Int32) v1 ) (fun p e s m below meth c s₁ hx hby hlk hml hret hown hnm hZ X0 e0 N0 => ?_)
  show own_Fin _ _ _ _ _ _ _ s₁ (mkF m 0 #[Iv 0, Iv 3, Rv v1] [])
  obtain ⟨_, _, ⟨T540, L540, k540, n540⟩, -, X540, ⟨Lc540, hQ540, l540, y540, z540⟩, st540⟩ := LawKit.callS X0 hx (y := mn28) hown (own_m hZ hw 132) (own_m hZ hw 133) (own_m hZ hw 74) (own_m hZ hw 134) (by decide) (backOf (W := 2) (rmLu3 l Z a0 hw [] v1 k1 vs h0 n0 Z0 V1) hZ (own_g hw 134) (own_g hw 74) (by decide) (by decide)) (g := (mkF m 3 #[Iv 0, Iv 3, Rv v1] [(.ref v1), (.int 3), (.int 0)])) rfl (by rw [hml]; rfl) (argsL := [(.ref v1)]) (rest := [(.int (3 : Int32)), (.int (0 : Int32))]) (lenOf own_pd437 rfl) rfl (own_z rfl) (hb hby d31_3) (fun _ _ => ⟨rfl, e0, (by decide : 0 + 0 ≤ _), (by decide : 0 + 0 ≤ _)⟩)
  dsimp only [Pt.U, Pt.locs, Pt.cells, Pt.slots] at X540 l540 y540 z540 st540 hQ540
  subst l540 y540 z540
  obtain ⟨rfl, Nq540, eh540⟩ := hQ540
  have N540 := Fr.app N0 Nq540
  obtain ⟨_, _, ⟨T541, L541, k541, n541⟩, -, X541, ⟨Lc541, hQ541, l541, y541, z541⟩, st541⟩ := LawKit.callS X540 hx (y := mn30) hown (own_m hZ hw 135) (own_m hZ hw 136) (own_m hZ hw 8) (own_m hZ hw 137) (by decide) (backOf (W := 0) (rmCb3 l Z a0 hw [] cs gS h0 n0 Z0 V_env Od) hZ (own_g hw 137) (own_g hw 8) (by decide) (by decide)) (g := (mkF m 6 #[Iv 0, Iv 3, Rv v1] [(.int 3), (.int 3), (.int 0)])) rfl (by rw [hml]; rfl) (argsL := [(.int (0 : Int32)), (.int (3 : Int32)), (.int (3 : Int32))]) (rest := []) (lenOf own_pd439 rfl) rfl (own_z rfl) (hb hby d31_6) (fun _ _ => ⟨rfl, eh540, (by decide : 0 + 0 ≤ _), (by decide : 0 + 0 ≤ _)⟩)
  dsimp only [Pt.U, Pt.locs, Pt.cells, Pt.slots] at X541 l541 y541 z541 st541 hQ541
  subst l541 y541 z541
  obtain ⟨rfl, Nq541, eh541⟩ := hQ541
  have N541 := Fr.app N540 Nq541
  refine own_by (fun _ k => XS.iloadN X0.here hx rfl (hb hby d31_0) rfl (XS.iloadN X0.here hx rfl (hb hby d31_1) rfl (XS.aloadN X0.here hx rfl (hb hby d31_2) rfl rfl (st540 _ (st541 _ k))))) ?_
  exact own_retV X541 hx hlk hret (hb hby d31_9) ⟨rfl, N541, eh541⟩ (by decide) (by decide)
def own_QrmIn3U (ch : Int32) (x0 x1 x2 : Int32) (h0 : Heap) (n0 : Nat) (v : Option Value) (h : Heap) (L : List Loc) : Prop := v = some (.int (own_find ch [x0, x1, x2] (0 : Int32))) ∧ Fr n0 L ∧ h = h0
set_option maxRecDepth 65536 in
set_option maxHeartbeats 40000000 in
theorem rmIn3U (l : Launch) (Z : State) (a0 : Array Value) (hw : own_W a0 Z) (ws : List Jvm.Cond) (cs : Int32) (gS : Value) (v1 : Addr) (k1 : ClassId) (ch : Int32) (x0 x1 x2 : Int32) (h0 : Heap) (n0 : Nat) (Z0 : n0 ≤ h0.size) (V_env : own_Env Z cs gS) (Od : Old Z n0 h0) (V1 : Arv Z h0 v1 k1 .byte (6 : Int32) [(.int (own_lo x0)), (.int (own_hi x0)), (.int (own_lo x1)), (.int (own_hi x1)), (.int (own_lo x2)), (.int (own_hi x2))] (.int (0 : Int32))) (hq : own_cq ch) (hx0 : own_ch x0) (hx1 : own_ch x1) (hx2 : own_ch x2) : own_Met l Z mn32 jdk_52_method_48_code 5 (some .int) ws (own_R 1 0 0 13) #[(.ref v1), (.int ch), (.int (0 : Int32)), (.int (3 : Int32))] h0 (own_QrmIn3U ch x0 x1 x2 h0 n0) := by
  refine own_enter n0 (plainFor_of_name own_pn58) (fun m => ef_RIII_5 m v1 ch (0 : Int32) (3 : Int32) ) (fun p e s m below meth c s₁ hx hby hlk hml hret hown hnm hZ X0 e0 N0 => ?_)
  show own_Fin _ _ _ _ _ _ _ s₁ (mkF m 0 #[Rv v1, Iv ch, Iv 0, Iv 3, Uv] [])
  obtain ⟨_, _, ⟨T542, L542, k542, n542⟩, -, X542, ⟨Lc542, hQ542, l542, y542, z542⟩, st542⟩ := LawKit.callS X0 hx (y := mn8) hown (own_m hZ hw 117) (own_m hZ hw 118) (own_m hZ hw 74) (own_m hZ hw 119) (by decide) (backOf (W := 0) (rmGC3_0 l Z a0 hw [] cs gS v1 k1 x0 x1 x2 h0 n0 Z0 V_env Od V1 hx0) hZ (own_g hw 119) (own_g hw 74) (by decide) (by decide)) (g := (mkF m 12 #[Rv v1, Iv ch, Iv 0, Iv 3, Iv 0] [(.int 0), (.ref v1)])) rfl (by rw [hml]; rfl) (argsL := [(.ref v1), (.int (0 : Int32))]) (rest := []) (lenOf own_pd195 rfl) rfl (own_z rfl) (hb hby d35_12) (fun _ _ => ⟨rfl, e0, (by decide : 0 + 0 ≤ _), (by decide : 0 + 0 ≤ _)⟩)
  dsimp only [Pt.U, Pt.locs, Pt.cells, Pt.slots] at X542 l542 y542 z542 st542 hQ542
  subst l542 y542 z542
  obtain ⟨rfl, Nq542, eh542⟩ := hQ542
  have N542 := Fr.app N0 Nq542
  refine own_by (fun _ k => XS.iloadN X0.here hx rfl (hb hby d35_0) rfl (XS.istore X0.here hx rfl (hb hby d35_1) rfl (l' := #[Rv v1, Iv ch, Iv 0, Iv 3, Iv 0]) rfl (XS.iload X0.here hx rfl (hb hby d35_3) rfl (XS.iloadN X0.here hx rfl (hb hby d35_5) rfl (XS.icmpNo X0.here hx rfl (hb hby d35_6) rfl (tlt (by decide : (0 : Int32) < (3 : Int32))).2.1 (XS.aloadN X0.here hx rfl (hb hby d35_9) rfl rfl (XS.iload X0.here hx rfl (hb hby d35_10) rfl (st542 _ (XS.iloadN X542.here hx rfl (hb hby d35_15) rfl k))))))))) ?_
  show own_Fin _ _ _ _ _ _ _ T542 (mkF m 16 #[Rv v1, Iv ch, Iv 0, Iv 3, Iv 0] [(.int ch), (.int x0)])
  by_cases hc16_543 : x0 = ch
  · show own_Fin _ _ _ _ _ _ _ T542 (mkF m 16 #[Rv v1, Iv ch, Iv 0, Iv 3, Iv 0] [(.int ch), (.int x0)])
    refine own_by (fun _ k => XS.icmpNo X542.here hx rfl (hb hby d35_16) rfl (teq hc16_543).2 (XS.iload X542.here hx rfl (hb hby d35_19) rfl k)) ?_
    exact own_retI X542 hx hlk hret (hb hby d35_21) ⟨own_vi (by show (0 : Int32) = _; first | (simp only [own_find, if_neg V_env.2.2.2.2.1, if_neg hq.1, if_neg hq.2.1, if_pos hq.2.2, if_pos hc16_543]; done) | (simp only [own_find, if_neg V_env.2.2.2.2.1, if_neg hq.1, if_neg hq.2.1, if_pos hq.2.2, if_pos hc16_543]; decide) | simp [own_find, V_env.2.2.2.2.1, hq.1, hq.2.1, hq.2.2, hc16_543]), N542, eh542⟩ (by decide) (by decide)
  · show own_Fin _ _ _ _ _ _ _ T542 (mkF m 16 #[Rv v1, Iv ch, Iv 0, Iv 3, Iv 0] [(.int ch), (.int x0)])
    refine own_by (fun _ k => XS.icmpYes X542.here hx rfl (pc0 := 16) (pc' := 22) rfl (hb hby d35_16) rfl (feq hc16_543).2 (by decide) (by decide) (XS.iinc X542.here hx rfl (hb hby d35_22) rfl (l' := #[Rv v1, Iv ch, Iv 0, Iv 3, Iv ((0 : Int32) + (1 : Int32))]) rfl k)) ?_
    show own_Fin _ _ _ _ _ _ _ T542 (mkF m 25 #[Rv v1, Iv ch, Iv 0, Iv 3, Iv ((0 : Int32) + (1 : Int32))] [])
    rw [(by decide : ((0 : Int32) + (1 : Int32)) = (1 : Int32))]
    show own_Fin _ _ _ _ _ _ _ T542 (mkF m 25 #[Rv v1, Iv ch, Iv 0, Iv 3, Iv 1] [])
    obtain ⟨_, _, ⟨T544, L544, k544, n544⟩, -, X544, ⟨Lc544, hQ544, l544, y544, z544⟩, st544⟩ := LawKit.callS X542 hx (y := mn8) hown (own_m hZ hw 117) (own_m hZ hw 118) (own_m hZ hw 74) (own_m hZ hw 119) (by decide) (backOf (W := 0) (rmGC3_1 l Z a0 hw [] cs gS v1 k1 x0 x1 x2 h0 n0 Z0 V_env Od V1 hx1) hZ (own_g hw 119) (own_g hw 74) (by decide) (by decide)) (g := (mkF m 12 #[Rv v1, Iv ch, Iv 0, Iv 3, Iv 1] [(.int 1), (.ref v1)])) rfl (by rw [hml]; rfl) (argsL := [(.ref v1), (.int (1 : Int32))]) (rest := []) (lenOf own_pd195 rfl) rfl (own_z rfl) (hb hby d35_12) (fun _ _ => ⟨rfl, eh542, (by decide : 0 + 0 ≤ _), (by decide : 0 + 0 ≤ _)⟩)
    dsimp only [Pt.U, Pt.locs, Pt.cells, Pt.slots] at X544 l544 y544 z544 st544 hQ544
    subst l544 y544 z544
    obtain ⟨rfl, Nq544, eh544⟩ := hQ544
    have N544 := Fr.app N542 Nq544
    refine own_by (fun _ k => XS.goto X542.here hx rfl (pc0 := 25) (pc' := 3) rfl (hb hby d35_25) (by decide) (by decide) (XS.iload X542.here hx rfl (hb hby d35_3) rfl (XS.iloadN X542.here hx rfl (hb hby d35_5) rfl (XS.icmpNo X542.here hx rfl (hb hby d35_6) rfl (tlt (by decide : (1 : Int32) < (3 : Int32))).2.1 (XS.aloadN X542.here hx rfl (hb hby d35_9) rfl rfl (XS.iload X542.here hx rfl (hb hby d35_10) rfl (st544 _ (XS.iloadN X544.here hx rfl (hb hby d35_15) rfl k)))))))) ?_
    show own_Fin _ _ _ _ _ _ _ T544 (mkF m 16 #[Rv v1, Iv ch, Iv 0, Iv 3, Iv 1] [(.int ch), (.int x1)])
    by_cases hc16_545 : x1 = ch
    · show own_Fin _ _ _ _ _ _ _ T544 (mkF m 16 #[Rv v1, Iv ch, Iv 0, Iv 3, Iv 1] [(.int ch), (.int x1)])
      refine own_by (fun _ k => XS.icmpNo X544.here hx rfl (hb hby d35_16) rfl (teq hc16_545).2 (XS.iload X544.here hx rfl (hb hby d35_19) rfl k)) ?_
      exact own_retI X544 hx hlk hret (hb hby d35_21) ⟨own_vi (by show (1 : Int32) = _; first | (simp only [own_find, if_neg V_env.2.2.2.2.1, if_neg hq.1, if_neg hq.2.1, if_pos hq.2.2, if_neg hc16_543, if_pos hc16_545]; done) | (simp only [own_find, if_neg V_env.2.2.2.2.1, if_neg hq.1, if_neg hq.2.1, if_pos hq.2.2, if_neg hc16_543, if_pos hc16_545]; decide) | simp [own_find, V_env.2.2.2.2.1, hq.1, hq.2.1, hq.2.2, hc16_543, hc16_545]), N544, eh544⟩ (by decide) (by decide)
    · show own_Fin _ _ _ _ _ _ _ T544 (mkF m 16 #[Rv v1, Iv ch, Iv 0, Iv 3, Iv 1] [(.int ch), (.int x1)])
      refine own_by (fun _ k => XS.icmpYes X544.here hx rfl (pc0 := 16) (pc' := 22) rfl (hb hby d35_16) rfl (feq hc16_545).2 (by decide) (by decide) (XS.iinc X544.here hx rfl (hb hby d35_22) rfl (l' := #[Rv v1, Iv ch, Iv 0, Iv 3, Iv ((1 : Int32) + (1 : Int32))]) rfl k)) ?_
      show own_Fin _ _ _ _ _ _ _ T544 (mkF m 25 #[Rv v1, Iv ch, Iv 0, Iv 3, Iv ((1 : Int32) + (1 : Int32))] [])
      rw [(by decide : ((1 : Int32) + (1 : Int32)) = (2 : Int32))]
      show own_Fin _ _ _ _ _ _ _ T544 (mkF m 25 #[Rv v1, Iv ch, Iv 0, Iv 3, Iv 2] [])
      obtain ⟨_, _, ⟨T546, L546, k546, n546⟩, -, X546, ⟨Lc546, hQ546, l546, y546, z546⟩, st546⟩ := LawKit.callS X544 hx (y := mn8) hown (own_m hZ hw 117) (own_m hZ hw 118) (own_m hZ hw 74) (own_m hZ hw 119) (by decide) (backOf (W := 0) (rmGC3_2 l Z a0 hw [] cs gS v1 k1 x0 x1 x2 h0 n0 Z0 V_env Od V1 hx2) hZ (own_g hw 119) (own_g hw 74) (by decide) (by decide)) (g := (mkF m 12 #[Rv v1, Iv ch, Iv 0, Iv 3, Iv 2] [(.int 2), (.ref v1)])) rfl (by rw [hml]; rfl) (argsL := [(.ref v1), (.int (2 : Int32))]) (rest := []) (lenOf own_pd195 rfl) rfl (own_z rfl) (hb hby d35_12) (fun _ _ => ⟨rfl, eh544, (by decide : 0 + 0 ≤ _), (by decide : 0 + 0 ≤ _)⟩)
      dsimp only [Pt.U, Pt.locs, Pt.cells, Pt.slots] at X546 l546 y546 z546 st546 hQ546
      subst l546 y546 z546
      obtain ⟨rfl, Nq546, eh546⟩ := hQ546
      have N546 := Fr.app N544 Nq546
      refine own_by (fun _ k => XS.goto X544.here hx rfl (pc0 := 25) (pc' := 3) rfl (hb hby d35_25) (by decide) (by decide) (XS.iload X544.here hx rfl (hb hby d35_3) rfl (XS.iloadN X544.here hx rfl (hb hby d35_5) rfl (XS.icmpNo X544.here hx rfl (hb hby d35_6) rfl (tlt (by decide : (2 : Int32) < (3 : Int32))).2.1 (XS.aloadN X544.here hx rfl (hb hby d35_9) rfl rfl (XS.iload X544.here hx rfl (hb hby d35_10) rfl (st546 _ (XS.iloadN X546.here hx rfl (hb hby d35_15) rfl k)))))))) ?_
      show own_Fin _ _ _ _ _ _ _ T546 (mkF m 16 #[Rv v1, Iv ch, Iv 0, Iv 3, Iv 2] [(.int ch), (.int x2)])
      by_cases hc16_547 : x2 = ch
      · show own_Fin _ _ _ _ _ _ _ T546 (mkF m 16 #[Rv v1, Iv ch, Iv 0, Iv 3, Iv 2] [(.int ch), (.int x2)])
        refine own_by (fun _ k => XS.icmpNo X546.here hx rfl (hb hby d35_16) rfl (teq hc16_547).2 (XS.iload X546.here hx rfl (hb hby d35_19) rfl k)) ?_
        exact own_retI X546 hx hlk hret (hb hby d35_21) ⟨own_vi (by show (2 : Int32) = _; first | (simp only [own_find, if_neg V_env.2.2.2.2.1, if_neg hq.1, if_neg hq.2.1, if_pos hq.2.2, if_neg hc16_543, if_neg hc16_545, if_pos hc16_547]; done) | (simp only [own_find, if_neg V_env.2.2.2.2.1, if_neg hq.1, if_neg hq.2.1, if_pos hq.2.2, if_neg hc16_543, if_neg hc16_545, if_pos hc16_547]; decide) | simp [own_find, V_env.2.2.2.2.1, hq.1, hq.2.1, hq.2.2, hc16_543, hc16_545, hc16_547]), N546, eh546⟩ (by decide) (by decide)
      · show own_Fin _ _ _ _ _ _ _ T546 (mkF m 16 #[Rv v1, Iv ch, Iv 0, Iv 3, Iv 2] [(.int ch), (.int x2)])
        refine own_by (fun _ k => XS.icmpYes X546.here hx rfl (pc0 := 16) (pc' := 22) rfl (hb hby d35_16) rfl (feq hc16_547).2 (by decide) (by decide) (XS.iinc X546.here hx rfl (hb hby d35_22) rfl (l' := #[Rv v1, Iv ch, Iv 0, Iv 3, Iv ((2 : Int32) + (1 : Int32))]) rfl k)) ?_
        show own_Fin _ _ _ _ _ _ _ T546 (mkF m 25 #[Rv v1, Iv ch, Iv 0, Iv 3, Iv ((2 : Int32) + (1 : Int32))] [])
        rw [(by decide : ((2 : Int32) + (1 : Int32)) = (3 : Int32))]
        show own_Fin _ _ _ _ _ _ _ T546 (mkF m 25 #[Rv v1, Iv ch, Iv 0, Iv 3, Iv 3] [])
        refine own_by (fun _ k => XS.goto X546.here hx rfl (pc0 := 25) (pc' := 3) rfl (hb hby d35_25) (by decide) (by decide) (XS.iload X546.here hx rfl (hb hby d35_3) rfl (XS.iloadN X546.here hx rfl (hb hby d35_5) rfl (XS.icmpYes X546.here hx rfl (pc0 := 6) (pc' := 28) rfl (hb hby d35_6) rfl (flt (by decide : ¬ ((3 : Int32) < (3 : Int32)))).2.1 (by decide) (by decide) (XS.iconst X546.here hx rfl (hb hby d35_28) k))))) ?_
        exact own_retI X546 hx hlk hret (hb hby d35_29) ⟨own_vi (by show (-1 : Int32) = _; first | (simp only [own_find, if_neg V_env.2.2.2.2.1, if_neg hq.1, if_neg hq.2.1, if_pos hq.2.2, if_neg hc16_543, if_neg hc16_545, if_neg hc16_547]; done) | (simp only [own_find, if_neg V_env.2.2.2.2.1, if_neg hq.1, if_neg hq.2.1, if_pos hq.2.2, if_neg hc16_543, if_neg hc16_545, if_neg hc16_547]; decide) | simp [own_find, V_env.2.2.2.2.1, hq.1, hq.2.1, hq.2.2, hc16_543, hc16_545, hc16_547]), N546, eh546⟩ (by decide) (by decide)
def own_QrmIc3U (ch : Int32) (x0 x1 x2 : Int32) (h0 : Heap) (n0 : Nat) (v : Option Value) (h : Heap) (L : List Loc) : Prop := v = some (.int (own_find ch [x0, x1, x2] (0 : Int32))) ∧ Fr n0 L ∧ h = h0
theorem rmIc3U (l : Launch) (Z : State) (a0 : Array Value) (hw : own_W a0 Z) (ws : List Jvm.Cond) (cs : Int32) (gS : Value) (v1 : Addr) (k1 : ClassId) (ch : Int32) (x0 x1 x2 : Int32) (h0 : Heap) (n0 : Nat) (Z0 : n0 ≤ h0.size) (V_env : own_Env Z cs gS) (Od : Old Z n0 h0) (V1 : Arv Z h0 v1 k1 .byte (6 : Int32) [(.int (own_lo x0)), (.int (own_hi x0)), (.int (own_lo x1)), (.int (own_hi x1)), (.int (own_lo x2)), (.int (own_hi x2))] (.int (0 : Int32))) (hq : own_cq ch) (hx0 : own_ch x0) (hx1 : own_ch x1) (hx2 : own_ch x2) : own_Met l Z mn33 jdk_52_method_47_code 4 (some .int) ws (own_R 3 0 0 43) #[(.ref v1), (.int ch), (.int (0 : Int32)), (.int (3 : Int32))] h0 (own_QrmIc3U ch x0 x1 x2 h0 n0) := by
  refine own_enter n0 (plainFor_of_name own_pn58) (fun m => ef_RIII_4 m v1 ch (0 : Int32) (3 : Int32) ) (fun p e s m below meth c s₁ hx hby hlk hml hret hown hnm hZ X0 e0 N0 => ?_)
  show own_Fin _ _ _ _ _ _ _ s₁ (mkF m 0 #[Rv v1, Iv ch, Iv 0, Iv 3] [])
  obtain ⟨_, _, ⟨T548, L548, k548, n548⟩, -, X548, ⟨Lc548, hQ548, l548, y548, z548⟩, st548⟩ := LawKit.callS X0 hx (y := mn31) hown (own_m hZ hw 129) (own_m hZ hw 130) (own_m hZ hw 74) (own_m hZ hw 131) (by decide) (backOf (W := 0) (rmCu3 l Z a0 hw [] cs gS v1 k1 [(.int (own_lo x0)), (.int (own_hi x0)), (.int (own_lo x1)), (.int (own_hi x1)), (.int (own_lo x2)), (.int (own_hi x2))] h0 n0 Z0 V_env Od V1) hZ (own_g hw 131) (own_g hw 74) (by decide) (by decide)) (g := (mkF m 3 #[Rv v1, Iv ch, Iv 0, Iv 3] [(.ref v1), (.int 3), (.int 0)])) rfl (by rw [hml]; rfl) (argsL := [(.int (0 : Int32)), (.int (3 : Int32)), (.ref v1)]) (rest := []) (lenOf own_pd462 rfl) rfl (own_z rfl) (hb hby d30_3) (fun _ _ => ⟨rfl, e0, (by decide : 0 + 0 ≤ _), (by decide : 0 + 0 ≤ _)⟩)
  dsimp only [Pt.U, Pt.locs, Pt.cells, Pt.slots] at X548 l548 y548 z548 st548 hQ548
  subst l548 y548 z548
  obtain ⟨rfl, Nq548, eh548⟩ := hQ548
  have N548 := Fr.app N0 Nq548
  obtain ⟨_, _, ⟨T549, L549, k549, n549⟩, -, X549, ⟨Lc549, hQ549, l549, y549, z549⟩, st549⟩ := LawKit.callS X548 hx (y := mn32) hown (own_m hZ hw 143) (own_m hZ hw 144) (own_m hZ hw 74) (own_m hZ hw 145) (by decide) (backOf (W := 0) (rmIn3U l Z a0 hw [] cs gS v1 k1 ch x0 x1 x2 h0 n0 Z0 V_env Od V1 hq hx0 hx1 hx2) hZ (own_g hw 145) (own_g hw 74) (by decide) (by decide)) (g := (mkF m 10 #[Rv v1, Iv ch, Iv 0, Iv 3] [(.int 3), (.int 0), (.int ch), (.ref v1)])) rfl (by rw [hml]; rfl) (argsL := [(.ref v1), (.int ch), (.int (0 : Int32)), (.int (3 : Int32))]) (rest := []) (lenOf own_pd359 rfl) rfl (own_z rfl) (hb hby d30_10) (fun _ _ => ⟨rfl, eh548, (by decide : 0 + 0 ≤ _), (by decide : 0 + 0 ≤ _)⟩)
  dsimp only [Pt.U, Pt.locs, Pt.cells, Pt.slots] at X549 l549 y549 z549 st549 hQ549
  subst l549 y549 z549
  obtain ⟨rfl, Nq549, eh549⟩ := hQ549
  have N549 := Fr.app N548 Nq549
  refine own_by (fun _ k => XS.iloadN X0.here hx rfl (hb hby d30_0) rfl (XS.iloadN X0.here hx rfl (hb hby d30_1) rfl (XS.aloadN X0.here hx rfl (hb hby d30_2) rfl rfl (st548 _ (XS.aloadN X548.here hx rfl (hb hby d30_6) rfl rfl (XS.iloadN X548.here hx rfl (hb hby d30_7) rfl (XS.iloadN X548.here hx rfl (hb hby d30_8) rfl (XS.iloadN X548.here hx rfl (hb hby d30_9) rfl (st549 _ k))))))))) ?_
  exact own_retI X549 hx hlk hret (hb hby d30_13) ⟨rfl, N549, eh549⟩ (by decide) (by decide)
def own_QrmIo3U (ch : Int32) (x0 x1 x2 : Int32) (h0 : Heap) (n0 : Nat) (v : Option Value) (h : Heap) (L : List Loc) : Prop := v = some (.int (own_find ch [x0, x1, x2] (0 : Int32))) ∧ Fr n0 L ∧ h = h0
set_option maxRecDepth 65536 in
set_option maxHeartbeats 40000000 in
theorem rmIo3U (l : Launch) (Z : State) (a0 : Array Value) (hw : own_W a0 Z) (ws : List Jvm.Cond) (cs : Int32) (gS : Value) (v1 : Addr) (k1 : ClassId) (ch : Int32) (x0 x1 x2 : Int32) (h0 : Heap) (n0 : Nat) (Z0 : n0 ≤ h0.size) (V_env : own_Env Z cs gS) (Od : Old Z n0 h0) (V1 : Arv Z h0 v1 k1 .byte (6 : Int32) [(.int (own_lo x0)), (.int (own_hi x0)), (.int (own_lo x1)), (.int (own_hi x1)), (.int (own_lo x2)), (.int (own_hi x2))] (.int (0 : Int32))) (hq : own_cq ch) (hx0 : own_ch x0) (hx1 : own_ch x1) (hx2 : own_ch x2) : own_Met l Z mn34 jdk_52_method_40_code 4 (some .int) ws (own_R 4 0 0 58) #[(.ref v1), (.int ch), (.int (0 : Int32)), (.int (3 : Int32))] h0 (own_QrmIo3U ch x0 x1 x2 h0 n0) := by
  refine own_enter n0 (plainFor_of_name own_pn58) (fun m => ef_RIII_4 m v1 ch (0 : Int32) (3 : Int32) ) (fun p e s m below meth c s₁ hx hby hlk hml hret hown hnm hZ X0 e0 N0 => ?_)
  show own_Fin _ _ _ _ _ _ _ s₁ (mkF m 0 #[Rv v1, Iv ch, Iv 0, Iv 3] [])
  obtain ⟨_, _, ⟨T550, L550, k550, n550⟩, -, X550, ⟨Lc550, hQ550, l550, y550, z550⟩, st550⟩ := LawKit.callS X0 hx (y := mn20) hown (own_m hZ hw 123) (own_m hZ hw 66) (own_m hZ hw 67) (own_m hZ hw 68) (by decide) (backOf (W := 0) (rmmax_0_0 l Z a0 hw []  h0 n0 Z0 ) hZ (own_g hw 68) (own_g hw 67) (by decide) (by decide)) (g := (mkF m 2 #[Rv v1, Iv ch, Iv 0, Iv 3] [(.int 0), (.int 0)])) rfl (by rw [hml]; rfl) (argsL := [(.int (0 : Int32)), (.int (0 : Int32))]) (rest := []) (lenOf own_pd327 rfl) rfl (own_z rfl) (hb hby d29_2) (fun _ _ => ⟨rfl, e0, (by decide : 0 + 0 ≤ _), (by decide : 0 + 0 ≤ _)⟩)
  dsimp only [Pt.U, Pt.locs, Pt.cells, Pt.slots] at X550 l550 y550 z550 st550 hQ550
  subst l550 y550 z550
  obtain ⟨rfl, Nq550, eh550⟩ := hQ550
  have N550 := Fr.app N0 Nq550
  obtain ⟨cl551, Ar551, -, S551, M551, -, -⟩ := id V1
  refine own_by (fun _ k => XS.iloadN X0.here hx rfl (hb hby d29_0) rfl (XS.iconst X0.here hx rfl (hb hby d29_1) (st550 _ (XS.istoreN X550.here hx rfl (hb hby d29_5) rfl (l' := #[Rv v1, Iv ch, Iv 0, Iv 3]) rfl (XS.iloadN X550.here hx rfl (hb hby d29_6) rfl (XS.aloadN X550.here hx rfl (hb hby d29_7) rfl rfl (X550.arraylength hx (by rw [eh550]; exact Ar551.1) (State.isArrayOf_alike hZ.alike Ar551.2.1) (g := (mkF m 8 #[Rv v1, Iv ch, Iv 0, Iv 3] [(.ref v1), (.int 3)])) rfl rfl (hb hby d29_8) _ k))))))) ?_
  rw [len_of S551 M551]
  show own_Fin _ _ _ _ _ _ _ T550 (mkF m 9 #[Rv v1, Iv ch, Iv 0, Iv 3] [(.int 6), (.int 3)])
  refine own_by (fun _ k => XS.iconst X550.here hx rfl (hb hby d29_9) (XS.ishr X550.here hx rfl (hb hby d29_10) rfl k)) ?_
  show own_Fin _ _ _ _ _ _ _ T550 (mkF m 11 #[Rv v1, Iv ch, Iv 0, Iv 3] [(.int ((6 : Int32) >>> ((1 : Int32) &&& 31))), (.int 3)])
  rw [(by decide : ((6 : Int32) >>> ((1 : Int32) &&& 31)) = (3 : Int32))]
  show own_Fin _ _ _ _ _ _ _ T550 (mkF m 11 #[Rv v1, Iv ch, Iv 0, Iv 3] [(.int 3), (.int 3)])
  obtain ⟨_, _, ⟨T552, L552, k552, n552⟩, -, X552, ⟨Lc552, hQ552, l552, y552, z552⟩, st552⟩ := LawKit.callS X550 hx (y := mn21) hown (own_m hZ hw 124) (own_m hZ hw 70) (own_m hZ hw 67) (own_m hZ hw 71) (by decide) (backOf (W := 0) (rmmin_3_3 l Z a0 hw []  h0 n0 Z0 ) hZ (own_g hw 71) (own_g hw 67) (by decide) (by decide)) (g := (mkF m 11 #[Rv v1, Iv ch, Iv 0, Iv 3] [(.int 3), (.int 3)])) rfl (by rw [hml]; rfl) (argsL := [(.int (3 : Int32)), (.int (3 : Int32))]) (rest := []) (lenOf own_pd327 rfl) rfl (own_z rfl) (hb hby d29_11) (fun _ _ => ⟨rfl, eh550, (by decide : 0 + 0 ≤ _), (by decide : 0 + 0 ≤ _)⟩)
  dsimp only [Pt.U, Pt.locs, Pt.cells, Pt.slots] at X552 l552 y552 z552 st552 hQ552
  subst l552 y552 z552
  obtain ⟨rfl, Nq552, eh552⟩ := hQ552
  have N552 := Fr.app N550 Nq552
  refine own_by (fun _ k => st552 _ (XS.istoreN X552.here hx rfl (hb hby d29_14) rfl (l' := #[Rv v1, Iv ch, Iv 0, Iv 3]) rfl (XS.iloadN X552.here hx rfl (hb hby d29_15) rfl (XS.iloadN X552.here hx rfl (hb hby d29_16) rfl (XS.icmpYes X552.here hx rfl (pc0 := 17) (pc' := 22) rfl (hb hby d29_17) rfl (tlt (by decide : (0 : Int32) < (3 : Int32))).1 (by decide) (by decide) (XS.iloadN X552.here hx rfl (hb hby d29_22) rfl (X552.ldcInt hx hown (own_m hZ hw 125) (g := (mkF m 23 #[Rv v1, Iv ch, Iv 0, Iv 3] [(.int ch)])) rfl (hb hby d29_23) _ (XS.icmpNo X552.here hx rfl (hb hby d29_25) rfl (tlt hq.2.2).2.1 (XS.aloadN X552.here hx rfl (hb hby d29_28) rfl rfl (XS.iloadN X552.here hx rfl (hb hby d29_29) rfl k)))))))))) ?_
  show own_Fin _ _ _ _ _ _ _ T552 (mkF m 30 #[Rv v1, Iv ch, Iv 0, Iv 3] [(.int ch), (.ref v1)])
  obtain ⟨_, _, ⟨T553, L553, k553, n553⟩, -, X553, ⟨Lc553, hQ553, l553, y553, z553⟩, st553⟩ := LawKit.callS X552 hx (y := mn33) hown (own_m hZ hw 126) (own_m hZ hw 127) (own_m hZ hw 74) (own_m hZ hw 128) (by decide) (backOf (W := 0) (rmIc3U l Z a0 hw [] cs gS v1 k1 ch x0 x1 x2 h0 n0 Z0 V_env Od V1 hq hx0 hx1 hx2) hZ (own_g hw 128) (own_g hw 74) (by decide) (by decide)) (g := (mkF m 32 #[Rv v1, Iv ch, Iv 0, Iv 3] [(.int 3), (.int 0), (.int ch), (.ref v1)])) rfl (by rw [hml]; rfl) (argsL := [(.ref v1), (.int ch), (.int (0 : Int32)), (.int (3 : Int32))]) (rest := []) (lenOf own_pd359 rfl) rfl (own_z rfl) (hb hby d29_32) (fun _ _ => ⟨rfl, eh552, (by decide : 0 + 0 ≤ _), (by decide : 0 + 0 ≤ _)⟩)
  dsimp only [Pt.U, Pt.locs, Pt.cells, Pt.slots] at X553 l553 y553 z553 st553 hQ553
  subst l553 y553 z553
  obtain ⟨rfl, Nq553, eh553⟩ := hQ553
  have N553 := Fr.app N552 Nq553
  refine own_by (fun _ k => XS.iloadN X552.here hx rfl (hb hby d29_30) rfl (XS.iloadN X552.here hx rfl (hb hby d29_31) rfl (st553 _ k))) ?_
  exact own_retI X553 hx hlk hret (hb hby d29_35) ⟨rfl, N553, eh553⟩ (by decide) (by decide)
def own_QrmSl3_U (h0 : Heap) (n0 : Nat) (v : Option Value) (h : Heap) (L : List Loc) : Prop := v = some (.int (3 : Int32)) ∧ Fr n0 L ∧ h = h0
theorem rmSl3_U (l : Launch) (Z : State) (a0 : Array Value) (hw : own_W a0 Z) (ws : List Jvm.Cond) (cs : Int32) (gS : Value) (a1 v1 : Addr) (k1 : ClassId) (vs : List Value) (h0 : Heap) (n0 : Nat) (Z0 : n0 ≤ h0.size) (V_env : own_Env Z cs gS) (Od : Old Z n0 h0) (E_a1 : Exa Z h0 a1 "java/lang/String") (F1 : Fld Z h0 a1 "java/lang/String" "value" "[B" (.ref v1)) (F2 : Fld Z h0 a1 "java/lang/String" "coder" "B" (.int (1 : Int32))) (V1 : Arv Z h0 v1 k1 .byte (6 : Int32) vs (.int (0 : Int32))) : own_Met l Z mn23 jdk_42_method_54_code 1 (some .int) ws (own_R 1 0 0 13) #[(.ref a1)] h0 (own_QrmSl3_U h0 n0) := by
  refine own_enter n0 (plainFor_of_name own_pn34) (fun m => ef_R_1 m a1 ) (fun p e s m below meth c s₁ hx hby hlk hml hret hown hnm hZ X0 e0 N0 => ?_)
  show own_Fin _ _ _ _ _ _ _ s₁ (mkF m 0 #[Rv a1] [])
  obtain ⟨T554, X554, e554, st554⟩ := getF X0 hx hZ hown (host := "") (Or.inl (own_g hw 26)) Via.refl e0 F1 (g := (mkF m 1 #[Rv a1] [(.ref a1)])) rfl rfl (hb hby d9_1)
  obtain ⟨cl555, Ar555, -, S555, M555, -, -⟩ := id V1
  refine own_by (fun _ k => XS.aloadN X0.here hx rfl (hb hby d9_0) rfl rfl (st554 _ (X554.arraylength hx (by rw [e554]; exact Ar555.1) (State.isArrayOf_alike hZ.alike Ar555.2.1) (g := (mkF m 4 #[Rv a1] [(.ref v1)])) rfl rfl (hb hby d9_4) _ k))) ?_
  rw [len_of S555 M555]
  show own_Fin _ _ _ _ _ _ _ T554 (mkF m 5 #[Rv a1] [(.int 6)])
  obtain ⟨cq556, kq556, q556a, q556b, q556c⟩ := isOf hZ e554 E_a1
  obtain ⟨_, _, ⟨T556, L556, k556, n556⟩, -, X556, ⟨Lc556, hQ556, l556, y556, z556⟩, st556⟩ := X554.virtualBack hx (y := mn18) (z := mn18) hown (own_m hZ hw 53) (own_m hZ hw 54) (notFace_of_selects (args := #[]) (own_m hZ hw 56)) (own_m hZ hw 56) (own_m hZ hw 55) (by decide) (backOf (W := 1) (rmCd1 l Z a0 hw [] cs gS a1 h0 n0 Z0 V_env Od F2) hZ (own_g hw 57) (own_g hw 8) (by decide) (by decide)) q556a q556c (g := (mkF m 6 #[Rv a1] [(.ref a1), (.int 6)])) rfl (by rw [hml]; rfl) (Steps.refl _) (argsL := []) (rest := [(.int (6 : Int32))]) (lenOf own_pd344 rfl) rfl (own_z rfl) (hb hby d9_6) (fun _ _ => ⟨rfl, e554, (by decide : 0 + 0 ≤ _), (by decide : 0 + 0 ≤ _)⟩)
  dsimp only [Pt.U, Pt.locs, Pt.cells, Pt.slots] at X556 l556 y556 z556 st556 hQ556
  subst l556 y556 z556
  obtain ⟨rfl, Nq556, eh556⟩ := hQ556
  have N556 := Fr.app N0 Nq556
  refine own_by (fun _ k => XS.aloadN X554.here hx rfl (hb hby d9_5) rfl rfl (st556.trans (XS.ishr X556.here hx rfl (hb hby d9_9) rfl k))) ?_
  show own_Fin _ _ _ _ _ _ _ T556 (mkF m 10 #[Rv a1] [(.int ((6 : Int32) >>> ((1 : Int32) &&& 31)))])
  rw [(by decide : ((6 : Int32) >>> ((1 : Int32) &&& 31)) = (3 : Int32))]
  show own_Fin _ _ _ _ _ _ _ T556 (mkF m 10 #[Rv a1] [(.int 3)])
  exact own_retI X556 hx hlk hret (hb hby d9_10) ⟨rfl, N556, eh556⟩ (by decide) (by decide)
def own_QrmI23U (ch : Int32) (x0 x1 x2 : Int32) (h0 : Heap) (n0 : Nat) (v : Option Value) (h : Heap) (L : List Loc) : Prop := v = some (.int (own_find ch [x0, x1, x2] (0 : Int32))) ∧ Fr n0 L ∧ h = h0
set_option maxRecDepth 65536 in
set_option maxHeartbeats 40000000 in
theorem rmI23U (l : Launch) (Z : State) (a0 : Array Value) (hw : own_W a0 Z) (ws : List Jvm.Cond) (cs : Int32) (gS : Value) (a1 : Addr) (v1 : Addr) (k1 : ClassId) (ch : Int32) (x0 x1 x2 : Int32) (h0 : Heap) (n0 : Nat) (Z0 : n0 ≤ h0.size) (V_env : own_Env Z cs gS) (Od : Old Z n0 h0) (E_a1 : Exa Z h0 a1 "java/lang/String") (F1 : Fld Z h0 a1 "java/lang/String" "value" "[B" (.ref v1)) (F2 : Fld Z h0 a1 "java/lang/String" "coder" "B" (.int (1 : Int32))) (V1 : Arv Z h0 v1 k1 .byte (6 : Int32) [(.int (own_lo x0)), (.int (own_hi x0)), (.int (own_lo x1)), (.int (own_hi x1)), (.int (own_lo x2)), (.int (own_hi x2))] (.int (0 : Int32))) (hq : own_cq ch) (hx0 : own_ch x0) (hx1 : own_ch x1) (hx2 : own_ch x2) : own_Met l Z mn24 jdk_42_method_80_code 3 (some .int) ws (own_R 5 0 0 73) #[(.ref a1), (.int ch), (.int (0 : Int32))] h0 (own_QrmI23U ch x0 x1 x2 h0 n0) := by
  refine own_enter n0 (plainFor_of_name own_pn34) (fun m => ef_RII_3 m a1 ch (0 : Int32) ) (fun p e s m below meth c s₁ hx hby hlk hml hret hown hnm hZ X0 e0 N0 => ?_)
  show own_Fin _ _ _ _ _ _ _ s₁ (mkF m 0 #[Rv a1, Iv ch, Iv 0] [])
  obtain ⟨cq557, kq557, q557a, q557b, q557c⟩ := isOf hZ e0 E_a1
  obtain ⟨_, _, ⟨T557, L557, k557, n557⟩, -, X557, ⟨Lc557, hQ557, l557, y557, z557⟩, st557⟩ := X0.virtualBack hx (y := mn17) (z := mn17) hown (own_m hZ hw 42) (own_m hZ hw 43) (notFace_of_selects (args := #[]) (own_m hZ hw 45)) (own_m hZ hw 45) (own_m hZ hw 44) (by decide) (backOf (W := 0) (rmIs1 l Z a0 hw [] cs gS a1 h0 n0 Z0 V_env Od F2) hZ (own_g hw 46) (own_g hw 8) (by decide) (by decide)) q557a q557c (g := (mkF m 1 #[Rv a1, Iv ch, Iv 0] [(.ref a1)])) rfl (by rw [hml]; rfl) (Steps.refl _) (argsL := []) (rest := []) (lenOf own_pd349 rfl) rfl (own_z rfl) (hb hby d7_1) (fun _ _ => ⟨rfl, e0, (by decide : 0 + 0 ≤ _), (by decide : 0 + 0 ≤ _)⟩)
  dsimp only [Pt.U, Pt.locs, Pt.cells, Pt.slots] at X557 l557 y557 z557 st557 hQ557
  subst l557 y557 z557
  obtain ⟨rfl, Nq557, eh557⟩ := hQ557
  have N557 := Fr.app N0 Nq557
  obtain ⟨T558, X558, e558, st558⟩ := getF X557 hx hZ hown (host := "") (Or.inl (own_g hw 26)) Via.refl eh557 F1 (g := (mkF m 24 #[Rv a1, Iv ch, Iv 0] [(.ref a1)])) rfl rfl (hb hby d7_24)
  obtain ⟨cq559, kq559, q559a, q559b, q559c⟩ := isOf hZ e558 E_a1
  obtain ⟨_, _, ⟨T559, L559, k559, n559⟩, -, X559, ⟨Lc559, hQ559, l559, y559, z559⟩, st559⟩ := X558.virtualBack hx (y := mn23) (z := mn23) hown (own_m hZ hw 48) (own_m hZ hw 49) (notFace_of_selects (args := #[]) (own_m hZ hw 51)) (own_m hZ hw 51) (own_m hZ hw 50) (by decide) (backOf (W := 3) (rmSl3_U l Z a0 hw [] cs gS a1 v1 k1 [(.int (own_lo x0)), (.int (own_hi x0)), (.int (own_lo x1)), (.int (own_hi x1)), (.int (own_lo x2)), (.int (own_hi x2))] h0 n0 Z0 V_env Od E_a1 F1 F2 V1) hZ (own_g hw 52) (own_g hw 8) (by decide) (by decide)) q559a q559c (g := (mkF m 30 #[Rv a1, Iv ch, Iv 0] [(.ref a1), (.int 0), (.int ch), (.ref v1)])) rfl (by rw [hml]; rfl) (Steps.refl _) (argsL := []) (rest := [(.int (0 : Int32)), (.int ch), (.ref v1)]) (lenOf own_pd357 rfl) rfl (own_z rfl) (hb hby d7_30) (fun _ _ => ⟨rfl, e558, (by decide : 0 + 0 ≤ _), (by decide : 0 + 0 ≤ _)⟩)
  dsimp only [Pt.U, Pt.locs, Pt.cells, Pt.slots] at X559 l559 y559 z559 st559 hQ559
  subst l559 y559 z559
  obtain ⟨rfl, Nq559, eh559⟩ := hQ559
  have N559 := Fr.app N557 Nq559
  obtain ⟨_, _, ⟨T560, L560, k560, n560⟩, -, X560, ⟨Lc560, hQ560, l560, y560, z560⟩, st560⟩ := LawKit.callS X559 hx (y := mn34) hown (own_m hZ hw 120) (own_m hZ hw 121) (own_m hZ hw 74) (own_m hZ hw 122) (by decide) (backOf (W := 0) (rmIo3U l Z a0 hw [] cs gS v1 k1 ch x0 x1 x2 h0 n0 Z0 V_env Od V1 hq hx0 hx1 hx2) hZ (own_g hw 122) (own_g hw 74) (by decide) (by decide)) (g := (mkF m 33 #[Rv a1, Iv ch, Iv 0] [(.int 3), (.int 0), (.int ch), (.ref v1)])) rfl (by rw [hml]; rfl) (argsL := [(.ref v1), (.int ch), (.int (0 : Int32)), (.int (3 : Int32))]) (rest := []) (lenOf own_pd359 rfl) rfl (own_z rfl) (hb hby d7_33) (fun _ _ => ⟨rfl, eh559, (by decide : 0 + 0 ≤ _), (by decide : 0 + 0 ≤ _)⟩)
  dsimp only [Pt.U, Pt.locs, Pt.cells, Pt.slots] at X560 l560 y560 z560 st560 hQ560
  subst l560 y560 z560
  obtain ⟨rfl, Nq560, eh560⟩ := hQ560
  have N560 := Fr.app N559 Nq560
  refine own_by (fun _ k => XS.aloadN X0.here hx rfl (hb hby d7_0) rfl rfl (st557.trans (XS.ifYes X557.here hx rfl (pc0 := 4) (pc' := 23) rfl (hb hby d7_4) rfl ((if0 _ _).trans (teq (by decide : (0 : Int32) = (0 : Int32))).1) (by decide) (by decide) (XS.aloadN X557.here hx rfl (hb hby d7_23) rfl rfl (st558 _ (XS.iloadN X558.here hx rfl (hb hby d7_27) rfl (XS.iloadN X558.here hx rfl (hb hby d7_28) rfl (XS.aloadN X558.here hx rfl (hb hby d7_29) rfl rfl (st559.trans (st560 _ k)))))))))) ?_
  exact own_retI X560 hx hlk hret (hb hby d7_36) ⟨rfl, N560, eh560⟩ (by decide) (by decide)
def own_QrmIx3U (ch : Int32) (x0 x1 x2 : Int32) (h0 : Heap) (n0 : Nat) (v : Option Value) (h : Heap) (L : List Loc) : Prop := v = some (.int (own_find ch [x0, x1, x2] (0 : Int32))) ∧ Fr n0 L ∧ h = h0
theorem rmIx3U (l : Launch) (Z : State) (a0 : Array Value) (hw : own_W a0 Z) (ws : List Jvm.Cond) (cs : Int32) (gS : Value) (a1 : Addr) (v1 : Addr) (k1 : ClassId) (ch : Int32) (x0 x1 x2 : Int32) (h0 : Heap) (n0 : Nat) (Z0 : n0 ≤ h0.size) (V_env : own_Env Z cs gS) (Od : Old Z n0 h0) (E_a1 : Exa Z h0 a1 "java/lang/String") (F1 : Fld Z h0 a1 "java/lang/String" "value" "[B" (.ref v1)) (F2 : Fld Z h0 a1 "java/lang/String" "coder" "B" (.int (1 : Int32))) (V1 : Arv Z h0 v1 k1 .byte (6 : Int32) [(.int (own_lo x0)), (.int (own_hi x0)), (.int (own_lo x1)), (.int (own_hi x1)), (.int (own_lo x2)), (.int (own_hi x2))] (.int (0 : Int32))) (hq : own_cq ch) (hx0 : own_ch x0) (hx1 : own_ch x1) (hx2 : own_ch x2) : own_Met l Z mn25 jdk_42_method_79_code 2 (some .int) ws (own_R 6 0 0 87) #[(.ref a1), (.int ch)] h0 (own_QrmIx3U ch x0 x1 x2 h0 n0) := by
  refine own_enter n0 (plainFor_of_name own_pn34) (fun m => ef_RI_2 m a1 ch ) (fun p e s m below meth c s₁ hx hby hlk hml hret hown hnm hZ X0 e0 N0 => ?_)
  show own_Fin _ _ _ _ _ _ _ s₁ (mkF m 0 #[Rv a1, Iv ch] [])
  obtain ⟨cq561, kq561, q561a, q561b, q561c⟩ := isOf hZ e0 E_a1
  obtain ⟨_, _, ⟨T561, L561, k561, n561⟩, -, X561, ⟨Lc561, hQ561, l561, y561, z561⟩, st561⟩ := X0.virtualBack hx (y := mn24) (z := mn24) hown (own_m hZ hw 37) (own_m hZ hw 38) (notFace_of_selects (args := #[]) (own_m hZ hw 40)) (own_m hZ hw 40) (own_m hZ hw 39) (by decide) (backOf (W := 0) (rmI23U l Z a0 hw [] cs gS a1 v1 k1 ch x0 x1 x2 h0 n0 Z0 V_env Od E_a1 F1 F2 V1 hq hx0 hx1 hx2) hZ (own_g hw 41) (own_g hw 8) (by decide) (by decide)) q561a q561c (g := (mkF m 3 #[Rv a1, Iv ch] [(.int 0), (.int ch), (.ref a1)])) rfl (by rw [hml]; rfl) (Steps.refl _) (argsL := [(.int ch), (.int (0 : Int32))]) (rest := []) (lenOf own_pd327 rfl) rfl (own_z rfl) (hb hby d6_3) (fun _ _ => ⟨rfl, e0, (by decide : 0 + 0 ≤ _), (by decide : 0 + 0 ≤ _)⟩)
  dsimp only [Pt.U, Pt.locs, Pt.cells, Pt.slots] at X561 l561 y561 z561 st561 hQ561
  subst l561 y561 z561
  obtain ⟨rfl, Nq561, eh561⟩ := hQ561
  have N561 := Fr.app N0 Nq561
  refine own_by (fun _ k => XS.aloadN X0.here hx rfl (hb hby d6_0) rfl rfl (XS.iloadN X0.here hx rfl (hb hby d6_1) rfl (XS.iconst X0.here hx rfl (hb hby d6_2) (st561.trans k)))) ?_
  exact own_retI X561 hx hlk hret (hb hby d6_6) ⟨rfl, N561, eh561⟩ (by decide) (by decide)
def own_QIW3U (x0 x1 x2 : Int32) (h0 : Heap) (n0 : Nat) (v : Option Value) (h : Heap) (L : List Loc) : Prop := v = some (.int (own_iw (own_find (42 : Int32) [x0, x1, x2] (0 : Int32)) (own_find (63 : Int32) [x0, x1, x2] (0 : Int32)))) ∧ Fr n0 L ∧ h = h0
set_option maxRecDepth 65536 in
set_option maxHeartbeats 40000000 in
theorem rmIW3U (l : Launch) (Z : State) (a0 : Array Value) (hw : own_W a0 Z) (ws : List Jvm.Cond) (cs : Int32) (gS : Value) (a1 v1 : Addr) (k1 : ClassId) (x0 x1 x2 : Int32)  (h0 : Heap) (n0 : Nat) (Z0 : n0 ≤ h0.size) (V_env : own_Env Z cs gS) (Od : Old Z n0 h0) (E_a1 : Exa Z h0 a1 "java/lang/String") (F1 : Fld Z h0 a1 "java/lang/String" "value" "[B" (.ref v1)) (F2 : Fld Z h0 a1 "java/lang/String" "coder" "B" (.int (1 : Int32))) (V1 : Arv Z h0 v1 k1 .byte (6 : Int32) [(.int (own_lo x0)), (.int (own_hi x0)), (.int (own_lo x1)), (.int (own_hi x1)), (.int (own_lo x2)), (.int (own_hi x2))] (.int (0 : Int32))) (hx0 : own_ch x0) (hx1 : own_ch x1) (hx2 : own_ch x2) : own_Met l Z mn26 prog_17_method_3_code 1 (some .boolean) ws (own_R 7 0 0 100) #[(.ref a1)] h0 (own_QIW3U x0 x1 x2 h0 n0) := by
  refine own_enter n0 (plainFor_of_name own_pn367) (fun m => ef_R_1 m a1 ) (fun p e s m below meth c s₁ hx hby hlk hml hret hown hnm hZ X0 e0 N0 => ?_)
  show own_Fin _ _ _ _ _ _ _ s₁ (mkF m 0 #[Rv a1] [])
  obtain ⟨cq562, kq562, q562a, q562b, q562c⟩ := isOf hZ e0 E_a1
  obtain ⟨_, _, ⟨T562, L562, k562, n562⟩, -, X562, ⟨Lc562, hQ562, l562, y562, z562⟩, st562⟩ := X0.virtualBack hx (y := mn25) (z := mn25) hown (own_m hZ hw 32) (own_m hZ hw 33) (notFace_of_selects (args := #[]) (own_m hZ hw 35)) (own_m hZ hw 35) (own_m hZ hw 34) (by decide) (backOf (W := 0) (rmIx3U l Z a0 hw [] cs gS a1 v1 k1 (42 : Int32) x0 x1 x2 h0 n0 Z0 V_env Od E_a1 F1 F2 V1 ⟨by decide, by decide, by decide⟩ hx0 hx1 hx2) hZ (own_g hw 36) (own_g hw 8) (by decide) (by decide)) q562a q562c (g := (mkF m 3 #[Rv a1] [(.int 42), (.ref a1)])) rfl (by rw [hml]; rfl) (Steps.refl _) (argsL := [(.int (42 : Int32))]) (rest := []) (lenOf own_pd70 rfl) rfl (own_z rfl) (hb hby d5_3) (fun _ _ => ⟨rfl, e0, (by decide : 0 + 0 ≤ _), (by decide : 0 + 0 ≤ _)⟩)
  dsimp only [Pt.U, Pt.locs, Pt.cells, Pt.slots] at X562 l562 y562 z562 st562 hQ562
  subst l562 y562 z562
  obtain ⟨rfl, Nq562, eh562⟩ := hQ562
  have N562 := Fr.app N0 Nq562
  refine own_by (fun _ k => XS.aloadN X0.here hx rfl (hb hby d5_0) rfl rfl (XS.bipush X0.here hx rfl (hb hby d5_1) (st562.trans k))) ?_
  show own_Fin _ _ _ _ _ _ _ T562 (mkF m 6 #[Rv a1] [(.int (own_find (42 : Int32) [x0, x1, x2] (0 : Int32)))])
  by_cases hc6_563 : (own_find (42 : Int32) [x0, x1, x2] (0 : Int32)) < (0 : Int32)
  · show own_Fin _ _ _ _ _ _ _ T562 (mkF m 6 #[Rv a1] [(.int (own_find (42 : Int32) [x0, x1, x2] (0 : Int32)))])
    obtain ⟨cq564, kq564, q564a, q564b, q564c⟩ := isOf hZ eh562 E_a1
    obtain ⟨_, _, ⟨T564, L564, k564, n564⟩, -, X564, ⟨Lc564, hQ564, l564, y564, z564⟩, st564⟩ := X562.virtualBack hx (y := mn25) (z := mn25) hown (own_m hZ hw 32) (own_m hZ hw 33) (notFace_of_selects (args := #[]) (own_m hZ hw 35)) (own_m hZ hw 35) (own_m hZ hw 34) (by decide) (backOf (W := 0) (rmIx3U l Z a0 hw [] cs gS a1 v1 k1 (63 : Int32) x0 x1 x2 h0 n0 Z0 V_env Od E_a1 F1 F2 V1 ⟨by decide, by decide, by decide⟩ hx0 hx1 hx2) hZ (own_g hw 36) (own_g hw 8) (by decide) (by decide)) q564a q564c (g := (mkF m 12 #[Rv a1] [(.int 63), (.ref a1)])) rfl (by rw [hml]; rfl) (Steps.refl _) (argsL := [(.int (63 : Int32))]) (rest := []) (lenOf own_pd70 rfl) rfl (own_z rfl) (hb hby d5_12) (fun _ _ => ⟨rfl, eh562, (by decide : 0 + 0 ≤ _), (by decide : 0 + 0 ≤ _)⟩)
    dsimp only [Pt.U, Pt.locs, Pt.cells, Pt.slots] at X564 l564 y564 z564 st564 hQ564
    subst l564 y564 z564
    obtain ⟨rfl, Nq564, eh564⟩ := hQ564
    have N564 := Fr.app N562 Nq564
    refine own_by (fun _ k => XS.ifNo X562.here hx rfl (hb hby d5_6) rfl ((if0 _ _).trans (tlt hc6_563).2.1) (XS.aloadN X562.here hx rfl (hb hby d5_9) rfl rfl (XS.bipush X562.here hx rfl (hb hby d5_10) (st564.trans k)))) ?_
    show own_Fin _ _ _ _ _ _ _ T564 (mkF m 15 #[Rv a1] [(.int (own_find (63 : Int32) [x0, x1, x2] (0 : Int32)))])
    by_cases hc15_565 : (own_find (63 : Int32) [x0, x1, x2] (0 : Int32)) < (0 : Int32)
    · show own_Fin _ _ _ _ _ _ _ T564 (mkF m 15 #[Rv a1] [(.int (own_find (63 : Int32) [x0, x1, x2] (0 : Int32)))])
      refine own_by (fun _ k => XS.ifYes X564.here hx rfl (pc0 := 15) (pc' := 22) rfl (hb hby d5_15) rfl ((if0 _ _).trans (tlt hc15_565).1) (by decide) (by decide) (XS.iconst X564.here hx rfl (hb hby d5_22) k)) ?_
      exact own_retZ X564 hx hlk (t := .boolean) hret (by simp) (hb hby d5_23) ⟨own_vi (by show (0 : Int32) = _; first | (simp only [own_iw, if_neg V_env.2.2.2.2.1, if_pos hc6_563, if_pos hc15_565]; done) | (simp only [own_iw, if_neg V_env.2.2.2.2.1, if_pos hc6_563, if_pos hc15_565]; decide) | simp [own_iw, V_env.2.2.2.2.1, hc6_563, hc15_565]), N564, eh564⟩ (by decide) (by decide)
    · show own_Fin _ _ _ _ _ _ _ T564 (mkF m 15 #[Rv a1] [(.int (own_find (63 : Int32) [x0, x1, x2] (0 : Int32)))])
      refine own_by (fun _ k => XS.ifNo X564.here hx rfl (hb hby d5_15) rfl ((if0 _ _).trans (flt hc15_565).1) (XS.iconst X564.here hx rfl (hb hby d5_18) (XS.goto X564.here hx rfl (pc0 := 19) (pc' := 23) rfl (hb hby d5_19) (by decide) (by decide) k))) ?_
      exact own_retZ X564 hx hlk (t := .boolean) hret (by simp) (hb hby d5_23) ⟨own_vi (by show (1 : Int32) = _; first | (simp only [own_iw, if_neg V_env.2.2.2.2.1, if_pos hc6_563, if_neg hc15_565]; done) | (simp only [own_iw, if_neg V_env.2.2.2.2.1, if_pos hc6_563, if_neg hc15_565]; decide) | simp [own_iw, V_env.2.2.2.2.1, hc6_563, hc15_565]), N564, eh564⟩ (by decide) (by decide)
  · show own_Fin _ _ _ _ _ _ _ T562 (mkF m 6 #[Rv a1] [(.int (own_find (42 : Int32) [x0, x1, x2] (0 : Int32)))])
    refine own_by (fun _ k => XS.ifYes X562.here hx rfl (pc0 := 6) (pc' := 18) rfl (hb hby d5_6) rfl ((if0 _ _).trans (flt hc6_563).2.1) (by decide) (by decide) (XS.iconst X562.here hx rfl (hb hby d5_18) (XS.goto X562.here hx rfl (pc0 := 19) (pc' := 23) rfl (hb hby d5_19) (by decide) (by decide) k))) ?_
    exact own_retZ X562 hx hlk (t := .boolean) hret (by simp) (hb hby d5_23) ⟨own_vi (by show (1 : Int32) = _; first | (simp only [own_iw, if_neg V_env.2.2.2.2.1, if_neg hc6_563]; done) | (simp only [own_iw, if_neg V_env.2.2.2.2.1, if_neg hc6_563]; decide) | simp [own_iw, V_env.2.2.2.2.1, hc6_563]), N562, eh562⟩ (by decide) (by decide)
def own_QrmIc4L (ch : Int32) (x0 x1 x2 x3 : Int32) (h0 : Heap) (n0 : Nat) (v : Option Value) (h : Heap) (L : List Loc) : Prop := v = some (.int (own_find (ch.toInt8.toInt32) [x0.toInt8.toInt32, x1.toInt8.toInt32, x2.toInt8.toInt32, x3.toInt8.toInt32] (0 : Int32))) ∧ Fr n0 L ∧ h = h0
set_option maxRecDepth 65536 in
set_option maxHeartbeats 40000000 in
theorem rmIc4L (l : Launch) (Z : State) (a0 : Array Value) (hw : own_W a0 Z) (ws : List Jvm.Cond) (cs : Int32) (gS : Value) (v1 : Addr) (k1 : ClassId) (ch : Int32) (x0 x1 x2 x3 : Int32) (h0 : Heap) (n0 : Nat) (Z0 : n0 ≤ h0.size) (V_env : own_Env Z cs gS) (Od : Old Z n0 h0) (V1 : Arv Z h0 v1 k1 .byte (4 : Int32) [(.int x0.toInt8.toInt32), (.int x1.toInt8.toInt32), (.int x2.toInt8.toInt32), (.int x3.toInt8.toInt32)] (.int (0 : Int32))) (hq : own_cq ch) : own_Met l Z mn27 jdk_43_method_23_code 6 (some .int) ws (own_R 0 0 0 0) #[(.ref v1), (.int ch), (.int (0 : Int32)), (.int (4 : Int32))] h0 (own_QrmIc4L ch x0 x1 x2 x3 h0 n0) := by
  refine own_enter n0 (plainFor_of_name own_pn225) (fun m => ef_RIII_6 m v1 ch (0 : Int32) (4 : Int32) ) (fun p e s m below meth c s₁ hx hby hlk hml hret hown hnm hZ X0 e0 N0 => ?_)
  show own_Fin _ _ _ _ _ _ _ s₁ (mkF m 0 #[Rv v1, Iv ch, Iv 0, Iv 4, Uv, Uv] [])
  obtain ⟨cl566, Ar566, -, S566, M566, H566, -⟩ := id V1
  have hin566 : ¬ ((0 : Int32) < 0 ∨ cl566.slots.size ≤ ((0 : Int32)).toNatClampNeg) := inb_of S566 ⟨by decide, by decide⟩
  have hat566 : cl566.slots[((0 : Int32)).toNatClampNeg]? = some (.int x0.toInt8.toInt32) := Has.at H566 hin566 rfl
  refine own_by (fun _ k => XS.iloadN X0.here hx rfl (hb hby d19_0) rfl (XS.i2b X0.here hx rfl (hb hby d19_1) rfl (XS.istore X0.here hx rfl (hb hby d19_2) rfl (l' := #[Rv v1, Iv ch, Iv 0, Iv 4, Iv (ch.toInt8.toInt32), Uv]) rfl (XS.iloadN X0.here hx rfl (hb hby d19_4) rfl (XS.istore X0.here hx rfl (hb hby d19_5) rfl (l' := #[Rv v1, Iv ch, Iv 0, Iv 4, Iv (ch.toInt8.toInt32), Iv 0]) rfl (XS.iload X0.here hx rfl (hb hby d19_7) rfl (XS.iloadN X0.here hx rfl (hb hby d19_9) rfl (XS.icmpNo X0.here hx rfl (hb hby d19_10) rfl (tlt (by decide : (0 : Int32) < (4 : Int32))).2.1 (XS.aloadN X0.here hx rfl (hb hby d19_13) rfl rfl (XS.iload X0.here hx rfl (hb hby d19_14) rfl k)))))))))) ?_
  show own_Fin _ _ _ _ _ _ _ s₁ (mkF m 16 #[Rv v1, Iv ch, Iv 0, Iv 4, Iv (ch.toInt8.toInt32), Iv 0] [(.int 0), (.ref v1)])
  refine own_by (fun _ k => X0.baloadBytes hx (j := (0 : Int32)) (v := (.int x0.toInt8.toInt32)) (by rw [e0]; exact Ar566.1) (State.isArrayOf_alike hZ.alike Ar566.2.1) Ar566.2.2 hin566 hat566 (g := (mkF m 16 #[Rv v1, Iv ch, Iv 0, Iv 4, Iv (ch.toInt8.toInt32), Iv 0] [(.int 0), (.ref v1)])) rfl rfl (hb hby d19_16) _ (XS.iload X0.here hx rfl (hb hby d19_17) rfl k)) ?_
  show own_Fin _ _ _ _ _ _ _ s₁ (mkF m 19 #[Rv v1, Iv ch, Iv 0, Iv 4, Iv (ch.toInt8.toInt32), Iv 0] [(.int (ch.toInt8.toInt32)), (.int x0.toInt8.toInt32)])
  by_cases hc19_567 : x0.toInt8.toInt32 = (ch.toInt8.toInt32)
  · show own_Fin _ _ _ _ _ _ _ s₁ (mkF m 19 #[Rv v1, Iv ch, Iv 0, Iv 4, Iv (ch.toInt8.toInt32), Iv 0] [(.int (ch.toInt8.toInt32)), (.int x0.toInt8.toInt32)])
    refine own_by (fun _ k => XS.icmpNo X0.here hx rfl (hb hby d19_19) rfl (teq hc19_567).2 (XS.iload X0.here hx rfl (hb hby d19_22) rfl k)) ?_
    exact own_retI X0 hx hlk hret (hb hby d19_24) ⟨own_vi (by show (0 : Int32) = _; first | (simp only [own_find, if_neg V_env.2.2.2.2.1, if_neg hq.1, if_neg hq.2.1, if_pos hq.2.2, if_pos hc19_567]; done) | (simp only [own_find, if_neg V_env.2.2.2.2.1, if_neg hq.1, if_neg hq.2.1, if_pos hq.2.2, if_pos hc19_567]; decide) | simp [own_find, V_env.2.2.2.2.1, hq.1, hq.2.1, hq.2.2, hc19_567]), N0, e0⟩ (by decide) (by decide)
  · show own_Fin _ _ _ _ _ _ _ s₁ (mkF m 19 #[Rv v1, Iv ch, Iv 0, Iv 4, Iv (ch.toInt8.toInt32), Iv 0] [(.int (ch.toInt8.toInt32)), (.int x0.toInt8.toInt32)])
    refine own_by (fun _ k => XS.icmpYes X0.here hx rfl (pc0 := 19) (pc' := 25) rfl (hb hby d19_19) rfl (feq hc19_567).2 (by decide) (by decide) (XS.iinc X0.here hx rfl (hb hby d19_25) rfl (l' := #[Rv v1, Iv ch, Iv 0, Iv 4, Iv (ch.toInt8.toInt32), Iv ((0 : Int32) + (1 : Int32))]) rfl k)) ?_
    show own_Fin _ _ _ _ _ _ _ s₁ (mkF m 28 #[Rv v1, Iv ch, Iv 0, Iv 4, Iv (ch.toInt8.toInt32), Iv ((0 : Int32) + (1 : Int32))] [])
    rw [(by decide : ((0 : Int32) + (1 : Int32)) = (1 : Int32))]
    show own_Fin _ _ _ _ _ _ _ s₁ (mkF m 28 #[Rv v1, Iv ch, Iv 0, Iv 4, Iv (ch.toInt8.toInt32), Iv 1] [])
    obtain ⟨cl568, Ar568, -, S568, M568, H568, -⟩ := id V1
    have hin568 : ¬ ((1 : Int32) < 0 ∨ cl568.slots.size ≤ ((1 : Int32)).toNatClampNeg) := inb_of S568 ⟨by decide, by decide⟩
    have hat568 : cl568.slots[((1 : Int32)).toNatClampNeg]? = some (.int x1.toInt8.toInt32) := Has.at H568 hin568 rfl
    refine own_by (fun _ k => XS.goto X0.here hx rfl (pc0 := 28) (pc' := 7) rfl (hb hby d19_28) (by decide) (by decide) (XS.iload X0.here hx rfl (hb hby d19_7) rfl (XS.iloadN X0.here hx rfl (hb hby d19_9) rfl (XS.icmpNo X0.here hx rfl (hb hby d19_10) rfl (tlt (by decide : (1 : Int32) < (4 : Int32))).2.1 (XS.aloadN X0.here hx rfl (hb hby d19_13) rfl rfl (XS.iload X0.here hx rfl (hb hby d19_14) rfl (X0.baloadBytes hx (j := (1 : Int32)) (v := (.int x1.toInt8.toInt32)) (by rw [e0]; exact Ar568.1) (State.isArrayOf_alike hZ.alike Ar568.2.1) Ar568.2.2 hin568 hat568 (g := (mkF m 16 #[Rv v1, Iv ch, Iv 0, Iv 4, Iv (ch.toInt8.toInt32), Iv 1] [(.int 1), (.ref v1)])) rfl rfl (hb hby d19_16) _ (XS.iload X0.here hx rfl (hb hby d19_17) rfl k)))))))) ?_
    show own_Fin _ _ _ _ _ _ _ s₁ (mkF m 19 #[Rv v1, Iv ch, Iv 0, Iv 4, Iv (ch.toInt8.toInt32), Iv 1] [(.int (ch.toInt8.toInt32)), (.int x1.toInt8.toInt32)])
    by_cases hc19_569 : x1.toInt8.toInt32 = (ch.toInt8.toInt32)
    · show own_Fin _ _ _ _ _ _ _ s₁ (mkF m 19 #[Rv v1, Iv ch, Iv 0, Iv 4, Iv (ch.toInt8.toInt32), Iv 1] [(.int (ch.toInt8.toInt32)), (.int x1.toInt8.toInt32)])
      refine own_by (fun _ k => XS.icmpNo X0.here hx rfl (hb hby d19_19) rfl (teq hc19_569).2 (XS.iload X0.here hx rfl (hb hby d19_22) rfl k)) ?_
      exact own_retI X0 hx hlk hret (hb hby d19_24) ⟨own_vi (by show (1 : Int32) = _; first | (simp only [own_find, if_neg V_env.2.2.2.2.1, if_neg hq.1, if_neg hq.2.1, if_pos hq.2.2, if_neg hc19_567, if_pos hc19_569]; done) | (simp only [own_find, if_neg V_env.2.2.2.2.1, if_neg hq.1, if_neg hq.2.1, if_pos hq.2.2, if_neg hc19_567, if_pos hc19_569]; decide) | simp [own_find, V_env.2.2.2.2.1, hq.1, hq.2.1, hq.2.2, hc19_567, hc19_569]), N0, e0⟩ (by decide) (by decide)
    · show own_Fin _ _ _ _ _ _ _ s₁ (mkF m 19 #[Rv v1, Iv ch, Iv 0, Iv 4, Iv (ch.toInt8.toInt32), Iv 1] [(.int (ch.toInt8.toInt32)), (.int x1.toInt8.toInt32)])
      refine own_by (fun _ k => XS.icmpYes X0.here hx rfl (pc0 := 19) (pc' := 25) rfl (hb hby d19_19) rfl (feq hc19_569).2 (by decide) (by decide) (XS.iinc X0.here hx rfl (hb hby d19_25) rfl (l' := #[Rv v1, Iv ch, Iv 0, Iv 4, Iv (ch.toInt8.toInt32), Iv ((1 : Int32) + (1 : Int32))]) rfl k)) ?_
      show own_Fin _ _ _ _ _ _ _ s₁ (mkF m 28 #[Rv v1, Iv ch, Iv 0, Iv 4, Iv (ch.toInt8.toInt32), Iv ((1 : Int32) + (1 : Int32))] [])
      rw [(by decide : ((1 : Int32) + (1 : Int32)) = (2 : Int32))]
      show own_Fin _ _ _ _ _ _ _ s₁ (mkF m 28 #[Rv v1, Iv ch, Iv 0, Iv 4, Iv (ch.toInt8.toInt32), Iv 2] [])
      obtain ⟨cl570, Ar570, -, S570, M570, H570, -⟩ := id V1
      have hin570 : ¬ ((2 : Int32) < 0 ∨ cl570.slots.size ≤ ((2 : Int32)).toNatClampNeg) := inb_of S570 ⟨by decide, by decide⟩
      have hat570 : cl570.slots[((2 : Int32)).toNatClampNeg]? = some (.int x2.toInt8.toInt32) := Has.at H570 hin570 rfl
      refine own_by (fun _ k => XS.goto X0.here hx rfl (pc0 := 28) (pc' := 7) rfl (hb hby d19_28) (by decide) (by decide) (XS.iload X0.here hx rfl (hb hby d19_7) rfl (XS.iloadN X0.here hx rfl (hb hby d19_9) rfl (XS.icmpNo X0.here hx rfl (hb hby d19_10) rfl (tlt (by decide : (2 : Int32) < (4 : Int32))).2.1 (XS.aloadN X0.here hx rfl (hb hby d19_13) rfl rfl (XS.iload X0.here hx rfl (hb hby d19_14) rfl (X0.baloadBytes hx (j := (2 : Int32)) (v := (.int x2.toInt8.toInt32)) (by rw [e0]; exact Ar570.1) (State.isArrayOf_alike hZ.alike Ar570.2.1) Ar570.2.2 hin570 hat570 (g := (mkF m 16 #[Rv v1, Iv ch, Iv 0, Iv 4, Iv (ch.toInt8.toInt32), Iv 2] [(.int 2), (.ref v1)])) rfl rfl (hb hby d19_16) _ (XS.iload X0.here hx rfl (hb hby d19_17) rfl k)))))))) ?_
      show own_Fin _ _ _ _ _ _ _ s₁ (mkF m 19 #[Rv v1, Iv ch, Iv 0, Iv 4, Iv (ch.toInt8.toInt32), Iv 2] [(.int (ch.toInt8.toInt32)), (.int x2.toInt8.toInt32)])
      by_cases hc19_571 : x2.toInt8.toInt32 = (ch.toInt8.toInt32)
      · show own_Fin _ _ _ _ _ _ _ s₁ (mkF m 19 #[Rv v1, Iv ch, Iv 0, Iv 4, Iv (ch.toInt8.toInt32), Iv 2] [(.int (ch.toInt8.toInt32)), (.int x2.toInt8.toInt32)])
        refine own_by (fun _ k => XS.icmpNo X0.here hx rfl (hb hby d19_19) rfl (teq hc19_571).2 (XS.iload X0.here hx rfl (hb hby d19_22) rfl k)) ?_
        exact own_retI X0 hx hlk hret (hb hby d19_24) ⟨own_vi (by show (2 : Int32) = _; first | (simp only [own_find, if_neg V_env.2.2.2.2.1, if_neg hq.1, if_neg hq.2.1, if_pos hq.2.2, if_neg hc19_567, if_neg hc19_569, if_pos hc19_571]; done) | (simp only [own_find, if_neg V_env.2.2.2.2.1, if_neg hq.1, if_neg hq.2.1, if_pos hq.2.2, if_neg hc19_567, if_neg hc19_569, if_pos hc19_571]; decide) | simp [own_find, V_env.2.2.2.2.1, hq.1, hq.2.1, hq.2.2, hc19_567, hc19_569, hc19_571]), N0, e0⟩ (by decide) (by decide)
      · show own_Fin _ _ _ _ _ _ _ s₁ (mkF m 19 #[Rv v1, Iv ch, Iv 0, Iv 4, Iv (ch.toInt8.toInt32), Iv 2] [(.int (ch.toInt8.toInt32)), (.int x2.toInt8.toInt32)])
        refine own_by (fun _ k => XS.icmpYes X0.here hx rfl (pc0 := 19) (pc' := 25) rfl (hb hby d19_19) rfl (feq hc19_571).2 (by decide) (by decide) (XS.iinc X0.here hx rfl (hb hby d19_25) rfl (l' := #[Rv v1, Iv ch, Iv 0, Iv 4, Iv (ch.toInt8.toInt32), Iv ((2 : Int32) + (1 : Int32))]) rfl k)) ?_
        show own_Fin _ _ _ _ _ _ _ s₁ (mkF m 28 #[Rv v1, Iv ch, Iv 0, Iv 4, Iv (ch.toInt8.toInt32), Iv ((2 : Int32) + (1 : Int32))] [])
        rw [(by decide : ((2 : Int32) + (1 : Int32)) = (3 : Int32))]
        show own_Fin _ _ _ _ _ _ _ s₁ (mkF m 28 #[Rv v1, Iv ch, Iv 0, Iv 4, Iv (ch.toInt8.toInt32), Iv 3] [])
        obtain ⟨cl572, Ar572, -, S572, M572, H572, -⟩ := id V1
        have hin572 : ¬ ((3 : Int32) < 0 ∨ cl572.slots.size ≤ ((3 : Int32)).toNatClampNeg) := inb_of S572 ⟨by decide, by decide⟩
        have hat572 : cl572.slots[((3 : Int32)).toNatClampNeg]? = some (.int x3.toInt8.toInt32) := Has.at H572 hin572 rfl
        refine own_by (fun _ k => XS.goto X0.here hx rfl (pc0 := 28) (pc' := 7) rfl (hb hby d19_28) (by decide) (by decide) (XS.iload X0.here hx rfl (hb hby d19_7) rfl (XS.iloadN X0.here hx rfl (hb hby d19_9) rfl (XS.icmpNo X0.here hx rfl (hb hby d19_10) rfl (tlt (by decide : (3 : Int32) < (4 : Int32))).2.1 (XS.aloadN X0.here hx rfl (hb hby d19_13) rfl rfl (XS.iload X0.here hx rfl (hb hby d19_14) rfl (X0.baloadBytes hx (j := (3 : Int32)) (v := (.int x3.toInt8.toInt32)) (by rw [e0]; exact Ar572.1) (State.isArrayOf_alike hZ.alike Ar572.2.1) Ar572.2.2 hin572 hat572 (g := (mkF m 16 #[Rv v1, Iv ch, Iv 0, Iv 4, Iv (ch.toInt8.toInt32), Iv 3] [(.int 3), (.ref v1)])) rfl rfl (hb hby d19_16) _ (XS.iload X0.here hx rfl (hb hby d19_17) rfl k)))))))) ?_
        show own_Fin _ _ _ _ _ _ _ s₁ (mkF m 19 #[Rv v1, Iv ch, Iv 0, Iv 4, Iv (ch.toInt8.toInt32), Iv 3] [(.int (ch.toInt8.toInt32)), (.int x3.toInt8.toInt32)])
        by_cases hc19_573 : x3.toInt8.toInt32 = (ch.toInt8.toInt32)
        · show own_Fin _ _ _ _ _ _ _ s₁ (mkF m 19 #[Rv v1, Iv ch, Iv 0, Iv 4, Iv (ch.toInt8.toInt32), Iv 3] [(.int (ch.toInt8.toInt32)), (.int x3.toInt8.toInt32)])
          refine own_by (fun _ k => XS.icmpNo X0.here hx rfl (hb hby d19_19) rfl (teq hc19_573).2 (XS.iload X0.here hx rfl (hb hby d19_22) rfl k)) ?_
          exact own_retI X0 hx hlk hret (hb hby d19_24) ⟨own_vi (by show (3 : Int32) = _; first | (simp only [own_find, if_neg V_env.2.2.2.2.1, if_neg hq.1, if_neg hq.2.1, if_pos hq.2.2, if_neg hc19_567, if_neg hc19_569, if_neg hc19_571, if_pos hc19_573]; done) | (simp only [own_find, if_neg V_env.2.2.2.2.1, if_neg hq.1, if_neg hq.2.1, if_pos hq.2.2, if_neg hc19_567, if_neg hc19_569, if_neg hc19_571, if_pos hc19_573]; decide) | simp [own_find, V_env.2.2.2.2.1, hq.1, hq.2.1, hq.2.2, hc19_567, hc19_569, hc19_571, hc19_573]), N0, e0⟩ (by decide) (by decide)
        · show own_Fin _ _ _ _ _ _ _ s₁ (mkF m 19 #[Rv v1, Iv ch, Iv 0, Iv 4, Iv (ch.toInt8.toInt32), Iv 3] [(.int (ch.toInt8.toInt32)), (.int x3.toInt8.toInt32)])
          refine own_by (fun _ k => XS.icmpYes X0.here hx rfl (pc0 := 19) (pc' := 25) rfl (hb hby d19_19) rfl (feq hc19_573).2 (by decide) (by decide) (XS.iinc X0.here hx rfl (hb hby d19_25) rfl (l' := #[Rv v1, Iv ch, Iv 0, Iv 4, Iv (ch.toInt8.toInt32), Iv ((3 : Int32) + (1 : Int32))]) rfl k)) ?_
          show own_Fin _ _ _ _ _ _ _ s₁ (mkF m 28 #[Rv v1, Iv ch, Iv 0, Iv 4, Iv (ch.toInt8.toInt32), Iv ((3 : Int32) + (1 : Int32))] [])
          rw [(by decide : ((3 : Int32) + (1 : Int32)) = (4 : Int32))]
          show own_Fin _ _ _ _ _ _ _ s₁ (mkF m 28 #[Rv v1, Iv ch, Iv 0, Iv 4, Iv (ch.toInt8.toInt32), Iv 4] [])
          refine own_by (fun _ k => XS.goto X0.here hx rfl (pc0 := 28) (pc' := 7) rfl (hb hby d19_28) (by decide) (by decide) (XS.iload X0.here hx rfl (hb hby d19_7) rfl (XS.iloadN X0.here hx rfl (hb hby d19_9) rfl (XS.icmpYes X0.here hx rfl (pc0 := 10) (pc' := 31) rfl (hb hby d19_10) rfl (flt (by decide : ¬ ((4 : Int32) < (4 : Int32)))).2.1 (by decide) (by decide) (XS.iconst X0.here hx rfl (hb hby d19_31) k))))) ?_
          exact own_retI X0 hx hlk hret (hb hby d19_32) ⟨own_vi (by show (-1 : Int32) = _; first | (simp only [own_find, if_neg V_env.2.2.2.2.1, if_neg hq.1, if_neg hq.2.1, if_pos hq.2.2, if_neg hc19_567, if_neg hc19_569, if_neg hc19_571, if_neg hc19_573]; done) | (simp only [own_find, if_neg V_env.2.2.2.2.1, if_neg hq.1, if_neg hq.2.1, if_pos hq.2.2, if_neg hc19_567, if_neg hc19_569, if_neg hc19_571, if_neg hc19_573]; decide) | simp [own_find, V_env.2.2.2.2.1, hq.1, hq.2.1, hq.2.2, hc19_567, hc19_569, hc19_571, hc19_573]), N0, e0⟩ (by decide) (by decide)
def own_Qrmmin_4_4 (h0 : Heap) (n0 : Nat) (v : Option Value) (h : Heap) (L : List Loc) : Prop := v = some (.int (4 : Int32)) ∧ Fr n0 L ∧ h = h0
theorem rmmin_4_4 (l : Launch) (Z : State) (a0 : Array Value) (hw : own_W a0 Z) (ws : List Jvm.Cond)  (h0 : Heap) (n0 : Nat) (Z0 : n0 ≤ h0.size)  : own_Met l Z mn21 jdk_29_method_69_code 2 (some .int) ws (own_R 0 0 0 0) #[(.int (4 : Int32)), (.int (4 : Int32))] h0 (own_Qrmmin_4_4 h0 n0) := by
  refine own_enter n0 (by decide +kernel) (fun m => ef_II_2 m (4 : Int32) (4 : Int32) ) (fun p e s m below meth c s₁ hx hby hlk hml hret hown hnm hZ X0 e0 N0 => ?_)
  show own_Fin _ _ _ _ _ _ _ s₁ (mkF m 0 #[Iv 4, Iv 4] [])
  refine own_by (fun _ k => XS.iloadN X0.here hx rfl (hb hby d14_0) rfl (XS.iloadN X0.here hx rfl (hb hby d14_1) rfl (XS.icmpNo X0.here hx rfl (hb hby d14_2) rfl (flt (by decide : ¬ ((4 : Int32) < (4 : Int32)))).2.2.1 (XS.iloadN X0.here hx rfl (hb hby d14_5) rfl (XS.goto X0.here hx rfl (pc0 := 6) (pc' := 10) rfl (hb hby d14_6) (by decide) (by decide) k))))) ?_
  exact own_retI X0 hx hlk hret (hb hby d14_10) ⟨rfl, N0, e0⟩ (by decide) (by decide)
def own_QrmIo4L (ch : Int32) (x0 x1 x2 x3 : Int32) (h0 : Heap) (n0 : Nat) (v : Option Value) (h : Heap) (L : List Loc) : Prop := v = some (.int (own_find (ch.toInt8.toInt32) [x0.toInt8.toInt32, x1.toInt8.toInt32, x2.toInt8.toInt32, x3.toInt8.toInt32] (0 : Int32))) ∧ Fr n0 L ∧ h = h0
set_option maxRecDepth 65536 in
set_option maxHeartbeats 40000000 in
theorem rmIo4L (l : Launch) (Z : State) (a0 : Array Value) (hw : own_W a0 Z) (ws : List Jvm.Cond) (cs : Int32) (gS : Value) (v1 : Addr) (k1 : ClassId) (ch : Int32) (x0 x1 x2 x3 : Int32) (h0 : Heap) (n0 : Nat) (Z0 : n0 ≤ h0.size) (V_env : own_Env Z cs gS) (Od : Old Z n0 h0) (V1 : Arv Z h0 v1 k1 .byte (4 : Int32) [(.int x0.toInt8.toInt32), (.int x1.toInt8.toInt32), (.int x2.toInt8.toInt32), (.int x3.toInt8.toInt32)] (.int (0 : Int32))) (hq : own_cq ch) : own_Met l Z mn22 jdk_43_method_22_code 4 (some .int) ws (own_R 1 0 0 17) #[(.ref v1), (.int ch), (.int (0 : Int32)), (.int (4 : Int32))] h0 (own_QrmIo4L ch x0 x1 x2 x3 h0 n0) := by
  refine own_enter n0 (plainFor_of_name own_pn225) (fun m => ef_RIII_4 m v1 ch (0 : Int32) (4 : Int32) ) (fun p e s m below meth c s₁ hx hby hlk hml hret hown hnm hZ X0 e0 N0 => ?_)
  show own_Fin _ _ _ _ _ _ _ s₁ (mkF m 0 #[Rv v1, Iv ch, Iv 0, Iv 4] [])
  obtain ⟨_, _, ⟨T574, L574, k574, n574⟩, -, X574, ⟨Lc574, hQ574, l574, y574, z574⟩, st574⟩ := LawKit.callS X0 hx (y := mn19) hown (own_m hZ hw 62) (own_m hZ hw 63) (own_m hZ hw 60) (own_m hZ hw 64) (by decide) (backOf (W := 0) (rmCe l Z a0 hw [] ch h0 n0 Z0 hq) hZ (own_g hw 64) (own_g hw 60) (by decide) (by decide)) (g := (mkF m 1 #[Rv v1, Iv ch, Iv 0, Iv 4] [(.int ch)])) rfl (by rw [hml]; rfl) (argsL := [(.int ch)]) (rest := []) (lenOf own_pd322 rfl) rfl (own_z rfl) (hb hby d11_1) (fun _ _ => ⟨rfl, e0, (by decide : 0 + 0 ≤ _), (by decide : 0 + 0 ≤ _)⟩)
  dsimp only [Pt.U, Pt.locs, Pt.cells, Pt.slots] at X574 l574 y574 z574 st574 hQ574
  subst l574 y574 z574
  obtain ⟨rfl, Nq574, eh574⟩ := hQ574
  have N574 := Fr.app N0 Nq574
  obtain ⟨_, _, ⟨T575, L575, k575, n575⟩, -, X575, ⟨Lc575, hQ575, l575, y575, z575⟩, st575⟩ := LawKit.callS X574 hx (y := mn20) hown (own_m hZ hw 65) (own_m hZ hw 66) (own_m hZ hw 67) (own_m hZ hw 68) (by decide) (backOf (W := 0) (rmmax_0_0 l Z a0 hw []  h0 n0 Z0 ) hZ (own_g hw 68) (own_g hw 67) (by decide) (by decide)) (g := (mkF m 11 #[Rv v1, Iv ch, Iv 0, Iv 4] [(.int 0), (.int 0)])) rfl (by rw [hml]; rfl) (argsL := [(.int (0 : Int32)), (.int (0 : Int32))]) (rest := []) (lenOf own_pd327 rfl) rfl (own_z rfl) (hb hby d11_11) (fun _ _ => ⟨rfl, eh574, (by decide : 0 + 0 ≤ _), (by decide : 0 + 0 ≤ _)⟩)
  dsimp only [Pt.U, Pt.locs, Pt.cells, Pt.slots] at X575 l575 y575 z575 st575 hQ575
  subst l575 y575 z575
  obtain ⟨rfl, Nq575, eh575⟩ := hQ575
  have N575 := Fr.app N574 Nq575
  obtain ⟨cl576, Ar576, -, S576, M576, -, -⟩ := id V1
  refine own_by (fun _ k => XS.iloadN X0.here hx rfl (hb hby d11_0) rfl (st574 _ (XS.ifYes X574.here hx rfl (pc0 := 4) (pc' := 9) rfl (hb hby d11_4) rfl ((if0 _ _).trans (feq (by decide : ¬ ((1 : Int32) = (0 : Int32)))).2) (by decide) (by decide) (XS.iloadN X574.here hx rfl (hb hby d11_9) rfl (XS.iconst X574.here hx rfl (hb hby d11_10) (st575 _ (XS.istoreN X575.here hx rfl (hb hby d11_14) rfl (l' := #[Rv v1, Iv ch, Iv 0, Iv 4]) rfl (XS.iloadN X575.here hx rfl (hb hby d11_15) rfl (XS.aloadN X575.here hx rfl (hb hby d11_16) rfl rfl (X575.arraylength hx (by rw [eh575]; exact Ar576.1) (State.isArrayOf_alike hZ.alike Ar576.2.1) (g := (mkF m 17 #[Rv v1, Iv ch, Iv 0, Iv 4] [(.ref v1), (.int 4)])) rfl rfl (hb hby d11_17) _ k)))))))))) ?_
  rw [len_of S576 M576]
  show own_Fin _ _ _ _ _ _ _ T575 (mkF m 18 #[Rv v1, Iv ch, Iv 0, Iv 4] [(.int 4), (.int 4)])
  obtain ⟨_, _, ⟨T577, L577, k577, n577⟩, -, X577, ⟨Lc577, hQ577, l577, y577, z577⟩, st577⟩ := LawKit.callS X575 hx (y := mn21) hown (own_m hZ hw 69) (own_m hZ hw 70) (own_m hZ hw 67) (own_m hZ hw 71) (by decide) (backOf (W := 0) (rmmin_4_4 l Z a0 hw []  h0 n0 Z0 ) hZ (own_g hw 71) (own_g hw 67) (by decide) (by decide)) (g := (mkF m 18 #[Rv v1, Iv ch, Iv 0, Iv 4] [(.int 4), (.int 4)])) rfl (by rw [hml]; rfl) (argsL := [(.int (4 : Int32)), (.int (4 : Int32))]) (rest := []) (lenOf own_pd327 rfl) rfl (own_z rfl) (hb hby d11_18) (fun _ _ => ⟨rfl, eh575, (by decide : 0 + 0 ≤ _), (by decide : 0 + 0 ≤ _)⟩)
  dsimp only [Pt.U, Pt.locs, Pt.cells, Pt.slots] at X577 l577 y577 z577 st577 hQ577
  subst l577 y577 z577
  obtain ⟨rfl, Nq577, eh577⟩ := hQ577
  have N577 := Fr.app N575 Nq577
  obtain ⟨_, _, ⟨T578, L578, k578, n578⟩, -, X578, ⟨Lc578, hQ578, l578, y578, z578⟩, st578⟩ := LawKit.callS X577 hx (y := mn27) hown (own_m hZ hw 85) (own_m hZ hw 86) (own_m hZ hw 60) (own_m hZ hw 87) (by decide) (backOf (W := 0) (rmIc4L l Z a0 hw [] cs gS v1 k1 ch x0 x1 x2 x3 h0 n0 Z0 V_env Od V1 hq ) hZ (own_g hw 87) (own_g hw 60) (by decide) (by decide)) (g := (mkF m 33 #[Rv v1, Iv ch, Iv 0, Iv 4] [(.int 4), (.int 0), (.int ch), (.ref v1)])) rfl (by rw [hml]; rfl) (argsL := [(.ref v1), (.int ch), (.int (0 : Int32)), (.int (4 : Int32))]) (rest := []) (lenOf own_pd359 rfl) rfl (own_z rfl) (hb hby d11_33) (fun _ _ => ⟨rfl, eh577, (by decide : 0 + 0 ≤ _), (by decide : 0 + 0 ≤ _)⟩)
  dsimp only [Pt.U, Pt.locs, Pt.cells, Pt.slots] at X578 l578 y578 z578 st578 hQ578
  subst l578 y578 z578
  obtain ⟨rfl, Nq578, eh578⟩ := hQ578
  have N578 := Fr.app N577 Nq578
  refine own_by (fun _ k => st577 _ (XS.istoreN X577.here hx rfl (hb hby d11_21) rfl (l' := #[Rv v1, Iv ch, Iv 0, Iv 4]) rfl (XS.iloadN X577.here hx rfl (hb hby d11_22) rfl (XS.iloadN X577.here hx rfl (hb hby d11_23) rfl (XS.icmpYes X577.here hx rfl (pc0 := 24) (pc' := 29) rfl (hb hby d11_24) rfl (tlt (by decide : (0 : Int32) < (4 : Int32))).1 (by decide) (by decide) (XS.aloadN X577.here hx rfl (hb hby d11_29) rfl rfl (XS.iloadN X577.here hx rfl (hb hby d11_30) rfl (XS.iloadN X577.here hx rfl (hb hby d11_31) rfl (XS.iloadN X577.here hx rfl (hb hby d11_32) rfl (st578 _ k)))))))))) ?_
  exact own_retI X578 hx hlk hret (hb hby d11_36) ⟨rfl, N578, eh578⟩ (by decide) (by decide)
def own_QrmSl4_L (h0 : Heap) (n0 : Nat) (v : Option Value) (h : Heap) (L : List Loc) : Prop := v = some (.int (4 : Int32)) ∧ Fr n0 L ∧ h = h0
theorem rmSl4_L (l : Launch) (Z : State) (a0 : Array Value) (hw : own_W a0 Z) (ws : List Jvm.Cond) (cs : Int32) (gS : Value) (a1 v1 : Addr) (k1 : ClassId) (vs : List Value) (h0 : Heap) (n0 : Nat) (Z0 : n0 ≤ h0.size) (V_env : own_Env Z cs gS) (Od : Old Z n0 h0) (E_a1 : Exa Z h0 a1 "java/lang/String") (F1 : Fld Z h0 a1 "java/lang/String" "value" "[B" (.ref v1)) (F2 : Fld Z h0 a1 "java/lang/String" "coder" "B" (.int (0 : Int32))) (V1 : Arv Z h0 v1 k1 .byte (4 : Int32) vs (.int (0 : Int32))) : own_Met l Z mn23 jdk_42_method_54_code 1 (some .int) ws (own_R 1 0 0 13) #[(.ref a1)] h0 (own_QrmSl4_L h0 n0) := by
  refine own_enter n0 (plainFor_of_name own_pn34) (fun m => ef_R_1 m a1 ) (fun p e s m below meth c s₁ hx hby hlk hml hret hown hnm hZ X0 e0 N0 => ?_)
  show own_Fin _ _ _ _ _ _ _ s₁ (mkF m 0 #[Rv a1] [])
  obtain ⟨T579, X579, e579, st579⟩ := getF X0 hx hZ hown (host := "") (Or.inl (own_g hw 26)) Via.refl e0 F1 (g := (mkF m 1 #[Rv a1] [(.ref a1)])) rfl rfl (hb hby d9_1)
  obtain ⟨cl580, Ar580, -, S580, M580, -, -⟩ := id V1
  refine own_by (fun _ k => XS.aloadN X0.here hx rfl (hb hby d9_0) rfl rfl (st579 _ (X579.arraylength hx (by rw [e579]; exact Ar580.1) (State.isArrayOf_alike hZ.alike Ar580.2.1) (g := (mkF m 4 #[Rv a1] [(.ref v1)])) rfl rfl (hb hby d9_4) _ k))) ?_
  rw [len_of S580 M580]
  show own_Fin _ _ _ _ _ _ _ T579 (mkF m 5 #[Rv a1] [(.int 4)])
  obtain ⟨cq581, kq581, q581a, q581b, q581c⟩ := isOf hZ e579 E_a1
  obtain ⟨_, _, ⟨T581, L581, k581, n581⟩, -, X581, ⟨Lc581, hQ581, l581, y581, z581⟩, st581⟩ := X579.virtualBack hx (y := mn18) (z := mn18) hown (own_m hZ hw 53) (own_m hZ hw 54) (notFace_of_selects (args := #[]) (own_m hZ hw 56)) (own_m hZ hw 56) (own_m hZ hw 55) (by decide) (backOf (W := 1) (rmCd0 l Z a0 hw [] cs gS a1 h0 n0 Z0 V_env Od F2) hZ (own_g hw 57) (own_g hw 8) (by decide) (by decide)) q581a q581c (g := (mkF m 6 #[Rv a1] [(.ref a1), (.int 4)])) rfl (by rw [hml]; rfl) (Steps.refl _) (argsL := []) (rest := [(.int (4 : Int32))]) (lenOf own_pd344 rfl) rfl (own_z rfl) (hb hby d9_6) (fun _ _ => ⟨rfl, e579, (by decide : 0 + 0 ≤ _), (by decide : 0 + 0 ≤ _)⟩)
  dsimp only [Pt.U, Pt.locs, Pt.cells, Pt.slots] at X581 l581 y581 z581 st581 hQ581
  subst l581 y581 z581
  obtain ⟨rfl, Nq581, eh581⟩ := hQ581
  have N581 := Fr.app N0 Nq581
  refine own_by (fun _ k => XS.aloadN X579.here hx rfl (hb hby d9_5) rfl rfl (st581.trans (XS.ishr X581.here hx rfl (hb hby d9_9) rfl k))) ?_
  show own_Fin _ _ _ _ _ _ _ T581 (mkF m 10 #[Rv a1] [(.int ((4 : Int32) >>> ((0 : Int32) &&& 31)))])
  rw [(by decide : ((4 : Int32) >>> ((0 : Int32) &&& 31)) = (4 : Int32))]
  show own_Fin _ _ _ _ _ _ _ T581 (mkF m 10 #[Rv a1] [(.int 4)])
  exact own_retI X581 hx hlk hret (hb hby d9_10) ⟨rfl, N581, eh581⟩ (by decide) (by decide)
def own_QrmI24L (ch : Int32) (x0 x1 x2 x3 : Int32) (h0 : Heap) (n0 : Nat) (v : Option Value) (h : Heap) (L : List Loc) : Prop := v = some (.int (own_find (ch.toInt8.toInt32) [x0.toInt8.toInt32, x1.toInt8.toInt32, x2.toInt8.toInt32, x3.toInt8.toInt32] (0 : Int32))) ∧ Fr n0 L ∧ h = h0
set_option maxRecDepth 65536 in
set_option maxHeartbeats 40000000 in
theorem rmI24L (l : Launch) (Z : State) (a0 : Array Value) (hw : own_W a0 Z) (ws : List Jvm.Cond) (cs : Int32) (gS : Value) (a1 : Addr) (v1 : Addr) (k1 : ClassId) (ch : Int32) (x0 x1 x2 x3 : Int32) (h0 : Heap) (n0 : Nat) (Z0 : n0 ≤ h0.size) (V_env : own_Env Z cs gS) (Od : Old Z n0 h0) (E_a1 : Exa Z h0 a1 "java/lang/String") (F1 : Fld Z h0 a1 "java/lang/String" "value" "[B" (.ref v1)) (F2 : Fld Z h0 a1 "java/lang/String" "coder" "B" (.int (0 : Int32))) (V1 : Arv Z h0 v1 k1 .byte (4 : Int32) [(.int x0.toInt8.toInt32), (.int x1.toInt8.toInt32), (.int x2.toInt8.toInt32), (.int x3.toInt8.toInt32)] (.int (0 : Int32))) (hq : own_cq ch) : own_Met l Z mn24 jdk_42_method_80_code 3 (some .int) ws (own_R 2 0 0 32) #[(.ref a1), (.int ch), (.int (0 : Int32))] h0 (own_QrmI24L ch x0 x1 x2 x3 h0 n0) := by
  refine own_enter n0 (plainFor_of_name own_pn34) (fun m => ef_RII_3 m a1 ch (0 : Int32) ) (fun p e s m below meth c s₁ hx hby hlk hml hret hown hnm hZ X0 e0 N0 => ?_)
  show own_Fin _ _ _ _ _ _ _ s₁ (mkF m 0 #[Rv a1, Iv ch, Iv 0] [])
  obtain ⟨cq582, kq582, q582a, q582b, q582c⟩ := isOf hZ e0 E_a1
  obtain ⟨_, _, ⟨T582, L582, k582, n582⟩, -, X582, ⟨Lc582, hQ582, l582, y582, z582⟩, st582⟩ := X0.virtualBack hx (y := mn17) (z := mn17) hown (own_m hZ hw 42) (own_m hZ hw 43) (notFace_of_selects (args := #[]) (own_m hZ hw 45)) (own_m hZ hw 45) (own_m hZ hw 44) (by decide) (backOf (W := 0) (rmIs0 l Z a0 hw [] cs gS a1 h0 n0 Z0 V_env Od F2) hZ (own_g hw 46) (own_g hw 8) (by decide) (by decide)) q582a q582c (g := (mkF m 1 #[Rv a1, Iv ch, Iv 0] [(.ref a1)])) rfl (by rw [hml]; rfl) (Steps.refl _) (argsL := []) (rest := []) (lenOf own_pd349 rfl) rfl (own_z rfl) (hb hby d7_1) (fun _ _ => ⟨rfl, e0, (by decide : 0 + 0 ≤ _), (by decide : 0 + 0 ≤ _)⟩)
  dsimp only [Pt.U, Pt.locs, Pt.cells, Pt.slots] at X582 l582 y582 z582 st582 hQ582
  subst l582 y582 z582
  obtain ⟨rfl, Nq582, eh582⟩ := hQ582
  have N582 := Fr.app N0 Nq582
  obtain ⟨T583, X583, e583, st583⟩ := getF X582 hx hZ hown (host := "") (Or.inl (own_g hw 26)) Via.refl eh582 F1 (g := (mkF m 8 #[Rv a1, Iv ch, Iv 0] [(.ref a1)])) rfl rfl (hb hby d7_8)
  obtain ⟨cq584, kq584, q584a, q584b, q584c⟩ := isOf hZ e583 E_a1
  obtain ⟨_, _, ⟨T584, L584, k584, n584⟩, -, X584, ⟨Lc584, hQ584, l584, y584, z584⟩, st584⟩ := X583.virtualBack hx (y := mn23) (z := mn23) hown (own_m hZ hw 48) (own_m hZ hw 49) (notFace_of_selects (args := #[]) (own_m hZ hw 51)) (own_m hZ hw 51) (own_m hZ hw 50) (by decide) (backOf (W := 3) (rmSl4_L l Z a0 hw [] cs gS a1 v1 k1 [(.int x0.toInt8.toInt32), (.int x1.toInt8.toInt32), (.int x2.toInt8.toInt32), (.int x3.toInt8.toInt32)] h0 n0 Z0 V_env Od E_a1 F1 F2 V1) hZ (own_g hw 52) (own_g hw 8) (by decide) (by decide)) q584a q584c (g := (mkF m 14 #[Rv a1, Iv ch, Iv 0] [(.ref a1), (.int 0), (.int ch), (.ref v1)])) rfl (by rw [hml]; rfl) (Steps.refl _) (argsL := []) (rest := [(.int (0 : Int32)), (.int ch), (.ref v1)]) (lenOf own_pd357 rfl) rfl (own_z rfl) (hb hby d7_14) (fun _ _ => ⟨rfl, e583, (by decide : 0 + 0 ≤ _), (by decide : 0 + 0 ≤ _)⟩)
  dsimp only [Pt.U, Pt.locs, Pt.cells, Pt.slots] at X584 l584 y584 z584 st584 hQ584
  subst l584 y584 z584
  obtain ⟨rfl, Nq584, eh584⟩ := hQ584
  have N584 := Fr.app N582 Nq584
  obtain ⟨_, _, ⟨T585, L585, k585, n585⟩, -, X585, ⟨Lc585, hQ585, l585, y585, z585⟩, st585⟩ := LawKit.callS X584 hx (y := mn22) hown (own_m hZ hw 58) (own_m hZ hw 59) (own_m hZ hw 60) (own_m hZ hw 61) (by decide) (backOf (W := 0) (rmIo4L l Z a0 hw [] cs gS v1 k1 ch x0 x1 x2 x3 h0 n0 Z0 V_env Od V1 hq ) hZ (own_g hw 61) (own_g hw 60) (by decide) (by decide)) (g := (mkF m 17 #[Rv a1, Iv ch, Iv 0] [(.int 4), (.int 0), (.int ch), (.ref v1)])) rfl (by rw [hml]; rfl) (argsL := [(.ref v1), (.int ch), (.int (0 : Int32)), (.int (4 : Int32))]) (rest := []) (lenOf own_pd359 rfl) rfl (own_z rfl) (hb hby d7_17) (fun _ _ => ⟨rfl, eh584, (by decide : 0 + 0 ≤ _), (by decide : 0 + 0 ≤ _)⟩)
  dsimp only [Pt.U, Pt.locs, Pt.cells, Pt.slots] at X585 l585 y585 z585 st585 hQ585
  subst l585 y585 z585
  obtain ⟨rfl, Nq585, eh585⟩ := hQ585
  have N585 := Fr.app N584 Nq585
  refine own_by (fun _ k => XS.aloadN X0.here hx rfl (hb hby d7_0) rfl rfl (st582.trans (XS.ifNo X582.here hx rfl (hb hby d7_4) rfl ((if0 _ _).trans (feq (by decide : ¬ ((1 : Int32) = (0 : Int32)))).1) (XS.aloadN X582.here hx rfl (hb hby d7_7) rfl rfl (st583 _ (XS.iloadN X583.here hx rfl (hb hby d7_11) rfl (XS.iloadN X583.here hx rfl (hb hby d7_12) rfl (XS.aloadN X583.here hx rfl (hb hby d7_13) rfl rfl (st584.trans (st585 _ k)))))))))) ?_
  show own_Fin _ _ _ _ _ _ _ T585 (mkF m 20 #[Rv a1, Iv ch, Iv 0] [(.int (own_find (ch.toInt8.toInt32) [x0.toInt8.toInt32, x1.toInt8.toInt32, x2.toInt8.toInt32, x3.toInt8.toInt32] (0 : Int32)))])
  refine own_by (fun _ k => XS.goto X585.here hx rfl (pc0 := 20) (pc' := 36) rfl (hb hby d7_20) (by decide) (by decide) k) ?_
  exact own_retI X585 hx hlk hret (hb hby d7_36) ⟨rfl, N585, eh585⟩ (by decide) (by decide)
def own_QrmIx4L (ch : Int32) (x0 x1 x2 x3 : Int32) (h0 : Heap) (n0 : Nat) (v : Option Value) (h : Heap) (L : List Loc) : Prop := v = some (.int (own_find (ch.toInt8.toInt32) [x0.toInt8.toInt32, x1.toInt8.toInt32, x2.toInt8.toInt32, x3.toInt8.toInt32] (0 : Int32))) ∧ Fr n0 L ∧ h = h0
theorem rmIx4L (l : Launch) (Z : State) (a0 : Array Value) (hw : own_W a0 Z) (ws : List Jvm.Cond) (cs : Int32) (gS : Value) (a1 : Addr) (v1 : Addr) (k1 : ClassId) (ch : Int32) (x0 x1 x2 x3 : Int32) (h0 : Heap) (n0 : Nat) (Z0 : n0 ≤ h0.size) (V_env : own_Env Z cs gS) (Od : Old Z n0 h0) (E_a1 : Exa Z h0 a1 "java/lang/String") (F1 : Fld Z h0 a1 "java/lang/String" "value" "[B" (.ref v1)) (F2 : Fld Z h0 a1 "java/lang/String" "coder" "B" (.int (0 : Int32))) (V1 : Arv Z h0 v1 k1 .byte (4 : Int32) [(.int x0.toInt8.toInt32), (.int x1.toInt8.toInt32), (.int x2.toInt8.toInt32), (.int x3.toInt8.toInt32)] (.int (0 : Int32))) (hq : own_cq ch) : own_Met l Z mn25 jdk_42_method_79_code 2 (some .int) ws (own_R 3 0 0 46) #[(.ref a1), (.int ch)] h0 (own_QrmIx4L ch x0 x1 x2 x3 h0 n0) := by
  refine own_enter n0 (plainFor_of_name own_pn34) (fun m => ef_RI_2 m a1 ch ) (fun p e s m below meth c s₁ hx hby hlk hml hret hown hnm hZ X0 e0 N0 => ?_)
  show own_Fin _ _ _ _ _ _ _ s₁ (mkF m 0 #[Rv a1, Iv ch] [])
  obtain ⟨cq586, kq586, q586a, q586b, q586c⟩ := isOf hZ e0 E_a1
  obtain ⟨_, _, ⟨T586, L586, k586, n586⟩, -, X586, ⟨Lc586, hQ586, l586, y586, z586⟩, st586⟩ := X0.virtualBack hx (y := mn24) (z := mn24) hown (own_m hZ hw 37) (own_m hZ hw 38) (notFace_of_selects (args := #[]) (own_m hZ hw 40)) (own_m hZ hw 40) (own_m hZ hw 39) (by decide) (backOf (W := 0) (rmI24L l Z a0 hw [] cs gS a1 v1 k1 ch x0 x1 x2 x3 h0 n0 Z0 V_env Od E_a1 F1 F2 V1 hq ) hZ (own_g hw 41) (own_g hw 8) (by decide) (by decide)) q586a q586c (g := (mkF m 3 #[Rv a1, Iv ch] [(.int 0), (.int ch), (.ref a1)])) rfl (by rw [hml]; rfl) (Steps.refl _) (argsL := [(.int ch), (.int (0 : Int32))]) (rest := []) (lenOf own_pd327 rfl) rfl (own_z rfl) (hb hby d6_3) (fun _ _ => ⟨rfl, e0, (by decide : 0 + 0 ≤ _), (by decide : 0 + 0 ≤ _)⟩)
  dsimp only [Pt.U, Pt.locs, Pt.cells, Pt.slots] at X586 l586 y586 z586 st586 hQ586
  subst l586 y586 z586
  obtain ⟨rfl, Nq586, eh586⟩ := hQ586
  have N586 := Fr.app N0 Nq586
  refine own_by (fun _ k => XS.aloadN X0.here hx rfl (hb hby d6_0) rfl rfl (XS.iloadN X0.here hx rfl (hb hby d6_1) rfl (XS.iconst X0.here hx rfl (hb hby d6_2) (st586.trans k)))) ?_
  exact own_retI X586 hx hlk hret (hb hby d6_6) ⟨rfl, N586, eh586⟩ (by decide) (by decide)
def own_QIW4L (x0 x1 x2 x3 : Int32) (h0 : Heap) (n0 : Nat) (v : Option Value) (h : Heap) (L : List Loc) : Prop := v = some (.int (own_iw (own_find ((42 : Int32).toInt8.toInt32) [x0.toInt8.toInt32, x1.toInt8.toInt32, x2.toInt8.toInt32, x3.toInt8.toInt32] (0 : Int32)) (own_find ((63 : Int32).toInt8.toInt32) [x0.toInt8.toInt32, x1.toInt8.toInt32, x2.toInt8.toInt32, x3.toInt8.toInt32] (0 : Int32)))) ∧ Fr n0 L ∧ h = h0
set_option maxRecDepth 65536 in
set_option maxHeartbeats 40000000 in
theorem rmIW4L (l : Launch) (Z : State) (a0 : Array Value) (hw : own_W a0 Z) (ws : List Jvm.Cond) (cs : Int32) (gS : Value) (a1 v1 : Addr) (k1 : ClassId) (x0 x1 x2 x3 : Int32)  (h0 : Heap) (n0 : Nat) (Z0 : n0 ≤ h0.size) (V_env : own_Env Z cs gS) (Od : Old Z n0 h0) (E_a1 : Exa Z h0 a1 "java/lang/String") (F1 : Fld Z h0 a1 "java/lang/String" "value" "[B" (.ref v1)) (F2 : Fld Z h0 a1 "java/lang/String" "coder" "B" (.int (0 : Int32))) (V1 : Arv Z h0 v1 k1 .byte (4 : Int32) [(.int x0.toInt8.toInt32), (.int x1.toInt8.toInt32), (.int x2.toInt8.toInt32), (.int x3.toInt8.toInt32)] (.int (0 : Int32))) : own_Met l Z mn26 prog_17_method_3_code 1 (some .boolean) ws (own_R 4 0 0 59) #[(.ref a1)] h0 (own_QIW4L x0 x1 x2 x3 h0 n0) := by
  refine own_enter n0 (plainFor_of_name own_pn367) (fun m => ef_R_1 m a1 ) (fun p e s m below meth c s₁ hx hby hlk hml hret hown hnm hZ X0 e0 N0 => ?_)
  show own_Fin _ _ _ _ _ _ _ s₁ (mkF m 0 #[Rv a1] [])
  obtain ⟨cq587, kq587, q587a, q587b, q587c⟩ := isOf hZ e0 E_a1
  obtain ⟨_, _, ⟨T587, L587, k587, n587⟩, -, X587, ⟨Lc587, hQ587, l587, y587, z587⟩, st587⟩ := X0.virtualBack hx (y := mn25) (z := mn25) hown (own_m hZ hw 32) (own_m hZ hw 33) (notFace_of_selects (args := #[]) (own_m hZ hw 35)) (own_m hZ hw 35) (own_m hZ hw 34) (by decide) (backOf (W := 0) (rmIx4L l Z a0 hw [] cs gS a1 v1 k1 (42 : Int32) x0 x1 x2 x3 h0 n0 Z0 V_env Od E_a1 F1 F2 V1 ⟨by decide, by decide, by decide⟩ ) hZ (own_g hw 36) (own_g hw 8) (by decide) (by decide)) q587a q587c (g := (mkF m 3 #[Rv a1] [(.int 42), (.ref a1)])) rfl (by rw [hml]; rfl) (Steps.refl _) (argsL := [(.int (42 : Int32))]) (rest := []) (lenOf own_pd70 rfl) rfl (own_z rfl) (hb hby d5_3) (fun _ _ => ⟨rfl, e0, (by decide : 0 + 0 ≤ _), (by decide : 0 + 0 ≤ _)⟩)
  dsimp only [Pt.U, Pt.locs, Pt.cells, Pt.slots] at X587 l587 y587 z587 st587 hQ587
  subst l587 y587 z587
  obtain ⟨rfl, Nq587, eh587⟩ := hQ587
  have N587 := Fr.app N0 Nq587
  refine own_by (fun _ k => XS.aloadN X0.here hx rfl (hb hby d5_0) rfl rfl (XS.bipush X0.here hx rfl (hb hby d5_1) (st587.trans k))) ?_
  show own_Fin _ _ _ _ _ _ _ T587 (mkF m 6 #[Rv a1] [(.int (own_find ((42 : Int32).toInt8.toInt32) [x0.toInt8.toInt32, x1.toInt8.toInt32, x2.toInt8.toInt32, x3.toInt8.toInt32] (0 : Int32)))])
  by_cases hc6_588 : (own_find ((42 : Int32).toInt8.toInt32) [x0.toInt8.toInt32, x1.toInt8.toInt32, x2.toInt8.toInt32, x3.toInt8.toInt32] (0 : Int32)) < (0 : Int32)
  · show own_Fin _ _ _ _ _ _ _ T587 (mkF m 6 #[Rv a1] [(.int (own_find ((42 : Int32).toInt8.toInt32) [x0.toInt8.toInt32, x1.toInt8.toInt32, x2.toInt8.toInt32, x3.toInt8.toInt32] (0 : Int32)))])
    obtain ⟨cq589, kq589, q589a, q589b, q589c⟩ := isOf hZ eh587 E_a1
    obtain ⟨_, _, ⟨T589, L589, k589, n589⟩, -, X589, ⟨Lc589, hQ589, l589, y589, z589⟩, st589⟩ := X587.virtualBack hx (y := mn25) (z := mn25) hown (own_m hZ hw 32) (own_m hZ hw 33) (notFace_of_selects (args := #[]) (own_m hZ hw 35)) (own_m hZ hw 35) (own_m hZ hw 34) (by decide) (backOf (W := 0) (rmIx4L l Z a0 hw [] cs gS a1 v1 k1 (63 : Int32) x0 x1 x2 x3 h0 n0 Z0 V_env Od E_a1 F1 F2 V1 ⟨by decide, by decide, by decide⟩ ) hZ (own_g hw 36) (own_g hw 8) (by decide) (by decide)) q589a q589c (g := (mkF m 12 #[Rv a1] [(.int 63), (.ref a1)])) rfl (by rw [hml]; rfl) (Steps.refl _) (argsL := [(.int (63 : Int32))]) (rest := []) (lenOf own_pd70 rfl) rfl (own_z rfl) (hb hby d5_12) (fun _ _ => ⟨rfl, eh587, (by decide : 0 + 0 ≤ _), (by decide : 0 + 0 ≤ _)⟩)
    dsimp only [Pt.U, Pt.locs, Pt.cells, Pt.slots] at X589 l589 y589 z589 st589 hQ589
    subst l589 y589 z589
    obtain ⟨rfl, Nq589, eh589⟩ := hQ589
    have N589 := Fr.app N587 Nq589
    refine own_by (fun _ k => XS.ifNo X587.here hx rfl (hb hby d5_6) rfl ((if0 _ _).trans (tlt hc6_588).2.1) (XS.aloadN X587.here hx rfl (hb hby d5_9) rfl rfl (XS.bipush X587.here hx rfl (hb hby d5_10) (st589.trans k)))) ?_
    show own_Fin _ _ _ _ _ _ _ T589 (mkF m 15 #[Rv a1] [(.int (own_find ((63 : Int32).toInt8.toInt32) [x0.toInt8.toInt32, x1.toInt8.toInt32, x2.toInt8.toInt32, x3.toInt8.toInt32] (0 : Int32)))])
    by_cases hc15_590 : (own_find ((63 : Int32).toInt8.toInt32) [x0.toInt8.toInt32, x1.toInt8.toInt32, x2.toInt8.toInt32, x3.toInt8.toInt32] (0 : Int32)) < (0 : Int32)
    · show own_Fin _ _ _ _ _ _ _ T589 (mkF m 15 #[Rv a1] [(.int (own_find ((63 : Int32).toInt8.toInt32) [x0.toInt8.toInt32, x1.toInt8.toInt32, x2.toInt8.toInt32, x3.toInt8.toInt32] (0 : Int32)))])
      refine own_by (fun _ k => XS.ifYes X589.here hx rfl (pc0 := 15) (pc' := 22) rfl (hb hby d5_15) rfl ((if0 _ _).trans (tlt hc15_590).1) (by decide) (by decide) (XS.iconst X589.here hx rfl (hb hby d5_22) k)) ?_
      exact own_retZ X589 hx hlk (t := .boolean) hret (by simp) (hb hby d5_23) ⟨own_vi (by show (0 : Int32) = _; first | (simp only [own_iw, if_neg V_env.2.2.2.2.1, if_pos hc6_588, if_pos hc15_590]; done) | (simp only [own_iw, if_neg V_env.2.2.2.2.1, if_pos hc6_588, if_pos hc15_590]; decide) | simp [own_iw, V_env.2.2.2.2.1, hc6_588, hc15_590]), N589, eh589⟩ (by decide) (by decide)
    · show own_Fin _ _ _ _ _ _ _ T589 (mkF m 15 #[Rv a1] [(.int (own_find ((63 : Int32).toInt8.toInt32) [x0.toInt8.toInt32, x1.toInt8.toInt32, x2.toInt8.toInt32, x3.toInt8.toInt32] (0 : Int32)))])
      refine own_by (fun _ k => XS.ifNo X589.here hx rfl (hb hby d5_15) rfl ((if0 _ _).trans (flt hc15_590).1) (XS.iconst X589.here hx rfl (hb hby d5_18) (XS.goto X589.here hx rfl (pc0 := 19) (pc' := 23) rfl (hb hby d5_19) (by decide) (by decide) k))) ?_
      exact own_retZ X589 hx hlk (t := .boolean) hret (by simp) (hb hby d5_23) ⟨own_vi (by show (1 : Int32) = _; first | (simp only [own_iw, if_neg V_env.2.2.2.2.1, if_pos hc6_588, if_neg hc15_590]; done) | (simp only [own_iw, if_neg V_env.2.2.2.2.1, if_pos hc6_588, if_neg hc15_590]; decide) | simp [own_iw, V_env.2.2.2.2.1, hc6_588, hc15_590]), N589, eh589⟩ (by decide) (by decide)
  · show own_Fin _ _ _ _ _ _ _ T587 (mkF m 6 #[Rv a1] [(.int (own_find ((42 : Int32).toInt8.toInt32) [x0.toInt8.toInt32, x1.toInt8.toInt32, x2.toInt8.toInt32, x3.toInt8.toInt32] (0 : Int32)))])
    refine own_by (fun _ k => XS.ifYes X587.here hx rfl (pc0 := 6) (pc' := 18) rfl (hb hby d5_6) rfl ((if0 _ _).trans (flt hc6_588).2.1) (by decide) (by decide) (XS.iconst X587.here hx rfl (hb hby d5_18) (XS.goto X587.here hx rfl (pc0 := 19) (pc' := 23) rfl (hb hby d5_19) (by decide) (by decide) k))) ?_
    exact own_retZ X587 hx hlk (t := .boolean) hret (by simp) (hb hby d5_23) ⟨own_vi (by show (1 : Int32) = _; first | (simp only [own_iw, if_neg V_env.2.2.2.2.1, if_neg hc6_588]; done) | (simp only [own_iw, if_neg V_env.2.2.2.2.1, if_neg hc6_588]; decide) | simp [own_iw, V_env.2.2.2.2.1, hc6_588]), N587, eh587⟩ (by decide) (by decide)
def own_QrmLu4 (h0 : Heap) (n0 : Nat) (v : Option Value) (h : Heap) (L : List Loc) : Prop := v = some (.int (4 : Int32)) ∧ Fr n0 L ∧ h = h0
theorem rmLu4 (l : Launch) (Z : State) (a0 : Array Value) (hw : own_W a0 Z) (ws : List Jvm.Cond) (v1 : Addr) (k1 : ClassId) (vs : List Value) (h0 : Heap) (n0 : Nat) (Z0 : n0 ≤ h0.size) (V1 : Arv Z h0 v1 k1 .byte (8 : Int32) vs (.int (0 : Int32))) : own_Met l Z mn28 jdk_52_method_6_code 1 (some .int) ws (own_R 0 0 0 0) #[(.ref v1)] h0 (own_QrmLu4 h0 n0) := by
  refine own_enter n0 (plainFor_of_name own_pn58) (fun m => ef_R_1 m v1 ) (fun p e s m below meth c s₁ hx hby hlk hml hret hown hnm hZ X0 e0 N0 => ?_)
  show own_Fin _ _ _ _ _ _ _ s₁ (mkF m 0 #[Rv v1] [])
  obtain ⟨cl591, Ar591, -, S591, M591, -, -⟩ := id V1
  refine own_by (fun _ k => XS.aloadN X0.here hx rfl (hb hby d32_0) rfl rfl (X0.arraylength hx (by rw [e0]; exact Ar591.1) (State.isArrayOf_alike hZ.alike Ar591.2.1) (g := (mkF m 1 #[Rv v1] [(.ref v1)])) rfl rfl (hb hby d32_1) _ k)) ?_
  rw [len_of S591 M591]
  show own_Fin _ _ _ _ _ _ _ s₁ (mkF m 2 #[Rv v1] [(.int 8)])
  refine own_by (fun _ k => XS.iconst X0.here hx rfl (hb hby d32_2) (XS.ishr X0.here hx rfl (hb hby d32_3) rfl k)) ?_
  show own_Fin _ _ _ _ _ _ _ s₁ (mkF m 4 #[Rv v1] [(.int ((8 : Int32) >>> ((1 : Int32) &&& 31)))])
  rw [(by decide : ((8 : Int32) >>> ((1 : Int32) &&& 31)) = (4 : Int32))]
  show own_Fin _ _ _ _ _ _ _ s₁ (mkF m 4 #[Rv v1] [(.int 4)])
  exact own_retI X0 hx hlk hret (hb hby d32_4) ⟨rfl, N0, e0⟩ (by decide) (by decide)
def own_QrmCf4 (h0 : Heap) (n0 : Nat) (v : Option Value) (h : Heap) (L : List Loc) : Prop := v = some (.int (0 : Int32)) ∧ Fr n0 L ∧ h = h0
theorem rmCf4 (l : Launch) (Z : State) (a0 : Array Value) (hw : own_W a0 Z) (ws : List Jvm.Cond) (gS : Value) (h0 : Heap) (n0 : Nat) (Z0 : n0 ≤ h0.size) (hgS : gS.isRef = true) : own_Met l Z mn29 jdk_41_method_12_code 4 (some .int) ws (own_R 0 0 0 0) #[(.int (0 : Int32)), (.int (4 : Int32)), (.int (4 : Int32)), gS] h0 (own_QrmCf4 h0 n0) := by
  refine own_enter n0 (plainFor_of_name own_pn412) (fun m => ef_IIIV_4 m (0 : Int32) (4 : Int32) (4 : Int32) gS (by rcases ref_cases (by assumption : (gS).isRef = true) with h | ⟨_, h⟩ <;> rw [h] <;> rfl)) (fun p e s m below meth c s₁ hx hby hlk hml hret hown hnm hZ X0 e0 N0 => ?_)
  show own_Fin _ _ _ _ _ _ _ s₁ (mkF m 0 #[Iv 0, Iv 4, Iv 4, .val gS] [])
  refine own_by (fun _ k => XS.iloadN X0.here hx rfl (hb hby d34_0) rfl (XS.ifNo X0.here hx rfl (hb hby d34_1) rfl ((if0 _ _).trans (flt (by decide : ¬ ((0 : Int32) < (0 : Int32)))).1) (XS.iloadN X0.here hx rfl (hb hby d34_4) rfl (XS.iloadN X0.here hx rfl (hb hby d34_5) rfl (XS.icmpNo X0.here hx rfl (hb hby d34_6) rfl (flt (by decide : ¬ ((4 : Int32) < (0 : Int32)))).2.2.1 (XS.iloadN X0.here hx rfl (hb hby d34_9) rfl (XS.iloadN X0.here hx rfl (hb hby d34_10) rfl (XS.icmpYes X0.here hx rfl (pc0 := 11) (pc' := 22) rfl (hb hby d34_11) rfl (flt (by decide : ¬ ((4 : Int32) < (4 : Int32)))).2.2.2 (by decide) (by decide) (XS.iloadN X0.here hx rfl (hb hby d34_22) rfl k))))))))) ?_
  exact own_retI X0 hx hlk hret (hb hby d34_23) ⟨rfl, N0, e0⟩ (by decide) (by decide)
def own_QCb4 (h0 : Heap) (n0 : Nat) (v : Option Value) (h : Heap) (L : List Loc) : Prop := v = none ∧ Fr n0 L ∧ h = h0
theorem rmCb4 (l : Launch) (Z : State) (a0 : Array Value) (hw : own_W a0 Z) (ws : List Jvm.Cond) (cs : Int32) (gS : Value) (h0 : Heap) (n0 : Nat) (Z0 : n0 ≤ h0.size) (V_env : own_Env Z cs gS) (Od : Old Z n0 h0) : own_Met l Z mn30 jdk_42_method_158_code 3 none ws (own_R 1 0 0 15) #[(.int (0 : Int32)), (.int (4 : Int32)), (.int (4 : Int32))] h0 (own_QCb4 h0 n0) := by
  refine own_enter n0 (plainFor_of_name own_pn34) (fun m => ef_III_3 m (0 : Int32) (4 : Int32) (4 : Int32) ) (fun p e s m below meth c s₁ hx hby hlk hml hret hown hnm hZ X0 e0 N0 => ?_)
  show own_Fin _ _ _ _ _ _ _ s₁ (mkF m 0 #[Iv 0, Iv 4, Iv 4] [])
  have hgS : gS.isRef = true := V_env.2.2.2.2.2.2
  obtain ⟨T592, X592, e592, st592⟩ := getS2 X0 hx hZ hown (host := "") (Or.inl (own_g hw 138)) Via.refl e0 (V_env.2.2.2.2.2.1.ext Od.2) (g := (mkF m 3 #[Iv 0, Iv 4, Iv 4] [(.int 4), (.int 4), (.int 0)])) rfl (hb hby d33_3)
  obtain ⟨_, _, ⟨T593, L593, k593, n593⟩, -, X593, ⟨Lc593, hQ593, l593, y593, z593⟩, st593⟩ := LawKit.callS X592 hx (y := mn29) hown (own_m hZ hw 140) (own_m hZ hw 141) (own_m hZ hw 139) (own_m hZ hw 142) (by decide) (backOf (W := 0) (rmCf4 l Z a0 hw [] gS h0 n0 Z0 hgS) hZ (own_g hw 142) (own_g hw 139) (by decide) (by decide)) (g := (mkF m 6 #[Iv 0, Iv 4, Iv 4] [gS, (.int 4), (.int 4), (.int 0)])) rfl (by rw [hml]; rfl) (argsL := [(.int (0 : Int32)), (.int (4 : Int32)), (.int (4 : Int32)), gS]) (rest := []) (lenOf own_pd429 rfl) rfl (own_z rfl) (hb hby d33_6) (fun _ _ => ⟨rfl, e592, (by decide : 0 + 0 ≤ _), (by decide : 0 + 0 ≤ _)⟩)
  dsimp only [Pt.U, Pt.locs, Pt.cells, Pt.slots] at X593 l593 y593 z593 st593 hQ593
  subst l593 y593 z593
  obtain ⟨rfl, Nq593, eh593⟩ := hQ593
  have N593 := Fr.app N0 Nq593
  refine own_by (fun _ k => XS.iloadN X0.here hx rfl (hb hby d33_0) rfl (XS.iloadN X0.here hx rfl (hb hby d33_1) rfl (XS.iloadN X0.here hx rfl (hb hby d33_2) rfl (st592 _ (st593 _ (XS.pop X593.here hx rfl (hb hby d33_9) rfl rfl k)))))) ?_
  exact own_retV X593 hx hlk hret (hb hby d33_10) ⟨rfl, N593, eh593⟩ (by decide) (by decide)
theorem rmCu4 (l : Launch) (Z : State) (a0 : Array Value) (hw : own_W a0 Z) (ws : List Jvm.Cond) (cs : Int32) (gS : Value) (v1 : Addr) (k1 : ClassId) (vs : List Value) (h0 : Heap) (n0 : Nat) (Z0 : n0 ≤ h0.size) (V_env : own_Env Z cs gS) (Od : Old Z n0 h0) (V1 : Arv Z h0 v1 k1 .byte (8 : Int32) vs (.int (0 : Int32))) : own_Met l Z mn31 jdk_52_method_93_code 3 none ws (own_R 2 0 0 29) #[(.int (0 : Int32)), (.int (4 : Int32)), (.ref v1)] h0 (own_QCb4 h0 n0) := by
  refine own_enter n0 (plainFor_of_name own_pn58) (fun m => ef_IIR_3 m (0 : Int32) (4 : Int32) v1 ) (fun p e s m below meth c s₁ hx hby hlk hml hret hown hnm hZ X0 e0 N0 => ?_)
  show own_Fin _ _ _ _ _ _ _ s₁ (mkF m 0 #[Iv 0, Iv 4, Rv v1] [])
  obtain ⟨_, _, ⟨T594, L594, k594, n594⟩, -, X594, ⟨Lc594, hQ594, l594, y594, z594⟩, st594⟩ := LawKit.callS X0 hx (y := mn28) hown (own_m hZ hw 132) (own_m hZ hw 133) (own_m hZ hw 74) (own_m hZ hw 134) (by decide) (backOf (W := 2) (rmLu4 l Z a0 hw [] v1 k1 vs h0 n0 Z0 V1) hZ (own_g hw 134) (own_g hw 74) (by decide) (by decide)) (g := (mkF m 3 #[Iv 0, Iv 4, Rv v1] [(.ref v1), (.int 4), (.int 0)])) rfl (by rw [hml]; rfl) (argsL := [(.ref v1)]) (rest := [(.int (4 : Int32)), (.int (0 : Int32))]) (lenOf own_pd437 rfl) rfl (own_z rfl) (hb hby d31_3) (fun _ _ => ⟨rfl, e0, (by decide : 0 + 0 ≤ _), (by decide : 0 + 0 ≤ _)⟩)
  dsimp only [Pt.U, Pt.locs, Pt.cells, Pt.slots] at X594 l594 y594 z594 st594 hQ594
  subst l594 y594 z594
  obtain ⟨rfl, Nq594, eh594⟩ := hQ594
  have N594 := Fr.app N0 Nq594
  obtain ⟨_, _, ⟨T595, L595, k595, n595⟩, -, X595, ⟨Lc595, hQ595, l595, y595, z595⟩, st595⟩ := LawKit.callS X594 hx (y := mn30) hown (own_m hZ hw 135) (own_m hZ hw 136) (own_m hZ hw 8) (own_m hZ hw 137) (by decide) (backOf (W := 0) (rmCb4 l Z a0 hw [] cs gS h0 n0 Z0 V_env Od) hZ (own_g hw 137) (own_g hw 8) (by decide) (by decide)) (g := (mkF m 6 #[Iv 0, Iv 4, Rv v1] [(.int 4), (.int 4), (.int 0)])) rfl (by rw [hml]; rfl) (argsL := [(.int (0 : Int32)), (.int (4 : Int32)), (.int (4 : Int32))]) (rest := []) (lenOf own_pd439 rfl) rfl (own_z rfl) (hb hby d31_6) (fun _ _ => ⟨rfl, eh594, (by decide : 0 + 0 ≤ _), (by decide : 0 + 0 ≤ _)⟩)
  dsimp only [Pt.U, Pt.locs, Pt.cells, Pt.slots] at X595 l595 y595 z595 st595 hQ595
  subst l595 y595 z595
  obtain ⟨rfl, Nq595, eh595⟩ := hQ595
  have N595 := Fr.app N594 Nq595
  refine own_by (fun _ k => XS.iloadN X0.here hx rfl (hb hby d31_0) rfl (XS.iloadN X0.here hx rfl (hb hby d31_1) rfl (XS.aloadN X0.here hx rfl (hb hby d31_2) rfl rfl (st594 _ (st595 _ k))))) ?_
  exact own_retV X595 hx hlk hret (hb hby d31_9) ⟨rfl, N595, eh595⟩ (by decide) (by decide)
def own_QrmIn4U (ch : Int32) (x0 x1 x2 x3 : Int32) (h0 : Heap) (n0 : Nat) (v : Option Value) (h : Heap) (L : List Loc) : Prop := v = some (.int (own_find ch [x0, x1, x2, x3] (0 : Int32))) ∧ Fr n0 L ∧ h = h0
set_option maxRecDepth 65536 in
set_option maxHeartbeats 40000000 in
theorem rmIn4U (l : Launch) (Z : State) (a0 : Array Value) (hw : own_W a0 Z) (ws : List Jvm.Cond) (cs : Int32) (gS : Value) (v1 : Addr) (k1 : ClassId) (ch : Int32) (x0 x1 x2 x3 : Int32) (h0 : Heap) (n0 : Nat) (Z0 : n0 ≤ h0.size) (V_env : own_Env Z cs gS) (Od : Old Z n0 h0) (V1 : Arv Z h0 v1 k1 .byte (8 : Int32) [(.int (own_lo x0)), (.int (own_hi x0)), (.int (own_lo x1)), (.int (own_hi x1)), (.int (own_lo x2)), (.int (own_hi x2)), (.int (own_lo x3)), (.int (own_hi x3))] (.int (0 : Int32))) (hq : own_cq ch) (hx0 : own_ch x0) (hx1 : own_ch x1) (hx2 : own_ch x2) (hx3 : own_ch x3) : own_Met l Z mn32 jdk_52_method_48_code 5 (some .int) ws (own_R 1 0 0 13) #[(.ref v1), (.int ch), (.int (0 : Int32)), (.int (4 : Int32))] h0 (own_QrmIn4U ch x0 x1 x2 x3 h0 n0) := by
  refine own_enter n0 (plainFor_of_name own_pn58) (fun m => ef_RIII_5 m v1 ch (0 : Int32) (4 : Int32) ) (fun p e s m below meth c s₁ hx hby hlk hml hret hown hnm hZ X0 e0 N0 => ?_)
  show own_Fin _ _ _ _ _ _ _ s₁ (mkF m 0 #[Rv v1, Iv ch, Iv 0, Iv 4, Uv] [])
  obtain ⟨_, _, ⟨T596, L596, k596, n596⟩, -, X596, ⟨Lc596, hQ596, l596, y596, z596⟩, st596⟩ := LawKit.callS X0 hx (y := mn8) hown (own_m hZ hw 117) (own_m hZ hw 118) (own_m hZ hw 74) (own_m hZ hw 119) (by decide) (backOf (W := 0) (rmGC4_0 l Z a0 hw [] cs gS v1 k1 x0 x1 x2 x3 h0 n0 Z0 V_env Od V1 hx0) hZ (own_g hw 119) (own_g hw 74) (by decide) (by decide)) (g := (mkF m 12 #[Rv v1, Iv ch, Iv 0, Iv 4, Iv 0] [(.int 0), (.ref v1)])) rfl (by rw [hml]; rfl) (argsL := [(.ref v1), (.int (0 : Int32))]) (rest := []) (lenOf own_pd195 rfl) rfl (own_z rfl) (hb hby d35_12) (fun _ _ => ⟨rfl, e0, (by decide : 0 + 0 ≤ _), (by decide : 0 + 0 ≤ _)⟩)
  dsimp only [Pt.U, Pt.locs, Pt.cells, Pt.slots] at X596 l596 y596 z596 st596 hQ596
  subst l596 y596 z596
  obtain ⟨rfl, Nq596, eh596⟩ := hQ596
  have N596 := Fr.app N0 Nq596
  refine own_by (fun _ k => XS.iloadN X0.here hx rfl (hb hby d35_0) rfl (XS.istore X0.here hx rfl (hb hby d35_1) rfl (l' := #[Rv v1, Iv ch, Iv 0, Iv 4, Iv 0]) rfl (XS.iload X0.here hx rfl (hb hby d35_3) rfl (XS.iloadN X0.here hx rfl (hb hby d35_5) rfl (XS.icmpNo X0.here hx rfl (hb hby d35_6) rfl (tlt (by decide : (0 : Int32) < (4 : Int32))).2.1 (XS.aloadN X0.here hx rfl (hb hby d35_9) rfl rfl (XS.iload X0.here hx rfl (hb hby d35_10) rfl (st596 _ (XS.iloadN X596.here hx rfl (hb hby d35_15) rfl k))))))))) ?_
  show own_Fin _ _ _ _ _ _ _ T596 (mkF m 16 #[Rv v1, Iv ch, Iv 0, Iv 4, Iv 0] [(.int ch), (.int x0)])
  by_cases hc16_597 : x0 = ch
  · show own_Fin _ _ _ _ _ _ _ T596 (mkF m 16 #[Rv v1, Iv ch, Iv 0, Iv 4, Iv 0] [(.int ch), (.int x0)])
    refine own_by (fun _ k => XS.icmpNo X596.here hx rfl (hb hby d35_16) rfl (teq hc16_597).2 (XS.iload X596.here hx rfl (hb hby d35_19) rfl k)) ?_
    exact own_retI X596 hx hlk hret (hb hby d35_21) ⟨own_vi (by show (0 : Int32) = _; first | (simp only [own_find, if_neg V_env.2.2.2.2.1, if_neg hq.1, if_neg hq.2.1, if_pos hq.2.2, if_pos hc16_597]; done) | (simp only [own_find, if_neg V_env.2.2.2.2.1, if_neg hq.1, if_neg hq.2.1, if_pos hq.2.2, if_pos hc16_597]; decide) | simp [own_find, V_env.2.2.2.2.1, hq.1, hq.2.1, hq.2.2, hc16_597]), N596, eh596⟩ (by decide) (by decide)
  · show own_Fin _ _ _ _ _ _ _ T596 (mkF m 16 #[Rv v1, Iv ch, Iv 0, Iv 4, Iv 0] [(.int ch), (.int x0)])
    refine own_by (fun _ k => XS.icmpYes X596.here hx rfl (pc0 := 16) (pc' := 22) rfl (hb hby d35_16) rfl (feq hc16_597).2 (by decide) (by decide) (XS.iinc X596.here hx rfl (hb hby d35_22) rfl (l' := #[Rv v1, Iv ch, Iv 0, Iv 4, Iv ((0 : Int32) + (1 : Int32))]) rfl k)) ?_
    show own_Fin _ _ _ _ _ _ _ T596 (mkF m 25 #[Rv v1, Iv ch, Iv 0, Iv 4, Iv ((0 : Int32) + (1 : Int32))] [])
    rw [(by decide : ((0 : Int32) + (1 : Int32)) = (1 : Int32))]
    show own_Fin _ _ _ _ _ _ _ T596 (mkF m 25 #[Rv v1, Iv ch, Iv 0, Iv 4, Iv 1] [])
    obtain ⟨_, _, ⟨T598, L598, k598, n598⟩, -, X598, ⟨Lc598, hQ598, l598, y598, z598⟩, st598⟩ := LawKit.callS X596 hx (y := mn8) hown (own_m hZ hw 117) (own_m hZ hw 118) (own_m hZ hw 74) (own_m hZ hw 119) (by decide) (backOf (W := 0) (rmGC4_1 l Z a0 hw [] cs gS v1 k1 x0 x1 x2 x3 h0 n0 Z0 V_env Od V1 hx1) hZ (own_g hw 119) (own_g hw 74) (by decide) (by decide)) (g := (mkF m 12 #[Rv v1, Iv ch, Iv 0, Iv 4, Iv 1] [(.int 1), (.ref v1)])) rfl (by rw [hml]; rfl) (argsL := [(.ref v1), (.int (1 : Int32))]) (rest := []) (lenOf own_pd195 rfl) rfl (own_z rfl) (hb hby d35_12) (fun _ _ => ⟨rfl, eh596, (by decide : 0 + 0 ≤ _), (by decide : 0 + 0 ≤ _)⟩)
    dsimp only [Pt.U, Pt.locs, Pt.cells, Pt.slots] at X598 l598 y598 z598 st598 hQ598
    subst l598 y598 z598
    obtain ⟨rfl, Nq598, eh598⟩ := hQ598
    have N598 := Fr.app N596 Nq598
    refine own_by (fun _ k => XS.goto X596.here hx rfl (pc0 := 25) (pc' := 3) rfl (hb hby d35_25) (by decide) (by decide) (XS.iload X596.here hx rfl (hb hby d35_3) rfl (XS.iloadN X596.here hx rfl (hb hby d35_5) rfl (XS.icmpNo X596.here hx rfl (hb hby d35_6) rfl (tlt (by decide : (1 : Int32) < (4 : Int32))).2.1 (XS.aloadN X596.here hx rfl (hb hby d35_9) rfl rfl (XS.iload X596.here hx rfl (hb hby d35_10) rfl (st598 _ (XS.iloadN X598.here hx rfl (hb hby d35_15) rfl k)))))))) ?_
    show own_Fin _ _ _ _ _ _ _ T598 (mkF m 16 #[Rv v1, Iv ch, Iv 0, Iv 4, Iv 1] [(.int ch), (.int x1)])
    by_cases hc16_599 : x1 = ch
    · show own_Fin _ _ _ _ _ _ _ T598 (mkF m 16 #[Rv v1, Iv ch, Iv 0, Iv 4, Iv 1] [(.int ch), (.int x1)])
      refine own_by (fun _ k => XS.icmpNo X598.here hx rfl (hb hby d35_16) rfl (teq hc16_599).2 (XS.iload X598.here hx rfl (hb hby d35_19) rfl k)) ?_
      exact own_retI X598 hx hlk hret (hb hby d35_21) ⟨own_vi (by show (1 : Int32) = _; first | (simp only [own_find, if_neg V_env.2.2.2.2.1, if_neg hq.1, if_neg hq.2.1, if_pos hq.2.2, if_neg hc16_597, if_pos hc16_599]; done) | (simp only [own_find, if_neg V_env.2.2.2.2.1, if_neg hq.1, if_neg hq.2.1, if_pos hq.2.2, if_neg hc16_597, if_pos hc16_599]; decide) | simp [own_find, V_env.2.2.2.2.1, hq.1, hq.2.1, hq.2.2, hc16_597, hc16_599]), N598, eh598⟩ (by decide) (by decide)
    · show own_Fin _ _ _ _ _ _ _ T598 (mkF m 16 #[Rv v1, Iv ch, Iv 0, Iv 4, Iv 1] [(.int ch), (.int x1)])
      refine own_by (fun _ k => XS.icmpYes X598.here hx rfl (pc0 := 16) (pc' := 22) rfl (hb hby d35_16) rfl (feq hc16_599).2 (by decide) (by decide) (XS.iinc X598.here hx rfl (hb hby d35_22) rfl (l' := #[Rv v1, Iv ch, Iv 0, Iv 4, Iv ((1 : Int32) + (1 : Int32))]) rfl k)) ?_
      show own_Fin _ _ _ _ _ _ _ T598 (mkF m 25 #[Rv v1, Iv ch, Iv 0, Iv 4, Iv ((1 : Int32) + (1 : Int32))] [])
      rw [(by decide : ((1 : Int32) + (1 : Int32)) = (2 : Int32))]
      show own_Fin _ _ _ _ _ _ _ T598 (mkF m 25 #[Rv v1, Iv ch, Iv 0, Iv 4, Iv 2] [])
      obtain ⟨_, _, ⟨T600, L600, k600, n600⟩, -, X600, ⟨Lc600, hQ600, l600, y600, z600⟩, st600⟩ := LawKit.callS X598 hx (y := mn8) hown (own_m hZ hw 117) (own_m hZ hw 118) (own_m hZ hw 74) (own_m hZ hw 119) (by decide) (backOf (W := 0) (rmGC4_2 l Z a0 hw [] cs gS v1 k1 x0 x1 x2 x3 h0 n0 Z0 V_env Od V1 hx2) hZ (own_g hw 119) (own_g hw 74) (by decide) (by decide)) (g := (mkF m 12 #[Rv v1, Iv ch, Iv 0, Iv 4, Iv 2] [(.int 2), (.ref v1)])) rfl (by rw [hml]; rfl) (argsL := [(.ref v1), (.int (2 : Int32))]) (rest := []) (lenOf own_pd195 rfl) rfl (own_z rfl) (hb hby d35_12) (fun _ _ => ⟨rfl, eh598, (by decide : 0 + 0 ≤ _), (by decide : 0 + 0 ≤ _)⟩)
      dsimp only [Pt.U, Pt.locs, Pt.cells, Pt.slots] at X600 l600 y600 z600 st600 hQ600
      subst l600 y600 z600
      obtain ⟨rfl, Nq600, eh600⟩ := hQ600
      have N600 := Fr.app N598 Nq600
      refine own_by (fun _ k => XS.goto X598.here hx rfl (pc0 := 25) (pc' := 3) rfl (hb hby d35_25) (by decide) (by decide) (XS.iload X598.here hx rfl (hb hby d35_3) rfl (XS.iloadN X598.here hx rfl (hb hby d35_5) rfl (XS.icmpNo X598.here hx rfl (hb hby d35_6) rfl (tlt (by decide : (2 : Int32) < (4 : Int32))).2.1 (XS.aloadN X598.here hx rfl (hb hby d35_9) rfl rfl (XS.iload X598.here hx rfl (hb hby d35_10) rfl (st600 _ (XS.iloadN X600.here hx rfl (hb hby d35_15) rfl k)))))))) ?_
      show own_Fin _ _ _ _ _ _ _ T600 (mkF m 16 #[Rv v1, Iv ch, Iv 0, Iv 4, Iv 2] [(.int ch), (.int x2)])
      by_cases hc16_601 : x2 = ch
      · show own_Fin _ _ _ _ _ _ _ T600 (mkF m 16 #[Rv v1, Iv ch, Iv 0, Iv 4, Iv 2] [(.int ch), (.int x2)])
        refine own_by (fun _ k => XS.icmpNo X600.here hx rfl (hb hby d35_16) rfl (teq hc16_601).2 (XS.iload X600.here hx rfl (hb hby d35_19) rfl k)) ?_
        exact own_retI X600 hx hlk hret (hb hby d35_21) ⟨own_vi (by show (2 : Int32) = _; first | (simp only [own_find, if_neg V_env.2.2.2.2.1, if_neg hq.1, if_neg hq.2.1, if_pos hq.2.2, if_neg hc16_597, if_neg hc16_599, if_pos hc16_601]; done) | (simp only [own_find, if_neg V_env.2.2.2.2.1, if_neg hq.1, if_neg hq.2.1, if_pos hq.2.2, if_neg hc16_597, if_neg hc16_599, if_pos hc16_601]; decide) | simp [own_find, V_env.2.2.2.2.1, hq.1, hq.2.1, hq.2.2, hc16_597, hc16_599, hc16_601]), N600, eh600⟩ (by decide) (by decide)
      · show own_Fin _ _ _ _ _ _ _ T600 (mkF m 16 #[Rv v1, Iv ch, Iv 0, Iv 4, Iv 2] [(.int ch), (.int x2)])
        refine own_by (fun _ k => XS.icmpYes X600.here hx rfl (pc0 := 16) (pc' := 22) rfl (hb hby d35_16) rfl (feq hc16_601).2 (by decide) (by decide) (XS.iinc X600.here hx rfl (hb hby d35_22) rfl (l' := #[Rv v1, Iv ch, Iv 0, Iv 4, Iv ((2 : Int32) + (1 : Int32))]) rfl k)) ?_
        show own_Fin _ _ _ _ _ _ _ T600 (mkF m 25 #[Rv v1, Iv ch, Iv 0, Iv 4, Iv ((2 : Int32) + (1 : Int32))] [])
        rw [(by decide : ((2 : Int32) + (1 : Int32)) = (3 : Int32))]
        show own_Fin _ _ _ _ _ _ _ T600 (mkF m 25 #[Rv v1, Iv ch, Iv 0, Iv 4, Iv 3] [])
        obtain ⟨_, _, ⟨T602, L602, k602, n602⟩, -, X602, ⟨Lc602, hQ602, l602, y602, z602⟩, st602⟩ := LawKit.callS X600 hx (y := mn8) hown (own_m hZ hw 117) (own_m hZ hw 118) (own_m hZ hw 74) (own_m hZ hw 119) (by decide) (backOf (W := 0) (rmGC4_3 l Z a0 hw [] cs gS v1 k1 x0 x1 x2 x3 h0 n0 Z0 V_env Od V1 hx3) hZ (own_g hw 119) (own_g hw 74) (by decide) (by decide)) (g := (mkF m 12 #[Rv v1, Iv ch, Iv 0, Iv 4, Iv 3] [(.int 3), (.ref v1)])) rfl (by rw [hml]; rfl) (argsL := [(.ref v1), (.int (3 : Int32))]) (rest := []) (lenOf own_pd195 rfl) rfl (own_z rfl) (hb hby d35_12) (fun _ _ => ⟨rfl, eh600, (by decide : 0 + 0 ≤ _), (by decide : 0 + 0 ≤ _)⟩)
        dsimp only [Pt.U, Pt.locs, Pt.cells, Pt.slots] at X602 l602 y602 z602 st602 hQ602
        subst l602 y602 z602
        obtain ⟨rfl, Nq602, eh602⟩ := hQ602
        have N602 := Fr.app N600 Nq602
        refine own_by (fun _ k => XS.goto X600.here hx rfl (pc0 := 25) (pc' := 3) rfl (hb hby d35_25) (by decide) (by decide) (XS.iload X600.here hx rfl (hb hby d35_3) rfl (XS.iloadN X600.here hx rfl (hb hby d35_5) rfl (XS.icmpNo X600.here hx rfl (hb hby d35_6) rfl (tlt (by decide : (3 : Int32) < (4 : Int32))).2.1 (XS.aloadN X600.here hx rfl (hb hby d35_9) rfl rfl (XS.iload X600.here hx rfl (hb hby d35_10) rfl (st602 _ (XS.iloadN X602.here hx rfl (hb hby d35_15) rfl k)))))))) ?_
        show own_Fin _ _ _ _ _ _ _ T602 (mkF m 16 #[Rv v1, Iv ch, Iv 0, Iv 4, Iv 3] [(.int ch), (.int x3)])
        by_cases hc16_603 : x3 = ch
        · show own_Fin _ _ _ _ _ _ _ T602 (mkF m 16 #[Rv v1, Iv ch, Iv 0, Iv 4, Iv 3] [(.int ch), (.int x3)])
          refine own_by (fun _ k => XS.icmpNo X602.here hx rfl (hb hby d35_16) rfl (teq hc16_603).2 (XS.iload X602.here hx rfl (hb hby d35_19) rfl k)) ?_
          exact own_retI X602 hx hlk hret (hb hby d35_21) ⟨own_vi (by show (3 : Int32) = _; first | (simp only [own_find, if_neg V_env.2.2.2.2.1, if_neg hq.1, if_neg hq.2.1, if_pos hq.2.2, if_neg hc16_597, if_neg hc16_599, if_neg hc16_601, if_pos hc16_603]; done) | (simp only [own_find, if_neg V_env.2.2.2.2.1, if_neg hq.1, if_neg hq.2.1, if_pos hq.2.2, if_neg hc16_597, if_neg hc16_599, if_neg hc16_601, if_pos hc16_603]; decide) | simp [own_find, V_env.2.2.2.2.1, hq.1, hq.2.1, hq.2.2, hc16_597, hc16_599, hc16_601, hc16_603]), N602, eh602⟩ (by decide) (by decide)
        · show own_Fin _ _ _ _ _ _ _ T602 (mkF m 16 #[Rv v1, Iv ch, Iv 0, Iv 4, Iv 3] [(.int ch), (.int x3)])
          refine own_by (fun _ k => XS.icmpYes X602.here hx rfl (pc0 := 16) (pc' := 22) rfl (hb hby d35_16) rfl (feq hc16_603).2 (by decide) (by decide) (XS.iinc X602.here hx rfl (hb hby d35_22) rfl (l' := #[Rv v1, Iv ch, Iv 0, Iv 4, Iv ((3 : Int32) + (1 : Int32))]) rfl k)) ?_
          show own_Fin _ _ _ _ _ _ _ T602 (mkF m 25 #[Rv v1, Iv ch, Iv 0, Iv 4, Iv ((3 : Int32) + (1 : Int32))] [])
          rw [(by decide : ((3 : Int32) + (1 : Int32)) = (4 : Int32))]
          show own_Fin _ _ _ _ _ _ _ T602 (mkF m 25 #[Rv v1, Iv ch, Iv 0, Iv 4, Iv 4] [])
          refine own_by (fun _ k => XS.goto X602.here hx rfl (pc0 := 25) (pc' := 3) rfl (hb hby d35_25) (by decide) (by decide) (XS.iload X602.here hx rfl (hb hby d35_3) rfl (XS.iloadN X602.here hx rfl (hb hby d35_5) rfl (XS.icmpYes X602.here hx rfl (pc0 := 6) (pc' := 28) rfl (hb hby d35_6) rfl (flt (by decide : ¬ ((4 : Int32) < (4 : Int32)))).2.1 (by decide) (by decide) (XS.iconst X602.here hx rfl (hb hby d35_28) k))))) ?_
          exact own_retI X602 hx hlk hret (hb hby d35_29) ⟨own_vi (by show (-1 : Int32) = _; first | (simp only [own_find, if_neg V_env.2.2.2.2.1, if_neg hq.1, if_neg hq.2.1, if_pos hq.2.2, if_neg hc16_597, if_neg hc16_599, if_neg hc16_601, if_neg hc16_603]; done) | (simp only [own_find, if_neg V_env.2.2.2.2.1, if_neg hq.1, if_neg hq.2.1, if_pos hq.2.2, if_neg hc16_597, if_neg hc16_599, if_neg hc16_601, if_neg hc16_603]; decide) | simp [own_find, V_env.2.2.2.2.1, hq.1, hq.2.1, hq.2.2, hc16_597, hc16_599, hc16_601, hc16_603]), N602, eh602⟩ (by decide) (by decide)
def own_QrmIc4U (ch : Int32) (x0 x1 x2 x3 : Int32) (h0 : Heap) (n0 : Nat) (v : Option Value) (h : Heap) (L : List Loc) : Prop := v = some (.int (own_find ch [x0, x1, x2, x3] (0 : Int32))) ∧ Fr n0 L ∧ h = h0
theorem rmIc4U (l : Launch) (Z : State) (a0 : Array Value) (hw : own_W a0 Z) (ws : List Jvm.Cond) (cs : Int32) (gS : Value) (v1 : Addr) (k1 : ClassId) (ch : Int32) (x0 x1 x2 x3 : Int32) (h0 : Heap) (n0 : Nat) (Z0 : n0 ≤ h0.size) (V_env : own_Env Z cs gS) (Od : Old Z n0 h0) (V1 : Arv Z h0 v1 k1 .byte (8 : Int32) [(.int (own_lo x0)), (.int (own_hi x0)), (.int (own_lo x1)), (.int (own_hi x1)), (.int (own_lo x2)), (.int (own_hi x2)), (.int (own_lo x3)), (.int (own_hi x3))] (.int (0 : Int32))) (hq : own_cq ch) (hx0 : own_ch x0) (hx1 : own_ch x1) (hx2 : own_ch x2) (hx3 : own_ch x3) : own_Met l Z mn33 jdk_52_method_47_code 4 (some .int) ws (own_R 3 0 0 43) #[(.ref v1), (.int ch), (.int (0 : Int32)), (.int (4 : Int32))] h0 (own_QrmIc4U ch x0 x1 x2 x3 h0 n0) := by
  refine own_enter n0 (plainFor_of_name own_pn58) (fun m => ef_RIII_4 m v1 ch (0 : Int32) (4 : Int32) ) (fun p e s m below meth c s₁ hx hby hlk hml hret hown hnm hZ X0 e0 N0 => ?_)
  show own_Fin _ _ _ _ _ _ _ s₁ (mkF m 0 #[Rv v1, Iv ch, Iv 0, Iv 4] [])
  obtain ⟨_, _, ⟨T604, L604, k604, n604⟩, -, X604, ⟨Lc604, hQ604, l604, y604, z604⟩, st604⟩ := LawKit.callS X0 hx (y := mn31) hown (own_m hZ hw 129) (own_m hZ hw 130) (own_m hZ hw 74) (own_m hZ hw 131) (by decide) (backOf (W := 0) (rmCu4 l Z a0 hw [] cs gS v1 k1 [(.int (own_lo x0)), (.int (own_hi x0)), (.int (own_lo x1)), (.int (own_hi x1)), (.int (own_lo x2)), (.int (own_hi x2)), (.int (own_lo x3)), (.int (own_hi x3))] h0 n0 Z0 V_env Od V1) hZ (own_g hw 131) (own_g hw 74) (by decide) (by decide)) (g := (mkF m 3 #[Rv v1, Iv ch, Iv 0, Iv 4] [(.ref v1), (.int 4), (.int 0)])) rfl (by rw [hml]; rfl) (argsL := [(.int (0 : Int32)), (.int (4 : Int32)), (.ref v1)]) (rest := []) (lenOf own_pd462 rfl) rfl (own_z rfl) (hb hby d30_3) (fun _ _ => ⟨rfl, e0, (by decide : 0 + 0 ≤ _), (by decide : 0 + 0 ≤ _)⟩)
  dsimp only [Pt.U, Pt.locs, Pt.cells, Pt.slots] at X604 l604 y604 z604 st604 hQ604
  subst l604 y604 z604
  obtain ⟨rfl, Nq604, eh604⟩ := hQ604
  have N604 := Fr.app N0 Nq604
  obtain ⟨_, _, ⟨T605, L605, k605, n605⟩, -, X605, ⟨Lc605, hQ605, l605, y605, z605⟩, st605⟩ := LawKit.callS X604 hx (y := mn32) hown (own_m hZ hw 143) (own_m hZ hw 144) (own_m hZ hw 74) (own_m hZ hw 145) (by decide) (backOf (W := 0) (rmIn4U l Z a0 hw [] cs gS v1 k1 ch x0 x1 x2 x3 h0 n0 Z0 V_env Od V1 hq hx0 hx1 hx2 hx3) hZ (own_g hw 145) (own_g hw 74) (by decide) (by decide)) (g := (mkF m 10 #[Rv v1, Iv ch, Iv 0, Iv 4] [(.int 4), (.int 0), (.int ch), (.ref v1)])) rfl (by rw [hml]; rfl) (argsL := [(.ref v1), (.int ch), (.int (0 : Int32)), (.int (4 : Int32))]) (rest := []) (lenOf own_pd359 rfl) rfl (own_z rfl) (hb hby d30_10) (fun _ _ => ⟨rfl, eh604, (by decide : 0 + 0 ≤ _), (by decide : 0 + 0 ≤ _)⟩)
  dsimp only [Pt.U, Pt.locs, Pt.cells, Pt.slots] at X605 l605 y605 z605 st605 hQ605
  subst l605 y605 z605
  obtain ⟨rfl, Nq605, eh605⟩ := hQ605
  have N605 := Fr.app N604 Nq605
  refine own_by (fun _ k => XS.iloadN X0.here hx rfl (hb hby d30_0) rfl (XS.iloadN X0.here hx rfl (hb hby d30_1) rfl (XS.aloadN X0.here hx rfl (hb hby d30_2) rfl rfl (st604 _ (XS.aloadN X604.here hx rfl (hb hby d30_6) rfl rfl (XS.iloadN X604.here hx rfl (hb hby d30_7) rfl (XS.iloadN X604.here hx rfl (hb hby d30_8) rfl (XS.iloadN X604.here hx rfl (hb hby d30_9) rfl (st605 _ k))))))))) ?_
  exact own_retI X605 hx hlk hret (hb hby d30_13) ⟨rfl, N605, eh605⟩ (by decide) (by decide)
def own_QrmIo4U (ch : Int32) (x0 x1 x2 x3 : Int32) (h0 : Heap) (n0 : Nat) (v : Option Value) (h : Heap) (L : List Loc) : Prop := v = some (.int (own_find ch [x0, x1, x2, x3] (0 : Int32))) ∧ Fr n0 L ∧ h = h0
set_option maxRecDepth 65536 in
set_option maxHeartbeats 40000000 in
theorem rmIo4U (l : Launch) (Z : State) (a0 : Array Value) (hw : own_W a0 Z) (ws : List Jvm.Cond) (cs : Int32) (gS : Value) (v1 : Addr) (k1 : ClassId) (ch : Int32) (x0 x1 x2 x3 : Int32) (h0 : Heap) (n0 : Nat) (Z0 : n0 ≤ h0.size) (V_env : own_Env Z cs gS) (Od : Old Z n0 h0) (V1 : Arv Z h0 v1 k1 .byte (8 : Int32) [(.int (own_lo x0)), (.int (own_hi x0)), (.int (own_lo x1)), (.int (own_hi x1)), (.int (own_lo x2)), (.int (own_hi x2)), (.int (own_lo x3)), (.int (own_hi x3))] (.int (0 : Int32))) (hq : own_cq ch) (hx0 : own_ch x0) (hx1 : own_ch x1) (hx2 : own_ch x2) (hx3 : own_ch x3) : own_Met l Z mn34 jdk_52_method_40_code 4 (some .int) ws (own_R 4 0 0 58) #[(.ref v1), (.int ch), (.int (0 : Int32)), (.int (4 : Int32))] h0 (own_QrmIo4U ch x0 x1 x2 x3 h0 n0) := by
  refine own_enter n0 (plainFor_of_name own_pn58) (fun m => ef_RIII_4 m v1 ch (0 : Int32) (4 : Int32) ) (fun p e s m below meth c s₁ hx hby hlk hml hret hown hnm hZ X0 e0 N0 => ?_)
  show own_Fin _ _ _ _ _ _ _ s₁ (mkF m 0 #[Rv v1, Iv ch, Iv 0, Iv 4] [])
  obtain ⟨_, _, ⟨T606, L606, k606, n606⟩, -, X606, ⟨Lc606, hQ606, l606, y606, z606⟩, st606⟩ := LawKit.callS X0 hx (y := mn20) hown (own_m hZ hw 123) (own_m hZ hw 66) (own_m hZ hw 67) (own_m hZ hw 68) (by decide) (backOf (W := 0) (rmmax_0_0 l Z a0 hw []  h0 n0 Z0 ) hZ (own_g hw 68) (own_g hw 67) (by decide) (by decide)) (g := (mkF m 2 #[Rv v1, Iv ch, Iv 0, Iv 4] [(.int 0), (.int 0)])) rfl (by rw [hml]; rfl) (argsL := [(.int (0 : Int32)), (.int (0 : Int32))]) (rest := []) (lenOf own_pd327 rfl) rfl (own_z rfl) (hb hby d29_2) (fun _ _ => ⟨rfl, e0, (by decide : 0 + 0 ≤ _), (by decide : 0 + 0 ≤ _)⟩)
  dsimp only [Pt.U, Pt.locs, Pt.cells, Pt.slots] at X606 l606 y606 z606 st606 hQ606
  subst l606 y606 z606
  obtain ⟨rfl, Nq606, eh606⟩ := hQ606
  have N606 := Fr.app N0 Nq606
  obtain ⟨cl607, Ar607, -, S607, M607, -, -⟩ := id V1
  refine own_by (fun _ k => XS.iloadN X0.here hx rfl (hb hby d29_0) rfl (XS.iconst X0.here hx rfl (hb hby d29_1) (st606 _ (XS.istoreN X606.here hx rfl (hb hby d29_5) rfl (l' := #[Rv v1, Iv ch, Iv 0, Iv 4]) rfl (XS.iloadN X606.here hx rfl (hb hby d29_6) rfl (XS.aloadN X606.here hx rfl (hb hby d29_7) rfl rfl (X606.arraylength hx (by rw [eh606]; exact Ar607.1) (State.isArrayOf_alike hZ.alike Ar607.2.1) (g := (mkF m 8 #[Rv v1, Iv ch, Iv 0, Iv 4] [(.ref v1), (.int 4)])) rfl rfl (hb hby d29_8) _ k))))))) ?_
  rw [len_of S607 M607]
  show own_Fin _ _ _ _ _ _ _ T606 (mkF m 9 #[Rv v1, Iv ch, Iv 0, Iv 4] [(.int 8), (.int 4)])
  refine own_by (fun _ k => XS.iconst X606.here hx rfl (hb hby d29_9) (XS.ishr X606.here hx rfl (hb hby d29_10) rfl k)) ?_
  show own_Fin _ _ _ _ _ _ _ T606 (mkF m 11 #[Rv v1, Iv ch, Iv 0, Iv 4] [(.int ((8 : Int32) >>> ((1 : Int32) &&& 31))), (.int 4)])
  rw [(by decide : ((8 : Int32) >>> ((1 : Int32) &&& 31)) = (4 : Int32))]
  show own_Fin _ _ _ _ _ _ _ T606 (mkF m 11 #[Rv v1, Iv ch, Iv 0, Iv 4] [(.int 4), (.int 4)])
  obtain ⟨_, _, ⟨T608, L608, k608, n608⟩, -, X608, ⟨Lc608, hQ608, l608, y608, z608⟩, st608⟩ := LawKit.callS X606 hx (y := mn21) hown (own_m hZ hw 124) (own_m hZ hw 70) (own_m hZ hw 67) (own_m hZ hw 71) (by decide) (backOf (W := 0) (rmmin_4_4 l Z a0 hw []  h0 n0 Z0 ) hZ (own_g hw 71) (own_g hw 67) (by decide) (by decide)) (g := (mkF m 11 #[Rv v1, Iv ch, Iv 0, Iv 4] [(.int 4), (.int 4)])) rfl (by rw [hml]; rfl) (argsL := [(.int (4 : Int32)), (.int (4 : Int32))]) (rest := []) (lenOf own_pd327 rfl) rfl (own_z rfl) (hb hby d29_11) (fun _ _ => ⟨rfl, eh606, (by decide : 0 + 0 ≤ _), (by decide : 0 + 0 ≤ _)⟩)
  dsimp only [Pt.U, Pt.locs, Pt.cells, Pt.slots] at X608 l608 y608 z608 st608 hQ608
  subst l608 y608 z608
  obtain ⟨rfl, Nq608, eh608⟩ := hQ608
  have N608 := Fr.app N606 Nq608
  refine own_by (fun _ k => st608 _ (XS.istoreN X608.here hx rfl (hb hby d29_14) rfl (l' := #[Rv v1, Iv ch, Iv 0, Iv 4]) rfl (XS.iloadN X608.here hx rfl (hb hby d29_15) rfl (XS.iloadN X608.here hx rfl (hb hby d29_16) rfl (XS.icmpYes X608.here hx rfl (pc0 := 17) (pc' := 22) rfl (hb hby d29_17) rfl (tlt (by decide : (0 : Int32) < (4 : Int32))).1 (by decide) (by decide) (XS.iloadN X608.here hx rfl (hb hby d29_22) rfl (X608.ldcInt hx hown (own_m hZ hw 125) (g := (mkF m 23 #[Rv v1, Iv ch, Iv 0, Iv 4] [(.int ch)])) rfl (hb hby d29_23) _ (XS.icmpNo X608.here hx rfl (hb hby d29_25) rfl (tlt hq.2.2).2.1 (XS.aloadN X608.here hx rfl (hb hby d29_28) rfl rfl (XS.iloadN X608.here hx rfl (hb hby d29_29) rfl k)))))))))) ?_
  show own_Fin _ _ _ _ _ _ _ T608 (mkF m 30 #[Rv v1, Iv ch, Iv 0, Iv 4] [(.int ch), (.ref v1)])
  obtain ⟨_, _, ⟨T609, L609, k609, n609⟩, -, X609, ⟨Lc609, hQ609, l609, y609, z609⟩, st609⟩ := LawKit.callS X608 hx (y := mn33) hown (own_m hZ hw 126) (own_m hZ hw 127) (own_m hZ hw 74) (own_m hZ hw 128) (by decide) (backOf (W := 0) (rmIc4U l Z a0 hw [] cs gS v1 k1 ch x0 x1 x2 x3 h0 n0 Z0 V_env Od V1 hq hx0 hx1 hx2 hx3) hZ (own_g hw 128) (own_g hw 74) (by decide) (by decide)) (g := (mkF m 32 #[Rv v1, Iv ch, Iv 0, Iv 4] [(.int 4), (.int 0), (.int ch), (.ref v1)])) rfl (by rw [hml]; rfl) (argsL := [(.ref v1), (.int ch), (.int (0 : Int32)), (.int (4 : Int32))]) (rest := []) (lenOf own_pd359 rfl) rfl (own_z rfl) (hb hby d29_32) (fun _ _ => ⟨rfl, eh608, (by decide : 0 + 0 ≤ _), (by decide : 0 + 0 ≤ _)⟩)
  dsimp only [Pt.U, Pt.locs, Pt.cells, Pt.slots] at X609 l609 y609 z609 st609 hQ609
  subst l609 y609 z609
  obtain ⟨rfl, Nq609, eh609⟩ := hQ609
  have N609 := Fr.app N608 Nq609
  refine own_by (fun _ k => XS.iloadN X608.here hx rfl (hb hby d29_30) rfl (XS.iloadN X608.here hx rfl (hb hby d29_31) rfl (st609 _ k))) ?_
  exact own_retI X609 hx hlk hret (hb hby d29_35) ⟨rfl, N609, eh609⟩ (by decide) (by decide)
def own_QrmSl4_U (h0 : Heap) (n0 : Nat) (v : Option Value) (h : Heap) (L : List Loc) : Prop := v = some (.int (4 : Int32)) ∧ Fr n0 L ∧ h = h0
theorem rmSl4_U (l : Launch) (Z : State) (a0 : Array Value) (hw : own_W a0 Z) (ws : List Jvm.Cond) (cs : Int32) (gS : Value) (a1 v1 : Addr) (k1 : ClassId) (vs : List Value) (h0 : Heap) (n0 : Nat) (Z0 : n0 ≤ h0.size) (V_env : own_Env Z cs gS) (Od : Old Z n0 h0) (E_a1 : Exa Z h0 a1 "java/lang/String") (F1 : Fld Z h0 a1 "java/lang/String" "value" "[B" (.ref v1)) (F2 : Fld Z h0 a1 "java/lang/String" "coder" "B" (.int (1 : Int32))) (V1 : Arv Z h0 v1 k1 .byte (8 : Int32) vs (.int (0 : Int32))) : own_Met l Z mn23 jdk_42_method_54_code 1 (some .int) ws (own_R 1 0 0 13) #[(.ref a1)] h0 (own_QrmSl4_U h0 n0) := by
  refine own_enter n0 (plainFor_of_name own_pn34) (fun m => ef_R_1 m a1 ) (fun p e s m below meth c s₁ hx hby hlk hml hret hown hnm hZ X0 e0 N0 => ?_)
  show own_Fin _ _ _ _ _ _ _ s₁ (mkF m 0 #[Rv a1] [])
  obtain ⟨T610, X610, e610, st610⟩ := getF X0 hx hZ hown (host := "") (Or.inl (own_g hw 26)) Via.refl e0 F1 (g := (mkF m 1 #[Rv a1] [(.ref a1)])) rfl rfl (hb hby d9_1)
  obtain ⟨cl611, Ar611, -, S611, M611, -, -⟩ := id V1
  refine own_by (fun _ k => XS.aloadN X0.here hx rfl (hb hby d9_0) rfl rfl (st610 _ (X610.arraylength hx (by rw [e610]; exact Ar611.1) (State.isArrayOf_alike hZ.alike Ar611.2.1) (g := (mkF m 4 #[Rv a1] [(.ref v1)])) rfl rfl (hb hby d9_4) _ k))) ?_
  rw [len_of S611 M611]
  show own_Fin _ _ _ _ _ _ _ T610 (mkF m 5 #[Rv a1] [(.int 8)])
  obtain ⟨cq612, kq612, q612a, q612b, q612c⟩ := isOf hZ e610 E_a1
  obtain ⟨_, _, ⟨T612, L612, k612, n612⟩, -, X612, ⟨Lc612, hQ612, l612, y612, z612⟩, st612⟩ := X610.virtualBack hx (y := mn18) (z := mn18) hown (own_m hZ hw 53) (own_m hZ hw 54) (notFace_of_selects (args := #[]) (own_m hZ hw 56)) (own_m hZ hw 56) (own_m hZ hw 55) (by decide) (backOf (W := 1) (rmCd1 l Z a0 hw [] cs gS a1 h0 n0 Z0 V_env Od F2) hZ (own_g hw 57) (own_g hw 8) (by decide) (by decide)) q612a q612c (g := (mkF m 6 #[Rv a1] [(.ref a1), (.int 8)])) rfl (by rw [hml]; rfl) (Steps.refl _) (argsL := []) (rest := [(.int (8 : Int32))]) (lenOf own_pd344 rfl) rfl (own_z rfl) (hb hby d9_6) (fun _ _ => ⟨rfl, e610, (by decide : 0 + 0 ≤ _), (by decide : 0 + 0 ≤ _)⟩)
  dsimp only [Pt.U, Pt.locs, Pt.cells, Pt.slots] at X612 l612 y612 z612 st612 hQ612
  subst l612 y612 z612
  obtain ⟨rfl, Nq612, eh612⟩ := hQ612
  have N612 := Fr.app N0 Nq612
  refine own_by (fun _ k => XS.aloadN X610.here hx rfl (hb hby d9_5) rfl rfl (st612.trans (XS.ishr X612.here hx rfl (hb hby d9_9) rfl k))) ?_
  show own_Fin _ _ _ _ _ _ _ T612 (mkF m 10 #[Rv a1] [(.int ((8 : Int32) >>> ((1 : Int32) &&& 31)))])
  rw [(by decide : ((8 : Int32) >>> ((1 : Int32) &&& 31)) = (4 : Int32))]
  show own_Fin _ _ _ _ _ _ _ T612 (mkF m 10 #[Rv a1] [(.int 4)])
  exact own_retI X612 hx hlk hret (hb hby d9_10) ⟨rfl, N612, eh612⟩ (by decide) (by decide)
def own_QrmI24U (ch : Int32) (x0 x1 x2 x3 : Int32) (h0 : Heap) (n0 : Nat) (v : Option Value) (h : Heap) (L : List Loc) : Prop := v = some (.int (own_find ch [x0, x1, x2, x3] (0 : Int32))) ∧ Fr n0 L ∧ h = h0
set_option maxRecDepth 65536 in
set_option maxHeartbeats 40000000 in
theorem rmI24U (l : Launch) (Z : State) (a0 : Array Value) (hw : own_W a0 Z) (ws : List Jvm.Cond) (cs : Int32) (gS : Value) (a1 : Addr) (v1 : Addr) (k1 : ClassId) (ch : Int32) (x0 x1 x2 x3 : Int32) (h0 : Heap) (n0 : Nat) (Z0 : n0 ≤ h0.size) (V_env : own_Env Z cs gS) (Od : Old Z n0 h0) (E_a1 : Exa Z h0 a1 "java/lang/String") (F1 : Fld Z h0 a1 "java/lang/String" "value" "[B" (.ref v1)) (F2 : Fld Z h0 a1 "java/lang/String" "coder" "B" (.int (1 : Int32))) (V1 : Arv Z h0 v1 k1 .byte (8 : Int32) [(.int (own_lo x0)), (.int (own_hi x0)), (.int (own_lo x1)), (.int (own_hi x1)), (.int (own_lo x2)), (.int (own_hi x2)), (.int (own_lo x3)), (.int (own_hi x3))] (.int (0 : Int32))) (hq : own_cq ch) (hx0 : own_ch x0) (hx1 : own_ch x1) (hx2 : own_ch x2) (hx3 : own_ch x3) : own_Met l Z mn24 jdk_42_method_80_code 3 (some .int) ws (own_R 5 0 0 73) #[(.ref a1), (.int ch), (.int (0 : Int32))] h0 (own_QrmI24U ch x0 x1 x2 x3 h0 n0) := by
  refine own_enter n0 (plainFor_of_name own_pn34) (fun m => ef_RII_3 m a1 ch (0 : Int32) ) (fun p e s m below meth c s₁ hx hby hlk hml hret hown hnm hZ X0 e0 N0 => ?_)
  show own_Fin _ _ _ _ _ _ _ s₁ (mkF m 0 #[Rv a1, Iv ch, Iv 0] [])
  obtain ⟨cq613, kq613, q613a, q613b, q613c⟩ := isOf hZ e0 E_a1
  obtain ⟨_, _, ⟨T613, L613, k613, n613⟩, -, X613, ⟨Lc613, hQ613, l613, y613, z613⟩, st613⟩ := X0.virtualBack hx (y := mn17) (z := mn17) hown (own_m hZ hw 42) (own_m hZ hw 43) (notFace_of_selects (args := #[]) (own_m hZ hw 45)) (own_m hZ hw 45) (own_m hZ hw 44) (by decide) (backOf (W := 0) (rmIs1 l Z a0 hw [] cs gS a1 h0 n0 Z0 V_env Od F2) hZ (own_g hw 46) (own_g hw 8) (by decide) (by decide)) q613a q613c (g := (mkF m 1 #[Rv a1, Iv ch, Iv 0] [(.ref a1)])) rfl (by rw [hml]; rfl) (Steps.refl _) (argsL := []) (rest := []) (lenOf own_pd349 rfl) rfl (own_z rfl) (hb hby d7_1) (fun _ _ => ⟨rfl, e0, (by decide : 0 + 0 ≤ _), (by decide : 0 + 0 ≤ _)⟩)
  dsimp only [Pt.U, Pt.locs, Pt.cells, Pt.slots] at X613 l613 y613 z613 st613 hQ613
  subst l613 y613 z613
  obtain ⟨rfl, Nq613, eh613⟩ := hQ613
  have N613 := Fr.app N0 Nq613
  obtain ⟨T614, X614, e614, st614⟩ := getF X613 hx hZ hown (host := "") (Or.inl (own_g hw 26)) Via.refl eh613 F1 (g := (mkF m 24 #[Rv a1, Iv ch, Iv 0] [(.ref a1)])) rfl rfl (hb hby d7_24)
  obtain ⟨cq615, kq615, q615a, q615b, q615c⟩ := isOf hZ e614 E_a1
  obtain ⟨_, _, ⟨T615, L615, k615, n615⟩, -, X615, ⟨Lc615, hQ615, l615, y615, z615⟩, st615⟩ := X614.virtualBack hx (y := mn23) (z := mn23) hown (own_m hZ hw 48) (own_m hZ hw 49) (notFace_of_selects (args := #[]) (own_m hZ hw 51)) (own_m hZ hw 51) (own_m hZ hw 50) (by decide) (backOf (W := 3) (rmSl4_U l Z a0 hw [] cs gS a1 v1 k1 [(.int (own_lo x0)), (.int (own_hi x0)), (.int (own_lo x1)), (.int (own_hi x1)), (.int (own_lo x2)), (.int (own_hi x2)), (.int (own_lo x3)), (.int (own_hi x3))] h0 n0 Z0 V_env Od E_a1 F1 F2 V1) hZ (own_g hw 52) (own_g hw 8) (by decide) (by decide)) q615a q615c (g := (mkF m 30 #[Rv a1, Iv ch, Iv 0] [(.ref a1), (.int 0), (.int ch), (.ref v1)])) rfl (by rw [hml]; rfl) (Steps.refl _) (argsL := []) (rest := [(.int (0 : Int32)), (.int ch), (.ref v1)]) (lenOf own_pd357 rfl) rfl (own_z rfl) (hb hby d7_30) (fun _ _ => ⟨rfl, e614, (by decide : 0 + 0 ≤ _), (by decide : 0 + 0 ≤ _)⟩)
  dsimp only [Pt.U, Pt.locs, Pt.cells, Pt.slots] at X615 l615 y615 z615 st615 hQ615
  subst l615 y615 z615
  obtain ⟨rfl, Nq615, eh615⟩ := hQ615
  have N615 := Fr.app N613 Nq615
  obtain ⟨_, _, ⟨T616, L616, k616, n616⟩, -, X616, ⟨Lc616, hQ616, l616, y616, z616⟩, st616⟩ := LawKit.callS X615 hx (y := mn34) hown (own_m hZ hw 120) (own_m hZ hw 121) (own_m hZ hw 74) (own_m hZ hw 122) (by decide) (backOf (W := 0) (rmIo4U l Z a0 hw [] cs gS v1 k1 ch x0 x1 x2 x3 h0 n0 Z0 V_env Od V1 hq hx0 hx1 hx2 hx3) hZ (own_g hw 122) (own_g hw 74) (by decide) (by decide)) (g := (mkF m 33 #[Rv a1, Iv ch, Iv 0] [(.int 4), (.int 0), (.int ch), (.ref v1)])) rfl (by rw [hml]; rfl) (argsL := [(.ref v1), (.int ch), (.int (0 : Int32)), (.int (4 : Int32))]) (rest := []) (lenOf own_pd359 rfl) rfl (own_z rfl) (hb hby d7_33) (fun _ _ => ⟨rfl, eh615, (by decide : 0 + 0 ≤ _), (by decide : 0 + 0 ≤ _)⟩)
  dsimp only [Pt.U, Pt.locs, Pt.cells, Pt.slots] at X616 l616 y616 z616 st616 hQ616
  subst l616 y616 z616
  obtain ⟨rfl, Nq616, eh616⟩ := hQ616
  have N616 := Fr.app N615 Nq616
  refine own_by (fun _ k => XS.aloadN X0.here hx rfl (hb hby d7_0) rfl rfl (st613.trans (XS.ifYes X613.here hx rfl (pc0 := 4) (pc' := 23) rfl (hb hby d7_4) rfl ((if0 _ _).trans (teq (by decide : (0 : Int32) = (0 : Int32))).1) (by decide) (by decide) (XS.aloadN X613.here hx rfl (hb hby d7_23) rfl rfl (st614 _ (XS.iloadN X614.here hx rfl (hb hby d7_27) rfl (XS.iloadN X614.here hx rfl (hb hby d7_28) rfl (XS.aloadN X614.here hx rfl (hb hby d7_29) rfl rfl (st615.trans (st616 _ k)))))))))) ?_
  exact own_retI X616 hx hlk hret (hb hby d7_36) ⟨rfl, N616, eh616⟩ (by decide) (by decide)
def own_QrmIx4U (ch : Int32) (x0 x1 x2 x3 : Int32) (h0 : Heap) (n0 : Nat) (v : Option Value) (h : Heap) (L : List Loc) : Prop := v = some (.int (own_find ch [x0, x1, x2, x3] (0 : Int32))) ∧ Fr n0 L ∧ h = h0
theorem rmIx4U (l : Launch) (Z : State) (a0 : Array Value) (hw : own_W a0 Z) (ws : List Jvm.Cond) (cs : Int32) (gS : Value) (a1 : Addr) (v1 : Addr) (k1 : ClassId) (ch : Int32) (x0 x1 x2 x3 : Int32) (h0 : Heap) (n0 : Nat) (Z0 : n0 ≤ h0.size) (V_env : own_Env Z cs gS) (Od : Old Z n0 h0) (E_a1 : Exa Z h0 a1 "java/lang/String") (F1 : Fld Z h0 a1 "java/lang/String" "value" "[B" (.ref v1)) (F2 : Fld Z h0 a1 "java/lang/String" "coder" "B" (.int (1 : Int32))) (V1 : Arv Z h0 v1 k1 .byte (8 : Int32) [(.int (own_lo x0)), (.int (own_hi x0)), (.int (own_lo x1)), (.int (own_hi x1)), (.int (own_lo x2)), (.int (own_hi x2)), (.int (own_lo x3)), (.int (own_hi x3))] (.int (0 : Int32))) (hq : own_cq ch) (hx0 : own_ch x0) (hx1 : own_ch x1) (hx2 : own_ch x2) (hx3 : own_ch x3) : own_Met l Z mn25 jdk_42_method_79_code 2 (some .int) ws (own_R 6 0 0 87) #[(.ref a1), (.int ch)] h0 (own_QrmIx4U ch x0 x1 x2 x3 h0 n0) := by
  refine own_enter n0 (plainFor_of_name own_pn34) (fun m => ef_RI_2 m a1 ch ) (fun p e s m below meth c s₁ hx hby hlk hml hret hown hnm hZ X0 e0 N0 => ?_)
  show own_Fin _ _ _ _ _ _ _ s₁ (mkF m 0 #[Rv a1, Iv ch] [])
  obtain ⟨cq617, kq617, q617a, q617b, q617c⟩ := isOf hZ e0 E_a1
  obtain ⟨_, _, ⟨T617, L617, k617, n617⟩, -, X617, ⟨Lc617, hQ617, l617, y617, z617⟩, st617⟩ := X0.virtualBack hx (y := mn24) (z := mn24) hown (own_m hZ hw 37) (own_m hZ hw 38) (notFace_of_selects (args := #[]) (own_m hZ hw 40)) (own_m hZ hw 40) (own_m hZ hw 39) (by decide) (backOf (W := 0) (rmI24U l Z a0 hw [] cs gS a1 v1 k1 ch x0 x1 x2 x3 h0 n0 Z0 V_env Od E_a1 F1 F2 V1 hq hx0 hx1 hx2 hx3) hZ (own_g hw 41) (own_g hw 8) (by decide) (by decide)) q617a q617c (g := (mkF m 3 #[Rv a1, Iv ch] [(.int 0), (.int ch), (.ref a1)])) rfl (by rw [hml]; rfl) (Steps.refl _) (argsL := [(.int ch), (.int (0 : Int32))]) (rest := []) (lenOf own_pd327 rfl) rfl (own_z rfl) (hb hby d6_3) (fun _ _ => ⟨rfl, e0, (by decide : 0 + 0 ≤ _), (by decide : 0 + 0 ≤ _)⟩)
  dsimp only [Pt.U, Pt.locs, Pt.cells, Pt.slots] at X617 l617 y617 z617 st617 hQ617
  subst l617 y617 z617
  obtain ⟨rfl, Nq617, eh617⟩ := hQ617
  have N617 := Fr.app N0 Nq617
  refine own_by (fun _ k => XS.aloadN X0.here hx rfl (hb hby d6_0) rfl rfl (XS.iloadN X0.here hx rfl (hb hby d6_1) rfl (XS.iconst X0.here hx rfl (hb hby d6_2) (st617.trans k)))) ?_
  exact own_retI X617 hx hlk hret (hb hby d6_6) ⟨rfl, N617, eh617⟩ (by decide) (by decide)
def own_QIW4U (x0 x1 x2 x3 : Int32) (h0 : Heap) (n0 : Nat) (v : Option Value) (h : Heap) (L : List Loc) : Prop := v = some (.int (own_iw (own_find (42 : Int32) [x0, x1, x2, x3] (0 : Int32)) (own_find (63 : Int32) [x0, x1, x2, x3] (0 : Int32)))) ∧ Fr n0 L ∧ h = h0
set_option maxRecDepth 65536 in
set_option maxHeartbeats 40000000 in
theorem rmIW4U (l : Launch) (Z : State) (a0 : Array Value) (hw : own_W a0 Z) (ws : List Jvm.Cond) (cs : Int32) (gS : Value) (a1 v1 : Addr) (k1 : ClassId) (x0 x1 x2 x3 : Int32)  (h0 : Heap) (n0 : Nat) (Z0 : n0 ≤ h0.size) (V_env : own_Env Z cs gS) (Od : Old Z n0 h0) (E_a1 : Exa Z h0 a1 "java/lang/String") (F1 : Fld Z h0 a1 "java/lang/String" "value" "[B" (.ref v1)) (F2 : Fld Z h0 a1 "java/lang/String" "coder" "B" (.int (1 : Int32))) (V1 : Arv Z h0 v1 k1 .byte (8 : Int32) [(.int (own_lo x0)), (.int (own_hi x0)), (.int (own_lo x1)), (.int (own_hi x1)), (.int (own_lo x2)), (.int (own_hi x2)), (.int (own_lo x3)), (.int (own_hi x3))] (.int (0 : Int32))) (hx0 : own_ch x0) (hx1 : own_ch x1) (hx2 : own_ch x2) (hx3 : own_ch x3) : own_Met l Z mn26 prog_17_method_3_code 1 (some .boolean) ws (own_R 7 0 0 100) #[(.ref a1)] h0 (own_QIW4U x0 x1 x2 x3 h0 n0) := by
  refine own_enter n0 (plainFor_of_name own_pn367) (fun m => ef_R_1 m a1 ) (fun p e s m below meth c s₁ hx hby hlk hml hret hown hnm hZ X0 e0 N0 => ?_)
  show own_Fin _ _ _ _ _ _ _ s₁ (mkF m 0 #[Rv a1] [])
  obtain ⟨cq618, kq618, q618a, q618b, q618c⟩ := isOf hZ e0 E_a1
  obtain ⟨_, _, ⟨T618, L618, k618, n618⟩, -, X618, ⟨Lc618, hQ618, l618, y618, z618⟩, st618⟩ := X0.virtualBack hx (y := mn25) (z := mn25) hown (own_m hZ hw 32) (own_m hZ hw 33) (notFace_of_selects (args := #[]) (own_m hZ hw 35)) (own_m hZ hw 35) (own_m hZ hw 34) (by decide) (backOf (W := 0) (rmIx4U l Z a0 hw [] cs gS a1 v1 k1 (42 : Int32) x0 x1 x2 x3 h0 n0 Z0 V_env Od E_a1 F1 F2 V1 ⟨by decide, by decide, by decide⟩ hx0 hx1 hx2 hx3) hZ (own_g hw 36) (own_g hw 8) (by decide) (by decide)) q618a q618c (g := (mkF m 3 #[Rv a1] [(.int 42), (.ref a1)])) rfl (by rw [hml]; rfl) (Steps.refl _) (argsL := [(.int (42 : Int32))]) (rest := []) (lenOf own_pd70 rfl) rfl (own_z rfl) (hb hby d5_3) (fun _ _ => ⟨rfl, e0, (by decide : 0 + 0 ≤ _), (by decide : 0 + 0 ≤ _)⟩)
  dsimp only [Pt.U, Pt.locs, Pt.cells, Pt.slots] at X618 l618 y618 z618 st618 hQ618
  subst l618 y618 z618
  obtain ⟨rfl, Nq618, eh618⟩ := hQ618
  have N618 := Fr.app N0 Nq618
  refine own_by (fun _ k => XS.aloadN X0.here hx rfl (hb hby d5_0) rfl rfl (XS.bipush X0.here hx rfl (hb hby d5_1) (st618.trans k))) ?_
  show own_Fin _ _ _ _ _ _ _ T618 (mkF m 6 #[Rv a1] [(.int (own_find (42 : Int32) [x0, x1, x2, x3] (0 : Int32)))])
  by_cases hc6_619 : (own_find (42 : Int32) [x0, x1, x2, x3] (0 : Int32)) < (0 : Int32)
  · show own_Fin _ _ _ _ _ _ _ T618 (mkF m 6 #[Rv a1] [(.int (own_find (42 : Int32) [x0, x1, x2, x3] (0 : Int32)))])
    obtain ⟨cq620, kq620, q620a, q620b, q620c⟩ := isOf hZ eh618 E_a1
    obtain ⟨_, _, ⟨T620, L620, k620, n620⟩, -, X620, ⟨Lc620, hQ620, l620, y620, z620⟩, st620⟩ := X618.virtualBack hx (y := mn25) (z := mn25) hown (own_m hZ hw 32) (own_m hZ hw 33) (notFace_of_selects (args := #[]) (own_m hZ hw 35)) (own_m hZ hw 35) (own_m hZ hw 34) (by decide) (backOf (W := 0) (rmIx4U l Z a0 hw [] cs gS a1 v1 k1 (63 : Int32) x0 x1 x2 x3 h0 n0 Z0 V_env Od E_a1 F1 F2 V1 ⟨by decide, by decide, by decide⟩ hx0 hx1 hx2 hx3) hZ (own_g hw 36) (own_g hw 8) (by decide) (by decide)) q620a q620c (g := (mkF m 12 #[Rv a1] [(.int 63), (.ref a1)])) rfl (by rw [hml]; rfl) (Steps.refl _) (argsL := [(.int (63 : Int32))]) (rest := []) (lenOf own_pd70 rfl) rfl (own_z rfl) (hb hby d5_12) (fun _ _ => ⟨rfl, eh618, (by decide : 0 + 0 ≤ _), (by decide : 0 + 0 ≤ _)⟩)
    dsimp only [Pt.U, Pt.locs, Pt.cells, Pt.slots] at X620 l620 y620 z620 st620 hQ620
    subst l620 y620 z620
    obtain ⟨rfl, Nq620, eh620⟩ := hQ620
    have N620 := Fr.app N618 Nq620
    refine own_by (fun _ k => XS.ifNo X618.here hx rfl (hb hby d5_6) rfl ((if0 _ _).trans (tlt hc6_619).2.1) (XS.aloadN X618.here hx rfl (hb hby d5_9) rfl rfl (XS.bipush X618.here hx rfl (hb hby d5_10) (st620.trans k)))) ?_
    show own_Fin _ _ _ _ _ _ _ T620 (mkF m 15 #[Rv a1] [(.int (own_find (63 : Int32) [x0, x1, x2, x3] (0 : Int32)))])
    by_cases hc15_621 : (own_find (63 : Int32) [x0, x1, x2, x3] (0 : Int32)) < (0 : Int32)
    · show own_Fin _ _ _ _ _ _ _ T620 (mkF m 15 #[Rv a1] [(.int (own_find (63 : Int32) [x0, x1, x2, x3] (0 : Int32)))])
      refine own_by (fun _ k => XS.ifYes X620.here hx rfl (pc0 := 15) (pc' := 22) rfl (hb hby d5_15) rfl ((if0 _ _).trans (tlt hc15_621).1) (by decide) (by decide) (XS.iconst X620.here hx rfl (hb hby d5_22) k)) ?_
      exact own_retZ X620 hx hlk (t := .boolean) hret (by simp) (hb hby d5_23) ⟨own_vi (by show (0 : Int32) = _; first | (simp only [own_iw, if_neg V_env.2.2.2.2.1, if_pos hc6_619, if_pos hc15_621]; done) | (simp only [own_iw, if_neg V_env.2.2.2.2.1, if_pos hc6_619, if_pos hc15_621]; decide) | simp [own_iw, V_env.2.2.2.2.1, hc6_619, hc15_621]), N620, eh620⟩ (by decide) (by decide)
    · show own_Fin _ _ _ _ _ _ _ T620 (mkF m 15 #[Rv a1] [(.int (own_find (63 : Int32) [x0, x1, x2, x3] (0 : Int32)))])
      refine own_by (fun _ k => XS.ifNo X620.here hx rfl (hb hby d5_15) rfl ((if0 _ _).trans (flt hc15_621).1) (XS.iconst X620.here hx rfl (hb hby d5_18) (XS.goto X620.here hx rfl (pc0 := 19) (pc' := 23) rfl (hb hby d5_19) (by decide) (by decide) k))) ?_
      exact own_retZ X620 hx hlk (t := .boolean) hret (by simp) (hb hby d5_23) ⟨own_vi (by show (1 : Int32) = _; first | (simp only [own_iw, if_neg V_env.2.2.2.2.1, if_pos hc6_619, if_neg hc15_621]; done) | (simp only [own_iw, if_neg V_env.2.2.2.2.1, if_pos hc6_619, if_neg hc15_621]; decide) | simp [own_iw, V_env.2.2.2.2.1, hc6_619, hc15_621]), N620, eh620⟩ (by decide) (by decide)
  · show own_Fin _ _ _ _ _ _ _ T618 (mkF m 6 #[Rv a1] [(.int (own_find (42 : Int32) [x0, x1, x2, x3] (0 : Int32)))])
    refine own_by (fun _ k => XS.ifYes X618.here hx rfl (pc0 := 6) (pc' := 18) rfl (hb hby d5_6) rfl ((if0 _ _).trans (flt hc6_619).2.1) (by decide) (by decide) (XS.iconst X618.here hx rfl (hb hby d5_18) (XS.goto X618.here hx rfl (pc0 := 19) (pc' := 23) rfl (hb hby d5_19) (by decide) (by decide) k))) ?_
    exact own_retZ X618 hx hlk (t := .boolean) hret (by simp) (hb hby d5_23) ⟨own_vi (by show (1 : Int32) = _; first | (simp only [own_iw, if_neg V_env.2.2.2.2.1, if_neg hc6_619]; done) | (simp only [own_iw, if_neg V_env.2.2.2.2.1, if_neg hc6_619]; decide) | simp [own_iw, V_env.2.2.2.2.1, hc6_619]), N618, eh618⟩ (by decide) (by decide)
theorem own_pd500 : parseMethodDescriptor "(I)C" = some ⟨[.int], some .char⟩ := by decide +kernel
theorem own_pd501 : parseMethodDescriptor "([C)V" = some ⟨[(.array .char)], none⟩ := by decide +kernel
theorem own_pd502 : parseMethodDescriptor "(Ljava/lang/String;)Z" = some ⟨[(.object "java/lang/String")], some .boolean⟩ := by decide +kernel
theorem own_pd503 : parseMethodDescriptor "(C)Ljava/lang/String;" = some ⟨[.char], some (.object "java/lang/String")⟩ := by decide +kernel
theorem ef_IIIII_12l (m : MethodId) (x0 : Int32) (x1 : Int32) (x2 : Int32) (x3 : Int32) (x4 : Int32) : entryFrame m #[(.int x0), (.int x1), (.int x2), (.int x3), (.int x4)] maxLocals = mkF m 0 #[.val (.int x0), .val (.int x1), .val (.int x2), .val (.int x3), .val (.int x4), .unset, .unset, .unset, .unset, .unset, .unset, .unset] [] := by first | (simp [entryFrame, mkF, argsToLocals, Value.category, maxLocals]; done) | rfl
def own_Q0 (n0 : Nat) (v : Option Value) (h : Heap) (L : List Loc) : Prop := v = some (.int (1 : Int32)) ∧ Fr n0 L
set_option maxRecDepth 65536 in
set_option maxHeartbeats 40000000 in
theorem rm0 (l : Launch) (Z : State) (a0 : Array Value) (hw : own_W a0 Z) (ws : List Jvm.Cond) (p1 p2 p3 p4 p5 : Int32) (cs : Int32) (gS : Value) (h0 : Heap) (n0 : Nat) (Z0 : n0 ≤ h0.size) (V_env : own_Env Z cs gS) (Od : Old Z n0 h0) :
    MetFree l x (head1 (Jvm.Cond.code x code maxLocals ret :: ws) room_1) (fun a U => a = #[(.int p1), (.int p2), (.int p3), (.int p4), (.int p5)] ∧ Z.Warmed39 U.vm ∧ U.heap = h0 ∧ CHv Z consts_1 U.vm h0) (fun _ _ _ _ _ => True) (fun _ U o U' => ∃ v L, o = .returned v ∧ own_Q0 n0 v U'.heap L ∧ CHr Z consts_1 U.vm U.heap U'.vm U'.heap ∧ ReturnedEndW U o U' L room_1.cells room_1.slots) := by
  refine MetFree.of_bodySF (plainFor_of_name own_pn1) hisR ?_
  intro p e s m args below meth c s₁ Bd hml0 hP hK
  obtain ⟨rfl, hZ, hh, hCH0⟩ := hP
  have hx := Bd.exec
  have hby := Bd.bytes
  have hlk := Bd.notSynchronized
  have hml : c.maxLocals = 12 := hml0
  have hown : s.vm.findClass "com/example/trustee/trustee/PartPatternIsWildPinLaw" = some m.cls := findClass_of_methodNamed Bd.named
  have hnm := (name_of_methodNamed Bd.named Bd.method).1
  have X0 : Stand p l e room_1 (s.setVm s.vm) m #[(.int p1), (.int p2), (.int p3), (.int p4), (.int p5)] below meth c s₁ [] 0 0 := Stand.of_body Bd
  have e0 : s₁.heap = h0 := by rw [← hh, Bd.state]; rfl
  have N0 := Fr.nil n0
  refine own_startH (Q := own_Q0 n0) (C := room_1.cells) (N := room_1.slots) hh (ef_IIIII_12l m p1 p2 p3 p4 p5 ) ?_
  have hS0 : s.Since s.vm h0.size := (State.WarmedH.refl s).since _
  have hk0 : h0.size ≤ h0.size := Nat.le_refl _
  replace hown : (s.setVm s.vm).vm.findClass "com/example/trustee/trustee/PartPatternIsWildPinLaw" = some m.cls := hown
  replace hZ : Z.Warmed39 (s.setVm s.vm).vm := hZ
  have CH0 : CHr Z consts_1 s.vm h0 s.vm h0 := CHr.refl hCH0
  show own_FinH _ _ _ _ _ _ _ _ _ _ s₁ (mkF m 0 #[Iv p1, Iv p2, Iv p3, Iv p4, Iv p5, Uv, Uv, Uv, Uv, Uv, Uv, Uv] [])
  obtain ⟨_, _, ⟨T622, L622, k622, n622⟩, -, X622, ⟨Lc622, hQ622, l622, y622, z622⟩, st622⟩ := LawKit.callS X0 hx (y := mn0) hown (own_m hZ hw 0) (own_m hZ hw 1) (own_m hZ hw 2) (own_m hZ hw 3) (by decide) (backOf (W := 0) (rmDr l Z a0 hw [] p1 h0 n0 Z0) hZ (own_g hw 3) (own_g hw 2) (by decide) (by decide)) (g := (mkF m 1 #[Iv p1, Iv p2, Iv p3, Iv p4, Iv p5, Uv, Uv, Uv, Uv, Uv, Uv, Uv] [(.int p1)])) rfl (by rw [hml]; rfl) (argsL := [(.int p1)]) (rest := []) (lenOf own_pd500 rfl) rfl (own_z rfl) (hb hby at_1) (fun _ _ => ⟨rfl, e0, (by decide : 0 + 0 ≤ _), (by decide : 0 + 0 ≤ _)⟩)
  dsimp only [Pt.U, Pt.locs, Pt.cells, Pt.slots] at X622 l622 y622 z622 st622 hQ622
  subst l622 y622 z622
  obtain ⟨y622, rfl, Nq622, hy622, eh622⟩ := hQ622
  have N622 := Fr.app N0 Nq622
  obtain ⟨_, _, ⟨T623, L623, k623, n623⟩, -, X623, ⟨Lc623, hQ623, l623, y623, z623⟩, st623⟩ := LawKit.callS X622 hx (y := mn0) hown (own_m hZ hw 0) (own_m hZ hw 1) (own_m hZ hw 2) (own_m hZ hw 3) (by decide) (backOf (W := 0) (rmDr l Z a0 hw [] p2 h0 n0 Z0) hZ (own_g hw 3) (own_g hw 2) (by decide) (by decide)) (g := (mkF m 7 #[Iv p1, Iv p2, Iv p3, Iv p4, Iv p5, Iv y622, Uv, Uv, Uv, Uv, Uv, Uv] [(.int p2)])) rfl (by rw [hml]; rfl) (argsL := [(.int p2)]) (rest := []) (lenOf own_pd500 rfl) rfl (own_z rfl) (hb hby at_7) (fun _ _ => ⟨rfl, eh622, (by decide : 0 + 0 ≤ _), (by decide : 0 + 0 ≤ _)⟩)
  dsimp only [Pt.U, Pt.locs, Pt.cells, Pt.slots] at X623 l623 y623 z623 st623 hQ623
  subst l623 y623 z623
  obtain ⟨y623, rfl, Nq623, hy623, eh623⟩ := hQ623
  have N623 := Fr.app N622 Nq623
  obtain ⟨_, _, ⟨T624, L624, k624, n624⟩, -, X624, ⟨Lc624, hQ624, l624, y624, z624⟩, st624⟩ := LawKit.callS X623 hx (y := mn0) hown (own_m hZ hw 0) (own_m hZ hw 1) (own_m hZ hw 2) (own_m hZ hw 3) (by decide) (backOf (W := 0) (rmDr l Z a0 hw [] p3 h0 n0 Z0) hZ (own_g hw 3) (own_g hw 2) (by decide) (by decide)) (g := (mkF m 13 #[Iv p1, Iv p2, Iv p3, Iv p4, Iv p5, Iv y622, Iv y623, Uv, Uv, Uv, Uv, Uv] [(.int p3)])) rfl (by rw [hml]; rfl) (argsL := [(.int p3)]) (rest := []) (lenOf own_pd500 rfl) rfl (own_z rfl) (hb hby at_13) (fun _ _ => ⟨rfl, eh623, (by decide : 0 + 0 ≤ _), (by decide : 0 + 0 ≤ _)⟩)
  dsimp only [Pt.U, Pt.locs, Pt.cells, Pt.slots] at X624 l624 y624 z624 st624 hQ624
  subst l624 y624 z624
  obtain ⟨y624, rfl, Nq624, hy624, eh624⟩ := hQ624
  have N624 := Fr.app N623 Nq624
  obtain ⟨_, _, ⟨T625, L625, k625, n625⟩, -, X625, ⟨Lc625, hQ625, l625, y625, z625⟩, st625⟩ := LawKit.callS X624 hx (y := mn0) hown (own_m hZ hw 0) (own_m hZ hw 1) (own_m hZ hw 2) (own_m hZ hw 3) (by decide) (backOf (W := 0) (rmDr l Z a0 hw [] p4 h0 n0 Z0) hZ (own_g hw 3) (own_g hw 2) (by decide) (by decide)) (g := (mkF m 19 #[Iv p1, Iv p2, Iv p3, Iv p4, Iv p5, Iv y622, Iv y623, Iv y624, Uv, Uv, Uv, Uv] [(.int p4)])) rfl (by rw [hml]; rfl) (argsL := [(.int p4)]) (rest := []) (lenOf own_pd500 rfl) rfl (own_z rfl) (hb hby at_19) (fun _ _ => ⟨rfl, eh624, (by decide : 0 + 0 ≤ _), (by decide : 0 + 0 ≤ _)⟩)
  dsimp only [Pt.U, Pt.locs, Pt.cells, Pt.slots] at X625 l625 y625 z625 st625 hQ625
  subst l625 y625 z625
  obtain ⟨y625, rfl, Nq625, hy625, eh625⟩ := hQ625
  have N625 := Fr.app N624 Nq625
  refine own_byH (fun _ k => XS.iloadN X0.here hx rfl (hb hby at_0) rfl (st622 _ (XS.istore X622.here hx rfl (hb hby at_4) rfl (l' := #[Iv p1, Iv p2, Iv p3, Iv p4, Iv p5, Iv y622, Uv, Uv, Uv, Uv, Uv, Uv]) rfl (XS.iloadN X622.here hx rfl (hb hby at_6) rfl (st623 _ (XS.istore X623.here hx rfl (hb hby at_10) rfl (l' := #[Iv p1, Iv p2, Iv p3, Iv p4, Iv p5, Iv y622, Iv y623, Uv, Uv, Uv, Uv, Uv]) rfl (XS.iloadN X623.here hx rfl (hb hby at_12) rfl (st624 _ (XS.istore X624.here hx rfl (hb hby at_16) rfl (l' := #[Iv p1, Iv p2, Iv p3, Iv p4, Iv p5, Iv y622, Iv y623, Iv y624, Uv, Uv, Uv, Uv]) rfl (XS.iloadN X624.here hx rfl (hb hby at_18) rfl k)))))))))) ?_
  show own_FinH _ _ _ _ _ _ _ _ _ _ T624 (mkF m 19 #[Iv p1, Iv p2, Iv p3, Iv p4, Iv p5, Iv y622, Iv y623, Iv y624, Uv, Uv, Uv, Uv] [(.int p4)])
  refine own_byH (fun _ k => st625 _ (XS.istore X625.here hx rfl (hb hby at_22) rfl (l' := #[Iv p1, Iv p2, Iv p3, Iv p4, Iv p5, Iv y622, Iv y623, Iv y624, Iv y625, Uv, Uv, Uv]) rfl (XS.iload X625.here hx rfl (hb hby at_24) rfl (X625.ldcInt hx hown (own_m hZ hw 5) (g := (mkF m 26 #[Iv p1, Iv p2, Iv p3, Iv p4, Iv p5, Iv y622, Iv y623, Iv y624, Iv y625, Uv, Uv, Uv] [(.int p5)])) rfl (hb hby at_26) _ (XS.iand X625.here hx rfl (hb hby at_28) rfl (XS.iconst X625.here hx rfl (hb hby at_29) (iremM X625 hx rfl (hb hby at_30) rfl (by decide) (XS.istore X625.here hx rfl (hb hby at_31) rfl (l' := #[Iv p1, Iv p2, Iv p3, Iv p4, Iv p5, Iv y622, Iv y623, Iv y624, Iv y625, Iv ((p5 &&& (2147483647 : Int32)) % (5 : Int32)), Uv, Uv]) rfl k)))))))) ?_
  show own_FinH _ _ _ _ _ _ _ _ _ _ T625 (mkF m 33 #[Iv p1, Iv p2, Iv p3, Iv p4, Iv p5, Iv y622, Iv y623, Iv y624, Iv y625, Iv ((p5 &&& (2147483647 : Int32)) % (5 : Int32)), Uv, Uv] [])
  rcases own_n5 p5 with hn | hn | hn | hn | hn
  · show own_FinH _ _ _ _ _ _ _ _ _ _ T625 (mkF m 33 #[Iv p1, Iv p2, Iv p3, Iv p4, Iv p5, Iv y622, Iv y623, Iv y624, Iv y625, Iv ((p5 &&& (2147483647 : Int32)) % (5 : Int32)), Uv, Uv] [])
    rw [hn]
    show own_FinH _ _ _ _ _ _ _ _ _ _ T625 (mkF m 33 #[Iv p1, Iv p2, Iv p3, Iv p4, Iv p5, Iv y622, Iv y623, Iv y624, Iv y625, Iv 0, Uv, Uv] [])
    obtain ⟨T626, h626, X626, e626, E626, A626, D626, -, st626⟩ := newO X625 hx hZ hown (own_g hw 6) (own_g hw 7) (own_g hw 8) eh625 (g := (mkF m 38 #[Iv p1, Iv p2, Iv p3, Iv p4, Iv p5, Iv y622, Iv y623, Iv y624, Iv y625, Iv 0, Uv, Uv] [])) rfl (hb hby at_38) (by decide) (by decide)
    obtain ⟨b626, g626⟩ : ∃ z, z = h0.size := ⟨_, rfl⟩
    rw [← g626] at A626 D626 st626
    have gf626 : n0 ≤ b626 := Nat.le_trans Z0 (Nat.le_of_eq g626.symm)
    have Zs626 : n0 ≤ h626.size := Nat.le_trans Z0 E626.1
    have hkE626 : _ ≤ h626.size := Nat.le_trans hk0 E626.1
    have Sf626 : Safe Z consts_1 s.vm h626 b626 := Safe.ext E626 CH0.1 (Safe.new (Nat.le_of_eq g626.symm))
    have CHs627 : CHr Z consts_1 s.vm h0 s.vm h626 := CH0.trans (CHr.ext E626 CH0.1)
    have f628_0 : Old Z n0 h626 := Od.ext E626
    have F626_value : Fld Z h626 b626 "java/lang/String" "value" "[B" .null := D626 (Or.inr (own_g hw 22)) (ty := (.array .byte)) (by decide)
    have F626_coder : Fld Z h626 b626 "java/lang/String" "coder" "B" (.int (0 : Int32)) := D626 (Or.inr (own_g hw 23)) (ty := .byte) (by decide)
    obtain ⟨T629, h629, k629, X629, e629, E629, A629, st629⟩ := newP X626 hx hZ (own_g hw 9) e626 (g := (mkF m 43 #[Iv p1, Iv p2, Iv p3, Iv p4, Iv p5, Iv y622, Iv y623, Iv y624, Iv y625, Iv 0, Uv, Uv] [(.int 0), (.ref b626), (.ref b626)])) rfl (hb hby at_43) rfl (by decide) (cap := 0) (by decide) (by decide) (by decide) (by decide)
    obtain ⟨b629, g629⟩ : ∃ z, z = h626.size := ⟨_, rfl⟩
    rw [← g629] at A629 st629
    have V629 : Arv Z h629 b629 k629 .char (0 : Int32) [] (.int (0 : Int32)) := Arv.new A629 (by decide)
    have ne629_b626 : b626 ≠ b629 := Nat.ne_of_lt (Nat.lt_of_lt_of_le A626.lt (Nat.le_of_eq g629.symm))
    have gf629 : n0 ≤ b629 := Nat.le_trans Zs626 (Nat.le_of_eq g629.symm)
    have Zs629 : n0 ≤ h629.size := Nat.le_trans Zs626 E629.1
    have hkE629 : _ ≤ h629.size := Nat.le_trans hkE626 E629.1
    have Sf629 : Safe Z consts_1 s.vm h629 b629 := Safe.ext E629 CHs627.1 (Safe.new (Nat.le_of_eq g629.symm))
    have sf630_b626 : Safe Z consts_1 s.vm h629 b626 := Safe.ext E629 CHs627.1 Sf626
    have CHs630 : CHr Z consts_1 s.vm h0 s.vm h629 := CHs627.trans (CHr.ext E629 CHs627.1)
    have f631_0 : Old Z n0 h629 := f628_0.ext E629
    have f631_2 : Exa Z h629 b626 "java/lang/String" := A626.ext E629
    have f631_3 : Fld Z h629 b626 "java/lang/String" "value" "[B" .null := F626_value.ext E629
    have f631_4 : Fld Z h629 b626 "java/lang/String" "coder" "B" (.int (0 : Int32)) := F626_coder.ext E629
    obtain ⟨_, _, ⟨T632, L632, k632, n632⟩, -, X632, hSn632, hgr632, ⟨Lc632, hQ632, l632, y632, z632, hCr632⟩, st632⟩ := X629.specialBackS hx (y := mn3) rfl hown (own_m hZ hw 10) (own_m hZ hw 11) (own_m hZ hw 12) (by decide) (backOfSH (W := 1) (s := s) (vm0 := s.vm) (rmSCe l Z a0 hw [] b626 b629 k629 h629 n0 Zs629 f631_2 f631_3 f631_4 gf626 V629) hZ (own_g hw 12) (own_g hw 8) (by decide) (by decide) (own_EW hw) CHs630.1) (g := (mkF m 45 #[Iv p1, Iv p2, Iv p3, Iv p4, Iv p5, Iv y622, Iv y623, Iv y624, Iv y625, Iv 0, Uv, Uv] [(.ref b629), (.ref b626), (.ref b626)])) rfl (by rw [hml]; rfl) (Steps.refl _) (a := b626) (argsL := [(.ref b629)]) (rest := [(.ref b626)]) (lenOf own_pd501 rfl) rfl (own_z rfl) (hb hby at_45) (fun _ _ => ⟨rfl, e629, (by decide : 2 + 4 ≤ _), (by decide : 4 + 8 ≤ _)⟩)
    dsimp only [Pt.U, Pt.locs, Pt.cells, Pt.slots] at X632 l632 y632 z632 st632 hQ632 hSn632 hgr632
    subst l632 y632 z632
    obtain ⟨b632, k632, rfl, Nq632, K632, Gc632, Gv632, V632⟩ := hQ632
    have N632 := Fr.app N625 Nq632
    have hS632 : s.Since T632.vm T632.heap.size := foldS (s := s) hS0 (by rw [e629]; exact hkE629) hSn632 hgr632
    have hZ632 : Z.Warmed39 (s.setVm T632.vm).vm := State.Warmed39.trans (t := s.setVm s.vm) hZ hSn632.1
    have hown632 : (s.setVm T632.vm).vm.findClass "com/example/trustee/trustee/PartPatternIsWildPinLaw" = some m.cls := by rw [show (s.setVm T632.vm).vm = T632.vm from rfl, hSn632.1.alike.findClass]; exact hown
    replace hCr632 : CHr Z consts_1 s.vm h629 T632.vm T632.heap := hCr632
    have sf633_b626 : Safe Z consts_1 T632.vm T632.heap b626 := CHr.safe hCr632 f631_2.lt sf630_b626
    have sf633_b629 : Safe Z consts_1 T632.vm T632.heap b629 := CHr.safe hCr632 V629.lt Sf629
    have CHs633 : CHr Z consts_1 s.vm h0 T632.vm T632.heap := CHs630.trans (hCr632)
    replace hZ := hZ632
    replace hown := hown632
    replace X632 : Stand p l e room_1 (s.setVm T632.vm) m #[(.int p1), (.int p2), (.int p3), (.int p4), (.int p5)] below meth c T632 _ _ _ := X632
    have hkE632 : T632.heap.size ≤ T632.heap.size := Nat.le_refl _
    have Zs632 : n0 ≤ T632.heap.size := Nat.le_trans Zs629 K632.1
    have f634_0 : Old Z n0 T632.heap := f631_0.keep K632 (allS gf626 all0)
    have f634_2 : Exa Z T632.heap b626 "java/lang/String" := f631_2.keep K632
    have f634_6 : Arv Z T632.heap b629 k629 .char (0 : Int32) [] (.int (0 : Int32)) := V629.keep K632 (ninS (Ne.symm ne629_b626) nin0)
    refine own_byH (fun _ k => XS.iload X625.here hx rfl (hb hby at_33) rfl (XS.ifNo X625.here hx rfl (hb hby at_35) rfl ((if0 _ _).trans (teq (by decide : (0 : Int32) = (0 : Int32))).2) (st626 _ (XS.dup X626.here hx rfl (hb hby at_41) rfl rfl (XS.iconst X626.here hx rfl (hb hby at_42) (st629 _ (st632.trans (XS.astore X632.here hx rfl (hb hby at_48) rfl rfl (l' := #[Iv p1, Iv p2, Iv p3, Iv p4, Iv p5, Iv y622, Iv y623, Iv y624, Iv y625, Iv 0, Rv b626, Uv]) rfl (XS.goto X632.here hx rfl (pc0 := 50) (pc' := 168) rfl (hb hby at_50) (by decide) (by decide) k))))))))) ?_
    show own_FinH _ _ _ _ _ _ _ _ _ _ T632 (mkF m 168 #[Iv p1, Iv p2, Iv p3, Iv p4, Iv p5, Iv y622, Iv y623, Iv y624, Iv y625, Iv 0, Rv b626, Uv] [])
    have J230_635 : ∀ (Tj635 : State) (lj635 : List Loc) (Xj635 : Stand p l e room_1 (s.setVm T632.vm) m #[(.int p1), (.int p2), (.int p3), (.int p4), (.int p5)] below meth c Tj635 lj635 6 12) (ej635 : Tj635.heap = T632.heap) (Nj635 : Fr n0 lj635) (ex : Int32) (he : ex = own_ww []), own_FinH p e below s Z consts_1 h0 room_1.cells room_1.slots (own_Q0 n0) Tj635 (mkF m 230 #[Iv p1, Iv p2, Iv p3, Iv p4, Iv p5, Iv y622, Iv y623, Iv y624, Iv y625, Iv 0, Rv b626, Iv ex] []) := by
      intro Tj635 lj635 Xj635 ej635 Nj635 ex he
      subst he
      show own_FinH _ _ _ _ _ _ _ _ _ _ Tj635 (mkF m 230 #[Iv p1, Iv p2, Iv p3, Iv p4, Iv p5, Iv y622, Iv y623, Iv y624, Iv y625, Iv 0, Rv b626, Iv (own_ww [])] [])
      obtain ⟨_, _, ⟨T636, L636, k636, n636⟩, -, X636, ⟨Lc636, hQ636, l636, y636, z636⟩, st636⟩ := LawKit.callS Xj635 hx (y := mn26) hown (own_m hZ hw 28) (own_m hZ hw 29) (own_m hZ hw 30) (own_m hZ hw 31) (by decide) (backOf (W := 0) (rmIW0L l Z a0 hw [] cs gS b626 b632 k632  T632.heap n0 Zs632 V_env f634_0 f634_2 Gv632 Gc632 V632 ) hZ (own_g hw 31) (own_g hw 30) (by decide) (by decide)) (g := (mkF m 232 #[Iv p1, Iv p2, Iv p3, Iv p4, Iv p5, Iv y622, Iv y623, Iv y624, Iv y625, Iv 0, Rv b626, Iv (own_ww [])] [(.ref b626)])) rfl (by rw [hml]; rfl) (argsL := [(.ref b626)]) (rest := []) (lenOf own_pd502 rfl) rfl (own_z rfl) (hb hby at_232) (fun _ _ => ⟨rfl, ej635, (by decide : 6 + 0 ≤ _), (by decide : 12 + 0 ≤ _)⟩)
      dsimp only [Pt.U, Pt.locs, Pt.cells, Pt.slots] at X636 l636 y636 z636 st636 hQ636
      subst l636 y636 z636
      obtain ⟨rfl, Nq636, eh636⟩ := hQ636
      have N636 := Fr.app Nj635 Nq636
      have pl : (own_iw (own_find ((42 : Int32).toInt8.toInt32) [] (0 : Int32)) (own_find ((63 : Int32).toInt8.toInt32) [] (0 : Int32))) = (own_ww []) := by decide
      have CHe637 : CHr Z consts_1 s.vm h0 T636.vm T632.heap := CHs633.trans (CHv.at X636 hZ (own_EW hw) CHs633.1)
      refine own_byH (fun _ k => XS.aload Xj635.here hx rfl (hb hby at_230) rfl rfl (st636 _ (XS.iload X636.here hx rfl (hb hby at_235) rfl (XS.icmpNo X636.here hx rfl (hb hby at_237) rfl (teq pl).2 (XS.iconst X636.here hx rfl (hb hby at_240) (XS.goto X636.here hx rfl (pc0 := 241) (pc' := 245) rfl (hb hby at_241) (by decide) (by decide) k)))))) ?_
      exact own_retZH X636 hS632 (by rw [eh636]; exact hkE632) (by rw [eh636]; exact CHe637) hx hlk (t := .boolean) Bd.returns (by simp) (hb hby at_245) ⟨rfl, N636⟩ (by decide) (by decide)
    show own_FinH _ _ _ _ _ _ _ _ _ _ T632 (mkF m 168 #[Iv p1, Iv p2, Iv p3, Iv p4, Iv p5, Iv y622, Iv y623, Iv y624, Iv y625, Iv 0, Rv b626, Uv] [])
    refine own_byH (fun _ k => XS.iload X632.here hx rfl (hb hby at_168) rfl (XS.ifYes X632.here hx rfl (pc0 := 170) (pc' := 181) rfl (hb hby at_170) rfl ((if0 _ _).trans (flt (by decide : ¬ ((0 : Int32) < (0 : Int32)))).2.2.2) (by decide) (by decide) (XS.iload X632.here hx rfl (hb hby at_181) rfl (XS.iconst X632.here hx rfl (hb hby at_183) (XS.icmpYes X632.here hx rfl (pc0 := 184) (pc' := 195) rfl (hb hby at_184) rfl (flt (by decide : ¬ ((1 : Int32) < (0 : Int32)))).2.2.2 (by decide) (by decide) (XS.iload X632.here hx rfl (hb hby at_195) rfl (XS.iconst X632.here hx rfl (hb hby at_197) (XS.icmpYes X632.here hx rfl (pc0 := 198) (pc' := 209) rfl (hb hby at_198) rfl (flt (by decide : ¬ ((2 : Int32) < (0 : Int32)))).2.2.2 (by decide) (by decide) (XS.iload X632.here hx rfl (hb hby at_209) rfl (XS.iconst X632.here hx rfl (hb hby at_211) k)))))))))) ?_
    show own_FinH _ _ _ _ _ _ _ _ _ _ T632 (mkF m 212 #[Iv p1, Iv p2, Iv p3, Iv p4, Iv p5, Iv y622, Iv y623, Iv y624, Iv y625, Iv 0, Rv b626, Uv] [(.int 3), (.int 0)])
    refine own_byH (fun _ k => XS.icmpYes X632.here hx rfl (pc0 := 212) (pc' := 227) rfl (hb hby at_212) rfl (flt (by decide : ¬ ((3 : Int32) < (0 : Int32)))).2.2.2 (by decide) (by decide) (XS.iconst X632.here hx rfl (hb hby at_227) (XS.istore X632.here hx rfl (hb hby at_228) rfl (l' := #[Iv p1, Iv p2, Iv p3, Iv p4, Iv p5, Iv y622, Iv y623, Iv y624, Iv y625, Iv 0, Rv b626, Iv 0]) rfl k))) ?_
    exact J230_635 T632 _ X632 rfl N632 ((0 : Int32)) rfl
  · show own_FinH _ _ _ _ _ _ _ _ _ _ T625 (mkF m 33 #[Iv p1, Iv p2, Iv p3, Iv p4, Iv p5, Iv y622, Iv y623, Iv y624, Iv y625, Iv ((p5 &&& (2147483647 : Int32)) % (5 : Int32)), Uv, Uv] [])
    rw [hn]
    show own_FinH _ _ _ _ _ _ _ _ _ _ T625 (mkF m 33 #[Iv p1, Iv p2, Iv p3, Iv p4, Iv p5, Iv y622, Iv y623, Iv y624, Iv y625, Iv 1, Uv, Uv] [])
    obtain ⟨_, _, ⟨T638, L638, k638, n638⟩, -, X638, ⟨Lc638, hQ638, l638, y638, z638⟩, st638⟩ := LawKit.callS X625 hx (y := mn16) hown (own_m hZ hw 88) (own_m hZ hw 89) (own_m hZ hw 8) (own_m hZ hw 90) (by decide) (backOf (W := 0) (rmVO l Z a0 hw [] cs gS y622 h0 n0 Z0 V_env Od) hZ (own_g hw 90) (own_g hw 8) (by decide) (by decide)) (g := (mkF m 61 #[Iv p1, Iv p2, Iv p3, Iv p4, Iv p5, Iv y622, Iv y623, Iv y624, Iv y625, Iv 1, Uv, Uv] [(.int y622)])) rfl (by rw [hml]; rfl) (argsL := [(.int y622)]) (rest := []) (lenOf own_pd503 rfl) rfl (own_z rfl) (hb hby at_61) (fun _ _ => ⟨rfl, eh625, (by decide : 0 + 2 ≤ _), (by decide : 0 + 6 ≤ _)⟩)
    dsimp only [Pt.U, Pt.locs, Pt.cells, Pt.slots] at X638 l638 y638 z638 st638 hQ638
    subst l638 y638 z638
    obtain ⟨b638, bv638, k638, rfl, Nq638, K638, ge638, E638, Gv638, hd638⟩ := hQ638
    have N638 := Fr.app N625 Nq638
    have Zs638 : n0 ≤ T638.heap.size := Nat.le_trans Z0 K638.1
    have CHs639 : CHr Z consts_1 s.vm h0 s.vm T638.heap := CH0.trans (CHr.keep K638 sf0 CH0.1)
    have hkE638 : _ ≤ T638.heap.size := Nat.le_trans hk0 K638.1
    have f640_0 : Old Z n0 T638.heap := Od.keep K638 all0
    refine own_byH (fun _ k => XS.iload X625.here hx rfl (hb hby at_33) rfl (XS.ifYes X625.here hx rfl (pc0 := 35) (pc' := 53) rfl (hb hby at_35) rfl ((if0 _ _).trans (feq (by decide : ¬ ((1 : Int32) = (0 : Int32)))).2) (by decide) (by decide) (XS.iload X625.here hx rfl (hb hby at_53) rfl (XS.iconst X625.here hx rfl (hb hby at_55) (XS.icmpNo X625.here hx rfl (hb hby at_56) rfl (teq (by decide : (1 : Int32) = (1 : Int32))).2 (XS.iload X625.here hx rfl (hb hby at_59) rfl (st638 _ (XS.astore X638.here hx rfl (hb hby at_64) rfl rfl (l' := #[Iv p1, Iv p2, Iv p3, Iv p4, Iv p5, Iv y622, Iv y623, Iv y624, Iv y625, Iv 1, Rv b638, Uv]) rfl (XS.goto X638.here hx rfl (pc0 := 66) (pc' := 168) rfl (hb hby at_66) (by decide) (by decide) k))))))))) ?_
    show own_FinH _ _ _ _ _ _ _ _ _ _ T638 (mkF m 168 #[Iv p1, Iv p2, Iv p3, Iv p4, Iv p5, Iv y622, Iv y623, Iv y624, Iv y625, Iv 1, Rv b638, Uv] [])
    have J230_641 : ∀ (Tj641 : State) (lj641 : List Loc) (Xj641 : Stand p l e room_1 (s.setVm s.vm) m #[(.int p1), (.int p2), (.int p3), (.int p4), (.int p5)] below meth c Tj641 lj641 2 6) (ej641 : Tj641.heap = T638.heap) (Nj641 : Fr n0 lj641) (ex : Int32) (he : ex = own_ww [y622]), own_FinH p e below s Z consts_1 h0 room_1.cells room_1.slots (own_Q0 n0) Tj641 (mkF m 230 #[Iv p1, Iv p2, Iv p3, Iv p4, Iv p5, Iv y622, Iv y623, Iv y624, Iv y625, Iv 1, Rv b638, Iv ex] []) := by
      intro Tj641 lj641 Xj641 ej641 Nj641 ex he
      subst he
      show own_FinH _ _ _ _ _ _ _ _ _ _ Tj641 (mkF m 230 #[Iv p1, Iv p2, Iv p3, Iv p4, Iv p5, Iv y622, Iv y623, Iv y624, Iv y625, Iv 1, Rv b638, Iv (own_ww [y622])] [])
      rcases hd638 with ⟨Gc638, V638, hk0⟩ | ⟨Gc638, V638⟩
      · show own_FinH _ _ _ _ _ _ _ _ _ _ Tj641 (mkF m 230 #[Iv p1, Iv p2, Iv p3, Iv p4, Iv p5, Iv y622, Iv y623, Iv y624, Iv y625, Iv 1, Rv b638, Iv (own_ww [y622])] [])
        obtain ⟨_, _, ⟨T642, L642, k642, n642⟩, -, X642, ⟨Lc642, hQ642, l642, y642, z642⟩, st642⟩ := LawKit.callS Xj641 hx (y := mn26) hown (own_m hZ hw 28) (own_m hZ hw 29) (own_m hZ hw 30) (own_m hZ hw 31) (by decide) (backOf (W := 0) (rmIW1L l Z a0 hw [] cs gS b638 bv638 k638 y622 T638.heap n0 Zs638 V_env f640_0 E638 Gv638 Gc638 V638 ) hZ (own_g hw 31) (own_g hw 30) (by decide) (by decide)) (g := (mkF m 232 #[Iv p1, Iv p2, Iv p3, Iv p4, Iv p5, Iv y622, Iv y623, Iv y624, Iv y625, Iv 1, Rv b638, Iv (own_ww [y622])] [(.ref b638)])) rfl (by rw [hml]; rfl) (argsL := [(.ref b638)]) (rest := []) (lenOf own_pd502 rfl) rfl (own_z rfl) (hb hby at_232) (fun _ _ => ⟨rfl, ej641, (by decide : 2 + 0 ≤ _), (by decide : 6 + 0 ≤ _)⟩)
        dsimp only [Pt.U, Pt.locs, Pt.cells, Pt.slots] at X642 l642 y642 z642 st642 hQ642
        subst l642 y642 z642
        obtain ⟨rfl, Nq642, eh642⟩ := hQ642
        have N642 := Fr.app Nj641 Nq642
        have pl : (own_iw (own_find ((42 : Int32).toInt8.toInt32) [y622.toInt8.toInt32] (0 : Int32)) (own_find ((63 : Int32).toInt8.toInt32) [y622.toInt8.toInt32] (0 : Int32))) = (own_ww [y622]) := by rw [← own_pl1 y622, (by decide : (42 : Int32).toInt8.toInt32 = (42 : Int32)), (by decide : (63 : Int32).toInt8.toInt32 = (63 : Int32))]; simp only [own_find, own_bch hy622 hk0 (c := (42 : Int32)) ⟨by decide, by decide⟩, own_bch hy622 hk0 (c := (63 : Int32)) ⟨by decide, by decide⟩]
        have CHe643 : CHr Z consts_1 s.vm h0 T642.vm T638.heap := CHs639.trans (CHv.at X642 hZ (own_EW hw) CHs639.1)
        refine own_byH (fun _ k => XS.aload Xj641.here hx rfl (hb hby at_230) rfl rfl (st642 _ (XS.iload X642.here hx rfl (hb hby at_235) rfl (XS.icmpNo X642.here hx rfl (hb hby at_237) rfl (teq pl).2 (XS.iconst X642.here hx rfl (hb hby at_240) (XS.goto X642.here hx rfl (pc0 := 241) (pc' := 245) rfl (hb hby at_241) (by decide) (by decide) k)))))) ?_
        exact own_retZH X642 hS0 (by rw [eh642]; exact hkE638) (by rw [eh642]; exact CHe643) hx hlk (t := .boolean) Bd.returns (by simp) (hb hby at_245) ⟨rfl, N642⟩ (by decide) (by decide)
      · show own_FinH _ _ _ _ _ _ _ _ _ _ Tj641 (mkF m 230 #[Iv p1, Iv p2, Iv p3, Iv p4, Iv p5, Iv y622, Iv y623, Iv y624, Iv y625, Iv 1, Rv b638, Iv (own_ww [y622])] [])
        obtain ⟨_, _, ⟨T644, L644, k644, n644⟩, -, X644, ⟨Lc644, hQ644, l644, y644, z644⟩, st644⟩ := LawKit.callS Xj641 hx (y := mn26) hown (own_m hZ hw 28) (own_m hZ hw 29) (own_m hZ hw 30) (own_m hZ hw 31) (by decide) (backOf (W := 0) (rmIW1U l Z a0 hw [] cs gS b638 bv638 k638 y622 T638.heap n0 Zs638 V_env f640_0 E638 Gv638 Gc638 V638 hy622) hZ (own_g hw 31) (own_g hw 30) (by decide) (by decide)) (g := (mkF m 232 #[Iv p1, Iv p2, Iv p3, Iv p4, Iv p5, Iv y622, Iv y623, Iv y624, Iv y625, Iv 1, Rv b638, Iv (own_ww [y622])] [(.ref b638)])) rfl (by rw [hml]; rfl) (argsL := [(.ref b638)]) (rest := []) (lenOf own_pd502 rfl) rfl (own_z rfl) (hb hby at_232) (fun _ _ => ⟨rfl, ej641, (by decide : 2 + 0 ≤ _), (by decide : 6 + 0 ≤ _)⟩)
        dsimp only [Pt.U, Pt.locs, Pt.cells, Pt.slots] at X644 l644 y644 z644 st644 hQ644
        subst l644 y644 z644
        obtain ⟨rfl, Nq644, eh644⟩ := hQ644
        have N644 := Fr.app Nj641 Nq644
        have pl : (own_iw (own_find (42 : Int32) [y622] (0 : Int32)) (own_find (63 : Int32) [y622] (0 : Int32))) = (own_ww [y622]) := own_pl1 y622
        have CHe645 : CHr Z consts_1 s.vm h0 T644.vm T638.heap := CHs639.trans (CHv.at X644 hZ (own_EW hw) CHs639.1)
        refine own_byH (fun _ k => XS.aload Xj641.here hx rfl (hb hby at_230) rfl rfl (st644 _ (XS.iload X644.here hx rfl (hb hby at_235) rfl (XS.icmpNo X644.here hx rfl (hb hby at_237) rfl (teq pl).2 (XS.iconst X644.here hx rfl (hb hby at_240) (XS.goto X644.here hx rfl (pc0 := 241) (pc' := 245) rfl (hb hby at_241) (by decide) (by decide) k)))))) ?_
        exact own_retZH X644 hS0 (by rw [eh644]; exact hkE638) (by rw [eh644]; exact CHe645) hx hlk (t := .boolean) Bd.returns (by simp) (hb hby at_245) ⟨rfl, N644⟩ (by decide) (by decide)
    show own_FinH _ _ _ _ _ _ _ _ _ _ T638 (mkF m 168 #[Iv p1, Iv p2, Iv p3, Iv p4, Iv p5, Iv y622, Iv y623, Iv y624, Iv y625, Iv 1, Rv b638, Uv] [])
    obtain ⟨_, _, ⟨T646, L646, k646, n646⟩, -, X646, ⟨Lc646, hQ646, l646, y646, z646⟩, st646⟩ := LawKit.callS X638 hx (y := mn1) hown (own_m hZ hw 82) (own_m hZ hw 83) (own_m hZ hw 2) (own_m hZ hw 84) (by decide) (backOf (W := 0) (rmWi l Z a0 hw [] y622 T638.heap n0 Zs638 ) hZ (own_g hw 84) (own_g hw 2) (by decide) (by decide)) (g := (mkF m 175 #[Iv p1, Iv p2, Iv p3, Iv p4, Iv p5, Iv y622, Iv y623, Iv y624, Iv y625, Iv 1, Rv b638, Uv] [(.int y622)])) rfl (by rw [hml]; rfl) (argsL := [(.int y622)]) (rest := []) (lenOf own_pd264 rfl) rfl (own_z rfl) (hb hby at_175) (fun _ _ => ⟨rfl, rfl, (by decide : 2 + 0 ≤ _), (by decide : 6 + 0 ≤ _)⟩)
    dsimp only [Pt.U, Pt.locs, Pt.cells, Pt.slots] at X646 l646 y646 z646 st646 hQ646
    subst l646 y646 z646
    obtain ⟨rfl, Nq646, eh646⟩ := hQ646
    have N646 := Fr.app N638 Nq646
    refine own_byH (fun _ k => XS.iload X638.here hx rfl (hb hby at_168) rfl (XS.ifNo X638.here hx rfl (hb hby at_170) rfl ((if0 _ _).trans (tlt (by decide : (0 : Int32) < (1 : Int32))).2.2.2) (XS.iload X638.here hx rfl (hb hby at_173) rfl (st646 _ k)))) ?_
    show own_FinH _ _ _ _ _ _ _ _ _ _ T646 (mkF m 178 #[Iv p1, Iv p2, Iv p3, Iv p4, Iv p5, Iv y622, Iv y623, Iv y624, Iv y625, Iv 1, Rv b638, Uv] [(.int (own_w y622))])
    by_cases hc178_647 : (own_w y622) = (0 : Int32)
    · show own_FinH _ _ _ _ _ _ _ _ _ _ T646 (mkF m 178 #[Iv p1, Iv p2, Iv p3, Iv p4, Iv p5, Iv y622, Iv y623, Iv y624, Iv y625, Iv 1, Rv b638, Uv] [(.int (own_w y622))])
      refine own_byH (fun _ k => XS.ifNo X646.here hx rfl (hb hby at_178) rfl ((if0 _ _).trans (teq hc178_647).2) (XS.iload X646.here hx rfl (hb hby at_181) rfl (XS.iconst X646.here hx rfl (hb hby at_183) (XS.icmpYes X646.here hx rfl (pc0 := 184) (pc' := 195) rfl (hb hby at_184) rfl (flt (by decide : ¬ ((1 : Int32) < (1 : Int32)))).2.2.2 (by decide) (by decide) (XS.iload X646.here hx rfl (hb hby at_195) rfl (XS.iconst X646.here hx rfl (hb hby at_197) (XS.icmpYes X646.here hx rfl (pc0 := 198) (pc' := 209) rfl (hb hby at_198) rfl (flt (by decide : ¬ ((2 : Int32) < (1 : Int32)))).2.2.2 (by decide) (by decide) (XS.iload X646.here hx rfl (hb hby at_209) rfl (XS.iconst X646.here hx rfl (hb hby at_211) (XS.icmpYes X646.here hx rfl (pc0 := 212) (pc' := 227) rfl (hb hby at_212) rfl (flt (by decide : ¬ ((3 : Int32) < (1 : Int32)))).2.2.2 (by decide) (by decide) k)))))))))) ?_
      show own_FinH _ _ _ _ _ _ _ _ _ _ T646 (mkF m 227 #[Iv p1, Iv p2, Iv p3, Iv p4, Iv p5, Iv y622, Iv y623, Iv y624, Iv y625, Iv 1, Rv b638, Uv] [])
      refine own_byH (fun _ k => XS.iconst X646.here hx rfl (hb hby at_227) (XS.istore X646.here hx rfl (hb hby at_228) rfl (l' := #[Iv p1, Iv p2, Iv p3, Iv p4, Iv p5, Iv y622, Iv y623, Iv y624, Iv y625, Iv 1, Rv b638, Iv 0]) rfl k)) ?_
      exact J230_641 T646 _ X646 eh646 N646 ((0 : Int32)) (by simp only [own_ww, if_pos hc178_647])
    · show own_FinH _ _ _ _ _ _ _ _ _ _ T646 (mkF m 178 #[Iv p1, Iv p2, Iv p3, Iv p4, Iv p5, Iv y622, Iv y623, Iv y624, Iv y625, Iv 1, Rv b638, Uv] [(.int (own_w y622))])
      refine own_byH (fun _ k => XS.ifYes X646.here hx rfl (pc0 := 178) (pc' := 223) rfl (hb hby at_178) rfl ((if0 _ _).trans (feq hc178_647).2) (by decide) (by decide) (XS.iconst X646.here hx rfl (hb hby at_223) (XS.goto X646.here hx rfl (pc0 := 224) (pc' := 228) rfl (hb hby at_224) (by decide) (by decide) (XS.istore X646.here hx rfl (hb hby at_228) rfl (l' := #[Iv p1, Iv p2, Iv p3, Iv p4, Iv p5, Iv y622, Iv y623, Iv y624, Iv y625, Iv 1, Rv b638, Iv 1]) rfl k)))) ?_
      exact J230_641 T646 _ X646 eh646 N646 ((1 : Int32)) (by simp only [own_ww, if_neg hc178_647])
  · show own_FinH _ _ _ _ _ _ _ _ _ _ T625 (mkF m 33 #[Iv p1, Iv p2, Iv p3, Iv p4, Iv p5, Iv y622, Iv y623, Iv y624, Iv y625, Iv ((p5 &&& (2147483647 : Int32)) % (5 : Int32)), Uv, Uv] [])
    rw [hn]
    show own_FinH _ _ _ _ _ _ _ _ _ _ T625 (mkF m 33 #[Iv p1, Iv p2, Iv p3, Iv p4, Iv p5, Iv y622, Iv y623, Iv y624, Iv y625, Iv 2, Uv, Uv] [])
    obtain ⟨T648, h648, X648, e648, E648, A648, D648, -, st648⟩ := newO X625 hx hZ hown (own_g hw 6) (own_g hw 7) (own_g hw 8) eh625 (g := (mkF m 75 #[Iv p1, Iv p2, Iv p3, Iv p4, Iv p5, Iv y622, Iv y623, Iv y624, Iv y625, Iv 2, Uv, Uv] [])) rfl (hb hby at_75) (by decide) (by decide)
    obtain ⟨b648, g648⟩ : ∃ z, z = h0.size := ⟨_, rfl⟩
    rw [← g648] at A648 D648 st648
    have gf648 : n0 ≤ b648 := Nat.le_trans Z0 (Nat.le_of_eq g648.symm)
    have Zs648 : n0 ≤ h648.size := Nat.le_trans Z0 E648.1
    have hkE648 : _ ≤ h648.size := Nat.le_trans hk0 E648.1
    have Sf648 : Safe Z consts_1 s.vm h648 b648 := Safe.ext E648 CH0.1 (Safe.new (Nat.le_of_eq g648.symm))
    have CHs649 : CHr Z consts_1 s.vm h0 s.vm h648 := CH0.trans (CHr.ext E648 CH0.1)
    have f650_0 : Old Z n0 h648 := Od.ext E648
    have F648_value : Fld Z h648 b648 "java/lang/String" "value" "[B" .null := D648 (Or.inr (own_g hw 22)) (ty := (.array .byte)) (by decide)
    have F648_coder : Fld Z h648 b648 "java/lang/String" "coder" "B" (.int (0 : Int32)) := D648 (Or.inr (own_g hw 23)) (ty := .byte) (by decide)
    refine own_byH (fun _ k => XS.iload X625.here hx rfl (hb hby at_33) rfl (XS.ifYes X625.here hx rfl (pc0 := 35) (pc' := 53) rfl (hb hby at_35) rfl ((if0 _ _).trans (feq (by decide : ¬ ((2 : Int32) = (0 : Int32)))).2) (by decide) (by decide) (XS.iload X625.here hx rfl (hb hby at_53) rfl (XS.iconst X625.here hx rfl (hb hby at_55) (XS.icmpYes X625.here hx rfl (pc0 := 56) (pc' := 69) rfl (hb hby at_56) rfl (feq (by decide : ¬ ((2 : Int32) = (1 : Int32)))).2 (by decide) (by decide) (XS.iload X625.here hx rfl (hb hby at_69) rfl (XS.iconst X625.here hx rfl (hb hby at_71) (XS.icmpNo X625.here hx rfl (hb hby at_72) rfl (teq (by decide : (2 : Int32) = (2 : Int32))).2 (st648 _ (XS.dup X648.here hx rfl (hb hby at_78) rfl rfl k)))))))))) ?_
    show own_FinH _ _ _ _ _ _ _ _ _ _ T648 (mkF m 79 #[Iv p1, Iv p2, Iv p3, Iv p4, Iv p5, Iv y622, Iv y623, Iv y624, Iv y625, Iv 2, Uv, Uv] [(.ref b648), (.ref b648)])
    obtain ⟨T651, h651, k651, X651, e651, E651, A651, st651⟩ := newP X648 hx hZ (own_g hw 9) e648 (g := (mkF m 80 #[Iv p1, Iv p2, Iv p3, Iv p4, Iv p5, Iv y622, Iv y623, Iv y624, Iv y625, Iv 2, Uv, Uv] [(.int 2), (.ref b648), (.ref b648)])) rfl (hb hby at_80) rfl (by decide) (cap := 2) (by decide) (by decide) (by decide) (by decide)
    obtain ⟨b651, g651⟩ : ∃ z, z = h648.size := ⟨_, rfl⟩
    rw [← g651] at A651 st651
    have V651 : Arv Z h651 b651 k651 .char (2 : Int32) [(.int (0 : Int32)), (.int (0 : Int32))] (.int (0 : Int32)) := (Arv.new A651 (by decide)).pad (pad_rep [] (.int (0 : Int32)) 2)
    have ne651_b648 : b648 ≠ b651 := Nat.ne_of_lt (Nat.lt_of_lt_of_le A648.lt (Nat.le_of_eq g651.symm))
    have gf651 : n0 ≤ b651 := Nat.le_trans Zs648 (Nat.le_of_eq g651.symm)
    have Zs651 : n0 ≤ h651.size := Nat.le_trans Zs648 E651.1
    have hkE651 : _ ≤ h651.size := Nat.le_trans hkE648 E651.1
    have Sf651 : Safe Z consts_1 s.vm h651 b651 := Safe.ext E651 CHs649.1 (Safe.new (Nat.le_of_eq g651.symm))
    have sf652_b648 : Safe Z consts_1 s.vm h651 b648 := Safe.ext E651 CHs649.1 Sf648
    have CHs652 : CHr Z consts_1 s.vm h0 s.vm h651 := CHs649.trans (CHr.ext E651 CHs649.1)
    have f653_0 : Old Z n0 h651 := f650_0.ext E651
    have f653_2 : Exa Z h651 b648 "java/lang/String" := A648.ext E651
    have f653_3 : Fld Z h651 b648 "java/lang/String" "value" "[B" .null := F648_value.ext E651
    have f653_4 : Fld Z h651 b648 "java/lang/String" "coder" "B" (.int (0 : Int32)) := F648_coder.ext E651
    obtain ⟨cl654, Ar654, q654, S654, M654, H654, G654⟩ := id V651
    have hin654 : ¬ ((0 : Int32) < 0 ∨ cl654.slots.size ≤ ((0 : Int32)).toNatClampNeg) := inb_of S654 ⟨by decide, by decide⟩
    obtain ⟨T654, h654, X654, e654, W654, st654⟩ := stC X651 hx hZ e651 Ar654 (j := (0 : Int32)) hin654 (g := (mkF m 86 #[Iv p1, Iv p2, Iv p3, Iv p4, Iv p5, Iv y622, Iv y623, Iv y624, Iv y625, Iv 2, Uv, Uv] [(.int y622), (.int 0), (.ref b651), (.ref b651), (.ref b648), (.ref b648)])) rfl rfl (hb hby at_86)
    have V654 : Arv Z h654 b651 k651 .char (2 : Int32) [(.int y622.toUInt32.toUInt16.toUInt32.toInt32), (.int (0 : Int32))] (.int (0 : Int32)) := Arv.set Ar654 q654 S654 M654 H654 G654 (fits_nar_char _) W654 0 rfl (Nat.le_of_ble_eq_true rfl)
    have Zs654 : n0 ≤ h654.size := Nat.le_trans Zs651 (Keep.of_wr W654).1
    have N654 := Fr.snoc X654 N625 gf651
    have hkE654 : _ ≤ h654.size := Nat.le_trans hkE651 (Keep.of_wr W654).1
    have sf655_b648 : Safe Z consts_1 s.vm h654 b648 := Safe.wr W654 Sf651 CHs652.1 sf652_b648
    have sf655_b651 : Safe Z consts_1 s.vm h654 b651 := Safe.wr W654 Sf651 CHs652.1 Sf651
    have CHs655 : CHr Z consts_1 s.vm h0 s.vm h654 := CHs652.trans (CHr.wr W654 Sf651 CHs652.1)
    have f656_0 : Old Z n0 h654 := f653_0.wr W654 gf651
    have f656_2 : Exa Z h654 b648 "java/lang/String" := f653_2.wr W654
    have f656_3 : Fld Z h654 b648 "java/lang/String" "value" "[B" .null := f653_3.other W654 (Or.inl ne651_b648)
    have f656_4 : Fld Z h654 b648 "java/lang/String" "coder" "B" (.int (0 : Int32)) := f653_4.other W654 (Or.inl ne651_b648)
    obtain ⟨cl657, Ar657, q657, S657, M657, H657, G657⟩ := id V654
    have hin657 : ¬ ((1 : Int32) < 0 ∨ cl657.slots.size ≤ ((1 : Int32)).toNatClampNeg) := inb_of S657 ⟨by decide, by decide⟩
    obtain ⟨T657, h657, X657, e657, W657, st657⟩ := stC X654 hx hZ e654 Ar657 (j := (1 : Int32)) hin657 (g := (mkF m 91 #[Iv p1, Iv p2, Iv p3, Iv p4, Iv p5, Iv y622, Iv y623, Iv y624, Iv y625, Iv 2, Uv, Uv] [(.int y623), (.int 1), (.ref b651), (.ref b651), (.ref b648), (.ref b648)])) rfl rfl (hb hby at_91)
    have V657 : Arv Z h657 b651 k651 .char (2 : Int32) [(.int y622.toUInt32.toUInt16.toUInt32.toInt32), (.int y623.toUInt32.toUInt16.toUInt32.toInt32)] (.int (0 : Int32)) := Arv.set Ar657 q657 S657 M657 H657 G657 (fits_nar_char _) W657 1 rfl (Nat.le_of_ble_eq_true rfl)
    have Zs657 : n0 ≤ h657.size := Nat.le_trans Zs654 (Keep.of_wr W657).1
    have N657 := Fr.snoc X657 N654 gf651
    have hkE657 : _ ≤ h657.size := Nat.le_trans hkE654 (Keep.of_wr W657).1
    have sf658_b648 : Safe Z consts_1 s.vm h657 b648 := Safe.wr W657 sf655_b651 CHs655.1 sf655_b648
    have sf658_b651 : Safe Z consts_1 s.vm h657 b651 := Safe.wr W657 sf655_b651 CHs655.1 sf655_b651
    have CHs658 : CHr Z consts_1 s.vm h0 s.vm h657 := CHs655.trans (CHr.wr W657 sf655_b651 CHs655.1)
    have f659_0 : Old Z n0 h657 := f656_0.wr W657 gf651
    have f659_2 : Exa Z h657 b648 "java/lang/String" := f656_2.wr W657
    have f659_3 : Fld Z h657 b648 "java/lang/String" "value" "[B" .null := f656_3.other W657 (Or.inl ne651_b648)
    have f659_4 : Fld Z h657 b648 "java/lang/String" "coder" "B" (.int (0 : Int32)) := f656_4.other W657 (Or.inl ne651_b648)
    have Vc : Arv Z h657 b651 k651 .char (2 : Int32) [(.int y622), (.int y623)] (.int (0 : Int32)) := by have q := V657; simp only [own_ch_c hy622, own_ch_c hy623] at q; exact q
    obtain ⟨_, _, ⟨T660, L660, k660, n660⟩, -, X660, ⟨Lc660, hQ660, l660, y660, z660⟩, st660⟩ := X657.specialBack hx (y := mn3) rfl hown (own_m hZ hw 10) (own_m hZ hw 11) (own_m hZ hw 12) (by decide) (backOf (W := 1) (rmYC2 l Z a0 hw [] cs gS b648 b651 k651 y622 y623 h657 n0 Zs657 V_env f659_0 f659_2 f659_3 f659_4 gf648 Vc (Ne.symm ne651_b648) hy622 hy623) hZ (own_g hw 12) (own_g hw 8) (by decide) (by decide)) (g := (mkF m 92 #[Iv p1, Iv p2, Iv p3, Iv p4, Iv p5, Iv y622, Iv y623, Iv y624, Iv y625, Iv 2, Uv, Uv] [(.ref b651), (.ref b648), (.ref b648)])) rfl (by rw [hml]; rfl) (Steps.refl _) (a := b648) (argsL := [(.ref b651)]) (rest := [(.ref b648)]) (lenOf own_pd501 rfl) rfl (own_z rfl) (hb hby at_92) (fun _ _ => ⟨rfl, e657, (by decide : 2 + 2 ≤ _), (by decide : 6 + 6 ≤ _)⟩)
    dsimp only [Pt.U, Pt.locs, Pt.cells, Pt.slots] at X660 l660 y660 z660 st660 hQ660
    subst l660 y660 z660
    obtain ⟨b660, k660, rfl, Nq660, K660, Gv660, hd660⟩ := hQ660
    have N660 := Fr.app N657 Nq660
    refine own_byH (fun _ k => XS.iconst X648.here hx rfl (hb hby at_79) (st651 _ (XS.dup X651.here hx rfl (hb hby at_82) rfl rfl (XS.iconst X651.here hx rfl (hb hby at_83) (XS.iload X651.here hx rfl (hb hby at_84) rfl (st654 _ (XS.dup X654.here hx rfl (hb hby at_87) rfl rfl (XS.iconst X654.here hx rfl (hb hby at_88) (XS.iload X654.here hx rfl (hb hby at_89) rfl (st657 _ k)))))))))) ?_
    show own_FinH _ _ _ _ _ _ _ _ _ _ T657 (mkF m 92 #[Iv p1, Iv p2, Iv p3, Iv p4, Iv p5, Iv y622, Iv y623, Iv y624, Iv y625, Iv 2, Uv, Uv] [(.ref b651), (.ref b648), (.ref b648)])
    have Zs660 : n0 ≤ T660.heap.size := Nat.le_trans Zs657 K660.1
    have sf661_b648 : Safe Z consts_1 s.vm T660.heap b648 := Safe.keep K660 (sfS sf658_b648 sf0) CHs658.1 sf658_b648
    have sf661_b651 : Safe Z consts_1 s.vm T660.heap b651 := Safe.keep K660 (sfS sf658_b648 sf0) CHs658.1 sf658_b651
    have CHs661 : CHr Z consts_1 s.vm h0 s.vm T660.heap := CHs658.trans (CHr.keep K660 (sfS sf658_b648 sf0) CHs658.1)
    have hkE660 : _ ≤ T660.heap.size := Nat.le_trans hkE657 K660.1
    have f662_0 : Old Z n0 T660.heap := f659_0.keep K660 (allS gf648 all0)
    have f662_2 : Exa Z T660.heap b648 "java/lang/String" := f659_2.keep K660
    have f662_6 : Arv Z T660.heap b651 k651 .char (2 : Int32) [(.int y622.toUInt32.toUInt16.toUInt32.toInt32), (.int y623.toUInt32.toUInt16.toUInt32.toInt32)] (.int (0 : Int32)) := V657.keep K660 (ninS (Ne.symm ne651_b648) nin0)
    refine own_byH (fun _ k => st660.trans (XS.astore X660.here hx rfl (hb hby at_95) rfl rfl (l' := #[Iv p1, Iv p2, Iv p3, Iv p4, Iv p5, Iv y622, Iv y623, Iv y624, Iv y625, Iv 2, Rv b648, Uv]) rfl (XS.goto X660.here hx rfl (pc0 := 97) (pc' := 168) rfl (hb hby at_97) (by decide) (by decide) k))) ?_
    show own_FinH _ _ _ _ _ _ _ _ _ _ T660 (mkF m 168 #[Iv p1, Iv p2, Iv p3, Iv p4, Iv p5, Iv y622, Iv y623, Iv y624, Iv y625, Iv 2, Rv b648, Uv] [])
    have J230_663 : ∀ (Tj663 : State) (lj663 : List Loc) (Xj663 : Stand p l e room_1 (s.setVm s.vm) m #[(.int p1), (.int p2), (.int p3), (.int p4), (.int p5)] below meth c Tj663 lj663 4 12) (ej663 : Tj663.heap = T660.heap) (Nj663 : Fr n0 lj663) (ex : Int32) (he : ex = own_ww [y622, y623]), own_FinH p e below s Z consts_1 h0 room_1.cells room_1.slots (own_Q0 n0) Tj663 (mkF m 230 #[Iv p1, Iv p2, Iv p3, Iv p4, Iv p5, Iv y622, Iv y623, Iv y624, Iv y625, Iv 2, Rv b648, Iv ex] []) := by
      intro Tj663 lj663 Xj663 ej663 Nj663 ex he
      subst he
      show own_FinH _ _ _ _ _ _ _ _ _ _ Tj663 (mkF m 230 #[Iv p1, Iv p2, Iv p3, Iv p4, Iv p5, Iv y622, Iv y623, Iv y624, Iv y625, Iv 2, Rv b648, Iv (own_ww [y622, y623])] [])
      rcases hd660 with ⟨Gc660, V660, hk0, hk1⟩ | ⟨Gc660, V660⟩
      · show own_FinH _ _ _ _ _ _ _ _ _ _ Tj663 (mkF m 230 #[Iv p1, Iv p2, Iv p3, Iv p4, Iv p5, Iv y622, Iv y623, Iv y624, Iv y625, Iv 2, Rv b648, Iv (own_ww [y622, y623])] [])
        obtain ⟨_, _, ⟨T664, L664, k664, n664⟩, -, X664, ⟨Lc664, hQ664, l664, y664, z664⟩, st664⟩ := LawKit.callS Xj663 hx (y := mn26) hown (own_m hZ hw 28) (own_m hZ hw 29) (own_m hZ hw 30) (own_m hZ hw 31) (by decide) (backOf (W := 0) (rmIW2L l Z a0 hw [] cs gS b648 b660 k660 y622 y623 T660.heap n0 Zs660 V_env f662_0 f662_2 Gv660 Gc660 V660 ) hZ (own_g hw 31) (own_g hw 30) (by decide) (by decide)) (g := (mkF m 232 #[Iv p1, Iv p2, Iv p3, Iv p4, Iv p5, Iv y622, Iv y623, Iv y624, Iv y625, Iv 2, Rv b648, Iv (own_ww [y622, y623])] [(.ref b648)])) rfl (by rw [hml]; rfl) (argsL := [(.ref b648)]) (rest := []) (lenOf own_pd502 rfl) rfl (own_z rfl) (hb hby at_232) (fun _ _ => ⟨rfl, ej663, (by decide : 4 + 0 ≤ _), (by decide : 12 + 0 ≤ _)⟩)
        dsimp only [Pt.U, Pt.locs, Pt.cells, Pt.slots] at X664 l664 y664 z664 st664 hQ664
        subst l664 y664 z664
        obtain ⟨rfl, Nq664, eh664⟩ := hQ664
        have N664 := Fr.app Nj663 Nq664
        have pl : (own_iw (own_find ((42 : Int32).toInt8.toInt32) [y622.toInt8.toInt32, y623.toInt8.toInt32] (0 : Int32)) (own_find ((63 : Int32).toInt8.toInt32) [y622.toInt8.toInt32, y623.toInt8.toInt32] (0 : Int32))) = (own_ww [y622, y623]) := by rw [← own_pl2 y622 y623, (by decide : (42 : Int32).toInt8.toInt32 = (42 : Int32)), (by decide : (63 : Int32).toInt8.toInt32 = (63 : Int32))]; simp only [own_find, own_bch hy622 hk0 (c := (42 : Int32)) ⟨by decide, by decide⟩, own_bch hy623 hk1 (c := (42 : Int32)) ⟨by decide, by decide⟩, own_bch hy622 hk0 (c := (63 : Int32)) ⟨by decide, by decide⟩, own_bch hy623 hk1 (c := (63 : Int32)) ⟨by decide, by decide⟩]
        have CHe665 : CHr Z consts_1 s.vm h0 T664.vm T660.heap := CHs661.trans (CHv.at X664 hZ (own_EW hw) CHs661.1)
        refine own_byH (fun _ k => XS.aload Xj663.here hx rfl (hb hby at_230) rfl rfl (st664 _ (XS.iload X664.here hx rfl (hb hby at_235) rfl (XS.icmpNo X664.here hx rfl (hb hby at_237) rfl (teq pl).2 (XS.iconst X664.here hx rfl (hb hby at_240) (XS.goto X664.here hx rfl (pc0 := 241) (pc' := 245) rfl (hb hby at_241) (by decide) (by decide) k)))))) ?_
        exact own_retZH X664 hS0 (by rw [eh664]; exact hkE660) (by rw [eh664]; exact CHe665) hx hlk (t := .boolean) Bd.returns (by simp) (hb hby at_245) ⟨rfl, N664⟩ (by decide) (by decide)
      · show own_FinH _ _ _ _ _ _ _ _ _ _ Tj663 (mkF m 230 #[Iv p1, Iv p2, Iv p3, Iv p4, Iv p5, Iv y622, Iv y623, Iv y624, Iv y625, Iv 2, Rv b648, Iv (own_ww [y622, y623])] [])
        obtain ⟨_, _, ⟨T666, L666, k666, n666⟩, -, X666, ⟨Lc666, hQ666, l666, y666, z666⟩, st666⟩ := LawKit.callS Xj663 hx (y := mn26) hown (own_m hZ hw 28) (own_m hZ hw 29) (own_m hZ hw 30) (own_m hZ hw 31) (by decide) (backOf (W := 0) (rmIW2U l Z a0 hw [] cs gS b648 b660 k660 y622 y623 T660.heap n0 Zs660 V_env f662_0 f662_2 Gv660 Gc660 V660 hy622 hy623) hZ (own_g hw 31) (own_g hw 30) (by decide) (by decide)) (g := (mkF m 232 #[Iv p1, Iv p2, Iv p3, Iv p4, Iv p5, Iv y622, Iv y623, Iv y624, Iv y625, Iv 2, Rv b648, Iv (own_ww [y622, y623])] [(.ref b648)])) rfl (by rw [hml]; rfl) (argsL := [(.ref b648)]) (rest := []) (lenOf own_pd502 rfl) rfl (own_z rfl) (hb hby at_232) (fun _ _ => ⟨rfl, ej663, (by decide : 4 + 0 ≤ _), (by decide : 12 + 0 ≤ _)⟩)
        dsimp only [Pt.U, Pt.locs, Pt.cells, Pt.slots] at X666 l666 y666 z666 st666 hQ666
        subst l666 y666 z666
        obtain ⟨rfl, Nq666, eh666⟩ := hQ666
        have N666 := Fr.app Nj663 Nq666
        have pl : (own_iw (own_find (42 : Int32) [y622, y623] (0 : Int32)) (own_find (63 : Int32) [y622, y623] (0 : Int32))) = (own_ww [y622, y623]) := own_pl2 y622 y623
        have CHe667 : CHr Z consts_1 s.vm h0 T666.vm T660.heap := CHs661.trans (CHv.at X666 hZ (own_EW hw) CHs661.1)
        refine own_byH (fun _ k => XS.aload Xj663.here hx rfl (hb hby at_230) rfl rfl (st666 _ (XS.iload X666.here hx rfl (hb hby at_235) rfl (XS.icmpNo X666.here hx rfl (hb hby at_237) rfl (teq pl).2 (XS.iconst X666.here hx rfl (hb hby at_240) (XS.goto X666.here hx rfl (pc0 := 241) (pc' := 245) rfl (hb hby at_241) (by decide) (by decide) k)))))) ?_
        exact own_retZH X666 hS0 (by rw [eh666]; exact hkE660) (by rw [eh666]; exact CHe667) hx hlk (t := .boolean) Bd.returns (by simp) (hb hby at_245) ⟨rfl, N666⟩ (by decide) (by decide)
    show own_FinH _ _ _ _ _ _ _ _ _ _ T660 (mkF m 168 #[Iv p1, Iv p2, Iv p3, Iv p4, Iv p5, Iv y622, Iv y623, Iv y624, Iv y625, Iv 2, Rv b648, Uv] [])
    obtain ⟨_, _, ⟨T668, L668, k668, n668⟩, -, X668, ⟨Lc668, hQ668, l668, y668, z668⟩, st668⟩ := LawKit.callS X660 hx (y := mn1) hown (own_m hZ hw 82) (own_m hZ hw 83) (own_m hZ hw 2) (own_m hZ hw 84) (by decide) (backOf (W := 0) (rmWi l Z a0 hw [] y622 T660.heap n0 Zs660 ) hZ (own_g hw 84) (own_g hw 2) (by decide) (by decide)) (g := (mkF m 175 #[Iv p1, Iv p2, Iv p3, Iv p4, Iv p5, Iv y622, Iv y623, Iv y624, Iv y625, Iv 2, Rv b648, Uv] [(.int y622)])) rfl (by rw [hml]; rfl) (argsL := [(.int y622)]) (rest := []) (lenOf own_pd264 rfl) rfl (own_z rfl) (hb hby at_175) (fun _ _ => ⟨rfl, rfl, (by decide : 4 + 0 ≤ _), (by decide : 12 + 0 ≤ _)⟩)
    dsimp only [Pt.U, Pt.locs, Pt.cells, Pt.slots] at X668 l668 y668 z668 st668 hQ668
    subst l668 y668 z668
    obtain ⟨rfl, Nq668, eh668⟩ := hQ668
    have N668 := Fr.app N660 Nq668
    refine own_byH (fun _ k => XS.iload X660.here hx rfl (hb hby at_168) rfl (XS.ifNo X660.here hx rfl (hb hby at_170) rfl ((if0 _ _).trans (tlt (by decide : (0 : Int32) < (2 : Int32))).2.2.2) (XS.iload X660.here hx rfl (hb hby at_173) rfl (st668 _ k)))) ?_
    show own_FinH _ _ _ _ _ _ _ _ _ _ T668 (mkF m 178 #[Iv p1, Iv p2, Iv p3, Iv p4, Iv p5, Iv y622, Iv y623, Iv y624, Iv y625, Iv 2, Rv b648, Uv] [(.int (own_w y622))])
    by_cases hc178_669 : (own_w y622) = (0 : Int32)
    · show own_FinH _ _ _ _ _ _ _ _ _ _ T668 (mkF m 178 #[Iv p1, Iv p2, Iv p3, Iv p4, Iv p5, Iv y622, Iv y623, Iv y624, Iv y625, Iv 2, Rv b648, Uv] [(.int (own_w y622))])
      obtain ⟨_, _, ⟨T670, L670, k670, n670⟩, -, X670, ⟨Lc670, hQ670, l670, y670, z670⟩, st670⟩ := LawKit.callS X668 hx (y := mn1) hown (own_m hZ hw 82) (own_m hZ hw 83) (own_m hZ hw 2) (own_m hZ hw 84) (by decide) (backOf (W := 0) (rmWi l Z a0 hw [] y623 T660.heap n0 Zs660 ) hZ (own_g hw 84) (own_g hw 2) (by decide) (by decide)) (g := (mkF m 189 #[Iv p1, Iv p2, Iv p3, Iv p4, Iv p5, Iv y622, Iv y623, Iv y624, Iv y625, Iv 2, Rv b648, Uv] [(.int y623)])) rfl (by rw [hml]; rfl) (argsL := [(.int y623)]) (rest := []) (lenOf own_pd264 rfl) rfl (own_z rfl) (hb hby at_189) (fun _ _ => ⟨rfl, eh668, (by decide : 4 + 0 ≤ _), (by decide : 12 + 0 ≤ _)⟩)
      dsimp only [Pt.U, Pt.locs, Pt.cells, Pt.slots] at X670 l670 y670 z670 st670 hQ670
      subst l670 y670 z670
      obtain ⟨rfl, Nq670, eh670⟩ := hQ670
      have N670 := Fr.app N668 Nq670
      refine own_byH (fun _ k => XS.ifNo X668.here hx rfl (hb hby at_178) rfl ((if0 _ _).trans (teq hc178_669).2) (XS.iload X668.here hx rfl (hb hby at_181) rfl (XS.iconst X668.here hx rfl (hb hby at_183) (XS.icmpNo X668.here hx rfl (hb hby at_184) rfl (tlt (by decide : (1 : Int32) < (2 : Int32))).2.2.2 (XS.iload X668.here hx rfl (hb hby at_187) rfl (st670 _ k)))))) ?_
      show own_FinH _ _ _ _ _ _ _ _ _ _ T670 (mkF m 192 #[Iv p1, Iv p2, Iv p3, Iv p4, Iv p5, Iv y622, Iv y623, Iv y624, Iv y625, Iv 2, Rv b648, Uv] [(.int (own_w y623))])
      by_cases hc192_671 : (own_w y623) = (0 : Int32)
      · show own_FinH _ _ _ _ _ _ _ _ _ _ T670 (mkF m 192 #[Iv p1, Iv p2, Iv p3, Iv p4, Iv p5, Iv y622, Iv y623, Iv y624, Iv y625, Iv 2, Rv b648, Uv] [(.int (own_w y623))])
        refine own_byH (fun _ k => XS.ifNo X670.here hx rfl (hb hby at_192) rfl ((if0 _ _).trans (teq hc192_671).2) (XS.iload X670.here hx rfl (hb hby at_195) rfl (XS.iconst X670.here hx rfl (hb hby at_197) (XS.icmpYes X670.here hx rfl (pc0 := 198) (pc' := 209) rfl (hb hby at_198) rfl (flt (by decide : ¬ ((2 : Int32) < (2 : Int32)))).2.2.2 (by decide) (by decide) (XS.iload X670.here hx rfl (hb hby at_209) rfl (XS.iconst X670.here hx rfl (hb hby at_211) (XS.icmpYes X670.here hx rfl (pc0 := 212) (pc' := 227) rfl (hb hby at_212) rfl (flt (by decide : ¬ ((3 : Int32) < (2 : Int32)))).2.2.2 (by decide) (by decide) (XS.iconst X670.here hx rfl (hb hby at_227) (XS.istore X670.here hx rfl (hb hby at_228) rfl (l' := #[Iv p1, Iv p2, Iv p3, Iv p4, Iv p5, Iv y622, Iv y623, Iv y624, Iv y625, Iv 2, Rv b648, Iv 0]) rfl k))))))))) ?_
        exact J230_663 T670 _ X670 eh670 N670 ((0 : Int32)) (by simp only [own_ww, if_pos hc178_669, if_pos hc192_671])
      · show own_FinH _ _ _ _ _ _ _ _ _ _ T670 (mkF m 192 #[Iv p1, Iv p2, Iv p3, Iv p4, Iv p5, Iv y622, Iv y623, Iv y624, Iv y625, Iv 2, Rv b648, Uv] [(.int (own_w y623))])
        refine own_byH (fun _ k => XS.ifYes X670.here hx rfl (pc0 := 192) (pc' := 223) rfl (hb hby at_192) rfl ((if0 _ _).trans (feq hc192_671).2) (by decide) (by decide) (XS.iconst X670.here hx rfl (hb hby at_223) (XS.goto X670.here hx rfl (pc0 := 224) (pc' := 228) rfl (hb hby at_224) (by decide) (by decide) (XS.istore X670.here hx rfl (hb hby at_228) rfl (l' := #[Iv p1, Iv p2, Iv p3, Iv p4, Iv p5, Iv y622, Iv y623, Iv y624, Iv y625, Iv 2, Rv b648, Iv 1]) rfl k)))) ?_
        exact J230_663 T670 _ X670 eh670 N670 ((1 : Int32)) (by simp only [own_ww, if_pos hc178_669, if_neg hc192_671])
    · show own_FinH _ _ _ _ _ _ _ _ _ _ T668 (mkF m 178 #[Iv p1, Iv p2, Iv p3, Iv p4, Iv p5, Iv y622, Iv y623, Iv y624, Iv y625, Iv 2, Rv b648, Uv] [(.int (own_w y622))])
      refine own_byH (fun _ k => XS.ifYes X668.here hx rfl (pc0 := 178) (pc' := 223) rfl (hb hby at_178) rfl ((if0 _ _).trans (feq hc178_669).2) (by decide) (by decide) (XS.iconst X668.here hx rfl (hb hby at_223) (XS.goto X668.here hx rfl (pc0 := 224) (pc' := 228) rfl (hb hby at_224) (by decide) (by decide) (XS.istore X668.here hx rfl (hb hby at_228) rfl (l' := #[Iv p1, Iv p2, Iv p3, Iv p4, Iv p5, Iv y622, Iv y623, Iv y624, Iv y625, Iv 2, Rv b648, Iv 1]) rfl k)))) ?_
      exact J230_663 T668 _ X668 eh668 N668 ((1 : Int32)) (by simp only [own_ww, if_neg hc178_669])
  · show own_FinH _ _ _ _ _ _ _ _ _ _ T625 (mkF m 33 #[Iv p1, Iv p2, Iv p3, Iv p4, Iv p5, Iv y622, Iv y623, Iv y624, Iv y625, Iv ((p5 &&& (2147483647 : Int32)) % (5 : Int32)), Uv, Uv] [])
    rw [hn]
    show own_FinH _ _ _ _ _ _ _ _ _ _ T625 (mkF m 33 #[Iv p1, Iv p2, Iv p3, Iv p4, Iv p5, Iv y622, Iv y623, Iv y624, Iv y625, Iv 3, Uv, Uv] [])
    refine own_byH (fun _ k => XS.iload X625.here hx rfl (hb hby at_33) rfl (XS.ifYes X625.here hx rfl (pc0 := 35) (pc' := 53) rfl (hb hby at_35) rfl ((if0 _ _).trans (feq (by decide : ¬ ((3 : Int32) = (0 : Int32)))).2) (by decide) (by decide) (XS.iload X625.here hx rfl (hb hby at_53) rfl (XS.iconst X625.here hx rfl (hb hby at_55) (XS.icmpYes X625.here hx rfl (pc0 := 56) (pc' := 69) rfl (hb hby at_56) rfl (feq (by decide : ¬ ((3 : Int32) = (1 : Int32)))).2 (by decide) (by decide) (XS.iload X625.here hx rfl (hb hby at_69) rfl (XS.iconst X625.here hx rfl (hb hby at_71) (XS.icmpYes X625.here hx rfl (pc0 := 72) (pc' := 100) rfl (hb hby at_72) rfl (feq (by decide : ¬ ((3 : Int32) = (2 : Int32)))).2 (by decide) (by decide) (XS.iload X625.here hx rfl (hb hby at_100) rfl (XS.iconst X625.here hx rfl (hb hby at_102) k)))))))))) ?_
    show own_FinH _ _ _ _ _ _ _ _ _ _ T625 (mkF m 103 #[Iv p1, Iv p2, Iv p3, Iv p4, Iv p5, Iv y622, Iv y623, Iv y624, Iv y625, Iv 3, Uv, Uv] [(.int 3), (.int 3)])
    obtain ⟨T672, h672, X672, e672, E672, A672, D672, -, st672⟩ := newO X625 hx hZ hown (own_g hw 6) (own_g hw 7) (own_g hw 8) eh625 (g := (mkF m 106 #[Iv p1, Iv p2, Iv p3, Iv p4, Iv p5, Iv y622, Iv y623, Iv y624, Iv y625, Iv 3, Uv, Uv] [])) rfl (hb hby at_106) (by decide) (by decide)
    obtain ⟨b672, g672⟩ : ∃ z, z = h0.size := ⟨_, rfl⟩
    rw [← g672] at A672 D672 st672
    have gf672 : n0 ≤ b672 := Nat.le_trans Z0 (Nat.le_of_eq g672.symm)
    have Zs672 : n0 ≤ h672.size := Nat.le_trans Z0 E672.1
    have hkE672 : _ ≤ h672.size := Nat.le_trans hk0 E672.1
    have Sf672 : Safe Z consts_1 s.vm h672 b672 := Safe.ext E672 CH0.1 (Safe.new (Nat.le_of_eq g672.symm))
    have CHs673 : CHr Z consts_1 s.vm h0 s.vm h672 := CH0.trans (CHr.ext E672 CH0.1)
    have f674_0 : Old Z n0 h672 := Od.ext E672
    have F672_value : Fld Z h672 b672 "java/lang/String" "value" "[B" .null := D672 (Or.inr (own_g hw 22)) (ty := (.array .byte)) (by decide)
    have F672_coder : Fld Z h672 b672 "java/lang/String" "coder" "B" (.int (0 : Int32)) := D672 (Or.inr (own_g hw 23)) (ty := .byte) (by decide)
    obtain ⟨T675, h675, k675, X675, e675, E675, A675, st675⟩ := newP X672 hx hZ (own_g hw 9) e672 (g := (mkF m 111 #[Iv p1, Iv p2, Iv p3, Iv p4, Iv p5, Iv y622, Iv y623, Iv y624, Iv y625, Iv 3, Uv, Uv] [(.int 3), (.ref b672), (.ref b672)])) rfl (hb hby at_111) rfl (by decide) (cap := 3) (by decide) (by decide) (by decide) (by decide)
    obtain ⟨b675, g675⟩ : ∃ z, z = h672.size := ⟨_, rfl⟩
    rw [← g675] at A675 st675
    have V675 : Arv Z h675 b675 k675 .char (3 : Int32) [(.int (0 : Int32)), (.int (0 : Int32)), (.int (0 : Int32))] (.int (0 : Int32)) := (Arv.new A675 (by decide)).pad (pad_rep [] (.int (0 : Int32)) 3)
    have ne675_b672 : b672 ≠ b675 := Nat.ne_of_lt (Nat.lt_of_lt_of_le A672.lt (Nat.le_of_eq g675.symm))
    have gf675 : n0 ≤ b675 := Nat.le_trans Zs672 (Nat.le_of_eq g675.symm)
    have Zs675 : n0 ≤ h675.size := Nat.le_trans Zs672 E675.1
    have hkE675 : _ ≤ h675.size := Nat.le_trans hkE672 E675.1
    have Sf675 : Safe Z consts_1 s.vm h675 b675 := Safe.ext E675 CHs673.1 (Safe.new (Nat.le_of_eq g675.symm))
    have sf676_b672 : Safe Z consts_1 s.vm h675 b672 := Safe.ext E675 CHs673.1 Sf672
    have CHs676 : CHr Z consts_1 s.vm h0 s.vm h675 := CHs673.trans (CHr.ext E675 CHs673.1)
    have f677_0 : Old Z n0 h675 := f674_0.ext E675
    have f677_2 : Exa Z h675 b672 "java/lang/String" := A672.ext E675
    have f677_3 : Fld Z h675 b672 "java/lang/String" "value" "[B" .null := F672_value.ext E675
    have f677_4 : Fld Z h675 b672 "java/lang/String" "coder" "B" (.int (0 : Int32)) := F672_coder.ext E675
    obtain ⟨cl678, Ar678, q678, S678, M678, H678, G678⟩ := id V675
    have hin678 : ¬ ((0 : Int32) < 0 ∨ cl678.slots.size ≤ ((0 : Int32)).toNatClampNeg) := inb_of S678 ⟨by decide, by decide⟩
    obtain ⟨T678, h678, X678, e678, W678, st678⟩ := stC X675 hx hZ e675 Ar678 (j := (0 : Int32)) hin678 (g := (mkF m 117 #[Iv p1, Iv p2, Iv p3, Iv p4, Iv p5, Iv y622, Iv y623, Iv y624, Iv y625, Iv 3, Uv, Uv] [(.int y622), (.int 0), (.ref b675), (.ref b675), (.ref b672), (.ref b672)])) rfl rfl (hb hby at_117)
    have V678 : Arv Z h678 b675 k675 .char (3 : Int32) [(.int y622.toUInt32.toUInt16.toUInt32.toInt32), (.int (0 : Int32)), (.int (0 : Int32))] (.int (0 : Int32)) := Arv.set Ar678 q678 S678 M678 H678 G678 (fits_nar_char _) W678 0 rfl (Nat.le_of_ble_eq_true rfl)
    have Zs678 : n0 ≤ h678.size := Nat.le_trans Zs675 (Keep.of_wr W678).1
    have N678 := Fr.snoc X678 N625 gf675
    have hkE678 : _ ≤ h678.size := Nat.le_trans hkE675 (Keep.of_wr W678).1
    have sf679_b672 : Safe Z consts_1 s.vm h678 b672 := Safe.wr W678 Sf675 CHs676.1 sf676_b672
    have sf679_b675 : Safe Z consts_1 s.vm h678 b675 := Safe.wr W678 Sf675 CHs676.1 Sf675
    have CHs679 : CHr Z consts_1 s.vm h0 s.vm h678 := CHs676.trans (CHr.wr W678 Sf675 CHs676.1)
    have f680_0 : Old Z n0 h678 := f677_0.wr W678 gf675
    have f680_2 : Exa Z h678 b672 "java/lang/String" := f677_2.wr W678
    have f680_3 : Fld Z h678 b672 "java/lang/String" "value" "[B" .null := f677_3.other W678 (Or.inl ne675_b672)
    have f680_4 : Fld Z h678 b672 "java/lang/String" "coder" "B" (.int (0 : Int32)) := f677_4.other W678 (Or.inl ne675_b672)
    refine own_byH (fun _ k => XS.icmpNo X625.here hx rfl (hb hby at_103) rfl (teq (by decide : (3 : Int32) = (3 : Int32))).2 (st672 _ (XS.dup X672.here hx rfl (hb hby at_109) rfl rfl (XS.iconst X672.here hx rfl (hb hby at_110) (st675 _ (XS.dup X675.here hx rfl (hb hby at_113) rfl rfl (XS.iconst X675.here hx rfl (hb hby at_114) (XS.iload X675.here hx rfl (hb hby at_115) rfl (st678 _ (XS.dup X678.here hx rfl (hb hby at_118) rfl rfl k)))))))))) ?_
    show own_FinH _ _ _ _ _ _ _ _ _ _ T678 (mkF m 119 #[Iv p1, Iv p2, Iv p3, Iv p4, Iv p5, Iv y622, Iv y623, Iv y624, Iv y625, Iv 3, Uv, Uv] [(.ref b675), (.ref b675), (.ref b672), (.ref b672)])
    obtain ⟨cl681, Ar681, q681, S681, M681, H681, G681⟩ := id V678
    have hin681 : ¬ ((1 : Int32) < 0 ∨ cl681.slots.size ≤ ((1 : Int32)).toNatClampNeg) := inb_of S681 ⟨by decide, by decide⟩
    obtain ⟨T681, h681, X681, e681, W681, st681⟩ := stC X678 hx hZ e678 Ar681 (j := (1 : Int32)) hin681 (g := (mkF m 122 #[Iv p1, Iv p2, Iv p3, Iv p4, Iv p5, Iv y622, Iv y623, Iv y624, Iv y625, Iv 3, Uv, Uv] [(.int y623), (.int 1), (.ref b675), (.ref b675), (.ref b672), (.ref b672)])) rfl rfl (hb hby at_122)
    have V681 : Arv Z h681 b675 k675 .char (3 : Int32) [(.int y622.toUInt32.toUInt16.toUInt32.toInt32), (.int y623.toUInt32.toUInt16.toUInt32.toInt32), (.int (0 : Int32))] (.int (0 : Int32)) := Arv.set Ar681 q681 S681 M681 H681 G681 (fits_nar_char _) W681 1 rfl (Nat.le_of_ble_eq_true rfl)
    have Zs681 : n0 ≤ h681.size := Nat.le_trans Zs678 (Keep.of_wr W681).1
    have N681 := Fr.snoc X681 N678 gf675
    have hkE681 : _ ≤ h681.size := Nat.le_trans hkE678 (Keep.of_wr W681).1
    have sf682_b672 : Safe Z consts_1 s.vm h681 b672 := Safe.wr W681 sf679_b675 CHs679.1 sf679_b672
    have sf682_b675 : Safe Z consts_1 s.vm h681 b675 := Safe.wr W681 sf679_b675 CHs679.1 sf679_b675
    have CHs682 : CHr Z consts_1 s.vm h0 s.vm h681 := CHs679.trans (CHr.wr W681 sf679_b675 CHs679.1)
    have f683_0 : Old Z n0 h681 := f680_0.wr W681 gf675
    have f683_2 : Exa Z h681 b672 "java/lang/String" := f680_2.wr W681
    have f683_3 : Fld Z h681 b672 "java/lang/String" "value" "[B" .null := f680_3.other W681 (Or.inl ne675_b672)
    have f683_4 : Fld Z h681 b672 "java/lang/String" "coder" "B" (.int (0 : Int32)) := f680_4.other W681 (Or.inl ne675_b672)
    obtain ⟨cl684, Ar684, q684, S684, M684, H684, G684⟩ := id V681
    have hin684 : ¬ ((2 : Int32) < 0 ∨ cl684.slots.size ≤ ((2 : Int32)).toNatClampNeg) := inb_of S684 ⟨by decide, by decide⟩
    obtain ⟨T684, h684, X684, e684, W684, st684⟩ := stC X681 hx hZ e681 Ar684 (j := (2 : Int32)) hin684 (g := (mkF m 127 #[Iv p1, Iv p2, Iv p3, Iv p4, Iv p5, Iv y622, Iv y623, Iv y624, Iv y625, Iv 3, Uv, Uv] [(.int y624), (.int 2), (.ref b675), (.ref b675), (.ref b672), (.ref b672)])) rfl rfl (hb hby at_127)
    have V684 : Arv Z h684 b675 k675 .char (3 : Int32) [(.int y622.toUInt32.toUInt16.toUInt32.toInt32), (.int y623.toUInt32.toUInt16.toUInt32.toInt32), (.int y624.toUInt32.toUInt16.toUInt32.toInt32)] (.int (0 : Int32)) := Arv.set Ar684 q684 S684 M684 H684 G684 (fits_nar_char _) W684 2 rfl (Nat.le_of_ble_eq_true rfl)
    have Zs684 : n0 ≤ h684.size := Nat.le_trans Zs681 (Keep.of_wr W684).1
    have N684 := Fr.snoc X684 N681 gf675
    have hkE684 : _ ≤ h684.size := Nat.le_trans hkE681 (Keep.of_wr W684).1
    have sf685_b672 : Safe Z consts_1 s.vm h684 b672 := Safe.wr W684 sf682_b675 CHs682.1 sf682_b672
    have sf685_b675 : Safe Z consts_1 s.vm h684 b675 := Safe.wr W684 sf682_b675 CHs682.1 sf682_b675
    have CHs685 : CHr Z consts_1 s.vm h0 s.vm h684 := CHs682.trans (CHr.wr W684 sf682_b675 CHs682.1)
    have f686_0 : Old Z n0 h684 := f683_0.wr W684 gf675
    have f686_2 : Exa Z h684 b672 "java/lang/String" := f683_2.wr W684
    have f686_3 : Fld Z h684 b672 "java/lang/String" "value" "[B" .null := f683_3.other W684 (Or.inl ne675_b672)
    have f686_4 : Fld Z h684 b672 "java/lang/String" "coder" "B" (.int (0 : Int32)) := f683_4.other W684 (Or.inl ne675_b672)
    have Vc : Arv Z h684 b675 k675 .char (3 : Int32) [(.int y622), (.int y623), (.int y624)] (.int (0 : Int32)) := by have q := V684; simp only [own_ch_c hy622, own_ch_c hy623, own_ch_c hy624] at q; exact q
    obtain ⟨_, _, ⟨T687, L687, k687, n687⟩, -, X687, ⟨Lc687, hQ687, l687, y687, z687⟩, st687⟩ := X684.specialBack hx (y := mn3) rfl hown (own_m hZ hw 10) (own_m hZ hw 11) (own_m hZ hw 12) (by decide) (backOf (W := 1) (rmYC3 l Z a0 hw [] cs gS b672 b675 k675 y622 y623 y624 h684 n0 Zs684 V_env f686_0 f686_2 f686_3 f686_4 gf672 Vc (Ne.symm ne675_b672) hy622 hy623 hy624) hZ (own_g hw 12) (own_g hw 8) (by decide) (by decide)) (g := (mkF m 128 #[Iv p1, Iv p2, Iv p3, Iv p4, Iv p5, Iv y622, Iv y623, Iv y624, Iv y625, Iv 3, Uv, Uv] [(.ref b675), (.ref b672), (.ref b672)])) rfl (by rw [hml]; rfl) (Steps.refl _) (a := b672) (argsL := [(.ref b675)]) (rest := [(.ref b672)]) (lenOf own_pd501 rfl) rfl (own_z rfl) (hb hby at_128) (fun _ _ => ⟨rfl, e684, (by decide : 2 + 2 ≤ _), (by decide : 7 + 9 ≤ _)⟩)
    dsimp only [Pt.U, Pt.locs, Pt.cells, Pt.slots] at X687 l687 y687 z687 st687 hQ687
    subst l687 y687 z687
    obtain ⟨b687, k687, rfl, Nq687, K687, Gv687, hd687⟩ := hQ687
    have N687 := Fr.app N684 Nq687
    have Zs687 : n0 ≤ T687.heap.size := Nat.le_trans Zs684 K687.1
    have sf688_b672 : Safe Z consts_1 s.vm T687.heap b672 := Safe.keep K687 (sfS sf685_b672 sf0) CHs685.1 sf685_b672
    have sf688_b675 : Safe Z consts_1 s.vm T687.heap b675 := Safe.keep K687 (sfS sf685_b672 sf0) CHs685.1 sf685_b675
    have CHs688 : CHr Z consts_1 s.vm h0 s.vm T687.heap := CHs685.trans (CHr.keep K687 (sfS sf685_b672 sf0) CHs685.1)
    have hkE687 : _ ≤ T687.heap.size := Nat.le_trans hkE684 K687.1
    have f689_0 : Old Z n0 T687.heap := f686_0.keep K687 (allS gf672 all0)
    have f689_2 : Exa Z T687.heap b672 "java/lang/String" := f686_2.keep K687
    have f689_6 : Arv Z T687.heap b675 k675 .char (3 : Int32) [(.int y622.toUInt32.toUInt16.toUInt32.toInt32), (.int y623.toUInt32.toUInt16.toUInt32.toInt32), (.int y624.toUInt32.toUInt16.toUInt32.toInt32)] (.int (0 : Int32)) := V684.keep K687 (ninS (Ne.symm ne675_b672) nin0)
    refine own_byH (fun _ k => XS.iconst X678.here hx rfl (hb hby at_119) (XS.iload X678.here hx rfl (hb hby at_120) rfl (st681 _ (XS.dup X681.here hx rfl (hb hby at_123) rfl rfl (XS.iconst X681.here hx rfl (hb hby at_124) (XS.iload X681.here hx rfl (hb hby at_125) rfl (st684 _ (st687.trans (XS.astore X687.here hx rfl (hb hby at_131) rfl rfl (l' := #[Iv p1, Iv p2, Iv p3, Iv p4, Iv p5, Iv y622, Iv y623, Iv y624, Iv y625, Iv 3, Rv b672, Uv]) rfl (XS.goto X687.here hx rfl (pc0 := 133) (pc' := 168) rfl (hb hby at_133) (by decide) (by decide) k)))))))))) ?_
    show own_FinH _ _ _ _ _ _ _ _ _ _ T687 (mkF m 168 #[Iv p1, Iv p2, Iv p3, Iv p4, Iv p5, Iv y622, Iv y623, Iv y624, Iv y625, Iv 3, Rv b672, Uv] [])
    have J230_690 : ∀ (Tj690 : State) (lj690 : List Loc) (Xj690 : Stand p l e room_1 (s.setVm s.vm) m #[(.int p1), (.int p2), (.int p3), (.int p4), (.int p5)] below meth c Tj690 lj690 4 16) (ej690 : Tj690.heap = T687.heap) (Nj690 : Fr n0 lj690) (ex : Int32) (he : ex = own_ww [y622, y623, y624]), own_FinH p e below s Z consts_1 h0 room_1.cells room_1.slots (own_Q0 n0) Tj690 (mkF m 230 #[Iv p1, Iv p2, Iv p3, Iv p4, Iv p5, Iv y622, Iv y623, Iv y624, Iv y625, Iv 3, Rv b672, Iv ex] []) := by
      intro Tj690 lj690 Xj690 ej690 Nj690 ex he
      subst he
      show own_FinH _ _ _ _ _ _ _ _ _ _ Tj690 (mkF m 230 #[Iv p1, Iv p2, Iv p3, Iv p4, Iv p5, Iv y622, Iv y623, Iv y624, Iv y625, Iv 3, Rv b672, Iv (own_ww [y622, y623, y624])] [])
      rcases hd687 with ⟨Gc687, V687, hk0, hk1, hk2⟩ | ⟨Gc687, V687⟩
      · show own_FinH _ _ _ _ _ _ _ _ _ _ Tj690 (mkF m 230 #[Iv p1, Iv p2, Iv p3, Iv p4, Iv p5, Iv y622, Iv y623, Iv y624, Iv y625, Iv 3, Rv b672, Iv (own_ww [y622, y623, y624])] [])
        obtain ⟨_, _, ⟨T691, L691, k691, n691⟩, -, X691, ⟨Lc691, hQ691, l691, y691, z691⟩, st691⟩ := LawKit.callS Xj690 hx (y := mn26) hown (own_m hZ hw 28) (own_m hZ hw 29) (own_m hZ hw 30) (own_m hZ hw 31) (by decide) (backOf (W := 0) (rmIW3L l Z a0 hw [] cs gS b672 b687 k687 y622 y623 y624 T687.heap n0 Zs687 V_env f689_0 f689_2 Gv687 Gc687 V687 ) hZ (own_g hw 31) (own_g hw 30) (by decide) (by decide)) (g := (mkF m 232 #[Iv p1, Iv p2, Iv p3, Iv p4, Iv p5, Iv y622, Iv y623, Iv y624, Iv y625, Iv 3, Rv b672, Iv (own_ww [y622, y623, y624])] [(.ref b672)])) rfl (by rw [hml]; rfl) (argsL := [(.ref b672)]) (rest := []) (lenOf own_pd502 rfl) rfl (own_z rfl) (hb hby at_232) (fun _ _ => ⟨rfl, ej690, (by decide : 4 + 0 ≤ _), (by decide : 16 + 0 ≤ _)⟩)
        dsimp only [Pt.U, Pt.locs, Pt.cells, Pt.slots] at X691 l691 y691 z691 st691 hQ691
        subst l691 y691 z691
        obtain ⟨rfl, Nq691, eh691⟩ := hQ691
        have N691 := Fr.app Nj690 Nq691
        have pl : (own_iw (own_find ((42 : Int32).toInt8.toInt32) [y622.toInt8.toInt32, y623.toInt8.toInt32, y624.toInt8.toInt32] (0 : Int32)) (own_find ((63 : Int32).toInt8.toInt32) [y622.toInt8.toInt32, y623.toInt8.toInt32, y624.toInt8.toInt32] (0 : Int32))) = (own_ww [y622, y623, y624]) := by rw [← own_pl3 y622 y623 y624, (by decide : (42 : Int32).toInt8.toInt32 = (42 : Int32)), (by decide : (63 : Int32).toInt8.toInt32 = (63 : Int32))]; simp only [own_find, own_bch hy622 hk0 (c := (42 : Int32)) ⟨by decide, by decide⟩, own_bch hy623 hk1 (c := (42 : Int32)) ⟨by decide, by decide⟩, own_bch hy624 hk2 (c := (42 : Int32)) ⟨by decide, by decide⟩, own_bch hy622 hk0 (c := (63 : Int32)) ⟨by decide, by decide⟩, own_bch hy623 hk1 (c := (63 : Int32)) ⟨by decide, by decide⟩, own_bch hy624 hk2 (c := (63 : Int32)) ⟨by decide, by decide⟩]
        have CHe692 : CHr Z consts_1 s.vm h0 T691.vm T687.heap := CHs688.trans (CHv.at X691 hZ (own_EW hw) CHs688.1)
        refine own_byH (fun _ k => XS.aload Xj690.here hx rfl (hb hby at_230) rfl rfl (st691 _ (XS.iload X691.here hx rfl (hb hby at_235) rfl (XS.icmpNo X691.here hx rfl (hb hby at_237) rfl (teq pl).2 (XS.iconst X691.here hx rfl (hb hby at_240) (XS.goto X691.here hx rfl (pc0 := 241) (pc' := 245) rfl (hb hby at_241) (by decide) (by decide) k)))))) ?_
        exact own_retZH X691 hS0 (by rw [eh691]; exact hkE687) (by rw [eh691]; exact CHe692) hx hlk (t := .boolean) Bd.returns (by simp) (hb hby at_245) ⟨rfl, N691⟩ (by decide) (by decide)
      · show own_FinH _ _ _ _ _ _ _ _ _ _ Tj690 (mkF m 230 #[Iv p1, Iv p2, Iv p3, Iv p4, Iv p5, Iv y622, Iv y623, Iv y624, Iv y625, Iv 3, Rv b672, Iv (own_ww [y622, y623, y624])] [])
        obtain ⟨_, _, ⟨T693, L693, k693, n693⟩, -, X693, ⟨Lc693, hQ693, l693, y693, z693⟩, st693⟩ := LawKit.callS Xj690 hx (y := mn26) hown (own_m hZ hw 28) (own_m hZ hw 29) (own_m hZ hw 30) (own_m hZ hw 31) (by decide) (backOf (W := 0) (rmIW3U l Z a0 hw [] cs gS b672 b687 k687 y622 y623 y624 T687.heap n0 Zs687 V_env f689_0 f689_2 Gv687 Gc687 V687 hy622 hy623 hy624) hZ (own_g hw 31) (own_g hw 30) (by decide) (by decide)) (g := (mkF m 232 #[Iv p1, Iv p2, Iv p3, Iv p4, Iv p5, Iv y622, Iv y623, Iv y624, Iv y625, Iv 3, Rv b672, Iv (own_ww [y622, y623, y624])] [(.ref b672)])) rfl (by rw [hml]; rfl) (argsL := [(.ref b672)]) (rest := []) (lenOf own_pd502 rfl) rfl (own_z rfl) (hb hby at_232) (fun _ _ => ⟨rfl, ej690, (by decide : 4 + 0 ≤ _), (by decide : 16 + 0 ≤ _)⟩)
        dsimp only [Pt.U, Pt.locs, Pt.cells, Pt.slots] at X693 l693 y693 z693 st693 hQ693
        subst l693 y693 z693
        obtain ⟨rfl, Nq693, eh693⟩ := hQ693
        have N693 := Fr.app Nj690 Nq693
        have pl : (own_iw (own_find (42 : Int32) [y622, y623, y624] (0 : Int32)) (own_find (63 : Int32) [y622, y623, y624] (0 : Int32))) = (own_ww [y622, y623, y624]) := own_pl3 y622 y623 y624
        have CHe694 : CHr Z consts_1 s.vm h0 T693.vm T687.heap := CHs688.trans (CHv.at X693 hZ (own_EW hw) CHs688.1)
        refine own_byH (fun _ k => XS.aload Xj690.here hx rfl (hb hby at_230) rfl rfl (st693 _ (XS.iload X693.here hx rfl (hb hby at_235) rfl (XS.icmpNo X693.here hx rfl (hb hby at_237) rfl (teq pl).2 (XS.iconst X693.here hx rfl (hb hby at_240) (XS.goto X693.here hx rfl (pc0 := 241) (pc' := 245) rfl (hb hby at_241) (by decide) (by decide) k)))))) ?_
        exact own_retZH X693 hS0 (by rw [eh693]; exact hkE687) (by rw [eh693]; exact CHe694) hx hlk (t := .boolean) Bd.returns (by simp) (hb hby at_245) ⟨rfl, N693⟩ (by decide) (by decide)
    show own_FinH _ _ _ _ _ _ _ _ _ _ T687 (mkF m 168 #[Iv p1, Iv p2, Iv p3, Iv p4, Iv p5, Iv y622, Iv y623, Iv y624, Iv y625, Iv 3, Rv b672, Uv] [])
    obtain ⟨_, _, ⟨T695, L695, k695, n695⟩, -, X695, ⟨Lc695, hQ695, l695, y695, z695⟩, st695⟩ := LawKit.callS X687 hx (y := mn1) hown (own_m hZ hw 82) (own_m hZ hw 83) (own_m hZ hw 2) (own_m hZ hw 84) (by decide) (backOf (W := 0) (rmWi l Z a0 hw [] y622 T687.heap n0 Zs687 ) hZ (own_g hw 84) (own_g hw 2) (by decide) (by decide)) (g := (mkF m 175 #[Iv p1, Iv p2, Iv p3, Iv p4, Iv p5, Iv y622, Iv y623, Iv y624, Iv y625, Iv 3, Rv b672, Uv] [(.int y622)])) rfl (by rw [hml]; rfl) (argsL := [(.int y622)]) (rest := []) (lenOf own_pd264 rfl) rfl (own_z rfl) (hb hby at_175) (fun _ _ => ⟨rfl, rfl, (by decide : 4 + 0 ≤ _), (by decide : 16 + 0 ≤ _)⟩)
    dsimp only [Pt.U, Pt.locs, Pt.cells, Pt.slots] at X695 l695 y695 z695 st695 hQ695
    subst l695 y695 z695
    obtain ⟨rfl, Nq695, eh695⟩ := hQ695
    have N695 := Fr.app N687 Nq695
    refine own_byH (fun _ k => XS.iload X687.here hx rfl (hb hby at_168) rfl (XS.ifNo X687.here hx rfl (hb hby at_170) rfl ((if0 _ _).trans (tlt (by decide : (0 : Int32) < (3 : Int32))).2.2.2) (XS.iload X687.here hx rfl (hb hby at_173) rfl (st695 _ k)))) ?_
    show own_FinH _ _ _ _ _ _ _ _ _ _ T695 (mkF m 178 #[Iv p1, Iv p2, Iv p3, Iv p4, Iv p5, Iv y622, Iv y623, Iv y624, Iv y625, Iv 3, Rv b672, Uv] [(.int (own_w y622))])
    by_cases hc178_696 : (own_w y622) = (0 : Int32)
    · show own_FinH _ _ _ _ _ _ _ _ _ _ T695 (mkF m 178 #[Iv p1, Iv p2, Iv p3, Iv p4, Iv p5, Iv y622, Iv y623, Iv y624, Iv y625, Iv 3, Rv b672, Uv] [(.int (own_w y622))])
      obtain ⟨_, _, ⟨T697, L697, k697, n697⟩, -, X697, ⟨Lc697, hQ697, l697, y697, z697⟩, st697⟩ := LawKit.callS X695 hx (y := mn1) hown (own_m hZ hw 82) (own_m hZ hw 83) (own_m hZ hw 2) (own_m hZ hw 84) (by decide) (backOf (W := 0) (rmWi l Z a0 hw [] y623 T687.heap n0 Zs687 ) hZ (own_g hw 84) (own_g hw 2) (by decide) (by decide)) (g := (mkF m 189 #[Iv p1, Iv p2, Iv p3, Iv p4, Iv p5, Iv y622, Iv y623, Iv y624, Iv y625, Iv 3, Rv b672, Uv] [(.int y623)])) rfl (by rw [hml]; rfl) (argsL := [(.int y623)]) (rest := []) (lenOf own_pd264 rfl) rfl (own_z rfl) (hb hby at_189) (fun _ _ => ⟨rfl, eh695, (by decide : 4 + 0 ≤ _), (by decide : 16 + 0 ≤ _)⟩)
      dsimp only [Pt.U, Pt.locs, Pt.cells, Pt.slots] at X697 l697 y697 z697 st697 hQ697
      subst l697 y697 z697
      obtain ⟨rfl, Nq697, eh697⟩ := hQ697
      have N697 := Fr.app N695 Nq697
      refine own_byH (fun _ k => XS.ifNo X695.here hx rfl (hb hby at_178) rfl ((if0 _ _).trans (teq hc178_696).2) (XS.iload X695.here hx rfl (hb hby at_181) rfl (XS.iconst X695.here hx rfl (hb hby at_183) (XS.icmpNo X695.here hx rfl (hb hby at_184) rfl (tlt (by decide : (1 : Int32) < (3 : Int32))).2.2.2 (XS.iload X695.here hx rfl (hb hby at_187) rfl (st697 _ k)))))) ?_
      show own_FinH _ _ _ _ _ _ _ _ _ _ T697 (mkF m 192 #[Iv p1, Iv p2, Iv p3, Iv p4, Iv p5, Iv y622, Iv y623, Iv y624, Iv y625, Iv 3, Rv b672, Uv] [(.int (own_w y623))])
      by_cases hc192_698 : (own_w y623) = (0 : Int32)
      · show own_FinH _ _ _ _ _ _ _ _ _ _ T697 (mkF m 192 #[Iv p1, Iv p2, Iv p3, Iv p4, Iv p5, Iv y622, Iv y623, Iv y624, Iv y625, Iv 3, Rv b672, Uv] [(.int (own_w y623))])
        obtain ⟨_, _, ⟨T699, L699, k699, n699⟩, -, X699, ⟨Lc699, hQ699, l699, y699, z699⟩, st699⟩ := LawKit.callS X697 hx (y := mn1) hown (own_m hZ hw 82) (own_m hZ hw 83) (own_m hZ hw 2) (own_m hZ hw 84) (by decide) (backOf (W := 0) (rmWi l Z a0 hw [] y624 T687.heap n0 Zs687 ) hZ (own_g hw 84) (own_g hw 2) (by decide) (by decide)) (g := (mkF m 203 #[Iv p1, Iv p2, Iv p3, Iv p4, Iv p5, Iv y622, Iv y623, Iv y624, Iv y625, Iv 3, Rv b672, Uv] [(.int y624)])) rfl (by rw [hml]; rfl) (argsL := [(.int y624)]) (rest := []) (lenOf own_pd264 rfl) rfl (own_z rfl) (hb hby at_203) (fun _ _ => ⟨rfl, eh697, (by decide : 4 + 0 ≤ _), (by decide : 16 + 0 ≤ _)⟩)
        dsimp only [Pt.U, Pt.locs, Pt.cells, Pt.slots] at X699 l699 y699 z699 st699 hQ699
        subst l699 y699 z699
        obtain ⟨rfl, Nq699, eh699⟩ := hQ699
        have N699 := Fr.app N697 Nq699
        refine own_byH (fun _ k => XS.ifNo X697.here hx rfl (hb hby at_192) rfl ((if0 _ _).trans (teq hc192_698).2) (XS.iload X697.here hx rfl (hb hby at_195) rfl (XS.iconst X697.here hx rfl (hb hby at_197) (XS.icmpNo X697.here hx rfl (hb hby at_198) rfl (tlt (by decide : (2 : Int32) < (3 : Int32))).2.2.2 (XS.iload X697.here hx rfl (hb hby at_201) rfl (st699 _ k)))))) ?_
        show own_FinH _ _ _ _ _ _ _ _ _ _ T699 (mkF m 206 #[Iv p1, Iv p2, Iv p3, Iv p4, Iv p5, Iv y622, Iv y623, Iv y624, Iv y625, Iv 3, Rv b672, Uv] [(.int (own_w y624))])
        by_cases hc206_700 : (own_w y624) = (0 : Int32)
        · show own_FinH _ _ _ _ _ _ _ _ _ _ T699 (mkF m 206 #[Iv p1, Iv p2, Iv p3, Iv p4, Iv p5, Iv y622, Iv y623, Iv y624, Iv y625, Iv 3, Rv b672, Uv] [(.int (own_w y624))])
          refine own_byH (fun _ k => XS.ifNo X699.here hx rfl (hb hby at_206) rfl ((if0 _ _).trans (teq hc206_700).2) (XS.iload X699.here hx rfl (hb hby at_209) rfl (XS.iconst X699.here hx rfl (hb hby at_211) (XS.icmpYes X699.here hx rfl (pc0 := 212) (pc' := 227) rfl (hb hby at_212) rfl (flt (by decide : ¬ ((3 : Int32) < (3 : Int32)))).2.2.2 (by decide) (by decide) (XS.iconst X699.here hx rfl (hb hby at_227) (XS.istore X699.here hx rfl (hb hby at_228) rfl (l' := #[Iv p1, Iv p2, Iv p3, Iv p4, Iv p5, Iv y622, Iv y623, Iv y624, Iv y625, Iv 3, Rv b672, Iv 0]) rfl k)))))) ?_
          exact J230_690 T699 _ X699 eh699 N699 ((0 : Int32)) (by simp only [own_ww, if_pos hc178_696, if_pos hc192_698, if_pos hc206_700])
        · show own_FinH _ _ _ _ _ _ _ _ _ _ T699 (mkF m 206 #[Iv p1, Iv p2, Iv p3, Iv p4, Iv p5, Iv y622, Iv y623, Iv y624, Iv y625, Iv 3, Rv b672, Uv] [(.int (own_w y624))])
          refine own_byH (fun _ k => XS.ifYes X699.here hx rfl (pc0 := 206) (pc' := 223) rfl (hb hby at_206) rfl ((if0 _ _).trans (feq hc206_700).2) (by decide) (by decide) (XS.iconst X699.here hx rfl (hb hby at_223) (XS.goto X699.here hx rfl (pc0 := 224) (pc' := 228) rfl (hb hby at_224) (by decide) (by decide) (XS.istore X699.here hx rfl (hb hby at_228) rfl (l' := #[Iv p1, Iv p2, Iv p3, Iv p4, Iv p5, Iv y622, Iv y623, Iv y624, Iv y625, Iv 3, Rv b672, Iv 1]) rfl k)))) ?_
          exact J230_690 T699 _ X699 eh699 N699 ((1 : Int32)) (by simp only [own_ww, if_pos hc178_696, if_pos hc192_698, if_neg hc206_700])
      · show own_FinH _ _ _ _ _ _ _ _ _ _ T697 (mkF m 192 #[Iv p1, Iv p2, Iv p3, Iv p4, Iv p5, Iv y622, Iv y623, Iv y624, Iv y625, Iv 3, Rv b672, Uv] [(.int (own_w y623))])
        refine own_byH (fun _ k => XS.ifYes X697.here hx rfl (pc0 := 192) (pc' := 223) rfl (hb hby at_192) rfl ((if0 _ _).trans (feq hc192_698).2) (by decide) (by decide) (XS.iconst X697.here hx rfl (hb hby at_223) (XS.goto X697.here hx rfl (pc0 := 224) (pc' := 228) rfl (hb hby at_224) (by decide) (by decide) (XS.istore X697.here hx rfl (hb hby at_228) rfl (l' := #[Iv p1, Iv p2, Iv p3, Iv p4, Iv p5, Iv y622, Iv y623, Iv y624, Iv y625, Iv 3, Rv b672, Iv 1]) rfl k)))) ?_
        exact J230_690 T697 _ X697 eh697 N697 ((1 : Int32)) (by simp only [own_ww, if_pos hc178_696, if_neg hc192_698])
    · show own_FinH _ _ _ _ _ _ _ _ _ _ T695 (mkF m 178 #[Iv p1, Iv p2, Iv p3, Iv p4, Iv p5, Iv y622, Iv y623, Iv y624, Iv y625, Iv 3, Rv b672, Uv] [(.int (own_w y622))])
      refine own_byH (fun _ k => XS.ifYes X695.here hx rfl (pc0 := 178) (pc' := 223) rfl (hb hby at_178) rfl ((if0 _ _).trans (feq hc178_696).2) (by decide) (by decide) (XS.iconst X695.here hx rfl (hb hby at_223) (XS.goto X695.here hx rfl (pc0 := 224) (pc' := 228) rfl (hb hby at_224) (by decide) (by decide) (XS.istore X695.here hx rfl (hb hby at_228) rfl (l' := #[Iv p1, Iv p2, Iv p3, Iv p4, Iv p5, Iv y622, Iv y623, Iv y624, Iv y625, Iv 3, Rv b672, Iv 1]) rfl k)))) ?_
      exact J230_690 T695 _ X695 eh695 N695 ((1 : Int32)) (by simp only [own_ww, if_neg hc178_696])
  · show own_FinH _ _ _ _ _ _ _ _ _ _ T625 (mkF m 33 #[Iv p1, Iv p2, Iv p3, Iv p4, Iv p5, Iv y622, Iv y623, Iv y624, Iv y625, Iv ((p5 &&& (2147483647 : Int32)) % (5 : Int32)), Uv, Uv] [])
    rw [hn]
    show own_FinH _ _ _ _ _ _ _ _ _ _ T625 (mkF m 33 #[Iv p1, Iv p2, Iv p3, Iv p4, Iv p5, Iv y622, Iv y623, Iv y624, Iv y625, Iv 4, Uv, Uv] [])
    refine own_byH (fun _ k => XS.iload X625.here hx rfl (hb hby at_33) rfl (XS.ifYes X625.here hx rfl (pc0 := 35) (pc' := 53) rfl (hb hby at_35) rfl ((if0 _ _).trans (feq (by decide : ¬ ((4 : Int32) = (0 : Int32)))).2) (by decide) (by decide) (XS.iload X625.here hx rfl (hb hby at_53) rfl (XS.iconst X625.here hx rfl (hb hby at_55) (XS.icmpYes X625.here hx rfl (pc0 := 56) (pc' := 69) rfl (hb hby at_56) rfl (feq (by decide : ¬ ((4 : Int32) = (1 : Int32)))).2 (by decide) (by decide) (XS.iload X625.here hx rfl (hb hby at_69) rfl (XS.iconst X625.here hx rfl (hb hby at_71) (XS.icmpYes X625.here hx rfl (pc0 := 72) (pc' := 100) rfl (hb hby at_72) rfl (feq (by decide : ¬ ((4 : Int32) = (2 : Int32)))).2 (by decide) (by decide) (XS.iload X625.here hx rfl (hb hby at_100) rfl (XS.iconst X625.here hx rfl (hb hby at_102) k)))))))))) ?_
    show own_FinH _ _ _ _ _ _ _ _ _ _ T625 (mkF m 103 #[Iv p1, Iv p2, Iv p3, Iv p4, Iv p5, Iv y622, Iv y623, Iv y624, Iv y625, Iv 4, Uv, Uv] [(.int 3), (.int 4)])
    obtain ⟨T701, h701, X701, e701, E701, A701, D701, -, st701⟩ := newO X625 hx hZ hown (own_g hw 6) (own_g hw 7) (own_g hw 8) eh625 (g := (mkF m 136 #[Iv p1, Iv p2, Iv p3, Iv p4, Iv p5, Iv y622, Iv y623, Iv y624, Iv y625, Iv 4, Uv, Uv] [])) rfl (hb hby at_136) (by decide) (by decide)
    obtain ⟨b701, g701⟩ : ∃ z, z = h0.size := ⟨_, rfl⟩
    rw [← g701] at A701 D701 st701
    have gf701 : n0 ≤ b701 := Nat.le_trans Z0 (Nat.le_of_eq g701.symm)
    have Zs701 : n0 ≤ h701.size := Nat.le_trans Z0 E701.1
    have hkE701 : _ ≤ h701.size := Nat.le_trans hk0 E701.1
    have Sf701 : Safe Z consts_1 s.vm h701 b701 := Safe.ext E701 CH0.1 (Safe.new (Nat.le_of_eq g701.symm))
    have CHs702 : CHr Z consts_1 s.vm h0 s.vm h701 := CH0.trans (CHr.ext E701 CH0.1)
    have f703_0 : Old Z n0 h701 := Od.ext E701
    have F701_value : Fld Z h701 b701 "java/lang/String" "value" "[B" .null := D701 (Or.inr (own_g hw 22)) (ty := (.array .byte)) (by decide)
    have F701_coder : Fld Z h701 b701 "java/lang/String" "coder" "B" (.int (0 : Int32)) := D701 (Or.inr (own_g hw 23)) (ty := .byte) (by decide)
    obtain ⟨T704, h704, k704, X704, e704, E704, A704, st704⟩ := newP X701 hx hZ (own_g hw 9) e701 (g := (mkF m 141 #[Iv p1, Iv p2, Iv p3, Iv p4, Iv p5, Iv y622, Iv y623, Iv y624, Iv y625, Iv 4, Uv, Uv] [(.int 4), (.ref b701), (.ref b701)])) rfl (hb hby at_141) rfl (by decide) (cap := 4) (by decide) (by decide) (by decide) (by decide)
    obtain ⟨b704, g704⟩ : ∃ z, z = h701.size := ⟨_, rfl⟩
    rw [← g704] at A704 st704
    have V704 : Arv Z h704 b704 k704 .char (4 : Int32) [(.int (0 : Int32)), (.int (0 : Int32)), (.int (0 : Int32)), (.int (0 : Int32))] (.int (0 : Int32)) := (Arv.new A704 (by decide)).pad (pad_rep [] (.int (0 : Int32)) 4)
    have ne704_b701 : b701 ≠ b704 := Nat.ne_of_lt (Nat.lt_of_lt_of_le A701.lt (Nat.le_of_eq g704.symm))
    have gf704 : n0 ≤ b704 := Nat.le_trans Zs701 (Nat.le_of_eq g704.symm)
    have Zs704 : n0 ≤ h704.size := Nat.le_trans Zs701 E704.1
    have hkE704 : _ ≤ h704.size := Nat.le_trans hkE701 E704.1
    have Sf704 : Safe Z consts_1 s.vm h704 b704 := Safe.ext E704 CHs702.1 (Safe.new (Nat.le_of_eq g704.symm))
    have sf705_b701 : Safe Z consts_1 s.vm h704 b701 := Safe.ext E704 CHs702.1 Sf701
    have CHs705 : CHr Z consts_1 s.vm h0 s.vm h704 := CHs702.trans (CHr.ext E704 CHs702.1)
    have f706_0 : Old Z n0 h704 := f703_0.ext E704
    have f706_2 : Exa Z h704 b701 "java/lang/String" := A701.ext E704
    have f706_3 : Fld Z h704 b701 "java/lang/String" "value" "[B" .null := F701_value.ext E704
    have f706_4 : Fld Z h704 b701 "java/lang/String" "coder" "B" (.int (0 : Int32)) := F701_coder.ext E704
    obtain ⟨cl707, Ar707, q707, S707, M707, H707, G707⟩ := id V704
    have hin707 : ¬ ((0 : Int32) < 0 ∨ cl707.slots.size ≤ ((0 : Int32)).toNatClampNeg) := inb_of S707 ⟨by decide, by decide⟩
    obtain ⟨T707, h707, X707, e707, W707, st707⟩ := stC X704 hx hZ e704 Ar707 (j := (0 : Int32)) hin707 (g := (mkF m 147 #[Iv p1, Iv p2, Iv p3, Iv p4, Iv p5, Iv y622, Iv y623, Iv y624, Iv y625, Iv 4, Uv, Uv] [(.int y622), (.int 0), (.ref b704), (.ref b704), (.ref b701), (.ref b701)])) rfl rfl (hb hby at_147)
    have V707 : Arv Z h707 b704 k704 .char (4 : Int32) [(.int y622.toUInt32.toUInt16.toUInt32.toInt32), (.int (0 : Int32)), (.int (0 : Int32)), (.int (0 : Int32))] (.int (0 : Int32)) := Arv.set Ar707 q707 S707 M707 H707 G707 (fits_nar_char _) W707 0 rfl (Nat.le_of_ble_eq_true rfl)
    have Zs707 : n0 ≤ h707.size := Nat.le_trans Zs704 (Keep.of_wr W707).1
    have N707 := Fr.snoc X707 N625 gf704
    have hkE707 : _ ≤ h707.size := Nat.le_trans hkE704 (Keep.of_wr W707).1
    have sf708_b701 : Safe Z consts_1 s.vm h707 b701 := Safe.wr W707 Sf704 CHs705.1 sf705_b701
    have sf708_b704 : Safe Z consts_1 s.vm h707 b704 := Safe.wr W707 Sf704 CHs705.1 Sf704
    have CHs708 : CHr Z consts_1 s.vm h0 s.vm h707 := CHs705.trans (CHr.wr W707 Sf704 CHs705.1)
    have f709_0 : Old Z n0 h707 := f706_0.wr W707 gf704
    have f709_2 : Exa Z h707 b701 "java/lang/String" := f706_2.wr W707
    have f709_3 : Fld Z h707 b701 "java/lang/String" "value" "[B" .null := f706_3.other W707 (Or.inl ne704_b701)
    have f709_4 : Fld Z h707 b701 "java/lang/String" "coder" "B" (.int (0 : Int32)) := f706_4.other W707 (Or.inl ne704_b701)
    refine own_byH (fun _ k => XS.icmpYes X625.here hx rfl (pc0 := 103) (pc' := 136) rfl (hb hby at_103) rfl (feq (by decide : ¬ ((4 : Int32) = (3 : Int32)))).2 (by decide) (by decide) (st701 _ (XS.dup X701.here hx rfl (hb hby at_139) rfl rfl (XS.iconst X701.here hx rfl (hb hby at_140) (st704 _ (XS.dup X704.here hx rfl (hb hby at_143) rfl rfl (XS.iconst X704.here hx rfl (hb hby at_144) (XS.iload X704.here hx rfl (hb hby at_145) rfl (st707 _ (XS.dup X707.here hx rfl (hb hby at_148) rfl rfl k)))))))))) ?_
    show own_FinH _ _ _ _ _ _ _ _ _ _ T707 (mkF m 149 #[Iv p1, Iv p2, Iv p3, Iv p4, Iv p5, Iv y622, Iv y623, Iv y624, Iv y625, Iv 4, Uv, Uv] [(.ref b704), (.ref b704), (.ref b701), (.ref b701)])
    obtain ⟨cl710, Ar710, q710, S710, M710, H710, G710⟩ := id V707
    have hin710 : ¬ ((1 : Int32) < 0 ∨ cl710.slots.size ≤ ((1 : Int32)).toNatClampNeg) := inb_of S710 ⟨by decide, by decide⟩
    obtain ⟨T710, h710, X710, e710, W710, st710⟩ := stC X707 hx hZ e707 Ar710 (j := (1 : Int32)) hin710 (g := (mkF m 152 #[Iv p1, Iv p2, Iv p3, Iv p4, Iv p5, Iv y622, Iv y623, Iv y624, Iv y625, Iv 4, Uv, Uv] [(.int y623), (.int 1), (.ref b704), (.ref b704), (.ref b701), (.ref b701)])) rfl rfl (hb hby at_152)
    have V710 : Arv Z h710 b704 k704 .char (4 : Int32) [(.int y622.toUInt32.toUInt16.toUInt32.toInt32), (.int y623.toUInt32.toUInt16.toUInt32.toInt32), (.int (0 : Int32)), (.int (0 : Int32))] (.int (0 : Int32)) := Arv.set Ar710 q710 S710 M710 H710 G710 (fits_nar_char _) W710 1 rfl (Nat.le_of_ble_eq_true rfl)
    have Zs710 : n0 ≤ h710.size := Nat.le_trans Zs707 (Keep.of_wr W710).1
    have N710 := Fr.snoc X710 N707 gf704
    have hkE710 : _ ≤ h710.size := Nat.le_trans hkE707 (Keep.of_wr W710).1
    have sf711_b701 : Safe Z consts_1 s.vm h710 b701 := Safe.wr W710 sf708_b704 CHs708.1 sf708_b701
    have sf711_b704 : Safe Z consts_1 s.vm h710 b704 := Safe.wr W710 sf708_b704 CHs708.1 sf708_b704
    have CHs711 : CHr Z consts_1 s.vm h0 s.vm h710 := CHs708.trans (CHr.wr W710 sf708_b704 CHs708.1)
    have f712_0 : Old Z n0 h710 := f709_0.wr W710 gf704
    have f712_2 : Exa Z h710 b701 "java/lang/String" := f709_2.wr W710
    have f712_3 : Fld Z h710 b701 "java/lang/String" "value" "[B" .null := f709_3.other W710 (Or.inl ne704_b701)
    have f712_4 : Fld Z h710 b701 "java/lang/String" "coder" "B" (.int (0 : Int32)) := f709_4.other W710 (Or.inl ne704_b701)
    obtain ⟨cl713, Ar713, q713, S713, M713, H713, G713⟩ := id V710
    have hin713 : ¬ ((2 : Int32) < 0 ∨ cl713.slots.size ≤ ((2 : Int32)).toNatClampNeg) := inb_of S713 ⟨by decide, by decide⟩
    obtain ⟨T713, h713, X713, e713, W713, st713⟩ := stC X710 hx hZ e710 Ar713 (j := (2 : Int32)) hin713 (g := (mkF m 157 #[Iv p1, Iv p2, Iv p3, Iv p4, Iv p5, Iv y622, Iv y623, Iv y624, Iv y625, Iv 4, Uv, Uv] [(.int y624), (.int 2), (.ref b704), (.ref b704), (.ref b701), (.ref b701)])) rfl rfl (hb hby at_157)
    have V713 : Arv Z h713 b704 k704 .char (4 : Int32) [(.int y622.toUInt32.toUInt16.toUInt32.toInt32), (.int y623.toUInt32.toUInt16.toUInt32.toInt32), (.int y624.toUInt32.toUInt16.toUInt32.toInt32), (.int (0 : Int32))] (.int (0 : Int32)) := Arv.set Ar713 q713 S713 M713 H713 G713 (fits_nar_char _) W713 2 rfl (Nat.le_of_ble_eq_true rfl)
    have Zs713 : n0 ≤ h713.size := Nat.le_trans Zs710 (Keep.of_wr W713).1
    have N713 := Fr.snoc X713 N710 gf704
    have hkE713 : _ ≤ h713.size := Nat.le_trans hkE710 (Keep.of_wr W713).1
    have sf714_b701 : Safe Z consts_1 s.vm h713 b701 := Safe.wr W713 sf711_b704 CHs711.1 sf711_b701
    have sf714_b704 : Safe Z consts_1 s.vm h713 b704 := Safe.wr W713 sf711_b704 CHs711.1 sf711_b704
    have CHs714 : CHr Z consts_1 s.vm h0 s.vm h713 := CHs711.trans (CHr.wr W713 sf711_b704 CHs711.1)
    have f715_0 : Old Z n0 h713 := f712_0.wr W713 gf704
    have f715_2 : Exa Z h713 b701 "java/lang/String" := f712_2.wr W713
    have f715_3 : Fld Z h713 b701 "java/lang/String" "value" "[B" .null := f712_3.other W713 (Or.inl ne704_b701)
    have f715_4 : Fld Z h713 b701 "java/lang/String" "coder" "B" (.int (0 : Int32)) := f712_4.other W713 (Or.inl ne704_b701)
    obtain ⟨cl716, Ar716, q716, S716, M716, H716, G716⟩ := id V713
    have hin716 : ¬ ((3 : Int32) < 0 ∨ cl716.slots.size ≤ ((3 : Int32)).toNatClampNeg) := inb_of S716 ⟨by decide, by decide⟩
    obtain ⟨T716, h716, X716, e716, W716, st716⟩ := stC X713 hx hZ e713 Ar716 (j := (3 : Int32)) hin716 (g := (mkF m 162 #[Iv p1, Iv p2, Iv p3, Iv p4, Iv p5, Iv y622, Iv y623, Iv y624, Iv y625, Iv 4, Uv, Uv] [(.int y625), (.int 3), (.ref b704), (.ref b704), (.ref b701), (.ref b701)])) rfl rfl (hb hby at_162)
    refine own_byH (fun _ k => XS.iconst X707.here hx rfl (hb hby at_149) (XS.iload X707.here hx rfl (hb hby at_150) rfl (st710 _ (XS.dup X710.here hx rfl (hb hby at_153) rfl rfl (XS.iconst X710.here hx rfl (hb hby at_154) (XS.iload X710.here hx rfl (hb hby at_155) rfl (st713 _ (XS.dup X713.here hx rfl (hb hby at_158) rfl rfl (XS.iconst X713.here hx rfl (hb hby at_159) (XS.iload X713.here hx rfl (hb hby at_160) rfl k)))))))))) ?_
    show own_FinH _ _ _ _ _ _ _ _ _ _ T713 (mkF m 162 #[Iv p1, Iv p2, Iv p3, Iv p4, Iv p5, Iv y622, Iv y623, Iv y624, Iv y625, Iv 4, Uv, Uv] [(.int y625), (.int 3), (.ref b704), (.ref b704), (.ref b701), (.ref b701)])
    have V716 : Arv Z h716 b704 k704 .char (4 : Int32) [(.int y622.toUInt32.toUInt16.toUInt32.toInt32), (.int y623.toUInt32.toUInt16.toUInt32.toInt32), (.int y624.toUInt32.toUInt16.toUInt32.toInt32), (.int y625.toUInt32.toUInt16.toUInt32.toInt32)] (.int (0 : Int32)) := Arv.set Ar716 q716 S716 M716 H716 G716 (fits_nar_char _) W716 3 rfl (Nat.le_of_ble_eq_true rfl)
    have Zs716 : n0 ≤ h716.size := Nat.le_trans Zs713 (Keep.of_wr W716).1
    have N716 := Fr.snoc X716 N713 gf704
    have hkE716 : _ ≤ h716.size := Nat.le_trans hkE713 (Keep.of_wr W716).1
    have sf717_b701 : Safe Z consts_1 s.vm h716 b701 := Safe.wr W716 sf714_b704 CHs714.1 sf714_b701
    have sf717_b704 : Safe Z consts_1 s.vm h716 b704 := Safe.wr W716 sf714_b704 CHs714.1 sf714_b704
    have CHs717 : CHr Z consts_1 s.vm h0 s.vm h716 := CHs714.trans (CHr.wr W716 sf714_b704 CHs714.1)
    have f718_0 : Old Z n0 h716 := f715_0.wr W716 gf704
    have f718_2 : Exa Z h716 b701 "java/lang/String" := f715_2.wr W716
    have f718_3 : Fld Z h716 b701 "java/lang/String" "value" "[B" .null := f715_3.other W716 (Or.inl ne704_b701)
    have f718_4 : Fld Z h716 b701 "java/lang/String" "coder" "B" (.int (0 : Int32)) := f715_4.other W716 (Or.inl ne704_b701)
    have Vc : Arv Z h716 b704 k704 .char (4 : Int32) [(.int y622), (.int y623), (.int y624), (.int y625)] (.int (0 : Int32)) := by have q := V716; simp only [own_ch_c hy622, own_ch_c hy623, own_ch_c hy624, own_ch_c hy625] at q; exact q
    obtain ⟨_, _, ⟨T719, L719, k719, n719⟩, -, X719, ⟨Lc719, hQ719, l719, y719, z719⟩, st719⟩ := X716.specialBack hx (y := mn3) rfl hown (own_m hZ hw 10) (own_m hZ hw 11) (own_m hZ hw 12) (by decide) (backOf (W := 1) (rmYC4 l Z a0 hw [] cs gS b701 b704 k704 y622 y623 y624 y625 h716 n0 Zs716 V_env f718_0 f718_2 f718_3 f718_4 gf701 Vc (Ne.symm ne704_b701) hy622 hy623 hy624 hy625) hZ (own_g hw 12) (own_g hw 8) (by decide) (by decide)) (g := (mkF m 163 #[Iv p1, Iv p2, Iv p3, Iv p4, Iv p5, Iv y622, Iv y623, Iv y624, Iv y625, Iv 4, Uv, Uv] [(.ref b704), (.ref b701), (.ref b701)])) rfl (by rw [hml]; rfl) (Steps.refl _) (a := b701) (argsL := [(.ref b704)]) (rest := [(.ref b701)]) (lenOf own_pd501 rfl) rfl (own_z rfl) (hb hby at_163) (fun _ _ => ⟨rfl, e716, (by decide : 2 + 2 ≤ _), (by decide : 8 + 12 ≤ _)⟩)
    dsimp only [Pt.U, Pt.locs, Pt.cells, Pt.slots] at X719 l719 y719 z719 st719 hQ719
    subst l719 y719 z719
    obtain ⟨b719, k719, rfl, Nq719, K719, Gv719, hd719⟩ := hQ719
    have N719 := Fr.app N716 Nq719
    have Zs719 : n0 ≤ T719.heap.size := Nat.le_trans Zs716 K719.1
    have sf720_b701 : Safe Z consts_1 s.vm T719.heap b701 := Safe.keep K719 (sfS sf717_b701 sf0) CHs717.1 sf717_b701
    have sf720_b704 : Safe Z consts_1 s.vm T719.heap b704 := Safe.keep K719 (sfS sf717_b701 sf0) CHs717.1 sf717_b704
    have CHs720 : CHr Z consts_1 s.vm h0 s.vm T719.heap := CHs717.trans (CHr.keep K719 (sfS sf717_b701 sf0) CHs717.1)
    have hkE719 : _ ≤ T719.heap.size := Nat.le_trans hkE716 K719.1
    have f721_0 : Old Z n0 T719.heap := f718_0.keep K719 (allS gf701 all0)
    have f721_2 : Exa Z T719.heap b701 "java/lang/String" := f718_2.keep K719
    have f721_6 : Arv Z T719.heap b704 k704 .char (4 : Int32) [(.int y622.toUInt32.toUInt16.toUInt32.toInt32), (.int y623.toUInt32.toUInt16.toUInt32.toInt32), (.int y624.toUInt32.toUInt16.toUInt32.toInt32), (.int y625.toUInt32.toUInt16.toUInt32.toInt32)] (.int (0 : Int32)) := V716.keep K719 (ninS (Ne.symm ne704_b701) nin0)
    refine own_byH (fun _ k => st716 _ (st719.trans (XS.astore X719.here hx rfl (hb hby at_166) rfl rfl (l' := #[Iv p1, Iv p2, Iv p3, Iv p4, Iv p5, Iv y622, Iv y623, Iv y624, Iv y625, Iv 4, Rv b701, Uv]) rfl k))) ?_
    show own_FinH _ _ _ _ _ _ _ _ _ _ T719 (mkF m 168 #[Iv p1, Iv p2, Iv p3, Iv p4, Iv p5, Iv y622, Iv y623, Iv y624, Iv y625, Iv 4, Rv b701, Uv] [])
    have J230_722 : ∀ (Tj722 : State) (lj722 : List Loc) (Xj722 : Stand p l e room_1 (s.setVm s.vm) m #[(.int p1), (.int p2), (.int p3), (.int p4), (.int p5)] below meth c Tj722 lj722 4 20) (ej722 : Tj722.heap = T719.heap) (Nj722 : Fr n0 lj722) (ex : Int32) (he : ex = own_ww [y622, y623, y624, y625]), own_FinH p e below s Z consts_1 h0 room_1.cells room_1.slots (own_Q0 n0) Tj722 (mkF m 230 #[Iv p1, Iv p2, Iv p3, Iv p4, Iv p5, Iv y622, Iv y623, Iv y624, Iv y625, Iv 4, Rv b701, Iv ex] []) := by
      intro Tj722 lj722 Xj722 ej722 Nj722 ex he
      subst he
      show own_FinH _ _ _ _ _ _ _ _ _ _ Tj722 (mkF m 230 #[Iv p1, Iv p2, Iv p3, Iv p4, Iv p5, Iv y622, Iv y623, Iv y624, Iv y625, Iv 4, Rv b701, Iv (own_ww [y622, y623, y624, y625])] [])
      rcases hd719 with ⟨Gc719, V719, hk0, hk1, hk2, hk3⟩ | ⟨Gc719, V719⟩
      · show own_FinH _ _ _ _ _ _ _ _ _ _ Tj722 (mkF m 230 #[Iv p1, Iv p2, Iv p3, Iv p4, Iv p5, Iv y622, Iv y623, Iv y624, Iv y625, Iv 4, Rv b701, Iv (own_ww [y622, y623, y624, y625])] [])
        obtain ⟨_, _, ⟨T723, L723, k723, n723⟩, -, X723, ⟨Lc723, hQ723, l723, y723, z723⟩, st723⟩ := LawKit.callS Xj722 hx (y := mn26) hown (own_m hZ hw 28) (own_m hZ hw 29) (own_m hZ hw 30) (own_m hZ hw 31) (by decide) (backOf (W := 0) (rmIW4L l Z a0 hw [] cs gS b701 b719 k719 y622 y623 y624 y625 T719.heap n0 Zs719 V_env f721_0 f721_2 Gv719 Gc719 V719 ) hZ (own_g hw 31) (own_g hw 30) (by decide) (by decide)) (g := (mkF m 232 #[Iv p1, Iv p2, Iv p3, Iv p4, Iv p5, Iv y622, Iv y623, Iv y624, Iv y625, Iv 4, Rv b701, Iv (own_ww [y622, y623, y624, y625])] [(.ref b701)])) rfl (by rw [hml]; rfl) (argsL := [(.ref b701)]) (rest := []) (lenOf own_pd502 rfl) rfl (own_z rfl) (hb hby at_232) (fun _ _ => ⟨rfl, ej722, (by decide : 4 + 0 ≤ _), (by decide : 20 + 0 ≤ _)⟩)
        dsimp only [Pt.U, Pt.locs, Pt.cells, Pt.slots] at X723 l723 y723 z723 st723 hQ723
        subst l723 y723 z723
        obtain ⟨rfl, Nq723, eh723⟩ := hQ723
        have N723 := Fr.app Nj722 Nq723
        have pl : (own_iw (own_find ((42 : Int32).toInt8.toInt32) [y622.toInt8.toInt32, y623.toInt8.toInt32, y624.toInt8.toInt32, y625.toInt8.toInt32] (0 : Int32)) (own_find ((63 : Int32).toInt8.toInt32) [y622.toInt8.toInt32, y623.toInt8.toInt32, y624.toInt8.toInt32, y625.toInt8.toInt32] (0 : Int32))) = (own_ww [y622, y623, y624, y625]) := by rw [← own_pl4 y622 y623 y624 y625, (by decide : (42 : Int32).toInt8.toInt32 = (42 : Int32)), (by decide : (63 : Int32).toInt8.toInt32 = (63 : Int32))]; simp only [own_find, own_bch hy622 hk0 (c := (42 : Int32)) ⟨by decide, by decide⟩, own_bch hy623 hk1 (c := (42 : Int32)) ⟨by decide, by decide⟩, own_bch hy624 hk2 (c := (42 : Int32)) ⟨by decide, by decide⟩, own_bch hy625 hk3 (c := (42 : Int32)) ⟨by decide, by decide⟩, own_bch hy622 hk0 (c := (63 : Int32)) ⟨by decide, by decide⟩, own_bch hy623 hk1 (c := (63 : Int32)) ⟨by decide, by decide⟩, own_bch hy624 hk2 (c := (63 : Int32)) ⟨by decide, by decide⟩, own_bch hy625 hk3 (c := (63 : Int32)) ⟨by decide, by decide⟩]
        have CHe724 : CHr Z consts_1 s.vm h0 T723.vm T719.heap := CHs720.trans (CHv.at X723 hZ (own_EW hw) CHs720.1)
        refine own_byH (fun _ k => XS.aload Xj722.here hx rfl (hb hby at_230) rfl rfl (st723 _ (XS.iload X723.here hx rfl (hb hby at_235) rfl (XS.icmpNo X723.here hx rfl (hb hby at_237) rfl (teq pl).2 (XS.iconst X723.here hx rfl (hb hby at_240) (XS.goto X723.here hx rfl (pc0 := 241) (pc' := 245) rfl (hb hby at_241) (by decide) (by decide) k)))))) ?_
        exact own_retZH X723 hS0 (by rw [eh723]; exact hkE719) (by rw [eh723]; exact CHe724) hx hlk (t := .boolean) Bd.returns (by simp) (hb hby at_245) ⟨rfl, N723⟩ (by decide) (by decide)
      · show own_FinH _ _ _ _ _ _ _ _ _ _ Tj722 (mkF m 230 #[Iv p1, Iv p2, Iv p3, Iv p4, Iv p5, Iv y622, Iv y623, Iv y624, Iv y625, Iv 4, Rv b701, Iv (own_ww [y622, y623, y624, y625])] [])
        obtain ⟨_, _, ⟨T725, L725, k725, n725⟩, -, X725, ⟨Lc725, hQ725, l725, y725, z725⟩, st725⟩ := LawKit.callS Xj722 hx (y := mn26) hown (own_m hZ hw 28) (own_m hZ hw 29) (own_m hZ hw 30) (own_m hZ hw 31) (by decide) (backOf (W := 0) (rmIW4U l Z a0 hw [] cs gS b701 b719 k719 y622 y623 y624 y625 T719.heap n0 Zs719 V_env f721_0 f721_2 Gv719 Gc719 V719 hy622 hy623 hy624 hy625) hZ (own_g hw 31) (own_g hw 30) (by decide) (by decide)) (g := (mkF m 232 #[Iv p1, Iv p2, Iv p3, Iv p4, Iv p5, Iv y622, Iv y623, Iv y624, Iv y625, Iv 4, Rv b701, Iv (own_ww [y622, y623, y624, y625])] [(.ref b701)])) rfl (by rw [hml]; rfl) (argsL := [(.ref b701)]) (rest := []) (lenOf own_pd502 rfl) rfl (own_z rfl) (hb hby at_232) (fun _ _ => ⟨rfl, ej722, (by decide : 4 + 0 ≤ _), (by decide : 20 + 0 ≤ _)⟩)
        dsimp only [Pt.U, Pt.locs, Pt.cells, Pt.slots] at X725 l725 y725 z725 st725 hQ725
        subst l725 y725 z725
        obtain ⟨rfl, Nq725, eh725⟩ := hQ725
        have N725 := Fr.app Nj722 Nq725
        have pl : (own_iw (own_find (42 : Int32) [y622, y623, y624, y625] (0 : Int32)) (own_find (63 : Int32) [y622, y623, y624, y625] (0 : Int32))) = (own_ww [y622, y623, y624, y625]) := own_pl4 y622 y623 y624 y625
        have CHe726 : CHr Z consts_1 s.vm h0 T725.vm T719.heap := CHs720.trans (CHv.at X725 hZ (own_EW hw) CHs720.1)
        refine own_byH (fun _ k => XS.aload Xj722.here hx rfl (hb hby at_230) rfl rfl (st725 _ (XS.iload X725.here hx rfl (hb hby at_235) rfl (XS.icmpNo X725.here hx rfl (hb hby at_237) rfl (teq pl).2 (XS.iconst X725.here hx rfl (hb hby at_240) (XS.goto X725.here hx rfl (pc0 := 241) (pc' := 245) rfl (hb hby at_241) (by decide) (by decide) k)))))) ?_
        exact own_retZH X725 hS0 (by rw [eh725]; exact hkE719) (by rw [eh725]; exact CHe726) hx hlk (t := .boolean) Bd.returns (by simp) (hb hby at_245) ⟨rfl, N725⟩ (by decide) (by decide)
    show own_FinH _ _ _ _ _ _ _ _ _ _ T719 (mkF m 168 #[Iv p1, Iv p2, Iv p3, Iv p4, Iv p5, Iv y622, Iv y623, Iv y624, Iv y625, Iv 4, Rv b701, Uv] [])
    obtain ⟨_, _, ⟨T727, L727, k727, n727⟩, -, X727, ⟨Lc727, hQ727, l727, y727, z727⟩, st727⟩ := LawKit.callS X719 hx (y := mn1) hown (own_m hZ hw 82) (own_m hZ hw 83) (own_m hZ hw 2) (own_m hZ hw 84) (by decide) (backOf (W := 0) (rmWi l Z a0 hw [] y622 T719.heap n0 Zs719 ) hZ (own_g hw 84) (own_g hw 2) (by decide) (by decide)) (g := (mkF m 175 #[Iv p1, Iv p2, Iv p3, Iv p4, Iv p5, Iv y622, Iv y623, Iv y624, Iv y625, Iv 4, Rv b701, Uv] [(.int y622)])) rfl (by rw [hml]; rfl) (argsL := [(.int y622)]) (rest := []) (lenOf own_pd264 rfl) rfl (own_z rfl) (hb hby at_175) (fun _ _ => ⟨rfl, rfl, (by decide : 4 + 0 ≤ _), (by decide : 20 + 0 ≤ _)⟩)
    dsimp only [Pt.U, Pt.locs, Pt.cells, Pt.slots] at X727 l727 y727 z727 st727 hQ727
    subst l727 y727 z727
    obtain ⟨rfl, Nq727, eh727⟩ := hQ727
    have N727 := Fr.app N719 Nq727
    refine own_byH (fun _ k => XS.iload X719.here hx rfl (hb hby at_168) rfl (XS.ifNo X719.here hx rfl (hb hby at_170) rfl ((if0 _ _).trans (tlt (by decide : (0 : Int32) < (4 : Int32))).2.2.2) (XS.iload X719.here hx rfl (hb hby at_173) rfl (st727 _ k)))) ?_
    show own_FinH _ _ _ _ _ _ _ _ _ _ T727 (mkF m 178 #[Iv p1, Iv p2, Iv p3, Iv p4, Iv p5, Iv y622, Iv y623, Iv y624, Iv y625, Iv 4, Rv b701, Uv] [(.int (own_w y622))])
    by_cases hc178_728 : (own_w y622) = (0 : Int32)
    · show own_FinH _ _ _ _ _ _ _ _ _ _ T727 (mkF m 178 #[Iv p1, Iv p2, Iv p3, Iv p4, Iv p5, Iv y622, Iv y623, Iv y624, Iv y625, Iv 4, Rv b701, Uv] [(.int (own_w y622))])
      obtain ⟨_, _, ⟨T729, L729, k729, n729⟩, -, X729, ⟨Lc729, hQ729, l729, y729, z729⟩, st729⟩ := LawKit.callS X727 hx (y := mn1) hown (own_m hZ hw 82) (own_m hZ hw 83) (own_m hZ hw 2) (own_m hZ hw 84) (by decide) (backOf (W := 0) (rmWi l Z a0 hw [] y623 T719.heap n0 Zs719 ) hZ (own_g hw 84) (own_g hw 2) (by decide) (by decide)) (g := (mkF m 189 #[Iv p1, Iv p2, Iv p3, Iv p4, Iv p5, Iv y622, Iv y623, Iv y624, Iv y625, Iv 4, Rv b701, Uv] [(.int y623)])) rfl (by rw [hml]; rfl) (argsL := [(.int y623)]) (rest := []) (lenOf own_pd264 rfl) rfl (own_z rfl) (hb hby at_189) (fun _ _ => ⟨rfl, eh727, (by decide : 4 + 0 ≤ _), (by decide : 20 + 0 ≤ _)⟩)
      dsimp only [Pt.U, Pt.locs, Pt.cells, Pt.slots] at X729 l729 y729 z729 st729 hQ729
      subst l729 y729 z729
      obtain ⟨rfl, Nq729, eh729⟩ := hQ729
      have N729 := Fr.app N727 Nq729
      refine own_byH (fun _ k => XS.ifNo X727.here hx rfl (hb hby at_178) rfl ((if0 _ _).trans (teq hc178_728).2) (XS.iload X727.here hx rfl (hb hby at_181) rfl (XS.iconst X727.here hx rfl (hb hby at_183) (XS.icmpNo X727.here hx rfl (hb hby at_184) rfl (tlt (by decide : (1 : Int32) < (4 : Int32))).2.2.2 (XS.iload X727.here hx rfl (hb hby at_187) rfl (st729 _ k)))))) ?_
      show own_FinH _ _ _ _ _ _ _ _ _ _ T729 (mkF m 192 #[Iv p1, Iv p2, Iv p3, Iv p4, Iv p5, Iv y622, Iv y623, Iv y624, Iv y625, Iv 4, Rv b701, Uv] [(.int (own_w y623))])
      by_cases hc192_730 : (own_w y623) = (0 : Int32)
      · show own_FinH _ _ _ _ _ _ _ _ _ _ T729 (mkF m 192 #[Iv p1, Iv p2, Iv p3, Iv p4, Iv p5, Iv y622, Iv y623, Iv y624, Iv y625, Iv 4, Rv b701, Uv] [(.int (own_w y623))])
        obtain ⟨_, _, ⟨T731, L731, k731, n731⟩, -, X731, ⟨Lc731, hQ731, l731, y731, z731⟩, st731⟩ := LawKit.callS X729 hx (y := mn1) hown (own_m hZ hw 82) (own_m hZ hw 83) (own_m hZ hw 2) (own_m hZ hw 84) (by decide) (backOf (W := 0) (rmWi l Z a0 hw [] y624 T719.heap n0 Zs719 ) hZ (own_g hw 84) (own_g hw 2) (by decide) (by decide)) (g := (mkF m 203 #[Iv p1, Iv p2, Iv p3, Iv p4, Iv p5, Iv y622, Iv y623, Iv y624, Iv y625, Iv 4, Rv b701, Uv] [(.int y624)])) rfl (by rw [hml]; rfl) (argsL := [(.int y624)]) (rest := []) (lenOf own_pd264 rfl) rfl (own_z rfl) (hb hby at_203) (fun _ _ => ⟨rfl, eh729, (by decide : 4 + 0 ≤ _), (by decide : 20 + 0 ≤ _)⟩)
        dsimp only [Pt.U, Pt.locs, Pt.cells, Pt.slots] at X731 l731 y731 z731 st731 hQ731
        subst l731 y731 z731
        obtain ⟨rfl, Nq731, eh731⟩ := hQ731
        have N731 := Fr.app N729 Nq731
        refine own_byH (fun _ k => XS.ifNo X729.here hx rfl (hb hby at_192) rfl ((if0 _ _).trans (teq hc192_730).2) (XS.iload X729.here hx rfl (hb hby at_195) rfl (XS.iconst X729.here hx rfl (hb hby at_197) (XS.icmpNo X729.here hx rfl (hb hby at_198) rfl (tlt (by decide : (2 : Int32) < (4 : Int32))).2.2.2 (XS.iload X729.here hx rfl (hb hby at_201) rfl (st731 _ k)))))) ?_
        show own_FinH _ _ _ _ _ _ _ _ _ _ T731 (mkF m 206 #[Iv p1, Iv p2, Iv p3, Iv p4, Iv p5, Iv y622, Iv y623, Iv y624, Iv y625, Iv 4, Rv b701, Uv] [(.int (own_w y624))])
        by_cases hc206_732 : (own_w y624) = (0 : Int32)
        · show own_FinH _ _ _ _ _ _ _ _ _ _ T731 (mkF m 206 #[Iv p1, Iv p2, Iv p3, Iv p4, Iv p5, Iv y622, Iv y623, Iv y624, Iv y625, Iv 4, Rv b701, Uv] [(.int (own_w y624))])
          obtain ⟨_, _, ⟨T733, L733, k733, n733⟩, -, X733, ⟨Lc733, hQ733, l733, y733, z733⟩, st733⟩ := LawKit.callS X731 hx (y := mn1) hown (own_m hZ hw 82) (own_m hZ hw 83) (own_m hZ hw 2) (own_m hZ hw 84) (by decide) (backOf (W := 0) (rmWi l Z a0 hw [] y625 T719.heap n0 Zs719 ) hZ (own_g hw 84) (own_g hw 2) (by decide) (by decide)) (g := (mkF m 217 #[Iv p1, Iv p2, Iv p3, Iv p4, Iv p5, Iv y622, Iv y623, Iv y624, Iv y625, Iv 4, Rv b701, Uv] [(.int y625)])) rfl (by rw [hml]; rfl) (argsL := [(.int y625)]) (rest := []) (lenOf own_pd264 rfl) rfl (own_z rfl) (hb hby at_217) (fun _ _ => ⟨rfl, eh731, (by decide : 4 + 0 ≤ _), (by decide : 20 + 0 ≤ _)⟩)
          dsimp only [Pt.U, Pt.locs, Pt.cells, Pt.slots] at X733 l733 y733 z733 st733 hQ733
          subst l733 y733 z733
          obtain ⟨rfl, Nq733, eh733⟩ := hQ733
          have N733 := Fr.app N731 Nq733
          refine own_byH (fun _ k => XS.ifNo X731.here hx rfl (hb hby at_206) rfl ((if0 _ _).trans (teq hc206_732).2) (XS.iload X731.here hx rfl (hb hby at_209) rfl (XS.iconst X731.here hx rfl (hb hby at_211) (XS.icmpNo X731.here hx rfl (hb hby at_212) rfl (tlt (by decide : (3 : Int32) < (4 : Int32))).2.2.2 (XS.iload X731.here hx rfl (hb hby at_215) rfl (st733 _ k)))))) ?_
          show own_FinH _ _ _ _ _ _ _ _ _ _ T733 (mkF m 220 #[Iv p1, Iv p2, Iv p3, Iv p4, Iv p5, Iv y622, Iv y623, Iv y624, Iv y625, Iv 4, Rv b701, Uv] [(.int (own_w y625))])
          by_cases hc220_734 : (own_w y625) = (0 : Int32)
          · show own_FinH _ _ _ _ _ _ _ _ _ _ T733 (mkF m 220 #[Iv p1, Iv p2, Iv p3, Iv p4, Iv p5, Iv y622, Iv y623, Iv y624, Iv y625, Iv 4, Rv b701, Uv] [(.int (own_w y625))])
            refine own_byH (fun _ k => XS.ifYes X733.here hx rfl (pc0 := 220) (pc' := 227) rfl (hb hby at_220) rfl ((if0 _ _).trans (teq hc220_734).1) (by decide) (by decide) (XS.iconst X733.here hx rfl (hb hby at_227) (XS.istore X733.here hx rfl (hb hby at_228) rfl (l' := #[Iv p1, Iv p2, Iv p3, Iv p4, Iv p5, Iv y622, Iv y623, Iv y624, Iv y625, Iv 4, Rv b701, Iv 0]) rfl k))) ?_
            exact J230_722 T733 _ X733 eh733 N733 ((0 : Int32)) (by simp only [own_ww, if_pos hc178_728, if_pos hc192_730, if_pos hc206_732, if_pos hc220_734])
          · show own_FinH _ _ _ _ _ _ _ _ _ _ T733 (mkF m 220 #[Iv p1, Iv p2, Iv p3, Iv p4, Iv p5, Iv y622, Iv y623, Iv y624, Iv y625, Iv 4, Rv b701, Uv] [(.int (own_w y625))])
            refine own_byH (fun _ k => XS.ifNo X733.here hx rfl (hb hby at_220) rfl ((if0 _ _).trans (feq hc220_734).1) (XS.iconst X733.here hx rfl (hb hby at_223) (XS.goto X733.here hx rfl (pc0 := 224) (pc' := 228) rfl (hb hby at_224) (by decide) (by decide) (XS.istore X733.here hx rfl (hb hby at_228) rfl (l' := #[Iv p1, Iv p2, Iv p3, Iv p4, Iv p5, Iv y622, Iv y623, Iv y624, Iv y625, Iv 4, Rv b701, Iv 1]) rfl k)))) ?_
            exact J230_722 T733 _ X733 eh733 N733 ((1 : Int32)) (by simp only [own_ww, if_pos hc178_728, if_pos hc192_730, if_pos hc206_732, if_neg hc220_734])
        · show own_FinH _ _ _ _ _ _ _ _ _ _ T731 (mkF m 206 #[Iv p1, Iv p2, Iv p3, Iv p4, Iv p5, Iv y622, Iv y623, Iv y624, Iv y625, Iv 4, Rv b701, Uv] [(.int (own_w y624))])
          refine own_byH (fun _ k => XS.ifYes X731.here hx rfl (pc0 := 206) (pc' := 223) rfl (hb hby at_206) rfl ((if0 _ _).trans (feq hc206_732).2) (by decide) (by decide) (XS.iconst X731.here hx rfl (hb hby at_223) (XS.goto X731.here hx rfl (pc0 := 224) (pc' := 228) rfl (hb hby at_224) (by decide) (by decide) (XS.istore X731.here hx rfl (hb hby at_228) rfl (l' := #[Iv p1, Iv p2, Iv p3, Iv p4, Iv p5, Iv y622, Iv y623, Iv y624, Iv y625, Iv 4, Rv b701, Iv 1]) rfl k)))) ?_
          exact J230_722 T731 _ X731 eh731 N731 ((1 : Int32)) (by simp only [own_ww, if_pos hc178_728, if_pos hc192_730, if_neg hc206_732])
      · show own_FinH _ _ _ _ _ _ _ _ _ _ T729 (mkF m 192 #[Iv p1, Iv p2, Iv p3, Iv p4, Iv p5, Iv y622, Iv y623, Iv y624, Iv y625, Iv 4, Rv b701, Uv] [(.int (own_w y623))])
        refine own_byH (fun _ k => XS.ifYes X729.here hx rfl (pc0 := 192) (pc' := 223) rfl (hb hby at_192) rfl ((if0 _ _).trans (feq hc192_730).2) (by decide) (by decide) (XS.iconst X729.here hx rfl (hb hby at_223) (XS.goto X729.here hx rfl (pc0 := 224) (pc' := 228) rfl (hb hby at_224) (by decide) (by decide) (XS.istore X729.here hx rfl (hb hby at_228) rfl (l' := #[Iv p1, Iv p2, Iv p3, Iv p4, Iv p5, Iv y622, Iv y623, Iv y624, Iv y625, Iv 4, Rv b701, Iv 1]) rfl k)))) ?_
        exact J230_722 T729 _ X729 eh729 N729 ((1 : Int32)) (by simp only [own_ww, if_pos hc178_728, if_neg hc192_730])
    · show own_FinH _ _ _ _ _ _ _ _ _ _ T727 (mkF m 178 #[Iv p1, Iv p2, Iv p3, Iv p4, Iv p5, Iv y622, Iv y623, Iv y624, Iv y625, Iv 4, Rv b701, Uv] [(.int (own_w y622))])
      refine own_byH (fun _ k => XS.ifYes X727.here hx rfl (pc0 := 178) (pc' := 223) rfl (hb hby at_178) rfl ((if0 _ _).trans (feq hc178_728).2) (by decide) (by decide) (XS.iconst X727.here hx rfl (hb hby at_223) (XS.goto X727.here hx rfl (pc0 := 224) (pc' := 228) rfl (hb hby at_224) (by decide) (by decide) (XS.istore X727.here hx rfl (hb hby at_228) rfl (l' := #[Iv p1, Iv p2, Iv p3, Iv p4, Iv p5, Iv y622, Iv y623, Iv y624, Iv y625, Iv 4, Rv b701, Iv 1]) rfl k)))) ?_
      exact J230_722 T727 _ X727 eh727 N727 ((1 : Int32)) (by simp only [own_ww, if_neg hc178_728])
set_option maxRecDepth 65536 in
set_option maxHeartbeats 40000000 in
theorem comes_1 {Post : Tables → Env → Array Value → State → Outcome → State → Prop} (hpost : ∀ tb e args s v u, (limb_1_1.after args s (.returned v) u = true ∧ limb_1_2.after args s (.returned v) u = true ∧ True) → ReturnedEndW s (.returned v) u (Jvm.fieldLocs frame_1_writes args s ++ Jvm.arrayLocs frame_1_arrays args s ++ Jvm.staticLocs frame_1_statics s) 24 1152 → Post tb e args s (.returned v) u) :
    ArmFor flags0 classFile x code maxLocals ret World_1 tables_1 room_1 Calls_1 rest_1 Pre_1 Post := by
  intro l hfl _ _ p e ha hc hk s m args below hf hA hF happ hP
  obtain ⟨hcalls, hrest, hpre⟩ := hP
  obtain ⟨-, -, -, hnamed, -, -, -, hat⟩ := (Spec.applies_iff hf).mp happ
  obtain ⟨hg, hn⟩ := and_e (Cond.before_iff.mp (show (Jvm.Cond.and given_1 narrow_1).before args s = true from hpre))
  obtain ⟨gc, gr0⟩ := and_e hg
  obtain ⟨ga0, gr1⟩ := and_e gr0
  obtain ⟨ga1, gr2⟩ := and_e gr1
  obtain ⟨ga2, gr3⟩ := and_e gr2
  obtain ⟨ga3, gr4⟩ := and_e gr3
  obtain ⟨w0, w1, w2, w3, w4, rfl⟩ : ∃ w0 w1 w2 w3 w4 : Value, args = #[w0, w1, w2, w3, w4] := by
    have hs : args.size = 5 := by simpa [Cond.value, given_1] using gc
    obtain ⟨L⟩ := args
    match L, hs with
    | [w0, w1, w2, w3, w4], _ => exact ⟨w0, w1, w2, w3, w4, rfl⟩
  have hw := fun d (hd : d ∈ tables_1) => atoms_spec (ws := Jvm.Cond.code x code maxLocals ret :: tables_1) hat d (List.mem_cons_of_mem _ hd)
  obtain ⟨hsets, hown0⟩ := atoms_of _ (rest_1_c_eq ▸ (show rest_1_c.before _ s = true from hrest))
  have hr0 := Cond.before_iff.mp hown0
  have hfit : Fit s := fun {y c} hc i hi => by
    obtain ⟨ha, rfl⟩ := Array.getElem?_eq_some_iff.mp hc
    have q := List.all_eq_true.mp ((Array.all_eq_true_iff_forall_mem.mp hF) _ (Array.getElem_mem ha)) i (List.mem_range.mpr hi)
    simpa [Array.getElem?_eq_getElem hi] using q
  obtain ⟨i0, ei0⟩ := is_v ga0
  obtain rfl : w0 = (.int i0) := Option.some.inj ei0
  obtain ⟨i1, ei1⟩ := is_v ga1
  obtain rfl : w1 = (.int i1) := Option.some.inj ei1
  obtain ⟨i2, ei2⟩ := is_v ga2
  obtain rfl : w2 = (.int i2) := Option.some.inj ei2
  obtain ⟨i3, ei3⟩ := is_v ga3
  obtain rfl : w3 = (.int i3) := Option.some.inj ei3
  obtain ⟨i4, ei4⟩ := is_v gr4
  obtain rfl : w4 = (.int i4) := Option.some.inj ei4
  have n5 := not_v (Cond.before_iff.mp (hsets _ (List.mem_of_getElem? (i := 2) rfl)))
  obtain ⟨cs, ecs⟩ := is_v (Cond.before_iff.mp (hsets _ (List.mem_of_getElem? (i := 1) rfl)))
  have S12 : Sta s s.heap "java/lang/String" "COMPACT_STRINGS" "Z" (.int cs) := Sta.start ecs (Or.inl (hsets _ (List.mem_of_getElem? (i := 0) rfl)))
  have c17 : ¬ (cs = (0 : Int32)) := gotF (Cond.eq_ints ecs (Term.int_eval (0))) n5
  have hCH : CHv s consts_1 s.vm s.heap := CHv.start (own_EW hw) (fun p hp => hcalls.1 p hp) (hsets _ (List.mem_of_getElem? (i := 2) rfl)) (own_g hw 21) (own_g hw 7)
  obtain ⟨gS, eg, hgr⟩ := isR_v (Cond.before_iff.mp (hsets _ (List.mem_of_getElem? (i := 8) rfl)))
  have env : own_Env s cs gS := ⟨Sta.start (eqv_i (Term.int_eval (1)) (Cond.before_iff.mp (hsets _ (List.mem_of_getElem? (i := 12) rfl)))) (Or.inl (hsets _ (List.mem_of_getElem? (i := 11) rfl))), Sta.start (eqv_i (Term.int_eval (0)) (Cond.before_iff.mp (hsets _ (List.mem_of_getElem? (i := 15) rfl)))) (Or.inl (hsets _ (List.mem_of_getElem? (i := 14) rfl))), Sta.start (eqv_i (Term.int_eval (8)) (Cond.before_iff.mp (hsets _ (List.mem_of_getElem? (i := 18) rfl)))) (Or.inl (hsets _ (List.mem_of_getElem? (i := 17) rfl))), S12, c17, Sta.start eg (Or.inl (hsets _ (List.mem_of_getElem? (i := 7) rfl))), hgr⟩
  obtain ⟨n, o, h1, h2, h3, _, L, rfl, ⟨rfl, N⟩, -, hq⟩ := rm0 l s _ hw tables_1 i0 i1 i2 i3 i4 cs gS s.heap s.heap.size (Nat.le_refl _) env (Old.start s) p e ha hc hk s m _ below hf ((Spec.applies_iff_loose hf).mp happ).1 ⟨rfl, State.Warmed39.refl s, rfl, hCH⟩ trivial
  refine ⟨n, _, h1, h2, h3, hpost _ _ _ _ _ _ ⟨Cond.after_iff.mpr rfl, Cond.after_iff.mpr (eq_i res_at (Term.int_eval (1)) rfl), trivial⟩ ⟨hq.1, hq.2.1, hq.2.2.1, (hq.2.2.2.sift fun y hy => Or.inr (N y hy)).mono (by decide) (by decide)⟩⟩
theorem main_1_1 : Claimed_1_1 := comes_1 fun _ _ _ _ _ _ h hF => ⟨h.1, hF⟩
theorem main_1_2 : Claimed_1_2 := comes_1 fun _ _ _ _ _ _ h hF => ⟨h.2.1, hF⟩
end Jvm.Pilot.@@N@@
namespace Jvm.Pilot.@@N@@
open Jvm Jvm.ClassFile Sem Op Lib Jvm.Free Jvm.Stand Jvm.Pilot.@@N@@.Jvm.D
/-! MADE BY PROGRAM (witnessworld.py) out of the Statement's table words and the real class files: 21 classes; the members and pool entries that the words name. The judged class is class 1, her method 1. -/
namespace start1
open Jvm.ClassFile
def u (s : String) : CpInfo := .utf8 (stringToUtf16 s)
/-- a pool by its gaps: so many unusable entries, then the entry; so many at the end -/
def gap : Nat → List CpInfo → List CpInfo
  | 0, r => r
  | n + 1, r => .unusable :: gap n r
def poolList (es : List (Nat × CpInfo)) (last : Nat) : List CpInfo := es.foldr (fun e r => gap e.1 (e.2 :: r)) (gap last [])
def pool (es : List (Nat × CpInfo)) (last : Nat) : Array CpInfo := ⟨poolList es last⟩
def fileOf (pool : Array CpInfo) (this : Nat) (attrs : Array Attribute := #[]) (ms : Array MethodInfo := #[]) (fl : Nat := 33) (sup : Nat := 0) (ifs : Array Nat := #[]) (fds : Array FieldInfo := #[]) : ClassFile where
  minorVersion := 0
  majorVersion := 65
  constantPool := pool
  accessFlags := fl
  thisClass := this
  superClass := sup
  interfaces := ifs
  fields := fds
  methods := ms
  attributes := attrs
def plain (name : String) (sup : Option ClassId) : Class where
  name := name
  kind := .ordinary
  loader := none
  accessFlags := 33
  super := sup
  interfaces := #[]
  cf := none
  fields := #[]
  methods := #[]
  instanceTypes := #[]
  staticTypes := #[]
  resolved := #[]
  callSites := []
  init := .initialized
  statics := none
  mirror := none

def pool0 : Array CpInfo := pool [(5, u "<init>"), (0, u "()V"), (1, .class_ 10), (1, u "java/lang/Object")] 113

def k0c0 : Code := { maxStack := 0, maxLocals := 1, code := object_method_1_code, exceptionTable := #[], attributes := #[] }
def k0m0 : Method := { name := "<init>", desc := "()V", sig := { parameters := [], returnType := none }, accessFlags := 1, code := some k0c0 }
/-- java/lang/Object -/
def k0 : Class := { plain "java/lang/Object" none with
  accessFlags := 33
  interfaces := #[]
  cf := some (fileOf pool0 8 #[] #[{ accessFlags := 1, nameIndex := 5, descriptorIndex := 6, attributes := #[] }] 33 0 #[] #[])
  fields := #[]
  methods := #[k0m0]
  instanceTypes := #[]
  staticTypes := #[]
  resolved := Array.replicate 124 none
  statics := none }

def pool1 : Array CpInfo := pool [(2, .class_ 4), (1, u "java/lang/Object"), (0, u "<init>"), (0, u "()V"), (0, .methodref 8 9), (0, .class_ 10), (0, .nameAndType 11 12), (0, u "com/example/trustee/trustee/PartPatternIsWildPinLaw"), (0, u "draw"), (0, u "(I)C"), (0, .integer 2147483647), (0, .class_ 15), (0, u "java/lang/String"), (0, .methodref 14 17), (0, .nameAndType 5 18), (0, u "([C)V"), (0, .methodref 14 20), (0, .nameAndType 21 22), (0, u "valueOf"), (0, u "(C)Ljava/lang/String;"), (0, .methodref 8 24), (0, .nameAndType 25 26), (0, u "wild"), (0, u "(C)Z"), (0, .methodref 28 29), (0, .class_ 30), (0, .nameAndType 31 32), (0, u "com/example/trustee/trustee/PartPattern"), (0, u "isWild"), (0, u "(Ljava/lang/String;)Z"), (0, .integer 65535), (2, u "law"), (0, u "(IIIII)Z")] 3

def k1m0 : Method := { name := "<init>", desc := "()V", sig := { parameters := [], returnType := none }, accessFlags := 1, code := none }
def k1c1 : Code := { maxStack := 6, maxLocals := 12, code := code, exceptionTable := #[], attributes := #[] }
def k1m1 : Method := { name := "law", desc := "(IIIII)Z", sig := { parameters := [.int, .int, .int, .int, .int], returnType := some .boolean }, accessFlags := 9, code := some k1c1 }
def k1c2 : Code := { maxStack := 2, maxLocals := 2, code := method_3_code, exceptionTable := #[], attributes := #[] }
def k1m2 : Method := { name := "draw", desc := "(I)C", sig := { parameters := [.int], returnType := some .char }, accessFlags := 10, code := some k1c2 }
def k1c3 : Code := { maxStack := 2, maxLocals := 1, code := method_4_code, exceptionTable := #[], attributes := #[] }
def k1m3 : Method := { name := "wild", desc := "(C)Z", sig := { parameters := [.char], returnType := some .boolean }, accessFlags := 10, code := some k1c3 }
/-- com/example/trustee/trustee/PartPatternIsWildPinLaw -/
def k1 : Class := { plain "com/example/trustee/trustee/PartPatternIsWildPinLaw" (some 0) with
  accessFlags := 49
  interfaces := #[]
  cf := some (fileOf pool1 8 #[] #[{ accessFlags := 1, nameIndex := 5, descriptorIndex := 6, attributes := #[] }, { accessFlags := 9, nameIndex := 36, descriptorIndex := 37, attributes := #[] }, { accessFlags := 10, nameIndex := 11, descriptorIndex := 12, attributes := #[] }, { accessFlags := 10, nameIndex := 25, descriptorIndex := 26, attributes := #[] }] 49 2 #[] #[])
  fields := #[]
  methods := #[k1m0, k1m1, k1m2, k1m3]
  instanceTypes := #[]
  staticTypes := #[]
  resolved := Array.replicate 41 none
  statics := none }

def pool2 : Array CpInfo := pool [(1, .class_ 2), (0, u "java/io/Serializable"), (0, .class_ 4), (0, u "java/lang/Object")] 2

/-- java/io/Serializable -/
def k2 : Class := { plain "java/io/Serializable" (some 0) with
  accessFlags := 1537
  interfaces := #[]
  cf := some (fileOf pool2 1 #[] #[] 1537 3 #[] #[])
  fields := #[]
  methods := #[]
  instanceTypes := #[]
  staticTypes := #[]
  resolved := Array.replicate 7 none
  statics := none }

def pool3 : Array CpInfo := pool [(1, .class_ 2), (0, u "java/lang/Comparable"), (0, .class_ 4), (0, u "java/lang/Object")] 7

/-- java/lang/Comparable -/
def k3 : Class := { plain "java/lang/Comparable" (some 0) with
  accessFlags := 1537
  interfaces := #[]
  cf := some (fileOf pool3 1 #[] #[] 1537 3 #[] #[])
  fields := #[]
  methods := #[]
  instanceTypes := #[]
  staticTypes := #[]
  resolved := Array.replicate 12 none
  statics := none }

def pool4 : Array CpInfo := pool [(2, .class_ 4), (1, u "java/lang/CharSequence"), (42, .class_ 48), (0, u "java/lang/CharSequence$1CodePointIterator"), (10, .class_ 60), (0, u "java/lang/CharSequence$1CharIterator"), (5, .class_ 67), (0, u "java/lang/Object")] 63

/-- java/lang/CharSequence -/
def k4 : Class := { plain "java/lang/CharSequence" (some 0) with
  accessFlags := 1537
  interfaces := #[]
  cf := some (fileOf pool4 2 #[.nestMembers #[47, 59]] #[] 1537 66 #[] #[])
  fields := #[]
  methods := #[]
  instanceTypes := #[]
  staticTypes := #[]
  resolved := Array.replicate 131 none
  statics := none }

def pool5 : Array CpInfo := pool [(1, .class_ 2), (0, u "java/lang/constant/Constable"), (0, .class_ 4), (0, u "java/lang/Object")] 6

/-- java/lang/constant/Constable -/
def k5 : Class := { plain "java/lang/constant/Constable" (some 0) with
  accessFlags := 1537
  interfaces := #[]
  cf := some (fileOf pool5 1 #[] #[] 1537 3 #[] #[])
  fields := #[]
  methods := #[]
  instanceTypes := #[]
  staticTypes := #[]
  resolved := Array.replicate 11 none
  statics := none }

def pool6 : Array CpInfo := pool [(1, .class_ 2), (0, u "java/lang/constant/ConstantDesc"), (0, .class_ 4), (0, u "java/lang/Object")] 32

/-- java/lang/constant/ConstantDesc -/
def k6 : Class := { plain "java/lang/constant/ConstantDesc" (some 0) with
  accessFlags := 1537
  interfaces := #[]
  cf := some (fileOf pool6 1 #[] #[] 1537 3 #[] #[])
  fields := #[]
  methods := #[]
  instanceTypes := #[]
  staticTypes := #[]
  resolved := Array.replicate 37 none
  statics := none }

def pool7 : Array CpInfo := pool [(1, .methodref 2 3), (0, .class_ 4), (0, .nameAndType 5 6), (0, u "java/lang/Object"), (0, u "<init>"), (0, u "()V"), (0, .string 8), (0, u ""), (0, .fieldref 10 11), (0, .class_ 12), (0, .nameAndType 13 14), (0, u "java/lang/String"), (0, u "value"), (0, u "[B"), (0, .fieldref 10 16), (0, .nameAndType 17 18), (0, u "coder"), (0, u "B"), (2, u "hash"), (0, u "I"), (2, u "hashIsZero"), (0, u "Z"), (0, .methodref 10 28), (0, .nameAndType 5 29), (0, u "([CIILjava/lang/Void;)V"), (8, .fieldref 10 39), (0, .nameAndType 40 26), (0, u "COMPACT_STRINGS"), (1, .class_ 44), (1, u "java/lang/StringUTF16"), (0, u "compress"), (1, .methodref 42 48), (0, .nameAndType 49 50), (0, u "coderFromArrayLen"), (0, u "([BI)B"), (2, u "toBytes"), (53, .class_ 109), (1, u "java/lang/StringLatin1"), (32, u "()Z"), (34, .methodref 42 178), (0, .nameAndType 45 179), (0, u "([CII)[B"), (29, .methodref 10 210), (0, .nameAndType 5 211), (0, u "([BB)V"), (122, u "()I"), (0, .methodref 10 336), (0, .nameAndType 17 337), (0, u "()B"), (31, u "(C)Z"), (122, .methodref 10 493), (0, .nameAndType 494 142), (0, u "isLatin1"), (10, .methodref 10 506), (0, .nameAndType 507 334), (0, u "length"), (5, u "checkFromToIndex"), (9, u "checkBoundsBeginEnd"), (0, u "(III)V"), (50, .class_ 576), (0, u "java/lang/CharSequence"), (22, u "CASE_INSENSITIVE_ORDER"), (0, u "Ljava/util/Comparator;"), (32, .methodref 10 634), (0, .nameAndType 635 636), (0, u "indexOf"), (0, u "(II)I"), (0, .methodref 107 638), (0, .nameAndType 635 639), (0, u "([BIII)I"), (0, .methodref 42 638), (124, u "(I)I"), (16, u "valueOf"), (0, u "(C)Ljava/lang/String;"), (226, u "([C)V"), (4, .methodref 107 1016), (0, .nameAndType 1017 369), (0, u "canEncode"), (0, .methodref 107 1019), (0, .nameAndType 53 1020), (0, u "(C)[B"), (0, .methodref 42 1019), (31, .fieldref 1054 1055), (0, .class_ 1056), (0, .nameAndType 1057 1058), (0, u "jdk/internal/util/Preconditions"), (0, u "SIOOBE_FORMATTER"), (0, u "Ljava/util/function/BiFunction;"), (3, .methodref 1054 1063), (0, .nameAndType 513 1064), (0, u "(IIILjava/util/function/BiFunction;)I"), (36, u "serialPersistentFields"), (0, u "[Ljava/io/ObjectStreamField;"), (0, .class_ 1104), (0, u "java/lang/String$CaseInsensitiveComparator"), (1, .class_ 1107), (0, u "java/io/Serializable"), (0, .class_ 1109), (0, u "java/lang/Comparable"), (0, .class_ 1111), (0, u "java/lang/constant/Constable"), (0, .class_ 1113), (0, u "java/lang/constant/ConstantDesc"), (2, u "serialVersionUID"), (0, u "J"), (3, u "REPL"), (0, u "C"), (2, u "LATIN1"), (1, u "UTF16")] 323

def k7m0 : Method := { name := "<init>", desc := "()V", sig := { parameters := [], returnType := none }, accessFlags := 1, code := none }
def k7c1 : Code := { maxStack := 5, maxLocals := 2, code := jdk_42_method_3_code, exceptionTable := #[], attributes := #[] }
def k7m1 : Method := { name := "<init>", desc := "([C)V", sig := { parameters := [(.array .char)], returnType := none }, accessFlags := 1, code := some k7c1 }
def k7c2 : Code := { maxStack := 2, maxLocals := 1, code := jdk_42_method_54_code, exceptionTable := #[], attributes := #[] }
def k7m2 : Method := { name := "length", desc := "()I", sig := { parameters := [], returnType := some .int }, accessFlags := 1, code := some k7c2 }
def k7c3 : Code := { maxStack := 3, maxLocals := 2, code := jdk_42_method_79_code, exceptionTable := #[], attributes := #[] }
def k7m3 : Method := { name := "indexOf", desc := "(I)I", sig := { parameters := [.int], returnType := some .int }, accessFlags := 1, code := some k7c3 }
def k7c4 : Code := { maxStack := 4, maxLocals := 3, code := jdk_42_method_80_code, exceptionTable := #[], attributes := #[] }
def k7m4 : Method := { name := "indexOf", desc := "(II)I", sig := { parameters := [.int, .int], returnType := some .int }, accessFlags := 1, code := some k7c4 }
def k7c5 : Code := { maxStack := 4, maxLocals := 1, code := jdk_42_method_139_code, exceptionTable := #[], attributes := #[] }
def k7m5 : Method := { name := "valueOf", desc := "(C)Ljava/lang/String;", sig := { parameters := [.char], returnType := some (.object "java/lang/String") }, accessFlags := 9, code := some k7c5 }
def k7c6 : Code := { maxStack := 4, maxLocals := 6, code := jdk_42_method_149_code, exceptionTable := #[], attributes := #[] }
def k7m6 : Method := { name := "<init>", desc := "([CIILjava/lang/Void;)V", sig := { parameters := [(.array .char), .int, .int, (.object "java/lang/Void")], returnType := none }, accessFlags := 2, code := some k7c6 }
def k7c7 : Code := { maxStack := 2, maxLocals := 3, code := jdk_42_method_151_code, exceptionTable := #[], attributes := #[] }
def k7m7 : Method := { name := "<init>", desc := "([BB)V", sig := { parameters := [(.array .byte), .byte], returnType := none }, accessFlags := 0, code := some k7c7 }
def k7c8 : Code := { maxStack := 1, maxLocals := 1, code := jdk_42_method_152_code, exceptionTable := #[], attributes := #[] }
def k7m8 : Method := { name := "coder", desc := "()B", sig := { parameters := [], returnType := some .byte }, accessFlags := 0, code := some k7c8 }
def k7c9 : Code := { maxStack := 1, maxLocals := 1, code := jdk_42_method_154_code, exceptionTable := #[], attributes := #[] }
def k7m9 : Method := { name := "isLatin1", desc := "()Z", sig := { parameters := [], returnType := some .boolean }, accessFlags := 0, code := some k7c9 }
def k7c10 : Code := { maxStack := 4, maxLocals := 3, code := jdk_42_method_158_code, exceptionTable := #[], attributes := #[] }
def k7m10 : Method := { name := "checkBoundsBeginEnd", desc := "(III)V", sig := { parameters := [.int, .int, .int], returnType := none }, accessFlags := 8, code := some k7c10 }
/-- java/lang/String -/
def k7 : Class := { plain "java/lang/String" (some 0) with
  accessFlags := 49
  interfaces := #[2, 3, 4, 5, 6]
  cf := some (fileOf pool7 10 #[.nestMembers #[1103]] #[{ accessFlags := 1, nameIndex := 5, descriptorIndex := 6, attributes := #[] }, { accessFlags := 1, nameIndex := 5, descriptorIndex := 1010, attributes := #[] }, { accessFlags := 1, nameIndex := 507, descriptorIndex := 334, attributes := #[] }, { accessFlags := 1, nameIndex := 635, descriptorIndex := 765, attributes := #[] }, { accessFlags := 1, nameIndex := 635, descriptorIndex := 636, attributes := #[] }, { accessFlags := 9, nameIndex := 782, descriptorIndex := 783, attributes := #[] }, { accessFlags := 2, nameIndex := 5, descriptorIndex := 29, attributes := #[] }, { accessFlags := 0, nameIndex := 5, descriptorIndex := 211, attributes := #[] }, { accessFlags := 0, nameIndex := 17, descriptorIndex := 337, attributes := #[] }, { accessFlags := 0, nameIndex := 494, descriptorIndex := 142, attributes := #[] }, { accessFlags := 8, nameIndex := 523, descriptorIndex := 524, attributes := #[] }] 49 2 #[1106, 1108, 575, 1110, 1112] #[{ accessFlags := 18, nameIndex := 13, descriptorIndex := 14, attributes := #[] }, { accessFlags := 18, nameIndex := 17, descriptorIndex := 18, attributes := #[] }, { accessFlags := 2, nameIndex := 21, descriptorIndex := 22, attributes := #[] }, { accessFlags := 2, nameIndex := 25, descriptorIndex := 26, attributes := #[] }, { accessFlags := 26, nameIndex := 1116, descriptorIndex := 1117, attributes := #[] }, { accessFlags := 24, nameIndex := 40, descriptorIndex := 26, attributes := #[] }, { accessFlags := 26, nameIndex := 1101, descriptorIndex := 1102, attributes := #[] }, { accessFlags := 26, nameIndex := 1121, descriptorIndex := 1122, attributes := #[] }, { accessFlags := 25, nameIndex := 599, descriptorIndex := 600, attributes := #[] }, { accessFlags := 24, nameIndex := 1125, descriptorIndex := 18, attributes := #[] }, { accessFlags := 24, nameIndex := 1127, descriptorIndex := 18, attributes := #[] }])
  fields := #[{ name := "value", type := (.array .byte), accessFlags := 18, slot := 0, constantValue := 0 }, { name := "coder", type := .byte, accessFlags := 18, slot := 1, constantValue := 0 }, { name := "hash", type := .int, accessFlags := 2, slot := 2, constantValue := 0 }, { name := "hashIsZero", type := .boolean, accessFlags := 2, slot := 3, constantValue := 0 }, { name := "serialVersionUID", type := .long, accessFlags := 26, slot := 0, constantValue := 0 }, { name := "COMPACT_STRINGS", type := .boolean, accessFlags := 24, slot := 1, constantValue := 0 }, { name := "serialPersistentFields", type := (.array (.object "java/io/ObjectStreamField")), accessFlags := 26, slot := 2, constantValue := 0 }, { name := "REPL", type := .char, accessFlags := 26, slot := 3, constantValue := 0 }, { name := "CASE_INSENSITIVE_ORDER", type := (.object "java/util/Comparator"), accessFlags := 25, slot := 4, constantValue := 0 }, { name := "LATIN1", type := .byte, accessFlags := 24, slot := 5, constantValue := 0 }, { name := "UTF16", type := .byte, accessFlags := 24, slot := 6, constantValue := 0 }]
  methods := #[k7m0, k7m1, k7m2, k7m3, k7m4, k7m5, k7m6, k7m7, k7m8, k7m9, k7m10]
  instanceTypes := #[(.array .byte), .byte, .int, .boolean]
  staticTypes := #[.long, .boolean, (.array (.object "java/io/ObjectStreamField")), .char, (.object "java/util/Comparator"), .byte, .byte]
  resolved := Array.replicate 1451 none
  statics := some 0 }

def pool8 : Array CpInfo := pool [(4, .class_ 6), (1, u "java/lang/Object"), (3, .class_ 12), (1, u "com/example/trustee/trustee/PartPattern"), (0, u "separator"), (0, u "C"), (2, u "lead"), (0, u "Ljava/lang/String;"), (2, u "placedParts"), (0, u "[[I"), (2, u "labels"), (2, u "targets"), (2, u "accepting"), (0, u "Ljava/util/BitSet;"), (2, u "start"), (0, u "I"), (2, u "below"), (4, u "reach"), (42, .methodref 88 89), (0, .class_ 90), (0, .nameAndType 91 92), (0, u "java/lang/String"), (0, u "indexOf"), (0, u "(I)I"), (75, .class_ 169), (0, u "com/example/trustee/trustee/PartPattern$Builder"), (51, u "(Ljava/lang/String;)Z"), (42, .class_ 265), (0, u "com/example/trustee/trustee/PartPattern$Steps"), (17, .class_ 284), (0, u "com/example/trustee/trustee/PartPattern$Union"), (45, .class_ 331), (0, u "com/example/trustee/trustee/PartPattern$States"), (69, u "EVERY_PART"), (1, u "ANY_IN_PART"), (1, u "ANY"), (1, u "ANY_RUN"), (1, u "UNNAMED"), (0, u "MOST_COMPARING_STEPS"), (0, u "NOWHERE"), (0, u "UNTOLD"), (7, u "isWild"), (21, .class_ 443), (0, u "com/example/trustee/trustee/PartPattern$States$Gathered")] 46

def k8c0 : Code := { maxStack := 2, maxLocals := 1, code := prog_17_method_3_code, exceptionTable := #[], attributes := #[] }
def k8m0 : Method := { name := "isWild", desc := "(Ljava/lang/String;)Z", sig := { parameters := [(.object "java/lang/String")], returnType := some .boolean }, accessFlags := 8, code := some k8c0 }
/-- com/example/trustee/trustee/PartPattern -/
def k8 : Class := { plain "com/example/trustee/trustee/PartPattern" (some 0) with
  accessFlags := 48
  interfaces := #[]
  cf := some (fileOf pool8 10 #[.nestMembers #[168, 330, 442, 283, 264]] #[{ accessFlags := 8, nameIndex := 420, descriptorIndex := 221, attributes := #[] }] 48 4 #[] #[{ accessFlags := 24, nameIndex := 401, descriptorIndex := 18, attributes := #[] }, { accessFlags := 26, nameIndex := 403, descriptorIndex := 36, attributes := #[] }, { accessFlags := 26, nameIndex := 405, descriptorIndex := 36, attributes := #[] }, { accessFlags := 26, nameIndex := 407, descriptorIndex := 36, attributes := #[] }, { accessFlags := 26, nameIndex := 409, descriptorIndex := 36, attributes := #[] }, { accessFlags := 26, nameIndex := 410, descriptorIndex := 36, attributes := #[] }, { accessFlags := 26, nameIndex := 411, descriptorIndex := 36, attributes := #[] }, { accessFlags := 26, nameIndex := 412, descriptorIndex := 36, attributes := #[] }, { accessFlags := 18, nameIndex := 13, descriptorIndex := 14, attributes := #[] }, { accessFlags := 18, nameIndex := 17, descriptorIndex := 18, attributes := #[] }, { accessFlags := 18, nameIndex := 21, descriptorIndex := 22, attributes := #[] }, { accessFlags := 18, nameIndex := 25, descriptorIndex := 22, attributes := #[] }, { accessFlags := 18, nameIndex := 28, descriptorIndex := 22, attributes := #[] }, { accessFlags := 18, nameIndex := 44, descriptorIndex := 22, attributes := #[] }, { accessFlags := 18, nameIndex := 31, descriptorIndex := 32, attributes := #[] }, { accessFlags := 18, nameIndex := 35, descriptorIndex := 36, attributes := #[] }, { accessFlags := 18, nameIndex := 39, descriptorIndex := 36, attributes := #[] }])
  fields := #[{ name := "EVERY_PART", type := (.object "java/lang/String"), accessFlags := 24, slot := 0, constantValue := 0 }, { name := "ANY_IN_PART", type := .int, accessFlags := 26, slot := 1, constantValue := 0 }, { name := "ANY", type := .int, accessFlags := 26, slot := 2, constantValue := 0 }, { name := "ANY_RUN", type := .int, accessFlags := 26, slot := 3, constantValue := 0 }, { name := "UNNAMED", type := .int, accessFlags := 26, slot := 4, constantValue := 0 }, { name := "MOST_COMPARING_STEPS", type := .int, accessFlags := 26, slot := 5, constantValue := 0 }, { name := "NOWHERE", type := .int, accessFlags := 26, slot := 6, constantValue := 0 }, { name := "UNTOLD", type := .int, accessFlags := 26, slot := 7, constantValue := 0 }, { name := "separator", type := .char, accessFlags := 18, slot := 0, constantValue := 0 }, { name := "lead", type := (.object "java/lang/String"), accessFlags := 18, slot := 1, constantValue := 0 }, { name := "placedParts", type := (.array (.array .int)), accessFlags := 18, slot := 2, constantValue := 0 }, { name := "labels", type := (.array (.array .int)), accessFlags := 18, slot := 3, constantValue := 0 }, { name := "targets", type := (.array (.array .int)), accessFlags := 18, slot := 4, constantValue := 0 }, { name := "reach", type := (.array (.array .int)), accessFlags := 18, slot := 5, constantValue := 0 }, { name := "accepting", type := (.object "java/util/BitSet"), accessFlags := 18, slot := 6, constantValue := 0 }, { name := "start", type := .int, accessFlags := 18, slot := 7, constantValue := 0 }, { name := "below", type := .int, accessFlags := 18, slot := 8, constantValue := 0 }]
  methods := #[k8m0]
  instanceTypes := #[.char, (.object "java/lang/String"), (.array (.array .int)), (.array (.array .int)), (.array (.array .int)), (.array (.array .int)), (.object "java/util/BitSet"), .int, .int]
  staticTypes := #[(.object "java/lang/String"), .int, .int, .int, .int, .int, .int, .int]
  resolved := Array.replicate 490 none
  statics := none }

def pool9 : Array CpInfo := pool [(4, .class_ 6), (1, u "java/lang/Object"), (0, u "<init>"), (0, u "()V"), (5, .class_ 16), (1, u "java/lang/StringLatin1"), (21, .methodref 39 40), (0, .class_ 41), (0, .nameAndType 42 43), (0, u "java/lang/Math"), (0, u "min"), (0, u "(II)I"), (44, .methodref 14 89), (0, .nameAndType 90 91), (0, u "canEncode"), (0, u "(I)Z"), (0, .methodref 39 93), (0, .nameAndType 94 43), (0, u "max"), (0, .methodref 14 96), (0, .nameAndType 97 98), (0, u "indexOfChar"), (0, u "([BIII)I"), (2, u "indexOf"), (3, u "(C)Z"), (15, u "$assertionsDisabled"), (0, u "Z"), (98, .class_ 223), (1, u "java/lang/StringLatin1$LinesSpliterator"), (156, u "toBytes"), (1, u "(C)[B"), (7, .class_ 391), (0, u "java/lang/StringLatin1$CharsSpliterator")] 3

def k9m0 : Method := { name := "<init>", desc := "()V", sig := { parameters := [], returnType := none }, accessFlags := 0, code := none }
def k9c1 : Code := { maxStack := 2, maxLocals := 1, code := jdk_43_method_3_code, exceptionTable := #[], attributes := #[] }
def k9m1 : Method := { name := "canEncode", desc := "(C)Z", sig := { parameters := [.char], returnType := some .boolean }, accessFlags := 9, code := some k9c1 }
def k9c2 : Code := { maxStack := 2, maxLocals := 1, code := jdk_43_method_4_code, exceptionTable := #[], attributes := #[] }
def k9m2 : Method := { name := "canEncode", desc := "(I)Z", sig := { parameters := [.int], returnType := some .boolean }, accessFlags := 9, code := some k9c2 }
def k9c3 : Code := { maxStack := 4, maxLocals := 4, code := jdk_43_method_22_code, exceptionTable := #[], attributes := #[] }
def k9m3 : Method := { name := "indexOf", desc := "([BIII)I", sig := { parameters := [(.array .byte), .int, .int, .int], returnType := some .int }, accessFlags := 9, code := some k9c3 }
def k9c4 : Code := { maxStack := 2, maxLocals := 6, code := jdk_43_method_23_code, exceptionTable := #[], attributes := #[] }
def k9m4 : Method := { name := "indexOfChar", desc := "([BIII)I", sig := { parameters := [(.array .byte), .int, .int, .int], returnType := some .int }, accessFlags := 10, code := some k9c4 }
def k9c5 : Code := { maxStack := 4, maxLocals := 1, code := jdk_43_method_46_code, exceptionTable := #[], attributes := #[] }
def k9m5 : Method := { name := "toBytes", desc := "(C)[B", sig := { parameters := [.char], returnType := some (.array .byte) }, accessFlags := 9, code := some k9c5 }
/-- java/lang/StringLatin1 -/
def k9 : Class := { plain "java/lang/StringLatin1" (some 0) with
  accessFlags := 48
  interfaces := #[]
  cf := some (fileOf pool9 14 #[.nestMembers #[390, 221]] #[{ accessFlags := 0, nameIndex := 7, descriptorIndex := 8, attributes := #[] }, { accessFlags := 9, nameIndex := 90, descriptorIndex := 105, attributes := #[] }, { accessFlags := 9, nameIndex := 90, descriptorIndex := 91, attributes := #[] }, { accessFlags := 9, nameIndex := 101, descriptorIndex := 98, attributes := #[] }, { accessFlags := 10, nameIndex := 97, descriptorIndex := 98, attributes := #[] }, { accessFlags := 9, nameIndex := 380, descriptorIndex := 382, attributes := #[] }] 48 4 #[] #[{ accessFlags := 4120, nameIndex := 121, descriptorIndex := 122, attributes := #[] }])
  fields := #[{ name := "$assertionsDisabled", type := .boolean, accessFlags := 4120, slot := 0, constantValue := 0 }]
  methods := #[k9m0, k9m1, k9m2, k9m3, k9m4, k9m5]
  instanceTypes := #[]
  staticTypes := #[.boolean]
  resolved := Array.replicate 395 none
  statics := none }

def pool10 : Array CpInfo := pool [(1, .class_ 2), (0, u "java/lang/Math"), (1, .class_ 6), (1, u "java/lang/Object"), (0, u "<init>"), (0, u "()V"), (89, .class_ 100), (1, u "java/lang/Math$RandomNumberGeneratorHolder"), (71, u "negativeZeroFloatBits"), (0, u "J"), (2, u "negativeZeroDoubleBits"), (21, u "max"), (2, u "min"), (43, u "$assertionsDisabled"), (0, u "Z"), (88, u "(II)I"), (2, u "twoToTheDoubleScaleDown"), (0, u "D"), (4, u "twoToTheDoubleScaleUp"), (9, u "E"), (3, u "PI"), (2, u "TAU"), (2, u "DEGREES_TO_RADIANS"), (0, u "RADIANS_TO_DEGREES")] 94

def k10m0 : Method := { name := "<init>", desc := "()V", sig := { parameters := [], returnType := none }, accessFlags := 2, code := none }
def k10c1 : Code := { maxStack := 2, maxLocals := 2, code := jdk_29_method_65_code, exceptionTable := #[], attributes := #[] }
def k10m1 : Method := { name := "max", desc := "(II)I", sig := { parameters := [.int, .int], returnType := some .int }, accessFlags := 9, code := some k10c1 }
def k10c2 : Code := { maxStack := 2, maxLocals := 2, code := jdk_29_method_69_code, exceptionTable := #[], attributes := #[] }
def k10m2 : Method := { name := "min", desc := "(II)I", sig := { parameters := [.int, .int], returnType := some .int }, accessFlags := 9, code := some k10c2 }
/-- java/lang/Math -/
def k10 : Class := { plain "java/lang/Math" (some 0) with
  accessFlags := 49
  interfaces := #[]
  cf := some (fileOf pool10 1 #[.nestMembers #[98]] #[{ accessFlags := 2, nameIndex := 7, descriptorIndex := 8, attributes := #[] }, { accessFlags := 9, nameIndex := 198, descriptorIndex := 335, attributes := #[] }, { accessFlags := 9, nameIndex := 201, descriptorIndex := 335, attributes := #[] }] 49 4 #[] #[{ accessFlags := 25, nameIndex := 354, descriptorIndex := 339, attributes := #[] }, { accessFlags := 25, nameIndex := 358, descriptorIndex := 339, attributes := #[] }, { accessFlags := 25, nameIndex := 361, descriptorIndex := 339, attributes := #[] }, { accessFlags := 26, nameIndex := 364, descriptorIndex := 339, attributes := #[] }, { accessFlags := 26, nameIndex := 365, descriptorIndex := 339, attributes := #[] }, { accessFlags := 26, nameIndex := 172, descriptorIndex := 173, attributes := #[] }, { accessFlags := 26, nameIndex := 176, descriptorIndex := 173, attributes := #[] }, { accessFlags := 8, nameIndex := 344, descriptorIndex := 339, attributes := #[] }, { accessFlags := 8, nameIndex := 338, descriptorIndex := 339, attributes := #[] }, { accessFlags := 4120, nameIndex := 245, descriptorIndex := 246, attributes := #[] }])
  fields := #[{ name := "E", type := .double, accessFlags := 25, slot := 0, constantValue := 0 }, { name := "PI", type := .double, accessFlags := 25, slot := 1, constantValue := 0 }, { name := "TAU", type := .double, accessFlags := 25, slot := 2, constantValue := 0 }, { name := "DEGREES_TO_RADIANS", type := .double, accessFlags := 26, slot := 3, constantValue := 0 }, { name := "RADIANS_TO_DEGREES", type := .double, accessFlags := 26, slot := 4, constantValue := 0 }, { name := "negativeZeroFloatBits", type := .long, accessFlags := 26, slot := 5, constantValue := 0 }, { name := "negativeZeroDoubleBits", type := .long, accessFlags := 26, slot := 6, constantValue := 0 }, { name := "twoToTheDoubleScaleUp", type := .double, accessFlags := 8, slot := 7, constantValue := 0 }, { name := "twoToTheDoubleScaleDown", type := .double, accessFlags := 8, slot := 8, constantValue := 0 }, { name := "$assertionsDisabled", type := .boolean, accessFlags := 4120, slot := 9, constantValue := 0 }]
  methods := #[k10m0, k10m1, k10m2]
  instanceTypes := #[]
  staticTypes := #[.double, .double, .double, .double, .double, .long, .long, .double, .double, .boolean]
  resolved := Array.replicate 460 none
  statics := none }

def pool11 : Array CpInfo := pool [(3, .class_ 4), (0, u "java/lang/String"), (1, .class_ 8), (1, u "java/lang/Object"), (0, u "<init>"), (0, u "()V"), (0, .methodref 12 13), (0, .class_ 14), (0, .nameAndType 15 16), (0, u "java/lang/StringUTF16"), (0, u "newBytesLength"), (0, u "(I)I"), (3, .integer 1073741823), (23, .fieldref 12 45), (0, .nameAndType 46 47), (0, u "$assertionsDisabled"), (0, u "Z"), (0, .methodref 12 49), (0, .nameAndType 50 51), (0, u "length"), (0, u "([B)I"), (7, .fieldref 12 60), (0, .nameAndType 61 62), (0, u "HI_BYTE_SHIFT"), (0, u "I"), (0, .fieldref 12 64), (0, .nameAndType 65 62), (0, u "LO_BYTE_SHIFT"), (5, .methodref 12 72), (0, .nameAndType 73 74), (0, u "getChar"), (0, u "([BI)C"), (21, .methodref 12 97), (0, .nameAndType 98 99), (0, u "checkBoundsBeginEnd"), (0, u "(II[B)V"), (7, .methodref 12 108), (0, .nameAndType 109 110), (0, u "newBytesFor"), (0, u "(I)[B"), (0, .methodref 12 112), (0, .nameAndType 113 114), (0, u "putChar"), (0, u "([BII)V"), (0, .methodref 12 116), (0, .nameAndType 117 118), (0, u "compress"), (0, u "([CI[BII)I"), (0, .methodref 12 120), (0, .nameAndType 121 122), (0, u "toBytes"), (0, u "([CII)[B"), (60, .methodref 184 185), (0, .class_ 186), (0, .nameAndType 187 188), (0, u "java/lang/Math"), (0, u "min"), (0, u "(II)I"), (35, .methodref 184 225), (0, .nameAndType 226 188), (0, u "max"), (0, .integer 65536), (0, .methodref 12 229), (0, .nameAndType 230 231), (0, u "indexOfChar"), (0, u "([BIII)I"), (9, .methodref 3 242), (0, .nameAndType 98 243), (0, u "(III)V"), (0, .methodref 12 245), (0, .nameAndType 246 231), (0, u "indexOfCharUnsafe"), (14, u "coderFromArrayLen"), (0, u "([BI)B"), (5, u "indexOf"), (100, .class_ 371), (1, u "java/lang/StringUTF16$LinesSpliterator"), (58, u "MAX_LENGTH"), (44, u "(C)[B"), (151, .class_ 628), (0, u "java/lang/StringUTF16$CodePointsSpliterator"), (0, .class_ 630), (0, u "java/lang/StringUTF16$CharsSpliterator")] 4

def k11m0 : Method := { name := "<init>", desc := "()V", sig := { parameters := [], returnType := none }, accessFlags := 0, code := none }
def k11c1 : Code := { maxStack := 1, maxLocals := 1, code := jdk_52_method_2_code, exceptionTable := #[], attributes := #[] }
def k11m1 : Method := { name := "newBytesFor", desc := "(I)[B", sig := { parameters := [.int], returnType := some (.array .byte) }, accessFlags := 9, code := some k11c1 }
def k11c2 : Code := { maxStack := 4, maxLocals := 1, code := jdk_52_method_3_code, exceptionTable := #[], attributes := #[] }
def k11m2 : Method := { name := "newBytesLength", desc := "(I)I", sig := { parameters := [.int], returnType := some .int }, accessFlags := 9, code := some k11c2 }
def k11c3 : Code := { maxStack := 4, maxLocals := 3, code := jdk_52_method_4_code, exceptionTable := #[], attributes := #[] }
def k11m3 : Method := { name := "putChar", desc := "([BII)V", sig := { parameters := [(.array .byte), .int, .int], returnType := none }, accessFlags := 8, code := some k11c3 }
def k11c4 : Code := { maxStack := 3, maxLocals := 2, code := jdk_52_method_5_code, exceptionTable := #[], attributes := #[] }
def k11m4 : Method := { name := "getChar", desc := "([BI)C", sig := { parameters := [(.array .byte), .int], returnType := some .char }, accessFlags := 8, code := some k11c4 }
def k11c5 : Code := { maxStack := 2, maxLocals := 1, code := jdk_52_method_6_code, exceptionTable := #[], attributes := #[] }
def k11m5 : Method := { name := "length", desc := "([B)I", sig := { parameters := [(.array .byte)], returnType := some .int }, accessFlags := 9, code := some k11c5 }
def k11c6 : Code := { maxStack := 4, maxLocals := 5, code := jdk_52_method_14_code, exceptionTable := #[], attributes := #[] }
def k11m6 : Method := { name := "toBytes", desc := "([CII)[B", sig := { parameters := [(.array .char), .int, .int], returnType := some (.array .byte) }, accessFlags := 9, code := some k11c6 }
def k11c7 : Code := { maxStack := 2, maxLocals := 2, code := jdk_52_method_15_code, exceptionTable := #[], attributes := #[] }
def k11m7 : Method := { name := "coderFromArrayLen", desc := "([BI)B", sig := { parameters := [(.array .byte), .int], returnType := some .byte }, accessFlags := 8, code := some k11c7 }
def k11c8 : Code := { maxStack := 5, maxLocals := 6, code := jdk_52_method_16_code, exceptionTable := #[], attributes := #[] }
def k11m8 : Method := { name := "compress", desc := "([CII)[B", sig := { parameters := [(.array .char), .int, .int], returnType := some (.array .byte) }, accessFlags := 9, code := some k11c8 }
def k11c9 : Code := { maxStack := 3, maxLocals := 7, code := jdk_52_method_21_code, exceptionTable := #[], attributes := #[] }
def k11m9 : Method := { name := "compress", desc := "([CI[BII)I", sig := { parameters := [(.array .char), .int, (.array .byte), .int, .int], returnType := some .int }, accessFlags := 9, code := some k11c9 }
def k11c10 : Code := { maxStack := 3, maxLocals := 2, code := jdk_52_method_24_code, exceptionTable := #[], attributes := #[] }
def k11m10 : Method := { name := "toBytes", desc := "(C)[B", sig := { parameters := [.char], returnType := some (.array .byte) }, accessFlags := 9, code := some k11c10 }
def k11c11 : Code := { maxStack := 4, maxLocals := 4, code := jdk_52_method_40_code, exceptionTable := #[], attributes := #[] }
def k11m11 : Method := { name := "indexOf", desc := "([BIII)I", sig := { parameters := [(.array .byte), .int, .int, .int], returnType := some .int }, accessFlags := 9, code := some k11c11 }
def k11c12 : Code := { maxStack := 4, maxLocals := 4, code := jdk_52_method_47_code, exceptionTable := #[], attributes := #[] }
def k11m12 : Method := { name := "indexOfChar", desc := "([BIII)I", sig := { parameters := [(.array .byte), .int, .int, .int], returnType := some .int }, accessFlags := 10, code := some k11c12 }
def k11c13 : Code := { maxStack := 2, maxLocals := 5, code := jdk_52_method_48_code, exceptionTable := #[], attributes := #[] }
def k11m13 : Method := { name := "indexOfCharUnsafe", desc := "([BIII)I", sig := { parameters := [(.array .byte), .int, .int, .int], returnType := some .int }, accessFlags := 10, code := some k11c13 }
def k11c14 : Code := { maxStack := 3, maxLocals := 3, code := jdk_52_method_93_code, exceptionTable := #[], attributes := #[] }
def k11m14 : Method := { name := "checkBoundsBeginEnd", desc := "(II[B)V", sig := { parameters := [.int, .int, (.array .byte)], returnType := none }, accessFlags := 9, code := some k11c14 }
/-- java/lang/StringUTF16 -/
def k11 : Class := { plain "java/lang/StringUTF16" (some 0) with
  accessFlags := 48
  interfaces := #[]
  cf := some (fileOf pool11 12 #[.nestMembers #[627, 629, 369]] #[{ accessFlags := 0, nameIndex := 9, descriptorIndex := 10, attributes := #[] }, { accessFlags := 9, nameIndex := 109, descriptorIndex := 110, attributes := #[] }, { accessFlags := 9, nameIndex := 15, descriptorIndex := 16, attributes := #[] }, { accessFlags := 8, nameIndex := 113, descriptorIndex := 114, attributes := #[] }, { accessFlags := 8, nameIndex := 73, descriptorIndex := 74, attributes := #[] }, { accessFlags := 9, nameIndex := 50, descriptorIndex := 51, attributes := #[] }, { accessFlags := 9, nameIndex := 121, descriptorIndex := 122, attributes := #[] }, { accessFlags := 8, nameIndex := 261, descriptorIndex := 262, attributes := #[] }, { accessFlags := 9, nameIndex := 117, descriptorIndex := 122, attributes := #[] }, { accessFlags := 9, nameIndex := 117, descriptorIndex := 118, attributes := #[] }, { accessFlags := 9, nameIndex := 121, descriptorIndex := 475, attributes := #[] }, { accessFlags := 9, nameIndex := 268, descriptorIndex := 231, attributes := #[] }, { accessFlags := 10, nameIndex := 230, descriptorIndex := 231, attributes := #[] }, { accessFlags := 10, nameIndex := 246, descriptorIndex := 231, attributes := #[] }, { accessFlags := 9, nameIndex := 98, descriptorIndex := 99, attributes := #[] }] 48 6 #[] #[{ accessFlags := 26, nameIndex := 61, descriptorIndex := 62, attributes := #[] }, { accessFlags := 26, nameIndex := 65, descriptorIndex := 62, attributes := #[] }, { accessFlags := 24, nameIndex := 430, descriptorIndex := 62, attributes := #[] }, { accessFlags := 4120, nameIndex := 46, descriptorIndex := 47, attributes := #[] }])
  fields := #[{ name := "HI_BYTE_SHIFT", type := .int, accessFlags := 26, slot := 0, constantValue := 0 }, { name := "LO_BYTE_SHIFT", type := .int, accessFlags := 26, slot := 1, constantValue := 0 }, { name := "MAX_LENGTH", type := .int, accessFlags := 24, slot := 2, constantValue := 0 }, { name := "$assertionsDisabled", type := .boolean, accessFlags := 4120, slot := 3, constantValue := 0 }]
  methods := #[k11m0, k11m1, k11m2, k11m3, k11m4, k11m5, k11m6, k11m7, k11m8, k11m9, k11m10, k11m11, k11m12, k11m13, k11m14]
  instanceTypes := #[]
  staticTypes := #[.int, .int, .int, .boolean]
  resolved := Array.replicate 635 none
  statics := some 1 }

def pool12 : Array CpInfo := pool [(2, .class_ 4), (1, u "java/lang/Object"), (0, u "<init>"), (0, u "()V"), (17, .class_ 26), (1, u "jdk/internal/util/Preconditions"), (20, u "checkFromToIndex"), (7, .class_ 56), (0, u "jdk/internal/util/Preconditions$4"), (57, .class_ 115), (0, u "jdk/internal/util/Preconditions$1"), (7, u "SIOOBE_FORMATTER"), (0, u "Ljava/util/function/BiFunction;"), (0, .class_ 126), (0, u "jdk/internal/util/Preconditions$2"), (3, u "AIOOBE_FORMATTER"), (0, .class_ 132), (0, u "jdk/internal/util/Preconditions$3"), (3, u "IOOBE_FORMATTER"), (46, u "(IIILjava/util/function/BiFunction;)I")] 10

def k12m0 : Method := { name := "<init>", desc := "()V", sig := { parameters := [], returnType := none }, accessFlags := 1, code := none }
def k12c1 : Code := { maxStack := 4, maxLocals := 4, code := jdk_41_method_12_code, exceptionTable := #[], attributes := #[] }
def k12m1 : Method := { name := "checkFromToIndex", desc := "(IIILjava/util/function/BiFunction;)I", sig := { parameters := [.int, .int, .int, (.object "java/util/function/BiFunction")], returnType := some .int }, accessFlags := 9, code := some k12c1 }
/-- jdk/internal/util/Preconditions -/
def k12 : Class := { plain "jdk/internal/util/Preconditions" (some 0) with
  accessFlags := 33
  interfaces := #[]
  cf := some (fileOf pool12 24 #[.nestMembers #[55, 131, 125, 114]] #[{ accessFlags := 1, nameIndex := 5, descriptorIndex := 6, attributes := #[] }, { accessFlags := 9, nameIndex := 47, descriptorIndex := 183, attributes := #[] }] 33 2 #[] #[{ accessFlags := 25, nameIndex := 123, descriptorIndex := 124, attributes := #[] }, { accessFlags := 25, nameIndex := 130, descriptorIndex := 124, attributes := #[] }, { accessFlags := 25, nameIndex := 136, descriptorIndex := 124, attributes := #[] }])
  fields := #[{ name := "SIOOBE_FORMATTER", type := (.object "java/util/function/BiFunction"), accessFlags := 25, slot := 0, constantValue := 0 }, { name := "AIOOBE_FORMATTER", type := (.object "java/util/function/BiFunction"), accessFlags := 25, slot := 1, constantValue := 0 }, { name := "IOOBE_FORMATTER", type := (.object "java/util/function/BiFunction"), accessFlags := 25, slot := 2, constantValue := 0 }]
  methods := #[k12m0, k12m1]
  instanceTypes := #[]
  staticTypes := #[(.object "java/util/function/BiFunction"), (.object "java/util/function/BiFunction"), (.object "java/util/function/BiFunction")]
  resolved := Array.replicate 194 none
  statics := some 2 }

def pool13 : Array CpInfo := pool [(9, u "<init>"), (6, .class_ 18), (1, u "java/lang/Object"), (0, u "()V"), (1, .class_ 23), (1, u "jdk/internal/util/ArraysSupport"), (0, u "LOG2_ARRAY_LONG_INDEX_SCALE"), (0, u "I"), (2, u "U"), (0, u "Ljdk/internal/misc/Unsafe;"), (8, u "BIG_ENDIAN"), (0, u "Z"), (8, u "LOG2_BYTE_BIT_SIZE"), (4, u "LOG2_ARRAY_INT_INDEX_SCALE"), (54, u "JLA"), (0, u "Ljdk/internal/access/JavaLangAccess;"), (11, u "LOG2_ARRAY_BOOLEAN_INDEX_SCALE"), (9, u "LOG2_ARRAY_BYTE_INDEX_SCALE"), (5, u "LOG2_ARRAY_CHAR_INDEX_SCALE"), (5, u "LOG2_ARRAY_SHORT_INDEX_SCALE"), (18, u "LOG2_ARRAY_FLOAT_INDEX_SCALE"), (24, u "LOG2_ARRAY_DOUBLE_INDEX_SCALE"), (89, u "T_BOOLEAN"), (2, u "T_CHAR"), (1, u "T_FLOAT"), (1, u "T_DOUBLE"), (1, u "T_BYTE"), (1, u "T_SHORT"), (1, u "T_INT"), (1, u "T_LONG"), (1, u "SOFT_MAX_ARRAY_LENGTH")] 83

def k13m0 : Method := { name := "<init>", desc := "()V", sig := { parameters := [], returnType := none }, accessFlags := 2, code := none }
/-- jdk/internal/util/ArraysSupport -/
def k13 : Class := { plain "jdk/internal/util/ArraysSupport" (some 0) with
  accessFlags := 33
  interfaces := #[]
  cf := some (fileOf pool13 21 #[] #[{ accessFlags := 2, nameIndex := 9, descriptorIndex := 19, attributes := #[] }] 33 16 #[] #[{ accessFlags := 24, nameIndex := 28, descriptorIndex := 29, attributes := #[] }, { accessFlags := 26, nameIndex := 38, descriptorIndex := 39, attributes := #[] }, { accessFlags := 25, nameIndex := 121, descriptorIndex := 25, attributes := #[] }, { accessFlags := 25, nameIndex := 131, descriptorIndex := 25, attributes := #[] }, { accessFlags := 25, nameIndex := 137, descriptorIndex := 25, attributes := #[] }, { accessFlags := 25, nameIndex := 143, descriptorIndex := 25, attributes := #[] }, { accessFlags := 25, nameIndex := 53, descriptorIndex := 25, attributes := #[] }, { accessFlags := 25, nameIndex := 24, descriptorIndex := 25, attributes := #[] }, { accessFlags := 25, nameIndex := 162, descriptorIndex := 25, attributes := #[] }, { accessFlags := 25, nameIndex := 187, descriptorIndex := 25, attributes := #[] }, { accessFlags := 26, nameIndex := 48, descriptorIndex := 25, attributes := #[] }, { accessFlags := 25, nameIndex := 277, descriptorIndex := 25, attributes := #[] }, { accessFlags := 25, nameIndex := 280, descriptorIndex := 25, attributes := #[] }, { accessFlags := 25, nameIndex := 282, descriptorIndex := 25, attributes := #[] }, { accessFlags := 25, nameIndex := 284, descriptorIndex := 25, attributes := #[] }, { accessFlags := 25, nameIndex := 286, descriptorIndex := 25, attributes := #[] }, { accessFlags := 25, nameIndex := 288, descriptorIndex := 25, attributes := #[] }, { accessFlags := 25, nameIndex := 290, descriptorIndex := 25, attributes := #[] }, { accessFlags := 25, nameIndex := 292, descriptorIndex := 25, attributes := #[] }, { accessFlags := 26, nameIndex := 108, descriptorIndex := 109, attributes := #[] }, { accessFlags := 25, nameIndex := 294, descriptorIndex := 25, attributes := #[] }])
  fields := #[{ name := "U", type := (.object "jdk/internal/misc/Unsafe"), accessFlags := 24, slot := 0, constantValue := 0 }, { name := "BIG_ENDIAN", type := .boolean, accessFlags := 26, slot := 1, constantValue := 0 }, { name := "LOG2_ARRAY_BOOLEAN_INDEX_SCALE", type := .int, accessFlags := 25, slot := 2, constantValue := 0 }, { name := "LOG2_ARRAY_BYTE_INDEX_SCALE", type := .int, accessFlags := 25, slot := 3, constantValue := 0 }, { name := "LOG2_ARRAY_CHAR_INDEX_SCALE", type := .int, accessFlags := 25, slot := 4, constantValue := 0 }, { name := "LOG2_ARRAY_SHORT_INDEX_SCALE", type := .int, accessFlags := 25, slot := 5, constantValue := 0 }, { name := "LOG2_ARRAY_INT_INDEX_SCALE", type := .int, accessFlags := 25, slot := 6, constantValue := 0 }, { name := "LOG2_ARRAY_LONG_INDEX_SCALE", type := .int, accessFlags := 25, slot := 7, constantValue := 0 }, { name := "LOG2_ARRAY_FLOAT_INDEX_SCALE", type := .int, accessFlags := 25, slot := 8, constantValue := 0 }, { name := "LOG2_ARRAY_DOUBLE_INDEX_SCALE", type := .int, accessFlags := 25, slot := 9, constantValue := 0 }, { name := "LOG2_BYTE_BIT_SIZE", type := .int, accessFlags := 26, slot := 10, constantValue := 0 }, { name := "T_BOOLEAN", type := .int, accessFlags := 25, slot := 11, constantValue := 0 }, { name := "T_CHAR", type := .int, accessFlags := 25, slot := 12, constantValue := 0 }, { name := "T_FLOAT", type := .int, accessFlags := 25, slot := 13, constantValue := 0 }, { name := "T_DOUBLE", type := .int, accessFlags := 25, slot := 14, constantValue := 0 }, { name := "T_BYTE", type := .int, accessFlags := 25, slot := 15, constantValue := 0 }, { name := "T_SHORT", type := .int, accessFlags := 25, slot := 16, constantValue := 0 }, { name := "T_INT", type := .int, accessFlags := 25, slot := 17, constantValue := 0 }, { name := "T_LONG", type := .int, accessFlags := 25, slot := 18, constantValue := 0 }, { name := "JLA", type := (.object "jdk/internal/access/JavaLangAccess"), accessFlags := 26, slot := 19, constantValue := 0 }, { name := "SOFT_MAX_ARRAY_LENGTH", type := .int, accessFlags := 25, slot := 20, constantValue := 0 }]
  methods := #[k13m0]
  instanceTypes := #[]
  staticTypes := #[(.object "jdk/internal/misc/Unsafe"), .boolean, .int, .int, .int, .int, .int, .int, .int, .int, .int, .int, .int, .int, .int, .int, .int, .int, .int, (.object "jdk/internal/access/JavaLangAccess"), .int]
  resolved := Array.replicate 378 none
  statics := none }

def pool14 : Array CpInfo := pool [(1, u "java/lang/Cloneable"), (0, .class_ 1), (0, u "java/lang/Object"), (0, .class_ 3)] 3

/-- java/lang/Cloneable -/
def k14 : Class := { plain "java/lang/Cloneable" (some 0) with
  accessFlags := 1537
  interfaces := #[]
  cf := some (fileOf pool14 2 #[] #[] 1537 4 #[] #[])
  fields := #[]
  methods := #[]
  instanceTypes := #[]
  staticTypes := #[]
  resolved := Array.replicate 8 none
  statics := none }

/-- the primitive byte -/
def k15 : Class := { plain "byte" none with kind := .primitive 'B', accessFlags := 0x411 }
/-- [B -/
def k16 : Class := { plain "[B" (some 0) with kind := .array 15 .byte, interfaces := #[14, 2], accessFlags := 1041 }

/-- the primitive char -/
def k17 : Class := { plain "char" none with kind := .primitive 'C', accessFlags := 0x411 }
/-- [C -/
def k18 : Class := { plain "[C" (some 0) with kind := .array 17 .char, interfaces := #[14, 2], accessFlags := 1041 }

/-- the primitive int -/
def k19 : Class := { plain "int" none with kind := .primitive 'I', accessFlags := 0x411 }
/-- [I -/
def k20 : Class := { plain "[I" (some 0) with kind := .array 19 .int, interfaces := #[14, 2], accessFlags := 1041 }

def heap : Heap := #[{ cls := 7, slots := #[.long 0, .int 1, .null, .int 0, .null, .int 0, .int 0], vm := .statics 7 },
  { cls := 11, slots := #[.int 0, .int 8, .int 0, .int 1], vm := .statics 11 },
  { cls := 12, slots := #[.null, .null, .null], vm := .statics 12 }]
def classes : Array Class := #[k0, k1, k2, k3, k4, k5, k6, k7, k8, k9, k10, k11, k12, k13, k14, k15, k16, k17, k18, k19, k20]
def interned : List (Array UInt16 × Addr) := []
def slotsUsed : Nat := 14
def theMethod : MethodId := ⟨1, 1⟩
def args0 : Array Value := #[.int 5, .int 5, .int 5, .int 5, .int 5]
def aboutOver (below : List Frame) : State where
  vm := { classes := classes, interned := interned.toArray }
  heap := heap
  slotsUsed := slotsUsed
  threads := #[{ frames := .invoking theMethod args0 :: below }]
def below0 : List Frame := [.native { method := ⟨0, 0⟩, args := #[] }]
def about1 : State := aboutOver below0
def p0 : Program := .bare "" "" ""
def e0 : Env := launch0.env 0 0 0
theorem w_frames : about1.frames = Frame.invoking theMethod args0 :: below0 := rfl
set_option maxRecDepth 65536 in
theorem w_args : argsFit about1.vm theMethod args0 = true := by decide +kernel
set_option maxRecDepth 65536 in
theorem w_heap : heapFits about1 = true := by decide +kernel
set_option maxRecDepth 65536 in
theorem w_runnable : about1.curStatus? = some .runnable := by decide +kernel
set_option maxRecDepth 65536 in
theorem w_alone : about1.alone = true := by decide +kernel
set_option maxRecDepth 65536 in
theorem w_named : about1.methodNamed? x = some theMethod := by decide +kernel
set_option maxRecDepth 65536 in
theorem w_hears : about1.hears theMethod below0 = true := by decide +kernel
set_option maxRecDepth 65536 in
theorem w_ripe : about1.ripe theMethod args0 below0 = true := by decide +kernel
theorem w_running : about1.status = .running := rfl
set_option maxRecDepth 65536 in
theorem w_room : about1.hasRoom e0.platform room_1 = true :=
  launch0.hasRoom_least _ room_1 (by decide +kernel) (by decide +kernel) (by decide +kernel) (by decide +kernel) (by decide +kernel) (by decide +kernel)
theorem allAtoms_all (ts : List Jvm.Cond) (a : Array Jvm.Value) (st : Jvm.State) : (allAtoms ts).before a st = ts.all (fun c => c.before a st) := by
  induction ts with
  | nil => rfl
  | cons c t ih =>
    show (Jvm.Cond.and c (allAtoms t)).before a st = _
    rw [Jvm.Cond.before_and, ih, List.all_cons]
def words1 : List Jvm.Cond := Jvm.Cond.code x code maxLocals ret :: tables_1
/-- a 'code' word, met by the world's own term for the bytes: nothing is compared byte by byte -/
theorem code_word {y : MethodName} {bytes : ByteArray} {mx : Nat} {rt : Option FieldType} {a : Array Value} {s : State} {m : MethodId} {meth : Method} {c : Code} (h1 : s.methodNamed? y = some m) (h2 : s.vm.method? m = some meth) (h3 : meth.code = some c) (h4 : c.code = bytes)
    (h5 : (c.maxLocals == mx && c.exceptionTable.isEmpty && decide (c.maxStack ≤ mostOperands) && decide (meth.sig.returnType = rt) && !meth.locks && decide (parseMethodDescriptor y.desc = some meth.sig)) = true) : (Jvm.Cond.code y bytes mx rt).before a s = true := by
  simp only [Bool.and_eq_true, beq_iff_eq, Bool.not_eq_true', decide_eq_true_eq] at h5
  obtain ⟨⟨⟨⟨⟨g1, g2⟩, g3⟩, g4⟩, g5⟩, g6⟩ := h5
  simp [Cond.before, Cond.holds, Cond.value, h1, h2, h3, h4, g1, g2, g3, g4, g5, g6]
def isCode : Jvm.Cond → Bool
  | .code _ _ _ _ => true
  | _ => false
theorem all_split {L : List Jvm.Cond} {P : Jvm.Cond → Bool} (h1 : L.all (fun c => isCode c || P c) = true) (h2 : ∀ c ∈ L.filter isCode, P c = true) : L.all P = true := by
  refine List.all_eq_true.mpr fun c hc => ?_
  have h := List.all_eq_true.mp h1 c hc
  rcases Bool.eq_false_or_eq_true (isCode c) with hi | hi
  · exact h2 c (List.mem_filter.mpr ⟨hc, hi⟩)
  · simpa [hi] using h
set_option maxRecDepth 65536 in
theorem w_c0 : (Jvm.Cond.code x code maxLocals ret).before args0 about1 = true := code_word (m := ⟨1, 1⟩) (meth := k1m1) (c := k1c1) (by decide +kernel) rfl rfl rfl (by decide +kernel)
set_option maxRecDepth 65536 in
theorem w_c1 : (Jvm.Cond.code ({ cls := "com/example/trustee/trustee/PartPatternIsWildPinLaw", name := "draw", desc := "(I)C" } : Jvm.MethodName) method_3_code (2 : Nat) (Option.some Jvm.ClassFile.FieldType.char)).before args0 about1 = true := code_word (m := ⟨1, 2⟩) (meth := k1m2) (c := k1c2) (by decide +kernel) rfl rfl rfl (by decide +kernel)
set_option maxRecDepth 65536 in
theorem w_c2 : (Jvm.Cond.code ({ cls := "java/lang/String", name := "<init>", desc := "([C)V" } : Jvm.MethodName) jdk_42_method_3_code (2 : Nat) (Option.none : Option Jvm.ClassFile.FieldType)).before args0 about1 = true := code_word (m := ⟨7, 1⟩) (meth := k7m1) (c := k7c1) (by decide +kernel) rfl rfl rfl (by decide +kernel)
set_option maxRecDepth 65536 in
theorem w_c3 : (Jvm.Cond.code ({ cls := "java/lang/String", name := "<init>", desc := "([CIILjava/lang/Void;)V" } : Jvm.MethodName) jdk_42_method_149_code (6 : Nat) (Option.none : Option Jvm.ClassFile.FieldType)).before args0 about1 = true := code_word (m := ⟨7, 6⟩) (meth := k7m6) (c := k7c6) (by decide +kernel) rfl rfl rfl (by decide +kernel)
set_option maxRecDepth 65536 in
theorem w_c4 : (Jvm.Cond.code ({ cls := "java/lang/Object", name := "<init>", desc := "()V" } : Jvm.MethodName) object_method_1_code (1 : Nat) (Option.none : Option Jvm.ClassFile.FieldType)).before args0 about1 = true := code_word (m := ⟨0, 0⟩) (meth := k0m0) (c := k0c0) (by decide +kernel) rfl rfl rfl (by decide +kernel)
set_option maxRecDepth 65536 in
theorem w_c5 : (Jvm.Cond.code ({ cls := "com/example/trustee/trustee/PartPattern", name := "isWild", desc := "(Ljava/lang/String;)Z" } : Jvm.MethodName) prog_17_method_3_code (1 : Nat) (Option.some Jvm.ClassFile.FieldType.boolean)).before args0 about1 = true := code_word (m := ⟨8, 0⟩) (meth := k8m0) (c := k8c0) (by decide +kernel) rfl rfl rfl (by decide +kernel)
set_option maxRecDepth 65536 in
theorem w_c6 : (Jvm.Cond.code ({ cls := "java/lang/String", name := "indexOf", desc := "(I)I" } : Jvm.MethodName) jdk_42_method_79_code (2 : Nat) (Option.some Jvm.ClassFile.FieldType.int)).before args0 about1 = true := code_word (m := ⟨7, 3⟩) (meth := k7m3) (c := k7c3) (by decide +kernel) rfl rfl rfl (by decide +kernel)
set_option maxRecDepth 65536 in
theorem w_c7 : (Jvm.Cond.code ({ cls := "java/lang/String", name := "indexOf", desc := "(II)I" } : Jvm.MethodName) jdk_42_method_80_code (3 : Nat) (Option.some Jvm.ClassFile.FieldType.int)).before args0 about1 = true := code_word (m := ⟨7, 4⟩) (meth := k7m4) (c := k7c4) (by decide +kernel) rfl rfl rfl (by decide +kernel)
set_option maxRecDepth 65536 in
theorem w_c8 : (Jvm.Cond.code ({ cls := "java/lang/String", name := "isLatin1", desc := "()Z" } : Jvm.MethodName) jdk_42_method_154_code (1 : Nat) (Option.some Jvm.ClassFile.FieldType.boolean)).before args0 about1 = true := code_word (m := ⟨7, 9⟩) (meth := k7m9) (c := k7c9) (by decide +kernel) rfl rfl rfl (by decide +kernel)
set_option maxRecDepth 65536 in
theorem w_c9 : (Jvm.Cond.code ({ cls := "java/lang/String", name := "length", desc := "()I" } : Jvm.MethodName) jdk_42_method_54_code (1 : Nat) (Option.some Jvm.ClassFile.FieldType.int)).before args0 about1 = true := code_word (m := ⟨7, 2⟩) (meth := k7m2) (c := k7c2) (by decide +kernel) rfl rfl rfl (by decide +kernel)
set_option maxRecDepth 65536 in
theorem w_c10 : (Jvm.Cond.code ({ cls := "java/lang/String", name := "coder", desc := "()B" } : Jvm.MethodName) jdk_42_method_152_code (1 : Nat) (Option.some Jvm.ClassFile.FieldType.byte)).before args0 about1 = true := code_word (m := ⟨7, 8⟩) (meth := k7m8) (c := k7c8) (by decide +kernel) rfl rfl rfl (by decide +kernel)
set_option maxRecDepth 65536 in
theorem w_c11 : (Jvm.Cond.code ({ cls := "java/lang/StringLatin1", name := "indexOf", desc := "([BIII)I" } : Jvm.MethodName) jdk_43_method_22_code (4 : Nat) (Option.some Jvm.ClassFile.FieldType.int)).before args0 about1 = true := code_word (m := ⟨9, 3⟩) (meth := k9m3) (c := k9c3) (by decide +kernel) rfl rfl rfl (by decide +kernel)
set_option maxRecDepth 65536 in
theorem w_c12 : (Jvm.Cond.code ({ cls := "java/lang/StringLatin1", name := "canEncode", desc := "(I)Z" } : Jvm.MethodName) jdk_43_method_4_code (1 : Nat) (Option.some Jvm.ClassFile.FieldType.boolean)).before args0 about1 = true := code_word (m := ⟨9, 2⟩) (meth := k9m2) (c := k9c2) (by decide +kernel) rfl rfl rfl (by decide +kernel)
set_option maxRecDepth 65536 in
theorem w_c13 : (Jvm.Cond.code ({ cls := "java/lang/Math", name := "max", desc := "(II)I" } : Jvm.MethodName) jdk_29_method_65_code (2 : Nat) (Option.some Jvm.ClassFile.FieldType.int)).before args0 about1 = true := code_word (m := ⟨10, 1⟩) (meth := k10m1) (c := k10c1) (by decide +kernel) rfl rfl rfl (by decide +kernel)
set_option maxRecDepth 65536 in
theorem w_c14 : (Jvm.Cond.code ({ cls := "java/lang/Math", name := "min", desc := "(II)I" } : Jvm.MethodName) jdk_29_method_69_code (2 : Nat) (Option.some Jvm.ClassFile.FieldType.int)).before args0 about1 = true := code_word (m := ⟨10, 2⟩) (meth := k10m2) (c := k10c2) (by decide +kernel) rfl rfl rfl (by decide +kernel)
set_option maxRecDepth 65536 in
theorem w_c15 : (Jvm.Cond.code ({ cls := "java/lang/StringUTF16", name := "compress", desc := "([CII)[B" } : Jvm.MethodName) jdk_52_method_16_code (6 : Nat) (Option.some (Jvm.ClassFile.FieldType.array Jvm.ClassFile.FieldType.byte))).before args0 about1 = true := code_word (m := ⟨11, 8⟩) (meth := k11m8) (c := k11c8) (by decide +kernel) rfl rfl rfl (by decide +kernel)
set_option maxRecDepth 65536 in
theorem w_c16 : (Jvm.Cond.code ({ cls := "java/lang/StringUTF16", name := "compress", desc := "([CI[BII)I" } : Jvm.MethodName) jdk_52_method_21_code (7 : Nat) (Option.some Jvm.ClassFile.FieldType.int)).before args0 about1 = true := code_word (m := ⟨11, 9⟩) (meth := k11m9) (c := k11c9) (by decide +kernel) rfl rfl rfl (by decide +kernel)
set_option maxRecDepth 65536 in
theorem w_c17 : (Jvm.Cond.code ({ cls := "java/lang/StringUTF16", name := "coderFromArrayLen", desc := "([BI)B" } : Jvm.MethodName) jdk_52_method_15_code (2 : Nat) (Option.some Jvm.ClassFile.FieldType.byte)).before args0 about1 = true := code_word (m := ⟨11, 7⟩) (meth := k11m7) (c := k11c7) (by decide +kernel) rfl rfl rfl (by decide +kernel)
set_option maxRecDepth 65536 in
theorem w_c18 : (Jvm.Cond.code ({ cls := "com/example/trustee/trustee/PartPatternIsWildPinLaw", name := "wild", desc := "(C)Z" } : Jvm.MethodName) method_4_code (1 : Nat) (Option.some Jvm.ClassFile.FieldType.boolean)).before args0 about1 = true := code_word (m := ⟨1, 3⟩) (meth := k1m3) (c := k1c3) (by decide +kernel) rfl rfl rfl (by decide +kernel)
set_option maxRecDepth 65536 in
theorem w_c19 : (Jvm.Cond.code ({ cls := "java/lang/StringLatin1", name := "indexOfChar", desc := "([BIII)I" } : Jvm.MethodName) jdk_43_method_23_code (6 : Nat) (Option.some Jvm.ClassFile.FieldType.int)).before args0 about1 = true := code_word (m := ⟨9, 4⟩) (meth := k9m4) (c := k9c4) (by decide +kernel) rfl rfl rfl (by decide +kernel)
set_option maxRecDepth 65536 in
theorem w_c20 : (Jvm.Cond.code ({ cls := "java/lang/String", name := "valueOf", desc := "(C)Ljava/lang/String;" } : Jvm.MethodName) jdk_42_method_139_code (1 : Nat) (Option.some (Jvm.ClassFile.FieldType.object "java/lang/String"))).before args0 about1 = true := code_word (m := ⟨7, 5⟩) (meth := k7m5) (c := k7c5) (by decide +kernel) rfl rfl rfl (by decide +kernel)
set_option maxRecDepth 65536 in
theorem w_c21 : (Jvm.Cond.code ({ cls := "java/lang/StringLatin1", name := "canEncode", desc := "(C)Z" } : Jvm.MethodName) jdk_43_method_3_code (1 : Nat) (Option.some Jvm.ClassFile.FieldType.boolean)).before args0 about1 = true := code_word (m := ⟨9, 1⟩) (meth := k9m1) (c := k9c1) (by decide +kernel) rfl rfl rfl (by decide +kernel)
set_option maxRecDepth 65536 in
theorem w_c22 : (Jvm.Cond.code ({ cls := "java/lang/StringLatin1", name := "toBytes", desc := "(C)[B" } : Jvm.MethodName) jdk_43_method_46_code (1 : Nat) (Option.some (Jvm.ClassFile.FieldType.array Jvm.ClassFile.FieldType.byte))).before args0 about1 = true := code_word (m := ⟨9, 5⟩) (meth := k9m5) (c := k9c5) (by decide +kernel) rfl rfl rfl (by decide +kernel)
set_option maxRecDepth 65536 in
theorem w_c23 : (Jvm.Cond.code ({ cls := "java/lang/String", name := "<init>", desc := "([BB)V" } : Jvm.MethodName) jdk_42_method_151_code (3 : Nat) (Option.none : Option Jvm.ClassFile.FieldType)).before args0 about1 = true := code_word (m := ⟨7, 7⟩) (meth := k7m7) (c := k7c7) (by decide +kernel) rfl rfl rfl (by decide +kernel)
set_option maxRecDepth 65536 in
theorem w_c24 : (Jvm.Cond.code ({ cls := "java/lang/StringUTF16", name := "toBytes", desc := "([CII)[B" } : Jvm.MethodName) jdk_52_method_14_code (5 : Nat) (Option.some (Jvm.ClassFile.FieldType.array Jvm.ClassFile.FieldType.byte))).before args0 about1 = true := code_word (m := ⟨11, 6⟩) (meth := k11m6) (c := k11c6) (by decide +kernel) rfl rfl rfl (by decide +kernel)
set_option maxRecDepth 65536 in
theorem w_c25 : (Jvm.Cond.code ({ cls := "java/lang/StringUTF16", name := "newBytesFor", desc := "(I)[B" } : Jvm.MethodName) jdk_52_method_2_code (1 : Nat) (Option.some (Jvm.ClassFile.FieldType.array Jvm.ClassFile.FieldType.byte))).before args0 about1 = true := code_word (m := ⟨11, 1⟩) (meth := k11m1) (c := k11c1) (by decide +kernel) rfl rfl rfl (by decide +kernel)
set_option maxRecDepth 65536 in
theorem w_c26 : (Jvm.Cond.code ({ cls := "java/lang/StringUTF16", name := "newBytesLength", desc := "(I)I" } : Jvm.MethodName) jdk_52_method_3_code (1 : Nat) (Option.some Jvm.ClassFile.FieldType.int)).before args0 about1 = true := code_word (m := ⟨11, 2⟩) (meth := k11m2) (c := k11c2) (by decide +kernel) rfl rfl rfl (by decide +kernel)
set_option maxRecDepth 65536 in
theorem w_c27 : (Jvm.Cond.code ({ cls := "java/lang/StringUTF16", name := "putChar", desc := "([BII)V" } : Jvm.MethodName) jdk_52_method_4_code (3 : Nat) (Option.none : Option Jvm.ClassFile.FieldType)).before args0 about1 = true := code_word (m := ⟨11, 3⟩) (meth := k11m3) (c := k11c3) (by decide +kernel) rfl rfl rfl (by decide +kernel)
set_option maxRecDepth 65536 in
theorem w_c28 : (Jvm.Cond.code ({ cls := "java/lang/StringUTF16", name := "getChar", desc := "([BI)C" } : Jvm.MethodName) jdk_52_method_5_code (2 : Nat) (Option.some Jvm.ClassFile.FieldType.char)).before args0 about1 = true := code_word (m := ⟨11, 4⟩) (meth := k11m4) (c := k11c4) (by decide +kernel) rfl rfl rfl (by decide +kernel)
set_option maxRecDepth 65536 in
theorem w_c29 : (Jvm.Cond.code ({ cls := "java/lang/StringUTF16", name := "indexOf", desc := "([BIII)I" } : Jvm.MethodName) jdk_52_method_40_code (4 : Nat) (Option.some Jvm.ClassFile.FieldType.int)).before args0 about1 = true := code_word (m := ⟨11, 11⟩) (meth := k11m11) (c := k11c11) (by decide +kernel) rfl rfl rfl (by decide +kernel)
set_option maxRecDepth 65536 in
theorem w_c30 : (Jvm.Cond.code ({ cls := "java/lang/StringUTF16", name := "indexOfChar", desc := "([BIII)I" } : Jvm.MethodName) jdk_52_method_47_code (4 : Nat) (Option.some Jvm.ClassFile.FieldType.int)).before args0 about1 = true := code_word (m := ⟨11, 12⟩) (meth := k11m12) (c := k11c12) (by decide +kernel) rfl rfl rfl (by decide +kernel)
set_option maxRecDepth 65536 in
theorem w_c31 : (Jvm.Cond.code ({ cls := "java/lang/StringUTF16", name := "checkBoundsBeginEnd", desc := "(II[B)V" } : Jvm.MethodName) jdk_52_method_93_code (3 : Nat) (Option.none : Option Jvm.ClassFile.FieldType)).before args0 about1 = true := code_word (m := ⟨11, 14⟩) (meth := k11m14) (c := k11c14) (by decide +kernel) rfl rfl rfl (by decide +kernel)
set_option maxRecDepth 65536 in
theorem w_c32 : (Jvm.Cond.code ({ cls := "java/lang/StringUTF16", name := "length", desc := "([B)I" } : Jvm.MethodName) jdk_52_method_6_code (1 : Nat) (Option.some Jvm.ClassFile.FieldType.int)).before args0 about1 = true := code_word (m := ⟨11, 5⟩) (meth := k11m5) (c := k11c5) (by decide +kernel) rfl rfl rfl (by decide +kernel)
set_option maxRecDepth 65536 in
theorem w_c33 : (Jvm.Cond.code ({ cls := "java/lang/String", name := "checkBoundsBeginEnd", desc := "(III)V" } : Jvm.MethodName) jdk_42_method_158_code (3 : Nat) (Option.none : Option Jvm.ClassFile.FieldType)).before args0 about1 = true := code_word (m := ⟨7, 10⟩) (meth := k7m10) (c := k7c10) (by decide +kernel) rfl rfl rfl (by decide +kernel)
set_option maxRecDepth 65536 in
theorem w_c34 : (Jvm.Cond.code ({ cls := "jdk/internal/util/Preconditions", name := "checkFromToIndex", desc := "(IIILjava/util/function/BiFunction;)I" } : Jvm.MethodName) jdk_41_method_12_code (4 : Nat) (Option.some Jvm.ClassFile.FieldType.int)).before args0 about1 = true := code_word (m := ⟨12, 1⟩) (meth := k12m1) (c := k12c1) (by decide +kernel) rfl rfl rfl (by decide +kernel)
set_option maxRecDepth 65536 in
theorem w_c35 : (Jvm.Cond.code ({ cls := "java/lang/StringUTF16", name := "indexOfCharUnsafe", desc := "([BIII)I" } : Jvm.MethodName) jdk_52_method_48_code (5 : Nat) (Option.some Jvm.ClassFile.FieldType.int)).before args0 about1 = true := code_word (m := ⟨11, 13⟩) (meth := k11m13) (c := k11c13) (by decide +kernel) rfl rfl rfl (by decide +kernel)
set_option maxRecDepth 65536 in
theorem w_c36 : (Jvm.Cond.code ({ cls := "java/lang/StringUTF16", name := "toBytes", desc := "(C)[B" } : Jvm.MethodName) jdk_52_method_24_code (2 : Nat) (Option.some (Jvm.ClassFile.FieldType.array Jvm.ClassFile.FieldType.byte))).before args0 about1 = true := code_word (m := ⟨11, 10⟩) (meth := k11m10) (c := k11c10) (by decide +kernel) rfl rfl rfl (by decide +kernel)
def codes1 : List Jvm.Cond := [Jvm.Cond.code x code maxLocals ret, Jvm.Cond.code ({ cls := "com/example/trustee/trustee/PartPatternIsWildPinLaw", name := "draw", desc := "(I)C" } : Jvm.MethodName) method_3_code (2 : Nat) (Option.some Jvm.ClassFile.FieldType.char), Jvm.Cond.code ({ cls := "java/lang/String", name := "<init>", desc := "([C)V" } : Jvm.MethodName) jdk_42_method_3_code (2 : Nat) (Option.none : Option Jvm.ClassFile.FieldType), Jvm.Cond.code ({ cls := "java/lang/String", name := "<init>", desc := "([CIILjava/lang/Void;)V" } : Jvm.MethodName) jdk_42_method_149_code (6 : Nat) (Option.none : Option Jvm.ClassFile.FieldType), Jvm.Cond.code ({ cls := "java/lang/Object", name := "<init>", desc := "()V" } : Jvm.MethodName) object_method_1_code (1 : Nat) (Option.none : Option Jvm.ClassFile.FieldType), Jvm.Cond.code ({ cls := "com/example/trustee/trustee/PartPattern", name := "isWild", desc := "(Ljava/lang/String;)Z" } : Jvm.MethodName) prog_17_method_3_code (1 : Nat) (Option.some Jvm.ClassFile.FieldType.boolean), Jvm.Cond.code ({ cls := "java/lang/String", name := "indexOf", desc := "(I)I" } : Jvm.MethodName) jdk_42_method_79_code (2 : Nat) (Option.some Jvm.ClassFile.FieldType.int), Jvm.Cond.code ({ cls := "java/lang/String", name := "indexOf", desc := "(II)I" } : Jvm.MethodName) jdk_42_method_80_code (3 : Nat) (Option.some Jvm.ClassFile.FieldType.int), Jvm.Cond.code ({ cls := "java/lang/String", name := "isLatin1", desc := "()Z" } : Jvm.MethodName) jdk_42_method_154_code (1 : Nat) (Option.some Jvm.ClassFile.FieldType.boolean), Jvm.Cond.code ({ cls := "java/lang/String", name := "length", desc := "()I" } : Jvm.MethodName) jdk_42_method_54_code (1 : Nat) (Option.some Jvm.ClassFile.FieldType.int), Jvm.Cond.code ({ cls := "java/lang/String", name := "coder", desc := "()B" } : Jvm.MethodName) jdk_42_method_152_code (1 : Nat) (Option.some Jvm.ClassFile.FieldType.byte), Jvm.Cond.code ({ cls := "java/lang/StringLatin1", name := "indexOf", desc := "([BIII)I" } : Jvm.MethodName) jdk_43_method_22_code (4 : Nat) (Option.some Jvm.ClassFile.FieldType.int), Jvm.Cond.code ({ cls := "java/lang/StringLatin1", name := "canEncode", desc := "(I)Z" } : Jvm.MethodName) jdk_43_method_4_code (1 : Nat) (Option.some Jvm.ClassFile.FieldType.boolean), Jvm.Cond.code ({ cls := "java/lang/Math", name := "max", desc := "(II)I" } : Jvm.MethodName) jdk_29_method_65_code (2 : Nat) (Option.some Jvm.ClassFile.FieldType.int), Jvm.Cond.code ({ cls := "java/lang/Math", name := "min", desc := "(II)I" } : Jvm.MethodName) jdk_29_method_69_code (2 : Nat) (Option.some Jvm.ClassFile.FieldType.int), Jvm.Cond.code ({ cls := "java/lang/StringUTF16", name := "compress", desc := "([CII)[B" } : Jvm.MethodName) jdk_52_method_16_code (6 : Nat) (Option.some (Jvm.ClassFile.FieldType.array Jvm.ClassFile.FieldType.byte)), Jvm.Cond.code ({ cls := "java/lang/StringUTF16", name := "compress", desc := "([CI[BII)I" } : Jvm.MethodName) jdk_52_method_21_code (7 : Nat) (Option.some Jvm.ClassFile.FieldType.int), Jvm.Cond.code ({ cls := "java/lang/StringUTF16", name := "coderFromArrayLen", desc := "([BI)B" } : Jvm.MethodName) jdk_52_method_15_code (2 : Nat) (Option.some Jvm.ClassFile.FieldType.byte), Jvm.Cond.code ({ cls := "com/example/trustee/trustee/PartPatternIsWildPinLaw", name := "wild", desc := "(C)Z" } : Jvm.MethodName) method_4_code (1 : Nat) (Option.some Jvm.ClassFile.FieldType.boolean), Jvm.Cond.code ({ cls := "java/lang/StringLatin1", name := "indexOfChar", desc := "([BIII)I" } : Jvm.MethodName) jdk_43_method_23_code (6 : Nat) (Option.some Jvm.ClassFile.FieldType.int), Jvm.Cond.code ({ cls := "java/lang/String", name := "valueOf", desc := "(C)Ljava/lang/String;" } : Jvm.MethodName) jdk_42_method_139_code (1 : Nat) (Option.some (Jvm.ClassFile.FieldType.object "java/lang/String")), Jvm.Cond.code ({ cls := "java/lang/StringLatin1", name := "canEncode", desc := "(C)Z" } : Jvm.MethodName) jdk_43_method_3_code (1 : Nat) (Option.some Jvm.ClassFile.FieldType.boolean), Jvm.Cond.code ({ cls := "java/lang/StringLatin1", name := "toBytes", desc := "(C)[B" } : Jvm.MethodName) jdk_43_method_46_code (1 : Nat) (Option.some (Jvm.ClassFile.FieldType.array Jvm.ClassFile.FieldType.byte)), Jvm.Cond.code ({ cls := "java/lang/String", name := "<init>", desc := "([BB)V" } : Jvm.MethodName) jdk_42_method_151_code (3 : Nat) (Option.none : Option Jvm.ClassFile.FieldType), Jvm.Cond.code ({ cls := "java/lang/StringUTF16", name := "toBytes", desc := "([CII)[B" } : Jvm.MethodName) jdk_52_method_14_code (5 : Nat) (Option.some (Jvm.ClassFile.FieldType.array Jvm.ClassFile.FieldType.byte)), Jvm.Cond.code ({ cls := "java/lang/StringUTF16", name := "newBytesFor", desc := "(I)[B" } : Jvm.MethodName) jdk_52_method_2_code (1 : Nat) (Option.some (Jvm.ClassFile.FieldType.array Jvm.ClassFile.FieldType.byte)), Jvm.Cond.code ({ cls := "java/lang/StringUTF16", name := "newBytesLength", desc := "(I)I" } : Jvm.MethodName) jdk_52_method_3_code (1 : Nat) (Option.some Jvm.ClassFile.FieldType.int), Jvm.Cond.code ({ cls := "java/lang/StringUTF16", name := "putChar", desc := "([BII)V" } : Jvm.MethodName) jdk_52_method_4_code (3 : Nat) (Option.none : Option Jvm.ClassFile.FieldType), Jvm.Cond.code ({ cls := "java/lang/StringUTF16", name := "getChar", desc := "([BI)C" } : Jvm.MethodName) jdk_52_method_5_code (2 : Nat) (Option.some Jvm.ClassFile.FieldType.char), Jvm.Cond.code ({ cls := "java/lang/StringUTF16", name := "indexOf", desc := "([BIII)I" } : Jvm.MethodName) jdk_52_method_40_code (4 : Nat) (Option.some Jvm.ClassFile.FieldType.int), Jvm.Cond.code ({ cls := "java/lang/StringUTF16", name := "indexOfChar", desc := "([BIII)I" } : Jvm.MethodName) jdk_52_method_47_code (4 : Nat) (Option.some Jvm.ClassFile.FieldType.int), Jvm.Cond.code ({ cls := "java/lang/StringUTF16", name := "checkBoundsBeginEnd", desc := "(II[B)V" } : Jvm.MethodName) jdk_52_method_93_code (3 : Nat) (Option.none : Option Jvm.ClassFile.FieldType), Jvm.Cond.code ({ cls := "java/lang/StringUTF16", name := "length", desc := "([B)I" } : Jvm.MethodName) jdk_52_method_6_code (1 : Nat) (Option.some Jvm.ClassFile.FieldType.int), Jvm.Cond.code ({ cls := "java/lang/String", name := "checkBoundsBeginEnd", desc := "(III)V" } : Jvm.MethodName) jdk_42_method_158_code (3 : Nat) (Option.none : Option Jvm.ClassFile.FieldType), Jvm.Cond.code ({ cls := "jdk/internal/util/Preconditions", name := "checkFromToIndex", desc := "(IIILjava/util/function/BiFunction;)I" } : Jvm.MethodName) jdk_41_method_12_code (4 : Nat) (Option.some Jvm.ClassFile.FieldType.int), Jvm.Cond.code ({ cls := "java/lang/StringUTF16", name := "indexOfCharUnsafe", desc := "([BIII)I" } : Jvm.MethodName) jdk_52_method_48_code (5 : Nat) (Option.some Jvm.ClassFile.FieldType.int), Jvm.Cond.code ({ cls := "java/lang/StringUTF16", name := "toBytes", desc := "(C)[B" } : Jvm.MethodName) jdk_52_method_24_code (2 : Nat) (Option.some (Jvm.ClassFile.FieldType.array Jvm.ClassFile.FieldType.byte))]
set_option maxRecDepth 65536 in
theorem codes_eq : words1.filter isCode = codes1 := rfl
theorem w_codes : ∀ c ∈ words1.filter isCode, c.before args0 about1 = true := by
  rw [codes_eq]
  intro c hc
  simp only [codes1, List.mem_cons, List.not_mem_nil, or_false] at hc
  rcases hc with rfl | rfl | rfl | rfl | rfl | rfl | rfl | rfl | rfl | rfl | rfl | rfl | rfl | rfl | rfl | rfl | rfl | rfl | rfl | rfl | rfl | rfl | rfl | rfl | rfl | rfl | rfl | rfl | rfl | rfl | rfl | rfl | rfl | rfl | rfl | rfl | rfl
  · exact w_c0
  · exact w_c1
  · exact w_c2
  · exact w_c3
  · exact w_c4
  · exact w_c5
  · exact w_c6
  · exact w_c7
  · exact w_c8
  · exact w_c9
  · exact w_c10
  · exact w_c11
  · exact w_c12
  · exact w_c13
  · exact w_c14
  · exact w_c15
  · exact w_c16
  · exact w_c17
  · exact w_c18
  · exact w_c19
  · exact w_c20
  · exact w_c21
  · exact w_c22
  · exact w_c23
  · exact w_c24
  · exact w_c25
  · exact w_c26
  · exact w_c27
  · exact w_c28
  · exact w_c29
  · exact w_c30
  · exact w_c31
  · exact w_c32
  · exact w_c33
  · exact w_c34
  · exact w_c35
  · exact w_c36
set_option maxRecDepth 65536 in
theorem w_t1 : (words1.take 24).all (fun c => isCode c || c.before args0 about1) = true := by decide +kernel
set_option maxRecDepth 65536 in
theorem w_t2 : ((words1.drop 24).take 24).all (fun c => isCode c || c.before args0 about1) = true := by decide +kernel
set_option maxRecDepth 65536 in
theorem w_t3 : (((words1.drop 24).drop 24).take 24).all (fun c => isCode c || c.before args0 about1) = true := by decide +kernel
set_option maxRecDepth 65536 in
theorem w_t4 : ((((words1.drop 24).drop 24).drop 24).take 24).all (fun c => isCode c || c.before args0 about1) = true := by decide +kernel
set_option maxRecDepth 65536 in
theorem w_t5 : (((((words1.drop 24).drop 24).drop 24).drop 24).take 24).all (fun c => isCode c || c.before args0 about1) = true := by decide +kernel
set_option maxRecDepth 65536 in
theorem w_t6 : ((((((words1.drop 24).drop 24).drop 24).drop 24).drop 24).take 24).all (fun c => isCode c || c.before args0 about1) = true := by decide +kernel
set_option maxRecDepth 65536 in
theorem w_t7 : ((((((words1.drop 24).drop 24).drop 24).drop 24).drop 24).drop 24).all (fun c => isCode c || c.before args0 about1) = true := by decide +kernel
theorem w_tables : (allAtoms (Jvm.Cond.code x code maxLocals ret :: tables_1)).before args0 about1 = true := by
  rw [allAtoms_all]
  show words1.all (fun c => c.before args0 about1) = true
  refine all_split ?_ w_codes
  rw [← List.take_append_drop 24 words1, List.all_append, w_t1, ← List.take_append_drop 24 (words1.drop 24), List.all_append, w_t2, ← List.take_append_drop 24 ((words1.drop 24).drop 24), List.all_append, w_t3, ← List.take_append_drop 24 (((words1.drop 24).drop 24).drop 24), List.all_append, w_t4, ← List.take_append_drop 24 ((((words1.drop 24).drop 24).drop 24).drop 24), List.all_append, w_t5, ← List.take_append_drop 24 (((((words1.drop 24).drop 24).drop 24).drop 24).drop 24), List.all_append, w_t6, w_t7]
  rfl
set_option maxRecDepth 65536 in
theorem w_rest : rest_1_c.before args0 about1 = true := by decide +kernel
set_option maxRecDepth 65536 in
theorem w_case : (Jvm.Cond.and given_1 narrow_1).before args0 about1 = true := by decide +kernel
set_option maxRecDepth 65536 in
theorem w_consts : constsHeld consts_1 about1 := Jvm.Lit.constsHeldB_iff.mp (by decide +kernel)
theorem w_applies : (headSpec (Jvm.Cond.code x code maxLocals ret :: tables_1) room_1).applies x e0.platform about1 = true :=
  (Spec.applies_iff w_frames).mpr ⟨w_running, w_runnable, w_alone, w_named, w_hears, w_ripe, w_room, w_tables⟩
theorem atStart : AtStart classFile x code maxLocals ret World_1 tables_1 room_1 Calls_1 rest_1 Pre_1 launch0 p0 e0 about1 theMethod args0 below0 :=
  ⟨lists_1, trivial, launch0.admits_env _ _ _, launch0.least_env, fairChoices_fair.cas, fairChoices_fair.clock, w_frames, w_args, w_heap, w_applies, ⟨w_consts, trivial⟩, w_rest, w_case⟩
end start1
theorem witness_1 : WitnessClaimed_1 := ⟨start1.p0, start1.e0, start1.about1, start1.theMethod, start1.args0, start1.below0, start1.atStart⟩
end Jvm.Pilot.@@N@@
