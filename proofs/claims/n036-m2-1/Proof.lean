import JvmDerived
import JvmDerived.Pilot.@@N@@Statement
import JvmDerived.Pilot.@@N@@Code
set_option linter.unusedVariables false
set_option linter.unusedSimpArgs false
namespace Jvm.Pilot.@@N@@
open Jvm Jvm.ClassFile Sem Op Lib Jvm.Free Jvm.Stand Jvm.LawKit Jvm.RoadKit Bundle Jvm.Pilot.@@N@@.Jvm.D
abbrev mn0 : MethodName := ⟨"com/example/munka/munka/model/NulFreeIsPinLaw", "draw", "(I)C"⟩
abbrev mn1 : MethodName := ⟨"java/lang/String", "<init>", "([CIILjava/lang/Void;)V"⟩
abbrev mn2 : MethodName := ⟨"java/lang/String", "<init>", "([C)V"⟩
abbrev mn3 : MethodName := ⟨"java/lang/StringUTF16", "newBytesLength", "(I)I"⟩
abbrev mn4 : MethodName := ⟨"java/lang/StringUTF16", "newBytesFor", "(I)[B"⟩
abbrev mn5 : MethodName := ⟨"java/lang/StringUTF16", "putChar", "([BII)V"⟩
abbrev mn6 : MethodName := ⟨"java/lang/StringUTF16", "toBytes", "([CII)[B"⟩
abbrev mn7 : MethodName := ⟨"java/lang/StringUTF16", "getChar", "([BI)C"⟩
abbrev mn8 : MethodName := ⟨"java/lang/StringUTF16", "compress", "([CI[BII)I"⟩
abbrev mn9 : MethodName := ⟨"java/lang/StringUTF16", "compress", "([CII)[B"⟩
abbrev mn10 : MethodName := ⟨"java/lang/StringUTF16", "coderFromArrayLen", "([BI)B"⟩
abbrev mn11 : MethodName := ⟨"java/lang/String", "isLatin1", "()Z"⟩
abbrev mn12 : MethodName := ⟨"java/lang/String", "coder", "()B"⟩
abbrev mn13 : MethodName := ⟨"java/lang/StringLatin1", "canEncode", "(I)Z"⟩
abbrev mn14 : MethodName := ⟨"java/lang/Math", "max", "(II)I"⟩
abbrev mn15 : MethodName := ⟨"java/lang/Math", "min", "(II)I"⟩
abbrev mn16 : MethodName := ⟨"java/lang/StringLatin1", "indexOf", "([BIII)I"⟩
abbrev mn17 : MethodName := ⟨"java/lang/String", "length", "()I"⟩
abbrev mn18 : MethodName := ⟨"java/lang/String", "indexOf", "(II)I"⟩
abbrev mn19 : MethodName := ⟨"java/lang/String", "indexOf", "(I)I"⟩
abbrev mn20 : MethodName := ⟨"com/example/munka/munka/model/NulFree", "is", "(Ljava/lang/String;)Z"⟩
abbrev mn21 : MethodName := ⟨"java/lang/StringLatin1", "indexOfChar", "([BIII)I"⟩
abbrev mn22 : MethodName := ⟨"java/lang/StringUTF16", "length", "([B)I"⟩
abbrev mn23 : MethodName := ⟨"jdk/internal/util/Preconditions", "checkFromToIndex", "(IIILjava/util/function/BiFunction;)I"⟩
abbrev mn24 : MethodName := ⟨"java/lang/String", "checkBoundsBeginEnd", "(III)V"⟩
abbrev mn25 : MethodName := ⟨"java/lang/StringUTF16", "checkBoundsBeginEnd", "(II[B)V"⟩
abbrev mn26 : MethodName := ⟨"java/lang/StringUTF16", "indexOfCharUnsafe", "([BIII)I"⟩
abbrev mn27 : MethodName := ⟨"java/lang/StringUTF16", "indexOfChar", "([BIII)I"⟩
abbrev mn28 : MethodName := ⟨"java/lang/StringUTF16", "indexOf", "([BIII)I"⟩
/-- places of a frame's locals, in short -/
abbrev Iv (x : Int32) : Slot := .val (.int x)
abbrev Jv (x : Int64) : Slot := .val (.long x)
abbrev Rv (a : Addr) : Slot := .val (.ref a)
abbrev Nv : Slot := .val .null
abbrev Uv : Slot := .unset
abbrev Sv : Slot := .second
/-- the table words hold at Z -/
abbrev own_W (a0 : Array Value) (Z : State) : Prop := ∀ d ∈ tables_1, d.before a0 Z = true
/-- a table word by its number -/
theorem own_g {a0 : Array Value} {Z : State} (hw : ∀ d ∈ tables_1, d.before a0 Z = true) (i : Nat) {d : Jvm.Cond} (h : tables_1[i]? = some d) : d.before a0 Z = true := hw _ (List.mem_of_getElem? h)
theorem own_z {n W : Nat} (h : n = W) : 2 * 0 + n ≤ W := by omega
section Own
variable {p : Program} {l : Launch} {e : Env} {R : Room} {s : State} {m : MethodId} {args : Array Value} {below : List Frame} {meth : Method} {c : Code} {T T' : State} {locs : List Loc} {cells slots : Nat}
/-- from T with the frame f on top the method comes to its end; what it returns, the heap and the places written answer Q; at most C cells and N slots are new -/
def own_Fin (p : Program) (e : Env) (below : List Frame) (s : State) (C N : Nat) (Q : Option Value → Heap → List Loc → Prop) (T : State) (f : JFrame) : Prop :=
  ∃ s₂ o, Steps p.tables e below (T.setTop f) s₂ ∧ s₂.status = .running ∧ Ended s₂ below o ∧ ∃ v L, o = .returned v ∧ Q v s₂.heap L ∧ FrameEnd s o s₂ L C N
variable {C N : Nat} {Q : Option Value → Heap → List Loc → Prop} {f f' : JFrame}
theorem own_by (h : ∀ t, Steps p.tables e below (T'.setTop f') t → Steps p.tables e below (T.setTop f) t) (k : own_Fin p e below s C N Q T' f') : own_Fin p e below s C N Q T f := by
  obtain ⟨s2, o, h1, h2⟩ := k
  exact ⟨s2, o, h _ h1, h2⟩
theorem own_start (q : f = f') (k : own_Fin p e below s C N Q T f') : ∃ s₂ o, Steps p.tables e below (T.setTop f) s₂ ∧ s₂.status = .running ∧ Ended s₂ below o ∧ ∃ v L, o = .returned v ∧ Q v s₂.heap L ∧ FrameEnd s o s₂ L C N := by
  subst q; exact k
theorem own_leaf (X : Stand p l e R s m args below meth c T locs cells slots) (hlk : meth.locks = false) {v : Option Value} (hv : meth.sig.returnType = none → v = none)
    (hs : ∀ fs, (∀ (f : JFrame) (acts : List Action), f.method = m → f.locked = none → f.entered = [] → (doReturn e (T.setTop f) acts v).1 = T.setFrames fs) → Steps p.tables e below (T.setTop f) (T.setFrames fs))
    (hQ : Q v T.heap locs) (hc : cells ≤ C) (hn : slots ≤ N) : own_Fin p e below s C N Q T f := by
  obtain ⟨fs, hr, hrun, hended, hW, hsame⟩ := X.leave (v := v) hv hlk
  exact ⟨_, _, hs fs hr, hrun, hended, _, _, rfl, hQ, ⟨_, rfl⟩, hW, hsame.mono hc hn⟩
theorem own_retV (X : Stand p l e R s m args below meth c T locs cells slots) (hx : p.tables.exec = Jvm.exec) (hlk : meth.locks = false) {pc : Nat} {Ls : Array Slot} (hret : meth.sig.returnType = none) (hd : decode c.code pc = .ok (.return_, 1))
    (hQ : Q none T.heap locs) (hc : cells ≤ C) (hn : slots ≤ N) : own_Fin p e below s C N Q T (mkF m pc Ls []) :=
  own_leaf X hlk (fun _ => rfl) (fun fs hr => X.returnOut hx hret hd hr) hQ hc hn
theorem own_retZ (X : Stand p l e R s m args below meth c T locs cells slots) (hx : p.tables.exec = Jvm.exec) (hlk : meth.locks = false) {pc : Nat} {Ls : Array Slot} {z : Int32} {t : FieldType} {rest : List Value} (hret : meth.sig.returnType = some t) (ht : t = .boolean ∨ t = .byte ∨ t = .char ∨ t = .short) (hd : decode c.code pc = .ok (.ireturn, 1))
    (hQ : Q (some (.int (nar t z))) T.heap locs) (hc : cells ≤ C) (hn : slots ≤ N) : own_Fin p e below s C N Q T (mkF m pc Ls (.int z :: rest)) :=
  own_leaf X hlk (fun h => by rw [hret] at h; cases h) (fun fs hr => retN X hx hret ht hd hr) hQ hc hn
theorem own_retO (X : Stand p l e R s m args below meth c T locs cells slots) (hx : p.tables.exec = Jvm.exec) (hlk : meth.locks = false) {pc : Nat} {Ls : Array Slot} {w : Value} {t : FieldType} {i : Instr} {rest : List Value} (hret : meth.sig.returnType = some t) (hn' : narrow t w = w)
    (hi : (i = .ireturn ∧ (t = .int ∨ t = .boolean ∨ t = .byte ∨ t = .char ∨ t = .short) ∧ ∃ z, w = .int z) ∨ (i = .lreturn ∧ t = .long ∧ ∃ z, w = .long z) ∨ (i = .dreturn ∧ t = .double ∧ ∃ z, w = .double z) ∨ (i = .freturn ∧ t = .float ∧ ∃ z, w = .float z) ∨ (i = .areturn ∧ t.isReference = true ∧ w.isRef = true))
    (hd : decode c.code pc = .ok (i, 1)) (hQ : Q (some w) T.heap locs) (hc : cells ≤ C) (hn : slots ≤ N) : own_Fin p e below s C N Q T (mkF m pc Ls (w :: rest)) :=
  own_leaf X hlk (fun h => by rw [hret] at h; cases h) (fun fs hr => retOut X hx hret hn' hi hd hr) hQ hc hn
theorem own_retI (X : Stand p l e R s m args below meth c T locs cells slots) (hx : p.tables.exec = Jvm.exec) (hlk : meth.locks = false) {pc : Nat} {Ls : Array Slot} {z : Int32} {rest : List Value} (hret : meth.sig.returnType = some .int) (hd : decode c.code pc = .ok (.ireturn, 1))
    (hQ : Q (some (.int z)) T.heap locs) (hc : cells ≤ C) (hn : slots ≤ N) : own_Fin p e below s C N Q T (mkF m pc Ls (.int z :: rest)) :=
  own_retO X hx hlk hret rfl (Or.inl ⟨rfl, Or.inl rfl, _, rfl⟩) hd hQ hc hn
theorem own_retJ (X : Stand p l e R s m args below meth c T locs cells slots) (hx : p.tables.exec = Jvm.exec) (hlk : meth.locks = false) {pc : Nat} {Ls : Array Slot} {z : Int64} {rest : List Value} (hret : meth.sig.returnType = some .long) (hd : decode c.code pc = .ok (.lreturn, 1))
    (hQ : Q (some (.long z)) T.heap locs) (hc : cells ≤ C) (hn : slots ≤ N) : own_Fin p e below s C N Q T (mkF m pc Ls (.long z :: rest)) :=
  own_retO X hx hlk hret rfl (Or.inr (Or.inl ⟨rfl, rfl, _, rfl⟩)) hd hQ hc hn
theorem own_retA (X : Stand p l e R s m args below meth c T locs cells slots) (hx : p.tables.exec = Jvm.exec) (hlk : meth.locks = false) {pc : Nat} {Ls : Array Slot} {w : Value} {t : FieldType} {rest : List Value} (hret : meth.sig.returnType = some t) (hr : t.isReference = true) (hn' : narrow t w = w) (hw : w.isRef = true) (hd : decode c.code pc = .ok (.areturn, 1))
    (hQ : Q (some w) T.heap locs) (hc : cells ≤ C) (hn : slots ≤ N) : own_Fin p e below s C N Q T (mkF m pc Ls (w :: rest)) :=
  own_retO X hx hlk hret hn' (Or.inr (Or.inr (Or.inr (Or.inr ⟨rfl, hr, hw⟩)))) hd hQ hc hn
theorem own_mvM {Z : State} {a0 : Array Value} {own host : String} {y : MethodName} {index : Nat} (hZ : Z.Warmed39 s.vm) (w : (Jvm.Cond.methodLinkNest own index y host).before a0 Z = true) : (Jvm.Cond.methodLinkNest own index y host).before args s = true := (Jvm.Cond.methodLinkNest_wide hZ w :)
/-- a room by its four numbers -/
abbrev own_R (f c s l : Nat) : Room := { frames := f, cells := c, slots := s, locals := l }
/-- the contract's form: called with A at a heap h0 it returns, and Q holds of what it returns, the heap and the places written -/
abbrev own_Met (l : Launch) (Z : State) (y : MethodName) (code : ByteArray) (ml : Nat) (ret : Option FieldType) (ws : List Jvm.Cond) (R : Room) (A : Array Value) (h0 : Heap) (Q : Option Value → Heap → List Loc → Prop) : Prop :=
  MetFree l y (head1 (Jvm.Cond.code y code ml ret :: ws) R) (fun a U => a = A ∧ Z.Warmed39 U.vm ∧ U.heap = h0) (fun _ _ _ _ _ => True) (fun _ U o U' => ∃ v L, o = .returned v ∧ Q v U'.heap L ∧ FrameEnd U o U' L R.cells R.slots)
theorem own_enter {Z : State} {y : MethodName} {code : ByteArray} {ml : Nat} {ret : Option FieldType} {ws : List Jvm.Cond} {A : Array Value} {h0 : Heap} {f0 : MethodId → JFrame} (n0 : Nat) (hpl : plainFor y = true) (hef : ∀ m, entryFrame m A ml = f0 m)
    (H : ∀ (p : Program) (e : Env) (s : State) (m : MethodId) (below : List Frame) (meth : Method) (c : Code) (s₁ : State), p.tables.exec = Jvm.exec → c.code = code → meth.locks = false → c.maxLocals = ml → meth.sig.returnType = ret → s.vm.findClass y.cls = some m.cls → meth.name = y.name →
      Z.Warmed39 s.vm → Stand p l e R s m A below meth c s₁ [] 0 0 → s₁.heap = h0 → Fr n0 [] → own_Fin p e below s R.cells R.slots Q s₁ (f0 m)) : own_Met l Z y code ml ret ws R A h0 Q := by
  refine MetFree.of_bodySF hpl hisR ?_
  intro p e s m args below meth c s₁ Bd hml hP _
  obtain ⟨rfl, hZ, hh⟩ := hP
  have q := H p e s m below meth c s₁ Bd.exec Bd.bytes Bd.notSynchronized hml Bd.returns (findClass_of_methodNamed Bd.named) (name_of_methodNamed Bd.named Bd.method).1 hZ (Stand.of_body Bd) (by rw [← hh, Bd.state]; rfl) (Fr.nil n0)
  rw [hef m]
  exact q
end Own
section OwnW
variable {p : Program} {l : Launch} {e : Env} {R : Room} {s : State} {vm0 : Vm} {k0 : Nat} {m : MethodId} {args : Array Value} {below : List Frame} {meth : Method} {c : Code} {T T' : State} {locs : List Loc} {cells slots : Nat}
/-- as own_Fin, the end said by the wide word: String constants may have been interned meanwhile -/
def own_FinW (p : Program) (e : Env) (below : List Frame) (s : State) (C N : Nat) (Q : Option Value → Heap → List Loc → Prop) (T : State) (f : JFrame) : Prop :=
  ∃ s₂ o, Steps p.tables e below (T.setTop f) s₂ ∧ s₂.status = .running ∧ Ended s₂ below o ∧ ∃ v L, o = .returned v ∧ Q v s₂.heap L ∧ ReturnedEndW s o s₂ L C N
variable {C N : Nat} {Q : Option Value → Heap → List Loc → Prop} {f f' : JFrame}
theorem own_byW (h : ∀ t, Steps p.tables e below (T'.setTop f') t → Steps p.tables e below (T.setTop f) t) (k : own_FinW p e below s C N Q T' f') : own_FinW p e below s C N Q T f := by
  obtain ⟨s2, o, h1, h2⟩ := k
  exact ⟨s2, o, h _ h1, h2⟩
theorem own_startW (q : f = f') (k : own_FinW p e below s C N Q T f') : ∃ s₂ o, Steps p.tables e below (T.setTop f) s₂ ∧ s₂.status = .running ∧ Ended s₂ below o ∧ ∃ v L, o = .returned v ∧ Q v s₂.heap L ∧ ReturnedEndW s o s₂ L C N := by
  subst q; exact k
theorem own_endW {t : State} {o : Outcome} {L : List Loc} (h : ReturnedEndW s o t L cells slots) (hc : cells ≤ C) (hn : slots ≤ N) : ReturnedEndW s o t L C N :=
  ⟨h.1, h.2.1, h.2.2.1, h.2.2.2.mono hc hn⟩
theorem own_leafW (X : Stand p l e R (s.setVm vm0) m args below meth c T locs cells slots) (hS : s.Since vm0 k0) (hk : k0 ≤ T.heap.size) (hlk : meth.locks = false) {v : Option Value} (hv : meth.sig.returnType = none → v = none)
    (hs : ∀ fs, (∀ (f : JFrame) (acts : List Action), f.method = m → f.locked = none → f.entered = [] → (doReturn e (T.setTop f) acts v).1 = T.setFrames fs) → Steps p.tables e below (T.setTop f) (T.setFrames fs))
    (hQ : Q v T.heap locs) (hc : cells ≤ C) (hn : slots ≤ N) : own_FinW p e below s C N Q T f := by
  obtain ⟨fs, hr, hrun, hended, hE⟩ := X.leaveW hS hk (v := v) hv hlk
  exact ⟨_, _, hs fs hr, hrun, hended, _, _, rfl, hQ, own_endW hE hc hn⟩
theorem own_retVW (X : Stand p l e R (s.setVm vm0) m args below meth c T locs cells slots) (hS : s.Since vm0 k0) (hk : k0 ≤ T.heap.size) (hx : p.tables.exec = Jvm.exec) (hlk : meth.locks = false) {pc : Nat} {Ls : Array Slot} (hret : meth.sig.returnType = none) (hd : decode c.code pc = .ok (.return_, 1))
    (hQ : Q none T.heap locs) (hc : cells ≤ C) (hn : slots ≤ N) : own_FinW p e below s C N Q T (mkF m pc Ls []) :=
  own_leafW X hS hk hlk (fun _ => rfl) (fun fs hr => X.returnOut hx hret hd hr) hQ hc hn
theorem own_retZW (X : Stand p l e R (s.setVm vm0) m args below meth c T locs cells slots) (hS : s.Since vm0 k0) (hk : k0 ≤ T.heap.size) (hx : p.tables.exec = Jvm.exec) (hlk : meth.locks = false) {pc : Nat} {Ls : Array Slot} {z : Int32} {t : FieldType} {rest : List Value} (hret : meth.sig.returnType = some t) (ht : t = .boolean ∨ t = .byte ∨ t = .char ∨ t = .short) (hd : decode c.code pc = .ok (.ireturn, 1))
    (hQ : Q (some (.int (nar t z))) T.heap locs) (hc : cells ≤ C) (hn : slots ≤ N) : own_FinW p e below s C N Q T (mkF m pc Ls (.int z :: rest)) :=
  own_leafW X hS hk hlk (fun h => by rw [hret] at h; cases h) (fun fs hr => retN X hx hret ht hd hr) hQ hc hn
theorem own_retOW (X : Stand p l e R (s.setVm vm0) m args below meth c T locs cells slots) (hS : s.Since vm0 k0) (hk : k0 ≤ T.heap.size) (hx : p.tables.exec = Jvm.exec) (hlk : meth.locks = false) {pc : Nat} {Ls : Array Slot} {w : Value} {t : FieldType} {i : Instr} {rest : List Value} (hret : meth.sig.returnType = some t) (hn' : narrow t w = w)
    (hi : (i = .ireturn ∧ (t = .int ∨ t = .boolean ∨ t = .byte ∨ t = .char ∨ t = .short) ∧ ∃ z, w = .int z) ∨ (i = .lreturn ∧ t = .long ∧ ∃ z, w = .long z) ∨ (i = .dreturn ∧ t = .double ∧ ∃ z, w = .double z) ∨ (i = .freturn ∧ t = .float ∧ ∃ z, w = .float z) ∨ (i = .areturn ∧ t.isReference = true ∧ w.isRef = true))
    (hd : decode c.code pc = .ok (i, 1)) (hQ : Q (some w) T.heap locs) (hc : cells ≤ C) (hn : slots ≤ N) : own_FinW p e below s C N Q T (mkF m pc Ls (w :: rest)) :=
  own_leafW X hS hk hlk (fun h => by rw [hret] at h; cases h) (fun fs hr => retOut X hx hret hn' hi hd hr) hQ hc hn
theorem own_retIW (X : Stand p l e R (s.setVm vm0) m args below meth c T locs cells slots) (hS : s.Since vm0 k0) (hk : k0 ≤ T.heap.size) (hx : p.tables.exec = Jvm.exec) (hlk : meth.locks = false) {pc : Nat} {Ls : Array Slot} {z : Int32} {rest : List Value} (hret : meth.sig.returnType = some .int) (hd : decode c.code pc = .ok (.ireturn, 1))
    (hQ : Q (some (.int z)) T.heap locs) (hc : cells ≤ C) (hn : slots ≤ N) : own_FinW p e below s C N Q T (mkF m pc Ls (.int z :: rest)) :=
  own_retOW X hS hk hx hlk hret rfl (Or.inl ⟨rfl, Or.inl rfl, _, rfl⟩) hd hQ hc hn
theorem own_retAW (X : Stand p l e R (s.setVm vm0) m args below meth c T locs cells slots) (hS : s.Since vm0 k0) (hk : k0 ≤ T.heap.size) (hx : p.tables.exec = Jvm.exec) (hlk : meth.locks = false) {pc : Nat} {Ls : Array Slot} {w : Value} {t : FieldType} {rest : List Value} (hret : meth.sig.returnType = some t) (hr : t.isReference = true) (hn' : narrow t w = w) (hw : w.isRef = true) (hd : decode c.code pc = .ok (.areturn, 1))
    (hQ : Q (some w) T.heap locs) (hc : cells ≤ C) (hn : slots ≤ N) : own_FinW p e below s C N Q T (mkF m pc Ls (w :: rest)) :=
  own_retOW X hS hk hx hlk hret hn' (Or.inr (Or.inr (Or.inr (Or.inr ⟨rfl, hr, hw⟩)))) hd hQ hc hn
end OwnW
section OwnH
variable {p : Program} {l : Launch} {e : Env} {R : Room} {s Z : State} {EL : List (String × Nat)} {h0 : Heap} {vm0 : Vm} {k0 : Nat} {m : MethodId} {args : Array Value} {below : List Frame} {meth : Method} {c : Code} {T T' : State} {locs : List Loc} {cells slots : Nat}
/-- as own_FinW; and the constants of EL are held at the end as at the start -/
def own_FinH (p : Program) (e : Env) (below : List Frame) (s Z : State) (EL : List (String × Nat)) (h0 : Heap) (C N : Nat) (Q : Option Value → Heap → List Loc → Prop) (T : State) (f : JFrame) : Prop :=
  ∃ s₂ o, Steps p.tables e below (T.setTop f) s₂ ∧ s₂.status = .running ∧ Ended s₂ below o ∧ ∃ v L, o = .returned v ∧ Q v s₂.heap L ∧ CHr Z EL s.vm h0 s₂.vm s₂.heap ∧ ReturnedEndW s o s₂ L C N
variable {C N : Nat} {Q : Option Value → Heap → List Loc → Prop} {f f' : JFrame}
theorem own_byH (h : ∀ t, Steps p.tables e below (T'.setTop f') t → Steps p.tables e below (T.setTop f) t) (k : own_FinH p e below s Z EL h0 C N Q T' f') : own_FinH p e below s Z EL h0 C N Q T f := by
  obtain ⟨s2, o, h1, h2⟩ := k
  exact ⟨s2, o, h _ h1, h2⟩
theorem own_startH (hh : s.heap = h0) (q : f = f') (k : own_FinH p e below s Z EL h0 C N Q T f') : ∃ s₂ o, Steps p.tables e below (T.setTop f) s₂ ∧ s₂.status = .running ∧ Ended s₂ below o ∧ ∃ v L, o = .returned v ∧ Q v s₂.heap L ∧ CHr Z EL s.vm s.heap s₂.vm s₂.heap ∧ ReturnedEndW s o s₂ L C N := by
  subst q hh; exact k
theorem own_leafH (X : Stand p l e R (s.setVm vm0) m args below meth c T locs cells slots) (hS : s.Since vm0 k0) (hk : k0 ≤ T.heap.size) (hC : CHr Z EL s.vm h0 T.vm T.heap) (hlk : meth.locks = false) {v : Option Value} (hv : meth.sig.returnType = none → v = none)
    (hs : ∀ fs, (∀ (f : JFrame) (acts : List Action), f.method = m → f.locked = none → f.entered = [] → (doReturn e (T.setTop f) acts v).1 = T.setFrames fs) → Steps p.tables e below (T.setTop f) (T.setFrames fs))
    (hQ : Q v T.heap locs) (hc : cells ≤ C) (hn : slots ≤ N) : own_FinH p e below s Z EL h0 C N Q T f := by
  obtain ⟨fs, hr, hrun, hended, hE⟩ := X.leaveW hS hk (v := v) hv hlk
  exact ⟨_, _, hs fs hr, hrun, hended, _, _, rfl, hQ, hC, own_endW hE hc hn⟩
theorem own_retVH (X : Stand p l e R (s.setVm vm0) m args below meth c T locs cells slots) (hS : s.Since vm0 k0) (hk : k0 ≤ T.heap.size) (hC : CHr Z EL s.vm h0 T.vm T.heap) (hx : p.tables.exec = Jvm.exec) (hlk : meth.locks = false) {pc : Nat} {Ls : Array Slot} (hret : meth.sig.returnType = none) (hd : decode c.code pc = .ok (.return_, 1))
    (hQ : Q none T.heap locs) (hc : cells ≤ C) (hn : slots ≤ N) : own_FinH p e below s Z EL h0 C N Q T (mkF m pc Ls []) :=
  own_leafH X hS hk hC hlk (fun _ => rfl) (fun fs hr => X.returnOut hx hret hd hr) hQ hc hn
theorem own_retZH (X : Stand p l e R (s.setVm vm0) m args below meth c T locs cells slots) (hS : s.Since vm0 k0) (hk : k0 ≤ T.heap.size) (hC : CHr Z EL s.vm h0 T.vm T.heap) (hx : p.tables.exec = Jvm.exec) (hlk : meth.locks = false) {pc : Nat} {Ls : Array Slot} {z : Int32} {t : FieldType} {rest : List Value} (hret : meth.sig.returnType = some t) (ht : t = .boolean ∨ t = .byte ∨ t = .char ∨ t = .short) (hd : decode c.code pc = .ok (.ireturn, 1))
    (hQ : Q (some (.int (nar t z))) T.heap locs) (hc : cells ≤ C) (hn : slots ≤ N) : own_FinH p e below s Z EL h0 C N Q T (mkF m pc Ls (.int z :: rest)) :=
  own_leafH X hS hk hC hlk (fun h => by rw [hret] at h; cases h) (fun fs hr => retN X hx hret ht hd hr) hQ hc hn
theorem own_retAH (X : Stand p l e R (s.setVm vm0) m args below meth c T locs cells slots) (hS : s.Since vm0 k0) (hk : k0 ≤ T.heap.size) (hC : CHr Z EL s.vm h0 T.vm T.heap) (hx : p.tables.exec = Jvm.exec) (hlk : meth.locks = false) {pc : Nat} {Ls : Array Slot} {w : Value} {t : FieldType} {rest : List Value} (hret : meth.sig.returnType = some t) (hr : t.isReference = true) (hn' : narrow t w = w) (hw : w.isRef = true) (hd : decode c.code pc = .ok (.areturn, 1))
    (hQ : Q (some w) T.heap locs) (hc : cells ≤ C) (hn : slots ≤ N) : own_FinH p e below s Z EL h0 C N Q T (mkF m pc Ls (w :: rest)) :=
  own_leafH X hS hk hC hlk (fun h => by rw [hret] at h; cases h) (fun fs hr' => retOut X hx hret hn' (Or.inr (Or.inr (Or.inr (Or.inr ⟨rfl, hr, hw⟩)))) hd hr') hQ hc hn
end OwnH
theorem own_vi {a b : Int32} (h : a = b) : some (Value.int a) = some (Value.int b) := h ▸ rfl
theorem own_wS {a0 : Array Value} {Z : State} (hw : ∀ d ∈ tables_1, d.before a0 Z = true) : ∀ a ∈ Bundle.stringAtoms, a.before a0 Z = true := fun d hd => hw d ((by decide +kernel : ∀ d ∈ Bundle.stringAtoms, d ∈ tables_1) d hd)
theorem own_EW {a0 : Array Value} {Z : State} (hw : ∀ d ∈ tables_1, d.before a0 Z = true) : EW Z a0 consts_1 := (EW.cons (own_g hw 19 rfl) (by decide) EW.nil)
theorem own_b8 (x : Int32) : x.toInt8.toInt32.toInt8.toInt32 = x.toInt8.toInt32 := by
  apply Int32.toInt_inj.mp
  have a := c_i2b x
  have b := c_i2b x.toInt8.toInt32
  omega
theorem own_safe {Z : State} {EL : List (String × Nat)} {vm : Vm} {h : Heap} {x : Addr} (hal : Z.vm.Alike vm) (E : Exa Z h x "java/lang/String") (F : Fld Z h x "java/lang/String" "value" "[B" .null) : Safe Z EL vm h x := fun B => by
  obtain ⟨cell, k, e1, e2, e3, -, -⟩ := E
  obtain ⟨cell', cf, k', i, f, f1, f2, f3, f4, f5, f6, f7⟩ := F
  cases e1.symm.trans f1
  obtain ⟨p, -, u, a, -, q, -, G, rfl | rfl⟩ := B
  · cases (show h[q.sa]? = some q.sC from G.ha).symm.trans e1
    obtain ⟨cS, ⟨⟨-, -, -, ⟨c1, k1, i1, g1, -⟩, -, -, -, v1, -⟩, -⟩, -⟩ := G
    obtain ⟨k3, e3, -⟩ := State.fieldFound?_setVm (s := Z) hal f2
    have e4 := (show (Wst Z vm h).fieldFound? _ _ _ = _ from e3).symm.trans g1
    simp only [Option.some.injEq, Prod.mk.injEq] at e4
    rw [← e4.2.2.2, f7] at v1
    cases v1
  · cases (show h[q.sd]? = some q.SA from G.hd).symm.trans e1
    obtain ⟨cS, -, -, f, -⟩ := G
    have f' : vm.findClass "[B" = some q.SA.cls := f
    rw [hal.findClass] at f'
    obtain ⟨k1, q1, q2⟩ := Vm.findClass_spec f'
    obtain ⟨k2, q3, q4⟩ := Vm.findClass_spec e2
    cases q1.symm.trans q3
    exact absurd (q2.symm.trans q4) (by decide)
def own_Env (Z : State) (cs : Int32) (gS : Value) : Prop := Sta Z Z.heap "java/lang/StringUTF16" "$assertionsDisabled" "Z" (.int (1 : Int32)) ∧ Sta Z Z.heap "java/lang/StringUTF16" "HI_BYTE_SHIFT" "I" (.int (0 : Int32)) ∧ Sta Z Z.heap "java/lang/StringUTF16" "LO_BYTE_SHIFT" "I" (.int (8 : Int32)) ∧ Sta Z Z.heap "java/lang/String" "COMPACT_STRINGS" "Z" (.int cs) ∧ ¬ cs = (0 : Int32) ∧ Sta Z Z.heap "jdk/internal/util/Preconditions" "SIOOBE_FORMATTER" "Ljava/util/function/BiFunction;" gS ∧ gS.isRef = true
def own_ch (x : Int32) : Prop := 0 ≤ x.toInt ∧ x.toInt < 65536
theorem own_ch_c {x : Int32} (h : own_ch x) : x.toUInt32.toUInt16.toUInt32.toInt32 = x := by
  have q := c_i2c x
  obtain ⟨h1, h2⟩ := h
  exact Int32.toInt_inj.mp (by omega)
def own_lo (c : Int32) : Int32 := (c >>> ((0 : Int32) &&& 31)).toInt8.toInt32
def own_hi (c : Int32) : Int32 := (c >>> ((8 : Int32) &&& 31)).toInt8.toInt32
theorem own_u16 {x : Int32} (h : own_ch x) : nar .char (((((own_lo x) &&& (255 : Int32)) <<< ((0 : Int32) &&& 31)) ||| (((own_hi x) &&& (255 : Int32)) <<< ((8 : Int32) &&& 31))).toUInt32.toUInt16.toUInt32.toInt32) = x := by
  unfold own_lo own_hi
  obtain ⟨h1, h2⟩ := h
  have s0 := c_ishr x 0 0 (by decide)
  have s8 := c_ishr x 8 8 (by decide)
  have b0 := c_i2b (x >>> ((0 : Int32) &&& 31))
  have b8 := c_i2b (x >>> ((8 : Int32) &&& 31))
  have m0 := c_mask ((x >>> ((0 : Int32) &&& 31)).toInt8.toInt32) 255 8 (by decide) (by decide)
  have m8 := c_mask ((x >>> ((8 : Int32) &&& 31)).toInt8.toInt32) 255 8 (by decide) (by decide)
  have l0 := c_ishl (((x >>> ((0 : Int32) &&& 31)).toInt8.toInt32) &&& 255) 0 0 (by decide)
  have l8 := c_ishl (((x >>> ((8 : Int32) &&& 31)).toInt8.toInt32) &&& 255) 8 8 (by decide)
  generalize ha : ((((x >>> ((0 : Int32) &&& 31)).toInt8.toInt32) &&& (255 : Int32)) <<< ((0 : Int32) &&& 31)) = a at l0 ⊢
  generalize hb : ((((x >>> ((8 : Int32) &&& 31)).toInt8.toInt32) &&& (255 : Int32)) <<< ((8 : Int32) &&& 31)) = b at l8 ⊢
  have al := Int32.toInt_lt a
  have ag := Int32.le_toInt a
  have bl := Int32.toInt_lt b
  have bg := Int32.le_toInt b
  simp only [Nat.reducePow] at s0 s8 m0 m8 l0 l8
  have ea : a.toInt = x.toInt % 256 := by omega
  have eb : b.toInt = x.toInt / 256 * 256 := by omega
  have o := c_or' a b 8 (by decide) 256 (by decide) (by omega) (by omega) (by omega)
  have ol := Int32.toInt_lt (a ||| b)
  have og := Int32.le_toInt (a ||| b)
  have eo : (a ||| b).toInt = x.toInt := by omega
  have c1 := c_i2c (a ||| b)
  have e1 : (a ||| b).toUInt32.toUInt16.toUInt32.toInt32 = x := Int32.toInt_inj.mp (by omega)
  rw [e1]
  exact own_ch_c ⟨h1, h2⟩
def own_cq (ch : Int32) : Prop := ¬ ch < (0 : Int32) ∧ ¬ (255 : Int32) < ch ∧ ch < (65536 : Int32)
def own_find (ch : Int32) : List Int32 → Int32 → Int32
  | [], _ => -1
  | x :: xs, i => if x = ch then i else own_find ch xs (i + 1)
theorem own_bch {x : Int32} (h : own_ch x) (h2 : ¬ (255 : Int32) < x) {c : Int32} (hc : 0 ≤ c.toInt ∧ c.toInt < 128) : (x.toInt8.toInt32 = c) = (x = c) := by
  obtain ⟨h1, -⟩ := h
  have k : (255 : Int32).toInt = 255 := by decide
  rw [Int32.lt_iff_toInt_lt] at h2
  have b := c_i2b x
  apply propext
  rw [← Int32.toInt_inj, ← Int32.toInt_inj]
  omega
def own_neg (r : Int32) : Int32 := if r < (0 : Int32) then 1 else 0
theorem own_chn (z : Int32) : own_ch (nar .char z) := by have q := c_i2c z; exact ⟨q.2.1, q.2.2⟩
theorem own_n5 (x : Int32) : ((x &&& (2147483647 : Int32)) % (5 : Int32)) = 0 ∨ ((x &&& (2147483647 : Int32)) % (5 : Int32)) = 1 ∨ ((x &&& (2147483647 : Int32)) % (5 : Int32)) = 2 ∨ ((x &&& (2147483647 : Int32)) % (5 : Int32)) = 3 ∨ ((x &&& (2147483647 : Int32)) % (5 : Int32)) = 4 := by
  have m := c_and x 2147483647 (by decide)
  have r := (c_irem (x &&& 2147483647) 5 5 (by decide)).1 m.1
  generalize (x &&& (2147483647 : Int32)) % (5 : Int32) = z at r ⊢
  simp only [← Int32.toInt_inj]
  have k0 : (0 : Int32).toInt = 0 := by decide
  have k1 : (1 : Int32).toInt = 1 := by decide
  have k2 : (2 : Int32).toInt = 2 := by decide
  have k3 : (3 : Int32).toInt = 3 := by decide
  have k4 : (4 : Int32).toInt = 4 := by decide
  omega
def own_st (h y : Int32) : Int32 := if y = (0 : Int32) then 1 else h
def own_no (h : Int32) : Int32 := if h = (0 : Int32) then 1 else 0
theorem own_pl1 (x0 : Int32) : own_neg (own_find (0 : Int32) [x0] (0 : Int32)) = own_no (own_st (0 : Int32) x0) := by
  by_cases h0 : x0 = (0 : Int32) <;> first | (simp only [own_find, own_st, h0, if_true, if_false]; decide) | simp [own_find, own_st, own_neg, own_no, h0]
theorem own_pl2 (x0 x1 : Int32) : own_neg (own_find (0 : Int32) [x0, x1] (0 : Int32)) = own_no (own_st (own_st (0 : Int32) x0) x1) := by
  by_cases h0 : x0 = (0 : Int32) <;> by_cases h1 : x1 = (0 : Int32) <;> first | (simp only [own_find, own_st, h0, h1, if_true, if_false]; decide) | simp [own_find, own_st, own_neg, own_no, h0, h1]
theorem own_pl3 (x0 x1 x2 : Int32) : own_neg (own_find (0 : Int32) [x0, x1, x2] (0 : Int32)) = own_no (own_st (own_st (own_st (0 : Int32) x0) x1) x2) := by
  by_cases h0 : x0 = (0 : Int32) <;> by_cases h1 : x1 = (0 : Int32) <;> by_cases h2 : x2 = (0 : Int32) <;> first | (simp only [own_find, own_st, h0, h1, h2, if_true, if_false]; decide) | simp [own_find, own_st, own_neg, own_no, h0, h1, h2]
theorem own_pl4 (x0 x1 x2 x3 : Int32) : own_neg (own_find (0 : Int32) [x0, x1, x2, x3] (0 : Int32)) = own_no (own_st (own_st (own_st (own_st (0 : Int32) x0) x1) x2) x3) := by
  by_cases h0 : x0 = (0 : Int32) <;> by_cases h1 : x1 = (0 : Int32) <;> by_cases h2 : x2 = (0 : Int32) <;> by_cases h3 : x3 = (0 : Int32) <;> first | (simp only [own_find, own_st, h0, h1, h2, h3, if_true, if_false]; decide) | simp [own_find, own_st, own_neg, own_no, h0, h1, h2, h3]
theorem own_pn1 : plainName "com/example/munka/munka/model/NulFreeIsPinLaw" = true := by first | (simp [plainName, overriddenIn]; done) | decide +kernel
theorem d1_0 : decode method_2_code 0 = .ok (.iload_n 0, 1) := by decide +kernel
theorem d1_1 : decode method_2_code 1 = .ok (.bipush 16, 2) := by decide +kernel
theorem d1_3 : decode method_2_code 3 = .ok (.iushr, 1) := by decide +kernel
theorem d1_4 : decode method_2_code 4 = .ok (.iconst 3, 1) := by decide +kernel
theorem d1_5 : decode method_2_code 5 = .ok (.iand, 1) := by decide +kernel
theorem d1_6 : decode method_2_code 6 = .ok (.ifCond .ne 5, 3) := by decide +kernel
theorem d1_9 : decode method_2_code 9 = .ok (.iconst 0, 1) := by decide +kernel
theorem d1_10 : decode method_2_code 10 = .ok (.ireturn, 1) := by decide +kernel
theorem d1_11 : decode method_2_code 11 = .ok (.iload_n 0, 1) := by decide +kernel
theorem d1_12 : decode method_2_code 12 = .ok (.ldc 7, 2) := by decide +kernel
theorem d1_14 : decode method_2_code 14 = .ok (.iand, 1) := by decide +kernel
theorem d1_15 : decode method_2_code 15 = .ok (.i2c, 1) := by decide +kernel
theorem d1_16 : decode method_2_code 16 = .ok (.ireturn, 1) := by decide +kernel
theorem ef_I_1 (m : MethodId) (x0 : Int32) : entryFrame m #[(.int x0)] 1 = mkF m 0 #[.val (.int x0)] [] := by first | (simp [entryFrame, mkF, argsToLocals, Value.category]; done) | rfl
def own_Qdr (h0 : Heap) (n0 : Nat) (v : Option Value) (h : Heap) (L : List Loc) : Prop := ∃ x : Int32, v = some (.int x) ∧ Fr n0 L ∧ own_ch x ∧ h = h0
set_option maxRecDepth 65536 in
set_option maxHeartbeats 40000000 in
theorem rmDr (l : Launch) (Z : State) (a0 : Array Value) (hw : own_W a0 Z) (ws : List Jvm.Cond) (p1 : Int32) (h0 : Heap) (n0 : Nat) (Z0 : n0 ≤ h0.size)  : own_Met l Z mn0 method_2_code 1 (some .char) ws (own_R 0 0 0 0) #[(.int p1)] h0 (own_Qdr h0 n0) := by
  refine own_enter n0 (plainFor_of_name own_pn1) (fun m => ef_I_1 m p1 ) (fun p e s m below meth c s₁ hx hby hlk hml hret hown hnm hZ X0 e0 N0 => ?_)
  show own_Fin _ _ _ _ _ _ _ s₁ (mkF m 0 #[Iv p1] [])
  refine own_by (fun _ k => XS.iloadN X0.here hx rfl (hb hby d1_0) rfl (XS.bipush X0.here hx rfl (hb hby d1_1) (XS.iushr X0.here hx rfl (hb hby d1_3) rfl (XS.iconst X0.here hx rfl (hb hby d1_4) (XS.iand X0.here hx rfl (hb hby d1_5) rfl k))))) ?_
  show own_Fin _ _ _ _ _ _ _ s₁ (mkF m 6 #[Iv p1] [(.int (((p1.toUInt32 >>> ((16 : Int32) &&& 31).toUInt32).toInt32) &&& (3 : Int32)))])
  by_cases hc6_1 : (((p1.toUInt32 >>> ((16 : Int32) &&& 31).toUInt32).toInt32) &&& (3 : Int32)) = (0 : Int32)
  · show own_Fin _ _ _ _ _ _ _ s₁ (mkF m 6 #[Iv p1] [(.int (((p1.toUInt32 >>> ((16 : Int32) &&& 31).toUInt32).toInt32) &&& (3 : Int32)))])
    refine own_by (fun _ k => XS.ifNo X0.here hx rfl (hb hby d1_6) rfl ((if0 _ _).trans (teq hc6_1).2) (XS.iconst X0.here hx rfl (hb hby d1_9) k)) ?_
    exact own_retZ X0 hx hlk (t := .char) hret (by simp) (hb hby d1_10) ⟨_, rfl, N0, own_chn _, e0⟩ (by decide) (by decide)
  · show own_Fin _ _ _ _ _ _ _ s₁ (mkF m 6 #[Iv p1] [(.int (((p1.toUInt32 >>> ((16 : Int32) &&& 31).toUInt32).toInt32) &&& (3 : Int32)))])
    refine own_by (fun _ k => XS.ifYes X0.here hx rfl (pc0 := 6) (pc' := 11) rfl (hb hby d1_6) rfl ((if0 _ _).trans (feq hc6_1).2) (by decide) (by decide) (XS.iloadN X0.here hx rfl (hb hby d1_11) rfl (X0.ldcInt hx hown (mvT hZ (own_g hw 84 rfl)) (g := (mkF m 12 #[Iv p1] [(.int p1)])) rfl (hb hby d1_12) _ (XS.iand X0.here hx rfl (hb hby d1_14) rfl (XS.i2c X0.here hx rfl (hb hby d1_15) rfl k))))) ?_
    exact own_retZ X0 hx hlk (t := .char) hret (by simp) (hb hby d1_16) ⟨_, rfl, N0, own_chn _, e0⟩ (by decide) (by decide)
theorem own_pn16 : plainName "java/lang/String" = true := by first | (simp [plainName, overriddenIn]; done) | decide +kernel
theorem d3_0 : decode jdk_42_method_149_code 0 = .ok (.aload_n 0, 1) := by decide +kernel
theorem d3_1 : decode jdk_42_method_149_code 1 = .ok (.invokespecial 1, 3) := by decide +kernel
theorem d3_4 : decode jdk_42_method_149_code 4 = .ok (.iload_n 3, 1) := by decide +kernel
theorem d3_5 : decode jdk_42_method_149_code 5 = .ok (.ifCond .ne 22, 3) := by decide +kernel
theorem d3_8 : decode jdk_42_method_149_code 8 = .ok (.aload_n 0, 1) := by decide +kernel
theorem d3_9 : decode jdk_42_method_149_code 9 = .ok (.ldc 7, 2) := by decide +kernel
theorem d3_11 : decode jdk_42_method_149_code 11 = .ok (.getfield 9, 3) := by decide +kernel
theorem d3_14 : decode jdk_42_method_149_code 14 = .ok (.putfield 9, 3) := by decide +kernel
theorem d3_17 : decode jdk_42_method_149_code 17 = .ok (.aload_n 0, 1) := by decide +kernel
theorem d3_18 : decode jdk_42_method_149_code 18 = .ok (.ldc 7, 2) := by decide +kernel
theorem d3_20 : decode jdk_42_method_149_code 20 = .ok (.getfield 15, 3) := by decide +kernel
theorem d3_23 : decode jdk_42_method_149_code 23 = .ok (.putfield 15, 3) := by decide +kernel
theorem d3_26 : decode jdk_42_method_149_code 26 = .ok (.return_, 1) := by decide +kernel
theorem ef_RRIIN_6 (m : MethodId) (x0 : Addr) (x1 : Addr) (x2 : Int32) (x3 : Int32) : entryFrame m #[(.ref x0), (.ref x1), (.int x2), (.int x3), .null] 6 = mkF m 0 #[.val (.ref x0), .val (.ref x1), .val (.int x2), .val (.int x3), .val .null, .unset] [] := by first | (simp [entryFrame, mkF, argsToLocals, Value.category]; done) | rfl
def own_Qsie (Z : State) (a1 : Addr)  (h0 : Heap) (n0 : Nat) (v : Option Value) (h : Heap) (L : List Loc) : Prop := ∃ (b : Addr) (k : ClassId), v = none ∧ Fr n0 L ∧ Keep h0 h [a1] ∧ Fld Z h a1 "java/lang/String" "coder" "B" (.int (0 : Int32)) ∧ Fld Z h a1 "java/lang/String" "value" "[B" (.ref b) ∧ Arv Z h b k .byte (0 : Int32) [] (.int (0 : Int32))
set_option maxRecDepth 65536 in
set_option maxHeartbeats 40000000 in
theorem rmSIe (l : Launch) (Z : State) (a0 : Array Value) (hw : own_W a0 Z) (ws : List Jvm.Cond) (a1 a2 : Addr) (h0 : Heap) (n0 : Nat) (Z0 : n0 ≤ h0.size) (E_a1 : Exa Z h0 a1 "java/lang/String") (F_v : Fld Z h0 a1 "java/lang/String" "value" "[B" .null) (F_c : Fld Z h0 a1 "java/lang/String" "coder" "B" (.int (0 : Int32))) (g_a1 : n0 ≤ a1) :
    MetFree l mn1 (head1 (Jvm.Cond.code mn1 jdk_42_method_149_code 6 none :: ws) (own_R 1 4 8 14)) (fun a U => a = #[(.ref a1), (.ref a2), (.int (0 : Int32)), (.int (0 : Int32)), .null] ∧ Z.Warmed39 U.vm ∧ U.heap = h0 ∧ CHv Z consts_1 U.vm h0) (fun _ _ _ _ _ => True) (fun _ U o U' => ∃ v L, o = .returned v ∧ own_Qsie Z a1 h0 n0 v U'.heap L ∧ CHr Z consts_1 U.vm U.heap U'.vm U'.heap ∧ ReturnedEndW U o U' L (own_R 1 4 8 14).cells (own_R 1 4 8 14).slots) := by
  refine MetFree.of_bodySF (plainFor_of_name own_pn16) hisR ?_
  intro p e s m args below meth c s₁ Bd hml0 hP hK
  obtain ⟨rfl, hZ, hh, hCH0⟩ := hP
  have hx := Bd.exec
  have hby := Bd.bytes
  have hlk := Bd.notSynchronized
  have hml : c.maxLocals = 6 := hml0
  have hown : s.vm.findClass "java/lang/String" = some m.cls := findClass_of_methodNamed Bd.named
  have hnm := (name_of_methodNamed Bd.named Bd.method).1
  have X0 : Stand p l e (own_R 1 4 8 14) (s.setVm s.vm) m #[(.ref a1), (.ref a2), (.int (0 : Int32)), (.int (0 : Int32)), .null] below meth c s₁ [] 0 0 := Stand.of_body Bd
  have e0 : s₁.heap = h0 := by rw [← hh, Bd.state]; rfl
  have N0 := Fr.nil n0
  refine own_startH (Q := own_Qsie Z a1 h0 n0) (C := (own_R 1 4 8 14).cells) (N := (own_R 1 4 8 14).slots) hh (ef_RRIIN_6 m a1 a2 (0 : Int32) (0 : Int32) ) ?_
  have hS0 : s.Since s.vm h0.size := (State.WarmedH.refl s).since _
  have hk0 : h0.size ≤ h0.size := Nat.le_refl _
  replace hown : (s.setVm s.vm).vm.findClass "java/lang/String" = some m.cls := hown
  replace hZ : Z.Warmed39 (s.setVm s.vm).vm := hZ
  have CH0 : CHr Z consts_1 s.vm h0 s.vm h0 := CHr.refl hCH0
  show own_FinH _ _ _ _ _ _ _ _ _ _ s₁ (mkF m 0 #[Rv a1, Rv a2, Iv 0, Iv 0, Nv, Uv] [])
  have Kp2 : Keep h0 h0 [a1] := Keep.refl h0 _
  obtain ⟨T3, X3, e3, st3⟩ := initO X0 hx hZ hown (own_g hw 16 rfl) (own_g hw 17 rfl) (own_g hw 18 rfl) e0 (g := (mkF m 1 #[Rv a1, Rv a2, Iv 0, Iv 0, Nv, Uv] [(.ref a1)])) rfl (by rw [hml]; rfl) rfl (hb hby d3_1) (by decide) (W := 0) (own_z rfl) (by decide)
  obtain ⟨b4, T4, h4, k4, v4, kk4, X4, e4, E4, hS4, hkE4, hZ4, hown4, Eb4, Cb4, Vb4, Ab4, -, -, hCr4, -, Sn4, st4⟩ := ldcCH (s := s) (vm0 := s.vm) X3 hx hZ hown (own_g hw 19 rfl) (own_wS hw) e3 hS0 hk0 (own_EW hw) (by decide) CH0.1 (vs := []) (z := (0 : Int32)) (by decide) (by decide) (by decide) (g := (mkF m 9 #[Rv a1, Rv a2, Iv 0, Iv 0, Nv, Uv] [(.ref a1)])) rfl (hb hby d3_9) (n := 0) (by decide) (by decide) (by decide) (by decide)
  have sf5_a1 : Safe Z consts_1 T4.vm h4 a1 := CHr.safe hCr4 E_a1.lt (own_safe hZ.alike E_a1 F_v)
  have CHs5 : CHr Z consts_1 s.vm h0 T4.vm h4 := CH0.trans (hCr4)
  replace hZ := hZ4
  replace hown := hown4
  have Zs4 : n0 ≤ h4.size := Nat.le_trans Z0 E4.1
  have Kp4 : Keep h0 h4 [a1] := Kp2.ext E4
  have f6_0 : Exa Z h4 a1 "java/lang/String" := E_a1.ext E4
  have f6_1 : Fld Z h4 a1 "java/lang/String" "value" "[B" .null := F_v.ext E4
  have f6_2 : Fld Z h4 a1 "java/lang/String" "coder" "B" (.int (0 : Int32)) := F_c.ext E4
  have ne4_a1 := Sn4 a1 sf5_a1
  obtain ⟨T7, X7, e7, st7⟩ := getF X4 hx hZ hown (host := "") (Or.inl (own_g hw 25 rfl)) Via.refl e4 Vb4 (g := (mkF m 11 #[Rv a1, Rv a2, Iv 0, Iv 0, Nv, Uv] [(.ref b4), (.ref a1)])) rfl rfl (hb hby d3_11)
  obtain ⟨T8, h8, X8, e8, W8, st8⟩ := putF X7 hx hZ hown (host := "") (Or.inl (own_g hw 25 rfl)) Via.refl e7 f6_1 f6_0 (Or.inr ⟨(own_g hw 21 rfl), rfl, hnm⟩) (own_g hw 7 rfl) (ty := (.array .byte)) (by decide) rfl rfl (g := (mkF m 14 #[Rv a1, Rv a2, Iv 0, Iv 0, Nv, Uv] [(.ref v4), (.ref a1)])) rfl rfl (hb hby d3_14)
  have Fw8 : Fld Z h8 a1 "java/lang/String" "value" "[B" (.ref v4) := f6_1.same W8
  have Kp8 : Keep h0 h8 [a1] := Kp4.wr W8 (Or.inl (List.mem_of_getElem? (i := 0) rfl))
  have Zs8 : n0 ≤ h8.size := Nat.le_trans Zs4 (Keep.of_wr W8).1
  have N8 := Fr.snoc X8 N0 g_a1
  have hkE8 : _ ≤ h8.size := Nat.le_trans hkE4 (Keep.of_wr W8).1
  have sf9_a1 : Safe Z consts_1 T4.vm h8 a1 := Safe.wr W8 sf5_a1 CHs5.1 sf5_a1
  have CHs9 : CHr Z consts_1 s.vm h0 T4.vm h8 := CHs5.trans (CHr.wr W8 sf5_a1 CHs5.1)
  have f10_0 : Exa Z h8 a1 "java/lang/String" := f6_0.wr W8
  have f10_2 : Fld Z h8 a1 "java/lang/String" "coder" "B" (.int (0 : Int32)) := f6_2.other W8 (Or.inr (slot_ne (Or.inr (own_g hw 22 rfl)) (Or.inr (own_g hw 21 rfl)) (by decide) (t := .byte) (t' := (.array .byte)) (by decide) (by decide)))
  have f10_4 : Exa Z h8 b4 "java/lang/String" := Eb4.wr W8
  have f10_5 : Fld Z h8 b4 "java/lang/String" "coder" "B" (.int (0 : Int32)) := Cb4.other W8 (Or.inl (Ne.symm ne4_a1.1))
  have f10_6 : Fld Z h8 b4 "java/lang/String" "value" "[B" (.ref v4) := Vb4.other W8 (Or.inl (Ne.symm ne4_a1.1))
  have f10_7 : Arv Z h8 v4 kk4 .byte (0 : Int32) [] (.int (0 : Int32)) := Ab4.other W8 (Ne.symm ne4_a1.2)
  obtain ⟨b11, T11, h11, k11, v11, kk11, X11, e11, E11, hS11, hkE11, hZ11, hown11, Eb11, Cb11, Vb11, Ab11, -, -, hCr11, -, Sn11, st11⟩ := ldcCH (s := s) (vm0 := T4.vm) X8 hx hZ hown (own_g hw 19 rfl) (own_wS hw) e8 hS4 hkE8 (own_EW hw) (by decide) CHs9.1 (vs := []) (z := (0 : Int32)) (by decide) (by decide) (by decide) (g := (mkF m 18 #[Rv a1, Rv a2, Iv 0, Iv 0, Nv, Uv] [(.ref a1)])) rfl (hb hby d3_18) (n := 0) (by decide) (by decide) (by decide) (by decide)
  have sf12_a1 : Safe Z consts_1 T11.vm h11 a1 := CHr.safe hCr11 f10_0.lt sf9_a1
  have CHs12 : CHr Z consts_1 s.vm h0 T11.vm h11 := CHs9.trans (hCr11)
  replace hZ := hZ11
  replace hown := hown11
  have Zs11 : n0 ≤ h11.size := Nat.le_trans Zs8 E11.1
  have Kp11 : Keep h0 h11 [a1] := Kp8.ext E11
  have f13_0 : Exa Z h11 a1 "java/lang/String" := f10_0.ext E11
  have f13_1 : Fld Z h11 a1 "java/lang/String" "coder" "B" (.int (0 : Int32)) := f10_2.ext E11
  have f13_3 : Exa Z h11 b4 "java/lang/String" := f10_4.ext E11
  have f13_4 : Fld Z h11 b4 "java/lang/String" "coder" "B" (.int (0 : Int32)) := f10_5.ext E11
  have f13_5 : Fld Z h11 b4 "java/lang/String" "value" "[B" (.ref v4) := f10_6.ext E11
  have f13_6 : Arv Z h11 v4 kk4 .byte (0 : Int32) [] (.int (0 : Int32)) := f10_7.ext E11
  have f13_7 : Fld Z h11 a1 "java/lang/String" "value" "[B" (.ref v4) := Fw8.ext E11
  have ne11_a1 := Sn11 a1 sf12_a1
  obtain ⟨T14, X14, e14, st14⟩ := getF X11 hx hZ hown (host := "") (Or.inl (own_g hw 26 rfl)) Via.refl e11 Cb11 (g := (mkF m 20 #[Rv a1, Rv a2, Iv 0, Iv 0, Nv, Uv] [(.ref b11), (.ref a1)])) rfl rfl (hb hby d3_20)
  refine own_byH (fun _ k => XS.aloadN X0.here hx rfl (hb hby d3_0) rfl rfl (st3 _ (XS.iloadN X3.here hx rfl (hb hby d3_4) rfl (XS.ifNo X3.here hx rfl (hb hby d3_5) rfl ((if0 _ _).trans (teq (by decide : (0 : Int32) = (0 : Int32))).2) (XS.aloadN X3.here hx rfl (hb hby d3_8) rfl rfl (st4 _ (st7 _ (st8 _ (XS.aloadN X8.here hx rfl (hb hby d3_17) rfl rfl (st11 _ k)))))))))) ?_
  show own_FinH _ _ _ _ _ _ _ _ _ _ T11 (mkF m 20 #[Rv a1, Rv a2, Iv 0, Iv 0, Nv, Uv] [(.ref b11), (.ref a1)])
  obtain ⟨T15, h15, X15, e15, W15, st15⟩ := putFN X14 hx hZ hown (own_g hw 26 rfl) Via.refl e14 f13_1 f13_0 (Or.inr ⟨(own_g hw 22 rfl), rfl, hnm⟩) (own_g hw 7 rfl) (ty := .byte) (v' := (.int (0 : Int32))) (by decide) rfl (by decide) (g := (mkF m 23 #[Rv a1, Rv a2, Iv 0, Iv 0, Nv, Uv] [(.int 0), (.ref a1)])) rfl rfl (hb hby d3_23)
  have Fw15 : Fld Z h15 a1 "java/lang/String" "coder" "B" (.int (0 : Int32)) := f13_1.same W15
  have Kp15 : Keep h0 h15 [a1] := Kp11.wr W15 (Or.inl (List.mem_of_getElem? (i := 0) rfl))
  have Zs15 : n0 ≤ h15.size := Nat.le_trans Zs11 (Keep.of_wr W15).1
  have N15 := Fr.snoc X15 N8 g_a1
  have hkE15 : _ ≤ h15.size := Nat.le_trans hkE11 (Keep.of_wr W15).1
  have sf16_a1 : Safe Z consts_1 T11.vm h15 a1 := Safe.wr W15 sf12_a1 CHs12.1 sf12_a1
  have CHs16 : CHr Z consts_1 s.vm h0 T11.vm h15 := CHs12.trans (CHr.wr W15 sf12_a1 CHs12.1)
  have f17_0 : Exa Z h15 a1 "java/lang/String" := f13_0.wr W15
  have f17_3 : Exa Z h15 b4 "java/lang/String" := f13_3.wr W15
  have f17_4 : Fld Z h15 b4 "java/lang/String" "coder" "B" (.int (0 : Int32)) := f13_4.other W15 (Or.inl (Ne.symm ne4_a1.1))
  have f17_5 : Fld Z h15 b4 "java/lang/String" "value" "[B" (.ref v4) := f13_5.other W15 (Or.inl (Ne.symm ne4_a1.1))
  have f17_6 : Arv Z h15 v4 kk4 .byte (0 : Int32) [] (.int (0 : Int32)) := f13_6.other W15 (Ne.symm ne4_a1.2)
  have f17_7 : Fld Z h15 a1 "java/lang/String" "value" "[B" (.ref v4) := f13_7.other W15 (Or.inr (slot_ne (Or.inr (own_g hw 21 rfl)) (Or.inr (own_g hw 22 rfl)) (by decide) (t := (.array .byte)) (t' := .byte) (by decide) (by decide)))
  have f17_8 : Exa Z h15 b11 "java/lang/String" := Eb11.wr W15
  have f17_9 : Fld Z h15 b11 "java/lang/String" "coder" "B" (.int (0 : Int32)) := Cb11.other W15 (Or.inl (Ne.symm ne11_a1.1))
  have f17_10 : Fld Z h15 b11 "java/lang/String" "value" "[B" (.ref v11) := Vb11.other W15 (Or.inl (Ne.symm ne11_a1.1))
  have f17_11 : Arv Z h15 v11 kk11 .byte (0 : Int32) [] (.int (0 : Int32)) := Ab11.other W15 (Ne.symm ne11_a1.2)
  have CHe18 : CHr Z consts_1 s.vm h0 T15.vm h15 := CHs16.trans (CHv.at X15 hZ (own_EW hw) CHs16.1)
  refine own_byH (fun _ k => st14 _ (st15 _ k)) ?_
  exact own_retVH X15 hS11 (by rw [e15]; exact hkE15) (by rw [e15]; exact CHe18) hx hlk Bd.returns (hb hby d3_26) (by rw [e15]; exact ⟨_, _, rfl, N15, Kp15, Fw15, f17_7, f17_6⟩) (by decide) (by decide)
theorem d2_0 : decode jdk_42_method_3_code 0 = .ok (.aload_n 0, 1) := by decide +kernel
theorem d2_1 : decode jdk_42_method_3_code 1 = .ok (.aload_n 1, 1) := by decide +kernel
theorem d2_2 : decode jdk_42_method_3_code 2 = .ok (.iconst 0, 1) := by decide +kernel
theorem d2_3 : decode jdk_42_method_3_code 3 = .ok (.aload_n 1, 1) := by decide +kernel
theorem d2_4 : decode jdk_42_method_3_code 4 = .ok (.arraylength, 1) := by decide +kernel
theorem d2_5 : decode jdk_42_method_3_code 5 = .ok (.aconst_null, 1) := by decide +kernel
theorem d2_6 : decode jdk_42_method_3_code 6 = .ok (.invokespecial 27, 3) := by decide +kernel
theorem own_pd38 : parseMethodDescriptor "([CIILjava/lang/Void;)V" = some ⟨[(.array .char), .int, .int, (.object "java/lang/Void")], none⟩ := by decide +kernel
theorem d2_9 : decode jdk_42_method_3_code 9 = .ok (.return_, 1) := by decide +kernel
theorem ef_RR_2 (m : MethodId) (x0 : Addr) (x1 : Addr) : entryFrame m #[(.ref x0), (.ref x1)] 2 = mkF m 0 #[.val (.ref x0), .val (.ref x1)] [] := by first | (simp [entryFrame, mkF, argsToLocals, Value.category]; done) | rfl
set_option maxRecDepth 65536 in
set_option maxHeartbeats 40000000 in
theorem rmSCe (l : Launch) (Z : State) (a0 : Array Value) (hw : own_W a0 Z) (ws : List Jvm.Cond) (a1 a2 : Addr) (kc : ClassId) (h0 : Heap) (n0 : Nat) (Z0 : n0 ≤ h0.size) (E_a1 : Exa Z h0 a1 "java/lang/String") (F_v : Fld Z h0 a1 "java/lang/String" "value" "[B" .null) (F_c : Fld Z h0 a1 "java/lang/String" "coder" "B" (.int (0 : Int32))) (g_a1 : n0 ≤ a1) (V2 : Arv Z h0 a2 kc .char (0 : Int32) [] (.int (0 : Int32))) :
    MetFree l mn2 (head1 (Jvm.Cond.code mn2 jdk_42_method_3_code 2 none :: ws) (own_R 2 4 8 40)) (fun a U => a = #[(.ref a1), (.ref a2)] ∧ Z.Warmed39 U.vm ∧ U.heap = h0 ∧ CHv Z consts_1 U.vm h0) (fun _ _ _ _ _ => True) (fun _ U o U' => ∃ v L, o = .returned v ∧ own_Qsie Z a1 h0 n0 v U'.heap L ∧ CHr Z consts_1 U.vm U.heap U'.vm U'.heap ∧ ReturnedEndW U o U' L (own_R 2 4 8 40).cells (own_R 2 4 8 40).slots) := by
  refine MetFree.of_bodySF (plainFor_of_name own_pn16) hisR ?_
  intro p e s m args below meth c s₁ Bd hml0 hP hK
  obtain ⟨rfl, hZ, hh, hCH0⟩ := hP
  have hx := Bd.exec
  have hby := Bd.bytes
  have hlk := Bd.notSynchronized
  have hml : c.maxLocals = 2 := hml0
  have hown : s.vm.findClass "java/lang/String" = some m.cls := findClass_of_methodNamed Bd.named
  have hnm := (name_of_methodNamed Bd.named Bd.method).1
  have X0 : Stand p l e (own_R 2 4 8 40) (s.setVm s.vm) m #[(.ref a1), (.ref a2)] below meth c s₁ [] 0 0 := Stand.of_body Bd
  have e0 : s₁.heap = h0 := by rw [← hh, Bd.state]; rfl
  have N0 := Fr.nil n0
  refine own_startH (Q := own_Qsie Z a1 h0 n0) (C := (own_R 2 4 8 40).cells) (N := (own_R 2 4 8 40).slots) hh (ef_RR_2 m a1 a2 ) ?_
  have hS0 : s.Since s.vm h0.size := (State.WarmedH.refl s).since _
  have hk0 : h0.size ≤ h0.size := Nat.le_refl _
  replace hown : (s.setVm s.vm).vm.findClass "java/lang/String" = some m.cls := hown
  replace hZ : Z.Warmed39 (s.setVm s.vm).vm := hZ
  have CH0 : CHr Z consts_1 s.vm h0 s.vm h0 := CHr.refl hCH0
  show own_FinH _ _ _ _ _ _ _ _ _ _ s₁ (mkF m 0 #[Rv a1, Rv a2] [])
  have Kp19 : Keep h0 h0 [a1] := Keep.refl h0 _
  obtain ⟨cl20, Ar20, -, S20, M20, -, -⟩ := id V2
  refine own_byH (fun _ k => XS.aloadN X0.here hx rfl (hb hby d2_0) rfl rfl (XS.aloadN X0.here hx rfl (hb hby d2_1) rfl rfl (XS.iconst X0.here hx rfl (hb hby d2_2) (XS.aloadN X0.here hx rfl (hb hby d2_3) rfl rfl (X0.arraylength hx (by rw [e0]; exact Ar20.1) (State.isArrayOf_alike hZ.alike Ar20.2.1) (g := (mkF m 4 #[Rv a1, Rv a2] [(.ref a2), (.int 0), (.ref a2), (.ref a1)])) rfl rfl (hb hby d2_4) _ k))))) ?_
  rw [len_of S20 M20]
  show own_FinH _ _ _ _ _ _ _ _ _ _ s₁ (mkF m 5 #[Rv a1, Rv a2] [(.int 0), (.int 0), (.ref a2), (.ref a1)])
  obtain ⟨_, _, ⟨T21, L21, k21, n21⟩, -, X21, hSn21, hgr21, ⟨Lc21, hQ21, l21, y21, z21, hCr21⟩, st21⟩ := X0.specialBackS hx (y := mn1) rfl hown (mvT hZ (own_g hw 12 rfl)) (mvT hZ (own_g hw 13 rfl)) (mvT hZ (own_g hw 15 rfl)) (by decide) (backOfSH (W := 0) (s := s) (vm0 := s.vm) (rmSIe l Z a0 hw [] a1 a2 h0 n0 Z0 E_a1 F_v F_c g_a1) hZ (own_g hw 15 rfl) (own_g hw 8 rfl) (by decide) (by decide) (own_EW hw) CH0.1) (g := (mkF m 6 #[Rv a1, Rv a2] [.null, (.int 0), (.int 0), (.ref a2), (.ref a1)])) rfl (by rw [hml]; rfl) (Steps.refl _) (a := a1) (argsL := [(.ref a2), (.int (0 : Int32)), (.int (0 : Int32)), .null]) (rest := []) (lenOf own_pd38 rfl) rfl (own_z rfl) (hb hby d2_6) (fun _ _ => ⟨rfl, e0, (by decide : 0 + 4 ≤ _), (by decide : 0 + 8 ≤ _)⟩)
  dsimp only [Pt.U, Pt.locs, Pt.cells, Pt.slots] at X21 l21 y21 z21 st21 hQ21 hSn21 hgr21
  subst l21 y21 z21
  obtain ⟨b21, k21, rfl, Nq21, K21, Gc21, Gv21, V21⟩ := hQ21
  have N21 := Fr.app N0 Nq21
  have hS21 : s.Since T21.vm T21.heap.size := foldS (s := s) hS0 (by rw [e0]; exact hk0) hSn21 hgr21
  have hZ21 : Z.Warmed39 (s.setVm T21.vm).vm := State.Warmed39.trans (t := s.setVm s.vm) hZ hSn21.1
  have hown21 : (s.setVm T21.vm).vm.findClass "java/lang/String" = some m.cls := by rw [show (s.setVm T21.vm).vm = T21.vm from rfl, hSn21.1.alike.findClass]; exact hown
  replace hCr21 : CHr Z consts_1 s.vm h0 T21.vm T21.heap := hCr21
  have CHs22 : CHr Z consts_1 s.vm h0 T21.vm T21.heap := CH0.trans (hCr21)
  replace hZ := hZ21
  replace hown := hown21
  replace X21 : Stand p l e (own_R 2 4 8 40) (s.setVm T21.vm) m #[(.ref a1), (.ref a2)] below meth c T21 _ _ _ := X21
  have hkE21 : T21.heap.size ≤ T21.heap.size := Nat.le_refl _
  have Zs21 : n0 ≤ T21.heap.size := Nat.le_trans Z0 K21.1
  have Kp21 : Keep h0 T21.heap [a1] := Kp19.trans K21 (allS (Or.inl (List.mem_of_getElem? (i := 0) rfl)) all0)
  have f23_0 : Exa Z T21.heap a1 "java/lang/String" := E_a1.keep K21
  have CHe24 : CHr Z consts_1 s.vm h0 T21.vm T21.heap := CHs22.trans (CHv.at X21 hZ (own_EW hw) CHs22.1)
  refine own_byH (fun _ k => XS.aconstNull X0.here hx rfl (hb hby d2_5) (st21.trans k)) ?_
  exact own_retVH X21 hS21 hkE21 CHe24 hx hlk Bd.returns (hb hby d2_9) ⟨_, _, rfl, N21, Kp21, Gc21, Gv21, V21⟩ (by decide) (by decide)
theorem own_pn40 : plainName "java/lang/StringUTF16" = true := by first | (simp [plainName, overriddenIn]; done) | decide +kernel
theorem d21_0 : decode jdk_52_method_3_code 0 = .ok (.iload_n 0, 1) := by decide +kernel
theorem d21_1 : decode jdk_52_method_3_code 1 = .ok (.ifCond .ge 11, 3) := by decide +kernel
theorem d21_12 : decode jdk_52_method_3_code 12 = .ok (.iload_n 0, 1) := by decide +kernel
theorem d21_13 : decode jdk_52_method_3_code 13 = .ok (.ldc 20, 2) := by decide +kernel
theorem d21_15 : decode jdk_52_method_3_code 15 = .ok (.if_icmp .lt 40, 3) := by decide +kernel
theorem d21_55 : decode jdk_52_method_3_code 55 = .ok (.iload_n 0, 1) := by decide +kernel
theorem d21_56 : decode jdk_52_method_3_code 56 = .ok (.iconst 1, 1) := by decide +kernel
theorem d21_57 : decode jdk_52_method_3_code 57 = .ok (.ishl, 1) := by decide +kernel
theorem d21_58 : decode jdk_52_method_3_code 58 = .ok (.ireturn, 1) := by decide +kernel
def own_QrmNBL1 (h0 : Heap) (n0 : Nat) (v : Option Value) (h : Heap) (L : List Loc) : Prop := v = some (.int (2 : Int32)) ∧ Fr n0 L ∧ h = h0
set_option maxRecDepth 65536 in
set_option maxHeartbeats 40000000 in
theorem rmNBL1 (l : Launch) (Z : State) (a0 : Array Value) (hw : own_W a0 Z) (ws : List Jvm.Cond)  (h0 : Heap) (n0 : Nat) (Z0 : n0 ≤ h0.size)  : own_Met l Z mn3 jdk_52_method_3_code 1 (some .int) ws (own_R 0 0 0 0) #[(.int (1 : Int32))] h0 (own_QrmNBL1 h0 n0) := by
  refine own_enter n0 (plainFor_of_name own_pn40) (fun m => ef_I_1 m (1 : Int32) ) (fun p e s m below meth c s₁ hx hby hlk hml hret hown hnm hZ X0 e0 N0 => ?_)
  show own_Fin _ _ _ _ _ _ _ s₁ (mkF m 0 #[Iv 1] [])
  refine own_by (fun _ k => XS.iloadN X0.here hx rfl (hb hby d21_0) rfl (XS.ifYes X0.here hx rfl (pc0 := 1) (pc' := 12) rfl (hb hby d21_1) rfl ((if0 _ _).trans (flt (by decide : ¬ ((1 : Int32) < (0 : Int32)))).2.1) (by decide) (by decide) (XS.iloadN X0.here hx rfl (hb hby d21_12) rfl (X0.ldcInt hx hown (mvT hZ (own_g hw 94 rfl)) (g := (mkF m 13 #[Iv 1] [(.int 1)])) rfl (hb hby d21_13) _ (XS.icmpYes X0.here hx rfl (pc0 := 15) (pc' := 55) rfl (hb hby d21_15) rfl (tlt (by decide : (1 : Int32) < (1073741823 : Int32))).1 (by decide) (by decide) (XS.iloadN X0.here hx rfl (hb hby d21_55) rfl (XS.iconst X0.here hx rfl (hb hby d21_56) (XS.ishl X0.here hx rfl (hb hby d21_57) rfl k)))))))) ?_
  show own_Fin _ _ _ _ _ _ _ s₁ (mkF m 58 #[Iv 1] [(.int ((1 : Int32) <<< ((1 : Int32) &&& 31)))])
  rw [(by decide : ((1 : Int32) <<< ((1 : Int32) &&& 31)) = (2 : Int32))]
  show own_Fin _ _ _ _ _ _ _ s₁ (mkF m 58 #[Iv 1] [(.int 2)])
  exact own_retI X0 hx hlk hret (hb hby d21_58) ⟨rfl, N0, e0⟩ (by decide) (by decide)
theorem d20_0 : decode jdk_52_method_2_code 0 = .ok (.iload_n 0, 1) := by decide +kernel
theorem d20_1 : decode jdk_52_method_2_code 1 = .ok (.invokestatic 11, 3) := by decide +kernel
theorem own_pd52 : parseMethodDescriptor "(I)I" = some ⟨[.int], some .int⟩ := by decide +kernel
theorem d20_4 : decode jdk_52_method_2_code 4 = .ok (.newarray .byte, 2) := by decide +kernel
theorem d20_6 : decode jdk_52_method_2_code 6 = .ok (.areturn, 1) := by decide +kernel
def own_QNBF1 (Z : State) (h0 : Heap) (n0 : Nat) (v : Option Value) (h : Heap) (L : List Loc) : Prop := ∃ (a : Addr) (k : ClassId), v = some (.ref a) ∧ Fr n0 L ∧ Keep h0 h [] ∧ h0.size ≤ a ∧ Arv Z h a k .byte (2 : Int32) [(.int (0 : Int32)), (.int (0 : Int32))] (.int (0 : Int32))
set_option maxRecDepth 65536 in
set_option maxHeartbeats 40000000 in
theorem rmNBF1 (l : Launch) (Z : State) (a0 : Array Value) (hw : own_W a0 Z) (ws : List Jvm.Cond)  (h0 : Heap) (n0 : Nat) (Z0 : n0 ≤ h0.size)  : own_Met l Z mn4 jdk_52_method_2_code 1 (some (.array .byte)) ws (own_R 1 1 2 12) #[(.int (1 : Int32))] h0 (own_QNBF1 Z h0 n0) := by
  refine own_enter n0 (plainFor_of_name own_pn40) (fun m => ef_I_1 m (1 : Int32) ) (fun p e s m below meth c s₁ hx hby hlk hml hret hown hnm hZ X0 e0 N0 => ?_)
  show own_Fin _ _ _ _ _ _ _ s₁ (mkF m 0 #[Iv 1] [])
  have Kp25 : Keep h0 h0 [] := Keep.refl h0 _
  obtain ⟨_, _, ⟨T26, L26, k26, n26⟩, -, X26, ⟨Lc26, hQ26, l26, y26, z26⟩, st26⟩ := Jvm.LawKit.callS X0 hx (y := mn3) hown (mvT hZ (own_g hw 91 rfl)) (mvT hZ (own_g hw 92 rfl)) (mvT hZ (own_g hw 73 rfl)) (mvT hZ (own_g hw 93 rfl)) (by decide) (backOf (W := 0) (rmNBL1 l Z a0 hw []  h0 n0 Z0 ) hZ (own_g hw 93 rfl) (own_g hw 73 rfl) (by decide) (by decide)) (g := (mkF m 1 #[Iv 1] [(.int 1)])) rfl (by rw [hml]; rfl) (argsL := [(.int (1 : Int32))]) (rest := []) (lenOf own_pd52 rfl) rfl (own_z rfl) (hb hby d20_1) (fun _ _ => ⟨rfl, e0, (by decide : 0 + 0 ≤ _), (by decide : 0 + 0 ≤ _)⟩)
  dsimp only [Pt.U, Pt.locs, Pt.cells, Pt.slots] at X26 l26 y26 z26 st26 hQ26
  subst l26 y26 z26
  obtain ⟨rfl, Nq26, eh26⟩ := hQ26
  have N26 := Fr.app N0 Nq26
  obtain ⟨T27, h27, k27, X27, e27, E27, A27, st27⟩ := newP X26 hx hZ (own_g hw 20 rfl) eh26 (g := (mkF m 4 #[Iv 1] [(.int 2)])) rfl (hb hby d20_4) rfl (by decide) (cap := 2) (by decide) (by decide) (by decide) (by decide)
  obtain ⟨b27, g27⟩ : ∃ z, z = h0.size := ⟨_, rfl⟩
  rw [← g27] at A27 st27
  have V27 : Arv Z h27 b27 k27 .byte (2 : Int32) [(.int (0 : Int32)), (.int (0 : Int32))] (.int (0 : Int32)) := (Arv.new A27 (by decide)).pad (pad_rep [] (.int (0 : Int32)) 2)
  have gf27 : n0 ≤ b27 := Nat.le_trans Z0 (Nat.le_of_eq g27.symm)
  have Zs27 : n0 ≤ h27.size := Nat.le_trans Z0 E27.1
  have Kp27 : Keep h0 h27 [] := Kp25.ext E27
  have sz_b27 : h0.size ≤ b27 := Nat.le_trans Kp25.1 (Nat.le_of_eq g27.symm)
  refine own_by (fun _ k => XS.iloadN X0.here hx rfl (hb hby d20_0) rfl (st26 _ (st27 _ k))) ?_
  exact own_retA X27 hx hlk (t := (.array .byte)) hret rfl rfl rfl (hb hby d20_6) (by rw [e27]; exact ⟨_, _, rfl, N26, Kp27, sz_b27, V27⟩) (by decide) (by decide)
theorem d22_0 : decode jdk_52_method_4_code 0 = .ok (.getstatic 44, 3) := by decide +kernel
theorem d22_3 : decode jdk_52_method_4_code 3 = .ok (.ifCond .ne 25, 3) := by decide +kernel
theorem d22_28 : decode jdk_52_method_4_code 28 = .ok (.iload_n 1, 1) := by decide +kernel
theorem d22_29 : decode jdk_52_method_4_code 29 = .ok (.iconst 1, 1) := by decide +kernel
theorem d22_30 : decode jdk_52_method_4_code 30 = .ok (.ishl, 1) := by decide +kernel
theorem d22_31 : decode jdk_52_method_4_code 31 = .ok (.istore_n 1, 1) := by decide +kernel
theorem d22_32 : decode jdk_52_method_4_code 32 = .ok (.aload_n 0, 1) := by decide +kernel
theorem d22_33 : decode jdk_52_method_4_code 33 = .ok (.iload_n 1, 1) := by decide +kernel
theorem d22_34 : decode jdk_52_method_4_code 34 = .ok (.iinc 1 1, 3) := by decide +kernel
theorem d22_37 : decode jdk_52_method_4_code 37 = .ok (.iload_n 2, 1) := by decide +kernel
theorem d22_38 : decode jdk_52_method_4_code 38 = .ok (.getstatic 59, 3) := by decide +kernel
theorem d22_41 : decode jdk_52_method_4_code 41 = .ok (.ishr, 1) := by decide +kernel
theorem d22_42 : decode jdk_52_method_4_code 42 = .ok (.i2b, 1) := by decide +kernel
theorem d22_43 : decode jdk_52_method_4_code 43 = .ok (.bastore, 1) := by decide +kernel
theorem d22_44 : decode jdk_52_method_4_code 44 = .ok (.aload_n 0, 1) := by decide +kernel
theorem d22_45 : decode jdk_52_method_4_code 45 = .ok (.iload_n 1, 1) := by decide +kernel
theorem d22_46 : decode jdk_52_method_4_code 46 = .ok (.iload_n 2, 1) := by decide +kernel
theorem d22_47 : decode jdk_52_method_4_code 47 = .ok (.getstatic 63, 3) := by decide +kernel
theorem d22_50 : decode jdk_52_method_4_code 50 = .ok (.ishr, 1) := by decide +kernel
theorem d22_51 : decode jdk_52_method_4_code 51 = .ok (.i2b, 1) := by decide +kernel
theorem d22_52 : decode jdk_52_method_4_code 52 = .ok (.bastore, 1) := by decide +kernel
theorem d22_53 : decode jdk_52_method_4_code 53 = .ok (.return_, 1) := by decide +kernel
theorem ef_RII_3 (m : MethodId) (x0 : Addr) (x1 : Int32) (x2 : Int32) : entryFrame m #[(.ref x0), (.int x1), (.int x2)] 3 = mkF m 0 #[.val (.ref x0), .val (.int x1), .val (.int x2)] [] := by first | (simp [entryFrame, mkF, argsToLocals, Value.category]; done) | rfl
def own_QPC1_0 (Z : State) (a1 : Addr) (k1 : ClassId) (cc : Int32) (w0 w1 : Int32) (h0 : Heap) (n0 : Nat) (v : Option Value) (h : Heap) (L : List Loc) : Prop := v = none ∧ Fr n0 L ∧ Keep h0 h [a1] ∧ Arv Z h a1 k1 .byte (2 : Int32) [(.int (own_lo cc)), (.int (own_hi cc))] (.int (0 : Int32))
set_option maxRecDepth 65536 in
set_option maxHeartbeats 40000000 in
theorem rmPC1_0 (l : Launch) (Z : State) (a0 : Array Value) (hw : own_W a0 Z) (ws : List Jvm.Cond) (cs : Int32) (gS : Value) (a1 : Addr) (k1 : ClassId) (cc : Int32) (w0 w1 : Int32) (h0 : Heap) (n0 : Nat) (Z0 : n0 ≤ h0.size) (V_env : own_Env Z cs gS) (Od : Old Z n0 h0) (V1 : Arv Z h0 a1 k1 .byte (2 : Int32) [(.int w0), (.int w1)] (.int (0 : Int32))) (g_1 : n0 ≤ a1) : own_Met l Z mn5 jdk_52_method_4_code 3 none ws (own_R 0 0 0 0) #[(.ref a1), (.int (0 : Int32)), (.int cc)] h0 (own_QPC1_0 Z a1 k1 cc w0 w1 h0 n0) := by
  refine own_enter n0 (plainFor_of_name own_pn40) (fun m => ef_RII_3 m a1 (0 : Int32) cc ) (fun p e s m below meth c s₁ hx hby hlk hml hret hown hnm hZ X0 e0 N0 => ?_)
  show own_Fin _ _ _ _ _ _ _ s₁ (mkF m 0 #[Rv a1, Iv 0, Iv cc] [])
  have Kp29 : Keep h0 h0 [a1] := Keep.refl h0 _
  obtain ⟨T30, X30, e30, st30⟩ := getS2 X0 hx hZ hown (host := "") (Or.inl (own_g hw 98 rfl)) Via.refl e0 (V_env.1.ext Od.2) (g := (mkF m 0 #[Rv a1, Iv 0, Iv cc] [])) rfl (hb hby d22_0)
  refine own_by (fun _ k => st30 _ (XS.ifYes X30.here hx rfl (pc0 := 3) (pc' := 28) rfl (hb hby d22_3) rfl ((if0 _ _).trans (feq (by decide : ¬ ((1 : Int32) = (0 : Int32)))).2) (by decide) (by decide) (XS.iloadN X30.here hx rfl (hb hby d22_28) rfl (XS.iconst X30.here hx rfl (hb hby d22_29) (XS.ishl X30.here hx rfl (hb hby d22_30) rfl k))))) ?_
  show own_Fin _ _ _ _ _ _ _ T30 (mkF m 31 #[Rv a1, Iv 0, Iv cc] [(.int ((0 : Int32) <<< ((1 : Int32) &&& 31)))])
  rw [(by decide : ((0 : Int32) <<< ((1 : Int32) &&& 31)) = (0 : Int32))]
  show own_Fin _ _ _ _ _ _ _ T30 (mkF m 31 #[Rv a1, Iv 0, Iv cc] [(.int 0)])
  refine own_by (fun _ k => XS.istoreN X30.here hx rfl (hb hby d22_31) rfl (l' := #[Rv a1, Iv 0, Iv cc]) rfl (XS.aloadN X30.here hx rfl (hb hby d22_32) rfl rfl (XS.iloadN X30.here hx rfl (hb hby d22_33) rfl (XS.iinc X30.here hx rfl (hb hby d22_34) rfl (l' := #[Rv a1, Iv ((0 : Int32) + (1 : Int32)), Iv cc]) rfl k)))) ?_
  show own_Fin _ _ _ _ _ _ _ T30 (mkF m 37 #[Rv a1, Iv ((0 : Int32) + (1 : Int32)), Iv cc] [(.int 0), (.ref a1)])
  rw [(by decide : ((0 : Int32) + (1 : Int32)) = (1 : Int32))]
  show own_Fin _ _ _ _ _ _ _ T30 (mkF m 37 #[Rv a1, Iv 1, Iv cc] [(.int 0), (.ref a1)])
  obtain ⟨T31, X31, e31, st31⟩ := getS2 X30 hx hZ hown (host := "") (Or.inl (own_g hw 99 rfl)) Via.refl e30 (V_env.2.1.ext Od.2) (g := (mkF m 38 #[Rv a1, Iv 1, Iv cc] [(.int cc), (.int 0), (.ref a1)])) rfl (hb hby d22_38)
  obtain ⟨cl32, Ar32, q32, S32, M32, H32, G32⟩ := id V1
  have hin32 : ¬ ((0 : Int32) < 0 ∨ cl32.slots.size ≤ ((0 : Int32)).toNatClampNeg) := inb_of S32 ⟨by decide, by decide⟩
  obtain ⟨T32, h32, X32, e32, W32, st32⟩ := stB X31 hx hZ e31 Ar32 (j := (0 : Int32)) hin32 (g := (mkF m 43 #[Rv a1, Iv 1, Iv cc] [(.int ((cc >>> ((0 : Int32) &&& 31)).toInt8.toInt32)), (.int 0), (.ref a1)])) rfl rfl (hb hby d22_43)
  have V32 : Arv Z h32 a1 k1 .byte (2 : Int32) [(.int ((cc >>> ((0 : Int32) &&& 31)).toInt8.toInt32).toInt8.toInt32), (.int w1)] (.int (0 : Int32)) := Arv.set Ar32 q32 S32 M32 H32 G32 (fits_nar_byte _) W32 0 rfl (Nat.le_of_ble_eq_true rfl)
  have Kp32 : Keep h0 h32 [a1] := Kp29.wr W32 (Or.inl (List.mem_of_getElem? (i := 0) rfl))
  have Zs32 : n0 ≤ h32.size := Nat.le_trans Z0 (Keep.of_wr W32).1
  have N32 := Fr.snoc X32 N0 g_1
  have f33_0 : Old Z n0 h32 := Od.wr W32 g_1
  obtain ⟨T34, X34, e34, st34⟩ := getS2 X32 hx hZ hown (host := "") (Or.inl (own_g hw 100 rfl)) Via.refl e32 (V_env.2.2.1.ext f33_0.2) (g := (mkF m 47 #[Rv a1, Iv 1, Iv cc] [(.int cc), (.int 1), (.ref a1)])) rfl (hb hby d22_47)
  refine own_by (fun _ k => XS.iloadN X30.here hx rfl (hb hby d22_37) rfl (st31 _ (XS.ishr X31.here hx rfl (hb hby d22_41) rfl (XS.i2b X31.here hx rfl (hb hby d22_42) rfl (st32 _ (XS.aloadN X32.here hx rfl (hb hby d22_44) rfl rfl (XS.iloadN X32.here hx rfl (hb hby d22_45) rfl (XS.iloadN X32.here hx rfl (hb hby d22_46) rfl (st34 _ (XS.ishr X34.here hx rfl (hb hby d22_50) rfl k)))))))))) ?_
  show own_Fin _ _ _ _ _ _ _ T34 (mkF m 51 #[Rv a1, Iv 1, Iv cc] [(.int (cc >>> ((8 : Int32) &&& 31))), (.int 1), (.ref a1)])
  obtain ⟨cl35, Ar35, q35, S35, M35, H35, G35⟩ := id V32
  have hin35 : ¬ ((1 : Int32) < 0 ∨ cl35.slots.size ≤ ((1 : Int32)).toNatClampNeg) := inb_of S35 ⟨by decide, by decide⟩
  obtain ⟨T35, h35, X35, e35, W35, st35⟩ := stB X34 hx hZ e34 Ar35 (j := (1 : Int32)) hin35 (g := (mkF m 52 #[Rv a1, Iv 1, Iv cc] [(.int ((cc >>> ((8 : Int32) &&& 31)).toInt8.toInt32)), (.int 1), (.ref a1)])) rfl rfl (hb hby d22_52)
  have V35 : Arv Z h35 a1 k1 .byte (2 : Int32) [(.int ((cc >>> ((0 : Int32) &&& 31)).toInt8.toInt32).toInt8.toInt32), (.int ((cc >>> ((8 : Int32) &&& 31)).toInt8.toInt32).toInt8.toInt32)] (.int (0 : Int32)) := Arv.set Ar35 q35 S35 M35 H35 G35 (fits_nar_byte _) W35 1 rfl (Nat.le_of_ble_eq_true rfl)
  have Kp35 : Keep h0 h35 [a1] := Kp32.wr W35 (Or.inl (List.mem_of_getElem? (i := 0) rfl))
  have Zs35 : n0 ≤ h35.size := Nat.le_trans Zs32 (Keep.of_wr W35).1
  have N35 := Fr.snoc X35 N32 g_1
  have f36_0 : Old Z n0 h35 := f33_0.wr W35 g_1
  refine own_by (fun _ k => XS.i2b X34.here hx rfl (hb hby d22_51) rfl (st35 _ k)) ?_
  exact own_retV X35 hx hlk hret (hb hby d22_53) (by rw [e35]; exact ⟨rfl, N35, Kp35, (by have q := V35; simp only [own_b8] at q; exact q)⟩) (by decide) (by decide)
theorem d19_0 : decode jdk_52_method_14_code 0 = .ok (.iload_n 2, 1) := by decide +kernel
theorem d19_1 : decode jdk_52_method_14_code 1 = .ok (.invokestatic 107, 3) := by decide +kernel
theorem own_pd81 : parseMethodDescriptor "(I)[B" = some ⟨[.int], some (.array .byte)⟩ := by decide +kernel
theorem d19_4 : decode jdk_52_method_14_code 4 = .ok (.astore_n 3, 1) := by decide +kernel
theorem d19_5 : decode jdk_52_method_14_code 5 = .ok (.iconst 0, 1) := by decide +kernel
theorem d19_6 : decode jdk_52_method_14_code 6 = .ok (.istore 4, 2) := by decide +kernel
theorem d19_8 : decode jdk_52_method_14_code 8 = .ok (.iload 4, 2) := by decide +kernel
theorem d19_10 : decode jdk_52_method_14_code 10 = .ok (.iload_n 2, 1) := by decide +kernel
theorem d19_11 : decode jdk_52_method_14_code 11 = .ok (.if_icmp .ge 21, 3) := by decide +kernel
theorem d19_14 : decode jdk_52_method_14_code 14 = .ok (.aload_n 3, 1) := by decide +kernel
theorem d19_15 : decode jdk_52_method_14_code 15 = .ok (.iload 4, 2) := by decide +kernel
theorem d19_17 : decode jdk_52_method_14_code 17 = .ok (.aload_n 0, 1) := by decide +kernel
theorem d19_18 : decode jdk_52_method_14_code 18 = .ok (.iload_n 1, 1) := by decide +kernel
theorem d19_19 : decode jdk_52_method_14_code 19 = .ok (.caload, 1) := by decide +kernel
theorem d19_20 : decode jdk_52_method_14_code 20 = .ok (.invokestatic 111, 3) := by decide +kernel
theorem own_pd94 : parseMethodDescriptor "([BII)V" = some ⟨[(.array .byte), .int, .int], none⟩ := by decide +kernel
theorem d19_23 : decode jdk_52_method_14_code 23 = .ok (.iinc 1 1, 3) := by decide +kernel
theorem d19_26 : decode jdk_52_method_14_code 26 = .ok (.iinc 4 1, 3) := by decide +kernel
theorem d19_29 : decode jdk_52_method_14_code 29 = .ok (.goto (-21), 3) := by decide +kernel
theorem d19_32 : decode jdk_52_method_14_code 32 = .ok (.aload_n 3, 1) := by decide +kernel
theorem d19_33 : decode jdk_52_method_14_code 33 = .ok (.areturn, 1) := by decide +kernel
theorem ef_RII_5 (m : MethodId) (x0 : Addr) (x1 : Int32) (x2 : Int32) : entryFrame m #[(.ref x0), (.int x1), (.int x2)] 5 = mkF m 0 #[.val (.ref x0), .val (.int x1), .val (.int x2), .unset, .unset] [] := by first | (simp [entryFrame, mkF, argsToLocals, Value.category]; done) | rfl
def own_QTB1 (Z : State) (x0 : Int32) (h0 : Heap) (n0 : Nat) (v : Option Value) (h : Heap) (L : List Loc) : Prop := ∃ (a : Addr) (k : ClassId), v = some (.ref a) ∧ Fr n0 L ∧ Keep h0 h [] ∧ h0.size ≤ a ∧ Arv Z h a k .byte (2 : Int32) [(.int (own_lo x0)), (.int (own_hi x0))] (.int (0 : Int32))
set_option maxRecDepth 65536 in
set_option maxHeartbeats 40000000 in
theorem rmTB1 (l : Launch) (Z : State) (a0 : Array Value) (hw : own_W a0 Z) (ws : List Jvm.Cond) (cs : Int32) (gS : Value) (a1 : Addr) (kc : ClassId) (x0 : Int32) (h0 : Heap) (n0 : Nat) (Z0 : n0 ≤ h0.size) (V_env : own_Env Z cs gS) (Od : Old Z n0 h0) (V1 : Arv Z h0 a1 kc .char (1 : Int32) [(.int x0)] (.int (0 : Int32))) : own_Met l Z mn6 jdk_52_method_14_code 5 (some (.array .byte)) ws (own_R 2 1 2 24) #[(.ref a1), (.int (0 : Int32)), (.int (1 : Int32))] h0 (own_QTB1 Z x0 h0 n0) := by
  refine own_enter n0 (plainFor_of_name own_pn40) (fun m => ef_RII_5 m a1 (0 : Int32) (1 : Int32) ) (fun p e s m below meth c s₁ hx hby hlk hml hret hown hnm hZ X0 e0 N0 => ?_)
  show own_Fin _ _ _ _ _ _ _ s₁ (mkF m 0 #[Rv a1, Iv 0, Iv 1, Uv, Uv] [])
  have Kp37 : Keep h0 h0 [] := Keep.refl h0 _
  obtain ⟨_, _, ⟨T38, L38, k38, n38⟩, -, X38, ⟨Lc38, hQ38, l38, y38, z38⟩, st38⟩ := Jvm.LawKit.callS X0 hx (y := mn4) hown (mvT hZ (own_g hw 88 rfl)) (mvT hZ (own_g hw 89 rfl)) (mvT hZ (own_g hw 73 rfl)) (mvT hZ (own_g hw 90 rfl)) (by decide) (backOf (W := 0) (rmNBF1 l Z a0 hw []  h0 n0 Z0 ) hZ (own_g hw 90 rfl) (own_g hw 73 rfl) (by decide) (by decide)) (g := (mkF m 1 #[Rv a1, Iv 0, Iv 1, Uv, Uv] [(.int 1)])) rfl (by rw [hml]; rfl) (argsL := [(.int (1 : Int32))]) (rest := []) (lenOf own_pd81 rfl) rfl (own_z rfl) (hb hby d19_1) (fun _ _ => ⟨rfl, e0, (by decide : 0 + 1 ≤ _), (by decide : 0 + 2 ≤ _)⟩)
  dsimp only [Pt.U, Pt.locs, Pt.cells, Pt.slots] at X38 l38 y38 z38 st38 hQ38
  subst l38 y38 z38
  obtain ⟨b38, k38, rfl, Nq38, K38, ge38, V38⟩ := hQ38
  have N38 := Fr.app N0 Nq38
  have Zs38 : n0 ≤ T38.heap.size := Nat.le_trans Z0 K38.1
  have Kp38 : Keep h0 T38.heap [] := Kp37.trans K38 all0
  have f39_0 : Old Z n0 T38.heap := Od.keep K38 all0
  have f39_1 : Arv Z T38.heap a1 kc .char (1 : Int32) [(.int x0)] (.int (0 : Int32)) := V1.keep K38 nin0
  have ne38_a1 : a1 ≠ b38 := Nat.ne_of_lt (Nat.lt_of_lt_of_le V1.lt ge38)
  have gf38 : n0 ≤ b38 := Nat.le_trans Z0 ge38
  have sz_b38 : h0.size ≤ b38 := Nat.le_trans Kp37.1 ge38
  refine own_by (fun _ k => XS.iloadN X0.here hx rfl (hb hby d19_0) rfl (st38 _ (XS.astoreN X38.here hx rfl (hb hby d19_4) rfl rfl (l' := #[Rv a1, Iv 0, Iv 1, Rv b38, Uv]) rfl (XS.iconst X38.here hx rfl (hb hby d19_5) (XS.istore X38.here hx rfl (hb hby d19_6) rfl (l' := #[Rv a1, Iv 0, Iv 1, Rv b38, Iv 0]) rfl (XS.iload X38.here hx rfl (hb hby d19_8) rfl (XS.iloadN X38.here hx rfl (hb hby d19_10) rfl (XS.icmpNo X38.here hx rfl (hb hby d19_11) rfl (tlt (by decide : (0 : Int32) < (1 : Int32))).2.1 (XS.aloadN X38.here hx rfl (hb hby d19_14) rfl rfl (XS.iload X38.here hx rfl (hb hby d19_15) rfl k)))))))))) ?_
  show own_Fin _ _ _ _ _ _ _ T38 (mkF m 17 #[Rv a1, Iv 0, Iv 1, Rv b38, Iv 0] [(.int 0), (.ref b38)])
  obtain ⟨cl40, Ar40, -, S40, M40, H40, -⟩ := id f39_1
  have hin40 : ¬ ((0 : Int32) < 0 ∨ cl40.slots.size ≤ ((0 : Int32)).toNatClampNeg) := inb_of S40 ⟨by decide, by decide⟩
  have hat40 : cl40.slots[((0 : Int32)).toNatClampNeg]? = some (.int x0) := Has.at H40 hin40 rfl
  obtain ⟨_, _, ⟨T41, L41, k41, n41⟩, -, X41, ⟨Lc41, hQ41, l41, y41, z41⟩, st41⟩ := Jvm.LawKit.callS X38 hx (y := mn5) hown (mvT hZ (own_g hw 95 rfl)) (mvT hZ (own_g hw 96 rfl)) (mvT hZ (own_g hw 73 rfl)) (mvT hZ (own_g hw 97 rfl)) (by decide) (backOf (W := 0) (rmPC1_0 l Z a0 hw [] cs gS b38 k38 x0 (0 : Int32) (0 : Int32) T38.heap n0 Zs38 V_env f39_0 V38 gf38) hZ (own_g hw 97 rfl) (own_g hw 73 rfl) (by decide) (by decide)) (g := (mkF m 20 #[Rv a1, Iv 0, Iv 1, Rv b38, Iv 0] [(.int x0), (.int 0), (.ref b38)])) rfl (by rw [hml]; rfl) (argsL := [(.ref b38), (.int (0 : Int32)), (.int x0)]) (rest := []) (lenOf own_pd94 rfl) rfl (own_z rfl) (hb hby d19_20) (fun _ _ => ⟨rfl, rfl, (by decide : 1 + 0 ≤ _), (by decide : 2 + 0 ≤ _)⟩)
  dsimp only [Pt.U, Pt.locs, Pt.cells, Pt.slots] at X41 l41 y41 z41 st41 hQ41
  subst l41 y41 z41
  obtain ⟨rfl, Nq41, K41, Vr41⟩ := hQ41
  have N41 := Fr.app N38 Nq41
  have Zs41 : n0 ≤ T41.heap.size := Nat.le_trans Zs38 K41.1
  have Kp41 : Keep h0 T41.heap [] := Kp38.trans K41 (allS (Or.inr sz_b38) all0)
  have f42_0 : Old Z n0 T41.heap := f39_0.keep K41 (allS gf38 all0)
  have f42_1 : Arv Z T41.heap a1 kc .char (1 : Int32) [(.int x0)] (.int (0 : Int32)) := f39_1.keep K41 (ninS ne38_a1 nin0)
  refine own_by (fun _ k => XS.aloadN X38.here hx rfl (hb hby d19_17) rfl rfl (XS.iloadN X38.here hx rfl (hb hby d19_18) rfl (X38.caload hx (j := (0 : Int32)) (v := (.int x0)) Ar40.1 (State.isArrayOf_alike hZ.alike Ar40.2.1) Ar40.2.2 hin40 hat40 (g := (mkF m 19 #[Rv a1, Iv 0, Iv 1, Rv b38, Iv 0] [(.int 0), (.ref a1), (.int 0), (.ref b38)])) rfl rfl (hb hby d19_19) _ (st41 _ (XS.iinc X41.here hx rfl (hb hby d19_23) rfl (l' := #[Rv a1, Iv ((0 : Int32) + (1 : Int32)), Iv 1, Rv b38, Iv 0]) rfl k))))) ?_
  show own_Fin _ _ _ _ _ _ _ T41 (mkF m 26 #[Rv a1, Iv ((0 : Int32) + (1 : Int32)), Iv 1, Rv b38, Iv 0] [])
  rw [(by decide : ((0 : Int32) + (1 : Int32)) = (1 : Int32))]
  show own_Fin _ _ _ _ _ _ _ T41 (mkF m 26 #[Rv a1, Iv 1, Iv 1, Rv b38, Iv 0] [])
  refine own_by (fun _ k => XS.iinc X41.here hx rfl (hb hby d19_26) rfl (l' := #[Rv a1, Iv 1, Iv 1, Rv b38, Iv ((0 : Int32) + (1 : Int32))]) rfl k) ?_
  show own_Fin _ _ _ _ _ _ _ T41 (mkF m 29 #[Rv a1, Iv 1, Iv 1, Rv b38, Iv ((0 : Int32) + (1 : Int32))] [])
  rw [(by decide : ((0 : Int32) + (1 : Int32)) = (1 : Int32))]
  show own_Fin _ _ _ _ _ _ _ T41 (mkF m 29 #[Rv a1, Iv 1, Iv 1, Rv b38, Iv 1] [])
  refine own_by (fun _ k => XS.goto X41.here hx rfl (pc0 := 29) (pc' := 8) rfl (hb hby d19_29) (by decide) (by decide) (XS.iload X41.here hx rfl (hb hby d19_8) rfl (XS.iloadN X41.here hx rfl (hb hby d19_10) rfl (XS.icmpYes X41.here hx rfl (pc0 := 11) (pc' := 32) rfl (hb hby d19_11) rfl (flt (by decide : ¬ ((1 : Int32) < (1 : Int32)))).2.1 (by decide) (by decide) (XS.aloadN X41.here hx rfl (hb hby d19_32) rfl rfl k))))) ?_
  exact own_retA X41 hx hlk (t := (.array .byte)) hret rfl rfl rfl (hb hby d19_33) ⟨_, _, rfl, N41, Kp41, sz_b38, Vr41⟩ (by decide) (by decide)
theorem d23_0 : decode jdk_52_method_5_code 0 = .ok (.getstatic 44, 3) := by decide +kernel
theorem d23_3 : decode jdk_52_method_5_code 3 = .ok (.ifCond .ne 25, 3) := by decide +kernel
theorem d23_28 : decode jdk_52_method_5_code 28 = .ok (.iload_n 1, 1) := by decide +kernel
theorem d23_29 : decode jdk_52_method_5_code 29 = .ok (.iconst 1, 1) := by decide +kernel
theorem d23_30 : decode jdk_52_method_5_code 30 = .ok (.ishl, 1) := by decide +kernel
theorem d23_31 : decode jdk_52_method_5_code 31 = .ok (.istore_n 1, 1) := by decide +kernel
theorem d23_32 : decode jdk_52_method_5_code 32 = .ok (.aload_n 0, 1) := by decide +kernel
theorem d23_33 : decode jdk_52_method_5_code 33 = .ok (.iload_n 1, 1) := by decide +kernel
theorem d23_34 : decode jdk_52_method_5_code 34 = .ok (.iinc 1 1, 3) := by decide +kernel
theorem d23_37 : decode jdk_52_method_5_code 37 = .ok (.baload, 1) := by decide +kernel
theorem d23_38 : decode jdk_52_method_5_code 38 = .ok (.sipush 255, 3) := by decide +kernel
theorem d23_41 : decode jdk_52_method_5_code 41 = .ok (.iand, 1) := by decide +kernel
theorem d23_42 : decode jdk_52_method_5_code 42 = .ok (.getstatic 59, 3) := by decide +kernel
theorem d23_45 : decode jdk_52_method_5_code 45 = .ok (.ishl, 1) := by decide +kernel
theorem d23_46 : decode jdk_52_method_5_code 46 = .ok (.aload_n 0, 1) := by decide +kernel
theorem d23_47 : decode jdk_52_method_5_code 47 = .ok (.iload_n 1, 1) := by decide +kernel
theorem d23_48 : decode jdk_52_method_5_code 48 = .ok (.baload, 1) := by decide +kernel
theorem d23_49 : decode jdk_52_method_5_code 49 = .ok (.sipush 255, 3) := by decide +kernel
theorem d23_52 : decode jdk_52_method_5_code 52 = .ok (.iand, 1) := by decide +kernel
theorem d23_53 : decode jdk_52_method_5_code 53 = .ok (.getstatic 63, 3) := by decide +kernel
theorem d23_56 : decode jdk_52_method_5_code 56 = .ok (.ishl, 1) := by decide +kernel
theorem d23_57 : decode jdk_52_method_5_code 57 = .ok (.ior, 1) := by decide +kernel
theorem d23_58 : decode jdk_52_method_5_code 58 = .ok (.i2c, 1) := by decide +kernel
theorem d23_59 : decode jdk_52_method_5_code 59 = .ok (.ireturn, 1) := by decide +kernel
theorem ef_RI_2 (m : MethodId) (x0 : Addr) (x1 : Int32) : entryFrame m #[(.ref x0), (.int x1)] 2 = mkF m 0 #[.val (.ref x0), .val (.int x1)] [] := by first | (simp [entryFrame, mkF, argsToLocals, Value.category]; done) | rfl
def own_QrmGC1_0 (x0 : Int32) (h0 : Heap) (n0 : Nat) (v : Option Value) (h : Heap) (L : List Loc) : Prop := v = some (.int x0) ∧ Fr n0 L ∧ h = h0
set_option maxRecDepth 65536 in
set_option maxHeartbeats 40000000 in
theorem rmGC1_0 (l : Launch) (Z : State) (a0 : Array Value) (hw : own_W a0 Z) (ws : List Jvm.Cond) (cs : Int32) (gS : Value) (a1 : Addr) (k1 : ClassId) (x0 : Int32) (h0 : Heap) (n0 : Nat) (Z0 : n0 ≤ h0.size) (V_env : own_Env Z cs gS) (Od : Old Z n0 h0) (V1 : Arv Z h0 a1 k1 .byte (2 : Int32) [(.int (own_lo x0)), (.int (own_hi x0))] (.int (0 : Int32))) (hch : own_ch x0) : own_Met l Z mn7 jdk_52_method_5_code 2 (some .char) ws (own_R 0 0 0 0) #[(.ref a1), (.int (0 : Int32))] h0 (own_QrmGC1_0 x0 h0 n0) := by
  refine own_enter n0 (plainFor_of_name own_pn40) (fun m => ef_RI_2 m a1 (0 : Int32) ) (fun p e s m below meth c s₁ hx hby hlk hml hret hown hnm hZ X0 e0 N0 => ?_)
  show own_Fin _ _ _ _ _ _ _ s₁ (mkF m 0 #[Rv a1, Iv 0] [])
  obtain ⟨T43, X43, e43, st43⟩ := getS2 X0 hx hZ hown (host := "") (Or.inl (own_g hw 98 rfl)) Via.refl e0 (V_env.1.ext Od.2) (g := (mkF m 0 #[Rv a1, Iv 0] [])) rfl (hb hby d23_0)
  refine own_by (fun _ k => st43 _ (XS.ifYes X43.here hx rfl (pc0 := 3) (pc' := 28) rfl (hb hby d23_3) rfl ((if0 _ _).trans (feq (by decide : ¬ ((1 : Int32) = (0 : Int32)))).2) (by decide) (by decide) (XS.iloadN X43.here hx rfl (hb hby d23_28) rfl (XS.iconst X43.here hx rfl (hb hby d23_29) (XS.ishl X43.here hx rfl (hb hby d23_30) rfl k))))) ?_
  show own_Fin _ _ _ _ _ _ _ T43 (mkF m 31 #[Rv a1, Iv 0] [(.int ((0 : Int32) <<< ((1 : Int32) &&& 31)))])
  rw [(by decide : ((0 : Int32) <<< ((1 : Int32) &&& 31)) = (0 : Int32))]
  show own_Fin _ _ _ _ _ _ _ T43 (mkF m 31 #[Rv a1, Iv 0] [(.int 0)])
  refine own_by (fun _ k => XS.istoreN X43.here hx rfl (hb hby d23_31) rfl (l' := #[Rv a1, Iv 0]) rfl (XS.aloadN X43.here hx rfl (hb hby d23_32) rfl rfl (XS.iloadN X43.here hx rfl (hb hby d23_33) rfl (XS.iinc X43.here hx rfl (hb hby d23_34) rfl (l' := #[Rv a1, Iv ((0 : Int32) + (1 : Int32))]) rfl k)))) ?_
  show own_Fin _ _ _ _ _ _ _ T43 (mkF m 37 #[Rv a1, Iv ((0 : Int32) + (1 : Int32))] [(.int 0), (.ref a1)])
  rw [(by decide : ((0 : Int32) + (1 : Int32)) = (1 : Int32))]
  show own_Fin _ _ _ _ _ _ _ T43 (mkF m 37 #[Rv a1, Iv 1] [(.int 0), (.ref a1)])
  obtain ⟨cl44, Ar44, -, S44, M44, H44, -⟩ := id V1
  have hin44 : ¬ ((0 : Int32) < 0 ∨ cl44.slots.size ≤ ((0 : Int32)).toNatClampNeg) := inb_of S44 ⟨by decide, by decide⟩
  have hat44 : cl44.slots[((0 : Int32)).toNatClampNeg]? = some (.int (own_lo x0)) := Has.at H44 hin44 rfl
  obtain ⟨T45, X45, e45, st45⟩ := getS2 X43 hx hZ hown (host := "") (Or.inl (own_g hw 99 rfl)) Via.refl e43 (V_env.2.1.ext Od.2) (g := (mkF m 42 #[Rv a1, Iv 1] [(.int ((own_lo x0) &&& (255 : Int32)))])) rfl (hb hby d23_42)
  obtain ⟨cl46, Ar46, -, S46, M46, H46, -⟩ := id V1
  have hin46 : ¬ ((1 : Int32) < 0 ∨ cl46.slots.size ≤ ((1 : Int32)).toNatClampNeg) := inb_of S46 ⟨by decide, by decide⟩
  have hat46 : cl46.slots[((1 : Int32)).toNatClampNeg]? = some (.int (own_hi x0)) := Has.at H46 hin46 rfl
  obtain ⟨T47, X47, e47, st47⟩ := getS2 X45 hx hZ hown (host := "") (Or.inl (own_g hw 100 rfl)) Via.refl e45 (V_env.2.2.1.ext Od.2) (g := (mkF m 53 #[Rv a1, Iv 1] [(.int ((own_hi x0) &&& (255 : Int32))), (.int (((own_lo x0) &&& (255 : Int32)) <<< ((0 : Int32) &&& 31)))])) rfl (hb hby d23_53)
  refine own_by (fun _ k => X43.baloadBytes hx (j := (0 : Int32)) (v := (.int (own_lo x0))) (by rw [e43]; exact Ar44.1) (State.isArrayOf_alike hZ.alike Ar44.2.1) Ar44.2.2 hin44 hat44 (g := (mkF m 37 #[Rv a1, Iv 1] [(.int 0), (.ref a1)])) rfl rfl (hb hby d23_37) _ (XS.sipush X43.here hx rfl (hb hby d23_38) (XS.iand X43.here hx rfl (hb hby d23_41) rfl (st45 _ (XS.ishl X45.here hx rfl (hb hby d23_45) rfl (XS.aloadN X45.here hx rfl (hb hby d23_46) rfl rfl (XS.iloadN X45.here hx rfl (hb hby d23_47) rfl (X45.baloadBytes hx (j := (1 : Int32)) (v := (.int (own_hi x0))) (by rw [e45]; exact Ar46.1) (State.isArrayOf_alike hZ.alike Ar46.2.1) Ar46.2.2 hin46 hat46 (g := (mkF m 48 #[Rv a1, Iv 1] [(.int 1), (.ref a1), (.int (((own_lo x0) &&& (255 : Int32)) <<< ((0 : Int32) &&& 31)))])) rfl rfl (hb hby d23_48) _ (XS.sipush X45.here hx rfl (hb hby d23_49) (XS.iand X45.here hx rfl (hb hby d23_52) rfl k)))))))))) ?_
  show own_Fin _ _ _ _ _ _ _ T45 (mkF m 53 #[Rv a1, Iv 1] [(.int ((own_hi x0) &&& (255 : Int32))), (.int (((own_lo x0) &&& (255 : Int32)) <<< ((0 : Int32) &&& 31)))])
  refine own_by (fun _ k => st47 _ (XS.ishl X47.here hx rfl (hb hby d23_56) rfl (XS.ior X47.here hx rfl (hb hby d23_57) rfl (XS.i2c X47.here hx rfl (hb hby d23_58) rfl k)))) ?_
  exact own_retZ X47 hx hlk (t := .char) hret (by simp) (hb hby d23_59) ⟨own_vi (own_u16 hch), N0, e47⟩ (by decide) (by decide)
def own_bad1 (r : Int32) (x0 : Int32) : Prop := (r = (0 : Int32) ∧ (255 : Int32) < x0)
theorem d16_0 : decode jdk_52_method_21_code 0 = .ok (.iconst 0, 1) := by decide +kernel
theorem d16_1 : decode jdk_52_method_21_code 1 = .ok (.istore 5, 2) := by decide +kernel
theorem d16_3 : decode jdk_52_method_21_code 3 = .ok (.iload 5, 2) := by decide +kernel
theorem d16_5 : decode jdk_52_method_21_code 5 = .ok (.iload 4, 2) := by decide +kernel
theorem d16_7 : decode jdk_52_method_21_code 7 = .ok (.if_icmp .ge 37, 3) := by decide +kernel
theorem d16_10 : decode jdk_52_method_21_code 10 = .ok (.aload_n 0, 1) := by decide +kernel
theorem d16_11 : decode jdk_52_method_21_code 11 = .ok (.iload_n 1, 1) := by decide +kernel
theorem d16_12 : decode jdk_52_method_21_code 12 = .ok (.caload, 1) := by decide +kernel
theorem d16_13 : decode jdk_52_method_21_code 13 = .ok (.istore 6, 2) := by decide +kernel
theorem d16_15 : decode jdk_52_method_21_code 15 = .ok (.iload 6, 2) := by decide +kernel
theorem d16_17 : decode jdk_52_method_21_code 17 = .ok (.sipush 255, 3) := by decide +kernel
theorem d16_20 : decode jdk_52_method_21_code 20 = .ok (.if_icmp .le 6, 3) := by decide +kernel
theorem d16_23 : decode jdk_52_method_21_code 23 = .ok (.iload 5, 2) := by decide +kernel
theorem d16_25 : decode jdk_52_method_21_code 25 = .ok (.ireturn, 1) := by decide +kernel
theorem d16_26 : decode jdk_52_method_21_code 26 = .ok (.aload_n 2, 1) := by decide +kernel
theorem d16_27 : decode jdk_52_method_21_code 27 = .ok (.iload_n 3, 1) := by decide +kernel
theorem d16_28 : decode jdk_52_method_21_code 28 = .ok (.iload 6, 2) := by decide +kernel
theorem d16_30 : decode jdk_52_method_21_code 30 = .ok (.i2b, 1) := by decide +kernel
theorem d16_31 : decode jdk_52_method_21_code 31 = .ok (.bastore, 1) := by decide +kernel
theorem d16_32 : decode jdk_52_method_21_code 32 = .ok (.iinc 1 1, 3) := by decide +kernel
theorem d16_35 : decode jdk_52_method_21_code 35 = .ok (.iinc 3 1, 3) := by decide +kernel
theorem d16_38 : decode jdk_52_method_21_code 38 = .ok (.iinc 5 1, 3) := by decide +kernel
theorem d16_41 : decode jdk_52_method_21_code 41 = .ok (.goto (-38), 3) := by decide +kernel
theorem d16_44 : decode jdk_52_method_21_code 44 = .ok (.iload 4, 2) := by decide +kernel
theorem d16_46 : decode jdk_52_method_21_code 46 = .ok (.ireturn, 1) := by decide +kernel
theorem ef_RIRII_7 (m : MethodId) (x0 : Addr) (x1 : Int32) (x2 : Addr) (x3 : Int32) (x4 : Int32) : entryFrame m #[(.ref x0), (.int x1), (.ref x2), (.int x3), (.int x4)] 7 = mkF m 0 #[.val (.ref x0), .val (.int x1), .val (.ref x2), .val (.int x3), .val (.int x4), .unset, .unset] [] := by first | (simp [entryFrame, mkF, argsToLocals, Value.category]; done) | rfl
def own_QXI1 (Z : State) (a3 : Addr) (kb : ClassId) (x0 : Int32) (h0 : Heap) (n0 : Nat) (v : Option Value) (h : Heap) (L : List Loc) : Prop := ∃ r : Int32, v = some (.int r) ∧ Fr n0 L ∧ Keep h0 h [a3] ∧ ((r = (1 : Int32) ∧ Arv Z h a3 kb .byte (1 : Int32) [(.int x0.toInt8.toInt32)] (.int (0 : Int32)) ∧ ¬ (255 : Int32) < x0) ∨ own_bad1 r x0)
set_option maxRecDepth 65536 in
set_option maxHeartbeats 40000000 in
theorem rmXI1 (l : Launch) (Z : State) (a0 : Array Value) (hw : own_W a0 Z) (ws : List Jvm.Cond) (a1 a3 : Addr) (kc kb : ClassId) (x0 : Int32) (h0 : Heap) (n0 : Nat) (Z0 : n0 ≤ h0.size) (V1 : Arv Z h0 a1 kc .char (1 : Int32) [(.int x0)] (.int (0 : Int32))) (V3 : Arv Z h0 a3 kb .byte (1 : Int32) [(.int (0 : Int32))] (.int (0 : Int32))) (ne13 : a1 ≠ a3) (g_3 : n0 ≤ a3) : own_Met l Z mn8 jdk_52_method_21_code 7 (some .int) ws (own_R 0 0 0 0) #[(.ref a1), (.int (0 : Int32)), (.ref a3), (.int (0 : Int32)), (.int (1 : Int32))] h0 (own_QXI1 Z a3 kb x0 h0 n0) := by
  refine own_enter n0 (plainFor_of_name own_pn40) (fun m => ef_RIRII_7 m a1 (0 : Int32) a3 (0 : Int32) (1 : Int32) ) (fun p e s m below meth c s₁ hx hby hlk hml hret hown hnm hZ X0 e0 N0 => ?_)
  show own_Fin _ _ _ _ _ _ _ s₁ (mkF m 0 #[Rv a1, Iv 0, Rv a3, Iv 0, Iv 1, Uv, Uv] [])
  have Kp48 : Keep h0 h0 [a3] := Keep.refl h0 _
  obtain ⟨cl49, Ar49, -, S49, M49, H49, -⟩ := id V1
  have hin49 : ¬ ((0 : Int32) < 0 ∨ cl49.slots.size ≤ ((0 : Int32)).toNatClampNeg) := inb_of S49 ⟨by decide, by decide⟩
  have hat49 : cl49.slots[((0 : Int32)).toNatClampNeg]? = some (.int x0) := Has.at H49 hin49 rfl
  refine own_by (fun _ k => XS.iconst X0.here hx rfl (hb hby d16_0) (XS.istore X0.here hx rfl (hb hby d16_1) rfl (l' := #[Rv a1, Iv 0, Rv a3, Iv 0, Iv 1, Iv 0, Uv]) rfl (XS.iload X0.here hx rfl (hb hby d16_3) rfl (XS.iload X0.here hx rfl (hb hby d16_5) rfl (XS.icmpNo X0.here hx rfl (hb hby d16_7) rfl (tlt (by decide : (0 : Int32) < (1 : Int32))).2.1 (XS.aloadN X0.here hx rfl (hb hby d16_10) rfl rfl (XS.iloadN X0.here hx rfl (hb hby d16_11) rfl (X0.caload hx (j := (0 : Int32)) (v := (.int x0)) (by rw [e0]; exact Ar49.1) (State.isArrayOf_alike hZ.alike Ar49.2.1) Ar49.2.2 hin49 hat49 (g := (mkF m 12 #[Rv a1, Iv 0, Rv a3, Iv 0, Iv 1, Iv 0, Uv] [(.int 0), (.ref a1)])) rfl rfl (hb hby d16_12) _ (XS.istore X0.here hx rfl (hb hby d16_13) rfl (l' := #[Rv a1, Iv 0, Rv a3, Iv 0, Iv 1, Iv 0, Iv x0]) rfl (XS.iload X0.here hx rfl (hb hby d16_15) rfl k)))))))))) ?_
  show own_Fin _ _ _ _ _ _ _ s₁ (mkF m 17 #[Rv a1, Iv 0, Rv a3, Iv 0, Iv 1, Iv 0, Iv x0] [(.int x0)])
  refine own_by (fun _ k => XS.sipush X0.here hx rfl (hb hby d16_17) k) ?_
  show own_Fin _ _ _ _ _ _ _ s₁ (mkF m 20 #[Rv a1, Iv 0, Rv a3, Iv 0, Iv 1, Iv 0, Iv x0] [(.int 255), (.int x0)])
  by_cases hc20_50 : (255 : Int32) < x0
  · show own_Fin _ _ _ _ _ _ _ s₁ (mkF m 20 #[Rv a1, Iv 0, Rv a3, Iv 0, Iv 1, Iv 0, Iv x0] [(.int 255), (.int x0)])
    refine own_by (fun _ k => XS.icmpNo X0.here hx rfl (hb hby d16_20) rfl (tlt hc20_50).2.2.2 (XS.iload X0.here hx rfl (hb hby d16_23) rfl k)) ?_
    exact own_retI X0 hx hlk hret (hb hby d16_25) (by rw [e0]; exact ⟨_, rfl, N0, Kp48, Or.inr ⟨rfl, hc20_50⟩⟩) (by decide) (by decide)
  · show own_Fin _ _ _ _ _ _ _ s₁ (mkF m 20 #[Rv a1, Iv 0, Rv a3, Iv 0, Iv 1, Iv 0, Iv x0] [(.int 255), (.int x0)])
    obtain ⟨cl51, Ar51, q51, S51, M51, H51, G51⟩ := id V3
    have hin51 : ¬ ((0 : Int32) < 0 ∨ cl51.slots.size ≤ ((0 : Int32)).toNatClampNeg) := inb_of S51 ⟨by decide, by decide⟩
    obtain ⟨T51, h51, X51, e51, W51, st51⟩ := stB X0 hx hZ e0 Ar51 (j := (0 : Int32)) hin51 (g := (mkF m 31 #[Rv a1, Iv 0, Rv a3, Iv 0, Iv 1, Iv 0, Iv x0] [(.int (x0.toInt8.toInt32)), (.int 0), (.ref a3)])) rfl rfl (hb hby d16_31)
    have V51 : Arv Z h51 a3 kb .byte (1 : Int32) [(.int (x0.toInt8.toInt32).toInt8.toInt32)] (.int (0 : Int32)) := Arv.set Ar51 q51 S51 M51 H51 G51 (fits_nar_byte _) W51 0 rfl (Nat.le_of_ble_eq_true rfl)
    have Kp51 : Keep h0 h51 [a3] := Kp48.wr W51 (Or.inl (List.mem_of_getElem? (i := 0) rfl))
    have Zs51 : n0 ≤ h51.size := Nat.le_trans Z0 (Keep.of_wr W51).1
    have N51 := Fr.snoc X51 N0 g_3
    have f52_0 : Arv Z h51 a1 kc .char (1 : Int32) [(.int x0)] (.int (0 : Int32)) := V1.other W51 ne13
    refine own_by (fun _ k => XS.icmpYes X0.here hx rfl (pc0 := 20) (pc' := 26) rfl (hb hby d16_20) rfl (flt hc20_50).2.2.2 (by decide) (by decide) (XS.aloadN X0.here hx rfl (hb hby d16_26) rfl rfl (XS.iloadN X0.here hx rfl (hb hby d16_27) rfl (XS.iload X0.here hx rfl (hb hby d16_28) rfl (XS.i2b X0.here hx rfl (hb hby d16_30) rfl (st51 _ (XS.iinc X51.here hx rfl (hb hby d16_32) rfl (l' := #[Rv a1, Iv ((0 : Int32) + (1 : Int32)), Rv a3, Iv 0, Iv 1, Iv 0, Iv x0]) rfl k))))))) ?_
    show own_Fin _ _ _ _ _ _ _ T51 (mkF m 35 #[Rv a1, Iv ((0 : Int32) + (1 : Int32)), Rv a3, Iv 0, Iv 1, Iv 0, Iv x0] [])
    rw [(by decide : ((0 : Int32) + (1 : Int32)) = (1 : Int32))]
    show own_Fin _ _ _ _ _ _ _ T51 (mkF m 35 #[Rv a1, Iv 1, Rv a3, Iv 0, Iv 1, Iv 0, Iv x0] [])
    refine own_by (fun _ k => XS.iinc X51.here hx rfl (hb hby d16_35) rfl (l' := #[Rv a1, Iv 1, Rv a3, Iv ((0 : Int32) + (1 : Int32)), Iv 1, Iv 0, Iv x0]) rfl k) ?_
    show own_Fin _ _ _ _ _ _ _ T51 (mkF m 38 #[Rv a1, Iv 1, Rv a3, Iv ((0 : Int32) + (1 : Int32)), Iv 1, Iv 0, Iv x0] [])
    rw [(by decide : ((0 : Int32) + (1 : Int32)) = (1 : Int32))]
    show own_Fin _ _ _ _ _ _ _ T51 (mkF m 38 #[Rv a1, Iv 1, Rv a3, Iv 1, Iv 1, Iv 0, Iv x0] [])
    refine own_by (fun _ k => XS.iinc X51.here hx rfl (hb hby d16_38) rfl (l' := #[Rv a1, Iv 1, Rv a3, Iv 1, Iv 1, Iv ((0 : Int32) + (1 : Int32)), Iv x0]) rfl k) ?_
    show own_Fin _ _ _ _ _ _ _ T51 (mkF m 41 #[Rv a1, Iv 1, Rv a3, Iv 1, Iv 1, Iv ((0 : Int32) + (1 : Int32)), Iv x0] [])
    rw [(by decide : ((0 : Int32) + (1 : Int32)) = (1 : Int32))]
    show own_Fin _ _ _ _ _ _ _ T51 (mkF m 41 #[Rv a1, Iv 1, Rv a3, Iv 1, Iv 1, Iv 1, Iv x0] [])
    refine own_by (fun _ k => XS.goto X51.here hx rfl (pc0 := 41) (pc' := 3) rfl (hb hby d16_41) (by decide) (by decide) (XS.iload X51.here hx rfl (hb hby d16_3) rfl (XS.iload X51.here hx rfl (hb hby d16_5) rfl (XS.icmpYes X51.here hx rfl (pc0 := 7) (pc' := 44) rfl (hb hby d16_7) rfl (flt (by decide : ¬ ((1 : Int32) < (1 : Int32)))).2.1 (by decide) (by decide) (XS.iload X51.here hx rfl (hb hby d16_44) rfl k))))) ?_
    exact own_retI X51 hx hlk hret (hb hby d16_46) (by rw [e51]; exact ⟨_, rfl, N51, Kp51, Or.inl ⟨rfl, (by have q := V51; simp only [own_b8] at q; exact q), hc20_50⟩⟩) (by decide) (by decide)
theorem d15_0 : decode jdk_52_method_16_code 0 = .ok (.iload_n 2, 1) := by decide +kernel
theorem d15_1 : decode jdk_52_method_16_code 1 = .ok (.newarray .byte, 2) := by decide +kernel
theorem d15_3 : decode jdk_52_method_16_code 3 = .ok (.astore_n 3, 1) := by decide +kernel
theorem d15_4 : decode jdk_52_method_16_code 4 = .ok (.aload_n 0, 1) := by decide +kernel
theorem d15_5 : decode jdk_52_method_16_code 5 = .ok (.iload_n 1, 1) := by decide +kernel
theorem d15_6 : decode jdk_52_method_16_code 6 = .ok (.aload_n 3, 1) := by decide +kernel
theorem d15_7 : decode jdk_52_method_16_code 7 = .ok (.iconst 0, 1) := by decide +kernel
theorem d15_8 : decode jdk_52_method_16_code 8 = .ok (.iload_n 2, 1) := by decide +kernel
theorem d15_9 : decode jdk_52_method_16_code 9 = .ok (.invokestatic 115, 3) := by decide +kernel
theorem own_pd161 : parseMethodDescriptor "([CI[BII)I" = some ⟨[(.array .char), .int, (.array .byte), .int, .int], some .int⟩ := by decide +kernel
theorem d15_12 : decode jdk_52_method_16_code 12 = .ok (.istore 4, 2) := by decide +kernel
theorem d15_14 : decode jdk_52_method_16_code 14 = .ok (.iload 4, 2) := by decide +kernel
theorem d15_16 : decode jdk_52_method_16_code 16 = .ok (.iload_n 2, 1) := by decide +kernel
theorem d15_17 : decode jdk_52_method_16_code 17 = .ok (.if_icmp .eq 40, 3) := by decide +kernel
theorem d15_57 : decode jdk_52_method_16_code 57 = .ok (.aload_n 3, 1) := by decide +kernel
theorem d15_58 : decode jdk_52_method_16_code 58 = .ok (.areturn, 1) := by decide +kernel
theorem d15_20 : decode jdk_52_method_16_code 20 = .ok (.aload_n 0, 1) := by decide +kernel
theorem d15_21 : decode jdk_52_method_16_code 21 = .ok (.iload_n 1, 1) := by decide +kernel
theorem d15_22 : decode jdk_52_method_16_code 22 = .ok (.iload_n 2, 1) := by decide +kernel
theorem d15_23 : decode jdk_52_method_16_code 23 = .ok (.invokestatic 119, 3) := by decide +kernel
theorem own_pd172 : parseMethodDescriptor "([CII)[B" = some ⟨[(.array .char), .int, .int], some (.array .byte)⟩ := by decide +kernel
theorem d15_26 : decode jdk_52_method_16_code 26 = .ok (.astore 5, 2) := by decide +kernel
theorem d15_28 : decode jdk_52_method_16_code 28 = .ok (.aload 5, 2) := by decide +kernel
theorem d15_30 : decode jdk_52_method_16_code 30 = .ok (.iload 4, 2) := by decide +kernel
theorem d15_32 : decode jdk_52_method_16_code 32 = .ok (.invokestatic 71, 3) := by decide +kernel
theorem own_pd177 : parseMethodDescriptor "([BI)C" = some ⟨[(.array .byte), .int], some .char⟩ := by decide +kernel
theorem d15_35 : decode jdk_52_method_16_code 35 = .ok (.sipush 255, 3) := by decide +kernel
theorem d15_38 : decode jdk_52_method_16_code 38 = .ok (.if_icmp .gt 16, 3) := by decide +kernel
theorem d15_54 : decode jdk_52_method_16_code 54 = .ok (.aload 5, 2) := by decide +kernel
theorem d15_56 : decode jdk_52_method_16_code 56 = .ok (.areturn, 1) := by decide +kernel
theorem ef_RII_6 (m : MethodId) (x0 : Addr) (x1 : Int32) (x2 : Int32) : entryFrame m #[(.ref x0), (.int x1), (.int x2)] 6 = mkF m 0 #[.val (.ref x0), .val (.int x1), .val (.int x2), .unset, .unset, .unset] [] := by first | (simp [entryFrame, mkF, argsToLocals, Value.category]; done) | rfl
def own_QXO1 (Z : State) (x0 : Int32) (h0 : Heap) (n0 : Nat) (v : Option Value) (h : Heap) (L : List Loc) : Prop := ∃ (a : Addr) (k : ClassId), v = some (.ref a) ∧ Fr n0 L ∧ Keep h0 h [] ∧ h0.size ≤ a ∧ ((Arv Z h a k .byte (1 : Int32) [(.int x0.toInt8.toInt32)] (.int (0 : Int32)) ∧ ¬ (255 : Int32) < x0) ∨ Arv Z h a k .byte (2 : Int32) [(.int (own_lo x0)), (.int (own_hi x0))] (.int (0 : Int32)))
set_option maxRecDepth 65536 in
set_option maxHeartbeats 40000000 in
theorem rmXO1 (l : Launch) (Z : State) (a0 : Array Value) (hw : own_W a0 Z) (ws : List Jvm.Cond) (cs : Int32) (gS : Value) (a1 : Addr) (kc : ClassId) (x0 : Int32) (h0 : Heap) (n0 : Nat) (Z0 : n0 ≤ h0.size) (V_env : own_Env Z cs gS) (Od : Old Z n0 h0) (V1 : Arv Z h0 a1 kc .char (1 : Int32) [(.int x0)] (.int (0 : Int32))) (hx0 : own_ch x0) : own_Met l Z mn9 jdk_52_method_16_code 6 (some (.array .byte)) ws (own_R 3 2 3 40) #[(.ref a1), (.int (0 : Int32)), (.int (1 : Int32))] h0 (own_QXO1 Z x0 h0 n0) := by
  refine own_enter n0 (plainFor_of_name own_pn40) (fun m => ef_RII_6 m a1 (0 : Int32) (1 : Int32) ) (fun p e s m below meth c s₁ hx hby hlk hml hret hown hnm hZ X0 e0 N0 => ?_)
  show own_Fin _ _ _ _ _ _ _ s₁ (mkF m 0 #[Rv a1, Iv 0, Iv 1, Uv, Uv, Uv] [])
  have Kp53 : Keep h0 h0 [] := Keep.refl h0 _
  obtain ⟨T54, h54, k54, X54, e54, E54, A54, st54⟩ := newP X0 hx hZ (own_g hw 20 rfl) e0 (g := (mkF m 1 #[Rv a1, Iv 0, Iv 1, Uv, Uv, Uv] [(.int 1)])) rfl (hb hby d15_1) rfl (by decide) (cap := 1) (by decide) (by decide) (by decide) (by decide)
  obtain ⟨b54, g54⟩ : ∃ z, z = h0.size := ⟨_, rfl⟩
  rw [← g54] at A54 st54
  have V54 : Arv Z h54 b54 k54 .byte (1 : Int32) [(.int (0 : Int32))] (.int (0 : Int32)) := (Arv.new A54 (by decide)).pad (pad_rep [] (.int (0 : Int32)) 1)
  have ne54_a1 : a1 ≠ b54 := Nat.ne_of_lt (Nat.lt_of_lt_of_le V1.lt (Nat.le_of_eq g54.symm))
  have gf54 : n0 ≤ b54 := Nat.le_trans Z0 (Nat.le_of_eq g54.symm)
  have Zs54 : n0 ≤ h54.size := Nat.le_trans Z0 E54.1
  have Kp54 : Keep h0 h54 [] := Kp53.ext E54
  have sz_b54 : h0.size ≤ b54 := Nat.le_trans Kp53.1 (Nat.le_of_eq g54.symm)
  have f55_0 : Old Z n0 h54 := Od.ext E54
  have f55_1 : Arv Z h54 a1 kc .char (1 : Int32) [(.int x0)] (.int (0 : Int32)) := V1.ext E54
  obtain ⟨_, _, ⟨T56, L56, k56, n56⟩, -, X56, ⟨Lc56, hQ56, l56, y56, z56⟩, st56⟩ := Jvm.LawKit.callS X54 hx (y := mn8) hown (mvT hZ (own_g hw 75 rfl)) (mvT hZ (own_g hw 76 rfl)) (mvT hZ (own_g hw 73 rfl)) (mvT hZ (own_g hw 77 rfl)) (by decide) (backOf (W := 0) (rmXI1 l Z a0 hw [] a1 b54 kc k54 x0 h54 n0 Zs54 f55_1 V54 ne54_a1 gf54) hZ (own_g hw 77 rfl) (own_g hw 73 rfl) (by decide) (by decide)) (g := (mkF m 9 #[Rv a1, Iv 0, Iv 1, Rv b54, Uv, Uv] [(.int 1), (.int 0), (.ref b54), (.int 0), (.ref a1)])) rfl (by rw [hml]; rfl) (argsL := [(.ref a1), (.int (0 : Int32)), (.ref b54), (.int (0 : Int32)), (.int (1 : Int32))]) (rest := []) (lenOf own_pd161 rfl) rfl (own_z rfl) (hb hby d15_9) (fun _ _ => ⟨rfl, e54, (by decide : 1 + 0 ≤ _), (by decide : 1 + 0 ≤ _)⟩)
  dsimp only [Pt.U, Pt.locs, Pt.cells, Pt.slots] at X56 l56 y56 z56 st56 hQ56
  subst l56 y56 z56
  obtain ⟨r56, rfl, Nq56, K56, hd56⟩ := hQ56
  have N56 := Fr.app N0 Nq56
  have Zs56 : n0 ≤ T56.heap.size := Nat.le_trans Zs54 K56.1
  have Kp56 : Keep h0 T56.heap [] := Kp54.trans K56 (allS (Or.inr sz_b54) all0)
  have f57_0 : Old Z n0 T56.heap := f55_0.keep K56 (allS gf54 all0)
  have f57_1 : Arv Z T56.heap a1 kc .char (1 : Int32) [(.int x0)] (.int (0 : Int32)) := f55_1.keep K56 (ninS ne54_a1 nin0)
  refine own_by (fun _ k => XS.iloadN X0.here hx rfl (hb hby d15_0) rfl (st54 _ (XS.astoreN X54.here hx rfl (hb hby d15_3) rfl rfl (l' := #[Rv a1, Iv 0, Iv 1, Rv b54, Uv, Uv]) rfl (XS.aloadN X54.here hx rfl (hb hby d15_4) rfl rfl (XS.iloadN X54.here hx rfl (hb hby d15_5) rfl (XS.aloadN X54.here hx rfl (hb hby d15_6) rfl rfl (XS.iconst X54.here hx rfl (hb hby d15_7) (XS.iloadN X54.here hx rfl (hb hby d15_8) rfl (st56 _ k))))))))) ?_
  rcases hd56 with ⟨rfl, Vr56, hk0⟩ | ⟨rfl, hb0⟩
  · show own_Fin _ _ _ _ _ _ _ T56 (mkF m 12 #[Rv a1, Iv 0, Iv 1, Rv b54, Uv, Uv] [(.int 1)])
    refine own_by (fun _ k => XS.istore X56.here hx rfl (hb hby d15_12) rfl (l' := #[Rv a1, Iv 0, Iv 1, Rv b54, Iv 1, Uv]) rfl (XS.iload X56.here hx rfl (hb hby d15_14) rfl (XS.iloadN X56.here hx rfl (hb hby d15_16) rfl (XS.icmpYes X56.here hx rfl (pc0 := 17) (pc' := 57) rfl (hb hby d15_17) rfl (teq (by decide : (1 : Int32) = (1 : Int32))).1 (by decide) (by decide) (XS.aloadN X56.here hx rfl (hb hby d15_57) rfl rfl k))))) ?_
    exact own_retA X56 hx hlk (t := (.array .byte)) hret rfl rfl rfl (hb hby d15_58) ⟨_, _, rfl, N56, Kp56, sz_b54, Or.inl ⟨Vr56, hk0⟩⟩ (by decide) (by decide)
  · show own_Fin _ _ _ _ _ _ _ T56 (mkF m 12 #[Rv a1, Iv 0, Iv 1, Rv b54, Uv, Uv] [(.int 0)])
    obtain ⟨_, _, ⟨T58, L58, k58, n58⟩, -, X58, ⟨Lc58, hQ58, l58, y58, z58⟩, st58⟩ := Jvm.LawKit.callS X56 hx (y := mn6) hown (mvT hZ (own_g hw 85 rfl)) (mvT hZ (own_g hw 86 rfl)) (mvT hZ (own_g hw 73 rfl)) (mvT hZ (own_g hw 87 rfl)) (by decide) (backOf (W := 0) (rmTB1 l Z a0 hw [] cs gS a1 kc x0 T56.heap n0 Zs56 V_env f57_0 f57_1) hZ (own_g hw 87 rfl) (own_g hw 73 rfl) (by decide) (by decide)) (g := (mkF m 23 #[Rv a1, Iv 0, Iv 1, Rv b54, Iv 0, Uv] [(.int 1), (.int 0), (.ref a1)])) rfl (by rw [hml]; rfl) (argsL := [(.ref a1), (.int (0 : Int32)), (.int (1 : Int32))]) (rest := []) (lenOf own_pd172 rfl) rfl (own_z rfl) (hb hby d15_23) (fun _ _ => ⟨rfl, rfl, (by decide : 1 + 1 ≤ _), (by decide : 1 + 2 ≤ _)⟩)
    dsimp only [Pt.U, Pt.locs, Pt.cells, Pt.slots] at X58 l58 y58 z58 st58 hQ58
    subst l58 y58 z58
    obtain ⟨b58, k58, rfl, Nq58, K58, ge58, V58⟩ := hQ58
    have N58 := Fr.app N56 Nq58
    have Zs58 : n0 ≤ T58.heap.size := Nat.le_trans Zs56 K58.1
    have Kp58 : Keep h0 T58.heap [] := Kp56.trans K58 all0
    have f59_0 : Old Z n0 T58.heap := f57_0.keep K58 all0
    have f59_1 : Arv Z T58.heap a1 kc .char (1 : Int32) [(.int x0)] (.int (0 : Int32)) := f57_1.keep K58 nin0
    have ne58_a1 : a1 ≠ b58 := Nat.ne_of_lt (Nat.lt_of_lt_of_le f57_1.lt ge58)
    have gf58 : n0 ≤ b58 := Nat.le_trans Zs56 ge58
    have sz_b58 : h0.size ≤ b58 := Nat.le_trans Kp56.1 ge58
    refine own_by (fun _ k => XS.istore X56.here hx rfl (hb hby d15_12) rfl (l' := #[Rv a1, Iv 0, Iv 1, Rv b54, Iv 0, Uv]) rfl (XS.iload X56.here hx rfl (hb hby d15_14) rfl (XS.iloadN X56.here hx rfl (hb hby d15_16) rfl (XS.icmpNo X56.here hx rfl (hb hby d15_17) rfl (feq (by decide : ¬ ((0 : Int32) = (1 : Int32)))).1 (XS.aloadN X56.here hx rfl (hb hby d15_20) rfl rfl (XS.iloadN X56.here hx rfl (hb hby d15_21) rfl (XS.iloadN X56.here hx rfl (hb hby d15_22) rfl (st58 _ (XS.astore X58.here hx rfl (hb hby d15_26) rfl rfl (l' := #[Rv a1, Iv 0, Iv 1, Rv b54, Iv 0, Rv b58]) rfl (XS.aload X58.here hx rfl (hb hby d15_28) rfl rfl k)))))))))) ?_
    show own_Fin _ _ _ _ _ _ _ T58 (mkF m 30 #[Rv a1, Iv 0, Iv 1, Rv b54, Iv 0, Rv b58] [(.ref b58)])
    obtain ⟨_, _, ⟨T60, L60, k60, n60⟩, -, X60, ⟨Lc60, hQ60, l60, y60, z60⟩, st60⟩ := Jvm.LawKit.callS X58 hx (y := mn7) hown (mvT hZ (own_g hw 101 rfl)) (mvT hZ (own_g hw 102 rfl)) (mvT hZ (own_g hw 73 rfl)) (mvT hZ (own_g hw 103 rfl)) (by decide) (backOf (W := 0) (rmGC1_0 l Z a0 hw [] cs gS b58 k58 x0 T58.heap n0 Zs58 V_env f59_0 V58 hx0) hZ (own_g hw 103 rfl) (own_g hw 73 rfl) (by decide) (by decide)) (g := (mkF m 32 #[Rv a1, Iv 0, Iv 1, Rv b54, Iv 0, Rv b58] [(.int 0), (.ref b58)])) rfl (by rw [hml]; rfl) (argsL := [(.ref b58), (.int (0 : Int32))]) (rest := []) (lenOf own_pd177 rfl) rfl (own_z rfl) (hb hby d15_32) (fun _ _ => ⟨rfl, rfl, (by decide : 2 + 0 ≤ _), (by decide : 3 + 0 ≤ _)⟩)
    dsimp only [Pt.U, Pt.locs, Pt.cells, Pt.slots] at X60 l60 y60 z60 st60 hQ60
    subst l60 y60 z60
    obtain ⟨rfl, Nq60, eh60⟩ := hQ60
    have N60 := Fr.app N58 Nq60
    refine own_by (fun _ k => XS.iload X58.here hx rfl (hb hby d15_30) rfl (st60 _ (XS.sipush X60.here hx rfl (hb hby d15_35) (XS.icmpYes X60.here hx rfl (pc0 := 38) (pc' := 54) rfl (hb hby d15_38) rfl (tlt hb0).2.2.1 (by decide) (by decide) (XS.aload X60.here hx rfl (hb hby d15_54) rfl rfl k))))) ?_
    exact own_retA X60 hx hlk (t := (.array .byte)) hret rfl rfl rfl (hb hby d15_56) (by rw [eh60]; exact ⟨_, _, rfl, N60, Kp58, sz_b58, Or.inr V58⟩) (by decide) (by decide)
theorem d17_0 : decode jdk_52_method_15_code 0 = .ok (.iload_n 1, 1) := by decide +kernel
theorem d17_1 : decode jdk_52_method_15_code 1 = .ok (.aload_n 0, 1) := by decide +kernel
theorem d17_2 : decode jdk_52_method_15_code 2 = .ok (.arraylength, 1) := by decide +kernel
theorem d17_3 : decode jdk_52_method_15_code 3 = .ok (.isub, 1) := by decide +kernel
theorem d17_4 : decode jdk_52_method_15_code 4 = .ok (.bipush 31, 2) := by decide +kernel
theorem d17_6 : decode jdk_52_method_15_code 6 = .ok (.iushr, 1) := by decide +kernel
theorem d17_7 : decode jdk_52_method_15_code 7 = .ok (.i2b, 1) := by decide +kernel
theorem d17_8 : decode jdk_52_method_15_code 8 = .ok (.ireturn, 1) := by decide +kernel
def own_Qcl1_1 (h0 : Heap) (n0 : Nat) (v : Option Value) (h : Heap) (L : List Loc) : Prop := v = some (.int (0 : Int32)) ∧ Fr n0 L ∧ h = h0
set_option maxRecDepth 65536 in
set_option maxHeartbeats 40000000 in
theorem rmCL1_1 (l : Launch) (Z : State) (a0 : Array Value) (hw : own_W a0 Z) (ws : List Jvm.Cond) (a1 : Addr) (k1 : ClassId) (vs : List Value) (h0 : Heap) (n0 : Nat) (Z0 : n0 ≤ h0.size) (V1 : Arv Z h0 a1 k1 .byte (1 : Int32) vs (.int (0 : Int32))) : own_Met l Z mn10 jdk_52_method_15_code 2 (some .byte) ws (own_R 0 0 0 0) #[(.ref a1), (.int (1 : Int32))] h0 (own_Qcl1_1 h0 n0) := by
  refine own_enter n0 (plainFor_of_name own_pn40) (fun m => ef_RI_2 m a1 (1 : Int32) ) (fun p e s m below meth c s₁ hx hby hlk hml hret hown hnm hZ X0 e0 N0 => ?_)
  show own_Fin _ _ _ _ _ _ _ s₁ (mkF m 0 #[Rv a1, Iv 1] [])
  obtain ⟨cl61, Ar61, -, S61, M61, -, -⟩ := id V1
  refine own_by (fun _ k => XS.iloadN X0.here hx rfl (hb hby d17_0) rfl (XS.aloadN X0.here hx rfl (hb hby d17_1) rfl rfl (X0.arraylength hx (by rw [e0]; exact Ar61.1) (State.isArrayOf_alike hZ.alike Ar61.2.1) (g := (mkF m 2 #[Rv a1, Iv 1] [(.ref a1), (.int 1)])) rfl rfl (hb hby d17_2) _ k))) ?_
  rw [len_of S61 M61]
  show own_Fin _ _ _ _ _ _ _ s₁ (mkF m 3 #[Rv a1, Iv 1] [(.int 1), (.int 1)])
  refine own_by (fun _ k => XS.isub X0.here hx rfl (hb hby d17_3) rfl k) ?_
  show own_Fin _ _ _ _ _ _ _ s₁ (mkF m 4 #[Rv a1, Iv 1] [(.int ((1 : Int32) - (1 : Int32)))])
  rw [(by decide : ((1 : Int32) - (1 : Int32)) = (0 : Int32))]
  show own_Fin _ _ _ _ _ _ _ s₁ (mkF m 4 #[Rv a1, Iv 1] [(.int 0)])
  refine own_by (fun _ k => XS.bipush X0.here hx rfl (hb hby d17_4) (XS.iushr X0.here hx rfl (hb hby d17_6) rfl k)) ?_
  show own_Fin _ _ _ _ _ _ _ s₁ (mkF m 7 #[Rv a1, Iv 1] [(.int (((0 : Int32).toUInt32 >>> ((31 : Int32) &&& 31).toUInt32).toInt32))])
  rw [(by decide : (((0 : Int32).toUInt32 >>> ((31 : Int32) &&& 31).toUInt32).toInt32) = (0 : Int32))]
  show own_Fin _ _ _ _ _ _ _ s₁ (mkF m 7 #[Rv a1, Iv 1] [(.int 0)])
  refine own_by (fun _ k => XS.i2b X0.here hx rfl (hb hby d17_7) rfl k) ?_
  show own_Fin _ _ _ _ _ _ _ s₁ (mkF m 8 #[Rv a1, Iv 1] [(.int ((0 : Int32).toInt8.toInt32))])
  rw [(by decide : ((0 : Int32).toInt8.toInt32) = (0 : Int32))]
  show own_Fin _ _ _ _ _ _ _ s₁ (mkF m 8 #[Rv a1, Iv 1] [(.int 0)])
  exact own_retZ X0 hx hlk (t := .byte) hret (by simp) (hb hby d17_8) ⟨rfl, N0, e0⟩ (by decide) (by decide)
def own_Qcl1_2 (h0 : Heap) (n0 : Nat) (v : Option Value) (h : Heap) (L : List Loc) : Prop := v = some (.int (1 : Int32)) ∧ Fr n0 L ∧ h = h0
set_option maxRecDepth 65536 in
set_option maxHeartbeats 40000000 in
theorem rmCL1_2 (l : Launch) (Z : State) (a0 : Array Value) (hw : own_W a0 Z) (ws : List Jvm.Cond) (a1 : Addr) (k1 : ClassId) (vs : List Value) (h0 : Heap) (n0 : Nat) (Z0 : n0 ≤ h0.size) (V1 : Arv Z h0 a1 k1 .byte (2 : Int32) vs (.int (0 : Int32))) : own_Met l Z mn10 jdk_52_method_15_code 2 (some .byte) ws (own_R 0 0 0 0) #[(.ref a1), (.int (1 : Int32))] h0 (own_Qcl1_2 h0 n0) := by
  refine own_enter n0 (plainFor_of_name own_pn40) (fun m => ef_RI_2 m a1 (1 : Int32) ) (fun p e s m below meth c s₁ hx hby hlk hml hret hown hnm hZ X0 e0 N0 => ?_)
  show own_Fin _ _ _ _ _ _ _ s₁ (mkF m 0 #[Rv a1, Iv 1] [])
  obtain ⟨cl62, Ar62, -, S62, M62, -, -⟩ := id V1
  refine own_by (fun _ k => XS.iloadN X0.here hx rfl (hb hby d17_0) rfl (XS.aloadN X0.here hx rfl (hb hby d17_1) rfl rfl (X0.arraylength hx (by rw [e0]; exact Ar62.1) (State.isArrayOf_alike hZ.alike Ar62.2.1) (g := (mkF m 2 #[Rv a1, Iv 1] [(.ref a1), (.int 1)])) rfl rfl (hb hby d17_2) _ k))) ?_
  rw [len_of S62 M62]
  show own_Fin _ _ _ _ _ _ _ s₁ (mkF m 3 #[Rv a1, Iv 1] [(.int 2), (.int 1)])
  refine own_by (fun _ k => XS.isub X0.here hx rfl (hb hby d17_3) rfl k) ?_
  show own_Fin _ _ _ _ _ _ _ s₁ (mkF m 4 #[Rv a1, Iv 1] [(.int ((1 : Int32) - (2 : Int32)))])
  rw [(by decide : ((1 : Int32) - (2 : Int32)) = (-1 : Int32))]
  show own_Fin _ _ _ _ _ _ _ s₁ (mkF m 4 #[Rv a1, Iv 1] [(.int (-1))])
  refine own_by (fun _ k => XS.bipush X0.here hx rfl (hb hby d17_4) (XS.iushr X0.here hx rfl (hb hby d17_6) rfl k)) ?_
  show own_Fin _ _ _ _ _ _ _ s₁ (mkF m 7 #[Rv a1, Iv 1] [(.int (((-1 : Int32).toUInt32 >>> ((31 : Int32) &&& 31).toUInt32).toInt32))])
  rw [(by decide : (((-1 : Int32).toUInt32 >>> ((31 : Int32) &&& 31).toUInt32).toInt32) = (1 : Int32))]
  show own_Fin _ _ _ _ _ _ _ s₁ (mkF m 7 #[Rv a1, Iv 1] [(.int 1)])
  refine own_by (fun _ k => XS.i2b X0.here hx rfl (hb hby d17_7) rfl k) ?_
  show own_Fin _ _ _ _ _ _ _ s₁ (mkF m 8 #[Rv a1, Iv 1] [(.int ((1 : Int32).toInt8.toInt32))])
  rw [(by decide : ((1 : Int32).toInt8.toInt32) = (1 : Int32))]
  show own_Fin _ _ _ _ _ _ _ s₁ (mkF m 8 #[Rv a1, Iv 1] [(.int 1)])
  exact own_retZ X0 hx hlk (t := .byte) hret (by simp) (hb hby d17_8) ⟨rfl, N0, e0⟩ (by decide) (by decide)
theorem d3_27 : decode jdk_42_method_149_code 27 = .ok (.getstatic 38, 3) := by decide +kernel
theorem d3_30 : decode jdk_42_method_149_code 30 = .ok (.ifCond .eq 28, 3) := by decide +kernel
theorem d3_33 : decode jdk_42_method_149_code 33 = .ok (.aload_n 1, 1) := by decide +kernel
theorem d3_34 : decode jdk_42_method_149_code 34 = .ok (.iload_n 2, 1) := by decide +kernel
theorem d3_35 : decode jdk_42_method_149_code 35 = .ok (.iload_n 3, 1) := by decide +kernel
theorem d3_36 : decode jdk_42_method_149_code 36 = .ok (.invokestatic 177, 3) := by decide +kernel
theorem d3_39 : decode jdk_42_method_149_code 39 = .ok (.astore 5, 2) := by decide +kernel
theorem d3_41 : decode jdk_42_method_149_code 41 = .ok (.aload_n 0, 1) := by decide +kernel
theorem d3_42 : decode jdk_42_method_149_code 42 = .ok (.aload 5, 2) := by decide +kernel
theorem d3_44 : decode jdk_42_method_149_code 44 = .ok (.iload_n 3, 1) := by decide +kernel
theorem d3_45 : decode jdk_42_method_149_code 45 = .ok (.invokestatic 47, 3) := by decide +kernel
theorem own_pd201 : parseMethodDescriptor "([BI)B" = some ⟨[(.array .byte), .int], some .byte⟩ := by decide +kernel
theorem d3_48 : decode jdk_42_method_149_code 48 = .ok (.putfield 15, 3) := by decide +kernel
theorem d3_51 : decode jdk_42_method_149_code 51 = .ok (.aload_n 0, 1) := by decide +kernel
theorem d3_52 : decode jdk_42_method_149_code 52 = .ok (.aload 5, 2) := by decide +kernel
theorem d3_54 : decode jdk_42_method_149_code 54 = .ok (.putfield 9, 3) := by decide +kernel
theorem d3_57 : decode jdk_42_method_149_code 57 = .ok (.return_, 1) := by decide +kernel
def own_QYI1 (Z : State) (a1 : Addr) (x0 : Int32) (h0 : Heap) (n0 : Nat) (v : Option Value) (h : Heap) (L : List Loc) : Prop := ∃ (b : Addr) (k : ClassId), v = none ∧ Fr n0 L ∧ Keep h0 h [a1] ∧ Fld Z h a1 "java/lang/String" "value" "[B" (.ref b) ∧ ((Fld Z h a1 "java/lang/String" "coder" "B" (.int (0 : Int32)) ∧ Arv Z h b k .byte (1 : Int32) [(.int x0.toInt8.toInt32)] (.int (0 : Int32)) ∧ ¬ (255 : Int32) < x0) ∨ (Fld Z h a1 "java/lang/String" "coder" "B" (.int (1 : Int32)) ∧ Arv Z h b k .byte (2 : Int32) [(.int (own_lo x0)), (.int (own_hi x0))] (.int (0 : Int32))))
set_option maxRecDepth 65536 in
set_option maxHeartbeats 40000000 in
theorem rmYI1 (l : Launch) (Z : State) (a0 : Array Value) (hw : own_W a0 Z) (ws : List Jvm.Cond) (cs : Int32) (gS : Value) (a1 a2 : Addr) (kc : ClassId) (x0 : Int32) (h0 : Heap) (n0 : Nat) (Z0 : n0 ≤ h0.size) (V_env : own_Env Z cs gS) (Od : Old Z n0 h0) (E_a1 : Exa Z h0 a1 "java/lang/String") (F_v : Fld Z h0 a1 "java/lang/String" "value" "[B" .null) (F_c : Fld Z h0 a1 "java/lang/String" "coder" "B" (.int (0 : Int32))) (g_a1 : n0 ≤ a1) (V2 : Arv Z h0 a2 kc .char (1 : Int32) [(.int x0)] (.int (0 : Int32))) (ne12 : a2 ≠ a1) (hx0 : own_ch x0) : own_Met l Z mn1 jdk_42_method_149_code 6 none ws (own_R 4 2 3 57) #[(.ref a1), (.ref a2), (.int (0 : Int32)), (.int (1 : Int32)), .null] h0 (own_QYI1 Z a1 x0 h0 n0) := by
  refine own_enter n0 (plainFor_of_name own_pn16) (fun m => ef_RRIIN_6 m a1 a2 (0 : Int32) (1 : Int32) ) (fun p e s m below meth c s₁ hx hby hlk hml hret hown hnm hZ X0 e0 N0 => ?_)
  show own_Fin _ _ _ _ _ _ _ s₁ (mkF m 0 #[Rv a1, Rv a2, Iv 0, Iv 1, Nv, Uv] [])
  have Kp63 : Keep h0 h0 [a1] := Keep.refl h0 _
  obtain ⟨T64, X64, e64, st64⟩ := initO X0 hx hZ hown (own_g hw 16 rfl) (own_g hw 17 rfl) (own_g hw 18 rfl) e0 (g := (mkF m 1 #[Rv a1, Rv a2, Iv 0, Iv 1, Nv, Uv] [(.ref a1)])) rfl (by rw [hml]; rfl) rfl (hb hby d3_1) (by decide) (W := 0) (own_z rfl) (by decide)
  obtain ⟨T65, X65, e65, st65⟩ := getS2 X64 hx hZ hown (host := "") (Or.inl (own_g hw 46 rfl)) Via.refl e64 (V_env.2.2.2.1.ext Od.2) (g := (mkF m 27 #[Rv a1, Rv a2, Iv 0, Iv 1, Nv, Uv] [])) rfl (hb hby d3_27)
  obtain ⟨_, _, ⟨T66, L66, k66, n66⟩, -, X66, ⟨Lc66, hQ66, l66, y66, z66⟩, st66⟩ := Jvm.LawKit.callS X65 hx (y := mn9) hown (mvT hZ (own_g hw 71 rfl)) (mvT hZ (own_g hw 72 rfl)) (mvT hZ (own_g hw 73 rfl)) (mvT hZ (own_g hw 74 rfl)) (by decide) (backOf (W := 0) (rmXO1 l Z a0 hw [] cs gS a2 kc x0 h0 n0 Z0 V_env Od V2 hx0) hZ (own_g hw 74 rfl) (own_g hw 73 rfl) (by decide) (by decide)) (g := (mkF m 36 #[Rv a1, Rv a2, Iv 0, Iv 1, Nv, Uv] [(.int 1), (.int 0), (.ref a2)])) rfl (by rw [hml]; rfl) (argsL := [(.ref a2), (.int (0 : Int32)), (.int (1 : Int32))]) (rest := []) (lenOf own_pd172 rfl) rfl (own_z rfl) (hb hby d3_36) (fun _ _ => ⟨rfl, e65, (by decide : 0 + 2 ≤ _), (by decide : 0 + 3 ≤ _)⟩)
  dsimp only [Pt.U, Pt.locs, Pt.cells, Pt.slots] at X66 l66 y66 z66 st66 hQ66
  subst l66 y66 z66
  obtain ⟨b66, k66, rfl, Nq66, K66, ge66, hd66⟩ := hQ66
  have N66 := Fr.app N0 Nq66
  have Zs66 : n0 ≤ T66.heap.size := Nat.le_trans Z0 K66.1
  have Kp66 : Keep h0 T66.heap [a1] := Kp63.trans K66 all0
  have f67_0 : Old Z n0 T66.heap := Od.keep K66 all0
  have f67_1 : Exa Z T66.heap a1 "java/lang/String" := E_a1.keep K66
  have f67_2 : Fld Z T66.heap a1 "java/lang/String" "value" "[B" .null := F_v.keep K66 nin0
  have f67_3 : Fld Z T66.heap a1 "java/lang/String" "coder" "B" (.int (0 : Int32)) := F_c.keep K66 nin0
  have f67_4 : Arv Z T66.heap a2 kc .char (1 : Int32) [(.int x0)] (.int (0 : Int32)) := V2.keep K66 nin0
  have ne66_a1 : a1 ≠ b66 := Nat.ne_of_lt (Nat.lt_of_lt_of_le E_a1.lt ge66)
  have ne66_a2 : a2 ≠ b66 := Nat.ne_of_lt (Nat.lt_of_lt_of_le V2.lt ge66)
  refine own_by (fun _ k => XS.aloadN X0.here hx rfl (hb hby d3_0) rfl rfl (st64 _ (XS.iloadN X64.here hx rfl (hb hby d3_4) rfl (XS.ifYes X64.here hx rfl (pc0 := 5) (pc' := 27) rfl (hb hby d3_5) rfl ((if0 _ _).trans (feq (by decide : ¬ ((1 : Int32) = (0 : Int32)))).2) (by decide) (by decide) (st65 _ (XS.ifNo X65.here hx rfl (hb hby d3_30) rfl ((if0 _ _).trans (feq V_env.2.2.2.2.1).1) (XS.aloadN X65.here hx rfl (hb hby d3_33) rfl rfl (XS.iloadN X65.here hx rfl (hb hby d3_34) rfl (XS.iloadN X65.here hx rfl (hb hby d3_35) rfl (st66 _ k)))))))))) ?_
  rcases hd66 with ⟨V66, hk0⟩ | V66
  · show own_Fin _ _ _ _ _ _ _ T66 (mkF m 39 #[Rv a1, Rv a2, Iv 0, Iv 1, Nv, Uv] [(.ref b66)])
    obtain ⟨_, _, ⟨T68, L68, k68, n68⟩, -, X68, ⟨Lc68, hQ68, l68, y68, z68⟩, st68⟩ := Jvm.LawKit.callS X66 hx (y := mn10) hown (mvT hZ (own_g hw 78 rfl)) (mvT hZ (own_g hw 79 rfl)) (mvT hZ (own_g hw 73 rfl)) (mvT hZ (own_g hw 80 rfl)) (by decide) (backOf (W := 1) (rmCL1_1 l Z a0 hw [] b66 k66 [(.int x0.toInt8.toInt32)] T66.heap n0 Zs66 V66) hZ (own_g hw 80 rfl) (own_g hw 73 rfl) (by decide) (by decide)) (g := (mkF m 45 #[Rv a1, Rv a2, Iv 0, Iv 1, Nv, Rv b66] [(.int 1), (.ref b66), (.ref a1)])) rfl (by rw [hml]; rfl) (argsL := [(.ref b66), (.int (1 : Int32))]) (rest := [(.ref a1)]) (lenOf own_pd201 rfl) rfl (own_z rfl) (hb hby d3_45) (fun _ _ => ⟨rfl, rfl, (by decide : 2 + 0 ≤ _), (by decide : 3 + 0 ≤ _)⟩)
    dsimp only [Pt.U, Pt.locs, Pt.cells, Pt.slots] at X68 l68 y68 z68 st68 hQ68
    subst l68 y68 z68
    obtain ⟨rfl, Nq68, eh68⟩ := hQ68
    have N68 := Fr.app N66 Nq68
    obtain ⟨T69, h69, X69, e69, W69, st69⟩ := putFN X68 hx hZ hown (own_g hw 26 rfl) Via.refl eh68 f67_3 f67_1 (Or.inr ⟨(own_g hw 22 rfl), rfl, hnm⟩) (own_g hw 7 rfl) (ty := .byte) (v' := (.int (0 : Int32))) (by decide) rfl (by decide) (g := (mkF m 48 #[Rv a1, Rv a2, Iv 0, Iv 1, Nv, Rv b66] [(.int 0), (.ref a1)])) rfl rfl (hb hby d3_48)
    have Fw69 : Fld Z h69 a1 "java/lang/String" "coder" "B" (.int (0 : Int32)) := f67_3.same W69
    have Kp69 : Keep h0 h69 [a1] := Kp66.wr W69 (Or.inl (List.mem_of_getElem? (i := 0) rfl))
    have Zs69 : n0 ≤ h69.size := Nat.le_trans Zs66 (Keep.of_wr W69).1
    have N69 := Fr.snoc X69 N68 g_a1
    have f70_0 : Old Z n0 h69 := f67_0.wr W69 g_a1
    have f70_1 : Exa Z h69 a1 "java/lang/String" := f67_1.wr W69
    have f70_2 : Fld Z h69 a1 "java/lang/String" "value" "[B" .null := f67_2.other W69 (Or.inr (slot_ne (Or.inr (own_g hw 21 rfl)) (Or.inr (own_g hw 22 rfl)) (by decide) (t := (.array .byte)) (t' := .byte) (by decide) (by decide)))
    have f70_4 : Arv Z h69 a2 kc .char (1 : Int32) [(.int x0)] (.int (0 : Int32)) := f67_4.other W69 ne12
    have f70_5 : Arv Z h69 b66 k66 .byte (1 : Int32) [(.int x0.toInt8.toInt32)] (.int (0 : Int32)) := V66.other W69 (Ne.symm ne66_a1)
    obtain ⟨T71, h71, X71, e71, W71, st71⟩ := putF X69 hx hZ hown (host := "") (Or.inl (own_g hw 25 rfl)) Via.refl e69 f70_2 f70_1 (Or.inr ⟨(own_g hw 21 rfl), rfl, hnm⟩) (own_g hw 7 rfl) (ty := (.array .byte)) (by decide) rfl rfl (g := (mkF m 54 #[Rv a1, Rv a2, Iv 0, Iv 1, Nv, Rv b66] [(.ref b66), (.ref a1)])) rfl rfl (hb hby d3_54)
    have Fw71 : Fld Z h71 a1 "java/lang/String" "value" "[B" (.ref b66) := f70_2.same W71
    have Kp71 : Keep h0 h71 [a1] := Kp69.wr W71 (Or.inl (List.mem_of_getElem? (i := 0) rfl))
    have Zs71 : n0 ≤ h71.size := Nat.le_trans Zs69 (Keep.of_wr W71).1
    have N71 := Fr.snoc X71 N69 g_a1
    have f72_0 : Old Z n0 h71 := f70_0.wr W71 g_a1
    have f72_1 : Exa Z h71 a1 "java/lang/String" := f70_1.wr W71
    have f72_3 : Arv Z h71 a2 kc .char (1 : Int32) [(.int x0)] (.int (0 : Int32)) := f70_4.other W71 ne12
    have f72_4 : Arv Z h71 b66 k66 .byte (1 : Int32) [(.int x0.toInt8.toInt32)] (.int (0 : Int32)) := f70_5.other W71 (Ne.symm ne66_a1)
    have f72_5 : Fld Z h71 a1 "java/lang/String" "coder" "B" (.int (0 : Int32)) := Fw69.other W71 (Or.inr (slot_ne (Or.inr (own_g hw 22 rfl)) (Or.inr (own_g hw 21 rfl)) (by decide) (t := .byte) (t' := (.array .byte)) (by decide) (by decide)))
    refine own_by (fun _ k => XS.astore X66.here hx rfl (hb hby d3_39) rfl rfl (l' := #[Rv a1, Rv a2, Iv 0, Iv 1, Nv, Rv b66]) rfl (XS.aloadN X66.here hx rfl (hb hby d3_41) rfl rfl (XS.aload X66.here hx rfl (hb hby d3_42) rfl rfl (XS.iloadN X66.here hx rfl (hb hby d3_44) rfl (st68 _ (st69 _ (XS.aloadN X69.here hx rfl (hb hby d3_51) rfl rfl (XS.aload X69.here hx rfl (hb hby d3_52) rfl rfl (st71 _ k))))))))) ?_
    exact own_retV X71 hx hlk hret (hb hby d3_57) (by rw [e71]; exact ⟨_, _, rfl, N71, Kp71, Fw71, Or.inl ⟨f72_5, f72_4, hk0⟩⟩) (by decide) (by decide)
  · show own_Fin _ _ _ _ _ _ _ T66 (mkF m 39 #[Rv a1, Rv a2, Iv 0, Iv 1, Nv, Uv] [(.ref b66)])
    obtain ⟨_, _, ⟨T73, L73, k73, n73⟩, -, X73, ⟨Lc73, hQ73, l73, y73, z73⟩, st73⟩ := Jvm.LawKit.callS X66 hx (y := mn10) hown (mvT hZ (own_g hw 78 rfl)) (mvT hZ (own_g hw 79 rfl)) (mvT hZ (own_g hw 73 rfl)) (mvT hZ (own_g hw 80 rfl)) (by decide) (backOf (W := 1) (rmCL1_2 l Z a0 hw [] b66 k66 [(.int (own_lo x0)), (.int (own_hi x0))] T66.heap n0 Zs66 V66) hZ (own_g hw 80 rfl) (own_g hw 73 rfl) (by decide) (by decide)) (g := (mkF m 45 #[Rv a1, Rv a2, Iv 0, Iv 1, Nv, Rv b66] [(.int 1), (.ref b66), (.ref a1)])) rfl (by rw [hml]; rfl) (argsL := [(.ref b66), (.int (1 : Int32))]) (rest := [(.ref a1)]) (lenOf own_pd201 rfl) rfl (own_z rfl) (hb hby d3_45) (fun _ _ => ⟨rfl, rfl, (by decide : 2 + 0 ≤ _), (by decide : 3 + 0 ≤ _)⟩)
    dsimp only [Pt.U, Pt.locs, Pt.cells, Pt.slots] at X73 l73 y73 z73 st73 hQ73
    subst l73 y73 z73
    obtain ⟨rfl, Nq73, eh73⟩ := hQ73
    have N73 := Fr.app N66 Nq73
    obtain ⟨T74, h74, X74, e74, W74, st74⟩ := putFN X73 hx hZ hown (own_g hw 26 rfl) Via.refl eh73 f67_3 f67_1 (Or.inr ⟨(own_g hw 22 rfl), rfl, hnm⟩) (own_g hw 7 rfl) (ty := .byte) (v' := (.int (1 : Int32))) (by decide) rfl (by decide) (g := (mkF m 48 #[Rv a1, Rv a2, Iv 0, Iv 1, Nv, Rv b66] [(.int 1), (.ref a1)])) rfl rfl (hb hby d3_48)
    have Fw74 : Fld Z h74 a1 "java/lang/String" "coder" "B" (.int (1 : Int32)) := f67_3.same W74
    have Kp74 : Keep h0 h74 [a1] := Kp66.wr W74 (Or.inl (List.mem_of_getElem? (i := 0) rfl))
    have Zs74 : n0 ≤ h74.size := Nat.le_trans Zs66 (Keep.of_wr W74).1
    have N74 := Fr.snoc X74 N73 g_a1
    have f75_0 : Old Z n0 h74 := f67_0.wr W74 g_a1
    have f75_1 : Exa Z h74 a1 "java/lang/String" := f67_1.wr W74
    have f75_2 : Fld Z h74 a1 "java/lang/String" "value" "[B" .null := f67_2.other W74 (Or.inr (slot_ne (Or.inr (own_g hw 21 rfl)) (Or.inr (own_g hw 22 rfl)) (by decide) (t := (.array .byte)) (t' := .byte) (by decide) (by decide)))
    have f75_4 : Arv Z h74 a2 kc .char (1 : Int32) [(.int x0)] (.int (0 : Int32)) := f67_4.other W74 ne12
    have f75_5 : Arv Z h74 b66 k66 .byte (2 : Int32) [(.int (own_lo x0)), (.int (own_hi x0))] (.int (0 : Int32)) := V66.other W74 (Ne.symm ne66_a1)
    obtain ⟨T76, h76, X76, e76, W76, st76⟩ := putF X74 hx hZ hown (host := "") (Or.inl (own_g hw 25 rfl)) Via.refl e74 f75_2 f75_1 (Or.inr ⟨(own_g hw 21 rfl), rfl, hnm⟩) (own_g hw 7 rfl) (ty := (.array .byte)) (by decide) rfl rfl (g := (mkF m 54 #[Rv a1, Rv a2, Iv 0, Iv 1, Nv, Rv b66] [(.ref b66), (.ref a1)])) rfl rfl (hb hby d3_54)
    have Fw76 : Fld Z h76 a1 "java/lang/String" "value" "[B" (.ref b66) := f75_2.same W76
    have Kp76 : Keep h0 h76 [a1] := Kp74.wr W76 (Or.inl (List.mem_of_getElem? (i := 0) rfl))
    have Zs76 : n0 ≤ h76.size := Nat.le_trans Zs74 (Keep.of_wr W76).1
    have N76 := Fr.snoc X76 N74 g_a1
    have f77_0 : Old Z n0 h76 := f75_0.wr W76 g_a1
    have f77_1 : Exa Z h76 a1 "java/lang/String" := f75_1.wr W76
    have f77_3 : Arv Z h76 a2 kc .char (1 : Int32) [(.int x0)] (.int (0 : Int32)) := f75_4.other W76 ne12
    have f77_4 : Arv Z h76 b66 k66 .byte (2 : Int32) [(.int (own_lo x0)), (.int (own_hi x0))] (.int (0 : Int32)) := f75_5.other W76 (Ne.symm ne66_a1)
    have f77_5 : Fld Z h76 a1 "java/lang/String" "coder" "B" (.int (1 : Int32)) := Fw74.other W76 (Or.inr (slot_ne (Or.inr (own_g hw 22 rfl)) (Or.inr (own_g hw 21 rfl)) (by decide) (t := .byte) (t' := (.array .byte)) (by decide) (by decide)))
    refine own_by (fun _ k => XS.astore X66.here hx rfl (hb hby d3_39) rfl rfl (l' := #[Rv a1, Rv a2, Iv 0, Iv 1, Nv, Rv b66]) rfl (XS.aloadN X66.here hx rfl (hb hby d3_41) rfl rfl (XS.aload X66.here hx rfl (hb hby d3_42) rfl rfl (XS.iloadN X66.here hx rfl (hb hby d3_44) rfl (st73 _ (st74 _ (XS.aloadN X74.here hx rfl (hb hby d3_51) rfl rfl (XS.aload X74.here hx rfl (hb hby d3_52) rfl rfl (st76 _ k))))))))) ?_
    exact own_retV X76 hx hlk hret (hb hby d3_57) (by rw [e76]; exact ⟨_, _, rfl, N76, Kp76, Fw76, Or.inr ⟨f77_5, f77_4⟩⟩) (by decide) (by decide)
set_option maxRecDepth 65536 in
set_option maxHeartbeats 40000000 in
theorem rmYC1 (l : Launch) (Z : State) (a0 : Array Value) (hw : own_W a0 Z) (ws : List Jvm.Cond) (cs : Int32) (gS : Value) (a1 a2 : Addr) (kc : ClassId) (x0 : Int32) (h0 : Heap) (n0 : Nat) (Z0 : n0 ≤ h0.size) (V_env : own_Env Z cs gS) (Od : Old Z n0 h0) (E_a1 : Exa Z h0 a1 "java/lang/String") (F_v : Fld Z h0 a1 "java/lang/String" "value" "[B" .null) (F_c : Fld Z h0 a1 "java/lang/String" "coder" "B" (.int (0 : Int32))) (g_a1 : n0 ≤ a1) (V2 : Arv Z h0 a2 kc .char (1 : Int32) [(.int x0)] (.int (0 : Int32))) (ne12 : a2 ≠ a1) (hx0 : own_ch x0) : own_Met l Z mn2 jdk_42_method_3_code 2 none ws (own_R 5 2 3 74) #[(.ref a1), (.ref a2)] h0 (own_QYI1 Z a1 x0 h0 n0) := by
  refine own_enter n0 (plainFor_of_name own_pn16) (fun m => ef_RR_2 m a1 a2 ) (fun p e s m below meth c s₁ hx hby hlk hml hret hown hnm hZ X0 e0 N0 => ?_)
  show own_Fin _ _ _ _ _ _ _ s₁ (mkF m 0 #[Rv a1, Rv a2] [])
  have Kp78 : Keep h0 h0 [a1] := Keep.refl h0 _
  obtain ⟨cl79, Ar79, -, S79, M79, -, -⟩ := id V2
  refine own_by (fun _ k => XS.aloadN X0.here hx rfl (hb hby d2_0) rfl rfl (XS.aloadN X0.here hx rfl (hb hby d2_1) rfl rfl (XS.iconst X0.here hx rfl (hb hby d2_2) (XS.aloadN X0.here hx rfl (hb hby d2_3) rfl rfl (X0.arraylength hx (by rw [e0]; exact Ar79.1) (State.isArrayOf_alike hZ.alike Ar79.2.1) (g := (mkF m 4 #[Rv a1, Rv a2] [(.ref a2), (.int 0), (.ref a2), (.ref a1)])) rfl rfl (hb hby d2_4) _ k))))) ?_
  rw [len_of S79 M79]
  show own_Fin _ _ _ _ _ _ _ s₁ (mkF m 5 #[Rv a1, Rv a2] [(.int 1), (.int 0), (.ref a2), (.ref a1)])
  obtain ⟨_, _, ⟨T80, L80, k80, n80⟩, -, X80, ⟨Lc80, hQ80, l80, y80, z80⟩, st80⟩ := X0.specialBack hx (y := mn1) rfl hown (mvT hZ (own_g hw 12 rfl)) (mvT hZ (own_g hw 13 rfl)) (mvT hZ (own_g hw 15 rfl)) (by decide) (backOf (W := 0) (rmYI1 l Z a0 hw [] cs gS a1 a2 kc x0 h0 n0 Z0 V_env Od E_a1 F_v F_c g_a1 V2 ne12 hx0) hZ (own_g hw 15 rfl) (own_g hw 8 rfl) (by decide) (by decide)) (g := (mkF m 6 #[Rv a1, Rv a2] [.null, (.int 1), (.int 0), (.ref a2), (.ref a1)])) rfl (by rw [hml]; rfl) (Steps.refl _) (a := a1) (argsL := [(.ref a2), (.int (0 : Int32)), (.int (1 : Int32)), .null]) (rest := []) (lenOf own_pd38 rfl) rfl (own_z rfl) (hb hby d2_6) (fun _ _ => ⟨rfl, e0, (by decide : 0 + 2 ≤ _), (by decide : 0 + 3 ≤ _)⟩)
  dsimp only [Pt.U, Pt.locs, Pt.cells, Pt.slots] at X80 l80 y80 z80 st80 hQ80
  subst l80 y80 z80
  obtain ⟨b80, k80, rfl, Nq80, K80, Gv80, hd80⟩ := hQ80
  have N80 := Fr.app N0 Nq80
  have Zs80 : n0 ≤ T80.heap.size := Nat.le_trans Z0 K80.1
  have Kp80 : Keep h0 T80.heap [a1] := Kp78.trans K80 (allS (Or.inl (List.mem_of_getElem? (i := 0) rfl)) all0)
  have f81_0 : Old Z n0 T80.heap := Od.keep K80 (allS g_a1 all0)
  have f81_1 : Exa Z T80.heap a1 "java/lang/String" := E_a1.keep K80
  have f81_4 : Arv Z T80.heap a2 kc .char (1 : Int32) [(.int x0)] (.int (0 : Int32)) := V2.keep K80 (ninS ne12 nin0)
  refine own_by (fun _ k => XS.aconstNull X0.here hx rfl (hb hby d2_5) (st80.trans k)) ?_
  exact own_retV X80 hx hlk hret (hb hby d2_9) ⟨_, _, rfl, N80, Kp80, Gv80, hd80⟩ (by decide) (by decide)
def own_QrmNBL2 (h0 : Heap) (n0 : Nat) (v : Option Value) (h : Heap) (L : List Loc) : Prop := v = some (.int (4 : Int32)) ∧ Fr n0 L ∧ h = h0
set_option maxRecDepth 65536 in
set_option maxHeartbeats 40000000 in
theorem rmNBL2 (l : Launch) (Z : State) (a0 : Array Value) (hw : own_W a0 Z) (ws : List Jvm.Cond)  (h0 : Heap) (n0 : Nat) (Z0 : n0 ≤ h0.size)  : own_Met l Z mn3 jdk_52_method_3_code 1 (some .int) ws (own_R 0 0 0 0) #[(.int (2 : Int32))] h0 (own_QrmNBL2 h0 n0) := by
  refine own_enter n0 (plainFor_of_name own_pn40) (fun m => ef_I_1 m (2 : Int32) ) (fun p e s m below meth c s₁ hx hby hlk hml hret hown hnm hZ X0 e0 N0 => ?_)
  show own_Fin _ _ _ _ _ _ _ s₁ (mkF m 0 #[Iv 2] [])
  refine own_by (fun _ k => XS.iloadN X0.here hx rfl (hb hby d21_0) rfl (XS.ifYes X0.here hx rfl (pc0 := 1) (pc' := 12) rfl (hb hby d21_1) rfl ((if0 _ _).trans (flt (by decide : ¬ ((2 : Int32) < (0 : Int32)))).2.1) (by decide) (by decide) (XS.iloadN X0.here hx rfl (hb hby d21_12) rfl (X0.ldcInt hx hown (mvT hZ (own_g hw 94 rfl)) (g := (mkF m 13 #[Iv 2] [(.int 2)])) rfl (hb hby d21_13) _ (XS.icmpYes X0.here hx rfl (pc0 := 15) (pc' := 55) rfl (hb hby d21_15) rfl (tlt (by decide : (2 : Int32) < (1073741823 : Int32))).1 (by decide) (by decide) (XS.iloadN X0.here hx rfl (hb hby d21_55) rfl (XS.iconst X0.here hx rfl (hb hby d21_56) (XS.ishl X0.here hx rfl (hb hby d21_57) rfl k)))))))) ?_
  show own_Fin _ _ _ _ _ _ _ s₁ (mkF m 58 #[Iv 2] [(.int ((2 : Int32) <<< ((1 : Int32) &&& 31)))])
  rw [(by decide : ((2 : Int32) <<< ((1 : Int32) &&& 31)) = (4 : Int32))]
  show own_Fin _ _ _ _ _ _ _ s₁ (mkF m 58 #[Iv 2] [(.int 4)])
  exact own_retI X0 hx hlk hret (hb hby d21_58) ⟨rfl, N0, e0⟩ (by decide) (by decide)
def own_QNBF2 (Z : State) (h0 : Heap) (n0 : Nat) (v : Option Value) (h : Heap) (L : List Loc) : Prop := ∃ (a : Addr) (k : ClassId), v = some (.ref a) ∧ Fr n0 L ∧ Keep h0 h [] ∧ h0.size ≤ a ∧ Arv Z h a k .byte (4 : Int32) [(.int (0 : Int32)), (.int (0 : Int32)), (.int (0 : Int32)), (.int (0 : Int32))] (.int (0 : Int32))
set_option maxRecDepth 65536 in
set_option maxHeartbeats 40000000 in
theorem rmNBF2 (l : Launch) (Z : State) (a0 : Array Value) (hw : own_W a0 Z) (ws : List Jvm.Cond)  (h0 : Heap) (n0 : Nat) (Z0 : n0 ≤ h0.size)  : own_Met l Z mn4 jdk_52_method_2_code 1 (some (.array .byte)) ws (own_R 1 1 4 12) #[(.int (2 : Int32))] h0 (own_QNBF2 Z h0 n0) := by
  refine own_enter n0 (plainFor_of_name own_pn40) (fun m => ef_I_1 m (2 : Int32) ) (fun p e s m below meth c s₁ hx hby hlk hml hret hown hnm hZ X0 e0 N0 => ?_)
  show own_Fin _ _ _ _ _ _ _ s₁ (mkF m 0 #[Iv 2] [])
  have Kp82 : Keep h0 h0 [] := Keep.refl h0 _
  obtain ⟨_, _, ⟨T83, L83, k83, n83⟩, -, X83, ⟨Lc83, hQ83, l83, y83, z83⟩, st83⟩ := Jvm.LawKit.callS X0 hx (y := mn3) hown (mvT hZ (own_g hw 91 rfl)) (mvT hZ (own_g hw 92 rfl)) (mvT hZ (own_g hw 73 rfl)) (mvT hZ (own_g hw 93 rfl)) (by decide) (backOf (W := 0) (rmNBL2 l Z a0 hw []  h0 n0 Z0 ) hZ (own_g hw 93 rfl) (own_g hw 73 rfl) (by decide) (by decide)) (g := (mkF m 1 #[Iv 2] [(.int 2)])) rfl (by rw [hml]; rfl) (argsL := [(.int (2 : Int32))]) (rest := []) (lenOf own_pd52 rfl) rfl (own_z rfl) (hb hby d20_1) (fun _ _ => ⟨rfl, e0, (by decide : 0 + 0 ≤ _), (by decide : 0 + 0 ≤ _)⟩)
  dsimp only [Pt.U, Pt.locs, Pt.cells, Pt.slots] at X83 l83 y83 z83 st83 hQ83
  subst l83 y83 z83
  obtain ⟨rfl, Nq83, eh83⟩ := hQ83
  have N83 := Fr.app N0 Nq83
  obtain ⟨T84, h84, k84, X84, e84, E84, A84, st84⟩ := newP X83 hx hZ (own_g hw 20 rfl) eh83 (g := (mkF m 4 #[Iv 2] [(.int 4)])) rfl (hb hby d20_4) rfl (by decide) (cap := 4) (by decide) (by decide) (by decide) (by decide)
  obtain ⟨b84, g84⟩ : ∃ z, z = h0.size := ⟨_, rfl⟩
  rw [← g84] at A84 st84
  have V84 : Arv Z h84 b84 k84 .byte (4 : Int32) [(.int (0 : Int32)), (.int (0 : Int32)), (.int (0 : Int32)), (.int (0 : Int32))] (.int (0 : Int32)) := (Arv.new A84 (by decide)).pad (pad_rep [] (.int (0 : Int32)) 4)
  have gf84 : n0 ≤ b84 := Nat.le_trans Z0 (Nat.le_of_eq g84.symm)
  have Zs84 : n0 ≤ h84.size := Nat.le_trans Z0 E84.1
  have Kp84 : Keep h0 h84 [] := Kp82.ext E84
  have sz_b84 : h0.size ≤ b84 := Nat.le_trans Kp82.1 (Nat.le_of_eq g84.symm)
  refine own_by (fun _ k => XS.iloadN X0.here hx rfl (hb hby d20_0) rfl (st83 _ (st84 _ k))) ?_
  exact own_retA X84 hx hlk (t := (.array .byte)) hret rfl rfl rfl (hb hby d20_6) (by rw [e84]; exact ⟨_, _, rfl, N83, Kp84, sz_b84, V84⟩) (by decide) (by decide)
def own_QPC2_0 (Z : State) (a1 : Addr) (k1 : ClassId) (cc : Int32) (w0 w1 w2 w3 : Int32) (h0 : Heap) (n0 : Nat) (v : Option Value) (h : Heap) (L : List Loc) : Prop := v = none ∧ Fr n0 L ∧ Keep h0 h [a1] ∧ Arv Z h a1 k1 .byte (4 : Int32) [(.int (own_lo cc)), (.int (own_hi cc)), (.int w2), (.int w3)] (.int (0 : Int32))
set_option maxRecDepth 65536 in
set_option maxHeartbeats 40000000 in
theorem rmPC2_0 (l : Launch) (Z : State) (a0 : Array Value) (hw : own_W a0 Z) (ws : List Jvm.Cond) (cs : Int32) (gS : Value) (a1 : Addr) (k1 : ClassId) (cc : Int32) (w0 w1 w2 w3 : Int32) (h0 : Heap) (n0 : Nat) (Z0 : n0 ≤ h0.size) (V_env : own_Env Z cs gS) (Od : Old Z n0 h0) (V1 : Arv Z h0 a1 k1 .byte (4 : Int32) [(.int w0), (.int w1), (.int w2), (.int w3)] (.int (0 : Int32))) (g_1 : n0 ≤ a1) : own_Met l Z mn5 jdk_52_method_4_code 3 none ws (own_R 0 0 0 0) #[(.ref a1), (.int (0 : Int32)), (.int cc)] h0 (own_QPC2_0 Z a1 k1 cc w0 w1 w2 w3 h0 n0) := by
  refine own_enter n0 (plainFor_of_name own_pn40) (fun m => ef_RII_3 m a1 (0 : Int32) cc ) (fun p e s m below meth c s₁ hx hby hlk hml hret hown hnm hZ X0 e0 N0 => ?_)
  show own_Fin _ _ _ _ _ _ _ s₁ (mkF m 0 #[Rv a1, Iv 0, Iv cc] [])
  have Kp86 : Keep h0 h0 [a1] := Keep.refl h0 _
  obtain ⟨T87, X87, e87, st87⟩ := getS2 X0 hx hZ hown (host := "") (Or.inl (own_g hw 98 rfl)) Via.refl e0 (V_env.1.ext Od.2) (g := (mkF m 0 #[Rv a1, Iv 0, Iv cc] [])) rfl (hb hby d22_0)
  refine own_by (fun _ k => st87 _ (XS.ifYes X87.here hx rfl (pc0 := 3) (pc' := 28) rfl (hb hby d22_3) rfl ((if0 _ _).trans (feq (by decide : ¬ ((1 : Int32) = (0 : Int32)))).2) (by decide) (by decide) (XS.iloadN X87.here hx rfl (hb hby d22_28) rfl (XS.iconst X87.here hx rfl (hb hby d22_29) (XS.ishl X87.here hx rfl (hb hby d22_30) rfl k))))) ?_
  show own_Fin _ _ _ _ _ _ _ T87 (mkF m 31 #[Rv a1, Iv 0, Iv cc] [(.int ((0 : Int32) <<< ((1 : Int32) &&& 31)))])
  rw [(by decide : ((0 : Int32) <<< ((1 : Int32) &&& 31)) = (0 : Int32))]
  show own_Fin _ _ _ _ _ _ _ T87 (mkF m 31 #[Rv a1, Iv 0, Iv cc] [(.int 0)])
  refine own_by (fun _ k => XS.istoreN X87.here hx rfl (hb hby d22_31) rfl (l' := #[Rv a1, Iv 0, Iv cc]) rfl (XS.aloadN X87.here hx rfl (hb hby d22_32) rfl rfl (XS.iloadN X87.here hx rfl (hb hby d22_33) rfl (XS.iinc X87.here hx rfl (hb hby d22_34) rfl (l' := #[Rv a1, Iv ((0 : Int32) + (1 : Int32)), Iv cc]) rfl k)))) ?_
  show own_Fin _ _ _ _ _ _ _ T87 (mkF m 37 #[Rv a1, Iv ((0 : Int32) + (1 : Int32)), Iv cc] [(.int 0), (.ref a1)])
  rw [(by decide : ((0 : Int32) + (1 : Int32)) = (1 : Int32))]
  show own_Fin _ _ _ _ _ _ _ T87 (mkF m 37 #[Rv a1, Iv 1, Iv cc] [(.int 0), (.ref a1)])
  obtain ⟨T88, X88, e88, st88⟩ := getS2 X87 hx hZ hown (host := "") (Or.inl (own_g hw 99 rfl)) Via.refl e87 (V_env.2.1.ext Od.2) (g := (mkF m 38 #[Rv a1, Iv 1, Iv cc] [(.int cc), (.int 0), (.ref a1)])) rfl (hb hby d22_38)
  obtain ⟨cl89, Ar89, q89, S89, M89, H89, G89⟩ := id V1
  have hin89 : ¬ ((0 : Int32) < 0 ∨ cl89.slots.size ≤ ((0 : Int32)).toNatClampNeg) := inb_of S89 ⟨by decide, by decide⟩
  obtain ⟨T89, h89, X89, e89, W89, st89⟩ := stB X88 hx hZ e88 Ar89 (j := (0 : Int32)) hin89 (g := (mkF m 43 #[Rv a1, Iv 1, Iv cc] [(.int ((cc >>> ((0 : Int32) &&& 31)).toInt8.toInt32)), (.int 0), (.ref a1)])) rfl rfl (hb hby d22_43)
  have V89 : Arv Z h89 a1 k1 .byte (4 : Int32) [(.int ((cc >>> ((0 : Int32) &&& 31)).toInt8.toInt32).toInt8.toInt32), (.int w1), (.int w2), (.int w3)] (.int (0 : Int32)) := Arv.set Ar89 q89 S89 M89 H89 G89 (fits_nar_byte _) W89 0 rfl (Nat.le_of_ble_eq_true rfl)
  have Kp89 : Keep h0 h89 [a1] := Kp86.wr W89 (Or.inl (List.mem_of_getElem? (i := 0) rfl))
  have Zs89 : n0 ≤ h89.size := Nat.le_trans Z0 (Keep.of_wr W89).1
  have N89 := Fr.snoc X89 N0 g_1
  have f90_0 : Old Z n0 h89 := Od.wr W89 g_1
  obtain ⟨T91, X91, e91, st91⟩ := getS2 X89 hx hZ hown (host := "") (Or.inl (own_g hw 100 rfl)) Via.refl e89 (V_env.2.2.1.ext f90_0.2) (g := (mkF m 47 #[Rv a1, Iv 1, Iv cc] [(.int cc), (.int 1), (.ref a1)])) rfl (hb hby d22_47)
  refine own_by (fun _ k => XS.iloadN X87.here hx rfl (hb hby d22_37) rfl (st88 _ (XS.ishr X88.here hx rfl (hb hby d22_41) rfl (XS.i2b X88.here hx rfl (hb hby d22_42) rfl (st89 _ (XS.aloadN X89.here hx rfl (hb hby d22_44) rfl rfl (XS.iloadN X89.here hx rfl (hb hby d22_45) rfl (XS.iloadN X89.here hx rfl (hb hby d22_46) rfl (st91 _ (XS.ishr X91.here hx rfl (hb hby d22_50) rfl k)))))))))) ?_
  show own_Fin _ _ _ _ _ _ _ T91 (mkF m 51 #[Rv a1, Iv 1, Iv cc] [(.int (cc >>> ((8 : Int32) &&& 31))), (.int 1), (.ref a1)])
  obtain ⟨cl92, Ar92, q92, S92, M92, H92, G92⟩ := id V89
  have hin92 : ¬ ((1 : Int32) < 0 ∨ cl92.slots.size ≤ ((1 : Int32)).toNatClampNeg) := inb_of S92 ⟨by decide, by decide⟩
  obtain ⟨T92, h92, X92, e92, W92, st92⟩ := stB X91 hx hZ e91 Ar92 (j := (1 : Int32)) hin92 (g := (mkF m 52 #[Rv a1, Iv 1, Iv cc] [(.int ((cc >>> ((8 : Int32) &&& 31)).toInt8.toInt32)), (.int 1), (.ref a1)])) rfl rfl (hb hby d22_52)
  have V92 : Arv Z h92 a1 k1 .byte (4 : Int32) [(.int ((cc >>> ((0 : Int32) &&& 31)).toInt8.toInt32).toInt8.toInt32), (.int ((cc >>> ((8 : Int32) &&& 31)).toInt8.toInt32).toInt8.toInt32), (.int w2), (.int w3)] (.int (0 : Int32)) := Arv.set Ar92 q92 S92 M92 H92 G92 (fits_nar_byte _) W92 1 rfl (Nat.le_of_ble_eq_true rfl)
  have Kp92 : Keep h0 h92 [a1] := Kp89.wr W92 (Or.inl (List.mem_of_getElem? (i := 0) rfl))
  have Zs92 : n0 ≤ h92.size := Nat.le_trans Zs89 (Keep.of_wr W92).1
  have N92 := Fr.snoc X92 N89 g_1
  have f93_0 : Old Z n0 h92 := f90_0.wr W92 g_1
  refine own_by (fun _ k => XS.i2b X91.here hx rfl (hb hby d22_51) rfl (st92 _ k)) ?_
  exact own_retV X92 hx hlk hret (hb hby d22_53) (by rw [e92]; exact ⟨rfl, N92, Kp92, (by have q := V92; simp only [own_b8] at q; exact q)⟩) (by decide) (by decide)
def own_QPC2_1 (Z : State) (a1 : Addr) (k1 : ClassId) (cc : Int32) (w0 w1 w2 w3 : Int32) (h0 : Heap) (n0 : Nat) (v : Option Value) (h : Heap) (L : List Loc) : Prop := v = none ∧ Fr n0 L ∧ Keep h0 h [a1] ∧ Arv Z h a1 k1 .byte (4 : Int32) [(.int w0), (.int w1), (.int (own_lo cc)), (.int (own_hi cc))] (.int (0 : Int32))
set_option maxRecDepth 65536 in
set_option maxHeartbeats 40000000 in
theorem rmPC2_1 (l : Launch) (Z : State) (a0 : Array Value) (hw : own_W a0 Z) (ws : List Jvm.Cond) (cs : Int32) (gS : Value) (a1 : Addr) (k1 : ClassId) (cc : Int32) (w0 w1 w2 w3 : Int32) (h0 : Heap) (n0 : Nat) (Z0 : n0 ≤ h0.size) (V_env : own_Env Z cs gS) (Od : Old Z n0 h0) (V1 : Arv Z h0 a1 k1 .byte (4 : Int32) [(.int w0), (.int w1), (.int w2), (.int w3)] (.int (0 : Int32))) (g_1 : n0 ≤ a1) : own_Met l Z mn5 jdk_52_method_4_code 3 none ws (own_R 0 0 0 0) #[(.ref a1), (.int (1 : Int32)), (.int cc)] h0 (own_QPC2_1 Z a1 k1 cc w0 w1 w2 w3 h0 n0) := by
  refine own_enter n0 (plainFor_of_name own_pn40) (fun m => ef_RII_3 m a1 (1 : Int32) cc ) (fun p e s m below meth c s₁ hx hby hlk hml hret hown hnm hZ X0 e0 N0 => ?_)
  show own_Fin _ _ _ _ _ _ _ s₁ (mkF m 0 #[Rv a1, Iv 1, Iv cc] [])
  have Kp94 : Keep h0 h0 [a1] := Keep.refl h0 _
  obtain ⟨T95, X95, e95, st95⟩ := getS2 X0 hx hZ hown (host := "") (Or.inl (own_g hw 98 rfl)) Via.refl e0 (V_env.1.ext Od.2) (g := (mkF m 0 #[Rv a1, Iv 1, Iv cc] [])) rfl (hb hby d22_0)
  refine own_by (fun _ k => st95 _ (XS.ifYes X95.here hx rfl (pc0 := 3) (pc' := 28) rfl (hb hby d22_3) rfl ((if0 _ _).trans (feq (by decide : ¬ ((1 : Int32) = (0 : Int32)))).2) (by decide) (by decide) (XS.iloadN X95.here hx rfl (hb hby d22_28) rfl (XS.iconst X95.here hx rfl (hb hby d22_29) (XS.ishl X95.here hx rfl (hb hby d22_30) rfl k))))) ?_
  show own_Fin _ _ _ _ _ _ _ T95 (mkF m 31 #[Rv a1, Iv 1, Iv cc] [(.int ((1 : Int32) <<< ((1 : Int32) &&& 31)))])
  rw [(by decide : ((1 : Int32) <<< ((1 : Int32) &&& 31)) = (2 : Int32))]
  show own_Fin _ _ _ _ _ _ _ T95 (mkF m 31 #[Rv a1, Iv 1, Iv cc] [(.int 2)])
  refine own_by (fun _ k => XS.istoreN X95.here hx rfl (hb hby d22_31) rfl (l' := #[Rv a1, Iv 2, Iv cc]) rfl (XS.aloadN X95.here hx rfl (hb hby d22_32) rfl rfl (XS.iloadN X95.here hx rfl (hb hby d22_33) rfl (XS.iinc X95.here hx rfl (hb hby d22_34) rfl (l' := #[Rv a1, Iv ((2 : Int32) + (1 : Int32)), Iv cc]) rfl k)))) ?_
  show own_Fin _ _ _ _ _ _ _ T95 (mkF m 37 #[Rv a1, Iv ((2 : Int32) + (1 : Int32)), Iv cc] [(.int 2), (.ref a1)])
  rw [(by decide : ((2 : Int32) + (1 : Int32)) = (3 : Int32))]
  show own_Fin _ _ _ _ _ _ _ T95 (mkF m 37 #[Rv a1, Iv 3, Iv cc] [(.int 2), (.ref a1)])
  obtain ⟨T96, X96, e96, st96⟩ := getS2 X95 hx hZ hown (host := "") (Or.inl (own_g hw 99 rfl)) Via.refl e95 (V_env.2.1.ext Od.2) (g := (mkF m 38 #[Rv a1, Iv 3, Iv cc] [(.int cc), (.int 2), (.ref a1)])) rfl (hb hby d22_38)
  obtain ⟨cl97, Ar97, q97, S97, M97, H97, G97⟩ := id V1
  have hin97 : ¬ ((2 : Int32) < 0 ∨ cl97.slots.size ≤ ((2 : Int32)).toNatClampNeg) := inb_of S97 ⟨by decide, by decide⟩
  obtain ⟨T97, h97, X97, e97, W97, st97⟩ := stB X96 hx hZ e96 Ar97 (j := (2 : Int32)) hin97 (g := (mkF m 43 #[Rv a1, Iv 3, Iv cc] [(.int ((cc >>> ((0 : Int32) &&& 31)).toInt8.toInt32)), (.int 2), (.ref a1)])) rfl rfl (hb hby d22_43)
  have V97 : Arv Z h97 a1 k1 .byte (4 : Int32) [(.int w0), (.int w1), (.int ((cc >>> ((0 : Int32) &&& 31)).toInt8.toInt32).toInt8.toInt32), (.int w3)] (.int (0 : Int32)) := Arv.set Ar97 q97 S97 M97 H97 G97 (fits_nar_byte _) W97 2 rfl (Nat.le_of_ble_eq_true rfl)
  have Kp97 : Keep h0 h97 [a1] := Kp94.wr W97 (Or.inl (List.mem_of_getElem? (i := 0) rfl))
  have Zs97 : n0 ≤ h97.size := Nat.le_trans Z0 (Keep.of_wr W97).1
  have N97 := Fr.snoc X97 N0 g_1
  have f98_0 : Old Z n0 h97 := Od.wr W97 g_1
  obtain ⟨T99, X99, e99, st99⟩ := getS2 X97 hx hZ hown (host := "") (Or.inl (own_g hw 100 rfl)) Via.refl e97 (V_env.2.2.1.ext f98_0.2) (g := (mkF m 47 #[Rv a1, Iv 3, Iv cc] [(.int cc), (.int 3), (.ref a1)])) rfl (hb hby d22_47)
  refine own_by (fun _ k => XS.iloadN X95.here hx rfl (hb hby d22_37) rfl (st96 _ (XS.ishr X96.here hx rfl (hb hby d22_41) rfl (XS.i2b X96.here hx rfl (hb hby d22_42) rfl (st97 _ (XS.aloadN X97.here hx rfl (hb hby d22_44) rfl rfl (XS.iloadN X97.here hx rfl (hb hby d22_45) rfl (XS.iloadN X97.here hx rfl (hb hby d22_46) rfl (st99 _ (XS.ishr X99.here hx rfl (hb hby d22_50) rfl k)))))))))) ?_
  show own_Fin _ _ _ _ _ _ _ T99 (mkF m 51 #[Rv a1, Iv 3, Iv cc] [(.int (cc >>> ((8 : Int32) &&& 31))), (.int 3), (.ref a1)])
  obtain ⟨cl100, Ar100, q100, S100, M100, H100, G100⟩ := id V97
  have hin100 : ¬ ((3 : Int32) < 0 ∨ cl100.slots.size ≤ ((3 : Int32)).toNatClampNeg) := inb_of S100 ⟨by decide, by decide⟩
  obtain ⟨T100, h100, X100, e100, W100, st100⟩ := stB X99 hx hZ e99 Ar100 (j := (3 : Int32)) hin100 (g := (mkF m 52 #[Rv a1, Iv 3, Iv cc] [(.int ((cc >>> ((8 : Int32) &&& 31)).toInt8.toInt32)), (.int 3), (.ref a1)])) rfl rfl (hb hby d22_52)
  have V100 : Arv Z h100 a1 k1 .byte (4 : Int32) [(.int w0), (.int w1), (.int ((cc >>> ((0 : Int32) &&& 31)).toInt8.toInt32).toInt8.toInt32), (.int ((cc >>> ((8 : Int32) &&& 31)).toInt8.toInt32).toInt8.toInt32)] (.int (0 : Int32)) := Arv.set Ar100 q100 S100 M100 H100 G100 (fits_nar_byte _) W100 3 rfl (Nat.le_of_ble_eq_true rfl)
  have Kp100 : Keep h0 h100 [a1] := Kp97.wr W100 (Or.inl (List.mem_of_getElem? (i := 0) rfl))
  have Zs100 : n0 ≤ h100.size := Nat.le_trans Zs97 (Keep.of_wr W100).1
  have N100 := Fr.snoc X100 N97 g_1
  have f101_0 : Old Z n0 h100 := f98_0.wr W100 g_1
  refine own_by (fun _ k => XS.i2b X99.here hx rfl (hb hby d22_51) rfl (st100 _ k)) ?_
  exact own_retV X100 hx hlk hret (hb hby d22_53) (by rw [e100]; exact ⟨rfl, N100, Kp100, (by have q := V100; simp only [own_b8] at q; exact q)⟩) (by decide) (by decide)
def own_QTB2 (Z : State) (x0 x1 : Int32) (h0 : Heap) (n0 : Nat) (v : Option Value) (h : Heap) (L : List Loc) : Prop := ∃ (a : Addr) (k : ClassId), v = some (.ref a) ∧ Fr n0 L ∧ Keep h0 h [] ∧ h0.size ≤ a ∧ Arv Z h a k .byte (4 : Int32) [(.int (own_lo x0)), (.int (own_hi x0)), (.int (own_lo x1)), (.int (own_hi x1))] (.int (0 : Int32))
set_option maxRecDepth 65536 in
set_option maxHeartbeats 40000000 in
theorem rmTB2 (l : Launch) (Z : State) (a0 : Array Value) (hw : own_W a0 Z) (ws : List Jvm.Cond) (cs : Int32) (gS : Value) (a1 : Addr) (kc : ClassId) (x0 x1 : Int32) (h0 : Heap) (n0 : Nat) (Z0 : n0 ≤ h0.size) (V_env : own_Env Z cs gS) (Od : Old Z n0 h0) (V1 : Arv Z h0 a1 kc .char (2 : Int32) [(.int x0), (.int x1)] (.int (0 : Int32))) : own_Met l Z mn6 jdk_52_method_14_code 5 (some (.array .byte)) ws (own_R 2 1 4 24) #[(.ref a1), (.int (0 : Int32)), (.int (2 : Int32))] h0 (own_QTB2 Z x0 x1 h0 n0) := by
  refine own_enter n0 (plainFor_of_name own_pn40) (fun m => ef_RII_5 m a1 (0 : Int32) (2 : Int32) ) (fun p e s m below meth c s₁ hx hby hlk hml hret hown hnm hZ X0 e0 N0 => ?_)
  show own_Fin _ _ _ _ _ _ _ s₁ (mkF m 0 #[Rv a1, Iv 0, Iv 2, Uv, Uv] [])
  have Kp102 : Keep h0 h0 [] := Keep.refl h0 _
  obtain ⟨_, _, ⟨T103, L103, k103, n103⟩, -, X103, ⟨Lc103, hQ103, l103, y103, z103⟩, st103⟩ := Jvm.LawKit.callS X0 hx (y := mn4) hown (mvT hZ (own_g hw 88 rfl)) (mvT hZ (own_g hw 89 rfl)) (mvT hZ (own_g hw 73 rfl)) (mvT hZ (own_g hw 90 rfl)) (by decide) (backOf (W := 0) (rmNBF2 l Z a0 hw []  h0 n0 Z0 ) hZ (own_g hw 90 rfl) (own_g hw 73 rfl) (by decide) (by decide)) (g := (mkF m 1 #[Rv a1, Iv 0, Iv 2, Uv, Uv] [(.int 2)])) rfl (by rw [hml]; rfl) (argsL := [(.int (2 : Int32))]) (rest := []) (lenOf own_pd81 rfl) rfl (own_z rfl) (hb hby d19_1) (fun _ _ => ⟨rfl, e0, (by decide : 0 + 1 ≤ _), (by decide : 0 + 4 ≤ _)⟩)
  dsimp only [Pt.U, Pt.locs, Pt.cells, Pt.slots] at X103 l103 y103 z103 st103 hQ103
  subst l103 y103 z103
  obtain ⟨b103, k103, rfl, Nq103, K103, ge103, V103⟩ := hQ103
  have N103 := Fr.app N0 Nq103
  have Zs103 : n0 ≤ T103.heap.size := Nat.le_trans Z0 K103.1
  have Kp103 : Keep h0 T103.heap [] := Kp102.trans K103 all0
  have f104_0 : Old Z n0 T103.heap := Od.keep K103 all0
  have f104_1 : Arv Z T103.heap a1 kc .char (2 : Int32) [(.int x0), (.int x1)] (.int (0 : Int32)) := V1.keep K103 nin0
  have ne103_a1 : a1 ≠ b103 := Nat.ne_of_lt (Nat.lt_of_lt_of_le V1.lt ge103)
  have gf103 : n0 ≤ b103 := Nat.le_trans Z0 ge103
  have sz_b103 : h0.size ≤ b103 := Nat.le_trans Kp102.1 ge103
  refine own_by (fun _ k => XS.iloadN X0.here hx rfl (hb hby d19_0) rfl (st103 _ (XS.astoreN X103.here hx rfl (hb hby d19_4) rfl rfl (l' := #[Rv a1, Iv 0, Iv 2, Rv b103, Uv]) rfl (XS.iconst X103.here hx rfl (hb hby d19_5) (XS.istore X103.here hx rfl (hb hby d19_6) rfl (l' := #[Rv a1, Iv 0, Iv 2, Rv b103, Iv 0]) rfl (XS.iload X103.here hx rfl (hb hby d19_8) rfl (XS.iloadN X103.here hx rfl (hb hby d19_10) rfl (XS.icmpNo X103.here hx rfl (hb hby d19_11) rfl (tlt (by decide : (0 : Int32) < (2 : Int32))).2.1 (XS.aloadN X103.here hx rfl (hb hby d19_14) rfl rfl (XS.iload X103.here hx rfl (hb hby d19_15) rfl k)))))))))) ?_
  show own_Fin _ _ _ _ _ _ _ T103 (mkF m 17 #[Rv a1, Iv 0, Iv 2, Rv b103, Iv 0] [(.int 0), (.ref b103)])
  obtain ⟨cl105, Ar105, -, S105, M105, H105, -⟩ := id f104_1
  have hin105 : ¬ ((0 : Int32) < 0 ∨ cl105.slots.size ≤ ((0 : Int32)).toNatClampNeg) := inb_of S105 ⟨by decide, by decide⟩
  have hat105 : cl105.slots[((0 : Int32)).toNatClampNeg]? = some (.int x0) := Has.at H105 hin105 rfl
  obtain ⟨_, _, ⟨T106, L106, k106, n106⟩, -, X106, ⟨Lc106, hQ106, l106, y106, z106⟩, st106⟩ := Jvm.LawKit.callS X103 hx (y := mn5) hown (mvT hZ (own_g hw 95 rfl)) (mvT hZ (own_g hw 96 rfl)) (mvT hZ (own_g hw 73 rfl)) (mvT hZ (own_g hw 97 rfl)) (by decide) (backOf (W := 0) (rmPC2_0 l Z a0 hw [] cs gS b103 k103 x0 (0 : Int32) (0 : Int32) (0 : Int32) (0 : Int32) T103.heap n0 Zs103 V_env f104_0 V103 gf103) hZ (own_g hw 97 rfl) (own_g hw 73 rfl) (by decide) (by decide)) (g := (mkF m 20 #[Rv a1, Iv 0, Iv 2, Rv b103, Iv 0] [(.int x0), (.int 0), (.ref b103)])) rfl (by rw [hml]; rfl) (argsL := [(.ref b103), (.int (0 : Int32)), (.int x0)]) (rest := []) (lenOf own_pd94 rfl) rfl (own_z rfl) (hb hby d19_20) (fun _ _ => ⟨rfl, rfl, (by decide : 1 + 0 ≤ _), (by decide : 4 + 0 ≤ _)⟩)
  dsimp only [Pt.U, Pt.locs, Pt.cells, Pt.slots] at X106 l106 y106 z106 st106 hQ106
  subst l106 y106 z106
  obtain ⟨rfl, Nq106, K106, Vr106⟩ := hQ106
  have N106 := Fr.app N103 Nq106
  have Zs106 : n0 ≤ T106.heap.size := Nat.le_trans Zs103 K106.1
  have Kp106 : Keep h0 T106.heap [] := Kp103.trans K106 (allS (Or.inr sz_b103) all0)
  have f107_0 : Old Z n0 T106.heap := f104_0.keep K106 (allS gf103 all0)
  have f107_1 : Arv Z T106.heap a1 kc .char (2 : Int32) [(.int x0), (.int x1)] (.int (0 : Int32)) := f104_1.keep K106 (ninS ne103_a1 nin0)
  refine own_by (fun _ k => XS.aloadN X103.here hx rfl (hb hby d19_17) rfl rfl (XS.iloadN X103.here hx rfl (hb hby d19_18) rfl (X103.caload hx (j := (0 : Int32)) (v := (.int x0)) Ar105.1 (State.isArrayOf_alike hZ.alike Ar105.2.1) Ar105.2.2 hin105 hat105 (g := (mkF m 19 #[Rv a1, Iv 0, Iv 2, Rv b103, Iv 0] [(.int 0), (.ref a1), (.int 0), (.ref b103)])) rfl rfl (hb hby d19_19) _ (st106 _ (XS.iinc X106.here hx rfl (hb hby d19_23) rfl (l' := #[Rv a1, Iv ((0 : Int32) + (1 : Int32)), Iv 2, Rv b103, Iv 0]) rfl k))))) ?_
  show own_Fin _ _ _ _ _ _ _ T106 (mkF m 26 #[Rv a1, Iv ((0 : Int32) + (1 : Int32)), Iv 2, Rv b103, Iv 0] [])
  rw [(by decide : ((0 : Int32) + (1 : Int32)) = (1 : Int32))]
  show own_Fin _ _ _ _ _ _ _ T106 (mkF m 26 #[Rv a1, Iv 1, Iv 2, Rv b103, Iv 0] [])
  refine own_by (fun _ k => XS.iinc X106.here hx rfl (hb hby d19_26) rfl (l' := #[Rv a1, Iv 1, Iv 2, Rv b103, Iv ((0 : Int32) + (1 : Int32))]) rfl k) ?_
  show own_Fin _ _ _ _ _ _ _ T106 (mkF m 29 #[Rv a1, Iv 1, Iv 2, Rv b103, Iv ((0 : Int32) + (1 : Int32))] [])
  rw [(by decide : ((0 : Int32) + (1 : Int32)) = (1 : Int32))]
  show own_Fin _ _ _ _ _ _ _ T106 (mkF m 29 #[Rv a1, Iv 1, Iv 2, Rv b103, Iv 1] [])
  obtain ⟨cl108, Ar108, -, S108, M108, H108, -⟩ := id f107_1
  have hin108 : ¬ ((1 : Int32) < 0 ∨ cl108.slots.size ≤ ((1 : Int32)).toNatClampNeg) := inb_of S108 ⟨by decide, by decide⟩
  have hat108 : cl108.slots[((1 : Int32)).toNatClampNeg]? = some (.int x1) := Has.at H108 hin108 rfl
  obtain ⟨_, _, ⟨T109, L109, k109, n109⟩, -, X109, ⟨Lc109, hQ109, l109, y109, z109⟩, st109⟩ := Jvm.LawKit.callS X106 hx (y := mn5) hown (mvT hZ (own_g hw 95 rfl)) (mvT hZ (own_g hw 96 rfl)) (mvT hZ (own_g hw 73 rfl)) (mvT hZ (own_g hw 97 rfl)) (by decide) (backOf (W := 0) (rmPC2_1 l Z a0 hw [] cs gS b103 k103 x1 (own_lo x0) (own_hi x0) (0 : Int32) (0 : Int32) T106.heap n0 Zs106 V_env f107_0 Vr106 gf103) hZ (own_g hw 97 rfl) (own_g hw 73 rfl) (by decide) (by decide)) (g := (mkF m 20 #[Rv a1, Iv 1, Iv 2, Rv b103, Iv 1] [(.int x1), (.int 1), (.ref b103)])) rfl (by rw [hml]; rfl) (argsL := [(.ref b103), (.int (1 : Int32)), (.int x1)]) (rest := []) (lenOf own_pd94 rfl) rfl (own_z rfl) (hb hby d19_20) (fun _ _ => ⟨rfl, rfl, (by decide : 1 + 0 ≤ _), (by decide : 4 + 0 ≤ _)⟩)
  dsimp only [Pt.U, Pt.locs, Pt.cells, Pt.slots] at X109 l109 y109 z109 st109 hQ109
  subst l109 y109 z109
  obtain ⟨rfl, Nq109, K109, Vr109⟩ := hQ109
  have N109 := Fr.app N106 Nq109
  have Zs109 : n0 ≤ T109.heap.size := Nat.le_trans Zs106 K109.1
  have Kp109 : Keep h0 T109.heap [] := Kp106.trans K109 (allS (Or.inr sz_b103) all0)
  have f110_0 : Old Z n0 T109.heap := f107_0.keep K109 (allS gf103 all0)
  have f110_1 : Arv Z T109.heap a1 kc .char (2 : Int32) [(.int x0), (.int x1)] (.int (0 : Int32)) := f107_1.keep K109 (ninS ne103_a1 nin0)
  refine own_by (fun _ k => XS.goto X106.here hx rfl (pc0 := 29) (pc' := 8) rfl (hb hby d19_29) (by decide) (by decide) (XS.iload X106.here hx rfl (hb hby d19_8) rfl (XS.iloadN X106.here hx rfl (hb hby d19_10) rfl (XS.icmpNo X106.here hx rfl (hb hby d19_11) rfl (tlt (by decide : (1 : Int32) < (2 : Int32))).2.1 (XS.aloadN X106.here hx rfl (hb hby d19_14) rfl rfl (XS.iload X106.here hx rfl (hb hby d19_15) rfl (XS.aloadN X106.here hx rfl (hb hby d19_17) rfl rfl (XS.iloadN X106.here hx rfl (hb hby d19_18) rfl (X106.caload hx (j := (1 : Int32)) (v := (.int x1)) Ar108.1 (State.isArrayOf_alike hZ.alike Ar108.2.1) Ar108.2.2 hin108 hat108 (g := (mkF m 19 #[Rv a1, Iv 1, Iv 2, Rv b103, Iv 1] [(.int 1), (.ref a1), (.int 1), (.ref b103)])) rfl rfl (hb hby d19_19) _ (st109 _ k)))))))))) ?_
  show own_Fin _ _ _ _ _ _ _ T109 (mkF m 23 #[Rv a1, Iv 1, Iv 2, Rv b103, Iv 1] [])
  refine own_by (fun _ k => XS.iinc X109.here hx rfl (hb hby d19_23) rfl (l' := #[Rv a1, Iv ((1 : Int32) + (1 : Int32)), Iv 2, Rv b103, Iv 1]) rfl k) ?_
  show own_Fin _ _ _ _ _ _ _ T109 (mkF m 26 #[Rv a1, Iv ((1 : Int32) + (1 : Int32)), Iv 2, Rv b103, Iv 1] [])
  rw [(by decide : ((1 : Int32) + (1 : Int32)) = (2 : Int32))]
  show own_Fin _ _ _ _ _ _ _ T109 (mkF m 26 #[Rv a1, Iv 2, Iv 2, Rv b103, Iv 1] [])
  refine own_by (fun _ k => XS.iinc X109.here hx rfl (hb hby d19_26) rfl (l' := #[Rv a1, Iv 2, Iv 2, Rv b103, Iv ((1 : Int32) + (1 : Int32))]) rfl k) ?_
  show own_Fin _ _ _ _ _ _ _ T109 (mkF m 29 #[Rv a1, Iv 2, Iv 2, Rv b103, Iv ((1 : Int32) + (1 : Int32))] [])
  rw [(by decide : ((1 : Int32) + (1 : Int32)) = (2 : Int32))]
  show own_Fin _ _ _ _ _ _ _ T109 (mkF m 29 #[Rv a1, Iv 2, Iv 2, Rv b103, Iv 2] [])
  refine own_by (fun _ k => XS.goto X109.here hx rfl (pc0 := 29) (pc' := 8) rfl (hb hby d19_29) (by decide) (by decide) (XS.iload X109.here hx rfl (hb hby d19_8) rfl (XS.iloadN X109.here hx rfl (hb hby d19_10) rfl (XS.icmpYes X109.here hx rfl (pc0 := 11) (pc' := 32) rfl (hb hby d19_11) rfl (flt (by decide : ¬ ((2 : Int32) < (2 : Int32)))).2.1 (by decide) (by decide) (XS.aloadN X109.here hx rfl (hb hby d19_32) rfl rfl k))))) ?_
  exact own_retA X109 hx hlk (t := (.array .byte)) hret rfl rfl rfl (hb hby d19_33) ⟨_, _, rfl, N109, Kp109, sz_b103, Vr109⟩ (by decide) (by decide)
def own_QrmGC2_0 (x0 x1 : Int32) (h0 : Heap) (n0 : Nat) (v : Option Value) (h : Heap) (L : List Loc) : Prop := v = some (.int x0) ∧ Fr n0 L ∧ h = h0
set_option maxRecDepth 65536 in
set_option maxHeartbeats 40000000 in
theorem rmGC2_0 (l : Launch) (Z : State) (a0 : Array Value) (hw : own_W a0 Z) (ws : List Jvm.Cond) (cs : Int32) (gS : Value) (a1 : Addr) (k1 : ClassId) (x0 x1 : Int32) (h0 : Heap) (n0 : Nat) (Z0 : n0 ≤ h0.size) (V_env : own_Env Z cs gS) (Od : Old Z n0 h0) (V1 : Arv Z h0 a1 k1 .byte (4 : Int32) [(.int (own_lo x0)), (.int (own_hi x0)), (.int (own_lo x1)), (.int (own_hi x1))] (.int (0 : Int32))) (hch : own_ch x0) : own_Met l Z mn7 jdk_52_method_5_code 2 (some .char) ws (own_R 0 0 0 0) #[(.ref a1), (.int (0 : Int32))] h0 (own_QrmGC2_0 x0 x1 h0 n0) := by
  refine own_enter n0 (plainFor_of_name own_pn40) (fun m => ef_RI_2 m a1 (0 : Int32) ) (fun p e s m below meth c s₁ hx hby hlk hml hret hown hnm hZ X0 e0 N0 => ?_)
  show own_Fin _ _ _ _ _ _ _ s₁ (mkF m 0 #[Rv a1, Iv 0] [])
  obtain ⟨T111, X111, e111, st111⟩ := getS2 X0 hx hZ hown (host := "") (Or.inl (own_g hw 98 rfl)) Via.refl e0 (V_env.1.ext Od.2) (g := (mkF m 0 #[Rv a1, Iv 0] [])) rfl (hb hby d23_0)
  refine own_by (fun _ k => st111 _ (XS.ifYes X111.here hx rfl (pc0 := 3) (pc' := 28) rfl (hb hby d23_3) rfl ((if0 _ _).trans (feq (by decide : ¬ ((1 : Int32) = (0 : Int32)))).2) (by decide) (by decide) (XS.iloadN X111.here hx rfl (hb hby d23_28) rfl (XS.iconst X111.here hx rfl (hb hby d23_29) (XS.ishl X111.here hx rfl (hb hby d23_30) rfl k))))) ?_
  show own_Fin _ _ _ _ _ _ _ T111 (mkF m 31 #[Rv a1, Iv 0] [(.int ((0 : Int32) <<< ((1 : Int32) &&& 31)))])
  rw [(by decide : ((0 : Int32) <<< ((1 : Int32) &&& 31)) = (0 : Int32))]
  show own_Fin _ _ _ _ _ _ _ T111 (mkF m 31 #[Rv a1, Iv 0] [(.int 0)])
  refine own_by (fun _ k => XS.istoreN X111.here hx rfl (hb hby d23_31) rfl (l' := #[Rv a1, Iv 0]) rfl (XS.aloadN X111.here hx rfl (hb hby d23_32) rfl rfl (XS.iloadN X111.here hx rfl (hb hby d23_33) rfl (XS.iinc X111.here hx rfl (hb hby d23_34) rfl (l' := #[Rv a1, Iv ((0 : Int32) + (1 : Int32))]) rfl k)))) ?_
  show own_Fin _ _ _ _ _ _ _ T111 (mkF m 37 #[Rv a1, Iv ((0 : Int32) + (1 : Int32))] [(.int 0), (.ref a1)])
  rw [(by decide : ((0 : Int32) + (1 : Int32)) = (1 : Int32))]
  show own_Fin _ _ _ _ _ _ _ T111 (mkF m 37 #[Rv a1, Iv 1] [(.int 0), (.ref a1)])
  obtain ⟨cl112, Ar112, -, S112, M112, H112, -⟩ := id V1
  have hin112 : ¬ ((0 : Int32) < 0 ∨ cl112.slots.size ≤ ((0 : Int32)).toNatClampNeg) := inb_of S112 ⟨by decide, by decide⟩
  have hat112 : cl112.slots[((0 : Int32)).toNatClampNeg]? = some (.int (own_lo x0)) := Has.at H112 hin112 rfl
  obtain ⟨T113, X113, e113, st113⟩ := getS2 X111 hx hZ hown (host := "") (Or.inl (own_g hw 99 rfl)) Via.refl e111 (V_env.2.1.ext Od.2) (g := (mkF m 42 #[Rv a1, Iv 1] [(.int ((own_lo x0) &&& (255 : Int32)))])) rfl (hb hby d23_42)
  obtain ⟨cl114, Ar114, -, S114, M114, H114, -⟩ := id V1
  have hin114 : ¬ ((1 : Int32) < 0 ∨ cl114.slots.size ≤ ((1 : Int32)).toNatClampNeg) := inb_of S114 ⟨by decide, by decide⟩
  have hat114 : cl114.slots[((1 : Int32)).toNatClampNeg]? = some (.int (own_hi x0)) := Has.at H114 hin114 rfl
  obtain ⟨T115, X115, e115, st115⟩ := getS2 X113 hx hZ hown (host := "") (Or.inl (own_g hw 100 rfl)) Via.refl e113 (V_env.2.2.1.ext Od.2) (g := (mkF m 53 #[Rv a1, Iv 1] [(.int ((own_hi x0) &&& (255 : Int32))), (.int (((own_lo x0) &&& (255 : Int32)) <<< ((0 : Int32) &&& 31)))])) rfl (hb hby d23_53)
  refine own_by (fun _ k => X111.baloadBytes hx (j := (0 : Int32)) (v := (.int (own_lo x0))) (by rw [e111]; exact Ar112.1) (State.isArrayOf_alike hZ.alike Ar112.2.1) Ar112.2.2 hin112 hat112 (g := (mkF m 37 #[Rv a1, Iv 1] [(.int 0), (.ref a1)])) rfl rfl (hb hby d23_37) _ (XS.sipush X111.here hx rfl (hb hby d23_38) (XS.iand X111.here hx rfl (hb hby d23_41) rfl (st113 _ (XS.ishl X113.here hx rfl (hb hby d23_45) rfl (XS.aloadN X113.here hx rfl (hb hby d23_46) rfl rfl (XS.iloadN X113.here hx rfl (hb hby d23_47) rfl (X113.baloadBytes hx (j := (1 : Int32)) (v := (.int (own_hi x0))) (by rw [e113]; exact Ar114.1) (State.isArrayOf_alike hZ.alike Ar114.2.1) Ar114.2.2 hin114 hat114 (g := (mkF m 48 #[Rv a1, Iv 1] [(.int 1), (.ref a1), (.int (((own_lo x0) &&& (255 : Int32)) <<< ((0 : Int32) &&& 31)))])) rfl rfl (hb hby d23_48) _ (XS.sipush X113.here hx rfl (hb hby d23_49) (XS.iand X113.here hx rfl (hb hby d23_52) rfl k)))))))))) ?_
  show own_Fin _ _ _ _ _ _ _ T113 (mkF m 53 #[Rv a1, Iv 1] [(.int ((own_hi x0) &&& (255 : Int32))), (.int (((own_lo x0) &&& (255 : Int32)) <<< ((0 : Int32) &&& 31)))])
  refine own_by (fun _ k => st115 _ (XS.ishl X115.here hx rfl (hb hby d23_56) rfl (XS.ior X115.here hx rfl (hb hby d23_57) rfl (XS.i2c X115.here hx rfl (hb hby d23_58) rfl k)))) ?_
  exact own_retZ X115 hx hlk (t := .char) hret (by simp) (hb hby d23_59) ⟨own_vi (own_u16 hch), N0, e115⟩ (by decide) (by decide)
def own_QrmGC2_1 (x0 x1 : Int32) (h0 : Heap) (n0 : Nat) (v : Option Value) (h : Heap) (L : List Loc) : Prop := v = some (.int x1) ∧ Fr n0 L ∧ h = h0
set_option maxRecDepth 65536 in
set_option maxHeartbeats 40000000 in
theorem rmGC2_1 (l : Launch) (Z : State) (a0 : Array Value) (hw : own_W a0 Z) (ws : List Jvm.Cond) (cs : Int32) (gS : Value) (a1 : Addr) (k1 : ClassId) (x0 x1 : Int32) (h0 : Heap) (n0 : Nat) (Z0 : n0 ≤ h0.size) (V_env : own_Env Z cs gS) (Od : Old Z n0 h0) (V1 : Arv Z h0 a1 k1 .byte (4 : Int32) [(.int (own_lo x0)), (.int (own_hi x0)), (.int (own_lo x1)), (.int (own_hi x1))] (.int (0 : Int32))) (hch : own_ch x1) : own_Met l Z mn7 jdk_52_method_5_code 2 (some .char) ws (own_R 0 0 0 0) #[(.ref a1), (.int (1 : Int32))] h0 (own_QrmGC2_1 x0 x1 h0 n0) := by
  refine own_enter n0 (plainFor_of_name own_pn40) (fun m => ef_RI_2 m a1 (1 : Int32) ) (fun p e s m below meth c s₁ hx hby hlk hml hret hown hnm hZ X0 e0 N0 => ?_)
  show own_Fin _ _ _ _ _ _ _ s₁ (mkF m 0 #[Rv a1, Iv 1] [])
  obtain ⟨T116, X116, e116, st116⟩ := getS2 X0 hx hZ hown (host := "") (Or.inl (own_g hw 98 rfl)) Via.refl e0 (V_env.1.ext Od.2) (g := (mkF m 0 #[Rv a1, Iv 1] [])) rfl (hb hby d23_0)
  refine own_by (fun _ k => st116 _ (XS.ifYes X116.here hx rfl (pc0 := 3) (pc' := 28) rfl (hb hby d23_3) rfl ((if0 _ _).trans (feq (by decide : ¬ ((1 : Int32) = (0 : Int32)))).2) (by decide) (by decide) (XS.iloadN X116.here hx rfl (hb hby d23_28) rfl (XS.iconst X116.here hx rfl (hb hby d23_29) (XS.ishl X116.here hx rfl (hb hby d23_30) rfl k))))) ?_
  show own_Fin _ _ _ _ _ _ _ T116 (mkF m 31 #[Rv a1, Iv 1] [(.int ((1 : Int32) <<< ((1 : Int32) &&& 31)))])
  rw [(by decide : ((1 : Int32) <<< ((1 : Int32) &&& 31)) = (2 : Int32))]
  show own_Fin _ _ _ _ _ _ _ T116 (mkF m 31 #[Rv a1, Iv 1] [(.int 2)])
  refine own_by (fun _ k => XS.istoreN X116.here hx rfl (hb hby d23_31) rfl (l' := #[Rv a1, Iv 2]) rfl (XS.aloadN X116.here hx rfl (hb hby d23_32) rfl rfl (XS.iloadN X116.here hx rfl (hb hby d23_33) rfl (XS.iinc X116.here hx rfl (hb hby d23_34) rfl (l' := #[Rv a1, Iv ((2 : Int32) + (1 : Int32))]) rfl k)))) ?_
  show own_Fin _ _ _ _ _ _ _ T116 (mkF m 37 #[Rv a1, Iv ((2 : Int32) + (1 : Int32))] [(.int 2), (.ref a1)])
  rw [(by decide : ((2 : Int32) + (1 : Int32)) = (3 : Int32))]
  show own_Fin _ _ _ _ _ _ _ T116 (mkF m 37 #[Rv a1, Iv 3] [(.int 2), (.ref a1)])
  obtain ⟨cl117, Ar117, -, S117, M117, H117, -⟩ := id V1
  have hin117 : ¬ ((2 : Int32) < 0 ∨ cl117.slots.size ≤ ((2 : Int32)).toNatClampNeg) := inb_of S117 ⟨by decide, by decide⟩
  have hat117 : cl117.slots[((2 : Int32)).toNatClampNeg]? = some (.int (own_lo x1)) := Has.at H117 hin117 rfl
  obtain ⟨T118, X118, e118, st118⟩ := getS2 X116 hx hZ hown (host := "") (Or.inl (own_g hw 99 rfl)) Via.refl e116 (V_env.2.1.ext Od.2) (g := (mkF m 42 #[Rv a1, Iv 3] [(.int ((own_lo x1) &&& (255 : Int32)))])) rfl (hb hby d23_42)
  obtain ⟨cl119, Ar119, -, S119, M119, H119, -⟩ := id V1
  have hin119 : ¬ ((3 : Int32) < 0 ∨ cl119.slots.size ≤ ((3 : Int32)).toNatClampNeg) := inb_of S119 ⟨by decide, by decide⟩
  have hat119 : cl119.slots[((3 : Int32)).toNatClampNeg]? = some (.int (own_hi x1)) := Has.at H119 hin119 rfl
  obtain ⟨T120, X120, e120, st120⟩ := getS2 X118 hx hZ hown (host := "") (Or.inl (own_g hw 100 rfl)) Via.refl e118 (V_env.2.2.1.ext Od.2) (g := (mkF m 53 #[Rv a1, Iv 3] [(.int ((own_hi x1) &&& (255 : Int32))), (.int (((own_lo x1) &&& (255 : Int32)) <<< ((0 : Int32) &&& 31)))])) rfl (hb hby d23_53)
  refine own_by (fun _ k => X116.baloadBytes hx (j := (2 : Int32)) (v := (.int (own_lo x1))) (by rw [e116]; exact Ar117.1) (State.isArrayOf_alike hZ.alike Ar117.2.1) Ar117.2.2 hin117 hat117 (g := (mkF m 37 #[Rv a1, Iv 3] [(.int 2), (.ref a1)])) rfl rfl (hb hby d23_37) _ (XS.sipush X116.here hx rfl (hb hby d23_38) (XS.iand X116.here hx rfl (hb hby d23_41) rfl (st118 _ (XS.ishl X118.here hx rfl (hb hby d23_45) rfl (XS.aloadN X118.here hx rfl (hb hby d23_46) rfl rfl (XS.iloadN X118.here hx rfl (hb hby d23_47) rfl (X118.baloadBytes hx (j := (3 : Int32)) (v := (.int (own_hi x1))) (by rw [e118]; exact Ar119.1) (State.isArrayOf_alike hZ.alike Ar119.2.1) Ar119.2.2 hin119 hat119 (g := (mkF m 48 #[Rv a1, Iv 3] [(.int 3), (.ref a1), (.int (((own_lo x1) &&& (255 : Int32)) <<< ((0 : Int32) &&& 31)))])) rfl rfl (hb hby d23_48) _ (XS.sipush X118.here hx rfl (hb hby d23_49) (XS.iand X118.here hx rfl (hb hby d23_52) rfl k)))))))))) ?_
  show own_Fin _ _ _ _ _ _ _ T118 (mkF m 53 #[Rv a1, Iv 3] [(.int ((own_hi x1) &&& (255 : Int32))), (.int (((own_lo x1) &&& (255 : Int32)) <<< ((0 : Int32) &&& 31)))])
  refine own_by (fun _ k => st120 _ (XS.ishl X120.here hx rfl (hb hby d23_56) rfl (XS.ior X120.here hx rfl (hb hby d23_57) rfl (XS.i2c X120.here hx rfl (hb hby d23_58) rfl k)))) ?_
  exact own_retZ X120 hx hlk (t := .char) hret (by simp) (hb hby d23_59) ⟨own_vi (own_u16 hch), N0, e120⟩ (by decide) (by decide)
def own_bad2 (r : Int32) (x0 x1 : Int32) : Prop := (r = (0 : Int32) ∧ (255 : Int32) < x0) ∨ (r = (1 : Int32) ∧ (255 : Int32) < x1)
def own_QXI2 (Z : State) (a3 : Addr) (kb : ClassId) (x0 x1 : Int32) (h0 : Heap) (n0 : Nat) (v : Option Value) (h : Heap) (L : List Loc) : Prop := ∃ r : Int32, v = some (.int r) ∧ Fr n0 L ∧ Keep h0 h [a3] ∧ ((r = (2 : Int32) ∧ Arv Z h a3 kb .byte (2 : Int32) [(.int x0.toInt8.toInt32), (.int x1.toInt8.toInt32)] (.int (0 : Int32)) ∧ ¬ (255 : Int32) < x0 ∧ ¬ (255 : Int32) < x1) ∨ own_bad2 r x0 x1)
set_option maxRecDepth 65536 in
set_option maxHeartbeats 40000000 in
theorem rmXI2 (l : Launch) (Z : State) (a0 : Array Value) (hw : own_W a0 Z) (ws : List Jvm.Cond) (a1 a3 : Addr) (kc kb : ClassId) (x0 x1 : Int32) (h0 : Heap) (n0 : Nat) (Z0 : n0 ≤ h0.size) (V1 : Arv Z h0 a1 kc .char (2 : Int32) [(.int x0), (.int x1)] (.int (0 : Int32))) (V3 : Arv Z h0 a3 kb .byte (2 : Int32) [(.int (0 : Int32)), (.int (0 : Int32))] (.int (0 : Int32))) (ne13 : a1 ≠ a3) (g_3 : n0 ≤ a3) : own_Met l Z mn8 jdk_52_method_21_code 7 (some .int) ws (own_R 0 0 0 0) #[(.ref a1), (.int (0 : Int32)), (.ref a3), (.int (0 : Int32)), (.int (2 : Int32))] h0 (own_QXI2 Z a3 kb x0 x1 h0 n0) := by
  refine own_enter n0 (plainFor_of_name own_pn40) (fun m => ef_RIRII_7 m a1 (0 : Int32) a3 (0 : Int32) (2 : Int32) ) (fun p e s m below meth c s₁ hx hby hlk hml hret hown hnm hZ X0 e0 N0 => ?_)
  show own_Fin _ _ _ _ _ _ _ s₁ (mkF m 0 #[Rv a1, Iv 0, Rv a3, Iv 0, Iv 2, Uv, Uv] [])
  have Kp121 : Keep h0 h0 [a3] := Keep.refl h0 _
  obtain ⟨cl122, Ar122, -, S122, M122, H122, -⟩ := id V1
  have hin122 : ¬ ((0 : Int32) < 0 ∨ cl122.slots.size ≤ ((0 : Int32)).toNatClampNeg) := inb_of S122 ⟨by decide, by decide⟩
  have hat122 : cl122.slots[((0 : Int32)).toNatClampNeg]? = some (.int x0) := Has.at H122 hin122 rfl
  refine own_by (fun _ k => XS.iconst X0.here hx rfl (hb hby d16_0) (XS.istore X0.here hx rfl (hb hby d16_1) rfl (l' := #[Rv a1, Iv 0, Rv a3, Iv 0, Iv 2, Iv 0, Uv]) rfl (XS.iload X0.here hx rfl (hb hby d16_3) rfl (XS.iload X0.here hx rfl (hb hby d16_5) rfl (XS.icmpNo X0.here hx rfl (hb hby d16_7) rfl (tlt (by decide : (0 : Int32) < (2 : Int32))).2.1 (XS.aloadN X0.here hx rfl (hb hby d16_10) rfl rfl (XS.iloadN X0.here hx rfl (hb hby d16_11) rfl (X0.caload hx (j := (0 : Int32)) (v := (.int x0)) (by rw [e0]; exact Ar122.1) (State.isArrayOf_alike hZ.alike Ar122.2.1) Ar122.2.2 hin122 hat122 (g := (mkF m 12 #[Rv a1, Iv 0, Rv a3, Iv 0, Iv 2, Iv 0, Uv] [(.int 0), (.ref a1)])) rfl rfl (hb hby d16_12) _ (XS.istore X0.here hx rfl (hb hby d16_13) rfl (l' := #[Rv a1, Iv 0, Rv a3, Iv 0, Iv 2, Iv 0, Iv x0]) rfl (XS.iload X0.here hx rfl (hb hby d16_15) rfl k)))))))))) ?_
  show own_Fin _ _ _ _ _ _ _ s₁ (mkF m 17 #[Rv a1, Iv 0, Rv a3, Iv 0, Iv 2, Iv 0, Iv x0] [(.int x0)])
  refine own_by (fun _ k => XS.sipush X0.here hx rfl (hb hby d16_17) k) ?_
  show own_Fin _ _ _ _ _ _ _ s₁ (mkF m 20 #[Rv a1, Iv 0, Rv a3, Iv 0, Iv 2, Iv 0, Iv x0] [(.int 255), (.int x0)])
  by_cases hc20_123 : (255 : Int32) < x0
  · show own_Fin _ _ _ _ _ _ _ s₁ (mkF m 20 #[Rv a1, Iv 0, Rv a3, Iv 0, Iv 2, Iv 0, Iv x0] [(.int 255), (.int x0)])
    refine own_by (fun _ k => XS.icmpNo X0.here hx rfl (hb hby d16_20) rfl (tlt hc20_123).2.2.2 (XS.iload X0.here hx rfl (hb hby d16_23) rfl k)) ?_
    exact own_retI X0 hx hlk hret (hb hby d16_25) (by rw [e0]; exact ⟨_, rfl, N0, Kp121, Or.inr (Or.inl ⟨rfl, hc20_123⟩)⟩) (by decide) (by decide)
  · show own_Fin _ _ _ _ _ _ _ s₁ (mkF m 20 #[Rv a1, Iv 0, Rv a3, Iv 0, Iv 2, Iv 0, Iv x0] [(.int 255), (.int x0)])
    obtain ⟨cl124, Ar124, q124, S124, M124, H124, G124⟩ := id V3
    have hin124 : ¬ ((0 : Int32) < 0 ∨ cl124.slots.size ≤ ((0 : Int32)).toNatClampNeg) := inb_of S124 ⟨by decide, by decide⟩
    obtain ⟨T124, h124, X124, e124, W124, st124⟩ := stB X0 hx hZ e0 Ar124 (j := (0 : Int32)) hin124 (g := (mkF m 31 #[Rv a1, Iv 0, Rv a3, Iv 0, Iv 2, Iv 0, Iv x0] [(.int (x0.toInt8.toInt32)), (.int 0), (.ref a3)])) rfl rfl (hb hby d16_31)
    have V124 : Arv Z h124 a3 kb .byte (2 : Int32) [(.int (x0.toInt8.toInt32).toInt8.toInt32), (.int (0 : Int32))] (.int (0 : Int32)) := Arv.set Ar124 q124 S124 M124 H124 G124 (fits_nar_byte _) W124 0 rfl (Nat.le_of_ble_eq_true rfl)
    have Kp124 : Keep h0 h124 [a3] := Kp121.wr W124 (Or.inl (List.mem_of_getElem? (i := 0) rfl))
    have Zs124 : n0 ≤ h124.size := Nat.le_trans Z0 (Keep.of_wr W124).1
    have N124 := Fr.snoc X124 N0 g_3
    have f125_0 : Arv Z h124 a1 kc .char (2 : Int32) [(.int x0), (.int x1)] (.int (0 : Int32)) := V1.other W124 ne13
    refine own_by (fun _ k => XS.icmpYes X0.here hx rfl (pc0 := 20) (pc' := 26) rfl (hb hby d16_20) rfl (flt hc20_123).2.2.2 (by decide) (by decide) (XS.aloadN X0.here hx rfl (hb hby d16_26) rfl rfl (XS.iloadN X0.here hx rfl (hb hby d16_27) rfl (XS.iload X0.here hx rfl (hb hby d16_28) rfl (XS.i2b X0.here hx rfl (hb hby d16_30) rfl (st124 _ (XS.iinc X124.here hx rfl (hb hby d16_32) rfl (l' := #[Rv a1, Iv ((0 : Int32) + (1 : Int32)), Rv a3, Iv 0, Iv 2, Iv 0, Iv x0]) rfl k))))))) ?_
    show own_Fin _ _ _ _ _ _ _ T124 (mkF m 35 #[Rv a1, Iv ((0 : Int32) + (1 : Int32)), Rv a3, Iv 0, Iv 2, Iv 0, Iv x0] [])
    rw [(by decide : ((0 : Int32) + (1 : Int32)) = (1 : Int32))]
    show own_Fin _ _ _ _ _ _ _ T124 (mkF m 35 #[Rv a1, Iv 1, Rv a3, Iv 0, Iv 2, Iv 0, Iv x0] [])
    refine own_by (fun _ k => XS.iinc X124.here hx rfl (hb hby d16_35) rfl (l' := #[Rv a1, Iv 1, Rv a3, Iv ((0 : Int32) + (1 : Int32)), Iv 2, Iv 0, Iv x0]) rfl k) ?_
    show own_Fin _ _ _ _ _ _ _ T124 (mkF m 38 #[Rv a1, Iv 1, Rv a3, Iv ((0 : Int32) + (1 : Int32)), Iv 2, Iv 0, Iv x0] [])
    rw [(by decide : ((0 : Int32) + (1 : Int32)) = (1 : Int32))]
    show own_Fin _ _ _ _ _ _ _ T124 (mkF m 38 #[Rv a1, Iv 1, Rv a3, Iv 1, Iv 2, Iv 0, Iv x0] [])
    refine own_by (fun _ k => XS.iinc X124.here hx rfl (hb hby d16_38) rfl (l' := #[Rv a1, Iv 1, Rv a3, Iv 1, Iv 2, Iv ((0 : Int32) + (1 : Int32)), Iv x0]) rfl k) ?_
    show own_Fin _ _ _ _ _ _ _ T124 (mkF m 41 #[Rv a1, Iv 1, Rv a3, Iv 1, Iv 2, Iv ((0 : Int32) + (1 : Int32)), Iv x0] [])
    rw [(by decide : ((0 : Int32) + (1 : Int32)) = (1 : Int32))]
    show own_Fin _ _ _ _ _ _ _ T124 (mkF m 41 #[Rv a1, Iv 1, Rv a3, Iv 1, Iv 2, Iv 1, Iv x0] [])
    obtain ⟨cl126, Ar126, -, S126, M126, H126, -⟩ := id f125_0
    have hin126 : ¬ ((1 : Int32) < 0 ∨ cl126.slots.size ≤ ((1 : Int32)).toNatClampNeg) := inb_of S126 ⟨by decide, by decide⟩
    have hat126 : cl126.slots[((1 : Int32)).toNatClampNeg]? = some (.int x1) := Has.at H126 hin126 rfl
    refine own_by (fun _ k => XS.goto X124.here hx rfl (pc0 := 41) (pc' := 3) rfl (hb hby d16_41) (by decide) (by decide) (XS.iload X124.here hx rfl (hb hby d16_3) rfl (XS.iload X124.here hx rfl (hb hby d16_5) rfl (XS.icmpNo X124.here hx rfl (hb hby d16_7) rfl (tlt (by decide : (1 : Int32) < (2 : Int32))).2.1 (XS.aloadN X124.here hx rfl (hb hby d16_10) rfl rfl (XS.iloadN X124.here hx rfl (hb hby d16_11) rfl (X124.caload hx (j := (1 : Int32)) (v := (.int x1)) (by rw [e124]; exact Ar126.1) (State.isArrayOf_alike hZ.alike Ar126.2.1) Ar126.2.2 hin126 hat126 (g := (mkF m 12 #[Rv a1, Iv 1, Rv a3, Iv 1, Iv 2, Iv 1, Iv x0] [(.int 1), (.ref a1)])) rfl rfl (hb hby d16_12) _ (XS.istore X124.here hx rfl (hb hby d16_13) rfl (l' := #[Rv a1, Iv 1, Rv a3, Iv 1, Iv 2, Iv 1, Iv x1]) rfl (XS.iload X124.here hx rfl (hb hby d16_15) rfl (XS.sipush X124.here hx rfl (hb hby d16_17) k)))))))))) ?_
    show own_Fin _ _ _ _ _ _ _ T124 (mkF m 20 #[Rv a1, Iv 1, Rv a3, Iv 1, Iv 2, Iv 1, Iv x1] [(.int 255), (.int x1)])
    by_cases hc20_127 : (255 : Int32) < x1
    · show own_Fin _ _ _ _ _ _ _ T124 (mkF m 20 #[Rv a1, Iv 1, Rv a3, Iv 1, Iv 2, Iv 1, Iv x1] [(.int 255), (.int x1)])
      refine own_by (fun _ k => XS.icmpNo X124.here hx rfl (hb hby d16_20) rfl (tlt hc20_127).2.2.2 (XS.iload X124.here hx rfl (hb hby d16_23) rfl k)) ?_
      exact own_retI X124 hx hlk hret (hb hby d16_25) (by rw [e124]; exact ⟨_, rfl, N124, Kp124, Or.inr (Or.inr ⟨rfl, hc20_127⟩)⟩) (by decide) (by decide)
    · show own_Fin _ _ _ _ _ _ _ T124 (mkF m 20 #[Rv a1, Iv 1, Rv a3, Iv 1, Iv 2, Iv 1, Iv x1] [(.int 255), (.int x1)])
      obtain ⟨cl128, Ar128, q128, S128, M128, H128, G128⟩ := id V124
      have hin128 : ¬ ((1 : Int32) < 0 ∨ cl128.slots.size ≤ ((1 : Int32)).toNatClampNeg) := inb_of S128 ⟨by decide, by decide⟩
      obtain ⟨T128, h128, X128, e128, W128, st128⟩ := stB X124 hx hZ e124 Ar128 (j := (1 : Int32)) hin128 (g := (mkF m 31 #[Rv a1, Iv 1, Rv a3, Iv 1, Iv 2, Iv 1, Iv x1] [(.int (x1.toInt8.toInt32)), (.int 1), (.ref a3)])) rfl rfl (hb hby d16_31)
      have V128 : Arv Z h128 a3 kb .byte (2 : Int32) [(.int (x0.toInt8.toInt32).toInt8.toInt32), (.int (x1.toInt8.toInt32).toInt8.toInt32)] (.int (0 : Int32)) := Arv.set Ar128 q128 S128 M128 H128 G128 (fits_nar_byte _) W128 1 rfl (Nat.le_of_ble_eq_true rfl)
      have Kp128 : Keep h0 h128 [a3] := Kp124.wr W128 (Or.inl (List.mem_of_getElem? (i := 0) rfl))
      have Zs128 : n0 ≤ h128.size := Nat.le_trans Zs124 (Keep.of_wr W128).1
      have N128 := Fr.snoc X128 N124 g_3
      have f129_0 : Arv Z h128 a1 kc .char (2 : Int32) [(.int x0), (.int x1)] (.int (0 : Int32)) := f125_0.other W128 ne13
      refine own_by (fun _ k => XS.icmpYes X124.here hx rfl (pc0 := 20) (pc' := 26) rfl (hb hby d16_20) rfl (flt hc20_127).2.2.2 (by decide) (by decide) (XS.aloadN X124.here hx rfl (hb hby d16_26) rfl rfl (XS.iloadN X124.here hx rfl (hb hby d16_27) rfl (XS.iload X124.here hx rfl (hb hby d16_28) rfl (XS.i2b X124.here hx rfl (hb hby d16_30) rfl (st128 _ (XS.iinc X128.here hx rfl (hb hby d16_32) rfl (l' := #[Rv a1, Iv ((1 : Int32) + (1 : Int32)), Rv a3, Iv 1, Iv 2, Iv 1, Iv x1]) rfl k))))))) ?_
      show own_Fin _ _ _ _ _ _ _ T128 (mkF m 35 #[Rv a1, Iv ((1 : Int32) + (1 : Int32)), Rv a3, Iv 1, Iv 2, Iv 1, Iv x1] [])
      rw [(by decide : ((1 : Int32) + (1 : Int32)) = (2 : Int32))]
      show own_Fin _ _ _ _ _ _ _ T128 (mkF m 35 #[Rv a1, Iv 2, Rv a3, Iv 1, Iv 2, Iv 1, Iv x1] [])
      refine own_by (fun _ k => XS.iinc X128.here hx rfl (hb hby d16_35) rfl (l' := #[Rv a1, Iv 2, Rv a3, Iv ((1 : Int32) + (1 : Int32)), Iv 2, Iv 1, Iv x1]) rfl k) ?_
      show own_Fin _ _ _ _ _ _ _ T128 (mkF m 38 #[Rv a1, Iv 2, Rv a3, Iv ((1 : Int32) + (1 : Int32)), Iv 2, Iv 1, Iv x1] [])
      rw [(by decide : ((1 : Int32) + (1 : Int32)) = (2 : Int32))]
      show own_Fin _ _ _ _ _ _ _ T128 (mkF m 38 #[Rv a1, Iv 2, Rv a3, Iv 2, Iv 2, Iv 1, Iv x1] [])
      refine own_by (fun _ k => XS.iinc X128.here hx rfl (hb hby d16_38) rfl (l' := #[Rv a1, Iv 2, Rv a3, Iv 2, Iv 2, Iv ((1 : Int32) + (1 : Int32)), Iv x1]) rfl k) ?_
      show own_Fin _ _ _ _ _ _ _ T128 (mkF m 41 #[Rv a1, Iv 2, Rv a3, Iv 2, Iv 2, Iv ((1 : Int32) + (1 : Int32)), Iv x1] [])
      rw [(by decide : ((1 : Int32) + (1 : Int32)) = (2 : Int32))]
      show own_Fin _ _ _ _ _ _ _ T128 (mkF m 41 #[Rv a1, Iv 2, Rv a3, Iv 2, Iv 2, Iv 2, Iv x1] [])
      refine own_by (fun _ k => XS.goto X128.here hx rfl (pc0 := 41) (pc' := 3) rfl (hb hby d16_41) (by decide) (by decide) (XS.iload X128.here hx rfl (hb hby d16_3) rfl (XS.iload X128.here hx rfl (hb hby d16_5) rfl (XS.icmpYes X128.here hx rfl (pc0 := 7) (pc' := 44) rfl (hb hby d16_7) rfl (flt (by decide : ¬ ((2 : Int32) < (2 : Int32)))).2.1 (by decide) (by decide) (XS.iload X128.here hx rfl (hb hby d16_44) rfl k))))) ?_
      exact own_retI X128 hx hlk hret (hb hby d16_46) (by rw [e128]; exact ⟨_, rfl, N128, Kp128, Or.inl ⟨rfl, (by have q := V128; simp only [own_b8] at q; exact q), hc20_123, hc20_127⟩⟩) (by decide) (by decide)
def own_QXO2 (Z : State) (x0 x1 : Int32) (h0 : Heap) (n0 : Nat) (v : Option Value) (h : Heap) (L : List Loc) : Prop := ∃ (a : Addr) (k : ClassId), v = some (.ref a) ∧ Fr n0 L ∧ Keep h0 h [] ∧ h0.size ≤ a ∧ ((Arv Z h a k .byte (2 : Int32) [(.int x0.toInt8.toInt32), (.int x1.toInt8.toInt32)] (.int (0 : Int32)) ∧ ¬ (255 : Int32) < x0 ∧ ¬ (255 : Int32) < x1) ∨ Arv Z h a k .byte (4 : Int32) [(.int (own_lo x0)), (.int (own_hi x0)), (.int (own_lo x1)), (.int (own_hi x1))] (.int (0 : Int32)))
set_option maxRecDepth 65536 in
set_option maxHeartbeats 40000000 in
theorem rmXO2 (l : Launch) (Z : State) (a0 : Array Value) (hw : own_W a0 Z) (ws : List Jvm.Cond) (cs : Int32) (gS : Value) (a1 : Addr) (kc : ClassId) (x0 x1 : Int32) (h0 : Heap) (n0 : Nat) (Z0 : n0 ≤ h0.size) (V_env : own_Env Z cs gS) (Od : Old Z n0 h0) (V1 : Arv Z h0 a1 kc .char (2 : Int32) [(.int x0), (.int x1)] (.int (0 : Int32))) (hx0 : own_ch x0) (hx1 : own_ch x1) : own_Met l Z mn9 jdk_52_method_16_code 6 (some (.array .byte)) ws (own_R 3 2 6 40) #[(.ref a1), (.int (0 : Int32)), (.int (2 : Int32))] h0 (own_QXO2 Z x0 x1 h0 n0) := by
  refine own_enter n0 (plainFor_of_name own_pn40) (fun m => ef_RII_6 m a1 (0 : Int32) (2 : Int32) ) (fun p e s m below meth c s₁ hx hby hlk hml hret hown hnm hZ X0 e0 N0 => ?_)
  show own_Fin _ _ _ _ _ _ _ s₁ (mkF m 0 #[Rv a1, Iv 0, Iv 2, Uv, Uv, Uv] [])
  have Kp130 : Keep h0 h0 [] := Keep.refl h0 _
  obtain ⟨T131, h131, k131, X131, e131, E131, A131, st131⟩ := newP X0 hx hZ (own_g hw 20 rfl) e0 (g := (mkF m 1 #[Rv a1, Iv 0, Iv 2, Uv, Uv, Uv] [(.int 2)])) rfl (hb hby d15_1) rfl (by decide) (cap := 2) (by decide) (by decide) (by decide) (by decide)
  obtain ⟨b131, g131⟩ : ∃ z, z = h0.size := ⟨_, rfl⟩
  rw [← g131] at A131 st131
  have V131 : Arv Z h131 b131 k131 .byte (2 : Int32) [(.int (0 : Int32)), (.int (0 : Int32))] (.int (0 : Int32)) := (Arv.new A131 (by decide)).pad (pad_rep [] (.int (0 : Int32)) 2)
  have ne131_a1 : a1 ≠ b131 := Nat.ne_of_lt (Nat.lt_of_lt_of_le V1.lt (Nat.le_of_eq g131.symm))
  have gf131 : n0 ≤ b131 := Nat.le_trans Z0 (Nat.le_of_eq g131.symm)
  have Zs131 : n0 ≤ h131.size := Nat.le_trans Z0 E131.1
  have Kp131 : Keep h0 h131 [] := Kp130.ext E131
  have sz_b131 : h0.size ≤ b131 := Nat.le_trans Kp130.1 (Nat.le_of_eq g131.symm)
  have f132_0 : Old Z n0 h131 := Od.ext E131
  have f132_1 : Arv Z h131 a1 kc .char (2 : Int32) [(.int x0), (.int x1)] (.int (0 : Int32)) := V1.ext E131
  obtain ⟨_, _, ⟨T133, L133, k133, n133⟩, -, X133, ⟨Lc133, hQ133, l133, y133, z133⟩, st133⟩ := Jvm.LawKit.callS X131 hx (y := mn8) hown (mvT hZ (own_g hw 75 rfl)) (mvT hZ (own_g hw 76 rfl)) (mvT hZ (own_g hw 73 rfl)) (mvT hZ (own_g hw 77 rfl)) (by decide) (backOf (W := 0) (rmXI2 l Z a0 hw [] a1 b131 kc k131 x0 x1 h131 n0 Zs131 f132_1 V131 ne131_a1 gf131) hZ (own_g hw 77 rfl) (own_g hw 73 rfl) (by decide) (by decide)) (g := (mkF m 9 #[Rv a1, Iv 0, Iv 2, Rv b131, Uv, Uv] [(.int 2), (.int 0), (.ref b131), (.int 0), (.ref a1)])) rfl (by rw [hml]; rfl) (argsL := [(.ref a1), (.int (0 : Int32)), (.ref b131), (.int (0 : Int32)), (.int (2 : Int32))]) (rest := []) (lenOf own_pd161 rfl) rfl (own_z rfl) (hb hby d15_9) (fun _ _ => ⟨rfl, e131, (by decide : 1 + 0 ≤ _), (by decide : 2 + 0 ≤ _)⟩)
  dsimp only [Pt.U, Pt.locs, Pt.cells, Pt.slots] at X133 l133 y133 z133 st133 hQ133
  subst l133 y133 z133
  obtain ⟨r133, rfl, Nq133, K133, hd133⟩ := hQ133
  have N133 := Fr.app N0 Nq133
  have Zs133 : n0 ≤ T133.heap.size := Nat.le_trans Zs131 K133.1
  have Kp133 : Keep h0 T133.heap [] := Kp131.trans K133 (allS (Or.inr sz_b131) all0)
  have f134_0 : Old Z n0 T133.heap := f132_0.keep K133 (allS gf131 all0)
  have f134_1 : Arv Z T133.heap a1 kc .char (2 : Int32) [(.int x0), (.int x1)] (.int (0 : Int32)) := f132_1.keep K133 (ninS ne131_a1 nin0)
  refine own_by (fun _ k => XS.iloadN X0.here hx rfl (hb hby d15_0) rfl (st131 _ (XS.astoreN X131.here hx rfl (hb hby d15_3) rfl rfl (l' := #[Rv a1, Iv 0, Iv 2, Rv b131, Uv, Uv]) rfl (XS.aloadN X131.here hx rfl (hb hby d15_4) rfl rfl (XS.iloadN X131.here hx rfl (hb hby d15_5) rfl (XS.aloadN X131.here hx rfl (hb hby d15_6) rfl rfl (XS.iconst X131.here hx rfl (hb hby d15_7) (XS.iloadN X131.here hx rfl (hb hby d15_8) rfl (st133 _ k))))))))) ?_
  rcases hd133 with ⟨rfl, Vr133, hk0, hk1⟩ | ⟨rfl, hb0⟩ | ⟨rfl, hb1⟩
  · show own_Fin _ _ _ _ _ _ _ T133 (mkF m 12 #[Rv a1, Iv 0, Iv 2, Rv b131, Uv, Uv] [(.int 2)])
    refine own_by (fun _ k => XS.istore X133.here hx rfl (hb hby d15_12) rfl (l' := #[Rv a1, Iv 0, Iv 2, Rv b131, Iv 2, Uv]) rfl (XS.iload X133.here hx rfl (hb hby d15_14) rfl (XS.iloadN X133.here hx rfl (hb hby d15_16) rfl (XS.icmpYes X133.here hx rfl (pc0 := 17) (pc' := 57) rfl (hb hby d15_17) rfl (teq (by decide : (2 : Int32) = (2 : Int32))).1 (by decide) (by decide) (XS.aloadN X133.here hx rfl (hb hby d15_57) rfl rfl k))))) ?_
    exact own_retA X133 hx hlk (t := (.array .byte)) hret rfl rfl rfl (hb hby d15_58) ⟨_, _, rfl, N133, Kp133, sz_b131, Or.inl ⟨Vr133, hk0, hk1⟩⟩ (by decide) (by decide)
  · show own_Fin _ _ _ _ _ _ _ T133 (mkF m 12 #[Rv a1, Iv 0, Iv 2, Rv b131, Uv, Uv] [(.int 0)])
    obtain ⟨_, _, ⟨T135, L135, k135, n135⟩, -, X135, ⟨Lc135, hQ135, l135, y135, z135⟩, st135⟩ := Jvm.LawKit.callS X133 hx (y := mn6) hown (mvT hZ (own_g hw 85 rfl)) (mvT hZ (own_g hw 86 rfl)) (mvT hZ (own_g hw 73 rfl)) (mvT hZ (own_g hw 87 rfl)) (by decide) (backOf (W := 0) (rmTB2 l Z a0 hw [] cs gS a1 kc x0 x1 T133.heap n0 Zs133 V_env f134_0 f134_1) hZ (own_g hw 87 rfl) (own_g hw 73 rfl) (by decide) (by decide)) (g := (mkF m 23 #[Rv a1, Iv 0, Iv 2, Rv b131, Iv 0, Uv] [(.int 2), (.int 0), (.ref a1)])) rfl (by rw [hml]; rfl) (argsL := [(.ref a1), (.int (0 : Int32)), (.int (2 : Int32))]) (rest := []) (lenOf own_pd172 rfl) rfl (own_z rfl) (hb hby d15_23) (fun _ _ => ⟨rfl, rfl, (by decide : 1 + 1 ≤ _), (by decide : 2 + 4 ≤ _)⟩)
    dsimp only [Pt.U, Pt.locs, Pt.cells, Pt.slots] at X135 l135 y135 z135 st135 hQ135
    subst l135 y135 z135
    obtain ⟨b135, k135, rfl, Nq135, K135, ge135, V135⟩ := hQ135
    have N135 := Fr.app N133 Nq135
    have Zs135 : n0 ≤ T135.heap.size := Nat.le_trans Zs133 K135.1
    have Kp135 : Keep h0 T135.heap [] := Kp133.trans K135 all0
    have f136_0 : Old Z n0 T135.heap := f134_0.keep K135 all0
    have f136_1 : Arv Z T135.heap a1 kc .char (2 : Int32) [(.int x0), (.int x1)] (.int (0 : Int32)) := f134_1.keep K135 nin0
    have ne135_a1 : a1 ≠ b135 := Nat.ne_of_lt (Nat.lt_of_lt_of_le f134_1.lt ge135)
    have gf135 : n0 ≤ b135 := Nat.le_trans Zs133 ge135
    have sz_b135 : h0.size ≤ b135 := Nat.le_trans Kp133.1 ge135
    refine own_by (fun _ k => XS.istore X133.here hx rfl (hb hby d15_12) rfl (l' := #[Rv a1, Iv 0, Iv 2, Rv b131, Iv 0, Uv]) rfl (XS.iload X133.here hx rfl (hb hby d15_14) rfl (XS.iloadN X133.here hx rfl (hb hby d15_16) rfl (XS.icmpNo X133.here hx rfl (hb hby d15_17) rfl (feq (by decide : ¬ ((0 : Int32) = (2 : Int32)))).1 (XS.aloadN X133.here hx rfl (hb hby d15_20) rfl rfl (XS.iloadN X133.here hx rfl (hb hby d15_21) rfl (XS.iloadN X133.here hx rfl (hb hby d15_22) rfl (st135 _ (XS.astore X135.here hx rfl (hb hby d15_26) rfl rfl (l' := #[Rv a1, Iv 0, Iv 2, Rv b131, Iv 0, Rv b135]) rfl (XS.aload X135.here hx rfl (hb hby d15_28) rfl rfl k)))))))))) ?_
    show own_Fin _ _ _ _ _ _ _ T135 (mkF m 30 #[Rv a1, Iv 0, Iv 2, Rv b131, Iv 0, Rv b135] [(.ref b135)])
    obtain ⟨_, _, ⟨T137, L137, k137, n137⟩, -, X137, ⟨Lc137, hQ137, l137, y137, z137⟩, st137⟩ := Jvm.LawKit.callS X135 hx (y := mn7) hown (mvT hZ (own_g hw 101 rfl)) (mvT hZ (own_g hw 102 rfl)) (mvT hZ (own_g hw 73 rfl)) (mvT hZ (own_g hw 103 rfl)) (by decide) (backOf (W := 0) (rmGC2_0 l Z a0 hw [] cs gS b135 k135 x0 x1 T135.heap n0 Zs135 V_env f136_0 V135 hx0) hZ (own_g hw 103 rfl) (own_g hw 73 rfl) (by decide) (by decide)) (g := (mkF m 32 #[Rv a1, Iv 0, Iv 2, Rv b131, Iv 0, Rv b135] [(.int 0), (.ref b135)])) rfl (by rw [hml]; rfl) (argsL := [(.ref b135), (.int (0 : Int32))]) (rest := []) (lenOf own_pd177 rfl) rfl (own_z rfl) (hb hby d15_32) (fun _ _ => ⟨rfl, rfl, (by decide : 2 + 0 ≤ _), (by decide : 6 + 0 ≤ _)⟩)
    dsimp only [Pt.U, Pt.locs, Pt.cells, Pt.slots] at X137 l137 y137 z137 st137 hQ137
    subst l137 y137 z137
    obtain ⟨rfl, Nq137, eh137⟩ := hQ137
    have N137 := Fr.app N135 Nq137
    refine own_by (fun _ k => XS.iload X135.here hx rfl (hb hby d15_30) rfl (st137 _ (XS.sipush X137.here hx rfl (hb hby d15_35) (XS.icmpYes X137.here hx rfl (pc0 := 38) (pc' := 54) rfl (hb hby d15_38) rfl (tlt hb0).2.2.1 (by decide) (by decide) (XS.aload X137.here hx rfl (hb hby d15_54) rfl rfl k))))) ?_
    exact own_retA X137 hx hlk (t := (.array .byte)) hret rfl rfl rfl (hb hby d15_56) (by rw [eh137]; exact ⟨_, _, rfl, N137, Kp135, sz_b135, Or.inr V135⟩) (by decide) (by decide)
  · show own_Fin _ _ _ _ _ _ _ T133 (mkF m 12 #[Rv a1, Iv 0, Iv 2, Rv b131, Uv, Uv] [(.int 1)])
    obtain ⟨_, _, ⟨T138, L138, k138, n138⟩, -, X138, ⟨Lc138, hQ138, l138, y138, z138⟩, st138⟩ := Jvm.LawKit.callS X133 hx (y := mn6) hown (mvT hZ (own_g hw 85 rfl)) (mvT hZ (own_g hw 86 rfl)) (mvT hZ (own_g hw 73 rfl)) (mvT hZ (own_g hw 87 rfl)) (by decide) (backOf (W := 0) (rmTB2 l Z a0 hw [] cs gS a1 kc x0 x1 T133.heap n0 Zs133 V_env f134_0 f134_1) hZ (own_g hw 87 rfl) (own_g hw 73 rfl) (by decide) (by decide)) (g := (mkF m 23 #[Rv a1, Iv 0, Iv 2, Rv b131, Iv 1, Uv] [(.int 2), (.int 0), (.ref a1)])) rfl (by rw [hml]; rfl) (argsL := [(.ref a1), (.int (0 : Int32)), (.int (2 : Int32))]) (rest := []) (lenOf own_pd172 rfl) rfl (own_z rfl) (hb hby d15_23) (fun _ _ => ⟨rfl, rfl, (by decide : 1 + 1 ≤ _), (by decide : 2 + 4 ≤ _)⟩)
    dsimp only [Pt.U, Pt.locs, Pt.cells, Pt.slots] at X138 l138 y138 z138 st138 hQ138
    subst l138 y138 z138
    obtain ⟨b138, k138, rfl, Nq138, K138, ge138, V138⟩ := hQ138
    have N138 := Fr.app N133 Nq138
    have Zs138 : n0 ≤ T138.heap.size := Nat.le_trans Zs133 K138.1
    have Kp138 : Keep h0 T138.heap [] := Kp133.trans K138 all0
    have f139_0 : Old Z n0 T138.heap := f134_0.keep K138 all0
    have f139_1 : Arv Z T138.heap a1 kc .char (2 : Int32) [(.int x0), (.int x1)] (.int (0 : Int32)) := f134_1.keep K138 nin0
    have ne138_a1 : a1 ≠ b138 := Nat.ne_of_lt (Nat.lt_of_lt_of_le f134_1.lt ge138)
    have gf138 : n0 ≤ b138 := Nat.le_trans Zs133 ge138
    have sz_b138 : h0.size ≤ b138 := Nat.le_trans Kp133.1 ge138
    refine own_by (fun _ k => XS.istore X133.here hx rfl (hb hby d15_12) rfl (l' := #[Rv a1, Iv 0, Iv 2, Rv b131, Iv 1, Uv]) rfl (XS.iload X133.here hx rfl (hb hby d15_14) rfl (XS.iloadN X133.here hx rfl (hb hby d15_16) rfl (XS.icmpNo X133.here hx rfl (hb hby d15_17) rfl (feq (by decide : ¬ ((1 : Int32) = (2 : Int32)))).1 (XS.aloadN X133.here hx rfl (hb hby d15_20) rfl rfl (XS.iloadN X133.here hx rfl (hb hby d15_21) rfl (XS.iloadN X133.here hx rfl (hb hby d15_22) rfl (st138 _ (XS.astore X138.here hx rfl (hb hby d15_26) rfl rfl (l' := #[Rv a1, Iv 0, Iv 2, Rv b131, Iv 1, Rv b138]) rfl (XS.aload X138.here hx rfl (hb hby d15_28) rfl rfl k)))))))))) ?_
    show own_Fin _ _ _ _ _ _ _ T138 (mkF m 30 #[Rv a1, Iv 0, Iv 2, Rv b131, Iv 1, Rv b138] [(.ref b138)])
    obtain ⟨_, _, ⟨T140, L140, k140, n140⟩, -, X140, ⟨Lc140, hQ140, l140, y140, z140⟩, st140⟩ := Jvm.LawKit.callS X138 hx (y := mn7) hown (mvT hZ (own_g hw 101 rfl)) (mvT hZ (own_g hw 102 rfl)) (mvT hZ (own_g hw 73 rfl)) (mvT hZ (own_g hw 103 rfl)) (by decide) (backOf (W := 0) (rmGC2_1 l Z a0 hw [] cs gS b138 k138 x0 x1 T138.heap n0 Zs138 V_env f139_0 V138 hx1) hZ (own_g hw 103 rfl) (own_g hw 73 rfl) (by decide) (by decide)) (g := (mkF m 32 #[Rv a1, Iv 0, Iv 2, Rv b131, Iv 1, Rv b138] [(.int 1), (.ref b138)])) rfl (by rw [hml]; rfl) (argsL := [(.ref b138), (.int (1 : Int32))]) (rest := []) (lenOf own_pd177 rfl) rfl (own_z rfl) (hb hby d15_32) (fun _ _ => ⟨rfl, rfl, (by decide : 2 + 0 ≤ _), (by decide : 6 + 0 ≤ _)⟩)
    dsimp only [Pt.U, Pt.locs, Pt.cells, Pt.slots] at X140 l140 y140 z140 st140 hQ140
    subst l140 y140 z140
    obtain ⟨rfl, Nq140, eh140⟩ := hQ140
    have N140 := Fr.app N138 Nq140
    refine own_by (fun _ k => XS.iload X138.here hx rfl (hb hby d15_30) rfl (st140 _ (XS.sipush X140.here hx rfl (hb hby d15_35) (XS.icmpYes X140.here hx rfl (pc0 := 38) (pc' := 54) rfl (hb hby d15_38) rfl (tlt hb1).2.2.1 (by decide) (by decide) (XS.aload X140.here hx rfl (hb hby d15_54) rfl rfl k))))) ?_
    exact own_retA X140 hx hlk (t := (.array .byte)) hret rfl rfl rfl (hb hby d15_56) (by rw [eh140]; exact ⟨_, _, rfl, N140, Kp138, sz_b138, Or.inr V138⟩) (by decide) (by decide)
def own_Qcl2_2 (h0 : Heap) (n0 : Nat) (v : Option Value) (h : Heap) (L : List Loc) : Prop := v = some (.int (0 : Int32)) ∧ Fr n0 L ∧ h = h0
set_option maxRecDepth 65536 in
set_option maxHeartbeats 40000000 in
theorem rmCL2_2 (l : Launch) (Z : State) (a0 : Array Value) (hw : own_W a0 Z) (ws : List Jvm.Cond) (a1 : Addr) (k1 : ClassId) (vs : List Value) (h0 : Heap) (n0 : Nat) (Z0 : n0 ≤ h0.size) (V1 : Arv Z h0 a1 k1 .byte (2 : Int32) vs (.int (0 : Int32))) : own_Met l Z mn10 jdk_52_method_15_code 2 (some .byte) ws (own_R 0 0 0 0) #[(.ref a1), (.int (2 : Int32))] h0 (own_Qcl2_2 h0 n0) := by
  refine own_enter n0 (plainFor_of_name own_pn40) (fun m => ef_RI_2 m a1 (2 : Int32) ) (fun p e s m below meth c s₁ hx hby hlk hml hret hown hnm hZ X0 e0 N0 => ?_)
  show own_Fin _ _ _ _ _ _ _ s₁ (mkF m 0 #[Rv a1, Iv 2] [])
  obtain ⟨cl141, Ar141, -, S141, M141, -, -⟩ := id V1
  refine own_by (fun _ k => XS.iloadN X0.here hx rfl (hb hby d17_0) rfl (XS.aloadN X0.here hx rfl (hb hby d17_1) rfl rfl (X0.arraylength hx (by rw [e0]; exact Ar141.1) (State.isArrayOf_alike hZ.alike Ar141.2.1) (g := (mkF m 2 #[Rv a1, Iv 2] [(.ref a1), (.int 2)])) rfl rfl (hb hby d17_2) _ k))) ?_
  rw [len_of S141 M141]
  show own_Fin _ _ _ _ _ _ _ s₁ (mkF m 3 #[Rv a1, Iv 2] [(.int 2), (.int 2)])
  refine own_by (fun _ k => XS.isub X0.here hx rfl (hb hby d17_3) rfl k) ?_
  show own_Fin _ _ _ _ _ _ _ s₁ (mkF m 4 #[Rv a1, Iv 2] [(.int ((2 : Int32) - (2 : Int32)))])
  rw [(by decide : ((2 : Int32) - (2 : Int32)) = (0 : Int32))]
  show own_Fin _ _ _ _ _ _ _ s₁ (mkF m 4 #[Rv a1, Iv 2] [(.int 0)])
  refine own_by (fun _ k => XS.bipush X0.here hx rfl (hb hby d17_4) (XS.iushr X0.here hx rfl (hb hby d17_6) rfl k)) ?_
  show own_Fin _ _ _ _ _ _ _ s₁ (mkF m 7 #[Rv a1, Iv 2] [(.int (((0 : Int32).toUInt32 >>> ((31 : Int32) &&& 31).toUInt32).toInt32))])
  rw [(by decide : (((0 : Int32).toUInt32 >>> ((31 : Int32) &&& 31).toUInt32).toInt32) = (0 : Int32))]
  show own_Fin _ _ _ _ _ _ _ s₁ (mkF m 7 #[Rv a1, Iv 2] [(.int 0)])
  refine own_by (fun _ k => XS.i2b X0.here hx rfl (hb hby d17_7) rfl k) ?_
  show own_Fin _ _ _ _ _ _ _ s₁ (mkF m 8 #[Rv a1, Iv 2] [(.int ((0 : Int32).toInt8.toInt32))])
  rw [(by decide : ((0 : Int32).toInt8.toInt32) = (0 : Int32))]
  show own_Fin _ _ _ _ _ _ _ s₁ (mkF m 8 #[Rv a1, Iv 2] [(.int 0)])
  exact own_retZ X0 hx hlk (t := .byte) hret (by simp) (hb hby d17_8) ⟨rfl, N0, e0⟩ (by decide) (by decide)
def own_Qcl2_4 (h0 : Heap) (n0 : Nat) (v : Option Value) (h : Heap) (L : List Loc) : Prop := v = some (.int (1 : Int32)) ∧ Fr n0 L ∧ h = h0
set_option maxRecDepth 65536 in
set_option maxHeartbeats 40000000 in
theorem rmCL2_4 (l : Launch) (Z : State) (a0 : Array Value) (hw : own_W a0 Z) (ws : List Jvm.Cond) (a1 : Addr) (k1 : ClassId) (vs : List Value) (h0 : Heap) (n0 : Nat) (Z0 : n0 ≤ h0.size) (V1 : Arv Z h0 a1 k1 .byte (4 : Int32) vs (.int (0 : Int32))) : own_Met l Z mn10 jdk_52_method_15_code 2 (some .byte) ws (own_R 0 0 0 0) #[(.ref a1), (.int (2 : Int32))] h0 (own_Qcl2_4 h0 n0) := by
  refine own_enter n0 (plainFor_of_name own_pn40) (fun m => ef_RI_2 m a1 (2 : Int32) ) (fun p e s m below meth c s₁ hx hby hlk hml hret hown hnm hZ X0 e0 N0 => ?_)
  show own_Fin _ _ _ _ _ _ _ s₁ (mkF m 0 #[Rv a1, Iv 2] [])
  obtain ⟨cl142, Ar142, -, S142, M142, -, -⟩ := id V1
  refine own_by (fun _ k => XS.iloadN X0.here hx rfl (hb hby d17_0) rfl (XS.aloadN X0.here hx rfl (hb hby d17_1) rfl rfl (X0.arraylength hx (by rw [e0]; exact Ar142.1) (State.isArrayOf_alike hZ.alike Ar142.2.1) (g := (mkF m 2 #[Rv a1, Iv 2] [(.ref a1), (.int 2)])) rfl rfl (hb hby d17_2) _ k))) ?_
  rw [len_of S142 M142]
  show own_Fin _ _ _ _ _ _ _ s₁ (mkF m 3 #[Rv a1, Iv 2] [(.int 4), (.int 2)])
  refine own_by (fun _ k => XS.isub X0.here hx rfl (hb hby d17_3) rfl k) ?_
  show own_Fin _ _ _ _ _ _ _ s₁ (mkF m 4 #[Rv a1, Iv 2] [(.int ((2 : Int32) - (4 : Int32)))])
  rw [(by decide : ((2 : Int32) - (4 : Int32)) = (-2 : Int32))]
  show own_Fin _ _ _ _ _ _ _ s₁ (mkF m 4 #[Rv a1, Iv 2] [(.int (-2))])
  refine own_by (fun _ k => XS.bipush X0.here hx rfl (hb hby d17_4) (XS.iushr X0.here hx rfl (hb hby d17_6) rfl k)) ?_
  show own_Fin _ _ _ _ _ _ _ s₁ (mkF m 7 #[Rv a1, Iv 2] [(.int (((-2 : Int32).toUInt32 >>> ((31 : Int32) &&& 31).toUInt32).toInt32))])
  rw [(by decide : (((-2 : Int32).toUInt32 >>> ((31 : Int32) &&& 31).toUInt32).toInt32) = (1 : Int32))]
  show own_Fin _ _ _ _ _ _ _ s₁ (mkF m 7 #[Rv a1, Iv 2] [(.int 1)])
  refine own_by (fun _ k => XS.i2b X0.here hx rfl (hb hby d17_7) rfl k) ?_
  show own_Fin _ _ _ _ _ _ _ s₁ (mkF m 8 #[Rv a1, Iv 2] [(.int ((1 : Int32).toInt8.toInt32))])
  rw [(by decide : ((1 : Int32).toInt8.toInt32) = (1 : Int32))]
  show own_Fin _ _ _ _ _ _ _ s₁ (mkF m 8 #[Rv a1, Iv 2] [(.int 1)])
  exact own_retZ X0 hx hlk (t := .byte) hret (by simp) (hb hby d17_8) ⟨rfl, N0, e0⟩ (by decide) (by decide)
def own_QYI2 (Z : State) (a1 : Addr) (x0 x1 : Int32) (h0 : Heap) (n0 : Nat) (v : Option Value) (h : Heap) (L : List Loc) : Prop := ∃ (b : Addr) (k : ClassId), v = none ∧ Fr n0 L ∧ Keep h0 h [a1] ∧ Fld Z h a1 "java/lang/String" "value" "[B" (.ref b) ∧ ((Fld Z h a1 "java/lang/String" "coder" "B" (.int (0 : Int32)) ∧ Arv Z h b k .byte (2 : Int32) [(.int x0.toInt8.toInt32), (.int x1.toInt8.toInt32)] (.int (0 : Int32)) ∧ ¬ (255 : Int32) < x0 ∧ ¬ (255 : Int32) < x1) ∨ (Fld Z h a1 "java/lang/String" "coder" "B" (.int (1 : Int32)) ∧ Arv Z h b k .byte (4 : Int32) [(.int (own_lo x0)), (.int (own_hi x0)), (.int (own_lo x1)), (.int (own_hi x1))] (.int (0 : Int32))))
set_option maxRecDepth 65536 in
set_option maxHeartbeats 40000000 in
theorem rmYI2 (l : Launch) (Z : State) (a0 : Array Value) (hw : own_W a0 Z) (ws : List Jvm.Cond) (cs : Int32) (gS : Value) (a1 a2 : Addr) (kc : ClassId) (x0 x1 : Int32) (h0 : Heap) (n0 : Nat) (Z0 : n0 ≤ h0.size) (V_env : own_Env Z cs gS) (Od : Old Z n0 h0) (E_a1 : Exa Z h0 a1 "java/lang/String") (F_v : Fld Z h0 a1 "java/lang/String" "value" "[B" .null) (F_c : Fld Z h0 a1 "java/lang/String" "coder" "B" (.int (0 : Int32))) (g_a1 : n0 ≤ a1) (V2 : Arv Z h0 a2 kc .char (2 : Int32) [(.int x0), (.int x1)] (.int (0 : Int32))) (ne12 : a2 ≠ a1) (hx0 : own_ch x0) (hx1 : own_ch x1) : own_Met l Z mn1 jdk_42_method_149_code 6 none ws (own_R 4 2 6 57) #[(.ref a1), (.ref a2), (.int (0 : Int32)), (.int (2 : Int32)), .null] h0 (own_QYI2 Z a1 x0 x1 h0 n0) := by
  refine own_enter n0 (plainFor_of_name own_pn16) (fun m => ef_RRIIN_6 m a1 a2 (0 : Int32) (2 : Int32) ) (fun p e s m below meth c s₁ hx hby hlk hml hret hown hnm hZ X0 e0 N0 => ?_)
  show own_Fin _ _ _ _ _ _ _ s₁ (mkF m 0 #[Rv a1, Rv a2, Iv 0, Iv 2, Nv, Uv] [])
  have Kp143 : Keep h0 h0 [a1] := Keep.refl h0 _
  obtain ⟨T144, X144, e144, st144⟩ := initO X0 hx hZ hown (own_g hw 16 rfl) (own_g hw 17 rfl) (own_g hw 18 rfl) e0 (g := (mkF m 1 #[Rv a1, Rv a2, Iv 0, Iv 2, Nv, Uv] [(.ref a1)])) rfl (by rw [hml]; rfl) rfl (hb hby d3_1) (by decide) (W := 0) (own_z rfl) (by decide)
  obtain ⟨T145, X145, e145, st145⟩ := getS2 X144 hx hZ hown (host := "") (Or.inl (own_g hw 46 rfl)) Via.refl e144 (V_env.2.2.2.1.ext Od.2) (g := (mkF m 27 #[Rv a1, Rv a2, Iv 0, Iv 2, Nv, Uv] [])) rfl (hb hby d3_27)
  obtain ⟨_, _, ⟨T146, L146, k146, n146⟩, -, X146, ⟨Lc146, hQ146, l146, y146, z146⟩, st146⟩ := Jvm.LawKit.callS X145 hx (y := mn9) hown (mvT hZ (own_g hw 71 rfl)) (mvT hZ (own_g hw 72 rfl)) (mvT hZ (own_g hw 73 rfl)) (mvT hZ (own_g hw 74 rfl)) (by decide) (backOf (W := 0) (rmXO2 l Z a0 hw [] cs gS a2 kc x0 x1 h0 n0 Z0 V_env Od V2 hx0 hx1) hZ (own_g hw 74 rfl) (own_g hw 73 rfl) (by decide) (by decide)) (g := (mkF m 36 #[Rv a1, Rv a2, Iv 0, Iv 2, Nv, Uv] [(.int 2), (.int 0), (.ref a2)])) rfl (by rw [hml]; rfl) (argsL := [(.ref a2), (.int (0 : Int32)), (.int (2 : Int32))]) (rest := []) (lenOf own_pd172 rfl) rfl (own_z rfl) (hb hby d3_36) (fun _ _ => ⟨rfl, e145, (by decide : 0 + 2 ≤ _), (by decide : 0 + 6 ≤ _)⟩)
  dsimp only [Pt.U, Pt.locs, Pt.cells, Pt.slots] at X146 l146 y146 z146 st146 hQ146
  subst l146 y146 z146
  obtain ⟨b146, k146, rfl, Nq146, K146, ge146, hd146⟩ := hQ146
  have N146 := Fr.app N0 Nq146
  have Zs146 : n0 ≤ T146.heap.size := Nat.le_trans Z0 K146.1
  have Kp146 : Keep h0 T146.heap [a1] := Kp143.trans K146 all0
  have f147_0 : Old Z n0 T146.heap := Od.keep K146 all0
  have f147_1 : Exa Z T146.heap a1 "java/lang/String" := E_a1.keep K146
  have f147_2 : Fld Z T146.heap a1 "java/lang/String" "value" "[B" .null := F_v.keep K146 nin0
  have f147_3 : Fld Z T146.heap a1 "java/lang/String" "coder" "B" (.int (0 : Int32)) := F_c.keep K146 nin0
  have f147_4 : Arv Z T146.heap a2 kc .char (2 : Int32) [(.int x0), (.int x1)] (.int (0 : Int32)) := V2.keep K146 nin0
  have ne146_a1 : a1 ≠ b146 := Nat.ne_of_lt (Nat.lt_of_lt_of_le E_a1.lt ge146)
  have ne146_a2 : a2 ≠ b146 := Nat.ne_of_lt (Nat.lt_of_lt_of_le V2.lt ge146)
  refine own_by (fun _ k => XS.aloadN X0.here hx rfl (hb hby d3_0) rfl rfl (st144 _ (XS.iloadN X144.here hx rfl (hb hby d3_4) rfl (XS.ifYes X144.here hx rfl (pc0 := 5) (pc' := 27) rfl (hb hby d3_5) rfl ((if0 _ _).trans (feq (by decide : ¬ ((2 : Int32) = (0 : Int32)))).2) (by decide) (by decide) (st145 _ (XS.ifNo X145.here hx rfl (hb hby d3_30) rfl ((if0 _ _).trans (feq V_env.2.2.2.2.1).1) (XS.aloadN X145.here hx rfl (hb hby d3_33) rfl rfl (XS.iloadN X145.here hx rfl (hb hby d3_34) rfl (XS.iloadN X145.here hx rfl (hb hby d3_35) rfl (st146 _ k)))))))))) ?_
  rcases hd146 with ⟨V146, hk0, hk1⟩ | V146
  · show own_Fin _ _ _ _ _ _ _ T146 (mkF m 39 #[Rv a1, Rv a2, Iv 0, Iv 2, Nv, Uv] [(.ref b146)])
    obtain ⟨_, _, ⟨T148, L148, k148, n148⟩, -, X148, ⟨Lc148, hQ148, l148, y148, z148⟩, st148⟩ := Jvm.LawKit.callS X146 hx (y := mn10) hown (mvT hZ (own_g hw 78 rfl)) (mvT hZ (own_g hw 79 rfl)) (mvT hZ (own_g hw 73 rfl)) (mvT hZ (own_g hw 80 rfl)) (by decide) (backOf (W := 1) (rmCL2_2 l Z a0 hw [] b146 k146 [(.int x0.toInt8.toInt32), (.int x1.toInt8.toInt32)] T146.heap n0 Zs146 V146) hZ (own_g hw 80 rfl) (own_g hw 73 rfl) (by decide) (by decide)) (g := (mkF m 45 #[Rv a1, Rv a2, Iv 0, Iv 2, Nv, Rv b146] [(.int 2), (.ref b146), (.ref a1)])) rfl (by rw [hml]; rfl) (argsL := [(.ref b146), (.int (2 : Int32))]) (rest := [(.ref a1)]) (lenOf own_pd201 rfl) rfl (own_z rfl) (hb hby d3_45) (fun _ _ => ⟨rfl, rfl, (by decide : 2 + 0 ≤ _), (by decide : 6 + 0 ≤ _)⟩)
    dsimp only [Pt.U, Pt.locs, Pt.cells, Pt.slots] at X148 l148 y148 z148 st148 hQ148
    subst l148 y148 z148
    obtain ⟨rfl, Nq148, eh148⟩ := hQ148
    have N148 := Fr.app N146 Nq148
    obtain ⟨T149, h149, X149, e149, W149, st149⟩ := putFN X148 hx hZ hown (own_g hw 26 rfl) Via.refl eh148 f147_3 f147_1 (Or.inr ⟨(own_g hw 22 rfl), rfl, hnm⟩) (own_g hw 7 rfl) (ty := .byte) (v' := (.int (0 : Int32))) (by decide) rfl (by decide) (g := (mkF m 48 #[Rv a1, Rv a2, Iv 0, Iv 2, Nv, Rv b146] [(.int 0), (.ref a1)])) rfl rfl (hb hby d3_48)
    have Fw149 : Fld Z h149 a1 "java/lang/String" "coder" "B" (.int (0 : Int32)) := f147_3.same W149
    have Kp149 : Keep h0 h149 [a1] := Kp146.wr W149 (Or.inl (List.mem_of_getElem? (i := 0) rfl))
    have Zs149 : n0 ≤ h149.size := Nat.le_trans Zs146 (Keep.of_wr W149).1
    have N149 := Fr.snoc X149 N148 g_a1
    have f150_0 : Old Z n0 h149 := f147_0.wr W149 g_a1
    have f150_1 : Exa Z h149 a1 "java/lang/String" := f147_1.wr W149
    have f150_2 : Fld Z h149 a1 "java/lang/String" "value" "[B" .null := f147_2.other W149 (Or.inr (slot_ne (Or.inr (own_g hw 21 rfl)) (Or.inr (own_g hw 22 rfl)) (by decide) (t := (.array .byte)) (t' := .byte) (by decide) (by decide)))
    have f150_4 : Arv Z h149 a2 kc .char (2 : Int32) [(.int x0), (.int x1)] (.int (0 : Int32)) := f147_4.other W149 ne12
    have f150_5 : Arv Z h149 b146 k146 .byte (2 : Int32) [(.int x0.toInt8.toInt32), (.int x1.toInt8.toInt32)] (.int (0 : Int32)) := V146.other W149 (Ne.symm ne146_a1)
    obtain ⟨T151, h151, X151, e151, W151, st151⟩ := putF X149 hx hZ hown (host := "") (Or.inl (own_g hw 25 rfl)) Via.refl e149 f150_2 f150_1 (Or.inr ⟨(own_g hw 21 rfl), rfl, hnm⟩) (own_g hw 7 rfl) (ty := (.array .byte)) (by decide) rfl rfl (g := (mkF m 54 #[Rv a1, Rv a2, Iv 0, Iv 2, Nv, Rv b146] [(.ref b146), (.ref a1)])) rfl rfl (hb hby d3_54)
    have Fw151 : Fld Z h151 a1 "java/lang/String" "value" "[B" (.ref b146) := f150_2.same W151
    have Kp151 : Keep h0 h151 [a1] := Kp149.wr W151 (Or.inl (List.mem_of_getElem? (i := 0) rfl))
    have Zs151 : n0 ≤ h151.size := Nat.le_trans Zs149 (Keep.of_wr W151).1
    have N151 := Fr.snoc X151 N149 g_a1
    have f152_0 : Old Z n0 h151 := f150_0.wr W151 g_a1
    have f152_1 : Exa Z h151 a1 "java/lang/String" := f150_1.wr W151
    have f152_3 : Arv Z h151 a2 kc .char (2 : Int32) [(.int x0), (.int x1)] (.int (0 : Int32)) := f150_4.other W151 ne12
    have f152_4 : Arv Z h151 b146 k146 .byte (2 : Int32) [(.int x0.toInt8.toInt32), (.int x1.toInt8.toInt32)] (.int (0 : Int32)) := f150_5.other W151 (Ne.symm ne146_a1)
    have f152_5 : Fld Z h151 a1 "java/lang/String" "coder" "B" (.int (0 : Int32)) := Fw149.other W151 (Or.inr (slot_ne (Or.inr (own_g hw 22 rfl)) (Or.inr (own_g hw 21 rfl)) (by decide) (t := .byte) (t' := (.array .byte)) (by decide) (by decide)))
    refine own_by (fun _ k => XS.astore X146.here hx rfl (hb hby d3_39) rfl rfl (l' := #[Rv a1, Rv a2, Iv 0, Iv 2, Nv, Rv b146]) rfl (XS.aloadN X146.here hx rfl (hb hby d3_41) rfl rfl (XS.aload X146.here hx rfl (hb hby d3_42) rfl rfl (XS.iloadN X146.here hx rfl (hb hby d3_44) rfl (st148 _ (st149 _ (XS.aloadN X149.here hx rfl (hb hby d3_51) rfl rfl (XS.aload X149.here hx rfl (hb hby d3_52) rfl rfl (st151 _ k))))))))) ?_
    exact own_retV X151 hx hlk hret (hb hby d3_57) (by rw [e151]; exact ⟨_, _, rfl, N151, Kp151, Fw151, Or.inl ⟨f152_5, f152_4, hk0, hk1⟩⟩) (by decide) (by decide)
  · show own_Fin _ _ _ _ _ _ _ T146 (mkF m 39 #[Rv a1, Rv a2, Iv 0, Iv 2, Nv, Uv] [(.ref b146)])
    obtain ⟨_, _, ⟨T153, L153, k153, n153⟩, -, X153, ⟨Lc153, hQ153, l153, y153, z153⟩, st153⟩ := Jvm.LawKit.callS X146 hx (y := mn10) hown (mvT hZ (own_g hw 78 rfl)) (mvT hZ (own_g hw 79 rfl)) (mvT hZ (own_g hw 73 rfl)) (mvT hZ (own_g hw 80 rfl)) (by decide) (backOf (W := 1) (rmCL2_4 l Z a0 hw [] b146 k146 [(.int (own_lo x0)), (.int (own_hi x0)), (.int (own_lo x1)), (.int (own_hi x1))] T146.heap n0 Zs146 V146) hZ (own_g hw 80 rfl) (own_g hw 73 rfl) (by decide) (by decide)) (g := (mkF m 45 #[Rv a1, Rv a2, Iv 0, Iv 2, Nv, Rv b146] [(.int 2), (.ref b146), (.ref a1)])) rfl (by rw [hml]; rfl) (argsL := [(.ref b146), (.int (2 : Int32))]) (rest := [(.ref a1)]) (lenOf own_pd201 rfl) rfl (own_z rfl) (hb hby d3_45) (fun _ _ => ⟨rfl, rfl, (by decide : 2 + 0 ≤ _), (by decide : 6 + 0 ≤ _)⟩)
    dsimp only [Pt.U, Pt.locs, Pt.cells, Pt.slots] at X153 l153 y153 z153 st153 hQ153
    subst l153 y153 z153
    obtain ⟨rfl, Nq153, eh153⟩ := hQ153
    have N153 := Fr.app N146 Nq153
    obtain ⟨T154, h154, X154, e154, W154, st154⟩ := putFN X153 hx hZ hown (own_g hw 26 rfl) Via.refl eh153 f147_3 f147_1 (Or.inr ⟨(own_g hw 22 rfl), rfl, hnm⟩) (own_g hw 7 rfl) (ty := .byte) (v' := (.int (1 : Int32))) (by decide) rfl (by decide) (g := (mkF m 48 #[Rv a1, Rv a2, Iv 0, Iv 2, Nv, Rv b146] [(.int 1), (.ref a1)])) rfl rfl (hb hby d3_48)
    have Fw154 : Fld Z h154 a1 "java/lang/String" "coder" "B" (.int (1 : Int32)) := f147_3.same W154
    have Kp154 : Keep h0 h154 [a1] := Kp146.wr W154 (Or.inl (List.mem_of_getElem? (i := 0) rfl))
    have Zs154 : n0 ≤ h154.size := Nat.le_trans Zs146 (Keep.of_wr W154).1
    have N154 := Fr.snoc X154 N153 g_a1
    have f155_0 : Old Z n0 h154 := f147_0.wr W154 g_a1
    have f155_1 : Exa Z h154 a1 "java/lang/String" := f147_1.wr W154
    have f155_2 : Fld Z h154 a1 "java/lang/String" "value" "[B" .null := f147_2.other W154 (Or.inr (slot_ne (Or.inr (own_g hw 21 rfl)) (Or.inr (own_g hw 22 rfl)) (by decide) (t := (.array .byte)) (t' := .byte) (by decide) (by decide)))
    have f155_4 : Arv Z h154 a2 kc .char (2 : Int32) [(.int x0), (.int x1)] (.int (0 : Int32)) := f147_4.other W154 ne12
    have f155_5 : Arv Z h154 b146 k146 .byte (4 : Int32) [(.int (own_lo x0)), (.int (own_hi x0)), (.int (own_lo x1)), (.int (own_hi x1))] (.int (0 : Int32)) := V146.other W154 (Ne.symm ne146_a1)
    obtain ⟨T156, h156, X156, e156, W156, st156⟩ := putF X154 hx hZ hown (host := "") (Or.inl (own_g hw 25 rfl)) Via.refl e154 f155_2 f155_1 (Or.inr ⟨(own_g hw 21 rfl), rfl, hnm⟩) (own_g hw 7 rfl) (ty := (.array .byte)) (by decide) rfl rfl (g := (mkF m 54 #[Rv a1, Rv a2, Iv 0, Iv 2, Nv, Rv b146] [(.ref b146), (.ref a1)])) rfl rfl (hb hby d3_54)
    have Fw156 : Fld Z h156 a1 "java/lang/String" "value" "[B" (.ref b146) := f155_2.same W156
    have Kp156 : Keep h0 h156 [a1] := Kp154.wr W156 (Or.inl (List.mem_of_getElem? (i := 0) rfl))
    have Zs156 : n0 ≤ h156.size := Nat.le_trans Zs154 (Keep.of_wr W156).1
    have N156 := Fr.snoc X156 N154 g_a1
    have f157_0 : Old Z n0 h156 := f155_0.wr W156 g_a1
    have f157_1 : Exa Z h156 a1 "java/lang/String" := f155_1.wr W156
    have f157_3 : Arv Z h156 a2 kc .char (2 : Int32) [(.int x0), (.int x1)] (.int (0 : Int32)) := f155_4.other W156 ne12
    have f157_4 : Arv Z h156 b146 k146 .byte (4 : Int32) [(.int (own_lo x0)), (.int (own_hi x0)), (.int (own_lo x1)), (.int (own_hi x1))] (.int (0 : Int32)) := f155_5.other W156 (Ne.symm ne146_a1)
    have f157_5 : Fld Z h156 a1 "java/lang/String" "coder" "B" (.int (1 : Int32)) := Fw154.other W156 (Or.inr (slot_ne (Or.inr (own_g hw 22 rfl)) (Or.inr (own_g hw 21 rfl)) (by decide) (t := .byte) (t' := (.array .byte)) (by decide) (by decide)))
    refine own_by (fun _ k => XS.astore X146.here hx rfl (hb hby d3_39) rfl rfl (l' := #[Rv a1, Rv a2, Iv 0, Iv 2, Nv, Rv b146]) rfl (XS.aloadN X146.here hx rfl (hb hby d3_41) rfl rfl (XS.aload X146.here hx rfl (hb hby d3_42) rfl rfl (XS.iloadN X146.here hx rfl (hb hby d3_44) rfl (st153 _ (st154 _ (XS.aloadN X154.here hx rfl (hb hby d3_51) rfl rfl (XS.aload X154.here hx rfl (hb hby d3_52) rfl rfl (st156 _ k))))))))) ?_
    exact own_retV X156 hx hlk hret (hb hby d3_57) (by rw [e156]; exact ⟨_, _, rfl, N156, Kp156, Fw156, Or.inr ⟨f157_5, f157_4⟩⟩) (by decide) (by decide)
set_option maxRecDepth 65536 in
set_option maxHeartbeats 40000000 in
theorem rmYC2 (l : Launch) (Z : State) (a0 : Array Value) (hw : own_W a0 Z) (ws : List Jvm.Cond) (cs : Int32) (gS : Value) (a1 a2 : Addr) (kc : ClassId) (x0 x1 : Int32) (h0 : Heap) (n0 : Nat) (Z0 : n0 ≤ h0.size) (V_env : own_Env Z cs gS) (Od : Old Z n0 h0) (E_a1 : Exa Z h0 a1 "java/lang/String") (F_v : Fld Z h0 a1 "java/lang/String" "value" "[B" .null) (F_c : Fld Z h0 a1 "java/lang/String" "coder" "B" (.int (0 : Int32))) (g_a1 : n0 ≤ a1) (V2 : Arv Z h0 a2 kc .char (2 : Int32) [(.int x0), (.int x1)] (.int (0 : Int32))) (ne12 : a2 ≠ a1) (hx0 : own_ch x0) (hx1 : own_ch x1) : own_Met l Z mn2 jdk_42_method_3_code 2 none ws (own_R 5 2 6 74) #[(.ref a1), (.ref a2)] h0 (own_QYI2 Z a1 x0 x1 h0 n0) := by
  refine own_enter n0 (plainFor_of_name own_pn16) (fun m => ef_RR_2 m a1 a2 ) (fun p e s m below meth c s₁ hx hby hlk hml hret hown hnm hZ X0 e0 N0 => ?_)
  show own_Fin _ _ _ _ _ _ _ s₁ (mkF m 0 #[Rv a1, Rv a2] [])
  have Kp158 : Keep h0 h0 [a1] := Keep.refl h0 _
  obtain ⟨cl159, Ar159, -, S159, M159, -, -⟩ := id V2
  refine own_by (fun _ k => XS.aloadN X0.here hx rfl (hb hby d2_0) rfl rfl (XS.aloadN X0.here hx rfl (hb hby d2_1) rfl rfl (XS.iconst X0.here hx rfl (hb hby d2_2) (XS.aloadN X0.here hx rfl (hb hby d2_3) rfl rfl (X0.arraylength hx (by rw [e0]; exact Ar159.1) (State.isArrayOf_alike hZ.alike Ar159.2.1) (g := (mkF m 4 #[Rv a1, Rv a2] [(.ref a2), (.int 0), (.ref a2), (.ref a1)])) rfl rfl (hb hby d2_4) _ k))))) ?_
  rw [len_of S159 M159]
  show own_Fin _ _ _ _ _ _ _ s₁ (mkF m 5 #[Rv a1, Rv a2] [(.int 2), (.int 0), (.ref a2), (.ref a1)])
  obtain ⟨_, _, ⟨T160, L160, k160, n160⟩, -, X160, ⟨Lc160, hQ160, l160, y160, z160⟩, st160⟩ := X0.specialBack hx (y := mn1) rfl hown (mvT hZ (own_g hw 12 rfl)) (mvT hZ (own_g hw 13 rfl)) (mvT hZ (own_g hw 15 rfl)) (by decide) (backOf (W := 0) (rmYI2 l Z a0 hw [] cs gS a1 a2 kc x0 x1 h0 n0 Z0 V_env Od E_a1 F_v F_c g_a1 V2 ne12 hx0 hx1) hZ (own_g hw 15 rfl) (own_g hw 8 rfl) (by decide) (by decide)) (g := (mkF m 6 #[Rv a1, Rv a2] [.null, (.int 2), (.int 0), (.ref a2), (.ref a1)])) rfl (by rw [hml]; rfl) (Steps.refl _) (a := a1) (argsL := [(.ref a2), (.int (0 : Int32)), (.int (2 : Int32)), .null]) (rest := []) (lenOf own_pd38 rfl) rfl (own_z rfl) (hb hby d2_6) (fun _ _ => ⟨rfl, e0, (by decide : 0 + 2 ≤ _), (by decide : 0 + 6 ≤ _)⟩)
  dsimp only [Pt.U, Pt.locs, Pt.cells, Pt.slots] at X160 l160 y160 z160 st160 hQ160
  subst l160 y160 z160
  obtain ⟨b160, k160, rfl, Nq160, K160, Gv160, hd160⟩ := hQ160
  have N160 := Fr.app N0 Nq160
  have Zs160 : n0 ≤ T160.heap.size := Nat.le_trans Z0 K160.1
  have Kp160 : Keep h0 T160.heap [a1] := Kp158.trans K160 (allS (Or.inl (List.mem_of_getElem? (i := 0) rfl)) all0)
  have f161_0 : Old Z n0 T160.heap := Od.keep K160 (allS g_a1 all0)
  have f161_1 : Exa Z T160.heap a1 "java/lang/String" := E_a1.keep K160
  have f161_4 : Arv Z T160.heap a2 kc .char (2 : Int32) [(.int x0), (.int x1)] (.int (0 : Int32)) := V2.keep K160 (ninS ne12 nin0)
  refine own_by (fun _ k => XS.aconstNull X0.here hx rfl (hb hby d2_5) (st160.trans k)) ?_
  exact own_retV X160 hx hlk hret (hb hby d2_9) ⟨_, _, rfl, N160, Kp160, Gv160, hd160⟩ (by decide) (by decide)
def own_QrmNBL3 (h0 : Heap) (n0 : Nat) (v : Option Value) (h : Heap) (L : List Loc) : Prop := v = some (.int (6 : Int32)) ∧ Fr n0 L ∧ h = h0
set_option maxRecDepth 65536 in
set_option maxHeartbeats 40000000 in
theorem rmNBL3 (l : Launch) (Z : State) (a0 : Array Value) (hw : own_W a0 Z) (ws : List Jvm.Cond)  (h0 : Heap) (n0 : Nat) (Z0 : n0 ≤ h0.size)  : own_Met l Z mn3 jdk_52_method_3_code 1 (some .int) ws (own_R 0 0 0 0) #[(.int (3 : Int32))] h0 (own_QrmNBL3 h0 n0) := by
  refine own_enter n0 (plainFor_of_name own_pn40) (fun m => ef_I_1 m (3 : Int32) ) (fun p e s m below meth c s₁ hx hby hlk hml hret hown hnm hZ X0 e0 N0 => ?_)
  show own_Fin _ _ _ _ _ _ _ s₁ (mkF m 0 #[Iv 3] [])
  refine own_by (fun _ k => XS.iloadN X0.here hx rfl (hb hby d21_0) rfl (XS.ifYes X0.here hx rfl (pc0 := 1) (pc' := 12) rfl (hb hby d21_1) rfl ((if0 _ _).trans (flt (by decide : ¬ ((3 : Int32) < (0 : Int32)))).2.1) (by decide) (by decide) (XS.iloadN X0.here hx rfl (hb hby d21_12) rfl (X0.ldcInt hx hown (mvT hZ (own_g hw 94 rfl)) (g := (mkF m 13 #[Iv 3] [(.int 3)])) rfl (hb hby d21_13) _ (XS.icmpYes X0.here hx rfl (pc0 := 15) (pc' := 55) rfl (hb hby d21_15) rfl (tlt (by decide : (3 : Int32) < (1073741823 : Int32))).1 (by decide) (by decide) (XS.iloadN X0.here hx rfl (hb hby d21_55) rfl (XS.iconst X0.here hx rfl (hb hby d21_56) (XS.ishl X0.here hx rfl (hb hby d21_57) rfl k)))))))) ?_
  show own_Fin _ _ _ _ _ _ _ s₁ (mkF m 58 #[Iv 3] [(.int ((3 : Int32) <<< ((1 : Int32) &&& 31)))])
  rw [(by decide : ((3 : Int32) <<< ((1 : Int32) &&& 31)) = (6 : Int32))]
  show own_Fin _ _ _ _ _ _ _ s₁ (mkF m 58 #[Iv 3] [(.int 6)])
  exact own_retI X0 hx hlk hret (hb hby d21_58) ⟨rfl, N0, e0⟩ (by decide) (by decide)
def own_QNBF3 (Z : State) (h0 : Heap) (n0 : Nat) (v : Option Value) (h : Heap) (L : List Loc) : Prop := ∃ (a : Addr) (k : ClassId), v = some (.ref a) ∧ Fr n0 L ∧ Keep h0 h [] ∧ h0.size ≤ a ∧ Arv Z h a k .byte (6 : Int32) [(.int (0 : Int32)), (.int (0 : Int32)), (.int (0 : Int32)), (.int (0 : Int32)), (.int (0 : Int32)), (.int (0 : Int32))] (.int (0 : Int32))
set_option maxRecDepth 65536 in
set_option maxHeartbeats 40000000 in
theorem rmNBF3 (l : Launch) (Z : State) (a0 : Array Value) (hw : own_W a0 Z) (ws : List Jvm.Cond)  (h0 : Heap) (n0 : Nat) (Z0 : n0 ≤ h0.size)  : own_Met l Z mn4 jdk_52_method_2_code 1 (some (.array .byte)) ws (own_R 1 1 6 12) #[(.int (3 : Int32))] h0 (own_QNBF3 Z h0 n0) := by
  refine own_enter n0 (plainFor_of_name own_pn40) (fun m => ef_I_1 m (3 : Int32) ) (fun p e s m below meth c s₁ hx hby hlk hml hret hown hnm hZ X0 e0 N0 => ?_)
  show own_Fin _ _ _ _ _ _ _ s₁ (mkF m 0 #[Iv 3] [])
  have Kp162 : Keep h0 h0 [] := Keep.refl h0 _
  obtain ⟨_, _, ⟨T163, L163, k163, n163⟩, -, X163, ⟨Lc163, hQ163, l163, y163, z163⟩, st163⟩ := Jvm.LawKit.callS X0 hx (y := mn3) hown (mvT hZ (own_g hw 91 rfl)) (mvT hZ (own_g hw 92 rfl)) (mvT hZ (own_g hw 73 rfl)) (mvT hZ (own_g hw 93 rfl)) (by decide) (backOf (W := 0) (rmNBL3 l Z a0 hw []  h0 n0 Z0 ) hZ (own_g hw 93 rfl) (own_g hw 73 rfl) (by decide) (by decide)) (g := (mkF m 1 #[Iv 3] [(.int 3)])) rfl (by rw [hml]; rfl) (argsL := [(.int (3 : Int32))]) (rest := []) (lenOf own_pd52 rfl) rfl (own_z rfl) (hb hby d20_1) (fun _ _ => ⟨rfl, e0, (by decide : 0 + 0 ≤ _), (by decide : 0 + 0 ≤ _)⟩)
  dsimp only [Pt.U, Pt.locs, Pt.cells, Pt.slots] at X163 l163 y163 z163 st163 hQ163
  subst l163 y163 z163
  obtain ⟨rfl, Nq163, eh163⟩ := hQ163
  have N163 := Fr.app N0 Nq163
  obtain ⟨T164, h164, k164, X164, e164, E164, A164, st164⟩ := newP X163 hx hZ (own_g hw 20 rfl) eh163 (g := (mkF m 4 #[Iv 3] [(.int 6)])) rfl (hb hby d20_4) rfl (by decide) (cap := 6) (by decide) (by decide) (by decide) (by decide)
  obtain ⟨b164, g164⟩ : ∃ z, z = h0.size := ⟨_, rfl⟩
  rw [← g164] at A164 st164
  have V164 : Arv Z h164 b164 k164 .byte (6 : Int32) [(.int (0 : Int32)), (.int (0 : Int32)), (.int (0 : Int32)), (.int (0 : Int32)), (.int (0 : Int32)), (.int (0 : Int32))] (.int (0 : Int32)) := (Arv.new A164 (by decide)).pad (pad_rep [] (.int (0 : Int32)) 6)
  have gf164 : n0 ≤ b164 := Nat.le_trans Z0 (Nat.le_of_eq g164.symm)
  have Zs164 : n0 ≤ h164.size := Nat.le_trans Z0 E164.1
  have Kp164 : Keep h0 h164 [] := Kp162.ext E164
  have sz_b164 : h0.size ≤ b164 := Nat.le_trans Kp162.1 (Nat.le_of_eq g164.symm)
  refine own_by (fun _ k => XS.iloadN X0.here hx rfl (hb hby d20_0) rfl (st163 _ (st164 _ k))) ?_
  exact own_retA X164 hx hlk (t := (.array .byte)) hret rfl rfl rfl (hb hby d20_6) (by rw [e164]; exact ⟨_, _, rfl, N163, Kp164, sz_b164, V164⟩) (by decide) (by decide)
def own_QPC3_0 (Z : State) (a1 : Addr) (k1 : ClassId) (cc : Int32) (w0 w1 w2 w3 w4 w5 : Int32) (h0 : Heap) (n0 : Nat) (v : Option Value) (h : Heap) (L : List Loc) : Prop := v = none ∧ Fr n0 L ∧ Keep h0 h [a1] ∧ Arv Z h a1 k1 .byte (6 : Int32) [(.int (own_lo cc)), (.int (own_hi cc)), (.int w2), (.int w3), (.int w4), (.int w5)] (.int (0 : Int32))
set_option maxRecDepth 65536 in
set_option maxHeartbeats 40000000 in
theorem rmPC3_0 (l : Launch) (Z : State) (a0 : Array Value) (hw : own_W a0 Z) (ws : List Jvm.Cond) (cs : Int32) (gS : Value) (a1 : Addr) (k1 : ClassId) (cc : Int32) (w0 w1 w2 w3 w4 w5 : Int32) (h0 : Heap) (n0 : Nat) (Z0 : n0 ≤ h0.size) (V_env : own_Env Z cs gS) (Od : Old Z n0 h0) (V1 : Arv Z h0 a1 k1 .byte (6 : Int32) [(.int w0), (.int w1), (.int w2), (.int w3), (.int w4), (.int w5)] (.int (0 : Int32))) (g_1 : n0 ≤ a1) : own_Met l Z mn5 jdk_52_method_4_code 3 none ws (own_R 0 0 0 0) #[(.ref a1), (.int (0 : Int32)), (.int cc)] h0 (own_QPC3_0 Z a1 k1 cc w0 w1 w2 w3 w4 w5 h0 n0) := by
  refine own_enter n0 (plainFor_of_name own_pn40) (fun m => ef_RII_3 m a1 (0 : Int32) cc ) (fun p e s m below meth c s₁ hx hby hlk hml hret hown hnm hZ X0 e0 N0 => ?_)
  show own_Fin _ _ _ _ _ _ _ s₁ (mkF m 0 #[Rv a1, Iv 0, Iv cc] [])
  have Kp166 : Keep h0 h0 [a1] := Keep.refl h0 _
  obtain ⟨T167, X167, e167, st167⟩ := getS2 X0 hx hZ hown (host := "") (Or.inl (own_g hw 98 rfl)) Via.refl e0 (V_env.1.ext Od.2) (g := (mkF m 0 #[Rv a1, Iv 0, Iv cc] [])) rfl (hb hby d22_0)
  refine own_by (fun _ k => st167 _ (XS.ifYes X167.here hx rfl (pc0 := 3) (pc' := 28) rfl (hb hby d22_3) rfl ((if0 _ _).trans (feq (by decide : ¬ ((1 : Int32) = (0 : Int32)))).2) (by decide) (by decide) (XS.iloadN X167.here hx rfl (hb hby d22_28) rfl (XS.iconst X167.here hx rfl (hb hby d22_29) (XS.ishl X167.here hx rfl (hb hby d22_30) rfl k))))) ?_
  show own_Fin _ _ _ _ _ _ _ T167 (mkF m 31 #[Rv a1, Iv 0, Iv cc] [(.int ((0 : Int32) <<< ((1 : Int32) &&& 31)))])
  rw [(by decide : ((0 : Int32) <<< ((1 : Int32) &&& 31)) = (0 : Int32))]
  show own_Fin _ _ _ _ _ _ _ T167 (mkF m 31 #[Rv a1, Iv 0, Iv cc] [(.int 0)])
  refine own_by (fun _ k => XS.istoreN X167.here hx rfl (hb hby d22_31) rfl (l' := #[Rv a1, Iv 0, Iv cc]) rfl (XS.aloadN X167.here hx rfl (hb hby d22_32) rfl rfl (XS.iloadN X167.here hx rfl (hb hby d22_33) rfl (XS.iinc X167.here hx rfl (hb hby d22_34) rfl (l' := #[Rv a1, Iv ((0 : Int32) + (1 : Int32)), Iv cc]) rfl k)))) ?_
  show own_Fin _ _ _ _ _ _ _ T167 (mkF m 37 #[Rv a1, Iv ((0 : Int32) + (1 : Int32)), Iv cc] [(.int 0), (.ref a1)])
  rw [(by decide : ((0 : Int32) + (1 : Int32)) = (1 : Int32))]
  show own_Fin _ _ _ _ _ _ _ T167 (mkF m 37 #[Rv a1, Iv 1, Iv cc] [(.int 0), (.ref a1)])
  obtain ⟨T168, X168, e168, st168⟩ := getS2 X167 hx hZ hown (host := "") (Or.inl (own_g hw 99 rfl)) Via.refl e167 (V_env.2.1.ext Od.2) (g := (mkF m 38 #[Rv a1, Iv 1, Iv cc] [(.int cc), (.int 0), (.ref a1)])) rfl (hb hby d22_38)
  obtain ⟨cl169, Ar169, q169, S169, M169, H169, G169⟩ := id V1
  have hin169 : ¬ ((0 : Int32) < 0 ∨ cl169.slots.size ≤ ((0 : Int32)).toNatClampNeg) := inb_of S169 ⟨by decide, by decide⟩
  obtain ⟨T169, h169, X169, e169, W169, st169⟩ := stB X168 hx hZ e168 Ar169 (j := (0 : Int32)) hin169 (g := (mkF m 43 #[Rv a1, Iv 1, Iv cc] [(.int ((cc >>> ((0 : Int32) &&& 31)).toInt8.toInt32)), (.int 0), (.ref a1)])) rfl rfl (hb hby d22_43)
  have V169 : Arv Z h169 a1 k1 .byte (6 : Int32) [(.int ((cc >>> ((0 : Int32) &&& 31)).toInt8.toInt32).toInt8.toInt32), (.int w1), (.int w2), (.int w3), (.int w4), (.int w5)] (.int (0 : Int32)) := Arv.set Ar169 q169 S169 M169 H169 G169 (fits_nar_byte _) W169 0 rfl (Nat.le_of_ble_eq_true rfl)
  have Kp169 : Keep h0 h169 [a1] := Kp166.wr W169 (Or.inl (List.mem_of_getElem? (i := 0) rfl))
  have Zs169 : n0 ≤ h169.size := Nat.le_trans Z0 (Keep.of_wr W169).1
  have N169 := Fr.snoc X169 N0 g_1
  have f170_0 : Old Z n0 h169 := Od.wr W169 g_1
  obtain ⟨T171, X171, e171, st171⟩ := getS2 X169 hx hZ hown (host := "") (Or.inl (own_g hw 100 rfl)) Via.refl e169 (V_env.2.2.1.ext f170_0.2) (g := (mkF m 47 #[Rv a1, Iv 1, Iv cc] [(.int cc), (.int 1), (.ref a1)])) rfl (hb hby d22_47)
  refine own_by (fun _ k => XS.iloadN X167.here hx rfl (hb hby d22_37) rfl (st168 _ (XS.ishr X168.here hx rfl (hb hby d22_41) rfl (XS.i2b X168.here hx rfl (hb hby d22_42) rfl (st169 _ (XS.aloadN X169.here hx rfl (hb hby d22_44) rfl rfl (XS.iloadN X169.here hx rfl (hb hby d22_45) rfl (XS.iloadN X169.here hx rfl (hb hby d22_46) rfl (st171 _ (XS.ishr X171.here hx rfl (hb hby d22_50) rfl k)))))))))) ?_
  show own_Fin _ _ _ _ _ _ _ T171 (mkF m 51 #[Rv a1, Iv 1, Iv cc] [(.int (cc >>> ((8 : Int32) &&& 31))), (.int 1), (.ref a1)])
  obtain ⟨cl172, Ar172, q172, S172, M172, H172, G172⟩ := id V169
  have hin172 : ¬ ((1 : Int32) < 0 ∨ cl172.slots.size ≤ ((1 : Int32)).toNatClampNeg) := inb_of S172 ⟨by decide, by decide⟩
  obtain ⟨T172, h172, X172, e172, W172, st172⟩ := stB X171 hx hZ e171 Ar172 (j := (1 : Int32)) hin172 (g := (mkF m 52 #[Rv a1, Iv 1, Iv cc] [(.int ((cc >>> ((8 : Int32) &&& 31)).toInt8.toInt32)), (.int 1), (.ref a1)])) rfl rfl (hb hby d22_52)
  have V172 : Arv Z h172 a1 k1 .byte (6 : Int32) [(.int ((cc >>> ((0 : Int32) &&& 31)).toInt8.toInt32).toInt8.toInt32), (.int ((cc >>> ((8 : Int32) &&& 31)).toInt8.toInt32).toInt8.toInt32), (.int w2), (.int w3), (.int w4), (.int w5)] (.int (0 : Int32)) := Arv.set Ar172 q172 S172 M172 H172 G172 (fits_nar_byte _) W172 1 rfl (Nat.le_of_ble_eq_true rfl)
  have Kp172 : Keep h0 h172 [a1] := Kp169.wr W172 (Or.inl (List.mem_of_getElem? (i := 0) rfl))
  have Zs172 : n0 ≤ h172.size := Nat.le_trans Zs169 (Keep.of_wr W172).1
  have N172 := Fr.snoc X172 N169 g_1
  have f173_0 : Old Z n0 h172 := f170_0.wr W172 g_1
  refine own_by (fun _ k => XS.i2b X171.here hx rfl (hb hby d22_51) rfl (st172 _ k)) ?_
  exact own_retV X172 hx hlk hret (hb hby d22_53) (by rw [e172]; exact ⟨rfl, N172, Kp172, (by have q := V172; simp only [own_b8] at q; exact q)⟩) (by decide) (by decide)
def own_QPC3_1 (Z : State) (a1 : Addr) (k1 : ClassId) (cc : Int32) (w0 w1 w2 w3 w4 w5 : Int32) (h0 : Heap) (n0 : Nat) (v : Option Value) (h : Heap) (L : List Loc) : Prop := v = none ∧ Fr n0 L ∧ Keep h0 h [a1] ∧ Arv Z h a1 k1 .byte (6 : Int32) [(.int w0), (.int w1), (.int (own_lo cc)), (.int (own_hi cc)), (.int w4), (.int w5)] (.int (0 : Int32))
set_option maxRecDepth 65536 in
set_option maxHeartbeats 40000000 in
theorem rmPC3_1 (l : Launch) (Z : State) (a0 : Array Value) (hw : own_W a0 Z) (ws : List Jvm.Cond) (cs : Int32) (gS : Value) (a1 : Addr) (k1 : ClassId) (cc : Int32) (w0 w1 w2 w3 w4 w5 : Int32) (h0 : Heap) (n0 : Nat) (Z0 : n0 ≤ h0.size) (V_env : own_Env Z cs gS) (Od : Old Z n0 h0) (V1 : Arv Z h0 a1 k1 .byte (6 : Int32) [(.int w0), (.int w1), (.int w2), (.int w3), (.int w4), (.int w5)] (.int (0 : Int32))) (g_1 : n0 ≤ a1) : own_Met l Z mn5 jdk_52_method_4_code 3 none ws (own_R 0 0 0 0) #[(.ref a1), (.int (1 : Int32)), (.int cc)] h0 (own_QPC3_1 Z a1 k1 cc w0 w1 w2 w3 w4 w5 h0 n0) := by
  refine own_enter n0 (plainFor_of_name own_pn40) (fun m => ef_RII_3 m a1 (1 : Int32) cc ) (fun p e s m below meth c s₁ hx hby hlk hml hret hown hnm hZ X0 e0 N0 => ?_)
  show own_Fin _ _ _ _ _ _ _ s₁ (mkF m 0 #[Rv a1, Iv 1, Iv cc] [])
  have Kp174 : Keep h0 h0 [a1] := Keep.refl h0 _
  obtain ⟨T175, X175, e175, st175⟩ := getS2 X0 hx hZ hown (host := "") (Or.inl (own_g hw 98 rfl)) Via.refl e0 (V_env.1.ext Od.2) (g := (mkF m 0 #[Rv a1, Iv 1, Iv cc] [])) rfl (hb hby d22_0)
  refine own_by (fun _ k => st175 _ (XS.ifYes X175.here hx rfl (pc0 := 3) (pc' := 28) rfl (hb hby d22_3) rfl ((if0 _ _).trans (feq (by decide : ¬ ((1 : Int32) = (0 : Int32)))).2) (by decide) (by decide) (XS.iloadN X175.here hx rfl (hb hby d22_28) rfl (XS.iconst X175.here hx rfl (hb hby d22_29) (XS.ishl X175.here hx rfl (hb hby d22_30) rfl k))))) ?_
  show own_Fin _ _ _ _ _ _ _ T175 (mkF m 31 #[Rv a1, Iv 1, Iv cc] [(.int ((1 : Int32) <<< ((1 : Int32) &&& 31)))])
  rw [(by decide : ((1 : Int32) <<< ((1 : Int32) &&& 31)) = (2 : Int32))]
  show own_Fin _ _ _ _ _ _ _ T175 (mkF m 31 #[Rv a1, Iv 1, Iv cc] [(.int 2)])
  refine own_by (fun _ k => XS.istoreN X175.here hx rfl (hb hby d22_31) rfl (l' := #[Rv a1, Iv 2, Iv cc]) rfl (XS.aloadN X175.here hx rfl (hb hby d22_32) rfl rfl (XS.iloadN X175.here hx rfl (hb hby d22_33) rfl (XS.iinc X175.here hx rfl (hb hby d22_34) rfl (l' := #[Rv a1, Iv ((2 : Int32) + (1 : Int32)), Iv cc]) rfl k)))) ?_
  show own_Fin _ _ _ _ _ _ _ T175 (mkF m 37 #[Rv a1, Iv ((2 : Int32) + (1 : Int32)), Iv cc] [(.int 2), (.ref a1)])
  rw [(by decide : ((2 : Int32) + (1 : Int32)) = (3 : Int32))]
  show own_Fin _ _ _ _ _ _ _ T175 (mkF m 37 #[Rv a1, Iv 3, Iv cc] [(.int 2), (.ref a1)])
  obtain ⟨T176, X176, e176, st176⟩ := getS2 X175 hx hZ hown (host := "") (Or.inl (own_g hw 99 rfl)) Via.refl e175 (V_env.2.1.ext Od.2) (g := (mkF m 38 #[Rv a1, Iv 3, Iv cc] [(.int cc), (.int 2), (.ref a1)])) rfl (hb hby d22_38)
  obtain ⟨cl177, Ar177, q177, S177, M177, H177, G177⟩ := id V1
  have hin177 : ¬ ((2 : Int32) < 0 ∨ cl177.slots.size ≤ ((2 : Int32)).toNatClampNeg) := inb_of S177 ⟨by decide, by decide⟩
  obtain ⟨T177, h177, X177, e177, W177, st177⟩ := stB X176 hx hZ e176 Ar177 (j := (2 : Int32)) hin177 (g := (mkF m 43 #[Rv a1, Iv 3, Iv cc] [(.int ((cc >>> ((0 : Int32) &&& 31)).toInt8.toInt32)), (.int 2), (.ref a1)])) rfl rfl (hb hby d22_43)
  have V177 : Arv Z h177 a1 k1 .byte (6 : Int32) [(.int w0), (.int w1), (.int ((cc >>> ((0 : Int32) &&& 31)).toInt8.toInt32).toInt8.toInt32), (.int w3), (.int w4), (.int w5)] (.int (0 : Int32)) := Arv.set Ar177 q177 S177 M177 H177 G177 (fits_nar_byte _) W177 2 rfl (Nat.le_of_ble_eq_true rfl)
  have Kp177 : Keep h0 h177 [a1] := Kp174.wr W177 (Or.inl (List.mem_of_getElem? (i := 0) rfl))
  have Zs177 : n0 ≤ h177.size := Nat.le_trans Z0 (Keep.of_wr W177).1
  have N177 := Fr.snoc X177 N0 g_1
  have f178_0 : Old Z n0 h177 := Od.wr W177 g_1
  obtain ⟨T179, X179, e179, st179⟩ := getS2 X177 hx hZ hown (host := "") (Or.inl (own_g hw 100 rfl)) Via.refl e177 (V_env.2.2.1.ext f178_0.2) (g := (mkF m 47 #[Rv a1, Iv 3, Iv cc] [(.int cc), (.int 3), (.ref a1)])) rfl (hb hby d22_47)
  refine own_by (fun _ k => XS.iloadN X175.here hx rfl (hb hby d22_37) rfl (st176 _ (XS.ishr X176.here hx rfl (hb hby d22_41) rfl (XS.i2b X176.here hx rfl (hb hby d22_42) rfl (st177 _ (XS.aloadN X177.here hx rfl (hb hby d22_44) rfl rfl (XS.iloadN X177.here hx rfl (hb hby d22_45) rfl (XS.iloadN X177.here hx rfl (hb hby d22_46) rfl (st179 _ (XS.ishr X179.here hx rfl (hb hby d22_50) rfl k)))))))))) ?_
  show own_Fin _ _ _ _ _ _ _ T179 (mkF m 51 #[Rv a1, Iv 3, Iv cc] [(.int (cc >>> ((8 : Int32) &&& 31))), (.int 3), (.ref a1)])
  obtain ⟨cl180, Ar180, q180, S180, M180, H180, G180⟩ := id V177
  have hin180 : ¬ ((3 : Int32) < 0 ∨ cl180.slots.size ≤ ((3 : Int32)).toNatClampNeg) := inb_of S180 ⟨by decide, by decide⟩
  obtain ⟨T180, h180, X180, e180, W180, st180⟩ := stB X179 hx hZ e179 Ar180 (j := (3 : Int32)) hin180 (g := (mkF m 52 #[Rv a1, Iv 3, Iv cc] [(.int ((cc >>> ((8 : Int32) &&& 31)).toInt8.toInt32)), (.int 3), (.ref a1)])) rfl rfl (hb hby d22_52)
  have V180 : Arv Z h180 a1 k1 .byte (6 : Int32) [(.int w0), (.int w1), (.int ((cc >>> ((0 : Int32) &&& 31)).toInt8.toInt32).toInt8.toInt32), (.int ((cc >>> ((8 : Int32) &&& 31)).toInt8.toInt32).toInt8.toInt32), (.int w4), (.int w5)] (.int (0 : Int32)) := Arv.set Ar180 q180 S180 M180 H180 G180 (fits_nar_byte _) W180 3 rfl (Nat.le_of_ble_eq_true rfl)
  have Kp180 : Keep h0 h180 [a1] := Kp177.wr W180 (Or.inl (List.mem_of_getElem? (i := 0) rfl))
  have Zs180 : n0 ≤ h180.size := Nat.le_trans Zs177 (Keep.of_wr W180).1
  have N180 := Fr.snoc X180 N177 g_1
  have f181_0 : Old Z n0 h180 := f178_0.wr W180 g_1
  refine own_by (fun _ k => XS.i2b X179.here hx rfl (hb hby d22_51) rfl (st180 _ k)) ?_
  exact own_retV X180 hx hlk hret (hb hby d22_53) (by rw [e180]; exact ⟨rfl, N180, Kp180, (by have q := V180; simp only [own_b8] at q; exact q)⟩) (by decide) (by decide)
def own_QPC3_2 (Z : State) (a1 : Addr) (k1 : ClassId) (cc : Int32) (w0 w1 w2 w3 w4 w5 : Int32) (h0 : Heap) (n0 : Nat) (v : Option Value) (h : Heap) (L : List Loc) : Prop := v = none ∧ Fr n0 L ∧ Keep h0 h [a1] ∧ Arv Z h a1 k1 .byte (6 : Int32) [(.int w0), (.int w1), (.int w2), (.int w3), (.int (own_lo cc)), (.int (own_hi cc))] (.int (0 : Int32))
set_option maxRecDepth 65536 in
set_option maxHeartbeats 40000000 in
theorem rmPC3_2 (l : Launch) (Z : State) (a0 : Array Value) (hw : own_W a0 Z) (ws : List Jvm.Cond) (cs : Int32) (gS : Value) (a1 : Addr) (k1 : ClassId) (cc : Int32) (w0 w1 w2 w3 w4 w5 : Int32) (h0 : Heap) (n0 : Nat) (Z0 : n0 ≤ h0.size) (V_env : own_Env Z cs gS) (Od : Old Z n0 h0) (V1 : Arv Z h0 a1 k1 .byte (6 : Int32) [(.int w0), (.int w1), (.int w2), (.int w3), (.int w4), (.int w5)] (.int (0 : Int32))) (g_1 : n0 ≤ a1) : own_Met l Z mn5 jdk_52_method_4_code 3 none ws (own_R 0 0 0 0) #[(.ref a1), (.int (2 : Int32)), (.int cc)] h0 (own_QPC3_2 Z a1 k1 cc w0 w1 w2 w3 w4 w5 h0 n0) := by
  refine own_enter n0 (plainFor_of_name own_pn40) (fun m => ef_RII_3 m a1 (2 : Int32) cc ) (fun p e s m below meth c s₁ hx hby hlk hml hret hown hnm hZ X0 e0 N0 => ?_)
  show own_Fin _ _ _ _ _ _ _ s₁ (mkF m 0 #[Rv a1, Iv 2, Iv cc] [])
  have Kp182 : Keep h0 h0 [a1] := Keep.refl h0 _
  obtain ⟨T183, X183, e183, st183⟩ := getS2 X0 hx hZ hown (host := "") (Or.inl (own_g hw 98 rfl)) Via.refl e0 (V_env.1.ext Od.2) (g := (mkF m 0 #[Rv a1, Iv 2, Iv cc] [])) rfl (hb hby d22_0)
  refine own_by (fun _ k => st183 _ (XS.ifYes X183.here hx rfl (pc0 := 3) (pc' := 28) rfl (hb hby d22_3) rfl ((if0 _ _).trans (feq (by decide : ¬ ((1 : Int32) = (0 : Int32)))).2) (by decide) (by decide) (XS.iloadN X183.here hx rfl (hb hby d22_28) rfl (XS.iconst X183.here hx rfl (hb hby d22_29) (XS.ishl X183.here hx rfl (hb hby d22_30) rfl k))))) ?_
  show own_Fin _ _ _ _ _ _ _ T183 (mkF m 31 #[Rv a1, Iv 2, Iv cc] [(.int ((2 : Int32) <<< ((1 : Int32) &&& 31)))])
  rw [(by decide : ((2 : Int32) <<< ((1 : Int32) &&& 31)) = (4 : Int32))]
  show own_Fin _ _ _ _ _ _ _ T183 (mkF m 31 #[Rv a1, Iv 2, Iv cc] [(.int 4)])
  refine own_by (fun _ k => XS.istoreN X183.here hx rfl (hb hby d22_31) rfl (l' := #[Rv a1, Iv 4, Iv cc]) rfl (XS.aloadN X183.here hx rfl (hb hby d22_32) rfl rfl (XS.iloadN X183.here hx rfl (hb hby d22_33) rfl (XS.iinc X183.here hx rfl (hb hby d22_34) rfl (l' := #[Rv a1, Iv ((4 : Int32) + (1 : Int32)), Iv cc]) rfl k)))) ?_
  show own_Fin _ _ _ _ _ _ _ T183 (mkF m 37 #[Rv a1, Iv ((4 : Int32) + (1 : Int32)), Iv cc] [(.int 4), (.ref a1)])
  rw [(by decide : ((4 : Int32) + (1 : Int32)) = (5 : Int32))]
  show own_Fin _ _ _ _ _ _ _ T183 (mkF m 37 #[Rv a1, Iv 5, Iv cc] [(.int 4), (.ref a1)])
  obtain ⟨T184, X184, e184, st184⟩ := getS2 X183 hx hZ hown (host := "") (Or.inl (own_g hw 99 rfl)) Via.refl e183 (V_env.2.1.ext Od.2) (g := (mkF m 38 #[Rv a1, Iv 5, Iv cc] [(.int cc), (.int 4), (.ref a1)])) rfl (hb hby d22_38)
  obtain ⟨cl185, Ar185, q185, S185, M185, H185, G185⟩ := id V1
  have hin185 : ¬ ((4 : Int32) < 0 ∨ cl185.slots.size ≤ ((4 : Int32)).toNatClampNeg) := inb_of S185 ⟨by decide, by decide⟩
  obtain ⟨T185, h185, X185, e185, W185, st185⟩ := stB X184 hx hZ e184 Ar185 (j := (4 : Int32)) hin185 (g := (mkF m 43 #[Rv a1, Iv 5, Iv cc] [(.int ((cc >>> ((0 : Int32) &&& 31)).toInt8.toInt32)), (.int 4), (.ref a1)])) rfl rfl (hb hby d22_43)
  have V185 : Arv Z h185 a1 k1 .byte (6 : Int32) [(.int w0), (.int w1), (.int w2), (.int w3), (.int ((cc >>> ((0 : Int32) &&& 31)).toInt8.toInt32).toInt8.toInt32), (.int w5)] (.int (0 : Int32)) := Arv.set Ar185 q185 S185 M185 H185 G185 (fits_nar_byte _) W185 4 rfl (Nat.le_of_ble_eq_true rfl)
  have Kp185 : Keep h0 h185 [a1] := Kp182.wr W185 (Or.inl (List.mem_of_getElem? (i := 0) rfl))
  have Zs185 : n0 ≤ h185.size := Nat.le_trans Z0 (Keep.of_wr W185).1
  have N185 := Fr.snoc X185 N0 g_1
  have f186_0 : Old Z n0 h185 := Od.wr W185 g_1
  obtain ⟨T187, X187, e187, st187⟩ := getS2 X185 hx hZ hown (host := "") (Or.inl (own_g hw 100 rfl)) Via.refl e185 (V_env.2.2.1.ext f186_0.2) (g := (mkF m 47 #[Rv a1, Iv 5, Iv cc] [(.int cc), (.int 5), (.ref a1)])) rfl (hb hby d22_47)
  refine own_by (fun _ k => XS.iloadN X183.here hx rfl (hb hby d22_37) rfl (st184 _ (XS.ishr X184.here hx rfl (hb hby d22_41) rfl (XS.i2b X184.here hx rfl (hb hby d22_42) rfl (st185 _ (XS.aloadN X185.here hx rfl (hb hby d22_44) rfl rfl (XS.iloadN X185.here hx rfl (hb hby d22_45) rfl (XS.iloadN X185.here hx rfl (hb hby d22_46) rfl (st187 _ (XS.ishr X187.here hx rfl (hb hby d22_50) rfl k)))))))))) ?_
  show own_Fin _ _ _ _ _ _ _ T187 (mkF m 51 #[Rv a1, Iv 5, Iv cc] [(.int (cc >>> ((8 : Int32) &&& 31))), (.int 5), (.ref a1)])
  obtain ⟨cl188, Ar188, q188, S188, M188, H188, G188⟩ := id V185
  have hin188 : ¬ ((5 : Int32) < 0 ∨ cl188.slots.size ≤ ((5 : Int32)).toNatClampNeg) := inb_of S188 ⟨by decide, by decide⟩
  obtain ⟨T188, h188, X188, e188, W188, st188⟩ := stB X187 hx hZ e187 Ar188 (j := (5 : Int32)) hin188 (g := (mkF m 52 #[Rv a1, Iv 5, Iv cc] [(.int ((cc >>> ((8 : Int32) &&& 31)).toInt8.toInt32)), (.int 5), (.ref a1)])) rfl rfl (hb hby d22_52)
  have V188 : Arv Z h188 a1 k1 .byte (6 : Int32) [(.int w0), (.int w1), (.int w2), (.int w3), (.int ((cc >>> ((0 : Int32) &&& 31)).toInt8.toInt32).toInt8.toInt32), (.int ((cc >>> ((8 : Int32) &&& 31)).toInt8.toInt32).toInt8.toInt32)] (.int (0 : Int32)) := Arv.set Ar188 q188 S188 M188 H188 G188 (fits_nar_byte _) W188 5 rfl (Nat.le_of_ble_eq_true rfl)
  have Kp188 : Keep h0 h188 [a1] := Kp185.wr W188 (Or.inl (List.mem_of_getElem? (i := 0) rfl))
  have Zs188 : n0 ≤ h188.size := Nat.le_trans Zs185 (Keep.of_wr W188).1
  have N188 := Fr.snoc X188 N185 g_1
  have f189_0 : Old Z n0 h188 := f186_0.wr W188 g_1
  refine own_by (fun _ k => XS.i2b X187.here hx rfl (hb hby d22_51) rfl (st188 _ k)) ?_
  exact own_retV X188 hx hlk hret (hb hby d22_53) (by rw [e188]; exact ⟨rfl, N188, Kp188, (by have q := V188; simp only [own_b8] at q; exact q)⟩) (by decide) (by decide)
def own_QTB3 (Z : State) (x0 x1 x2 : Int32) (h0 : Heap) (n0 : Nat) (v : Option Value) (h : Heap) (L : List Loc) : Prop := ∃ (a : Addr) (k : ClassId), v = some (.ref a) ∧ Fr n0 L ∧ Keep h0 h [] ∧ h0.size ≤ a ∧ Arv Z h a k .byte (6 : Int32) [(.int (own_lo x0)), (.int (own_hi x0)), (.int (own_lo x1)), (.int (own_hi x1)), (.int (own_lo x2)), (.int (own_hi x2))] (.int (0 : Int32))
set_option maxRecDepth 65536 in
set_option maxHeartbeats 40000000 in
theorem rmTB3 (l : Launch) (Z : State) (a0 : Array Value) (hw : own_W a0 Z) (ws : List Jvm.Cond) (cs : Int32) (gS : Value) (a1 : Addr) (kc : ClassId) (x0 x1 x2 : Int32) (h0 : Heap) (n0 : Nat) (Z0 : n0 ≤ h0.size) (V_env : own_Env Z cs gS) (Od : Old Z n0 h0) (V1 : Arv Z h0 a1 kc .char (3 : Int32) [(.int x0), (.int x1), (.int x2)] (.int (0 : Int32))) : own_Met l Z mn6 jdk_52_method_14_code 5 (some (.array .byte)) ws (own_R 2 1 6 24) #[(.ref a1), (.int (0 : Int32)), (.int (3 : Int32))] h0 (own_QTB3 Z x0 x1 x2 h0 n0) := by
  refine own_enter n0 (plainFor_of_name own_pn40) (fun m => ef_RII_5 m a1 (0 : Int32) (3 : Int32) ) (fun p e s m below meth c s₁ hx hby hlk hml hret hown hnm hZ X0 e0 N0 => ?_)
  show own_Fin _ _ _ _ _ _ _ s₁ (mkF m 0 #[Rv a1, Iv 0, Iv 3, Uv, Uv] [])
  have Kp190 : Keep h0 h0 [] := Keep.refl h0 _
  obtain ⟨_, _, ⟨T191, L191, k191, n191⟩, -, X191, ⟨Lc191, hQ191, l191, y191, z191⟩, st191⟩ := Jvm.LawKit.callS X0 hx (y := mn4) hown (mvT hZ (own_g hw 88 rfl)) (mvT hZ (own_g hw 89 rfl)) (mvT hZ (own_g hw 73 rfl)) (mvT hZ (own_g hw 90 rfl)) (by decide) (backOf (W := 0) (rmNBF3 l Z a0 hw []  h0 n0 Z0 ) hZ (own_g hw 90 rfl) (own_g hw 73 rfl) (by decide) (by decide)) (g := (mkF m 1 #[Rv a1, Iv 0, Iv 3, Uv, Uv] [(.int 3)])) rfl (by rw [hml]; rfl) (argsL := [(.int (3 : Int32))]) (rest := []) (lenOf own_pd81 rfl) rfl (own_z rfl) (hb hby d19_1) (fun _ _ => ⟨rfl, e0, (by decide : 0 + 1 ≤ _), (by decide : 0 + 6 ≤ _)⟩)
  dsimp only [Pt.U, Pt.locs, Pt.cells, Pt.slots] at X191 l191 y191 z191 st191 hQ191
  subst l191 y191 z191
  obtain ⟨b191, k191, rfl, Nq191, K191, ge191, V191⟩ := hQ191
  have N191 := Fr.app N0 Nq191
  have Zs191 : n0 ≤ T191.heap.size := Nat.le_trans Z0 K191.1
  have Kp191 : Keep h0 T191.heap [] := Kp190.trans K191 all0
  have f192_0 : Old Z n0 T191.heap := Od.keep K191 all0
  have f192_1 : Arv Z T191.heap a1 kc .char (3 : Int32) [(.int x0), (.int x1), (.int x2)] (.int (0 : Int32)) := V1.keep K191 nin0
  have ne191_a1 : a1 ≠ b191 := Nat.ne_of_lt (Nat.lt_of_lt_of_le V1.lt ge191)
  have gf191 : n0 ≤ b191 := Nat.le_trans Z0 ge191
  have sz_b191 : h0.size ≤ b191 := Nat.le_trans Kp190.1 ge191
  refine own_by (fun _ k => XS.iloadN X0.here hx rfl (hb hby d19_0) rfl (st191 _ (XS.astoreN X191.here hx rfl (hb hby d19_4) rfl rfl (l' := #[Rv a1, Iv 0, Iv 3, Rv b191, Uv]) rfl (XS.iconst X191.here hx rfl (hb hby d19_5) (XS.istore X191.here hx rfl (hb hby d19_6) rfl (l' := #[Rv a1, Iv 0, Iv 3, Rv b191, Iv 0]) rfl (XS.iload X191.here hx rfl (hb hby d19_8) rfl (XS.iloadN X191.here hx rfl (hb hby d19_10) rfl (XS.icmpNo X191.here hx rfl (hb hby d19_11) rfl (tlt (by decide : (0 : Int32) < (3 : Int32))).2.1 (XS.aloadN X191.here hx rfl (hb hby d19_14) rfl rfl (XS.iload X191.here hx rfl (hb hby d19_15) rfl k)))))))))) ?_
  show own_Fin _ _ _ _ _ _ _ T191 (mkF m 17 #[Rv a1, Iv 0, Iv 3, Rv b191, Iv 0] [(.int 0), (.ref b191)])
  obtain ⟨cl193, Ar193, -, S193, M193, H193, -⟩ := id f192_1
  have hin193 : ¬ ((0 : Int32) < 0 ∨ cl193.slots.size ≤ ((0 : Int32)).toNatClampNeg) := inb_of S193 ⟨by decide, by decide⟩
  have hat193 : cl193.slots[((0 : Int32)).toNatClampNeg]? = some (.int x0) := Has.at H193 hin193 rfl
  obtain ⟨_, _, ⟨T194, L194, k194, n194⟩, -, X194, ⟨Lc194, hQ194, l194, y194, z194⟩, st194⟩ := Jvm.LawKit.callS X191 hx (y := mn5) hown (mvT hZ (own_g hw 95 rfl)) (mvT hZ (own_g hw 96 rfl)) (mvT hZ (own_g hw 73 rfl)) (mvT hZ (own_g hw 97 rfl)) (by decide) (backOf (W := 0) (rmPC3_0 l Z a0 hw [] cs gS b191 k191 x0 (0 : Int32) (0 : Int32) (0 : Int32) (0 : Int32) (0 : Int32) (0 : Int32) T191.heap n0 Zs191 V_env f192_0 V191 gf191) hZ (own_g hw 97 rfl) (own_g hw 73 rfl) (by decide) (by decide)) (g := (mkF m 20 #[Rv a1, Iv 0, Iv 3, Rv b191, Iv 0] [(.int x0), (.int 0), (.ref b191)])) rfl (by rw [hml]; rfl) (argsL := [(.ref b191), (.int (0 : Int32)), (.int x0)]) (rest := []) (lenOf own_pd94 rfl) rfl (own_z rfl) (hb hby d19_20) (fun _ _ => ⟨rfl, rfl, (by decide : 1 + 0 ≤ _), (by decide : 6 + 0 ≤ _)⟩)
  dsimp only [Pt.U, Pt.locs, Pt.cells, Pt.slots] at X194 l194 y194 z194 st194 hQ194
  subst l194 y194 z194
  obtain ⟨rfl, Nq194, K194, Vr194⟩ := hQ194
  have N194 := Fr.app N191 Nq194
  have Zs194 : n0 ≤ T194.heap.size := Nat.le_trans Zs191 K194.1
  have Kp194 : Keep h0 T194.heap [] := Kp191.trans K194 (allS (Or.inr sz_b191) all0)
  have f195_0 : Old Z n0 T194.heap := f192_0.keep K194 (allS gf191 all0)
  have f195_1 : Arv Z T194.heap a1 kc .char (3 : Int32) [(.int x0), (.int x1), (.int x2)] (.int (0 : Int32)) := f192_1.keep K194 (ninS ne191_a1 nin0)
  refine own_by (fun _ k => XS.aloadN X191.here hx rfl (hb hby d19_17) rfl rfl (XS.iloadN X191.here hx rfl (hb hby d19_18) rfl (X191.caload hx (j := (0 : Int32)) (v := (.int x0)) Ar193.1 (State.isArrayOf_alike hZ.alike Ar193.2.1) Ar193.2.2 hin193 hat193 (g := (mkF m 19 #[Rv a1, Iv 0, Iv 3, Rv b191, Iv 0] [(.int 0), (.ref a1), (.int 0), (.ref b191)])) rfl rfl (hb hby d19_19) _ (st194 _ (XS.iinc X194.here hx rfl (hb hby d19_23) rfl (l' := #[Rv a1, Iv ((0 : Int32) + (1 : Int32)), Iv 3, Rv b191, Iv 0]) rfl k))))) ?_
  show own_Fin _ _ _ _ _ _ _ T194 (mkF m 26 #[Rv a1, Iv ((0 : Int32) + (1 : Int32)), Iv 3, Rv b191, Iv 0] [])
  rw [(by decide : ((0 : Int32) + (1 : Int32)) = (1 : Int32))]
  show own_Fin _ _ _ _ _ _ _ T194 (mkF m 26 #[Rv a1, Iv 1, Iv 3, Rv b191, Iv 0] [])
  refine own_by (fun _ k => XS.iinc X194.here hx rfl (hb hby d19_26) rfl (l' := #[Rv a1, Iv 1, Iv 3, Rv b191, Iv ((0 : Int32) + (1 : Int32))]) rfl k) ?_
  show own_Fin _ _ _ _ _ _ _ T194 (mkF m 29 #[Rv a1, Iv 1, Iv 3, Rv b191, Iv ((0 : Int32) + (1 : Int32))] [])
  rw [(by decide : ((0 : Int32) + (1 : Int32)) = (1 : Int32))]
  show own_Fin _ _ _ _ _ _ _ T194 (mkF m 29 #[Rv a1, Iv 1, Iv 3, Rv b191, Iv 1] [])
  obtain ⟨cl196, Ar196, -, S196, M196, H196, -⟩ := id f195_1
  have hin196 : ¬ ((1 : Int32) < 0 ∨ cl196.slots.size ≤ ((1 : Int32)).toNatClampNeg) := inb_of S196 ⟨by decide, by decide⟩
  have hat196 : cl196.slots[((1 : Int32)).toNatClampNeg]? = some (.int x1) := Has.at H196 hin196 rfl
  obtain ⟨_, _, ⟨T197, L197, k197, n197⟩, -, X197, ⟨Lc197, hQ197, l197, y197, z197⟩, st197⟩ := Jvm.LawKit.callS X194 hx (y := mn5) hown (mvT hZ (own_g hw 95 rfl)) (mvT hZ (own_g hw 96 rfl)) (mvT hZ (own_g hw 73 rfl)) (mvT hZ (own_g hw 97 rfl)) (by decide) (backOf (W := 0) (rmPC3_1 l Z a0 hw [] cs gS b191 k191 x1 (own_lo x0) (own_hi x0) (0 : Int32) (0 : Int32) (0 : Int32) (0 : Int32) T194.heap n0 Zs194 V_env f195_0 Vr194 gf191) hZ (own_g hw 97 rfl) (own_g hw 73 rfl) (by decide) (by decide)) (g := (mkF m 20 #[Rv a1, Iv 1, Iv 3, Rv b191, Iv 1] [(.int x1), (.int 1), (.ref b191)])) rfl (by rw [hml]; rfl) (argsL := [(.ref b191), (.int (1 : Int32)), (.int x1)]) (rest := []) (lenOf own_pd94 rfl) rfl (own_z rfl) (hb hby d19_20) (fun _ _ => ⟨rfl, rfl, (by decide : 1 + 0 ≤ _), (by decide : 6 + 0 ≤ _)⟩)
  dsimp only [Pt.U, Pt.locs, Pt.cells, Pt.slots] at X197 l197 y197 z197 st197 hQ197
  subst l197 y197 z197
  obtain ⟨rfl, Nq197, K197, Vr197⟩ := hQ197
  have N197 := Fr.app N194 Nq197
  have Zs197 : n0 ≤ T197.heap.size := Nat.le_trans Zs194 K197.1
  have Kp197 : Keep h0 T197.heap [] := Kp194.trans K197 (allS (Or.inr sz_b191) all0)
  have f198_0 : Old Z n0 T197.heap := f195_0.keep K197 (allS gf191 all0)
  have f198_1 : Arv Z T197.heap a1 kc .char (3 : Int32) [(.int x0), (.int x1), (.int x2)] (.int (0 : Int32)) := f195_1.keep K197 (ninS ne191_a1 nin0)
  refine own_by (fun _ k => XS.goto X194.here hx rfl (pc0 := 29) (pc' := 8) rfl (hb hby d19_29) (by decide) (by decide) (XS.iload X194.here hx rfl (hb hby d19_8) rfl (XS.iloadN X194.here hx rfl (hb hby d19_10) rfl (XS.icmpNo X194.here hx rfl (hb hby d19_11) rfl (tlt (by decide : (1 : Int32) < (3 : Int32))).2.1 (XS.aloadN X194.here hx rfl (hb hby d19_14) rfl rfl (XS.iload X194.here hx rfl (hb hby d19_15) rfl (XS.aloadN X194.here hx rfl (hb hby d19_17) rfl rfl (XS.iloadN X194.here hx rfl (hb hby d19_18) rfl (X194.caload hx (j := (1 : Int32)) (v := (.int x1)) Ar196.1 (State.isArrayOf_alike hZ.alike Ar196.2.1) Ar196.2.2 hin196 hat196 (g := (mkF m 19 #[Rv a1, Iv 1, Iv 3, Rv b191, Iv 1] [(.int 1), (.ref a1), (.int 1), (.ref b191)])) rfl rfl (hb hby d19_19) _ (st197 _ k)))))))))) ?_
  show own_Fin _ _ _ _ _ _ _ T197 (mkF m 23 #[Rv a1, Iv 1, Iv 3, Rv b191, Iv 1] [])
  refine own_by (fun _ k => XS.iinc X197.here hx rfl (hb hby d19_23) rfl (l' := #[Rv a1, Iv ((1 : Int32) + (1 : Int32)), Iv 3, Rv b191, Iv 1]) rfl k) ?_
  show own_Fin _ _ _ _ _ _ _ T197 (mkF m 26 #[Rv a1, Iv ((1 : Int32) + (1 : Int32)), Iv 3, Rv b191, Iv 1] [])
  rw [(by decide : ((1 : Int32) + (1 : Int32)) = (2 : Int32))]
  show own_Fin _ _ _ _ _ _ _ T197 (mkF m 26 #[Rv a1, Iv 2, Iv 3, Rv b191, Iv 1] [])
  refine own_by (fun _ k => XS.iinc X197.here hx rfl (hb hby d19_26) rfl (l' := #[Rv a1, Iv 2, Iv 3, Rv b191, Iv ((1 : Int32) + (1 : Int32))]) rfl k) ?_
  show own_Fin _ _ _ _ _ _ _ T197 (mkF m 29 #[Rv a1, Iv 2, Iv 3, Rv b191, Iv ((1 : Int32) + (1 : Int32))] [])
  rw [(by decide : ((1 : Int32) + (1 : Int32)) = (2 : Int32))]
  show own_Fin _ _ _ _ _ _ _ T197 (mkF m 29 #[Rv a1, Iv 2, Iv 3, Rv b191, Iv 2] [])
  obtain ⟨cl199, Ar199, -, S199, M199, H199, -⟩ := id f198_1
  have hin199 : ¬ ((2 : Int32) < 0 ∨ cl199.slots.size ≤ ((2 : Int32)).toNatClampNeg) := inb_of S199 ⟨by decide, by decide⟩
  have hat199 : cl199.slots[((2 : Int32)).toNatClampNeg]? = some (.int x2) := Has.at H199 hin199 rfl
  obtain ⟨_, _, ⟨T200, L200, k200, n200⟩, -, X200, ⟨Lc200, hQ200, l200, y200, z200⟩, st200⟩ := Jvm.LawKit.callS X197 hx (y := mn5) hown (mvT hZ (own_g hw 95 rfl)) (mvT hZ (own_g hw 96 rfl)) (mvT hZ (own_g hw 73 rfl)) (mvT hZ (own_g hw 97 rfl)) (by decide) (backOf (W := 0) (rmPC3_2 l Z a0 hw [] cs gS b191 k191 x2 (own_lo x0) (own_hi x0) (own_lo x1) (own_hi x1) (0 : Int32) (0 : Int32) T197.heap n0 Zs197 V_env f198_0 Vr197 gf191) hZ (own_g hw 97 rfl) (own_g hw 73 rfl) (by decide) (by decide)) (g := (mkF m 20 #[Rv a1, Iv 2, Iv 3, Rv b191, Iv 2] [(.int x2), (.int 2), (.ref b191)])) rfl (by rw [hml]; rfl) (argsL := [(.ref b191), (.int (2 : Int32)), (.int x2)]) (rest := []) (lenOf own_pd94 rfl) rfl (own_z rfl) (hb hby d19_20) (fun _ _ => ⟨rfl, rfl, (by decide : 1 + 0 ≤ _), (by decide : 6 + 0 ≤ _)⟩)
  dsimp only [Pt.U, Pt.locs, Pt.cells, Pt.slots] at X200 l200 y200 z200 st200 hQ200
  subst l200 y200 z200
  obtain ⟨rfl, Nq200, K200, Vr200⟩ := hQ200
  have N200 := Fr.app N197 Nq200
  have Zs200 : n0 ≤ T200.heap.size := Nat.le_trans Zs197 K200.1
  have Kp200 : Keep h0 T200.heap [] := Kp197.trans K200 (allS (Or.inr sz_b191) all0)
  have f201_0 : Old Z n0 T200.heap := f198_0.keep K200 (allS gf191 all0)
  have f201_1 : Arv Z T200.heap a1 kc .char (3 : Int32) [(.int x0), (.int x1), (.int x2)] (.int (0 : Int32)) := f198_1.keep K200 (ninS ne191_a1 nin0)
  refine own_by (fun _ k => XS.goto X197.here hx rfl (pc0 := 29) (pc' := 8) rfl (hb hby d19_29) (by decide) (by decide) (XS.iload X197.here hx rfl (hb hby d19_8) rfl (XS.iloadN X197.here hx rfl (hb hby d19_10) rfl (XS.icmpNo X197.here hx rfl (hb hby d19_11) rfl (tlt (by decide : (2 : Int32) < (3 : Int32))).2.1 (XS.aloadN X197.here hx rfl (hb hby d19_14) rfl rfl (XS.iload X197.here hx rfl (hb hby d19_15) rfl (XS.aloadN X197.here hx rfl (hb hby d19_17) rfl rfl (XS.iloadN X197.here hx rfl (hb hby d19_18) rfl (X197.caload hx (j := (2 : Int32)) (v := (.int x2)) Ar199.1 (State.isArrayOf_alike hZ.alike Ar199.2.1) Ar199.2.2 hin199 hat199 (g := (mkF m 19 #[Rv a1, Iv 2, Iv 3, Rv b191, Iv 2] [(.int 2), (.ref a1), (.int 2), (.ref b191)])) rfl rfl (hb hby d19_19) _ (st200 _ k)))))))))) ?_
  show own_Fin _ _ _ _ _ _ _ T200 (mkF m 23 #[Rv a1, Iv 2, Iv 3, Rv b191, Iv 2] [])
  refine own_by (fun _ k => XS.iinc X200.here hx rfl (hb hby d19_23) rfl (l' := #[Rv a1, Iv ((2 : Int32) + (1 : Int32)), Iv 3, Rv b191, Iv 2]) rfl k) ?_
  show own_Fin _ _ _ _ _ _ _ T200 (mkF m 26 #[Rv a1, Iv ((2 : Int32) + (1 : Int32)), Iv 3, Rv b191, Iv 2] [])
  rw [(by decide : ((2 : Int32) + (1 : Int32)) = (3 : Int32))]
  show own_Fin _ _ _ _ _ _ _ T200 (mkF m 26 #[Rv a1, Iv 3, Iv 3, Rv b191, Iv 2] [])
  refine own_by (fun _ k => XS.iinc X200.here hx rfl (hb hby d19_26) rfl (l' := #[Rv a1, Iv 3, Iv 3, Rv b191, Iv ((2 : Int32) + (1 : Int32))]) rfl k) ?_
  show own_Fin _ _ _ _ _ _ _ T200 (mkF m 29 #[Rv a1, Iv 3, Iv 3, Rv b191, Iv ((2 : Int32) + (1 : Int32))] [])
  rw [(by decide : ((2 : Int32) + (1 : Int32)) = (3 : Int32))]
  show own_Fin _ _ _ _ _ _ _ T200 (mkF m 29 #[Rv a1, Iv 3, Iv 3, Rv b191, Iv 3] [])
  refine own_by (fun _ k => XS.goto X200.here hx rfl (pc0 := 29) (pc' := 8) rfl (hb hby d19_29) (by decide) (by decide) (XS.iload X200.here hx rfl (hb hby d19_8) rfl (XS.iloadN X200.here hx rfl (hb hby d19_10) rfl (XS.icmpYes X200.here hx rfl (pc0 := 11) (pc' := 32) rfl (hb hby d19_11) rfl (flt (by decide : ¬ ((3 : Int32) < (3 : Int32)))).2.1 (by decide) (by decide) (XS.aloadN X200.here hx rfl (hb hby d19_32) rfl rfl k))))) ?_
  exact own_retA X200 hx hlk (t := (.array .byte)) hret rfl rfl rfl (hb hby d19_33) ⟨_, _, rfl, N200, Kp200, sz_b191, Vr200⟩ (by decide) (by decide)
def own_QrmGC3_0 (x0 x1 x2 : Int32) (h0 : Heap) (n0 : Nat) (v : Option Value) (h : Heap) (L : List Loc) : Prop := v = some (.int x0) ∧ Fr n0 L ∧ h = h0
set_option maxRecDepth 65536 in
set_option maxHeartbeats 40000000 in
theorem rmGC3_0 (l : Launch) (Z : State) (a0 : Array Value) (hw : own_W a0 Z) (ws : List Jvm.Cond) (cs : Int32) (gS : Value) (a1 : Addr) (k1 : ClassId) (x0 x1 x2 : Int32) (h0 : Heap) (n0 : Nat) (Z0 : n0 ≤ h0.size) (V_env : own_Env Z cs gS) (Od : Old Z n0 h0) (V1 : Arv Z h0 a1 k1 .byte (6 : Int32) [(.int (own_lo x0)), (.int (own_hi x0)), (.int (own_lo x1)), (.int (own_hi x1)), (.int (own_lo x2)), (.int (own_hi x2))] (.int (0 : Int32))) (hch : own_ch x0) : own_Met l Z mn7 jdk_52_method_5_code 2 (some .char) ws (own_R 0 0 0 0) #[(.ref a1), (.int (0 : Int32))] h0 (own_QrmGC3_0 x0 x1 x2 h0 n0) := by
  refine own_enter n0 (plainFor_of_name own_pn40) (fun m => ef_RI_2 m a1 (0 : Int32) ) (fun p e s m below meth c s₁ hx hby hlk hml hret hown hnm hZ X0 e0 N0 => ?_)
  show own_Fin _ _ _ _ _ _ _ s₁ (mkF m 0 #[Rv a1, Iv 0] [])
  obtain ⟨T202, X202, e202, st202⟩ := getS2 X0 hx hZ hown (host := "") (Or.inl (own_g hw 98 rfl)) Via.refl e0 (V_env.1.ext Od.2) (g := (mkF m 0 #[Rv a1, Iv 0] [])) rfl (hb hby d23_0)
  refine own_by (fun _ k => st202 _ (XS.ifYes X202.here hx rfl (pc0 := 3) (pc' := 28) rfl (hb hby d23_3) rfl ((if0 _ _).trans (feq (by decide : ¬ ((1 : Int32) = (0 : Int32)))).2) (by decide) (by decide) (XS.iloadN X202.here hx rfl (hb hby d23_28) rfl (XS.iconst X202.here hx rfl (hb hby d23_29) (XS.ishl X202.here hx rfl (hb hby d23_30) rfl k))))) ?_
  show own_Fin _ _ _ _ _ _ _ T202 (mkF m 31 #[Rv a1, Iv 0] [(.int ((0 : Int32) <<< ((1 : Int32) &&& 31)))])
  rw [(by decide : ((0 : Int32) <<< ((1 : Int32) &&& 31)) = (0 : Int32))]
  show own_Fin _ _ _ _ _ _ _ T202 (mkF m 31 #[Rv a1, Iv 0] [(.int 0)])
  refine own_by (fun _ k => XS.istoreN X202.here hx rfl (hb hby d23_31) rfl (l' := #[Rv a1, Iv 0]) rfl (XS.aloadN X202.here hx rfl (hb hby d23_32) rfl rfl (XS.iloadN X202.here hx rfl (hb hby d23_33) rfl (XS.iinc X202.here hx rfl (hb hby d23_34) rfl (l' := #[Rv a1, Iv ((0 : Int32) + (1 : Int32))]) rfl k)))) ?_
  show own_Fin _ _ _ _ _ _ _ T202 (mkF m 37 #[Rv a1, Iv ((0 : Int32) + (1 : Int32))] [(.int 0), (.ref a1)])
  rw [(by decide : ((0 : Int32) + (1 : Int32)) = (1 : Int32))]
  show own_Fin _ _ _ _ _ _ _ T202 (mkF m 37 #[Rv a1, Iv 1] [(.int 0), (.ref a1)])
  obtain ⟨cl203, Ar203, -, S203, M203, H203, -⟩ := id V1
  have hin203 : ¬ ((0 : Int32) < 0 ∨ cl203.slots.size ≤ ((0 : Int32)).toNatClampNeg) := inb_of S203 ⟨by decide, by decide⟩
  have hat203 : cl203.slots[((0 : Int32)).toNatClampNeg]? = some (.int (own_lo x0)) := Has.at H203 hin203 rfl
  obtain ⟨T204, X204, e204, st204⟩ := getS2 X202 hx hZ hown (host := "") (Or.inl (own_g hw 99 rfl)) Via.refl e202 (V_env.2.1.ext Od.2) (g := (mkF m 42 #[Rv a1, Iv 1] [(.int ((own_lo x0) &&& (255 : Int32)))])) rfl (hb hby d23_42)
  obtain ⟨cl205, Ar205, -, S205, M205, H205, -⟩ := id V1
  have hin205 : ¬ ((1 : Int32) < 0 ∨ cl205.slots.size ≤ ((1 : Int32)).toNatClampNeg) := inb_of S205 ⟨by decide, by decide⟩
  have hat205 : cl205.slots[((1 : Int32)).toNatClampNeg]? = some (.int (own_hi x0)) := Has.at H205 hin205 rfl
  obtain ⟨T206, X206, e206, st206⟩ := getS2 X204 hx hZ hown (host := "") (Or.inl (own_g hw 100 rfl)) Via.refl e204 (V_env.2.2.1.ext Od.2) (g := (mkF m 53 #[Rv a1, Iv 1] [(.int ((own_hi x0) &&& (255 : Int32))), (.int (((own_lo x0) &&& (255 : Int32)) <<< ((0 : Int32) &&& 31)))])) rfl (hb hby d23_53)
  refine own_by (fun _ k => X202.baloadBytes hx (j := (0 : Int32)) (v := (.int (own_lo x0))) (by rw [e202]; exact Ar203.1) (State.isArrayOf_alike hZ.alike Ar203.2.1) Ar203.2.2 hin203 hat203 (g := (mkF m 37 #[Rv a1, Iv 1] [(.int 0), (.ref a1)])) rfl rfl (hb hby d23_37) _ (XS.sipush X202.here hx rfl (hb hby d23_38) (XS.iand X202.here hx rfl (hb hby d23_41) rfl (st204 _ (XS.ishl X204.here hx rfl (hb hby d23_45) rfl (XS.aloadN X204.here hx rfl (hb hby d23_46) rfl rfl (XS.iloadN X204.here hx rfl (hb hby d23_47) rfl (X204.baloadBytes hx (j := (1 : Int32)) (v := (.int (own_hi x0))) (by rw [e204]; exact Ar205.1) (State.isArrayOf_alike hZ.alike Ar205.2.1) Ar205.2.2 hin205 hat205 (g := (mkF m 48 #[Rv a1, Iv 1] [(.int 1), (.ref a1), (.int (((own_lo x0) &&& (255 : Int32)) <<< ((0 : Int32) &&& 31)))])) rfl rfl (hb hby d23_48) _ (XS.sipush X204.here hx rfl (hb hby d23_49) (XS.iand X204.here hx rfl (hb hby d23_52) rfl k)))))))))) ?_
  show own_Fin _ _ _ _ _ _ _ T204 (mkF m 53 #[Rv a1, Iv 1] [(.int ((own_hi x0) &&& (255 : Int32))), (.int (((own_lo x0) &&& (255 : Int32)) <<< ((0 : Int32) &&& 31)))])
  refine own_by (fun _ k => st206 _ (XS.ishl X206.here hx rfl (hb hby d23_56) rfl (XS.ior X206.here hx rfl (hb hby d23_57) rfl (XS.i2c X206.here hx rfl (hb hby d23_58) rfl k)))) ?_
  exact own_retZ X206 hx hlk (t := .char) hret (by simp) (hb hby d23_59) ⟨own_vi (own_u16 hch), N0, e206⟩ (by decide) (by decide)
def own_QrmGC3_1 (x0 x1 x2 : Int32) (h0 : Heap) (n0 : Nat) (v : Option Value) (h : Heap) (L : List Loc) : Prop := v = some (.int x1) ∧ Fr n0 L ∧ h = h0
set_option maxRecDepth 65536 in
set_option maxHeartbeats 40000000 in
theorem rmGC3_1 (l : Launch) (Z : State) (a0 : Array Value) (hw : own_W a0 Z) (ws : List Jvm.Cond) (cs : Int32) (gS : Value) (a1 : Addr) (k1 : ClassId) (x0 x1 x2 : Int32) (h0 : Heap) (n0 : Nat) (Z0 : n0 ≤ h0.size) (V_env : own_Env Z cs gS) (Od : Old Z n0 h0) (V1 : Arv Z h0 a1 k1 .byte (6 : Int32) [(.int (own_lo x0)), (.int (own_hi x0)), (.int (own_lo x1)), (.int (own_hi x1)), (.int (own_lo x2)), (.int (own_hi x2))] (.int (0 : Int32))) (hch : own_ch x1) : own_Met l Z mn7 jdk_52_method_5_code 2 (some .char) ws (own_R 0 0 0 0) #[(.ref a1), (.int (1 : Int32))] h0 (own_QrmGC3_1 x0 x1 x2 h0 n0) := by
  refine own_enter n0 (plainFor_of_name own_pn40) (fun m => ef_RI_2 m a1 (1 : Int32) ) (fun p e s m below meth c s₁ hx hby hlk hml hret hown hnm hZ X0 e0 N0 => ?_)
  show own_Fin _ _ _ _ _ _ _ s₁ (mkF m 0 #[Rv a1, Iv 1] [])
  obtain ⟨T207, X207, e207, st207⟩ := getS2 X0 hx hZ hown (host := "") (Or.inl (own_g hw 98 rfl)) Via.refl e0 (V_env.1.ext Od.2) (g := (mkF m 0 #[Rv a1, Iv 1] [])) rfl (hb hby d23_0)
  refine own_by (fun _ k => st207 _ (XS.ifYes X207.here hx rfl (pc0 := 3) (pc' := 28) rfl (hb hby d23_3) rfl ((if0 _ _).trans (feq (by decide : ¬ ((1 : Int32) = (0 : Int32)))).2) (by decide) (by decide) (XS.iloadN X207.here hx rfl (hb hby d23_28) rfl (XS.iconst X207.here hx rfl (hb hby d23_29) (XS.ishl X207.here hx rfl (hb hby d23_30) rfl k))))) ?_
  show own_Fin _ _ _ _ _ _ _ T207 (mkF m 31 #[Rv a1, Iv 1] [(.int ((1 : Int32) <<< ((1 : Int32) &&& 31)))])
  rw [(by decide : ((1 : Int32) <<< ((1 : Int32) &&& 31)) = (2 : Int32))]
  show own_Fin _ _ _ _ _ _ _ T207 (mkF m 31 #[Rv a1, Iv 1] [(.int 2)])
  refine own_by (fun _ k => XS.istoreN X207.here hx rfl (hb hby d23_31) rfl (l' := #[Rv a1, Iv 2]) rfl (XS.aloadN X207.here hx rfl (hb hby d23_32) rfl rfl (XS.iloadN X207.here hx rfl (hb hby d23_33) rfl (XS.iinc X207.here hx rfl (hb hby d23_34) rfl (l' := #[Rv a1, Iv ((2 : Int32) + (1 : Int32))]) rfl k)))) ?_
  show own_Fin _ _ _ _ _ _ _ T207 (mkF m 37 #[Rv a1, Iv ((2 : Int32) + (1 : Int32))] [(.int 2), (.ref a1)])
  rw [(by decide : ((2 : Int32) + (1 : Int32)) = (3 : Int32))]
  show own_Fin _ _ _ _ _ _ _ T207 (mkF m 37 #[Rv a1, Iv 3] [(.int 2), (.ref a1)])
  obtain ⟨cl208, Ar208, -, S208, M208, H208, -⟩ := id V1
  have hin208 : ¬ ((2 : Int32) < 0 ∨ cl208.slots.size ≤ ((2 : Int32)).toNatClampNeg) := inb_of S208 ⟨by decide, by decide⟩
  have hat208 : cl208.slots[((2 : Int32)).toNatClampNeg]? = some (.int (own_lo x1)) := Has.at H208 hin208 rfl
  obtain ⟨T209, X209, e209, st209⟩ := getS2 X207 hx hZ hown (host := "") (Or.inl (own_g hw 99 rfl)) Via.refl e207 (V_env.2.1.ext Od.2) (g := (mkF m 42 #[Rv a1, Iv 3] [(.int ((own_lo x1) &&& (255 : Int32)))])) rfl (hb hby d23_42)
  obtain ⟨cl210, Ar210, -, S210, M210, H210, -⟩ := id V1
  have hin210 : ¬ ((3 : Int32) < 0 ∨ cl210.slots.size ≤ ((3 : Int32)).toNatClampNeg) := inb_of S210 ⟨by decide, by decide⟩
  have hat210 : cl210.slots[((3 : Int32)).toNatClampNeg]? = some (.int (own_hi x1)) := Has.at H210 hin210 rfl
  obtain ⟨T211, X211, e211, st211⟩ := getS2 X209 hx hZ hown (host := "") (Or.inl (own_g hw 100 rfl)) Via.refl e209 (V_env.2.2.1.ext Od.2) (g := (mkF m 53 #[Rv a1, Iv 3] [(.int ((own_hi x1) &&& (255 : Int32))), (.int (((own_lo x1) &&& (255 : Int32)) <<< ((0 : Int32) &&& 31)))])) rfl (hb hby d23_53)
  refine own_by (fun _ k => X207.baloadBytes hx (j := (2 : Int32)) (v := (.int (own_lo x1))) (by rw [e207]; exact Ar208.1) (State.isArrayOf_alike hZ.alike Ar208.2.1) Ar208.2.2 hin208 hat208 (g := (mkF m 37 #[Rv a1, Iv 3] [(.int 2), (.ref a1)])) rfl rfl (hb hby d23_37) _ (XS.sipush X207.here hx rfl (hb hby d23_38) (XS.iand X207.here hx rfl (hb hby d23_41) rfl (st209 _ (XS.ishl X209.here hx rfl (hb hby d23_45) rfl (XS.aloadN X209.here hx rfl (hb hby d23_46) rfl rfl (XS.iloadN X209.here hx rfl (hb hby d23_47) rfl (X209.baloadBytes hx (j := (3 : Int32)) (v := (.int (own_hi x1))) (by rw [e209]; exact Ar210.1) (State.isArrayOf_alike hZ.alike Ar210.2.1) Ar210.2.2 hin210 hat210 (g := (mkF m 48 #[Rv a1, Iv 3] [(.int 3), (.ref a1), (.int (((own_lo x1) &&& (255 : Int32)) <<< ((0 : Int32) &&& 31)))])) rfl rfl (hb hby d23_48) _ (XS.sipush X209.here hx rfl (hb hby d23_49) (XS.iand X209.here hx rfl (hb hby d23_52) rfl k)))))))))) ?_
  show own_Fin _ _ _ _ _ _ _ T209 (mkF m 53 #[Rv a1, Iv 3] [(.int ((own_hi x1) &&& (255 : Int32))), (.int (((own_lo x1) &&& (255 : Int32)) <<< ((0 : Int32) &&& 31)))])
  refine own_by (fun _ k => st211 _ (XS.ishl X211.here hx rfl (hb hby d23_56) rfl (XS.ior X211.here hx rfl (hb hby d23_57) rfl (XS.i2c X211.here hx rfl (hb hby d23_58) rfl k)))) ?_
  exact own_retZ X211 hx hlk (t := .char) hret (by simp) (hb hby d23_59) ⟨own_vi (own_u16 hch), N0, e211⟩ (by decide) (by decide)
def own_QrmGC3_2 (x0 x1 x2 : Int32) (h0 : Heap) (n0 : Nat) (v : Option Value) (h : Heap) (L : List Loc) : Prop := v = some (.int x2) ∧ Fr n0 L ∧ h = h0
set_option maxRecDepth 65536 in
set_option maxHeartbeats 40000000 in
theorem rmGC3_2 (l : Launch) (Z : State) (a0 : Array Value) (hw : own_W a0 Z) (ws : List Jvm.Cond) (cs : Int32) (gS : Value) (a1 : Addr) (k1 : ClassId) (x0 x1 x2 : Int32) (h0 : Heap) (n0 : Nat) (Z0 : n0 ≤ h0.size) (V_env : own_Env Z cs gS) (Od : Old Z n0 h0) (V1 : Arv Z h0 a1 k1 .byte (6 : Int32) [(.int (own_lo x0)), (.int (own_hi x0)), (.int (own_lo x1)), (.int (own_hi x1)), (.int (own_lo x2)), (.int (own_hi x2))] (.int (0 : Int32))) (hch : own_ch x2) : own_Met l Z mn7 jdk_52_method_5_code 2 (some .char) ws (own_R 0 0 0 0) #[(.ref a1), (.int (2 : Int32))] h0 (own_QrmGC3_2 x0 x1 x2 h0 n0) := by
  refine own_enter n0 (plainFor_of_name own_pn40) (fun m => ef_RI_2 m a1 (2 : Int32) ) (fun p e s m below meth c s₁ hx hby hlk hml hret hown hnm hZ X0 e0 N0 => ?_)
  show own_Fin _ _ _ _ _ _ _ s₁ (mkF m 0 #[Rv a1, Iv 2] [])
  obtain ⟨T212, X212, e212, st212⟩ := getS2 X0 hx hZ hown (host := "") (Or.inl (own_g hw 98 rfl)) Via.refl e0 (V_env.1.ext Od.2) (g := (mkF m 0 #[Rv a1, Iv 2] [])) rfl (hb hby d23_0)
  refine own_by (fun _ k => st212 _ (XS.ifYes X212.here hx rfl (pc0 := 3) (pc' := 28) rfl (hb hby d23_3) rfl ((if0 _ _).trans (feq (by decide : ¬ ((1 : Int32) = (0 : Int32)))).2) (by decide) (by decide) (XS.iloadN X212.here hx rfl (hb hby d23_28) rfl (XS.iconst X212.here hx rfl (hb hby d23_29) (XS.ishl X212.here hx rfl (hb hby d23_30) rfl k))))) ?_
  show own_Fin _ _ _ _ _ _ _ T212 (mkF m 31 #[Rv a1, Iv 2] [(.int ((2 : Int32) <<< ((1 : Int32) &&& 31)))])
  rw [(by decide : ((2 : Int32) <<< ((1 : Int32) &&& 31)) = (4 : Int32))]
  show own_Fin _ _ _ _ _ _ _ T212 (mkF m 31 #[Rv a1, Iv 2] [(.int 4)])
  refine own_by (fun _ k => XS.istoreN X212.here hx rfl (hb hby d23_31) rfl (l' := #[Rv a1, Iv 4]) rfl (XS.aloadN X212.here hx rfl (hb hby d23_32) rfl rfl (XS.iloadN X212.here hx rfl (hb hby d23_33) rfl (XS.iinc X212.here hx rfl (hb hby d23_34) rfl (l' := #[Rv a1, Iv ((4 : Int32) + (1 : Int32))]) rfl k)))) ?_
  show own_Fin _ _ _ _ _ _ _ T212 (mkF m 37 #[Rv a1, Iv ((4 : Int32) + (1 : Int32))] [(.int 4), (.ref a1)])
  rw [(by decide : ((4 : Int32) + (1 : Int32)) = (5 : Int32))]
  show own_Fin _ _ _ _ _ _ _ T212 (mkF m 37 #[Rv a1, Iv 5] [(.int 4), (.ref a1)])
  obtain ⟨cl213, Ar213, -, S213, M213, H213, -⟩ := id V1
  have hin213 : ¬ ((4 : Int32) < 0 ∨ cl213.slots.size ≤ ((4 : Int32)).toNatClampNeg) := inb_of S213 ⟨by decide, by decide⟩
  have hat213 : cl213.slots[((4 : Int32)).toNatClampNeg]? = some (.int (own_lo x2)) := Has.at H213 hin213 rfl
  obtain ⟨T214, X214, e214, st214⟩ := getS2 X212 hx hZ hown (host := "") (Or.inl (own_g hw 99 rfl)) Via.refl e212 (V_env.2.1.ext Od.2) (g := (mkF m 42 #[Rv a1, Iv 5] [(.int ((own_lo x2) &&& (255 : Int32)))])) rfl (hb hby d23_42)
  obtain ⟨cl215, Ar215, -, S215, M215, H215, -⟩ := id V1
  have hin215 : ¬ ((5 : Int32) < 0 ∨ cl215.slots.size ≤ ((5 : Int32)).toNatClampNeg) := inb_of S215 ⟨by decide, by decide⟩
  have hat215 : cl215.slots[((5 : Int32)).toNatClampNeg]? = some (.int (own_hi x2)) := Has.at H215 hin215 rfl
  obtain ⟨T216, X216, e216, st216⟩ := getS2 X214 hx hZ hown (host := "") (Or.inl (own_g hw 100 rfl)) Via.refl e214 (V_env.2.2.1.ext Od.2) (g := (mkF m 53 #[Rv a1, Iv 5] [(.int ((own_hi x2) &&& (255 : Int32))), (.int (((own_lo x2) &&& (255 : Int32)) <<< ((0 : Int32) &&& 31)))])) rfl (hb hby d23_53)
  refine own_by (fun _ k => X212.baloadBytes hx (j := (4 : Int32)) (v := (.int (own_lo x2))) (by rw [e212]; exact Ar213.1) (State.isArrayOf_alike hZ.alike Ar213.2.1) Ar213.2.2 hin213 hat213 (g := (mkF m 37 #[Rv a1, Iv 5] [(.int 4), (.ref a1)])) rfl rfl (hb hby d23_37) _ (XS.sipush X212.here hx rfl (hb hby d23_38) (XS.iand X212.here hx rfl (hb hby d23_41) rfl (st214 _ (XS.ishl X214.here hx rfl (hb hby d23_45) rfl (XS.aloadN X214.here hx rfl (hb hby d23_46) rfl rfl (XS.iloadN X214.here hx rfl (hb hby d23_47) rfl (X214.baloadBytes hx (j := (5 : Int32)) (v := (.int (own_hi x2))) (by rw [e214]; exact Ar215.1) (State.isArrayOf_alike hZ.alike Ar215.2.1) Ar215.2.2 hin215 hat215 (g := (mkF m 48 #[Rv a1, Iv 5] [(.int 5), (.ref a1), (.int (((own_lo x2) &&& (255 : Int32)) <<< ((0 : Int32) &&& 31)))])) rfl rfl (hb hby d23_48) _ (XS.sipush X214.here hx rfl (hb hby d23_49) (XS.iand X214.here hx rfl (hb hby d23_52) rfl k)))))))))) ?_
  show own_Fin _ _ _ _ _ _ _ T214 (mkF m 53 #[Rv a1, Iv 5] [(.int ((own_hi x2) &&& (255 : Int32))), (.int (((own_lo x2) &&& (255 : Int32)) <<< ((0 : Int32) &&& 31)))])
  refine own_by (fun _ k => st216 _ (XS.ishl X216.here hx rfl (hb hby d23_56) rfl (XS.ior X216.here hx rfl (hb hby d23_57) rfl (XS.i2c X216.here hx rfl (hb hby d23_58) rfl k)))) ?_
  exact own_retZ X216 hx hlk (t := .char) hret (by simp) (hb hby d23_59) ⟨own_vi (own_u16 hch), N0, e216⟩ (by decide) (by decide)
def own_bad3 (r : Int32) (x0 x1 x2 : Int32) : Prop := (r = (0 : Int32) ∧ (255 : Int32) < x0) ∨ (r = (1 : Int32) ∧ (255 : Int32) < x1) ∨ (r = (2 : Int32) ∧ (255 : Int32) < x2)
def own_QXI3 (Z : State) (a3 : Addr) (kb : ClassId) (x0 x1 x2 : Int32) (h0 : Heap) (n0 : Nat) (v : Option Value) (h : Heap) (L : List Loc) : Prop := ∃ r : Int32, v = some (.int r) ∧ Fr n0 L ∧ Keep h0 h [a3] ∧ ((r = (3 : Int32) ∧ Arv Z h a3 kb .byte (3 : Int32) [(.int x0.toInt8.toInt32), (.int x1.toInt8.toInt32), (.int x2.toInt8.toInt32)] (.int (0 : Int32)) ∧ ¬ (255 : Int32) < x0 ∧ ¬ (255 : Int32) < x1 ∧ ¬ (255 : Int32) < x2) ∨ own_bad3 r x0 x1 x2)
set_option maxRecDepth 65536 in
set_option maxHeartbeats 40000000 in
theorem rmXI3 (l : Launch) (Z : State) (a0 : Array Value) (hw : own_W a0 Z) (ws : List Jvm.Cond) (a1 a3 : Addr) (kc kb : ClassId) (x0 x1 x2 : Int32) (h0 : Heap) (n0 : Nat) (Z0 : n0 ≤ h0.size) (V1 : Arv Z h0 a1 kc .char (3 : Int32) [(.int x0), (.int x1), (.int x2)] (.int (0 : Int32))) (V3 : Arv Z h0 a3 kb .byte (3 : Int32) [(.int (0 : Int32)), (.int (0 : Int32)), (.int (0 : Int32))] (.int (0 : Int32))) (ne13 : a1 ≠ a3) (g_3 : n0 ≤ a3) : own_Met l Z mn8 jdk_52_method_21_code 7 (some .int) ws (own_R 0 0 0 0) #[(.ref a1), (.int (0 : Int32)), (.ref a3), (.int (0 : Int32)), (.int (3 : Int32))] h0 (own_QXI3 Z a3 kb x0 x1 x2 h0 n0) := by
  refine own_enter n0 (plainFor_of_name own_pn40) (fun m => ef_RIRII_7 m a1 (0 : Int32) a3 (0 : Int32) (3 : Int32) ) (fun p e s m below meth c s₁ hx hby hlk hml hret hown hnm hZ X0 e0 N0 => ?_)
  show own_Fin _ _ _ _ _ _ _ s₁ (mkF m 0 #[Rv a1, Iv 0, Rv a3, Iv 0, Iv 3, Uv, Uv] [])
  have Kp217 : Keep h0 h0 [a3] := Keep.refl h0 _
  obtain ⟨cl218, Ar218, -, S218, M218, H218, -⟩ := id V1
  have hin218 : ¬ ((0 : Int32) < 0 ∨ cl218.slots.size ≤ ((0 : Int32)).toNatClampNeg) := inb_of S218 ⟨by decide, by decide⟩
  have hat218 : cl218.slots[((0 : Int32)).toNatClampNeg]? = some (.int x0) := Has.at H218 hin218 rfl
  refine own_by (fun _ k => XS.iconst X0.here hx rfl (hb hby d16_0) (XS.istore X0.here hx rfl (hb hby d16_1) rfl (l' := #[Rv a1, Iv 0, Rv a3, Iv 0, Iv 3, Iv 0, Uv]) rfl (XS.iload X0.here hx rfl (hb hby d16_3) rfl (XS.iload X0.here hx rfl (hb hby d16_5) rfl (XS.icmpNo X0.here hx rfl (hb hby d16_7) rfl (tlt (by decide : (0 : Int32) < (3 : Int32))).2.1 (XS.aloadN X0.here hx rfl (hb hby d16_10) rfl rfl (XS.iloadN X0.here hx rfl (hb hby d16_11) rfl (X0.caload hx (j := (0 : Int32)) (v := (.int x0)) (by rw [e0]; exact Ar218.1) (State.isArrayOf_alike hZ.alike Ar218.2.1) Ar218.2.2 hin218 hat218 (g := (mkF m 12 #[Rv a1, Iv 0, Rv a3, Iv 0, Iv 3, Iv 0, Uv] [(.int 0), (.ref a1)])) rfl rfl (hb hby d16_12) _ (XS.istore X0.here hx rfl (hb hby d16_13) rfl (l' := #[Rv a1, Iv 0, Rv a3, Iv 0, Iv 3, Iv 0, Iv x0]) rfl (XS.iload X0.here hx rfl (hb hby d16_15) rfl k)))))))))) ?_
  show own_Fin _ _ _ _ _ _ _ s₁ (mkF m 17 #[Rv a1, Iv 0, Rv a3, Iv 0, Iv 3, Iv 0, Iv x0] [(.int x0)])
  refine own_by (fun _ k => XS.sipush X0.here hx rfl (hb hby d16_17) k) ?_
  show own_Fin _ _ _ _ _ _ _ s₁ (mkF m 20 #[Rv a1, Iv 0, Rv a3, Iv 0, Iv 3, Iv 0, Iv x0] [(.int 255), (.int x0)])
  by_cases hc20_219 : (255 : Int32) < x0
  · show own_Fin _ _ _ _ _ _ _ s₁ (mkF m 20 #[Rv a1, Iv 0, Rv a3, Iv 0, Iv 3, Iv 0, Iv x0] [(.int 255), (.int x0)])
    refine own_by (fun _ k => XS.icmpNo X0.here hx rfl (hb hby d16_20) rfl (tlt hc20_219).2.2.2 (XS.iload X0.here hx rfl (hb hby d16_23) rfl k)) ?_
    exact own_retI X0 hx hlk hret (hb hby d16_25) (by rw [e0]; exact ⟨_, rfl, N0, Kp217, Or.inr (Or.inl ⟨rfl, hc20_219⟩)⟩) (by decide) (by decide)
  · show own_Fin _ _ _ _ _ _ _ s₁ (mkF m 20 #[Rv a1, Iv 0, Rv a3, Iv 0, Iv 3, Iv 0, Iv x0] [(.int 255), (.int x0)])
    obtain ⟨cl220, Ar220, q220, S220, M220, H220, G220⟩ := id V3
    have hin220 : ¬ ((0 : Int32) < 0 ∨ cl220.slots.size ≤ ((0 : Int32)).toNatClampNeg) := inb_of S220 ⟨by decide, by decide⟩
    obtain ⟨T220, h220, X220, e220, W220, st220⟩ := stB X0 hx hZ e0 Ar220 (j := (0 : Int32)) hin220 (g := (mkF m 31 #[Rv a1, Iv 0, Rv a3, Iv 0, Iv 3, Iv 0, Iv x0] [(.int (x0.toInt8.toInt32)), (.int 0), (.ref a3)])) rfl rfl (hb hby d16_31)
    have V220 : Arv Z h220 a3 kb .byte (3 : Int32) [(.int (x0.toInt8.toInt32).toInt8.toInt32), (.int (0 : Int32)), (.int (0 : Int32))] (.int (0 : Int32)) := Arv.set Ar220 q220 S220 M220 H220 G220 (fits_nar_byte _) W220 0 rfl (Nat.le_of_ble_eq_true rfl)
    have Kp220 : Keep h0 h220 [a3] := Kp217.wr W220 (Or.inl (List.mem_of_getElem? (i := 0) rfl))
    have Zs220 : n0 ≤ h220.size := Nat.le_trans Z0 (Keep.of_wr W220).1
    have N220 := Fr.snoc X220 N0 g_3
    have f221_0 : Arv Z h220 a1 kc .char (3 : Int32) [(.int x0), (.int x1), (.int x2)] (.int (0 : Int32)) := V1.other W220 ne13
    refine own_by (fun _ k => XS.icmpYes X0.here hx rfl (pc0 := 20) (pc' := 26) rfl (hb hby d16_20) rfl (flt hc20_219).2.2.2 (by decide) (by decide) (XS.aloadN X0.here hx rfl (hb hby d16_26) rfl rfl (XS.iloadN X0.here hx rfl (hb hby d16_27) rfl (XS.iload X0.here hx rfl (hb hby d16_28) rfl (XS.i2b X0.here hx rfl (hb hby d16_30) rfl (st220 _ (XS.iinc X220.here hx rfl (hb hby d16_32) rfl (l' := #[Rv a1, Iv ((0 : Int32) + (1 : Int32)), Rv a3, Iv 0, Iv 3, Iv 0, Iv x0]) rfl k))))))) ?_
    show own_Fin _ _ _ _ _ _ _ T220 (mkF m 35 #[Rv a1, Iv ((0 : Int32) + (1 : Int32)), Rv a3, Iv 0, Iv 3, Iv 0, Iv x0] [])
    rw [(by decide : ((0 : Int32) + (1 : Int32)) = (1 : Int32))]
    show own_Fin _ _ _ _ _ _ _ T220 (mkF m 35 #[Rv a1, Iv 1, Rv a3, Iv 0, Iv 3, Iv 0, Iv x0] [])
    refine own_by (fun _ k => XS.iinc X220.here hx rfl (hb hby d16_35) rfl (l' := #[Rv a1, Iv 1, Rv a3, Iv ((0 : Int32) + (1 : Int32)), Iv 3, Iv 0, Iv x0]) rfl k) ?_
    show own_Fin _ _ _ _ _ _ _ T220 (mkF m 38 #[Rv a1, Iv 1, Rv a3, Iv ((0 : Int32) + (1 : Int32)), Iv 3, Iv 0, Iv x0] [])
    rw [(by decide : ((0 : Int32) + (1 : Int32)) = (1 : Int32))]
    show own_Fin _ _ _ _ _ _ _ T220 (mkF m 38 #[Rv a1, Iv 1, Rv a3, Iv 1, Iv 3, Iv 0, Iv x0] [])
    refine own_by (fun _ k => XS.iinc X220.here hx rfl (hb hby d16_38) rfl (l' := #[Rv a1, Iv 1, Rv a3, Iv 1, Iv 3, Iv ((0 : Int32) + (1 : Int32)), Iv x0]) rfl k) ?_
    show own_Fin _ _ _ _ _ _ _ T220 (mkF m 41 #[Rv a1, Iv 1, Rv a3, Iv 1, Iv 3, Iv ((0 : Int32) + (1 : Int32)), Iv x0] [])
    rw [(by decide : ((0 : Int32) + (1 : Int32)) = (1 : Int32))]
    show own_Fin _ _ _ _ _ _ _ T220 (mkF m 41 #[Rv a1, Iv 1, Rv a3, Iv 1, Iv 3, Iv 1, Iv x0] [])
    obtain ⟨cl222, Ar222, -, S222, M222, H222, -⟩ := id f221_0
    have hin222 : ¬ ((1 : Int32) < 0 ∨ cl222.slots.size ≤ ((1 : Int32)).toNatClampNeg) := inb_of S222 ⟨by decide, by decide⟩
    have hat222 : cl222.slots[((1 : Int32)).toNatClampNeg]? = some (.int x1) := Has.at H222 hin222 rfl
    refine own_by (fun _ k => XS.goto X220.here hx rfl (pc0 := 41) (pc' := 3) rfl (hb hby d16_41) (by decide) (by decide) (XS.iload X220.here hx rfl (hb hby d16_3) rfl (XS.iload X220.here hx rfl (hb hby d16_5) rfl (XS.icmpNo X220.here hx rfl (hb hby d16_7) rfl (tlt (by decide : (1 : Int32) < (3 : Int32))).2.1 (XS.aloadN X220.here hx rfl (hb hby d16_10) rfl rfl (XS.iloadN X220.here hx rfl (hb hby d16_11) rfl (X220.caload hx (j := (1 : Int32)) (v := (.int x1)) (by rw [e220]; exact Ar222.1) (State.isArrayOf_alike hZ.alike Ar222.2.1) Ar222.2.2 hin222 hat222 (g := (mkF m 12 #[Rv a1, Iv 1, Rv a3, Iv 1, Iv 3, Iv 1, Iv x0] [(.int 1), (.ref a1)])) rfl rfl (hb hby d16_12) _ (XS.istore X220.here hx rfl (hb hby d16_13) rfl (l' := #[Rv a1, Iv 1, Rv a3, Iv 1, Iv 3, Iv 1, Iv x1]) rfl (XS.iload X220.here hx rfl (hb hby d16_15) rfl (XS.sipush X220.here hx rfl (hb hby d16_17) k)))))))))) ?_
    show own_Fin _ _ _ _ _ _ _ T220 (mkF m 20 #[Rv a1, Iv 1, Rv a3, Iv 1, Iv 3, Iv 1, Iv x1] [(.int 255), (.int x1)])
    by_cases hc20_223 : (255 : Int32) < x1
    · show own_Fin _ _ _ _ _ _ _ T220 (mkF m 20 #[Rv a1, Iv 1, Rv a3, Iv 1, Iv 3, Iv 1, Iv x1] [(.int 255), (.int x1)])
      refine own_by (fun _ k => XS.icmpNo X220.here hx rfl (hb hby d16_20) rfl (tlt hc20_223).2.2.2 (XS.iload X220.here hx rfl (hb hby d16_23) rfl k)) ?_
      exact own_retI X220 hx hlk hret (hb hby d16_25) (by rw [e220]; exact ⟨_, rfl, N220, Kp220, Or.inr (Or.inr (Or.inl ⟨rfl, hc20_223⟩))⟩) (by decide) (by decide)
    · show own_Fin _ _ _ _ _ _ _ T220 (mkF m 20 #[Rv a1, Iv 1, Rv a3, Iv 1, Iv 3, Iv 1, Iv x1] [(.int 255), (.int x1)])
      obtain ⟨cl224, Ar224, q224, S224, M224, H224, G224⟩ := id V220
      have hin224 : ¬ ((1 : Int32) < 0 ∨ cl224.slots.size ≤ ((1 : Int32)).toNatClampNeg) := inb_of S224 ⟨by decide, by decide⟩
      obtain ⟨T224, h224, X224, e224, W224, st224⟩ := stB X220 hx hZ e220 Ar224 (j := (1 : Int32)) hin224 (g := (mkF m 31 #[Rv a1, Iv 1, Rv a3, Iv 1, Iv 3, Iv 1, Iv x1] [(.int (x1.toInt8.toInt32)), (.int 1), (.ref a3)])) rfl rfl (hb hby d16_31)
      have V224 : Arv Z h224 a3 kb .byte (3 : Int32) [(.int (x0.toInt8.toInt32).toInt8.toInt32), (.int (x1.toInt8.toInt32).toInt8.toInt32), (.int (0 : Int32))] (.int (0 : Int32)) := Arv.set Ar224 q224 S224 M224 H224 G224 (fits_nar_byte _) W224 1 rfl (Nat.le_of_ble_eq_true rfl)
      have Kp224 : Keep h0 h224 [a3] := Kp220.wr W224 (Or.inl (List.mem_of_getElem? (i := 0) rfl))
      have Zs224 : n0 ≤ h224.size := Nat.le_trans Zs220 (Keep.of_wr W224).1
      have N224 := Fr.snoc X224 N220 g_3
      have f225_0 : Arv Z h224 a1 kc .char (3 : Int32) [(.int x0), (.int x1), (.int x2)] (.int (0 : Int32)) := f221_0.other W224 ne13
      refine own_by (fun _ k => XS.icmpYes X220.here hx rfl (pc0 := 20) (pc' := 26) rfl (hb hby d16_20) rfl (flt hc20_223).2.2.2 (by decide) (by decide) (XS.aloadN X220.here hx rfl (hb hby d16_26) rfl rfl (XS.iloadN X220.here hx rfl (hb hby d16_27) rfl (XS.iload X220.here hx rfl (hb hby d16_28) rfl (XS.i2b X220.here hx rfl (hb hby d16_30) rfl (st224 _ (XS.iinc X224.here hx rfl (hb hby d16_32) rfl (l' := #[Rv a1, Iv ((1 : Int32) + (1 : Int32)), Rv a3, Iv 1, Iv 3, Iv 1, Iv x1]) rfl k))))))) ?_
      show own_Fin _ _ _ _ _ _ _ T224 (mkF m 35 #[Rv a1, Iv ((1 : Int32) + (1 : Int32)), Rv a3, Iv 1, Iv 3, Iv 1, Iv x1] [])
      rw [(by decide : ((1 : Int32) + (1 : Int32)) = (2 : Int32))]
      show own_Fin _ _ _ _ _ _ _ T224 (mkF m 35 #[Rv a1, Iv 2, Rv a3, Iv 1, Iv 3, Iv 1, Iv x1] [])
      refine own_by (fun _ k => XS.iinc X224.here hx rfl (hb hby d16_35) rfl (l' := #[Rv a1, Iv 2, Rv a3, Iv ((1 : Int32) + (1 : Int32)), Iv 3, Iv 1, Iv x1]) rfl k) ?_
      show own_Fin _ _ _ _ _ _ _ T224 (mkF m 38 #[Rv a1, Iv 2, Rv a3, Iv ((1 : Int32) + (1 : Int32)), Iv 3, Iv 1, Iv x1] [])
      rw [(by decide : ((1 : Int32) + (1 : Int32)) = (2 : Int32))]
      show own_Fin _ _ _ _ _ _ _ T224 (mkF m 38 #[Rv a1, Iv 2, Rv a3, Iv 2, Iv 3, Iv 1, Iv x1] [])
      refine own_by (fun _ k => XS.iinc X224.here hx rfl (hb hby d16_38) rfl (l' := #[Rv a1, Iv 2, Rv a3, Iv 2, Iv 3, Iv ((1 : Int32) + (1 : Int32)), Iv x1]) rfl k) ?_
      show own_Fin _ _ _ _ _ _ _ T224 (mkF m 41 #[Rv a1, Iv 2, Rv a3, Iv 2, Iv 3, Iv ((1 : Int32) + (1 : Int32)), Iv x1] [])
      rw [(by decide : ((1 : Int32) + (1 : Int32)) = (2 : Int32))]
      show own_Fin _ _ _ _ _ _ _ T224 (mkF m 41 #[Rv a1, Iv 2, Rv a3, Iv 2, Iv 3, Iv 2, Iv x1] [])
      obtain ⟨cl226, Ar226, -, S226, M226, H226, -⟩ := id f225_0
      have hin226 : ¬ ((2 : Int32) < 0 ∨ cl226.slots.size ≤ ((2 : Int32)).toNatClampNeg) := inb_of S226 ⟨by decide, by decide⟩
      have hat226 : cl226.slots[((2 : Int32)).toNatClampNeg]? = some (.int x2) := Has.at H226 hin226 rfl
      refine own_by (fun _ k => XS.goto X224.here hx rfl (pc0 := 41) (pc' := 3) rfl (hb hby d16_41) (by decide) (by decide) (XS.iload X224.here hx rfl (hb hby d16_3) rfl (XS.iload X224.here hx rfl (hb hby d16_5) rfl (XS.icmpNo X224.here hx rfl (hb hby d16_7) rfl (tlt (by decide : (2 : Int32) < (3 : Int32))).2.1 (XS.aloadN X224.here hx rfl (hb hby d16_10) rfl rfl (XS.iloadN X224.here hx rfl (hb hby d16_11) rfl (X224.caload hx (j := (2 : Int32)) (v := (.int x2)) (by rw [e224]; exact Ar226.1) (State.isArrayOf_alike hZ.alike Ar226.2.1) Ar226.2.2 hin226 hat226 (g := (mkF m 12 #[Rv a1, Iv 2, Rv a3, Iv 2, Iv 3, Iv 2, Iv x1] [(.int 2), (.ref a1)])) rfl rfl (hb hby d16_12) _ (XS.istore X224.here hx rfl (hb hby d16_13) rfl (l' := #[Rv a1, Iv 2, Rv a3, Iv 2, Iv 3, Iv 2, Iv x2]) rfl (XS.iload X224.here hx rfl (hb hby d16_15) rfl (XS.sipush X224.here hx rfl (hb hby d16_17) k)))))))))) ?_
      show own_Fin _ _ _ _ _ _ _ T224 (mkF m 20 #[Rv a1, Iv 2, Rv a3, Iv 2, Iv 3, Iv 2, Iv x2] [(.int 255), (.int x2)])
      by_cases hc20_227 : (255 : Int32) < x2
      · show own_Fin _ _ _ _ _ _ _ T224 (mkF m 20 #[Rv a1, Iv 2, Rv a3, Iv 2, Iv 3, Iv 2, Iv x2] [(.int 255), (.int x2)])
        refine own_by (fun _ k => XS.icmpNo X224.here hx rfl (hb hby d16_20) rfl (tlt hc20_227).2.2.2 (XS.iload X224.here hx rfl (hb hby d16_23) rfl k)) ?_
        exact own_retI X224 hx hlk hret (hb hby d16_25) (by rw [e224]; exact ⟨_, rfl, N224, Kp224, Or.inr (Or.inr (Or.inr ⟨rfl, hc20_227⟩))⟩) (by decide) (by decide)
      · show own_Fin _ _ _ _ _ _ _ T224 (mkF m 20 #[Rv a1, Iv 2, Rv a3, Iv 2, Iv 3, Iv 2, Iv x2] [(.int 255), (.int x2)])
        obtain ⟨cl228, Ar228, q228, S228, M228, H228, G228⟩ := id V224
        have hin228 : ¬ ((2 : Int32) < 0 ∨ cl228.slots.size ≤ ((2 : Int32)).toNatClampNeg) := inb_of S228 ⟨by decide, by decide⟩
        obtain ⟨T228, h228, X228, e228, W228, st228⟩ := stB X224 hx hZ e224 Ar228 (j := (2 : Int32)) hin228 (g := (mkF m 31 #[Rv a1, Iv 2, Rv a3, Iv 2, Iv 3, Iv 2, Iv x2] [(.int (x2.toInt8.toInt32)), (.int 2), (.ref a3)])) rfl rfl (hb hby d16_31)
        have V228 : Arv Z h228 a3 kb .byte (3 : Int32) [(.int (x0.toInt8.toInt32).toInt8.toInt32), (.int (x1.toInt8.toInt32).toInt8.toInt32), (.int (x2.toInt8.toInt32).toInt8.toInt32)] (.int (0 : Int32)) := Arv.set Ar228 q228 S228 M228 H228 G228 (fits_nar_byte _) W228 2 rfl (Nat.le_of_ble_eq_true rfl)
        have Kp228 : Keep h0 h228 [a3] := Kp224.wr W228 (Or.inl (List.mem_of_getElem? (i := 0) rfl))
        have Zs228 : n0 ≤ h228.size := Nat.le_trans Zs224 (Keep.of_wr W228).1
        have N228 := Fr.snoc X228 N224 g_3
        have f229_0 : Arv Z h228 a1 kc .char (3 : Int32) [(.int x0), (.int x1), (.int x2)] (.int (0 : Int32)) := f225_0.other W228 ne13
        refine own_by (fun _ k => XS.icmpYes X224.here hx rfl (pc0 := 20) (pc' := 26) rfl (hb hby d16_20) rfl (flt hc20_227).2.2.2 (by decide) (by decide) (XS.aloadN X224.here hx rfl (hb hby d16_26) rfl rfl (XS.iloadN X224.here hx rfl (hb hby d16_27) rfl (XS.iload X224.here hx rfl (hb hby d16_28) rfl (XS.i2b X224.here hx rfl (hb hby d16_30) rfl (st228 _ (XS.iinc X228.here hx rfl (hb hby d16_32) rfl (l' := #[Rv a1, Iv ((2 : Int32) + (1 : Int32)), Rv a3, Iv 2, Iv 3, Iv 2, Iv x2]) rfl k))))))) ?_
        show own_Fin _ _ _ _ _ _ _ T228 (mkF m 35 #[Rv a1, Iv ((2 : Int32) + (1 : Int32)), Rv a3, Iv 2, Iv 3, Iv 2, Iv x2] [])
        rw [(by decide : ((2 : Int32) + (1 : Int32)) = (3 : Int32))]
        show own_Fin _ _ _ _ _ _ _ T228 (mkF m 35 #[Rv a1, Iv 3, Rv a3, Iv 2, Iv 3, Iv 2, Iv x2] [])
        refine own_by (fun _ k => XS.iinc X228.here hx rfl (hb hby d16_35) rfl (l' := #[Rv a1, Iv 3, Rv a3, Iv ((2 : Int32) + (1 : Int32)), Iv 3, Iv 2, Iv x2]) rfl k) ?_
        show own_Fin _ _ _ _ _ _ _ T228 (mkF m 38 #[Rv a1, Iv 3, Rv a3, Iv ((2 : Int32) + (1 : Int32)), Iv 3, Iv 2, Iv x2] [])
        rw [(by decide : ((2 : Int32) + (1 : Int32)) = (3 : Int32))]
        show own_Fin _ _ _ _ _ _ _ T228 (mkF m 38 #[Rv a1, Iv 3, Rv a3, Iv 3, Iv 3, Iv 2, Iv x2] [])
        refine own_by (fun _ k => XS.iinc X228.here hx rfl (hb hby d16_38) rfl (l' := #[Rv a1, Iv 3, Rv a3, Iv 3, Iv 3, Iv ((2 : Int32) + (1 : Int32)), Iv x2]) rfl k) ?_
        show own_Fin _ _ _ _ _ _ _ T228 (mkF m 41 #[Rv a1, Iv 3, Rv a3, Iv 3, Iv 3, Iv ((2 : Int32) + (1 : Int32)), Iv x2] [])
        rw [(by decide : ((2 : Int32) + (1 : Int32)) = (3 : Int32))]
        show own_Fin _ _ _ _ _ _ _ T228 (mkF m 41 #[Rv a1, Iv 3, Rv a3, Iv 3, Iv 3, Iv 3, Iv x2] [])
        refine own_by (fun _ k => XS.goto X228.here hx rfl (pc0 := 41) (pc' := 3) rfl (hb hby d16_41) (by decide) (by decide) (XS.iload X228.here hx rfl (hb hby d16_3) rfl (XS.iload X228.here hx rfl (hb hby d16_5) rfl (XS.icmpYes X228.here hx rfl (pc0 := 7) (pc' := 44) rfl (hb hby d16_7) rfl (flt (by decide : ¬ ((3 : Int32) < (3 : Int32)))).2.1 (by decide) (by decide) (XS.iload X228.here hx rfl (hb hby d16_44) rfl k))))) ?_
        exact own_retI X228 hx hlk hret (hb hby d16_46) (by rw [e228]; exact ⟨_, rfl, N228, Kp228, Or.inl ⟨rfl, (by have q := V228; simp only [own_b8] at q; exact q), hc20_219, hc20_223, hc20_227⟩⟩) (by decide) (by decide)
def own_QXO3 (Z : State) (x0 x1 x2 : Int32) (h0 : Heap) (n0 : Nat) (v : Option Value) (h : Heap) (L : List Loc) : Prop := ∃ (a : Addr) (k : ClassId), v = some (.ref a) ∧ Fr n0 L ∧ Keep h0 h [] ∧ h0.size ≤ a ∧ ((Arv Z h a k .byte (3 : Int32) [(.int x0.toInt8.toInt32), (.int x1.toInt8.toInt32), (.int x2.toInt8.toInt32)] (.int (0 : Int32)) ∧ ¬ (255 : Int32) < x0 ∧ ¬ (255 : Int32) < x1 ∧ ¬ (255 : Int32) < x2) ∨ Arv Z h a k .byte (6 : Int32) [(.int (own_lo x0)), (.int (own_hi x0)), (.int (own_lo x1)), (.int (own_hi x1)), (.int (own_lo x2)), (.int (own_hi x2))] (.int (0 : Int32)))
set_option maxRecDepth 65536 in
set_option maxHeartbeats 40000000 in
theorem rmXO3 (l : Launch) (Z : State) (a0 : Array Value) (hw : own_W a0 Z) (ws : List Jvm.Cond) (cs : Int32) (gS : Value) (a1 : Addr) (kc : ClassId) (x0 x1 x2 : Int32) (h0 : Heap) (n0 : Nat) (Z0 : n0 ≤ h0.size) (V_env : own_Env Z cs gS) (Od : Old Z n0 h0) (V1 : Arv Z h0 a1 kc .char (3 : Int32) [(.int x0), (.int x1), (.int x2)] (.int (0 : Int32))) (hx0 : own_ch x0) (hx1 : own_ch x1) (hx2 : own_ch x2) : own_Met l Z mn9 jdk_52_method_16_code 6 (some (.array .byte)) ws (own_R 3 2 9 40) #[(.ref a1), (.int (0 : Int32)), (.int (3 : Int32))] h0 (own_QXO3 Z x0 x1 x2 h0 n0) := by
  refine own_enter n0 (plainFor_of_name own_pn40) (fun m => ef_RII_6 m a1 (0 : Int32) (3 : Int32) ) (fun p e s m below meth c s₁ hx hby hlk hml hret hown hnm hZ X0 e0 N0 => ?_)
  show own_Fin _ _ _ _ _ _ _ s₁ (mkF m 0 #[Rv a1, Iv 0, Iv 3, Uv, Uv, Uv] [])
  have Kp230 : Keep h0 h0 [] := Keep.refl h0 _
  obtain ⟨T231, h231, k231, X231, e231, E231, A231, st231⟩ := newP X0 hx hZ (own_g hw 20 rfl) e0 (g := (mkF m 1 #[Rv a1, Iv 0, Iv 3, Uv, Uv, Uv] [(.int 3)])) rfl (hb hby d15_1) rfl (by decide) (cap := 3) (by decide) (by decide) (by decide) (by decide)
  obtain ⟨b231, g231⟩ : ∃ z, z = h0.size := ⟨_, rfl⟩
  rw [← g231] at A231 st231
  have V231 : Arv Z h231 b231 k231 .byte (3 : Int32) [(.int (0 : Int32)), (.int (0 : Int32)), (.int (0 : Int32))] (.int (0 : Int32)) := (Arv.new A231 (by decide)).pad (pad_rep [] (.int (0 : Int32)) 3)
  have ne231_a1 : a1 ≠ b231 := Nat.ne_of_lt (Nat.lt_of_lt_of_le V1.lt (Nat.le_of_eq g231.symm))
  have gf231 : n0 ≤ b231 := Nat.le_trans Z0 (Nat.le_of_eq g231.symm)
  have Zs231 : n0 ≤ h231.size := Nat.le_trans Z0 E231.1
  have Kp231 : Keep h0 h231 [] := Kp230.ext E231
  have sz_b231 : h0.size ≤ b231 := Nat.le_trans Kp230.1 (Nat.le_of_eq g231.symm)
  have f232_0 : Old Z n0 h231 := Od.ext E231
  have f232_1 : Arv Z h231 a1 kc .char (3 : Int32) [(.int x0), (.int x1), (.int x2)] (.int (0 : Int32)) := V1.ext E231
  obtain ⟨_, _, ⟨T233, L233, k233, n233⟩, -, X233, ⟨Lc233, hQ233, l233, y233, z233⟩, st233⟩ := Jvm.LawKit.callS X231 hx (y := mn8) hown (mvT hZ (own_g hw 75 rfl)) (mvT hZ (own_g hw 76 rfl)) (mvT hZ (own_g hw 73 rfl)) (mvT hZ (own_g hw 77 rfl)) (by decide) (backOf (W := 0) (rmXI3 l Z a0 hw [] a1 b231 kc k231 x0 x1 x2 h231 n0 Zs231 f232_1 V231 ne231_a1 gf231) hZ (own_g hw 77 rfl) (own_g hw 73 rfl) (by decide) (by decide)) (g := (mkF m 9 #[Rv a1, Iv 0, Iv 3, Rv b231, Uv, Uv] [(.int 3), (.int 0), (.ref b231), (.int 0), (.ref a1)])) rfl (by rw [hml]; rfl) (argsL := [(.ref a1), (.int (0 : Int32)), (.ref b231), (.int (0 : Int32)), (.int (3 : Int32))]) (rest := []) (lenOf own_pd161 rfl) rfl (own_z rfl) (hb hby d15_9) (fun _ _ => ⟨rfl, e231, (by decide : 1 + 0 ≤ _), (by decide : 3 + 0 ≤ _)⟩)
  dsimp only [Pt.U, Pt.locs, Pt.cells, Pt.slots] at X233 l233 y233 z233 st233 hQ233
  subst l233 y233 z233
  obtain ⟨r233, rfl, Nq233, K233, hd233⟩ := hQ233
  have N233 := Fr.app N0 Nq233
  have Zs233 : n0 ≤ T233.heap.size := Nat.le_trans Zs231 K233.1
  have Kp233 : Keep h0 T233.heap [] := Kp231.trans K233 (allS (Or.inr sz_b231) all0)
  have f234_0 : Old Z n0 T233.heap := f232_0.keep K233 (allS gf231 all0)
  have f234_1 : Arv Z T233.heap a1 kc .char (3 : Int32) [(.int x0), (.int x1), (.int x2)] (.int (0 : Int32)) := f232_1.keep K233 (ninS ne231_a1 nin0)
  refine own_by (fun _ k => XS.iloadN X0.here hx rfl (hb hby d15_0) rfl (st231 _ (XS.astoreN X231.here hx rfl (hb hby d15_3) rfl rfl (l' := #[Rv a1, Iv 0, Iv 3, Rv b231, Uv, Uv]) rfl (XS.aloadN X231.here hx rfl (hb hby d15_4) rfl rfl (XS.iloadN X231.here hx rfl (hb hby d15_5) rfl (XS.aloadN X231.here hx rfl (hb hby d15_6) rfl rfl (XS.iconst X231.here hx rfl (hb hby d15_7) (XS.iloadN X231.here hx rfl (hb hby d15_8) rfl (st233 _ k))))))))) ?_
  rcases hd233 with ⟨rfl, Vr233, hk0, hk1, hk2⟩ | ⟨rfl, hb0⟩ | ⟨rfl, hb1⟩ | ⟨rfl, hb2⟩
  · show own_Fin _ _ _ _ _ _ _ T233 (mkF m 12 #[Rv a1, Iv 0, Iv 3, Rv b231, Uv, Uv] [(.int 3)])
    refine own_by (fun _ k => XS.istore X233.here hx rfl (hb hby d15_12) rfl (l' := #[Rv a1, Iv 0, Iv 3, Rv b231, Iv 3, Uv]) rfl (XS.iload X233.here hx rfl (hb hby d15_14) rfl (XS.iloadN X233.here hx rfl (hb hby d15_16) rfl (XS.icmpYes X233.here hx rfl (pc0 := 17) (pc' := 57) rfl (hb hby d15_17) rfl (teq (by decide : (3 : Int32) = (3 : Int32))).1 (by decide) (by decide) (XS.aloadN X233.here hx rfl (hb hby d15_57) rfl rfl k))))) ?_
    exact own_retA X233 hx hlk (t := (.array .byte)) hret rfl rfl rfl (hb hby d15_58) ⟨_, _, rfl, N233, Kp233, sz_b231, Or.inl ⟨Vr233, hk0, hk1, hk2⟩⟩ (by decide) (by decide)
  · show own_Fin _ _ _ _ _ _ _ T233 (mkF m 12 #[Rv a1, Iv 0, Iv 3, Rv b231, Uv, Uv] [(.int 0)])
    obtain ⟨_, _, ⟨T235, L235, k235, n235⟩, -, X235, ⟨Lc235, hQ235, l235, y235, z235⟩, st235⟩ := Jvm.LawKit.callS X233 hx (y := mn6) hown (mvT hZ (own_g hw 85 rfl)) (mvT hZ (own_g hw 86 rfl)) (mvT hZ (own_g hw 73 rfl)) (mvT hZ (own_g hw 87 rfl)) (by decide) (backOf (W := 0) (rmTB3 l Z a0 hw [] cs gS a1 kc x0 x1 x2 T233.heap n0 Zs233 V_env f234_0 f234_1) hZ (own_g hw 87 rfl) (own_g hw 73 rfl) (by decide) (by decide)) (g := (mkF m 23 #[Rv a1, Iv 0, Iv 3, Rv b231, Iv 0, Uv] [(.int 3), (.int 0), (.ref a1)])) rfl (by rw [hml]; rfl) (argsL := [(.ref a1), (.int (0 : Int32)), (.int (3 : Int32))]) (rest := []) (lenOf own_pd172 rfl) rfl (own_z rfl) (hb hby d15_23) (fun _ _ => ⟨rfl, rfl, (by decide : 1 + 1 ≤ _), (by decide : 3 + 6 ≤ _)⟩)
    dsimp only [Pt.U, Pt.locs, Pt.cells, Pt.slots] at X235 l235 y235 z235 st235 hQ235
    subst l235 y235 z235
    obtain ⟨b235, k235, rfl, Nq235, K235, ge235, V235⟩ := hQ235
    have N235 := Fr.app N233 Nq235
    have Zs235 : n0 ≤ T235.heap.size := Nat.le_trans Zs233 K235.1
    have Kp235 : Keep h0 T235.heap [] := Kp233.trans K235 all0
    have f236_0 : Old Z n0 T235.heap := f234_0.keep K235 all0
    have f236_1 : Arv Z T235.heap a1 kc .char (3 : Int32) [(.int x0), (.int x1), (.int x2)] (.int (0 : Int32)) := f234_1.keep K235 nin0
    have ne235_a1 : a1 ≠ b235 := Nat.ne_of_lt (Nat.lt_of_lt_of_le f234_1.lt ge235)
    have gf235 : n0 ≤ b235 := Nat.le_trans Zs233 ge235
    have sz_b235 : h0.size ≤ b235 := Nat.le_trans Kp233.1 ge235
    refine own_by (fun _ k => XS.istore X233.here hx rfl (hb hby d15_12) rfl (l' := #[Rv a1, Iv 0, Iv 3, Rv b231, Iv 0, Uv]) rfl (XS.iload X233.here hx rfl (hb hby d15_14) rfl (XS.iloadN X233.here hx rfl (hb hby d15_16) rfl (XS.icmpNo X233.here hx rfl (hb hby d15_17) rfl (feq (by decide : ¬ ((0 : Int32) = (3 : Int32)))).1 (XS.aloadN X233.here hx rfl (hb hby d15_20) rfl rfl (XS.iloadN X233.here hx rfl (hb hby d15_21) rfl (XS.iloadN X233.here hx rfl (hb hby d15_22) rfl (st235 _ (XS.astore X235.here hx rfl (hb hby d15_26) rfl rfl (l' := #[Rv a1, Iv 0, Iv 3, Rv b231, Iv 0, Rv b235]) rfl (XS.aload X235.here hx rfl (hb hby d15_28) rfl rfl k)))))))))) ?_
    show own_Fin _ _ _ _ _ _ _ T235 (mkF m 30 #[Rv a1, Iv 0, Iv 3, Rv b231, Iv 0, Rv b235] [(.ref b235)])
    obtain ⟨_, _, ⟨T237, L237, k237, n237⟩, -, X237, ⟨Lc237, hQ237, l237, y237, z237⟩, st237⟩ := Jvm.LawKit.callS X235 hx (y := mn7) hown (mvT hZ (own_g hw 101 rfl)) (mvT hZ (own_g hw 102 rfl)) (mvT hZ (own_g hw 73 rfl)) (mvT hZ (own_g hw 103 rfl)) (by decide) (backOf (W := 0) (rmGC3_0 l Z a0 hw [] cs gS b235 k235 x0 x1 x2 T235.heap n0 Zs235 V_env f236_0 V235 hx0) hZ (own_g hw 103 rfl) (own_g hw 73 rfl) (by decide) (by decide)) (g := (mkF m 32 #[Rv a1, Iv 0, Iv 3, Rv b231, Iv 0, Rv b235] [(.int 0), (.ref b235)])) rfl (by rw [hml]; rfl) (argsL := [(.ref b235), (.int (0 : Int32))]) (rest := []) (lenOf own_pd177 rfl) rfl (own_z rfl) (hb hby d15_32) (fun _ _ => ⟨rfl, rfl, (by decide : 2 + 0 ≤ _), (by decide : 9 + 0 ≤ _)⟩)
    dsimp only [Pt.U, Pt.locs, Pt.cells, Pt.slots] at X237 l237 y237 z237 st237 hQ237
    subst l237 y237 z237
    obtain ⟨rfl, Nq237, eh237⟩ := hQ237
    have N237 := Fr.app N235 Nq237
    refine own_by (fun _ k => XS.iload X235.here hx rfl (hb hby d15_30) rfl (st237 _ (XS.sipush X237.here hx rfl (hb hby d15_35) (XS.icmpYes X237.here hx rfl (pc0 := 38) (pc' := 54) rfl (hb hby d15_38) rfl (tlt hb0).2.2.1 (by decide) (by decide) (XS.aload X237.here hx rfl (hb hby d15_54) rfl rfl k))))) ?_
    exact own_retA X237 hx hlk (t := (.array .byte)) hret rfl rfl rfl (hb hby d15_56) (by rw [eh237]; exact ⟨_, _, rfl, N237, Kp235, sz_b235, Or.inr V235⟩) (by decide) (by decide)
  · show own_Fin _ _ _ _ _ _ _ T233 (mkF m 12 #[Rv a1, Iv 0, Iv 3, Rv b231, Uv, Uv] [(.int 1)])
    obtain ⟨_, _, ⟨T238, L238, k238, n238⟩, -, X238, ⟨Lc238, hQ238, l238, y238, z238⟩, st238⟩ := Jvm.LawKit.callS X233 hx (y := mn6) hown (mvT hZ (own_g hw 85 rfl)) (mvT hZ (own_g hw 86 rfl)) (mvT hZ (own_g hw 73 rfl)) (mvT hZ (own_g hw 87 rfl)) (by decide) (backOf (W := 0) (rmTB3 l Z a0 hw [] cs gS a1 kc x0 x1 x2 T233.heap n0 Zs233 V_env f234_0 f234_1) hZ (own_g hw 87 rfl) (own_g hw 73 rfl) (by decide) (by decide)) (g := (mkF m 23 #[Rv a1, Iv 0, Iv 3, Rv b231, Iv 1, Uv] [(.int 3), (.int 0), (.ref a1)])) rfl (by rw [hml]; rfl) (argsL := [(.ref a1), (.int (0 : Int32)), (.int (3 : Int32))]) (rest := []) (lenOf own_pd172 rfl) rfl (own_z rfl) (hb hby d15_23) (fun _ _ => ⟨rfl, rfl, (by decide : 1 + 1 ≤ _), (by decide : 3 + 6 ≤ _)⟩)
    dsimp only [Pt.U, Pt.locs, Pt.cells, Pt.slots] at X238 l238 y238 z238 st238 hQ238
    subst l238 y238 z238
    obtain ⟨b238, k238, rfl, Nq238, K238, ge238, V238⟩ := hQ238
    have N238 := Fr.app N233 Nq238
    have Zs238 : n0 ≤ T238.heap.size := Nat.le_trans Zs233 K238.1
    have Kp238 : Keep h0 T238.heap [] := Kp233.trans K238 all0
    have f239_0 : Old Z n0 T238.heap := f234_0.keep K238 all0
    have f239_1 : Arv Z T238.heap a1 kc .char (3 : Int32) [(.int x0), (.int x1), (.int x2)] (.int (0 : Int32)) := f234_1.keep K238 nin0
    have ne238_a1 : a1 ≠ b238 := Nat.ne_of_lt (Nat.lt_of_lt_of_le f234_1.lt ge238)
    have gf238 : n0 ≤ b238 := Nat.le_trans Zs233 ge238
    have sz_b238 : h0.size ≤ b238 := Nat.le_trans Kp233.1 ge238
    refine own_by (fun _ k => XS.istore X233.here hx rfl (hb hby d15_12) rfl (l' := #[Rv a1, Iv 0, Iv 3, Rv b231, Iv 1, Uv]) rfl (XS.iload X233.here hx rfl (hb hby d15_14) rfl (XS.iloadN X233.here hx rfl (hb hby d15_16) rfl (XS.icmpNo X233.here hx rfl (hb hby d15_17) rfl (feq (by decide : ¬ ((1 : Int32) = (3 : Int32)))).1 (XS.aloadN X233.here hx rfl (hb hby d15_20) rfl rfl (XS.iloadN X233.here hx rfl (hb hby d15_21) rfl (XS.iloadN X233.here hx rfl (hb hby d15_22) rfl (st238 _ (XS.astore X238.here hx rfl (hb hby d15_26) rfl rfl (l' := #[Rv a1, Iv 0, Iv 3, Rv b231, Iv 1, Rv b238]) rfl (XS.aload X238.here hx rfl (hb hby d15_28) rfl rfl k)))))))))) ?_
    show own_Fin _ _ _ _ _ _ _ T238 (mkF m 30 #[Rv a1, Iv 0, Iv 3, Rv b231, Iv 1, Rv b238] [(.ref b238)])
    obtain ⟨_, _, ⟨T240, L240, k240, n240⟩, -, X240, ⟨Lc240, hQ240, l240, y240, z240⟩, st240⟩ := Jvm.LawKit.callS X238 hx (y := mn7) hown (mvT hZ (own_g hw 101 rfl)) (mvT hZ (own_g hw 102 rfl)) (mvT hZ (own_g hw 73 rfl)) (mvT hZ (own_g hw 103 rfl)) (by decide) (backOf (W := 0) (rmGC3_1 l Z a0 hw [] cs gS b238 k238 x0 x1 x2 T238.heap n0 Zs238 V_env f239_0 V238 hx1) hZ (own_g hw 103 rfl) (own_g hw 73 rfl) (by decide) (by decide)) (g := (mkF m 32 #[Rv a1, Iv 0, Iv 3, Rv b231, Iv 1, Rv b238] [(.int 1), (.ref b238)])) rfl (by rw [hml]; rfl) (argsL := [(.ref b238), (.int (1 : Int32))]) (rest := []) (lenOf own_pd177 rfl) rfl (own_z rfl) (hb hby d15_32) (fun _ _ => ⟨rfl, rfl, (by decide : 2 + 0 ≤ _), (by decide : 9 + 0 ≤ _)⟩)
    dsimp only [Pt.U, Pt.locs, Pt.cells, Pt.slots] at X240 l240 y240 z240 st240 hQ240
    subst l240 y240 z240
    obtain ⟨rfl, Nq240, eh240⟩ := hQ240
    have N240 := Fr.app N238 Nq240
    refine own_by (fun _ k => XS.iload X238.here hx rfl (hb hby d15_30) rfl (st240 _ (XS.sipush X240.here hx rfl (hb hby d15_35) (XS.icmpYes X240.here hx rfl (pc0 := 38) (pc' := 54) rfl (hb hby d15_38) rfl (tlt hb1).2.2.1 (by decide) (by decide) (XS.aload X240.here hx rfl (hb hby d15_54) rfl rfl k))))) ?_
    exact own_retA X240 hx hlk (t := (.array .byte)) hret rfl rfl rfl (hb hby d15_56) (by rw [eh240]; exact ⟨_, _, rfl, N240, Kp238, sz_b238, Or.inr V238⟩) (by decide) (by decide)
  · show own_Fin _ _ _ _ _ _ _ T233 (mkF m 12 #[Rv a1, Iv 0, Iv 3, Rv b231, Uv, Uv] [(.int 2)])
    obtain ⟨_, _, ⟨T241, L241, k241, n241⟩, -, X241, ⟨Lc241, hQ241, l241, y241, z241⟩, st241⟩ := Jvm.LawKit.callS X233 hx (y := mn6) hown (mvT hZ (own_g hw 85 rfl)) (mvT hZ (own_g hw 86 rfl)) (mvT hZ (own_g hw 73 rfl)) (mvT hZ (own_g hw 87 rfl)) (by decide) (backOf (W := 0) (rmTB3 l Z a0 hw [] cs gS a1 kc x0 x1 x2 T233.heap n0 Zs233 V_env f234_0 f234_1) hZ (own_g hw 87 rfl) (own_g hw 73 rfl) (by decide) (by decide)) (g := (mkF m 23 #[Rv a1, Iv 0, Iv 3, Rv b231, Iv 2, Uv] [(.int 3), (.int 0), (.ref a1)])) rfl (by rw [hml]; rfl) (argsL := [(.ref a1), (.int (0 : Int32)), (.int (3 : Int32))]) (rest := []) (lenOf own_pd172 rfl) rfl (own_z rfl) (hb hby d15_23) (fun _ _ => ⟨rfl, rfl, (by decide : 1 + 1 ≤ _), (by decide : 3 + 6 ≤ _)⟩)
    dsimp only [Pt.U, Pt.locs, Pt.cells, Pt.slots] at X241 l241 y241 z241 st241 hQ241
    subst l241 y241 z241
    obtain ⟨b241, k241, rfl, Nq241, K241, ge241, V241⟩ := hQ241
    have N241 := Fr.app N233 Nq241
    have Zs241 : n0 ≤ T241.heap.size := Nat.le_trans Zs233 K241.1
    have Kp241 : Keep h0 T241.heap [] := Kp233.trans K241 all0
    have f242_0 : Old Z n0 T241.heap := f234_0.keep K241 all0
    have f242_1 : Arv Z T241.heap a1 kc .char (3 : Int32) [(.int x0), (.int x1), (.int x2)] (.int (0 : Int32)) := f234_1.keep K241 nin0
    have ne241_a1 : a1 ≠ b241 := Nat.ne_of_lt (Nat.lt_of_lt_of_le f234_1.lt ge241)
    have gf241 : n0 ≤ b241 := Nat.le_trans Zs233 ge241
    have sz_b241 : h0.size ≤ b241 := Nat.le_trans Kp233.1 ge241
    refine own_by (fun _ k => XS.istore X233.here hx rfl (hb hby d15_12) rfl (l' := #[Rv a1, Iv 0, Iv 3, Rv b231, Iv 2, Uv]) rfl (XS.iload X233.here hx rfl (hb hby d15_14) rfl (XS.iloadN X233.here hx rfl (hb hby d15_16) rfl (XS.icmpNo X233.here hx rfl (hb hby d15_17) rfl (feq (by decide : ¬ ((2 : Int32) = (3 : Int32)))).1 (XS.aloadN X233.here hx rfl (hb hby d15_20) rfl rfl (XS.iloadN X233.here hx rfl (hb hby d15_21) rfl (XS.iloadN X233.here hx rfl (hb hby d15_22) rfl (st241 _ (XS.astore X241.here hx rfl (hb hby d15_26) rfl rfl (l' := #[Rv a1, Iv 0, Iv 3, Rv b231, Iv 2, Rv b241]) rfl (XS.aload X241.here hx rfl (hb hby d15_28) rfl rfl k)))))))))) ?_
    show own_Fin _ _ _ _ _ _ _ T241 (mkF m 30 #[Rv a1, Iv 0, Iv 3, Rv b231, Iv 2, Rv b241] [(.ref b241)])
    obtain ⟨_, _, ⟨T243, L243, k243, n243⟩, -, X243, ⟨Lc243, hQ243, l243, y243, z243⟩, st243⟩ := Jvm.LawKit.callS X241 hx (y := mn7) hown (mvT hZ (own_g hw 101 rfl)) (mvT hZ (own_g hw 102 rfl)) (mvT hZ (own_g hw 73 rfl)) (mvT hZ (own_g hw 103 rfl)) (by decide) (backOf (W := 0) (rmGC3_2 l Z a0 hw [] cs gS b241 k241 x0 x1 x2 T241.heap n0 Zs241 V_env f242_0 V241 hx2) hZ (own_g hw 103 rfl) (own_g hw 73 rfl) (by decide) (by decide)) (g := (mkF m 32 #[Rv a1, Iv 0, Iv 3, Rv b231, Iv 2, Rv b241] [(.int 2), (.ref b241)])) rfl (by rw [hml]; rfl) (argsL := [(.ref b241), (.int (2 : Int32))]) (rest := []) (lenOf own_pd177 rfl) rfl (own_z rfl) (hb hby d15_32) (fun _ _ => ⟨rfl, rfl, (by decide : 2 + 0 ≤ _), (by decide : 9 + 0 ≤ _)⟩)
    dsimp only [Pt.U, Pt.locs, Pt.cells, Pt.slots] at X243 l243 y243 z243 st243 hQ243
    subst l243 y243 z243
    obtain ⟨rfl, Nq243, eh243⟩ := hQ243
    have N243 := Fr.app N241 Nq243
    refine own_by (fun _ k => XS.iload X241.here hx rfl (hb hby d15_30) rfl (st243 _ (XS.sipush X243.here hx rfl (hb hby d15_35) (XS.icmpYes X243.here hx rfl (pc0 := 38) (pc' := 54) rfl (hb hby d15_38) rfl (tlt hb2).2.2.1 (by decide) (by decide) (XS.aload X243.here hx rfl (hb hby d15_54) rfl rfl k))))) ?_
    exact own_retA X243 hx hlk (t := (.array .byte)) hret rfl rfl rfl (hb hby d15_56) (by rw [eh243]; exact ⟨_, _, rfl, N243, Kp241, sz_b241, Or.inr V241⟩) (by decide) (by decide)
def own_Qcl3_3 (h0 : Heap) (n0 : Nat) (v : Option Value) (h : Heap) (L : List Loc) : Prop := v = some (.int (0 : Int32)) ∧ Fr n0 L ∧ h = h0
set_option maxRecDepth 65536 in
set_option maxHeartbeats 40000000 in
theorem rmCL3_3 (l : Launch) (Z : State) (a0 : Array Value) (hw : own_W a0 Z) (ws : List Jvm.Cond) (a1 : Addr) (k1 : ClassId) (vs : List Value) (h0 : Heap) (n0 : Nat) (Z0 : n0 ≤ h0.size) (V1 : Arv Z h0 a1 k1 .byte (3 : Int32) vs (.int (0 : Int32))) : own_Met l Z mn10 jdk_52_method_15_code 2 (some .byte) ws (own_R 0 0 0 0) #[(.ref a1), (.int (3 : Int32))] h0 (own_Qcl3_3 h0 n0) := by
  refine own_enter n0 (plainFor_of_name own_pn40) (fun m => ef_RI_2 m a1 (3 : Int32) ) (fun p e s m below meth c s₁ hx hby hlk hml hret hown hnm hZ X0 e0 N0 => ?_)
  show own_Fin _ _ _ _ _ _ _ s₁ (mkF m 0 #[Rv a1, Iv 3] [])
  obtain ⟨cl244, Ar244, -, S244, M244, -, -⟩ := id V1
  refine own_by (fun _ k => XS.iloadN X0.here hx rfl (hb hby d17_0) rfl (XS.aloadN X0.here hx rfl (hb hby d17_1) rfl rfl (X0.arraylength hx (by rw [e0]; exact Ar244.1) (State.isArrayOf_alike hZ.alike Ar244.2.1) (g := (mkF m 2 #[Rv a1, Iv 3] [(.ref a1), (.int 3)])) rfl rfl (hb hby d17_2) _ k))) ?_
  rw [len_of S244 M244]
  show own_Fin _ _ _ _ _ _ _ s₁ (mkF m 3 #[Rv a1, Iv 3] [(.int 3), (.int 3)])
  refine own_by (fun _ k => XS.isub X0.here hx rfl (hb hby d17_3) rfl k) ?_
  show own_Fin _ _ _ _ _ _ _ s₁ (mkF m 4 #[Rv a1, Iv 3] [(.int ((3 : Int32) - (3 : Int32)))])
  rw [(by decide : ((3 : Int32) - (3 : Int32)) = (0 : Int32))]
  show own_Fin _ _ _ _ _ _ _ s₁ (mkF m 4 #[Rv a1, Iv 3] [(.int 0)])
  refine own_by (fun _ k => XS.bipush X0.here hx rfl (hb hby d17_4) (XS.iushr X0.here hx rfl (hb hby d17_6) rfl k)) ?_
  show own_Fin _ _ _ _ _ _ _ s₁ (mkF m 7 #[Rv a1, Iv 3] [(.int (((0 : Int32).toUInt32 >>> ((31 : Int32) &&& 31).toUInt32).toInt32))])
  rw [(by decide : (((0 : Int32).toUInt32 >>> ((31 : Int32) &&& 31).toUInt32).toInt32) = (0 : Int32))]
  show own_Fin _ _ _ _ _ _ _ s₁ (mkF m 7 #[Rv a1, Iv 3] [(.int 0)])
  refine own_by (fun _ k => XS.i2b X0.here hx rfl (hb hby d17_7) rfl k) ?_
  show own_Fin _ _ _ _ _ _ _ s₁ (mkF m 8 #[Rv a1, Iv 3] [(.int ((0 : Int32).toInt8.toInt32))])
  rw [(by decide : ((0 : Int32).toInt8.toInt32) = (0 : Int32))]
  show own_Fin _ _ _ _ _ _ _ s₁ (mkF m 8 #[Rv a1, Iv 3] [(.int 0)])
  exact own_retZ X0 hx hlk (t := .byte) hret (by simp) (hb hby d17_8) ⟨rfl, N0, e0⟩ (by decide) (by decide)
def own_Qcl3_6 (h0 : Heap) (n0 : Nat) (v : Option Value) (h : Heap) (L : List Loc) : Prop := v = some (.int (1 : Int32)) ∧ Fr n0 L ∧ h = h0
set_option maxRecDepth 65536 in
set_option maxHeartbeats 40000000 in
theorem rmCL3_6 (l : Launch) (Z : State) (a0 : Array Value) (hw : own_W a0 Z) (ws : List Jvm.Cond) (a1 : Addr) (k1 : ClassId) (vs : List Value) (h0 : Heap) (n0 : Nat) (Z0 : n0 ≤ h0.size) (V1 : Arv Z h0 a1 k1 .byte (6 : Int32) vs (.int (0 : Int32))) : own_Met l Z mn10 jdk_52_method_15_code 2 (some .byte) ws (own_R 0 0 0 0) #[(.ref a1), (.int (3 : Int32))] h0 (own_Qcl3_6 h0 n0) := by
  refine own_enter n0 (plainFor_of_name own_pn40) (fun m => ef_RI_2 m a1 (3 : Int32) ) (fun p e s m below meth c s₁ hx hby hlk hml hret hown hnm hZ X0 e0 N0 => ?_)
  show own_Fin _ _ _ _ _ _ _ s₁ (mkF m 0 #[Rv a1, Iv 3] [])
  obtain ⟨cl245, Ar245, -, S245, M245, -, -⟩ := id V1
  refine own_by (fun _ k => XS.iloadN X0.here hx rfl (hb hby d17_0) rfl (XS.aloadN X0.here hx rfl (hb hby d17_1) rfl rfl (X0.arraylength hx (by rw [e0]; exact Ar245.1) (State.isArrayOf_alike hZ.alike Ar245.2.1) (g := (mkF m 2 #[Rv a1, Iv 3] [(.ref a1), (.int 3)])) rfl rfl (hb hby d17_2) _ k))) ?_
  rw [len_of S245 M245]
  show own_Fin _ _ _ _ _ _ _ s₁ (mkF m 3 #[Rv a1, Iv 3] [(.int 6), (.int 3)])
  refine own_by (fun _ k => XS.isub X0.here hx rfl (hb hby d17_3) rfl k) ?_
  show own_Fin _ _ _ _ _ _ _ s₁ (mkF m 4 #[Rv a1, Iv 3] [(.int ((3 : Int32) - (6 : Int32)))])
  rw [(by decide : ((3 : Int32) - (6 : Int32)) = (-3 : Int32))]
  show own_Fin _ _ _ _ _ _ _ s₁ (mkF m 4 #[Rv a1, Iv 3] [(.int (-3))])
  refine own_by (fun _ k => XS.bipush X0.here hx rfl (hb hby d17_4) (XS.iushr X0.here hx rfl (hb hby d17_6) rfl k)) ?_
  show own_Fin _ _ _ _ _ _ _ s₁ (mkF m 7 #[Rv a1, Iv 3] [(.int (((-3 : Int32).toUInt32 >>> ((31 : Int32) &&& 31).toUInt32).toInt32))])
  rw [(by decide : (((-3 : Int32).toUInt32 >>> ((31 : Int32) &&& 31).toUInt32).toInt32) = (1 : Int32))]
  show own_Fin _ _ _ _ _ _ _ s₁ (mkF m 7 #[Rv a1, Iv 3] [(.int 1)])
  refine own_by (fun _ k => XS.i2b X0.here hx rfl (hb hby d17_7) rfl k) ?_
  show own_Fin _ _ _ _ _ _ _ s₁ (mkF m 8 #[Rv a1, Iv 3] [(.int ((1 : Int32).toInt8.toInt32))])
  rw [(by decide : ((1 : Int32).toInt8.toInt32) = (1 : Int32))]
  show own_Fin _ _ _ _ _ _ _ s₁ (mkF m 8 #[Rv a1, Iv 3] [(.int 1)])
  exact own_retZ X0 hx hlk (t := .byte) hret (by simp) (hb hby d17_8) ⟨rfl, N0, e0⟩ (by decide) (by decide)
def own_QYI3 (Z : State) (a1 : Addr) (x0 x1 x2 : Int32) (h0 : Heap) (n0 : Nat) (v : Option Value) (h : Heap) (L : List Loc) : Prop := ∃ (b : Addr) (k : ClassId), v = none ∧ Fr n0 L ∧ Keep h0 h [a1] ∧ Fld Z h a1 "java/lang/String" "value" "[B" (.ref b) ∧ ((Fld Z h a1 "java/lang/String" "coder" "B" (.int (0 : Int32)) ∧ Arv Z h b k .byte (3 : Int32) [(.int x0.toInt8.toInt32), (.int x1.toInt8.toInt32), (.int x2.toInt8.toInt32)] (.int (0 : Int32)) ∧ ¬ (255 : Int32) < x0 ∧ ¬ (255 : Int32) < x1 ∧ ¬ (255 : Int32) < x2) ∨ (Fld Z h a1 "java/lang/String" "coder" "B" (.int (1 : Int32)) ∧ Arv Z h b k .byte (6 : Int32) [(.int (own_lo x0)), (.int (own_hi x0)), (.int (own_lo x1)), (.int (own_hi x1)), (.int (own_lo x2)), (.int (own_hi x2))] (.int (0 : Int32))))
set_option maxRecDepth 65536 in
set_option maxHeartbeats 40000000 in
theorem rmYI3 (l : Launch) (Z : State) (a0 : Array Value) (hw : own_W a0 Z) (ws : List Jvm.Cond) (cs : Int32) (gS : Value) (a1 a2 : Addr) (kc : ClassId) (x0 x1 x2 : Int32) (h0 : Heap) (n0 : Nat) (Z0 : n0 ≤ h0.size) (V_env : own_Env Z cs gS) (Od : Old Z n0 h0) (E_a1 : Exa Z h0 a1 "java/lang/String") (F_v : Fld Z h0 a1 "java/lang/String" "value" "[B" .null) (F_c : Fld Z h0 a1 "java/lang/String" "coder" "B" (.int (0 : Int32))) (g_a1 : n0 ≤ a1) (V2 : Arv Z h0 a2 kc .char (3 : Int32) [(.int x0), (.int x1), (.int x2)] (.int (0 : Int32))) (ne12 : a2 ≠ a1) (hx0 : own_ch x0) (hx1 : own_ch x1) (hx2 : own_ch x2) : own_Met l Z mn1 jdk_42_method_149_code 6 none ws (own_R 4 2 9 57) #[(.ref a1), (.ref a2), (.int (0 : Int32)), (.int (3 : Int32)), .null] h0 (own_QYI3 Z a1 x0 x1 x2 h0 n0) := by
  refine own_enter n0 (plainFor_of_name own_pn16) (fun m => ef_RRIIN_6 m a1 a2 (0 : Int32) (3 : Int32) ) (fun p e s m below meth c s₁ hx hby hlk hml hret hown hnm hZ X0 e0 N0 => ?_)
  show own_Fin _ _ _ _ _ _ _ s₁ (mkF m 0 #[Rv a1, Rv a2, Iv 0, Iv 3, Nv, Uv] [])
  have Kp246 : Keep h0 h0 [a1] := Keep.refl h0 _
  obtain ⟨T247, X247, e247, st247⟩ := initO X0 hx hZ hown (own_g hw 16 rfl) (own_g hw 17 rfl) (own_g hw 18 rfl) e0 (g := (mkF m 1 #[Rv a1, Rv a2, Iv 0, Iv 3, Nv, Uv] [(.ref a1)])) rfl (by rw [hml]; rfl) rfl (hb hby d3_1) (by decide) (W := 0) (own_z rfl) (by decide)
  obtain ⟨T248, X248, e248, st248⟩ := getS2 X247 hx hZ hown (host := "") (Or.inl (own_g hw 46 rfl)) Via.refl e247 (V_env.2.2.2.1.ext Od.2) (g := (mkF m 27 #[Rv a1, Rv a2, Iv 0, Iv 3, Nv, Uv] [])) rfl (hb hby d3_27)
  obtain ⟨_, _, ⟨T249, L249, k249, n249⟩, -, X249, ⟨Lc249, hQ249, l249, y249, z249⟩, st249⟩ := Jvm.LawKit.callS X248 hx (y := mn9) hown (mvT hZ (own_g hw 71 rfl)) (mvT hZ (own_g hw 72 rfl)) (mvT hZ (own_g hw 73 rfl)) (mvT hZ (own_g hw 74 rfl)) (by decide) (backOf (W := 0) (rmXO3 l Z a0 hw [] cs gS a2 kc x0 x1 x2 h0 n0 Z0 V_env Od V2 hx0 hx1 hx2) hZ (own_g hw 74 rfl) (own_g hw 73 rfl) (by decide) (by decide)) (g := (mkF m 36 #[Rv a1, Rv a2, Iv 0, Iv 3, Nv, Uv] [(.int 3), (.int 0), (.ref a2)])) rfl (by rw [hml]; rfl) (argsL := [(.ref a2), (.int (0 : Int32)), (.int (3 : Int32))]) (rest := []) (lenOf own_pd172 rfl) rfl (own_z rfl) (hb hby d3_36) (fun _ _ => ⟨rfl, e248, (by decide : 0 + 2 ≤ _), (by decide : 0 + 9 ≤ _)⟩)
  dsimp only [Pt.U, Pt.locs, Pt.cells, Pt.slots] at X249 l249 y249 z249 st249 hQ249
  subst l249 y249 z249
  obtain ⟨b249, k249, rfl, Nq249, K249, ge249, hd249⟩ := hQ249
  have N249 := Fr.app N0 Nq249
  have Zs249 : n0 ≤ T249.heap.size := Nat.le_trans Z0 K249.1
  have Kp249 : Keep h0 T249.heap [a1] := Kp246.trans K249 all0
  have f250_0 : Old Z n0 T249.heap := Od.keep K249 all0
  have f250_1 : Exa Z T249.heap a1 "java/lang/String" := E_a1.keep K249
  have f250_2 : Fld Z T249.heap a1 "java/lang/String" "value" "[B" .null := F_v.keep K249 nin0
  have f250_3 : Fld Z T249.heap a1 "java/lang/String" "coder" "B" (.int (0 : Int32)) := F_c.keep K249 nin0
  have f250_4 : Arv Z T249.heap a2 kc .char (3 : Int32) [(.int x0), (.int x1), (.int x2)] (.int (0 : Int32)) := V2.keep K249 nin0
  have ne249_a1 : a1 ≠ b249 := Nat.ne_of_lt (Nat.lt_of_lt_of_le E_a1.lt ge249)
  have ne249_a2 : a2 ≠ b249 := Nat.ne_of_lt (Nat.lt_of_lt_of_le V2.lt ge249)
  refine own_by (fun _ k => XS.aloadN X0.here hx rfl (hb hby d3_0) rfl rfl (st247 _ (XS.iloadN X247.here hx rfl (hb hby d3_4) rfl (XS.ifYes X247.here hx rfl (pc0 := 5) (pc' := 27) rfl (hb hby d3_5) rfl ((if0 _ _).trans (feq (by decide : ¬ ((3 : Int32) = (0 : Int32)))).2) (by decide) (by decide) (st248 _ (XS.ifNo X248.here hx rfl (hb hby d3_30) rfl ((if0 _ _).trans (feq V_env.2.2.2.2.1).1) (XS.aloadN X248.here hx rfl (hb hby d3_33) rfl rfl (XS.iloadN X248.here hx rfl (hb hby d3_34) rfl (XS.iloadN X248.here hx rfl (hb hby d3_35) rfl (st249 _ k)))))))))) ?_
  rcases hd249 with ⟨V249, hk0, hk1, hk2⟩ | V249
  · show own_Fin _ _ _ _ _ _ _ T249 (mkF m 39 #[Rv a1, Rv a2, Iv 0, Iv 3, Nv, Uv] [(.ref b249)])
    obtain ⟨_, _, ⟨T251, L251, k251, n251⟩, -, X251, ⟨Lc251, hQ251, l251, y251, z251⟩, st251⟩ := Jvm.LawKit.callS X249 hx (y := mn10) hown (mvT hZ (own_g hw 78 rfl)) (mvT hZ (own_g hw 79 rfl)) (mvT hZ (own_g hw 73 rfl)) (mvT hZ (own_g hw 80 rfl)) (by decide) (backOf (W := 1) (rmCL3_3 l Z a0 hw [] b249 k249 [(.int x0.toInt8.toInt32), (.int x1.toInt8.toInt32), (.int x2.toInt8.toInt32)] T249.heap n0 Zs249 V249) hZ (own_g hw 80 rfl) (own_g hw 73 rfl) (by decide) (by decide)) (g := (mkF m 45 #[Rv a1, Rv a2, Iv 0, Iv 3, Nv, Rv b249] [(.int 3), (.ref b249), (.ref a1)])) rfl (by rw [hml]; rfl) (argsL := [(.ref b249), (.int (3 : Int32))]) (rest := [(.ref a1)]) (lenOf own_pd201 rfl) rfl (own_z rfl) (hb hby d3_45) (fun _ _ => ⟨rfl, rfl, (by decide : 2 + 0 ≤ _), (by decide : 9 + 0 ≤ _)⟩)
    dsimp only [Pt.U, Pt.locs, Pt.cells, Pt.slots] at X251 l251 y251 z251 st251 hQ251
    subst l251 y251 z251
    obtain ⟨rfl, Nq251, eh251⟩ := hQ251
    have N251 := Fr.app N249 Nq251
    obtain ⟨T252, h252, X252, e252, W252, st252⟩ := putFN X251 hx hZ hown (own_g hw 26 rfl) Via.refl eh251 f250_3 f250_1 (Or.inr ⟨(own_g hw 22 rfl), rfl, hnm⟩) (own_g hw 7 rfl) (ty := .byte) (v' := (.int (0 : Int32))) (by decide) rfl (by decide) (g := (mkF m 48 #[Rv a1, Rv a2, Iv 0, Iv 3, Nv, Rv b249] [(.int 0), (.ref a1)])) rfl rfl (hb hby d3_48)
    have Fw252 : Fld Z h252 a1 "java/lang/String" "coder" "B" (.int (0 : Int32)) := f250_3.same W252
    have Kp252 : Keep h0 h252 [a1] := Kp249.wr W252 (Or.inl (List.mem_of_getElem? (i := 0) rfl))
    have Zs252 : n0 ≤ h252.size := Nat.le_trans Zs249 (Keep.of_wr W252).1
    have N252 := Fr.snoc X252 N251 g_a1
    have f253_0 : Old Z n0 h252 := f250_0.wr W252 g_a1
    have f253_1 : Exa Z h252 a1 "java/lang/String" := f250_1.wr W252
    have f253_2 : Fld Z h252 a1 "java/lang/String" "value" "[B" .null := f250_2.other W252 (Or.inr (slot_ne (Or.inr (own_g hw 21 rfl)) (Or.inr (own_g hw 22 rfl)) (by decide) (t := (.array .byte)) (t' := .byte) (by decide) (by decide)))
    have f253_4 : Arv Z h252 a2 kc .char (3 : Int32) [(.int x0), (.int x1), (.int x2)] (.int (0 : Int32)) := f250_4.other W252 ne12
    have f253_5 : Arv Z h252 b249 k249 .byte (3 : Int32) [(.int x0.toInt8.toInt32), (.int x1.toInt8.toInt32), (.int x2.toInt8.toInt32)] (.int (0 : Int32)) := V249.other W252 (Ne.symm ne249_a1)
    obtain ⟨T254, h254, X254, e254, W254, st254⟩ := putF X252 hx hZ hown (host := "") (Or.inl (own_g hw 25 rfl)) Via.refl e252 f253_2 f253_1 (Or.inr ⟨(own_g hw 21 rfl), rfl, hnm⟩) (own_g hw 7 rfl) (ty := (.array .byte)) (by decide) rfl rfl (g := (mkF m 54 #[Rv a1, Rv a2, Iv 0, Iv 3, Nv, Rv b249] [(.ref b249), (.ref a1)])) rfl rfl (hb hby d3_54)
    have Fw254 : Fld Z h254 a1 "java/lang/String" "value" "[B" (.ref b249) := f253_2.same W254
    have Kp254 : Keep h0 h254 [a1] := Kp252.wr W254 (Or.inl (List.mem_of_getElem? (i := 0) rfl))
    have Zs254 : n0 ≤ h254.size := Nat.le_trans Zs252 (Keep.of_wr W254).1
    have N254 := Fr.snoc X254 N252 g_a1
    have f255_0 : Old Z n0 h254 := f253_0.wr W254 g_a1
    have f255_1 : Exa Z h254 a1 "java/lang/String" := f253_1.wr W254
    have f255_3 : Arv Z h254 a2 kc .char (3 : Int32) [(.int x0), (.int x1), (.int x2)] (.int (0 : Int32)) := f253_4.other W254 ne12
    have f255_4 : Arv Z h254 b249 k249 .byte (3 : Int32) [(.int x0.toInt8.toInt32), (.int x1.toInt8.toInt32), (.int x2.toInt8.toInt32)] (.int (0 : Int32)) := f253_5.other W254 (Ne.symm ne249_a1)
    have f255_5 : Fld Z h254 a1 "java/lang/String" "coder" "B" (.int (0 : Int32)) := Fw252.other W254 (Or.inr (slot_ne (Or.inr (own_g hw 22 rfl)) (Or.inr (own_g hw 21 rfl)) (by decide) (t := .byte) (t' := (.array .byte)) (by decide) (by decide)))
    refine own_by (fun _ k => XS.astore X249.here hx rfl (hb hby d3_39) rfl rfl (l' := #[Rv a1, Rv a2, Iv 0, Iv 3, Nv, Rv b249]) rfl (XS.aloadN X249.here hx rfl (hb hby d3_41) rfl rfl (XS.aload X249.here hx rfl (hb hby d3_42) rfl rfl (XS.iloadN X249.here hx rfl (hb hby d3_44) rfl (st251 _ (st252 _ (XS.aloadN X252.here hx rfl (hb hby d3_51) rfl rfl (XS.aload X252.here hx rfl (hb hby d3_52) rfl rfl (st254 _ k))))))))) ?_
    exact own_retV X254 hx hlk hret (hb hby d3_57) (by rw [e254]; exact ⟨_, _, rfl, N254, Kp254, Fw254, Or.inl ⟨f255_5, f255_4, hk0, hk1, hk2⟩⟩) (by decide) (by decide)
  · show own_Fin _ _ _ _ _ _ _ T249 (mkF m 39 #[Rv a1, Rv a2, Iv 0, Iv 3, Nv, Uv] [(.ref b249)])
    obtain ⟨_, _, ⟨T256, L256, k256, n256⟩, -, X256, ⟨Lc256, hQ256, l256, y256, z256⟩, st256⟩ := Jvm.LawKit.callS X249 hx (y := mn10) hown (mvT hZ (own_g hw 78 rfl)) (mvT hZ (own_g hw 79 rfl)) (mvT hZ (own_g hw 73 rfl)) (mvT hZ (own_g hw 80 rfl)) (by decide) (backOf (W := 1) (rmCL3_6 l Z a0 hw [] b249 k249 [(.int (own_lo x0)), (.int (own_hi x0)), (.int (own_lo x1)), (.int (own_hi x1)), (.int (own_lo x2)), (.int (own_hi x2))] T249.heap n0 Zs249 V249) hZ (own_g hw 80 rfl) (own_g hw 73 rfl) (by decide) (by decide)) (g := (mkF m 45 #[Rv a1, Rv a2, Iv 0, Iv 3, Nv, Rv b249] [(.int 3), (.ref b249), (.ref a1)])) rfl (by rw [hml]; rfl) (argsL := [(.ref b249), (.int (3 : Int32))]) (rest := [(.ref a1)]) (lenOf own_pd201 rfl) rfl (own_z rfl) (hb hby d3_45) (fun _ _ => ⟨rfl, rfl, (by decide : 2 + 0 ≤ _), (by decide : 9 + 0 ≤ _)⟩)
    dsimp only [Pt.U, Pt.locs, Pt.cells, Pt.slots] at X256 l256 y256 z256 st256 hQ256
    subst l256 y256 z256
    obtain ⟨rfl, Nq256, eh256⟩ := hQ256
    have N256 := Fr.app N249 Nq256
    obtain ⟨T257, h257, X257, e257, W257, st257⟩ := putFN X256 hx hZ hown (own_g hw 26 rfl) Via.refl eh256 f250_3 f250_1 (Or.inr ⟨(own_g hw 22 rfl), rfl, hnm⟩) (own_g hw 7 rfl) (ty := .byte) (v' := (.int (1 : Int32))) (by decide) rfl (by decide) (g := (mkF m 48 #[Rv a1, Rv a2, Iv 0, Iv 3, Nv, Rv b249] [(.int 1), (.ref a1)])) rfl rfl (hb hby d3_48)
    have Fw257 : Fld Z h257 a1 "java/lang/String" "coder" "B" (.int (1 : Int32)) := f250_3.same W257
    have Kp257 : Keep h0 h257 [a1] := Kp249.wr W257 (Or.inl (List.mem_of_getElem? (i := 0) rfl))
    have Zs257 : n0 ≤ h257.size := Nat.le_trans Zs249 (Keep.of_wr W257).1
    have N257 := Fr.snoc X257 N256 g_a1
    have f258_0 : Old Z n0 h257 := f250_0.wr W257 g_a1
    have f258_1 : Exa Z h257 a1 "java/lang/String" := f250_1.wr W257
    have f258_2 : Fld Z h257 a1 "java/lang/String" "value" "[B" .null := f250_2.other W257 (Or.inr (slot_ne (Or.inr (own_g hw 21 rfl)) (Or.inr (own_g hw 22 rfl)) (by decide) (t := (.array .byte)) (t' := .byte) (by decide) (by decide)))
    have f258_4 : Arv Z h257 a2 kc .char (3 : Int32) [(.int x0), (.int x1), (.int x2)] (.int (0 : Int32)) := f250_4.other W257 ne12
    have f258_5 : Arv Z h257 b249 k249 .byte (6 : Int32) [(.int (own_lo x0)), (.int (own_hi x0)), (.int (own_lo x1)), (.int (own_hi x1)), (.int (own_lo x2)), (.int (own_hi x2))] (.int (0 : Int32)) := V249.other W257 (Ne.symm ne249_a1)
    obtain ⟨T259, h259, X259, e259, W259, st259⟩ := putF X257 hx hZ hown (host := "") (Or.inl (own_g hw 25 rfl)) Via.refl e257 f258_2 f258_1 (Or.inr ⟨(own_g hw 21 rfl), rfl, hnm⟩) (own_g hw 7 rfl) (ty := (.array .byte)) (by decide) rfl rfl (g := (mkF m 54 #[Rv a1, Rv a2, Iv 0, Iv 3, Nv, Rv b249] [(.ref b249), (.ref a1)])) rfl rfl (hb hby d3_54)
    have Fw259 : Fld Z h259 a1 "java/lang/String" "value" "[B" (.ref b249) := f258_2.same W259
    have Kp259 : Keep h0 h259 [a1] := Kp257.wr W259 (Or.inl (List.mem_of_getElem? (i := 0) rfl))
    have Zs259 : n0 ≤ h259.size := Nat.le_trans Zs257 (Keep.of_wr W259).1
    have N259 := Fr.snoc X259 N257 g_a1
    have f260_0 : Old Z n0 h259 := f258_0.wr W259 g_a1
    have f260_1 : Exa Z h259 a1 "java/lang/String" := f258_1.wr W259
    have f260_3 : Arv Z h259 a2 kc .char (3 : Int32) [(.int x0), (.int x1), (.int x2)] (.int (0 : Int32)) := f258_4.other W259 ne12
    have f260_4 : Arv Z h259 b249 k249 .byte (6 : Int32) [(.int (own_lo x0)), (.int (own_hi x0)), (.int (own_lo x1)), (.int (own_hi x1)), (.int (own_lo x2)), (.int (own_hi x2))] (.int (0 : Int32)) := f258_5.other W259 (Ne.symm ne249_a1)
    have f260_5 : Fld Z h259 a1 "java/lang/String" "coder" "B" (.int (1 : Int32)) := Fw257.other W259 (Or.inr (slot_ne (Or.inr (own_g hw 22 rfl)) (Or.inr (own_g hw 21 rfl)) (by decide) (t := .byte) (t' := (.array .byte)) (by decide) (by decide)))
    refine own_by (fun _ k => XS.astore X249.here hx rfl (hb hby d3_39) rfl rfl (l' := #[Rv a1, Rv a2, Iv 0, Iv 3, Nv, Rv b249]) rfl (XS.aloadN X249.here hx rfl (hb hby d3_41) rfl rfl (XS.aload X249.here hx rfl (hb hby d3_42) rfl rfl (XS.iloadN X249.here hx rfl (hb hby d3_44) rfl (st256 _ (st257 _ (XS.aloadN X257.here hx rfl (hb hby d3_51) rfl rfl (XS.aload X257.here hx rfl (hb hby d3_52) rfl rfl (st259 _ k))))))))) ?_
    exact own_retV X259 hx hlk hret (hb hby d3_57) (by rw [e259]; exact ⟨_, _, rfl, N259, Kp259, Fw259, Or.inr ⟨f260_5, f260_4⟩⟩) (by decide) (by decide)
set_option maxRecDepth 65536 in
set_option maxHeartbeats 40000000 in
theorem rmYC3 (l : Launch) (Z : State) (a0 : Array Value) (hw : own_W a0 Z) (ws : List Jvm.Cond) (cs : Int32) (gS : Value) (a1 a2 : Addr) (kc : ClassId) (x0 x1 x2 : Int32) (h0 : Heap) (n0 : Nat) (Z0 : n0 ≤ h0.size) (V_env : own_Env Z cs gS) (Od : Old Z n0 h0) (E_a1 : Exa Z h0 a1 "java/lang/String") (F_v : Fld Z h0 a1 "java/lang/String" "value" "[B" .null) (F_c : Fld Z h0 a1 "java/lang/String" "coder" "B" (.int (0 : Int32))) (g_a1 : n0 ≤ a1) (V2 : Arv Z h0 a2 kc .char (3 : Int32) [(.int x0), (.int x1), (.int x2)] (.int (0 : Int32))) (ne12 : a2 ≠ a1) (hx0 : own_ch x0) (hx1 : own_ch x1) (hx2 : own_ch x2) : own_Met l Z mn2 jdk_42_method_3_code 2 none ws (own_R 5 2 9 74) #[(.ref a1), (.ref a2)] h0 (own_QYI3 Z a1 x0 x1 x2 h0 n0) := by
  refine own_enter n0 (plainFor_of_name own_pn16) (fun m => ef_RR_2 m a1 a2 ) (fun p e s m below meth c s₁ hx hby hlk hml hret hown hnm hZ X0 e0 N0 => ?_)
  show own_Fin _ _ _ _ _ _ _ s₁ (mkF m 0 #[Rv a1, Rv a2] [])
  have Kp261 : Keep h0 h0 [a1] := Keep.refl h0 _
  obtain ⟨cl262, Ar262, -, S262, M262, -, -⟩ := id V2
  refine own_by (fun _ k => XS.aloadN X0.here hx rfl (hb hby d2_0) rfl rfl (XS.aloadN X0.here hx rfl (hb hby d2_1) rfl rfl (XS.iconst X0.here hx rfl (hb hby d2_2) (XS.aloadN X0.here hx rfl (hb hby d2_3) rfl rfl (X0.arraylength hx (by rw [e0]; exact Ar262.1) (State.isArrayOf_alike hZ.alike Ar262.2.1) (g := (mkF m 4 #[Rv a1, Rv a2] [(.ref a2), (.int 0), (.ref a2), (.ref a1)])) rfl rfl (hb hby d2_4) _ k))))) ?_
  rw [len_of S262 M262]
  show own_Fin _ _ _ _ _ _ _ s₁ (mkF m 5 #[Rv a1, Rv a2] [(.int 3), (.int 0), (.ref a2), (.ref a1)])
  obtain ⟨_, _, ⟨T263, L263, k263, n263⟩, -, X263, ⟨Lc263, hQ263, l263, y263, z263⟩, st263⟩ := X0.specialBack hx (y := mn1) rfl hown (mvT hZ (own_g hw 12 rfl)) (mvT hZ (own_g hw 13 rfl)) (mvT hZ (own_g hw 15 rfl)) (by decide) (backOf (W := 0) (rmYI3 l Z a0 hw [] cs gS a1 a2 kc x0 x1 x2 h0 n0 Z0 V_env Od E_a1 F_v F_c g_a1 V2 ne12 hx0 hx1 hx2) hZ (own_g hw 15 rfl) (own_g hw 8 rfl) (by decide) (by decide)) (g := (mkF m 6 #[Rv a1, Rv a2] [.null, (.int 3), (.int 0), (.ref a2), (.ref a1)])) rfl (by rw [hml]; rfl) (Steps.refl _) (a := a1) (argsL := [(.ref a2), (.int (0 : Int32)), (.int (3 : Int32)), .null]) (rest := []) (lenOf own_pd38 rfl) rfl (own_z rfl) (hb hby d2_6) (fun _ _ => ⟨rfl, e0, (by decide : 0 + 2 ≤ _), (by decide : 0 + 9 ≤ _)⟩)
  dsimp only [Pt.U, Pt.locs, Pt.cells, Pt.slots] at X263 l263 y263 z263 st263 hQ263
  subst l263 y263 z263
  obtain ⟨b263, k263, rfl, Nq263, K263, Gv263, hd263⟩ := hQ263
  have N263 := Fr.app N0 Nq263
  have Zs263 : n0 ≤ T263.heap.size := Nat.le_trans Z0 K263.1
  have Kp263 : Keep h0 T263.heap [a1] := Kp261.trans K263 (allS (Or.inl (List.mem_of_getElem? (i := 0) rfl)) all0)
  have f264_0 : Old Z n0 T263.heap := Od.keep K263 (allS g_a1 all0)
  have f264_1 : Exa Z T263.heap a1 "java/lang/String" := E_a1.keep K263
  have f264_4 : Arv Z T263.heap a2 kc .char (3 : Int32) [(.int x0), (.int x1), (.int x2)] (.int (0 : Int32)) := V2.keep K263 (ninS ne12 nin0)
  refine own_by (fun _ k => XS.aconstNull X0.here hx rfl (hb hby d2_5) (st263.trans k)) ?_
  exact own_retV X263 hx hlk hret (hb hby d2_9) ⟨_, _, rfl, N263, Kp263, Gv263, hd263⟩ (by decide) (by decide)
def own_QrmNBL4 (h0 : Heap) (n0 : Nat) (v : Option Value) (h : Heap) (L : List Loc) : Prop := v = some (.int (8 : Int32)) ∧ Fr n0 L ∧ h = h0
set_option maxRecDepth 65536 in
set_option maxHeartbeats 40000000 in
theorem rmNBL4 (l : Launch) (Z : State) (a0 : Array Value) (hw : own_W a0 Z) (ws : List Jvm.Cond)  (h0 : Heap) (n0 : Nat) (Z0 : n0 ≤ h0.size)  : own_Met l Z mn3 jdk_52_method_3_code 1 (some .int) ws (own_R 0 0 0 0) #[(.int (4 : Int32))] h0 (own_QrmNBL4 h0 n0) := by
  refine own_enter n0 (plainFor_of_name own_pn40) (fun m => ef_I_1 m (4 : Int32) ) (fun p e s m below meth c s₁ hx hby hlk hml hret hown hnm hZ X0 e0 N0 => ?_)
  show own_Fin _ _ _ _ _ _ _ s₁ (mkF m 0 #[Iv 4] [])
  refine own_by (fun _ k => XS.iloadN X0.here hx rfl (hb hby d21_0) rfl (XS.ifYes X0.here hx rfl (pc0 := 1) (pc' := 12) rfl (hb hby d21_1) rfl ((if0 _ _).trans (flt (by decide : ¬ ((4 : Int32) < (0 : Int32)))).2.1) (by decide) (by decide) (XS.iloadN X0.here hx rfl (hb hby d21_12) rfl (X0.ldcInt hx hown (mvT hZ (own_g hw 94 rfl)) (g := (mkF m 13 #[Iv 4] [(.int 4)])) rfl (hb hby d21_13) _ (XS.icmpYes X0.here hx rfl (pc0 := 15) (pc' := 55) rfl (hb hby d21_15) rfl (tlt (by decide : (4 : Int32) < (1073741823 : Int32))).1 (by decide) (by decide) (XS.iloadN X0.here hx rfl (hb hby d21_55) rfl (XS.iconst X0.here hx rfl (hb hby d21_56) (XS.ishl X0.here hx rfl (hb hby d21_57) rfl k)))))))) ?_
  show own_Fin _ _ _ _ _ _ _ s₁ (mkF m 58 #[Iv 4] [(.int ((4 : Int32) <<< ((1 : Int32) &&& 31)))])
  rw [(by decide : ((4 : Int32) <<< ((1 : Int32) &&& 31)) = (8 : Int32))]
  show own_Fin _ _ _ _ _ _ _ s₁ (mkF m 58 #[Iv 4] [(.int 8)])
  exact own_retI X0 hx hlk hret (hb hby d21_58) ⟨rfl, N0, e0⟩ (by decide) (by decide)
def own_QNBF4 (Z : State) (h0 : Heap) (n0 : Nat) (v : Option Value) (h : Heap) (L : List Loc) : Prop := ∃ (a : Addr) (k : ClassId), v = some (.ref a) ∧ Fr n0 L ∧ Keep h0 h [] ∧ h0.size ≤ a ∧ Arv Z h a k .byte (8 : Int32) [(.int (0 : Int32)), (.int (0 : Int32)), (.int (0 : Int32)), (.int (0 : Int32)), (.int (0 : Int32)), (.int (0 : Int32)), (.int (0 : Int32)), (.int (0 : Int32))] (.int (0 : Int32))
set_option maxRecDepth 65536 in
set_option maxHeartbeats 40000000 in
theorem rmNBF4 (l : Launch) (Z : State) (a0 : Array Value) (hw : own_W a0 Z) (ws : List Jvm.Cond)  (h0 : Heap) (n0 : Nat) (Z0 : n0 ≤ h0.size)  : own_Met l Z mn4 jdk_52_method_2_code 1 (some (.array .byte)) ws (own_R 1 1 8 12) #[(.int (4 : Int32))] h0 (own_QNBF4 Z h0 n0) := by
  refine own_enter n0 (plainFor_of_name own_pn40) (fun m => ef_I_1 m (4 : Int32) ) (fun p e s m below meth c s₁ hx hby hlk hml hret hown hnm hZ X0 e0 N0 => ?_)
  show own_Fin _ _ _ _ _ _ _ s₁ (mkF m 0 #[Iv 4] [])
  have Kp265 : Keep h0 h0 [] := Keep.refl h0 _
  obtain ⟨_, _, ⟨T266, L266, k266, n266⟩, -, X266, ⟨Lc266, hQ266, l266, y266, z266⟩, st266⟩ := Jvm.LawKit.callS X0 hx (y := mn3) hown (mvT hZ (own_g hw 91 rfl)) (mvT hZ (own_g hw 92 rfl)) (mvT hZ (own_g hw 73 rfl)) (mvT hZ (own_g hw 93 rfl)) (by decide) (backOf (W := 0) (rmNBL4 l Z a0 hw []  h0 n0 Z0 ) hZ (own_g hw 93 rfl) (own_g hw 73 rfl) (by decide) (by decide)) (g := (mkF m 1 #[Iv 4] [(.int 4)])) rfl (by rw [hml]; rfl) (argsL := [(.int (4 : Int32))]) (rest := []) (lenOf own_pd52 rfl) rfl (own_z rfl) (hb hby d20_1) (fun _ _ => ⟨rfl, e0, (by decide : 0 + 0 ≤ _), (by decide : 0 + 0 ≤ _)⟩)
  dsimp only [Pt.U, Pt.locs, Pt.cells, Pt.slots] at X266 l266 y266 z266 st266 hQ266
  subst l266 y266 z266
  obtain ⟨rfl, Nq266, eh266⟩ := hQ266
  have N266 := Fr.app N0 Nq266
  obtain ⟨T267, h267, k267, X267, e267, E267, A267, st267⟩ := newP X266 hx hZ (own_g hw 20 rfl) eh266 (g := (mkF m 4 #[Iv 4] [(.int 8)])) rfl (hb hby d20_4) rfl (by decide) (cap := 8) (by decide) (by decide) (by decide) (by decide)
  obtain ⟨b267, g267⟩ : ∃ z, z = h0.size := ⟨_, rfl⟩
  rw [← g267] at A267 st267
  have V267 : Arv Z h267 b267 k267 .byte (8 : Int32) [(.int (0 : Int32)), (.int (0 : Int32)), (.int (0 : Int32)), (.int (0 : Int32)), (.int (0 : Int32)), (.int (0 : Int32)), (.int (0 : Int32)), (.int (0 : Int32))] (.int (0 : Int32)) := (Arv.new A267 (by decide)).pad (pad_rep [] (.int (0 : Int32)) 8)
  have gf267 : n0 ≤ b267 := Nat.le_trans Z0 (Nat.le_of_eq g267.symm)
  have Zs267 : n0 ≤ h267.size := Nat.le_trans Z0 E267.1
  have Kp267 : Keep h0 h267 [] := Kp265.ext E267
  have sz_b267 : h0.size ≤ b267 := Nat.le_trans Kp265.1 (Nat.le_of_eq g267.symm)
  refine own_by (fun _ k => XS.iloadN X0.here hx rfl (hb hby d20_0) rfl (st266 _ (st267 _ k))) ?_
  exact own_retA X267 hx hlk (t := (.array .byte)) hret rfl rfl rfl (hb hby d20_6) (by rw [e267]; exact ⟨_, _, rfl, N266, Kp267, sz_b267, V267⟩) (by decide) (by decide)
def own_QPC4_0 (Z : State) (a1 : Addr) (k1 : ClassId) (cc : Int32) (w0 w1 w2 w3 w4 w5 w6 w7 : Int32) (h0 : Heap) (n0 : Nat) (v : Option Value) (h : Heap) (L : List Loc) : Prop := v = none ∧ Fr n0 L ∧ Keep h0 h [a1] ∧ Arv Z h a1 k1 .byte (8 : Int32) [(.int (own_lo cc)), (.int (own_hi cc)), (.int w2), (.int w3), (.int w4), (.int w5), (.int w6), (.int w7)] (.int (0 : Int32))
set_option maxRecDepth 65536 in
set_option maxHeartbeats 40000000 in
theorem rmPC4_0 (l : Launch) (Z : State) (a0 : Array Value) (hw : own_W a0 Z) (ws : List Jvm.Cond) (cs : Int32) (gS : Value) (a1 : Addr) (k1 : ClassId) (cc : Int32) (w0 w1 w2 w3 w4 w5 w6 w7 : Int32) (h0 : Heap) (n0 : Nat) (Z0 : n0 ≤ h0.size) (V_env : own_Env Z cs gS) (Od : Old Z n0 h0) (V1 : Arv Z h0 a1 k1 .byte (8 : Int32) [(.int w0), (.int w1), (.int w2), (.int w3), (.int w4), (.int w5), (.int w6), (.int w7)] (.int (0 : Int32))) (g_1 : n0 ≤ a1) : own_Met l Z mn5 jdk_52_method_4_code 3 none ws (own_R 0 0 0 0) #[(.ref a1), (.int (0 : Int32)), (.int cc)] h0 (own_QPC4_0 Z a1 k1 cc w0 w1 w2 w3 w4 w5 w6 w7 h0 n0) := by
  refine own_enter n0 (plainFor_of_name own_pn40) (fun m => ef_RII_3 m a1 (0 : Int32) cc ) (fun p e s m below meth c s₁ hx hby hlk hml hret hown hnm hZ X0 e0 N0 => ?_)
  show own_Fin _ _ _ _ _ _ _ s₁ (mkF m 0 #[Rv a1, Iv 0, Iv cc] [])
  have Kp269 : Keep h0 h0 [a1] := Keep.refl h0 _
  obtain ⟨T270, X270, e270, st270⟩ := getS2 X0 hx hZ hown (host := "") (Or.inl (own_g hw 98 rfl)) Via.refl e0 (V_env.1.ext Od.2) (g := (mkF m 0 #[Rv a1, Iv 0, Iv cc] [])) rfl (hb hby d22_0)
  refine own_by (fun _ k => st270 _ (XS.ifYes X270.here hx rfl (pc0 := 3) (pc' := 28) rfl (hb hby d22_3) rfl ((if0 _ _).trans (feq (by decide : ¬ ((1 : Int32) = (0 : Int32)))).2) (by decide) (by decide) (XS.iloadN X270.here hx rfl (hb hby d22_28) rfl (XS.iconst X270.here hx rfl (hb hby d22_29) (XS.ishl X270.here hx rfl (hb hby d22_30) rfl k))))) ?_
  show own_Fin _ _ _ _ _ _ _ T270 (mkF m 31 #[Rv a1, Iv 0, Iv cc] [(.int ((0 : Int32) <<< ((1 : Int32) &&& 31)))])
  rw [(by decide : ((0 : Int32) <<< ((1 : Int32) &&& 31)) = (0 : Int32))]
  show own_Fin _ _ _ _ _ _ _ T270 (mkF m 31 #[Rv a1, Iv 0, Iv cc] [(.int 0)])
  refine own_by (fun _ k => XS.istoreN X270.here hx rfl (hb hby d22_31) rfl (l' := #[Rv a1, Iv 0, Iv cc]) rfl (XS.aloadN X270.here hx rfl (hb hby d22_32) rfl rfl (XS.iloadN X270.here hx rfl (hb hby d22_33) rfl (XS.iinc X270.here hx rfl (hb hby d22_34) rfl (l' := #[Rv a1, Iv ((0 : Int32) + (1 : Int32)), Iv cc]) rfl k)))) ?_
  show own_Fin _ _ _ _ _ _ _ T270 (mkF m 37 #[Rv a1, Iv ((0 : Int32) + (1 : Int32)), Iv cc] [(.int 0), (.ref a1)])
  rw [(by decide : ((0 : Int32) + (1 : Int32)) = (1 : Int32))]
  show own_Fin _ _ _ _ _ _ _ T270 (mkF m 37 #[Rv a1, Iv 1, Iv cc] [(.int 0), (.ref a1)])
  obtain ⟨T271, X271, e271, st271⟩ := getS2 X270 hx hZ hown (host := "") (Or.inl (own_g hw 99 rfl)) Via.refl e270 (V_env.2.1.ext Od.2) (g := (mkF m 38 #[Rv a1, Iv 1, Iv cc] [(.int cc), (.int 0), (.ref a1)])) rfl (hb hby d22_38)
  obtain ⟨cl272, Ar272, q272, S272, M272, H272, G272⟩ := id V1
  have hin272 : ¬ ((0 : Int32) < 0 ∨ cl272.slots.size ≤ ((0 : Int32)).toNatClampNeg) := inb_of S272 ⟨by decide, by decide⟩
  obtain ⟨T272, h272, X272, e272, W272, st272⟩ := stB X271 hx hZ e271 Ar272 (j := (0 : Int32)) hin272 (g := (mkF m 43 #[Rv a1, Iv 1, Iv cc] [(.int ((cc >>> ((0 : Int32) &&& 31)).toInt8.toInt32)), (.int 0), (.ref a1)])) rfl rfl (hb hby d22_43)
  have V272 : Arv Z h272 a1 k1 .byte (8 : Int32) [(.int ((cc >>> ((0 : Int32) &&& 31)).toInt8.toInt32).toInt8.toInt32), (.int w1), (.int w2), (.int w3), (.int w4), (.int w5), (.int w6), (.int w7)] (.int (0 : Int32)) := Arv.set Ar272 q272 S272 M272 H272 G272 (fits_nar_byte _) W272 0 rfl (Nat.le_of_ble_eq_true rfl)
  have Kp272 : Keep h0 h272 [a1] := Kp269.wr W272 (Or.inl (List.mem_of_getElem? (i := 0) rfl))
  have Zs272 : n0 ≤ h272.size := Nat.le_trans Z0 (Keep.of_wr W272).1
  have N272 := Fr.snoc X272 N0 g_1
  have f273_0 : Old Z n0 h272 := Od.wr W272 g_1
  obtain ⟨T274, X274, e274, st274⟩ := getS2 X272 hx hZ hown (host := "") (Or.inl (own_g hw 100 rfl)) Via.refl e272 (V_env.2.2.1.ext f273_0.2) (g := (mkF m 47 #[Rv a1, Iv 1, Iv cc] [(.int cc), (.int 1), (.ref a1)])) rfl (hb hby d22_47)
  refine own_by (fun _ k => XS.iloadN X270.here hx rfl (hb hby d22_37) rfl (st271 _ (XS.ishr X271.here hx rfl (hb hby d22_41) rfl (XS.i2b X271.here hx rfl (hb hby d22_42) rfl (st272 _ (XS.aloadN X272.here hx rfl (hb hby d22_44) rfl rfl (XS.iloadN X272.here hx rfl (hb hby d22_45) rfl (XS.iloadN X272.here hx rfl (hb hby d22_46) rfl (st274 _ (XS.ishr X274.here hx rfl (hb hby d22_50) rfl k)))))))))) ?_
  show own_Fin _ _ _ _ _ _ _ T274 (mkF m 51 #[Rv a1, Iv 1, Iv cc] [(.int (cc >>> ((8 : Int32) &&& 31))), (.int 1), (.ref a1)])
  obtain ⟨cl275, Ar275, q275, S275, M275, H275, G275⟩ := id V272
  have hin275 : ¬ ((1 : Int32) < 0 ∨ cl275.slots.size ≤ ((1 : Int32)).toNatClampNeg) := inb_of S275 ⟨by decide, by decide⟩
  obtain ⟨T275, h275, X275, e275, W275, st275⟩ := stB X274 hx hZ e274 Ar275 (j := (1 : Int32)) hin275 (g := (mkF m 52 #[Rv a1, Iv 1, Iv cc] [(.int ((cc >>> ((8 : Int32) &&& 31)).toInt8.toInt32)), (.int 1), (.ref a1)])) rfl rfl (hb hby d22_52)
  have V275 : Arv Z h275 a1 k1 .byte (8 : Int32) [(.int ((cc >>> ((0 : Int32) &&& 31)).toInt8.toInt32).toInt8.toInt32), (.int ((cc >>> ((8 : Int32) &&& 31)).toInt8.toInt32).toInt8.toInt32), (.int w2), (.int w3), (.int w4), (.int w5), (.int w6), (.int w7)] (.int (0 : Int32)) := Arv.set Ar275 q275 S275 M275 H275 G275 (fits_nar_byte _) W275 1 rfl (Nat.le_of_ble_eq_true rfl)
  have Kp275 : Keep h0 h275 [a1] := Kp272.wr W275 (Or.inl (List.mem_of_getElem? (i := 0) rfl))
  have Zs275 : n0 ≤ h275.size := Nat.le_trans Zs272 (Keep.of_wr W275).1
  have N275 := Fr.snoc X275 N272 g_1
  have f276_0 : Old Z n0 h275 := f273_0.wr W275 g_1
  refine own_by (fun _ k => XS.i2b X274.here hx rfl (hb hby d22_51) rfl (st275 _ k)) ?_
  exact own_retV X275 hx hlk hret (hb hby d22_53) (by rw [e275]; exact ⟨rfl, N275, Kp275, (by have q := V275; simp only [own_b8] at q; exact q)⟩) (by decide) (by decide)
def own_QPC4_1 (Z : State) (a1 : Addr) (k1 : ClassId) (cc : Int32) (w0 w1 w2 w3 w4 w5 w6 w7 : Int32) (h0 : Heap) (n0 : Nat) (v : Option Value) (h : Heap) (L : List Loc) : Prop := v = none ∧ Fr n0 L ∧ Keep h0 h [a1] ∧ Arv Z h a1 k1 .byte (8 : Int32) [(.int w0), (.int w1), (.int (own_lo cc)), (.int (own_hi cc)), (.int w4), (.int w5), (.int w6), (.int w7)] (.int (0 : Int32))
set_option maxRecDepth 65536 in
set_option maxHeartbeats 40000000 in
theorem rmPC4_1 (l : Launch) (Z : State) (a0 : Array Value) (hw : own_W a0 Z) (ws : List Jvm.Cond) (cs : Int32) (gS : Value) (a1 : Addr) (k1 : ClassId) (cc : Int32) (w0 w1 w2 w3 w4 w5 w6 w7 : Int32) (h0 : Heap) (n0 : Nat) (Z0 : n0 ≤ h0.size) (V_env : own_Env Z cs gS) (Od : Old Z n0 h0) (V1 : Arv Z h0 a1 k1 .byte (8 : Int32) [(.int w0), (.int w1), (.int w2), (.int w3), (.int w4), (.int w5), (.int w6), (.int w7)] (.int (0 : Int32))) (g_1 : n0 ≤ a1) : own_Met l Z mn5 jdk_52_method_4_code 3 none ws (own_R 0 0 0 0) #[(.ref a1), (.int (1 : Int32)), (.int cc)] h0 (own_QPC4_1 Z a1 k1 cc w0 w1 w2 w3 w4 w5 w6 w7 h0 n0) := by
  refine own_enter n0 (plainFor_of_name own_pn40) (fun m => ef_RII_3 m a1 (1 : Int32) cc ) (fun p e s m below meth c s₁ hx hby hlk hml hret hown hnm hZ X0 e0 N0 => ?_)
  show own_Fin _ _ _ _ _ _ _ s₁ (mkF m 0 #[Rv a1, Iv 1, Iv cc] [])
  have Kp277 : Keep h0 h0 [a1] := Keep.refl h0 _
  obtain ⟨T278, X278, e278, st278⟩ := getS2 X0 hx hZ hown (host := "") (Or.inl (own_g hw 98 rfl)) Via.refl e0 (V_env.1.ext Od.2) (g := (mkF m 0 #[Rv a1, Iv 1, Iv cc] [])) rfl (hb hby d22_0)
  refine own_by (fun _ k => st278 _ (XS.ifYes X278.here hx rfl (pc0 := 3) (pc' := 28) rfl (hb hby d22_3) rfl ((if0 _ _).trans (feq (by decide : ¬ ((1 : Int32) = (0 : Int32)))).2) (by decide) (by decide) (XS.iloadN X278.here hx rfl (hb hby d22_28) rfl (XS.iconst X278.here hx rfl (hb hby d22_29) (XS.ishl X278.here hx rfl (hb hby d22_30) rfl k))))) ?_
  show own_Fin _ _ _ _ _ _ _ T278 (mkF m 31 #[Rv a1, Iv 1, Iv cc] [(.int ((1 : Int32) <<< ((1 : Int32) &&& 31)))])
  rw [(by decide : ((1 : Int32) <<< ((1 : Int32) &&& 31)) = (2 : Int32))]
  show own_Fin _ _ _ _ _ _ _ T278 (mkF m 31 #[Rv a1, Iv 1, Iv cc] [(.int 2)])
  refine own_by (fun _ k => XS.istoreN X278.here hx rfl (hb hby d22_31) rfl (l' := #[Rv a1, Iv 2, Iv cc]) rfl (XS.aloadN X278.here hx rfl (hb hby d22_32) rfl rfl (XS.iloadN X278.here hx rfl (hb hby d22_33) rfl (XS.iinc X278.here hx rfl (hb hby d22_34) rfl (l' := #[Rv a1, Iv ((2 : Int32) + (1 : Int32)), Iv cc]) rfl k)))) ?_
  show own_Fin _ _ _ _ _ _ _ T278 (mkF m 37 #[Rv a1, Iv ((2 : Int32) + (1 : Int32)), Iv cc] [(.int 2), (.ref a1)])
  rw [(by decide : ((2 : Int32) + (1 : Int32)) = (3 : Int32))]
  show own_Fin _ _ _ _ _ _ _ T278 (mkF m 37 #[Rv a1, Iv 3, Iv cc] [(.int 2), (.ref a1)])
  obtain ⟨T279, X279, e279, st279⟩ := getS2 X278 hx hZ hown (host := "") (Or.inl (own_g hw 99 rfl)) Via.refl e278 (V_env.2.1.ext Od.2) (g := (mkF m 38 #[Rv a1, Iv 3, Iv cc] [(.int cc), (.int 2), (.ref a1)])) rfl (hb hby d22_38)
  obtain ⟨cl280, Ar280, q280, S280, M280, H280, G280⟩ := id V1
  have hin280 : ¬ ((2 : Int32) < 0 ∨ cl280.slots.size ≤ ((2 : Int32)).toNatClampNeg) := inb_of S280 ⟨by decide, by decide⟩
  obtain ⟨T280, h280, X280, e280, W280, st280⟩ := stB X279 hx hZ e279 Ar280 (j := (2 : Int32)) hin280 (g := (mkF m 43 #[Rv a1, Iv 3, Iv cc] [(.int ((cc >>> ((0 : Int32) &&& 31)).toInt8.toInt32)), (.int 2), (.ref a1)])) rfl rfl (hb hby d22_43)
  have V280 : Arv Z h280 a1 k1 .byte (8 : Int32) [(.int w0), (.int w1), (.int ((cc >>> ((0 : Int32) &&& 31)).toInt8.toInt32).toInt8.toInt32), (.int w3), (.int w4), (.int w5), (.int w6), (.int w7)] (.int (0 : Int32)) := Arv.set Ar280 q280 S280 M280 H280 G280 (fits_nar_byte _) W280 2 rfl (Nat.le_of_ble_eq_true rfl)
  have Kp280 : Keep h0 h280 [a1] := Kp277.wr W280 (Or.inl (List.mem_of_getElem? (i := 0) rfl))
  have Zs280 : n0 ≤ h280.size := Nat.le_trans Z0 (Keep.of_wr W280).1
  have N280 := Fr.snoc X280 N0 g_1
  have f281_0 : Old Z n0 h280 := Od.wr W280 g_1
  obtain ⟨T282, X282, e282, st282⟩ := getS2 X280 hx hZ hown (host := "") (Or.inl (own_g hw 100 rfl)) Via.refl e280 (V_env.2.2.1.ext f281_0.2) (g := (mkF m 47 #[Rv a1, Iv 3, Iv cc] [(.int cc), (.int 3), (.ref a1)])) rfl (hb hby d22_47)
  refine own_by (fun _ k => XS.iloadN X278.here hx rfl (hb hby d22_37) rfl (st279 _ (XS.ishr X279.here hx rfl (hb hby d22_41) rfl (XS.i2b X279.here hx rfl (hb hby d22_42) rfl (st280 _ (XS.aloadN X280.here hx rfl (hb hby d22_44) rfl rfl (XS.iloadN X280.here hx rfl (hb hby d22_45) rfl (XS.iloadN X280.here hx rfl (hb hby d22_46) rfl (st282 _ (XS.ishr X282.here hx rfl (hb hby d22_50) rfl k)))))))))) ?_
  show own_Fin _ _ _ _ _ _ _ T282 (mkF m 51 #[Rv a1, Iv 3, Iv cc] [(.int (cc >>> ((8 : Int32) &&& 31))), (.int 3), (.ref a1)])
  obtain ⟨cl283, Ar283, q283, S283, M283, H283, G283⟩ := id V280
  have hin283 : ¬ ((3 : Int32) < 0 ∨ cl283.slots.size ≤ ((3 : Int32)).toNatClampNeg) := inb_of S283 ⟨by decide, by decide⟩
  obtain ⟨T283, h283, X283, e283, W283, st283⟩ := stB X282 hx hZ e282 Ar283 (j := (3 : Int32)) hin283 (g := (mkF m 52 #[Rv a1, Iv 3, Iv cc] [(.int ((cc >>> ((8 : Int32) &&& 31)).toInt8.toInt32)), (.int 3), (.ref a1)])) rfl rfl (hb hby d22_52)
  have V283 : Arv Z h283 a1 k1 .byte (8 : Int32) [(.int w0), (.int w1), (.int ((cc >>> ((0 : Int32) &&& 31)).toInt8.toInt32).toInt8.toInt32), (.int ((cc >>> ((8 : Int32) &&& 31)).toInt8.toInt32).toInt8.toInt32), (.int w4), (.int w5), (.int w6), (.int w7)] (.int (0 : Int32)) := Arv.set Ar283 q283 S283 M283 H283 G283 (fits_nar_byte _) W283 3 rfl (Nat.le_of_ble_eq_true rfl)
  have Kp283 : Keep h0 h283 [a1] := Kp280.wr W283 (Or.inl (List.mem_of_getElem? (i := 0) rfl))
  have Zs283 : n0 ≤ h283.size := Nat.le_trans Zs280 (Keep.of_wr W283).1
  have N283 := Fr.snoc X283 N280 g_1
  have f284_0 : Old Z n0 h283 := f281_0.wr W283 g_1
  refine own_by (fun _ k => XS.i2b X282.here hx rfl (hb hby d22_51) rfl (st283 _ k)) ?_
  exact own_retV X283 hx hlk hret (hb hby d22_53) (by rw [e283]; exact ⟨rfl, N283, Kp283, (by have q := V283; simp only [own_b8] at q; exact q)⟩) (by decide) (by decide)
def own_QPC4_2 (Z : State) (a1 : Addr) (k1 : ClassId) (cc : Int32) (w0 w1 w2 w3 w4 w5 w6 w7 : Int32) (h0 : Heap) (n0 : Nat) (v : Option Value) (h : Heap) (L : List Loc) : Prop := v = none ∧ Fr n0 L ∧ Keep h0 h [a1] ∧ Arv Z h a1 k1 .byte (8 : Int32) [(.int w0), (.int w1), (.int w2), (.int w3), (.int (own_lo cc)), (.int (own_hi cc)), (.int w6), (.int w7)] (.int (0 : Int32))
set_option maxRecDepth 65536 in
set_option maxHeartbeats 40000000 in
theorem rmPC4_2 (l : Launch) (Z : State) (a0 : Array Value) (hw : own_W a0 Z) (ws : List Jvm.Cond) (cs : Int32) (gS : Value) (a1 : Addr) (k1 : ClassId) (cc : Int32) (w0 w1 w2 w3 w4 w5 w6 w7 : Int32) (h0 : Heap) (n0 : Nat) (Z0 : n0 ≤ h0.size) (V_env : own_Env Z cs gS) (Od : Old Z n0 h0) (V1 : Arv Z h0 a1 k1 .byte (8 : Int32) [(.int w0), (.int w1), (.int w2), (.int w3), (.int w4), (.int w5), (.int w6), (.int w7)] (.int (0 : Int32))) (g_1 : n0 ≤ a1) : own_Met l Z mn5 jdk_52_method_4_code 3 none ws (own_R 0 0 0 0) #[(.ref a1), (.int (2 : Int32)), (.int cc)] h0 (own_QPC4_2 Z a1 k1 cc w0 w1 w2 w3 w4 w5 w6 w7 h0 n0) := by
  refine own_enter n0 (plainFor_of_name own_pn40) (fun m => ef_RII_3 m a1 (2 : Int32) cc ) (fun p e s m below meth c s₁ hx hby hlk hml hret hown hnm hZ X0 e0 N0 => ?_)
  show own_Fin _ _ _ _ _ _ _ s₁ (mkF m 0 #[Rv a1, Iv 2, Iv cc] [])
  have Kp285 : Keep h0 h0 [a1] := Keep.refl h0 _
  obtain ⟨T286, X286, e286, st286⟩ := getS2 X0 hx hZ hown (host := "") (Or.inl (own_g hw 98 rfl)) Via.refl e0 (V_env.1.ext Od.2) (g := (mkF m 0 #[Rv a1, Iv 2, Iv cc] [])) rfl (hb hby d22_0)
  refine own_by (fun _ k => st286 _ (XS.ifYes X286.here hx rfl (pc0 := 3) (pc' := 28) rfl (hb hby d22_3) rfl ((if0 _ _).trans (feq (by decide : ¬ ((1 : Int32) = (0 : Int32)))).2) (by decide) (by decide) (XS.iloadN X286.here hx rfl (hb hby d22_28) rfl (XS.iconst X286.here hx rfl (hb hby d22_29) (XS.ishl X286.here hx rfl (hb hby d22_30) rfl k))))) ?_
  show own_Fin _ _ _ _ _ _ _ T286 (mkF m 31 #[Rv a1, Iv 2, Iv cc] [(.int ((2 : Int32) <<< ((1 : Int32) &&& 31)))])
  rw [(by decide : ((2 : Int32) <<< ((1 : Int32) &&& 31)) = (4 : Int32))]
  show own_Fin _ _ _ _ _ _ _ T286 (mkF m 31 #[Rv a1, Iv 2, Iv cc] [(.int 4)])
  refine own_by (fun _ k => XS.istoreN X286.here hx rfl (hb hby d22_31) rfl (l' := #[Rv a1, Iv 4, Iv cc]) rfl (XS.aloadN X286.here hx rfl (hb hby d22_32) rfl rfl (XS.iloadN X286.here hx rfl (hb hby d22_33) rfl (XS.iinc X286.here hx rfl (hb hby d22_34) rfl (l' := #[Rv a1, Iv ((4 : Int32) + (1 : Int32)), Iv cc]) rfl k)))) ?_
  show own_Fin _ _ _ _ _ _ _ T286 (mkF m 37 #[Rv a1, Iv ((4 : Int32) + (1 : Int32)), Iv cc] [(.int 4), (.ref a1)])
  rw [(by decide : ((4 : Int32) + (1 : Int32)) = (5 : Int32))]
  show own_Fin _ _ _ _ _ _ _ T286 (mkF m 37 #[Rv a1, Iv 5, Iv cc] [(.int 4), (.ref a1)])
  obtain ⟨T287, X287, e287, st287⟩ := getS2 X286 hx hZ hown (host := "") (Or.inl (own_g hw 99 rfl)) Via.refl e286 (V_env.2.1.ext Od.2) (g := (mkF m 38 #[Rv a1, Iv 5, Iv cc] [(.int cc), (.int 4), (.ref a1)])) rfl (hb hby d22_38)
  obtain ⟨cl288, Ar288, q288, S288, M288, H288, G288⟩ := id V1
  have hin288 : ¬ ((4 : Int32) < 0 ∨ cl288.slots.size ≤ ((4 : Int32)).toNatClampNeg) := inb_of S288 ⟨by decide, by decide⟩
  obtain ⟨T288, h288, X288, e288, W288, st288⟩ := stB X287 hx hZ e287 Ar288 (j := (4 : Int32)) hin288 (g := (mkF m 43 #[Rv a1, Iv 5, Iv cc] [(.int ((cc >>> ((0 : Int32) &&& 31)).toInt8.toInt32)), (.int 4), (.ref a1)])) rfl rfl (hb hby d22_43)
  have V288 : Arv Z h288 a1 k1 .byte (8 : Int32) [(.int w0), (.int w1), (.int w2), (.int w3), (.int ((cc >>> ((0 : Int32) &&& 31)).toInt8.toInt32).toInt8.toInt32), (.int w5), (.int w6), (.int w7)] (.int (0 : Int32)) := Arv.set Ar288 q288 S288 M288 H288 G288 (fits_nar_byte _) W288 4 rfl (Nat.le_of_ble_eq_true rfl)
  have Kp288 : Keep h0 h288 [a1] := Kp285.wr W288 (Or.inl (List.mem_of_getElem? (i := 0) rfl))
  have Zs288 : n0 ≤ h288.size := Nat.le_trans Z0 (Keep.of_wr W288).1
  have N288 := Fr.snoc X288 N0 g_1
  have f289_0 : Old Z n0 h288 := Od.wr W288 g_1
  obtain ⟨T290, X290, e290, st290⟩ := getS2 X288 hx hZ hown (host := "") (Or.inl (own_g hw 100 rfl)) Via.refl e288 (V_env.2.2.1.ext f289_0.2) (g := (mkF m 47 #[Rv a1, Iv 5, Iv cc] [(.int cc), (.int 5), (.ref a1)])) rfl (hb hby d22_47)
  refine own_by (fun _ k => XS.iloadN X286.here hx rfl (hb hby d22_37) rfl (st287 _ (XS.ishr X287.here hx rfl (hb hby d22_41) rfl (XS.i2b X287.here hx rfl (hb hby d22_42) rfl (st288 _ (XS.aloadN X288.here hx rfl (hb hby d22_44) rfl rfl (XS.iloadN X288.here hx rfl (hb hby d22_45) rfl (XS.iloadN X288.here hx rfl (hb hby d22_46) rfl (st290 _ (XS.ishr X290.here hx rfl (hb hby d22_50) rfl k)))))))))) ?_
  show own_Fin _ _ _ _ _ _ _ T290 (mkF m 51 #[Rv a1, Iv 5, Iv cc] [(.int (cc >>> ((8 : Int32) &&& 31))), (.int 5), (.ref a1)])
  obtain ⟨cl291, Ar291, q291, S291, M291, H291, G291⟩ := id V288
  have hin291 : ¬ ((5 : Int32) < 0 ∨ cl291.slots.size ≤ ((5 : Int32)).toNatClampNeg) := inb_of S291 ⟨by decide, by decide⟩
  obtain ⟨T291, h291, X291, e291, W291, st291⟩ := stB X290 hx hZ e290 Ar291 (j := (5 : Int32)) hin291 (g := (mkF m 52 #[Rv a1, Iv 5, Iv cc] [(.int ((cc >>> ((8 : Int32) &&& 31)).toInt8.toInt32)), (.int 5), (.ref a1)])) rfl rfl (hb hby d22_52)
  have V291 : Arv Z h291 a1 k1 .byte (8 : Int32) [(.int w0), (.int w1), (.int w2), (.int w3), (.int ((cc >>> ((0 : Int32) &&& 31)).toInt8.toInt32).toInt8.toInt32), (.int ((cc >>> ((8 : Int32) &&& 31)).toInt8.toInt32).toInt8.toInt32), (.int w6), (.int w7)] (.int (0 : Int32)) := Arv.set Ar291 q291 S291 M291 H291 G291 (fits_nar_byte _) W291 5 rfl (Nat.le_of_ble_eq_true rfl)
  have Kp291 : Keep h0 h291 [a1] := Kp288.wr W291 (Or.inl (List.mem_of_getElem? (i := 0) rfl))
  have Zs291 : n0 ≤ h291.size := Nat.le_trans Zs288 (Keep.of_wr W291).1
  have N291 := Fr.snoc X291 N288 g_1
  have f292_0 : Old Z n0 h291 := f289_0.wr W291 g_1
  refine own_by (fun _ k => XS.i2b X290.here hx rfl (hb hby d22_51) rfl (st291 _ k)) ?_
  exact own_retV X291 hx hlk hret (hb hby d22_53) (by rw [e291]; exact ⟨rfl, N291, Kp291, (by have q := V291; simp only [own_b8] at q; exact q)⟩) (by decide) (by decide)
def own_QPC4_3 (Z : State) (a1 : Addr) (k1 : ClassId) (cc : Int32) (w0 w1 w2 w3 w4 w5 w6 w7 : Int32) (h0 : Heap) (n0 : Nat) (v : Option Value) (h : Heap) (L : List Loc) : Prop := v = none ∧ Fr n0 L ∧ Keep h0 h [a1] ∧ Arv Z h a1 k1 .byte (8 : Int32) [(.int w0), (.int w1), (.int w2), (.int w3), (.int w4), (.int w5), (.int (own_lo cc)), (.int (own_hi cc))] (.int (0 : Int32))
set_option maxRecDepth 65536 in
set_option maxHeartbeats 40000000 in
theorem rmPC4_3 (l : Launch) (Z : State) (a0 : Array Value) (hw : own_W a0 Z) (ws : List Jvm.Cond) (cs : Int32) (gS : Value) (a1 : Addr) (k1 : ClassId) (cc : Int32) (w0 w1 w2 w3 w4 w5 w6 w7 : Int32) (h0 : Heap) (n0 : Nat) (Z0 : n0 ≤ h0.size) (V_env : own_Env Z cs gS) (Od : Old Z n0 h0) (V1 : Arv Z h0 a1 k1 .byte (8 : Int32) [(.int w0), (.int w1), (.int w2), (.int w3), (.int w4), (.int w5), (.int w6), (.int w7)] (.int (0 : Int32))) (g_1 : n0 ≤ a1) : own_Met l Z mn5 jdk_52_method_4_code 3 none ws (own_R 0 0 0 0) #[(.ref a1), (.int (3 : Int32)), (.int cc)] h0 (own_QPC4_3 Z a1 k1 cc w0 w1 w2 w3 w4 w5 w6 w7 h0 n0) := by
  refine own_enter n0 (plainFor_of_name own_pn40) (fun m => ef_RII_3 m a1 (3 : Int32) cc ) (fun p e s m below meth c s₁ hx hby hlk hml hret hown hnm hZ X0 e0 N0 => ?_)
  show own_Fin _ _ _ _ _ _ _ s₁ (mkF m 0 #[Rv a1, Iv 3, Iv cc] [])
  have Kp293 : Keep h0 h0 [a1] := Keep.refl h0 _
  obtain ⟨T294, X294, e294, st294⟩ := getS2 X0 hx hZ hown (host := "") (Or.inl (own_g hw 98 rfl)) Via.refl e0 (V_env.1.ext Od.2) (g := (mkF m 0 #[Rv a1, Iv 3, Iv cc] [])) rfl (hb hby d22_0)
  refine own_by (fun _ k => st294 _ (XS.ifYes X294.here hx rfl (pc0 := 3) (pc' := 28) rfl (hb hby d22_3) rfl ((if0 _ _).trans (feq (by decide : ¬ ((1 : Int32) = (0 : Int32)))).2) (by decide) (by decide) (XS.iloadN X294.here hx rfl (hb hby d22_28) rfl (XS.iconst X294.here hx rfl (hb hby d22_29) (XS.ishl X294.here hx rfl (hb hby d22_30) rfl k))))) ?_
  show own_Fin _ _ _ _ _ _ _ T294 (mkF m 31 #[Rv a1, Iv 3, Iv cc] [(.int ((3 : Int32) <<< ((1 : Int32) &&& 31)))])
  rw [(by decide : ((3 : Int32) <<< ((1 : Int32) &&& 31)) = (6 : Int32))]
  show own_Fin _ _ _ _ _ _ _ T294 (mkF m 31 #[Rv a1, Iv 3, Iv cc] [(.int 6)])
  refine own_by (fun _ k => XS.istoreN X294.here hx rfl (hb hby d22_31) rfl (l' := #[Rv a1, Iv 6, Iv cc]) rfl (XS.aloadN X294.here hx rfl (hb hby d22_32) rfl rfl (XS.iloadN X294.here hx rfl (hb hby d22_33) rfl (XS.iinc X294.here hx rfl (hb hby d22_34) rfl (l' := #[Rv a1, Iv ((6 : Int32) + (1 : Int32)), Iv cc]) rfl k)))) ?_
  show own_Fin _ _ _ _ _ _ _ T294 (mkF m 37 #[Rv a1, Iv ((6 : Int32) + (1 : Int32)), Iv cc] [(.int 6), (.ref a1)])
  rw [(by decide : ((6 : Int32) + (1 : Int32)) = (7 : Int32))]
  show own_Fin _ _ _ _ _ _ _ T294 (mkF m 37 #[Rv a1, Iv 7, Iv cc] [(.int 6), (.ref a1)])
  obtain ⟨T295, X295, e295, st295⟩ := getS2 X294 hx hZ hown (host := "") (Or.inl (own_g hw 99 rfl)) Via.refl e294 (V_env.2.1.ext Od.2) (g := (mkF m 38 #[Rv a1, Iv 7, Iv cc] [(.int cc), (.int 6), (.ref a1)])) rfl (hb hby d22_38)
  obtain ⟨cl296, Ar296, q296, S296, M296, H296, G296⟩ := id V1
  have hin296 : ¬ ((6 : Int32) < 0 ∨ cl296.slots.size ≤ ((6 : Int32)).toNatClampNeg) := inb_of S296 ⟨by decide, by decide⟩
  obtain ⟨T296, h296, X296, e296, W296, st296⟩ := stB X295 hx hZ e295 Ar296 (j := (6 : Int32)) hin296 (g := (mkF m 43 #[Rv a1, Iv 7, Iv cc] [(.int ((cc >>> ((0 : Int32) &&& 31)).toInt8.toInt32)), (.int 6), (.ref a1)])) rfl rfl (hb hby d22_43)
  have V296 : Arv Z h296 a1 k1 .byte (8 : Int32) [(.int w0), (.int w1), (.int w2), (.int w3), (.int w4), (.int w5), (.int ((cc >>> ((0 : Int32) &&& 31)).toInt8.toInt32).toInt8.toInt32), (.int w7)] (.int (0 : Int32)) := Arv.set Ar296 q296 S296 M296 H296 G296 (fits_nar_byte _) W296 6 rfl (Nat.le_of_ble_eq_true rfl)
  have Kp296 : Keep h0 h296 [a1] := Kp293.wr W296 (Or.inl (List.mem_of_getElem? (i := 0) rfl))
  have Zs296 : n0 ≤ h296.size := Nat.le_trans Z0 (Keep.of_wr W296).1
  have N296 := Fr.snoc X296 N0 g_1
  have f297_0 : Old Z n0 h296 := Od.wr W296 g_1
  obtain ⟨T298, X298, e298, st298⟩ := getS2 X296 hx hZ hown (host := "") (Or.inl (own_g hw 100 rfl)) Via.refl e296 (V_env.2.2.1.ext f297_0.2) (g := (mkF m 47 #[Rv a1, Iv 7, Iv cc] [(.int cc), (.int 7), (.ref a1)])) rfl (hb hby d22_47)
  refine own_by (fun _ k => XS.iloadN X294.here hx rfl (hb hby d22_37) rfl (st295 _ (XS.ishr X295.here hx rfl (hb hby d22_41) rfl (XS.i2b X295.here hx rfl (hb hby d22_42) rfl (st296 _ (XS.aloadN X296.here hx rfl (hb hby d22_44) rfl rfl (XS.iloadN X296.here hx rfl (hb hby d22_45) rfl (XS.iloadN X296.here hx rfl (hb hby d22_46) rfl (st298 _ (XS.ishr X298.here hx rfl (hb hby d22_50) rfl k)))))))))) ?_
  show own_Fin _ _ _ _ _ _ _ T298 (mkF m 51 #[Rv a1, Iv 7, Iv cc] [(.int (cc >>> ((8 : Int32) &&& 31))), (.int 7), (.ref a1)])
  obtain ⟨cl299, Ar299, q299, S299, M299, H299, G299⟩ := id V296
  have hin299 : ¬ ((7 : Int32) < 0 ∨ cl299.slots.size ≤ ((7 : Int32)).toNatClampNeg) := inb_of S299 ⟨by decide, by decide⟩
  obtain ⟨T299, h299, X299, e299, W299, st299⟩ := stB X298 hx hZ e298 Ar299 (j := (7 : Int32)) hin299 (g := (mkF m 52 #[Rv a1, Iv 7, Iv cc] [(.int ((cc >>> ((8 : Int32) &&& 31)).toInt8.toInt32)), (.int 7), (.ref a1)])) rfl rfl (hb hby d22_52)
  have V299 : Arv Z h299 a1 k1 .byte (8 : Int32) [(.int w0), (.int w1), (.int w2), (.int w3), (.int w4), (.int w5), (.int ((cc >>> ((0 : Int32) &&& 31)).toInt8.toInt32).toInt8.toInt32), (.int ((cc >>> ((8 : Int32) &&& 31)).toInt8.toInt32).toInt8.toInt32)] (.int (0 : Int32)) := Arv.set Ar299 q299 S299 M299 H299 G299 (fits_nar_byte _) W299 7 rfl (Nat.le_of_ble_eq_true rfl)
  have Kp299 : Keep h0 h299 [a1] := Kp296.wr W299 (Or.inl (List.mem_of_getElem? (i := 0) rfl))
  have Zs299 : n0 ≤ h299.size := Nat.le_trans Zs296 (Keep.of_wr W299).1
  have N299 := Fr.snoc X299 N296 g_1
  have f300_0 : Old Z n0 h299 := f297_0.wr W299 g_1
  refine own_by (fun _ k => XS.i2b X298.here hx rfl (hb hby d22_51) rfl (st299 _ k)) ?_
  exact own_retV X299 hx hlk hret (hb hby d22_53) (by rw [e299]; exact ⟨rfl, N299, Kp299, (by have q := V299; simp only [own_b8] at q; exact q)⟩) (by decide) (by decide)
def own_QTB4 (Z : State) (x0 x1 x2 x3 : Int32) (h0 : Heap) (n0 : Nat) (v : Option Value) (h : Heap) (L : List Loc) : Prop := ∃ (a : Addr) (k : ClassId), v = some (.ref a) ∧ Fr n0 L ∧ Keep h0 h [] ∧ h0.size ≤ a ∧ Arv Z h a k .byte (8 : Int32) [(.int (own_lo x0)), (.int (own_hi x0)), (.int (own_lo x1)), (.int (own_hi x1)), (.int (own_lo x2)), (.int (own_hi x2)), (.int (own_lo x3)), (.int (own_hi x3))] (.int (0 : Int32))
set_option maxRecDepth 65536 in
set_option maxHeartbeats 40000000 in
theorem rmTB4 (l : Launch) (Z : State) (a0 : Array Value) (hw : own_W a0 Z) (ws : List Jvm.Cond) (cs : Int32) (gS : Value) (a1 : Addr) (kc : ClassId) (x0 x1 x2 x3 : Int32) (h0 : Heap) (n0 : Nat) (Z0 : n0 ≤ h0.size) (V_env : own_Env Z cs gS) (Od : Old Z n0 h0) (V1 : Arv Z h0 a1 kc .char (4 : Int32) [(.int x0), (.int x1), (.int x2), (.int x3)] (.int (0 : Int32))) : own_Met l Z mn6 jdk_52_method_14_code 5 (some (.array .byte)) ws (own_R 2 1 8 24) #[(.ref a1), (.int (0 : Int32)), (.int (4 : Int32))] h0 (own_QTB4 Z x0 x1 x2 x3 h0 n0) := by
  refine own_enter n0 (plainFor_of_name own_pn40) (fun m => ef_RII_5 m a1 (0 : Int32) (4 : Int32) ) (fun p e s m below meth c s₁ hx hby hlk hml hret hown hnm hZ X0 e0 N0 => ?_)
  show own_Fin _ _ _ _ _ _ _ s₁ (mkF m 0 #[Rv a1, Iv 0, Iv 4, Uv, Uv] [])
  have Kp301 : Keep h0 h0 [] := Keep.refl h0 _
  obtain ⟨_, _, ⟨T302, L302, k302, n302⟩, -, X302, ⟨Lc302, hQ302, l302, y302, z302⟩, st302⟩ := Jvm.LawKit.callS X0 hx (y := mn4) hown (mvT hZ (own_g hw 88 rfl)) (mvT hZ (own_g hw 89 rfl)) (mvT hZ (own_g hw 73 rfl)) (mvT hZ (own_g hw 90 rfl)) (by decide) (backOf (W := 0) (rmNBF4 l Z a0 hw []  h0 n0 Z0 ) hZ (own_g hw 90 rfl) (own_g hw 73 rfl) (by decide) (by decide)) (g := (mkF m 1 #[Rv a1, Iv 0, Iv 4, Uv, Uv] [(.int 4)])) rfl (by rw [hml]; rfl) (argsL := [(.int (4 : Int32))]) (rest := []) (lenOf own_pd81 rfl) rfl (own_z rfl) (hb hby d19_1) (fun _ _ => ⟨rfl, e0, (by decide : 0 + 1 ≤ _), (by decide : 0 + 8 ≤ _)⟩)
  dsimp only [Pt.U, Pt.locs, Pt.cells, Pt.slots] at X302 l302 y302 z302 st302 hQ302
  subst l302 y302 z302
  obtain ⟨b302, k302, rfl, Nq302, K302, ge302, V302⟩ := hQ302
  have N302 := Fr.app N0 Nq302
  have Zs302 : n0 ≤ T302.heap.size := Nat.le_trans Z0 K302.1
  have Kp302 : Keep h0 T302.heap [] := Kp301.trans K302 all0
  have f303_0 : Old Z n0 T302.heap := Od.keep K302 all0
  have f303_1 : Arv Z T302.heap a1 kc .char (4 : Int32) [(.int x0), (.int x1), (.int x2), (.int x3)] (.int (0 : Int32)) := V1.keep K302 nin0
  have ne302_a1 : a1 ≠ b302 := Nat.ne_of_lt (Nat.lt_of_lt_of_le V1.lt ge302)
  have gf302 : n0 ≤ b302 := Nat.le_trans Z0 ge302
  have sz_b302 : h0.size ≤ b302 := Nat.le_trans Kp301.1 ge302
  refine own_by (fun _ k => XS.iloadN X0.here hx rfl (hb hby d19_0) rfl (st302 _ (XS.astoreN X302.here hx rfl (hb hby d19_4) rfl rfl (l' := #[Rv a1, Iv 0, Iv 4, Rv b302, Uv]) rfl (XS.iconst X302.here hx rfl (hb hby d19_5) (XS.istore X302.here hx rfl (hb hby d19_6) rfl (l' := #[Rv a1, Iv 0, Iv 4, Rv b302, Iv 0]) rfl (XS.iload X302.here hx rfl (hb hby d19_8) rfl (XS.iloadN X302.here hx rfl (hb hby d19_10) rfl (XS.icmpNo X302.here hx rfl (hb hby d19_11) rfl (tlt (by decide : (0 : Int32) < (4 : Int32))).2.1 (XS.aloadN X302.here hx rfl (hb hby d19_14) rfl rfl (XS.iload X302.here hx rfl (hb hby d19_15) rfl k)))))))))) ?_
  show own_Fin _ _ _ _ _ _ _ T302 (mkF m 17 #[Rv a1, Iv 0, Iv 4, Rv b302, Iv 0] [(.int 0), (.ref b302)])
  obtain ⟨cl304, Ar304, -, S304, M304, H304, -⟩ := id f303_1
  have hin304 : ¬ ((0 : Int32) < 0 ∨ cl304.slots.size ≤ ((0 : Int32)).toNatClampNeg) := inb_of S304 ⟨by decide, by decide⟩
  have hat304 : cl304.slots[((0 : Int32)).toNatClampNeg]? = some (.int x0) := Has.at H304 hin304 rfl
  obtain ⟨_, _, ⟨T305, L305, k305, n305⟩, -, X305, ⟨Lc305, hQ305, l305, y305, z305⟩, st305⟩ := Jvm.LawKit.callS X302 hx (y := mn5) hown (mvT hZ (own_g hw 95 rfl)) (mvT hZ (own_g hw 96 rfl)) (mvT hZ (own_g hw 73 rfl)) (mvT hZ (own_g hw 97 rfl)) (by decide) (backOf (W := 0) (rmPC4_0 l Z a0 hw [] cs gS b302 k302 x0 (0 : Int32) (0 : Int32) (0 : Int32) (0 : Int32) (0 : Int32) (0 : Int32) (0 : Int32) (0 : Int32) T302.heap n0 Zs302 V_env f303_0 V302 gf302) hZ (own_g hw 97 rfl) (own_g hw 73 rfl) (by decide) (by decide)) (g := (mkF m 20 #[Rv a1, Iv 0, Iv 4, Rv b302, Iv 0] [(.int x0), (.int 0), (.ref b302)])) rfl (by rw [hml]; rfl) (argsL := [(.ref b302), (.int (0 : Int32)), (.int x0)]) (rest := []) (lenOf own_pd94 rfl) rfl (own_z rfl) (hb hby d19_20) (fun _ _ => ⟨rfl, rfl, (by decide : 1 + 0 ≤ _), (by decide : 8 + 0 ≤ _)⟩)
  dsimp only [Pt.U, Pt.locs, Pt.cells, Pt.slots] at X305 l305 y305 z305 st305 hQ305
  subst l305 y305 z305
  obtain ⟨rfl, Nq305, K305, Vr305⟩ := hQ305
  have N305 := Fr.app N302 Nq305
  have Zs305 : n0 ≤ T305.heap.size := Nat.le_trans Zs302 K305.1
  have Kp305 : Keep h0 T305.heap [] := Kp302.trans K305 (allS (Or.inr sz_b302) all0)
  have f306_0 : Old Z n0 T305.heap := f303_0.keep K305 (allS gf302 all0)
  have f306_1 : Arv Z T305.heap a1 kc .char (4 : Int32) [(.int x0), (.int x1), (.int x2), (.int x3)] (.int (0 : Int32)) := f303_1.keep K305 (ninS ne302_a1 nin0)
  refine own_by (fun _ k => XS.aloadN X302.here hx rfl (hb hby d19_17) rfl rfl (XS.iloadN X302.here hx rfl (hb hby d19_18) rfl (X302.caload hx (j := (0 : Int32)) (v := (.int x0)) Ar304.1 (State.isArrayOf_alike hZ.alike Ar304.2.1) Ar304.2.2 hin304 hat304 (g := (mkF m 19 #[Rv a1, Iv 0, Iv 4, Rv b302, Iv 0] [(.int 0), (.ref a1), (.int 0), (.ref b302)])) rfl rfl (hb hby d19_19) _ (st305 _ (XS.iinc X305.here hx rfl (hb hby d19_23) rfl (l' := #[Rv a1, Iv ((0 : Int32) + (1 : Int32)), Iv 4, Rv b302, Iv 0]) rfl k))))) ?_
  show own_Fin _ _ _ _ _ _ _ T305 (mkF m 26 #[Rv a1, Iv ((0 : Int32) + (1 : Int32)), Iv 4, Rv b302, Iv 0] [])
  rw [(by decide : ((0 : Int32) + (1 : Int32)) = (1 : Int32))]
  show own_Fin _ _ _ _ _ _ _ T305 (mkF m 26 #[Rv a1, Iv 1, Iv 4, Rv b302, Iv 0] [])
  refine own_by (fun _ k => XS.iinc X305.here hx rfl (hb hby d19_26) rfl (l' := #[Rv a1, Iv 1, Iv 4, Rv b302, Iv ((0 : Int32) + (1 : Int32))]) rfl k) ?_
  show own_Fin _ _ _ _ _ _ _ T305 (mkF m 29 #[Rv a1, Iv 1, Iv 4, Rv b302, Iv ((0 : Int32) + (1 : Int32))] [])
  rw [(by decide : ((0 : Int32) + (1 : Int32)) = (1 : Int32))]
  show own_Fin _ _ _ _ _ _ _ T305 (mkF m 29 #[Rv a1, Iv 1, Iv 4, Rv b302, Iv 1] [])
  obtain ⟨cl307, Ar307, -, S307, M307, H307, -⟩ := id f306_1
  have hin307 : ¬ ((1 : Int32) < 0 ∨ cl307.slots.size ≤ ((1 : Int32)).toNatClampNeg) := inb_of S307 ⟨by decide, by decide⟩
  have hat307 : cl307.slots[((1 : Int32)).toNatClampNeg]? = some (.int x1) := Has.at H307 hin307 rfl
  obtain ⟨_, _, ⟨T308, L308, k308, n308⟩, -, X308, ⟨Lc308, hQ308, l308, y308, z308⟩, st308⟩ := Jvm.LawKit.callS X305 hx (y := mn5) hown (mvT hZ (own_g hw 95 rfl)) (mvT hZ (own_g hw 96 rfl)) (mvT hZ (own_g hw 73 rfl)) (mvT hZ (own_g hw 97 rfl)) (by decide) (backOf (W := 0) (rmPC4_1 l Z a0 hw [] cs gS b302 k302 x1 (own_lo x0) (own_hi x0) (0 : Int32) (0 : Int32) (0 : Int32) (0 : Int32) (0 : Int32) (0 : Int32) T305.heap n0 Zs305 V_env f306_0 Vr305 gf302) hZ (own_g hw 97 rfl) (own_g hw 73 rfl) (by decide) (by decide)) (g := (mkF m 20 #[Rv a1, Iv 1, Iv 4, Rv b302, Iv 1] [(.int x1), (.int 1), (.ref b302)])) rfl (by rw [hml]; rfl) (argsL := [(.ref b302), (.int (1 : Int32)), (.int x1)]) (rest := []) (lenOf own_pd94 rfl) rfl (own_z rfl) (hb hby d19_20) (fun _ _ => ⟨rfl, rfl, (by decide : 1 + 0 ≤ _), (by decide : 8 + 0 ≤ _)⟩)
  dsimp only [Pt.U, Pt.locs, Pt.cells, Pt.slots] at X308 l308 y308 z308 st308 hQ308
  subst l308 y308 z308
  obtain ⟨rfl, Nq308, K308, Vr308⟩ := hQ308
  have N308 := Fr.app N305 Nq308
  have Zs308 : n0 ≤ T308.heap.size := Nat.le_trans Zs305 K308.1
  have Kp308 : Keep h0 T308.heap [] := Kp305.trans K308 (allS (Or.inr sz_b302) all0)
  have f309_0 : Old Z n0 T308.heap := f306_0.keep K308 (allS gf302 all0)
  have f309_1 : Arv Z T308.heap a1 kc .char (4 : Int32) [(.int x0), (.int x1), (.int x2), (.int x3)] (.int (0 : Int32)) := f306_1.keep K308 (ninS ne302_a1 nin0)
  refine own_by (fun _ k => XS.goto X305.here hx rfl (pc0 := 29) (pc' := 8) rfl (hb hby d19_29) (by decide) (by decide) (XS.iload X305.here hx rfl (hb hby d19_8) rfl (XS.iloadN X305.here hx rfl (hb hby d19_10) rfl (XS.icmpNo X305.here hx rfl (hb hby d19_11) rfl (tlt (by decide : (1 : Int32) < (4 : Int32))).2.1 (XS.aloadN X305.here hx rfl (hb hby d19_14) rfl rfl (XS.iload X305.here hx rfl (hb hby d19_15) rfl (XS.aloadN X305.here hx rfl (hb hby d19_17) rfl rfl (XS.iloadN X305.here hx rfl (hb hby d19_18) rfl (X305.caload hx (j := (1 : Int32)) (v := (.int x1)) Ar307.1 (State.isArrayOf_alike hZ.alike Ar307.2.1) Ar307.2.2 hin307 hat307 (g := (mkF m 19 #[Rv a1, Iv 1, Iv 4, Rv b302, Iv 1] [(.int 1), (.ref a1), (.int 1), (.ref b302)])) rfl rfl (hb hby d19_19) _ (st308 _ k)))))))))) ?_
  show own_Fin _ _ _ _ _ _ _ T308 (mkF m 23 #[Rv a1, Iv 1, Iv 4, Rv b302, Iv 1] [])
  refine own_by (fun _ k => XS.iinc X308.here hx rfl (hb hby d19_23) rfl (l' := #[Rv a1, Iv ((1 : Int32) + (1 : Int32)), Iv 4, Rv b302, Iv 1]) rfl k) ?_
  show own_Fin _ _ _ _ _ _ _ T308 (mkF m 26 #[Rv a1, Iv ((1 : Int32) + (1 : Int32)), Iv 4, Rv b302, Iv 1] [])
  rw [(by decide : ((1 : Int32) + (1 : Int32)) = (2 : Int32))]
  show own_Fin _ _ _ _ _ _ _ T308 (mkF m 26 #[Rv a1, Iv 2, Iv 4, Rv b302, Iv 1] [])
  refine own_by (fun _ k => XS.iinc X308.here hx rfl (hb hby d19_26) rfl (l' := #[Rv a1, Iv 2, Iv 4, Rv b302, Iv ((1 : Int32) + (1 : Int32))]) rfl k) ?_
  show own_Fin _ _ _ _ _ _ _ T308 (mkF m 29 #[Rv a1, Iv 2, Iv 4, Rv b302, Iv ((1 : Int32) + (1 : Int32))] [])
  rw [(by decide : ((1 : Int32) + (1 : Int32)) = (2 : Int32))]
  show own_Fin _ _ _ _ _ _ _ T308 (mkF m 29 #[Rv a1, Iv 2, Iv 4, Rv b302, Iv 2] [])
  obtain ⟨cl310, Ar310, -, S310, M310, H310, -⟩ := id f309_1
  have hin310 : ¬ ((2 : Int32) < 0 ∨ cl310.slots.size ≤ ((2 : Int32)).toNatClampNeg) := inb_of S310 ⟨by decide, by decide⟩
  have hat310 : cl310.slots[((2 : Int32)).toNatClampNeg]? = some (.int x2) := Has.at H310 hin310 rfl
  obtain ⟨_, _, ⟨T311, L311, k311, n311⟩, -, X311, ⟨Lc311, hQ311, l311, y311, z311⟩, st311⟩ := Jvm.LawKit.callS X308 hx (y := mn5) hown (mvT hZ (own_g hw 95 rfl)) (mvT hZ (own_g hw 96 rfl)) (mvT hZ (own_g hw 73 rfl)) (mvT hZ (own_g hw 97 rfl)) (by decide) (backOf (W := 0) (rmPC4_2 l Z a0 hw [] cs gS b302 k302 x2 (own_lo x0) (own_hi x0) (own_lo x1) (own_hi x1) (0 : Int32) (0 : Int32) (0 : Int32) (0 : Int32) T308.heap n0 Zs308 V_env f309_0 Vr308 gf302) hZ (own_g hw 97 rfl) (own_g hw 73 rfl) (by decide) (by decide)) (g := (mkF m 20 #[Rv a1, Iv 2, Iv 4, Rv b302, Iv 2] [(.int x2), (.int 2), (.ref b302)])) rfl (by rw [hml]; rfl) (argsL := [(.ref b302), (.int (2 : Int32)), (.int x2)]) (rest := []) (lenOf own_pd94 rfl) rfl (own_z rfl) (hb hby d19_20) (fun _ _ => ⟨rfl, rfl, (by decide : 1 + 0 ≤ _), (by decide : 8 + 0 ≤ _)⟩)
  dsimp only [Pt.U, Pt.locs, Pt.cells, Pt.slots] at X311 l311 y311 z311 st311 hQ311
  subst l311 y311 z311
  obtain ⟨rfl, Nq311, K311, Vr311⟩ := hQ311
  have N311 := Fr.app N308 Nq311
  have Zs311 : n0 ≤ T311.heap.size := Nat.le_trans Zs308 K311.1
  have Kp311 : Keep h0 T311.heap [] := Kp308.trans K311 (allS (Or.inr sz_b302) all0)
  have f312_0 : Old Z n0 T311.heap := f309_0.keep K311 (allS gf302 all0)
  have f312_1 : Arv Z T311.heap a1 kc .char (4 : Int32) [(.int x0), (.int x1), (.int x2), (.int x3)] (.int (0 : Int32)) := f309_1.keep K311 (ninS ne302_a1 nin0)
  refine own_by (fun _ k => XS.goto X308.here hx rfl (pc0 := 29) (pc' := 8) rfl (hb hby d19_29) (by decide) (by decide) (XS.iload X308.here hx rfl (hb hby d19_8) rfl (XS.iloadN X308.here hx rfl (hb hby d19_10) rfl (XS.icmpNo X308.here hx rfl (hb hby d19_11) rfl (tlt (by decide : (2 : Int32) < (4 : Int32))).2.1 (XS.aloadN X308.here hx rfl (hb hby d19_14) rfl rfl (XS.iload X308.here hx rfl (hb hby d19_15) rfl (XS.aloadN X308.here hx rfl (hb hby d19_17) rfl rfl (XS.iloadN X308.here hx rfl (hb hby d19_18) rfl (X308.caload hx (j := (2 : Int32)) (v := (.int x2)) Ar310.1 (State.isArrayOf_alike hZ.alike Ar310.2.1) Ar310.2.2 hin310 hat310 (g := (mkF m 19 #[Rv a1, Iv 2, Iv 4, Rv b302, Iv 2] [(.int 2), (.ref a1), (.int 2), (.ref b302)])) rfl rfl (hb hby d19_19) _ (st311 _ k)))))))))) ?_
  show own_Fin _ _ _ _ _ _ _ T311 (mkF m 23 #[Rv a1, Iv 2, Iv 4, Rv b302, Iv 2] [])
  refine own_by (fun _ k => XS.iinc X311.here hx rfl (hb hby d19_23) rfl (l' := #[Rv a1, Iv ((2 : Int32) + (1 : Int32)), Iv 4, Rv b302, Iv 2]) rfl k) ?_
  show own_Fin _ _ _ _ _ _ _ T311 (mkF m 26 #[Rv a1, Iv ((2 : Int32) + (1 : Int32)), Iv 4, Rv b302, Iv 2] [])
  rw [(by decide : ((2 : Int32) + (1 : Int32)) = (3 : Int32))]
  show own_Fin _ _ _ _ _ _ _ T311 (mkF m 26 #[Rv a1, Iv 3, Iv 4, Rv b302, Iv 2] [])
  refine own_by (fun _ k => XS.iinc X311.here hx rfl (hb hby d19_26) rfl (l' := #[Rv a1, Iv 3, Iv 4, Rv b302, Iv ((2 : Int32) + (1 : Int32))]) rfl k) ?_
  show own_Fin _ _ _ _ _ _ _ T311 (mkF m 29 #[Rv a1, Iv 3, Iv 4, Rv b302, Iv ((2 : Int32) + (1 : Int32))] [])
  rw [(by decide : ((2 : Int32) + (1 : Int32)) = (3 : Int32))]
  show own_Fin _ _ _ _ _ _ _ T311 (mkF m 29 #[Rv a1, Iv 3, Iv 4, Rv b302, Iv 3] [])
  obtain ⟨cl313, Ar313, -, S313, M313, H313, -⟩ := id f312_1
  have hin313 : ¬ ((3 : Int32) < 0 ∨ cl313.slots.size ≤ ((3 : Int32)).toNatClampNeg) := inb_of S313 ⟨by decide, by decide⟩
  have hat313 : cl313.slots[((3 : Int32)).toNatClampNeg]? = some (.int x3) := Has.at H313 hin313 rfl
  obtain ⟨_, _, ⟨T314, L314, k314, n314⟩, -, X314, ⟨Lc314, hQ314, l314, y314, z314⟩, st314⟩ := Jvm.LawKit.callS X311 hx (y := mn5) hown (mvT hZ (own_g hw 95 rfl)) (mvT hZ (own_g hw 96 rfl)) (mvT hZ (own_g hw 73 rfl)) (mvT hZ (own_g hw 97 rfl)) (by decide) (backOf (W := 0) (rmPC4_3 l Z a0 hw [] cs gS b302 k302 x3 (own_lo x0) (own_hi x0) (own_lo x1) (own_hi x1) (own_lo x2) (own_hi x2) (0 : Int32) (0 : Int32) T311.heap n0 Zs311 V_env f312_0 Vr311 gf302) hZ (own_g hw 97 rfl) (own_g hw 73 rfl) (by decide) (by decide)) (g := (mkF m 20 #[Rv a1, Iv 3, Iv 4, Rv b302, Iv 3] [(.int x3), (.int 3), (.ref b302)])) rfl (by rw [hml]; rfl) (argsL := [(.ref b302), (.int (3 : Int32)), (.int x3)]) (rest := []) (lenOf own_pd94 rfl) rfl (own_z rfl) (hb hby d19_20) (fun _ _ => ⟨rfl, rfl, (by decide : 1 + 0 ≤ _), (by decide : 8 + 0 ≤ _)⟩)
  dsimp only [Pt.U, Pt.locs, Pt.cells, Pt.slots] at X314 l314 y314 z314 st314 hQ314
  subst l314 y314 z314
  obtain ⟨rfl, Nq314, K314, Vr314⟩ := hQ314
  have N314 := Fr.app N311 Nq314
  have Zs314 : n0 ≤ T314.heap.size := Nat.le_trans Zs311 K314.1
  have Kp314 : Keep h0 T314.heap [] := Kp311.trans K314 (allS (Or.inr sz_b302) all0)
  have f315_0 : Old Z n0 T314.heap := f312_0.keep K314 (allS gf302 all0)
  have f315_1 : Arv Z T314.heap a1 kc .char (4 : Int32) [(.int x0), (.int x1), (.int x2), (.int x3)] (.int (0 : Int32)) := f312_1.keep K314 (ninS ne302_a1 nin0)
  refine own_by (fun _ k => XS.goto X311.here hx rfl (pc0 := 29) (pc' := 8) rfl (hb hby d19_29) (by decide) (by decide) (XS.iload X311.here hx rfl (hb hby d19_8) rfl (XS.iloadN X311.here hx rfl (hb hby d19_10) rfl (XS.icmpNo X311.here hx rfl (hb hby d19_11) rfl (tlt (by decide : (3 : Int32) < (4 : Int32))).2.1 (XS.aloadN X311.here hx rfl (hb hby d19_14) rfl rfl (XS.iload X311.here hx rfl (hb hby d19_15) rfl (XS.aloadN X311.here hx rfl (hb hby d19_17) rfl rfl (XS.iloadN X311.here hx rfl (hb hby d19_18) rfl (X311.caload hx (j := (3 : Int32)) (v := (.int x3)) Ar313.1 (State.isArrayOf_alike hZ.alike Ar313.2.1) Ar313.2.2 hin313 hat313 (g := (mkF m 19 #[Rv a1, Iv 3, Iv 4, Rv b302, Iv 3] [(.int 3), (.ref a1), (.int 3), (.ref b302)])) rfl rfl (hb hby d19_19) _ (st314 _ k)))))))))) ?_
  show own_Fin _ _ _ _ _ _ _ T314 (mkF m 23 #[Rv a1, Iv 3, Iv 4, Rv b302, Iv 3] [])
  refine own_by (fun _ k => XS.iinc X314.here hx rfl (hb hby d19_23) rfl (l' := #[Rv a1, Iv ((3 : Int32) + (1 : Int32)), Iv 4, Rv b302, Iv 3]) rfl k) ?_
  show own_Fin _ _ _ _ _ _ _ T314 (mkF m 26 #[Rv a1, Iv ((3 : Int32) + (1 : Int32)), Iv 4, Rv b302, Iv 3] [])
  rw [(by decide : ((3 : Int32) + (1 : Int32)) = (4 : Int32))]
  show own_Fin _ _ _ _ _ _ _ T314 (mkF m 26 #[Rv a1, Iv 4, Iv 4, Rv b302, Iv 3] [])
  refine own_by (fun _ k => XS.iinc X314.here hx rfl (hb hby d19_26) rfl (l' := #[Rv a1, Iv 4, Iv 4, Rv b302, Iv ((3 : Int32) + (1 : Int32))]) rfl k) ?_
  show own_Fin _ _ _ _ _ _ _ T314 (mkF m 29 #[Rv a1, Iv 4, Iv 4, Rv b302, Iv ((3 : Int32) + (1 : Int32))] [])
  rw [(by decide : ((3 : Int32) + (1 : Int32)) = (4 : Int32))]
  show own_Fin _ _ _ _ _ _ _ T314 (mkF m 29 #[Rv a1, Iv 4, Iv 4, Rv b302, Iv 4] [])
  refine own_by (fun _ k => XS.goto X314.here hx rfl (pc0 := 29) (pc' := 8) rfl (hb hby d19_29) (by decide) (by decide) (XS.iload X314.here hx rfl (hb hby d19_8) rfl (XS.iloadN X314.here hx rfl (hb hby d19_10) rfl (XS.icmpYes X314.here hx rfl (pc0 := 11) (pc' := 32) rfl (hb hby d19_11) rfl (flt (by decide : ¬ ((4 : Int32) < (4 : Int32)))).2.1 (by decide) (by decide) (XS.aloadN X314.here hx rfl (hb hby d19_32) rfl rfl k))))) ?_
  exact own_retA X314 hx hlk (t := (.array .byte)) hret rfl rfl rfl (hb hby d19_33) ⟨_, _, rfl, N314, Kp314, sz_b302, Vr314⟩ (by decide) (by decide)
def own_QrmGC4_0 (x0 x1 x2 x3 : Int32) (h0 : Heap) (n0 : Nat) (v : Option Value) (h : Heap) (L : List Loc) : Prop := v = some (.int x0) ∧ Fr n0 L ∧ h = h0
set_option maxRecDepth 65536 in
set_option maxHeartbeats 40000000 in
theorem rmGC4_0 (l : Launch) (Z : State) (a0 : Array Value) (hw : own_W a0 Z) (ws : List Jvm.Cond) (cs : Int32) (gS : Value) (a1 : Addr) (k1 : ClassId) (x0 x1 x2 x3 : Int32) (h0 : Heap) (n0 : Nat) (Z0 : n0 ≤ h0.size) (V_env : own_Env Z cs gS) (Od : Old Z n0 h0) (V1 : Arv Z h0 a1 k1 .byte (8 : Int32) [(.int (own_lo x0)), (.int (own_hi x0)), (.int (own_lo x1)), (.int (own_hi x1)), (.int (own_lo x2)), (.int (own_hi x2)), (.int (own_lo x3)), (.int (own_hi x3))] (.int (0 : Int32))) (hch : own_ch x0) : own_Met l Z mn7 jdk_52_method_5_code 2 (some .char) ws (own_R 0 0 0 0) #[(.ref a1), (.int (0 : Int32))] h0 (own_QrmGC4_0 x0 x1 x2 x3 h0 n0) := by
  refine own_enter n0 (plainFor_of_name own_pn40) (fun m => ef_RI_2 m a1 (0 : Int32) ) (fun p e s m below meth c s₁ hx hby hlk hml hret hown hnm hZ X0 e0 N0 => ?_)
  show own_Fin _ _ _ _ _ _ _ s₁ (mkF m 0 #[Rv a1, Iv 0] [])
  obtain ⟨T316, X316, e316, st316⟩ := getS2 X0 hx hZ hown (host := "") (Or.inl (own_g hw 98 rfl)) Via.refl e0 (V_env.1.ext Od.2) (g := (mkF m 0 #[Rv a1, Iv 0] [])) rfl (hb hby d23_0)
  refine own_by (fun _ k => st316 _ (XS.ifYes X316.here hx rfl (pc0 := 3) (pc' := 28) rfl (hb hby d23_3) rfl ((if0 _ _).trans (feq (by decide : ¬ ((1 : Int32) = (0 : Int32)))).2) (by decide) (by decide) (XS.iloadN X316.here hx rfl (hb hby d23_28) rfl (XS.iconst X316.here hx rfl (hb hby d23_29) (XS.ishl X316.here hx rfl (hb hby d23_30) rfl k))))) ?_
  show own_Fin _ _ _ _ _ _ _ T316 (mkF m 31 #[Rv a1, Iv 0] [(.int ((0 : Int32) <<< ((1 : Int32) &&& 31)))])
  rw [(by decide : ((0 : Int32) <<< ((1 : Int32) &&& 31)) = (0 : Int32))]
  show own_Fin _ _ _ _ _ _ _ T316 (mkF m 31 #[Rv a1, Iv 0] [(.int 0)])
  refine own_by (fun _ k => XS.istoreN X316.here hx rfl (hb hby d23_31) rfl (l' := #[Rv a1, Iv 0]) rfl (XS.aloadN X316.here hx rfl (hb hby d23_32) rfl rfl (XS.iloadN X316.here hx rfl (hb hby d23_33) rfl (XS.iinc X316.here hx rfl (hb hby d23_34) rfl (l' := #[Rv a1, Iv ((0 : Int32) + (1 : Int32))]) rfl k)))) ?_
  show own_Fin _ _ _ _ _ _ _ T316 (mkF m 37 #[Rv a1, Iv ((0 : Int32) + (1 : Int32))] [(.int 0), (.ref a1)])
  rw [(by decide : ((0 : Int32) + (1 : Int32)) = (1 : Int32))]
  show own_Fin _ _ _ _ _ _ _ T316 (mkF m 37 #[Rv a1, Iv 1] [(.int 0), (.ref a1)])
  obtain ⟨cl317, Ar317, -, S317, M317, H317, -⟩ := id V1
  have hin317 : ¬ ((0 : Int32) < 0 ∨ cl317.slots.size ≤ ((0 : Int32)).toNatClampNeg) := inb_of S317 ⟨by decide, by decide⟩
  have hat317 : cl317.slots[((0 : Int32)).toNatClampNeg]? = some (.int (own_lo x0)) := Has.at H317 hin317 rfl
  obtain ⟨T318, X318, e318, st318⟩ := getS2 X316 hx hZ hown (host := "") (Or.inl (own_g hw 99 rfl)) Via.refl e316 (V_env.2.1.ext Od.2) (g := (mkF m 42 #[Rv a1, Iv 1] [(.int ((own_lo x0) &&& (255 : Int32)))])) rfl (hb hby d23_42)
  obtain ⟨cl319, Ar319, -, S319, M319, H319, -⟩ := id V1
  have hin319 : ¬ ((1 : Int32) < 0 ∨ cl319.slots.size ≤ ((1 : Int32)).toNatClampNeg) := inb_of S319 ⟨by decide, by decide⟩
  have hat319 : cl319.slots[((1 : Int32)).toNatClampNeg]? = some (.int (own_hi x0)) := Has.at H319 hin319 rfl
  obtain ⟨T320, X320, e320, st320⟩ := getS2 X318 hx hZ hown (host := "") (Or.inl (own_g hw 100 rfl)) Via.refl e318 (V_env.2.2.1.ext Od.2) (g := (mkF m 53 #[Rv a1, Iv 1] [(.int ((own_hi x0) &&& (255 : Int32))), (.int (((own_lo x0) &&& (255 : Int32)) <<< ((0 : Int32) &&& 31)))])) rfl (hb hby d23_53)
  refine own_by (fun _ k => X316.baloadBytes hx (j := (0 : Int32)) (v := (.int (own_lo x0))) (by rw [e316]; exact Ar317.1) (State.isArrayOf_alike hZ.alike Ar317.2.1) Ar317.2.2 hin317 hat317 (g := (mkF m 37 #[Rv a1, Iv 1] [(.int 0), (.ref a1)])) rfl rfl (hb hby d23_37) _ (XS.sipush X316.here hx rfl (hb hby d23_38) (XS.iand X316.here hx rfl (hb hby d23_41) rfl (st318 _ (XS.ishl X318.here hx rfl (hb hby d23_45) rfl (XS.aloadN X318.here hx rfl (hb hby d23_46) rfl rfl (XS.iloadN X318.here hx rfl (hb hby d23_47) rfl (X318.baloadBytes hx (j := (1 : Int32)) (v := (.int (own_hi x0))) (by rw [e318]; exact Ar319.1) (State.isArrayOf_alike hZ.alike Ar319.2.1) Ar319.2.2 hin319 hat319 (g := (mkF m 48 #[Rv a1, Iv 1] [(.int 1), (.ref a1), (.int (((own_lo x0) &&& (255 : Int32)) <<< ((0 : Int32) &&& 31)))])) rfl rfl (hb hby d23_48) _ (XS.sipush X318.here hx rfl (hb hby d23_49) (XS.iand X318.here hx rfl (hb hby d23_52) rfl k)))))))))) ?_
  show own_Fin _ _ _ _ _ _ _ T318 (mkF m 53 #[Rv a1, Iv 1] [(.int ((own_hi x0) &&& (255 : Int32))), (.int (((own_lo x0) &&& (255 : Int32)) <<< ((0 : Int32) &&& 31)))])
  refine own_by (fun _ k => st320 _ (XS.ishl X320.here hx rfl (hb hby d23_56) rfl (XS.ior X320.here hx rfl (hb hby d23_57) rfl (XS.i2c X320.here hx rfl (hb hby d23_58) rfl k)))) ?_
  exact own_retZ X320 hx hlk (t := .char) hret (by simp) (hb hby d23_59) ⟨own_vi (own_u16 hch), N0, e320⟩ (by decide) (by decide)
def own_QrmGC4_1 (x0 x1 x2 x3 : Int32) (h0 : Heap) (n0 : Nat) (v : Option Value) (h : Heap) (L : List Loc) : Prop := v = some (.int x1) ∧ Fr n0 L ∧ h = h0
set_option maxRecDepth 65536 in
set_option maxHeartbeats 40000000 in
theorem rmGC4_1 (l : Launch) (Z : State) (a0 : Array Value) (hw : own_W a0 Z) (ws : List Jvm.Cond) (cs : Int32) (gS : Value) (a1 : Addr) (k1 : ClassId) (x0 x1 x2 x3 : Int32) (h0 : Heap) (n0 : Nat) (Z0 : n0 ≤ h0.size) (V_env : own_Env Z cs gS) (Od : Old Z n0 h0) (V1 : Arv Z h0 a1 k1 .byte (8 : Int32) [(.int (own_lo x0)), (.int (own_hi x0)), (.int (own_lo x1)), (.int (own_hi x1)), (.int (own_lo x2)), (.int (own_hi x2)), (.int (own_lo x3)), (.int (own_hi x3))] (.int (0 : Int32))) (hch : own_ch x1) : own_Met l Z mn7 jdk_52_method_5_code 2 (some .char) ws (own_R 0 0 0 0) #[(.ref a1), (.int (1 : Int32))] h0 (own_QrmGC4_1 x0 x1 x2 x3 h0 n0) := by
  refine own_enter n0 (plainFor_of_name own_pn40) (fun m => ef_RI_2 m a1 (1 : Int32) ) (fun p e s m below meth c s₁ hx hby hlk hml hret hown hnm hZ X0 e0 N0 => ?_)
  show own_Fin _ _ _ _ _ _ _ s₁ (mkF m 0 #[Rv a1, Iv 1] [])
  obtain ⟨T321, X321, e321, st321⟩ := getS2 X0 hx hZ hown (host := "") (Or.inl (own_g hw 98 rfl)) Via.refl e0 (V_env.1.ext Od.2) (g := (mkF m 0 #[Rv a1, Iv 1] [])) rfl (hb hby d23_0)
  refine own_by (fun _ k => st321 _ (XS.ifYes X321.here hx rfl (pc0 := 3) (pc' := 28) rfl (hb hby d23_3) rfl ((if0 _ _).trans (feq (by decide : ¬ ((1 : Int32) = (0 : Int32)))).2) (by decide) (by decide) (XS.iloadN X321.here hx rfl (hb hby d23_28) rfl (XS.iconst X321.here hx rfl (hb hby d23_29) (XS.ishl X321.here hx rfl (hb hby d23_30) rfl k))))) ?_
  show own_Fin _ _ _ _ _ _ _ T321 (mkF m 31 #[Rv a1, Iv 1] [(.int ((1 : Int32) <<< ((1 : Int32) &&& 31)))])
  rw [(by decide : ((1 : Int32) <<< ((1 : Int32) &&& 31)) = (2 : Int32))]
  show own_Fin _ _ _ _ _ _ _ T321 (mkF m 31 #[Rv a1, Iv 1] [(.int 2)])
  refine own_by (fun _ k => XS.istoreN X321.here hx rfl (hb hby d23_31) rfl (l' := #[Rv a1, Iv 2]) rfl (XS.aloadN X321.here hx rfl (hb hby d23_32) rfl rfl (XS.iloadN X321.here hx rfl (hb hby d23_33) rfl (XS.iinc X321.here hx rfl (hb hby d23_34) rfl (l' := #[Rv a1, Iv ((2 : Int32) + (1 : Int32))]) rfl k)))) ?_
  show own_Fin _ _ _ _ _ _ _ T321 (mkF m 37 #[Rv a1, Iv ((2 : Int32) + (1 : Int32))] [(.int 2), (.ref a1)])
  rw [(by decide : ((2 : Int32) + (1 : Int32)) = (3 : Int32))]
  show own_Fin _ _ _ _ _ _ _ T321 (mkF m 37 #[Rv a1, Iv 3] [(.int 2), (.ref a1)])
  obtain ⟨cl322, Ar322, -, S322, M322, H322, -⟩ := id V1
  have hin322 : ¬ ((2 : Int32) < 0 ∨ cl322.slots.size ≤ ((2 : Int32)).toNatClampNeg) := inb_of S322 ⟨by decide, by decide⟩
  have hat322 : cl322.slots[((2 : Int32)).toNatClampNeg]? = some (.int (own_lo x1)) := Has.at H322 hin322 rfl
  obtain ⟨T323, X323, e323, st323⟩ := getS2 X321 hx hZ hown (host := "") (Or.inl (own_g hw 99 rfl)) Via.refl e321 (V_env.2.1.ext Od.2) (g := (mkF m 42 #[Rv a1, Iv 3] [(.int ((own_lo x1) &&& (255 : Int32)))])) rfl (hb hby d23_42)
  obtain ⟨cl324, Ar324, -, S324, M324, H324, -⟩ := id V1
  have hin324 : ¬ ((3 : Int32) < 0 ∨ cl324.slots.size ≤ ((3 : Int32)).toNatClampNeg) := inb_of S324 ⟨by decide, by decide⟩
  have hat324 : cl324.slots[((3 : Int32)).toNatClampNeg]? = some (.int (own_hi x1)) := Has.at H324 hin324 rfl
  obtain ⟨T325, X325, e325, st325⟩ := getS2 X323 hx hZ hown (host := "") (Or.inl (own_g hw 100 rfl)) Via.refl e323 (V_env.2.2.1.ext Od.2) (g := (mkF m 53 #[Rv a1, Iv 3] [(.int ((own_hi x1) &&& (255 : Int32))), (.int (((own_lo x1) &&& (255 : Int32)) <<< ((0 : Int32) &&& 31)))])) rfl (hb hby d23_53)
  refine own_by (fun _ k => X321.baloadBytes hx (j := (2 : Int32)) (v := (.int (own_lo x1))) (by rw [e321]; exact Ar322.1) (State.isArrayOf_alike hZ.alike Ar322.2.1) Ar322.2.2 hin322 hat322 (g := (mkF m 37 #[Rv a1, Iv 3] [(.int 2), (.ref a1)])) rfl rfl (hb hby d23_37) _ (XS.sipush X321.here hx rfl (hb hby d23_38) (XS.iand X321.here hx rfl (hb hby d23_41) rfl (st323 _ (XS.ishl X323.here hx rfl (hb hby d23_45) rfl (XS.aloadN X323.here hx rfl (hb hby d23_46) rfl rfl (XS.iloadN X323.here hx rfl (hb hby d23_47) rfl (X323.baloadBytes hx (j := (3 : Int32)) (v := (.int (own_hi x1))) (by rw [e323]; exact Ar324.1) (State.isArrayOf_alike hZ.alike Ar324.2.1) Ar324.2.2 hin324 hat324 (g := (mkF m 48 #[Rv a1, Iv 3] [(.int 3), (.ref a1), (.int (((own_lo x1) &&& (255 : Int32)) <<< ((0 : Int32) &&& 31)))])) rfl rfl (hb hby d23_48) _ (XS.sipush X323.here hx rfl (hb hby d23_49) (XS.iand X323.here hx rfl (hb hby d23_52) rfl k)))))))))) ?_
  show own_Fin _ _ _ _ _ _ _ T323 (mkF m 53 #[Rv a1, Iv 3] [(.int ((own_hi x1) &&& (255 : Int32))), (.int (((own_lo x1) &&& (255 : Int32)) <<< ((0 : Int32) &&& 31)))])
  refine own_by (fun _ k => st325 _ (XS.ishl X325.here hx rfl (hb hby d23_56) rfl (XS.ior X325.here hx rfl (hb hby d23_57) rfl (XS.i2c X325.here hx rfl (hb hby d23_58) rfl k)))) ?_
  exact own_retZ X325 hx hlk (t := .char) hret (by simp) (hb hby d23_59) ⟨own_vi (own_u16 hch), N0, e325⟩ (by decide) (by decide)
def own_QrmGC4_2 (x0 x1 x2 x3 : Int32) (h0 : Heap) (n0 : Nat) (v : Option Value) (h : Heap) (L : List Loc) : Prop := v = some (.int x2) ∧ Fr n0 L ∧ h = h0
set_option maxRecDepth 65536 in
set_option maxHeartbeats 40000000 in
theorem rmGC4_2 (l : Launch) (Z : State) (a0 : Array Value) (hw : own_W a0 Z) (ws : List Jvm.Cond) (cs : Int32) (gS : Value) (a1 : Addr) (k1 : ClassId) (x0 x1 x2 x3 : Int32) (h0 : Heap) (n0 : Nat) (Z0 : n0 ≤ h0.size) (V_env : own_Env Z cs gS) (Od : Old Z n0 h0) (V1 : Arv Z h0 a1 k1 .byte (8 : Int32) [(.int (own_lo x0)), (.int (own_hi x0)), (.int (own_lo x1)), (.int (own_hi x1)), (.int (own_lo x2)), (.int (own_hi x2)), (.int (own_lo x3)), (.int (own_hi x3))] (.int (0 : Int32))) (hch : own_ch x2) : own_Met l Z mn7 jdk_52_method_5_code 2 (some .char) ws (own_R 0 0 0 0) #[(.ref a1), (.int (2 : Int32))] h0 (own_QrmGC4_2 x0 x1 x2 x3 h0 n0) := by
  refine own_enter n0 (plainFor_of_name own_pn40) (fun m => ef_RI_2 m a1 (2 : Int32) ) (fun p e s m below meth c s₁ hx hby hlk hml hret hown hnm hZ X0 e0 N0 => ?_)
  show own_Fin _ _ _ _ _ _ _ s₁ (mkF m 0 #[Rv a1, Iv 2] [])
  obtain ⟨T326, X326, e326, st326⟩ := getS2 X0 hx hZ hown (host := "") (Or.inl (own_g hw 98 rfl)) Via.refl e0 (V_env.1.ext Od.2) (g := (mkF m 0 #[Rv a1, Iv 2] [])) rfl (hb hby d23_0)
  refine own_by (fun _ k => st326 _ (XS.ifYes X326.here hx rfl (pc0 := 3) (pc' := 28) rfl (hb hby d23_3) rfl ((if0 _ _).trans (feq (by decide : ¬ ((1 : Int32) = (0 : Int32)))).2) (by decide) (by decide) (XS.iloadN X326.here hx rfl (hb hby d23_28) rfl (XS.iconst X326.here hx rfl (hb hby d23_29) (XS.ishl X326.here hx rfl (hb hby d23_30) rfl k))))) ?_
  show own_Fin _ _ _ _ _ _ _ T326 (mkF m 31 #[Rv a1, Iv 2] [(.int ((2 : Int32) <<< ((1 : Int32) &&& 31)))])
  rw [(by decide : ((2 : Int32) <<< ((1 : Int32) &&& 31)) = (4 : Int32))]
  show own_Fin _ _ _ _ _ _ _ T326 (mkF m 31 #[Rv a1, Iv 2] [(.int 4)])
  refine own_by (fun _ k => XS.istoreN X326.here hx rfl (hb hby d23_31) rfl (l' := #[Rv a1, Iv 4]) rfl (XS.aloadN X326.here hx rfl (hb hby d23_32) rfl rfl (XS.iloadN X326.here hx rfl (hb hby d23_33) rfl (XS.iinc X326.here hx rfl (hb hby d23_34) rfl (l' := #[Rv a1, Iv ((4 : Int32) + (1 : Int32))]) rfl k)))) ?_
  show own_Fin _ _ _ _ _ _ _ T326 (mkF m 37 #[Rv a1, Iv ((4 : Int32) + (1 : Int32))] [(.int 4), (.ref a1)])
  rw [(by decide : ((4 : Int32) + (1 : Int32)) = (5 : Int32))]
  show own_Fin _ _ _ _ _ _ _ T326 (mkF m 37 #[Rv a1, Iv 5] [(.int 4), (.ref a1)])
  obtain ⟨cl327, Ar327, -, S327, M327, H327, -⟩ := id V1
  have hin327 : ¬ ((4 : Int32) < 0 ∨ cl327.slots.size ≤ ((4 : Int32)).toNatClampNeg) := inb_of S327 ⟨by decide, by decide⟩
  have hat327 : cl327.slots[((4 : Int32)).toNatClampNeg]? = some (.int (own_lo x2)) := Has.at H327 hin327 rfl
  obtain ⟨T328, X328, e328, st328⟩ := getS2 X326 hx hZ hown (host := "") (Or.inl (own_g hw 99 rfl)) Via.refl e326 (V_env.2.1.ext Od.2) (g := (mkF m 42 #[Rv a1, Iv 5] [(.int ((own_lo x2) &&& (255 : Int32)))])) rfl (hb hby d23_42)
  obtain ⟨cl329, Ar329, -, S329, M329, H329, -⟩ := id V1
  have hin329 : ¬ ((5 : Int32) < 0 ∨ cl329.slots.size ≤ ((5 : Int32)).toNatClampNeg) := inb_of S329 ⟨by decide, by decide⟩
  have hat329 : cl329.slots[((5 : Int32)).toNatClampNeg]? = some (.int (own_hi x2)) := Has.at H329 hin329 rfl
  obtain ⟨T330, X330, e330, st330⟩ := getS2 X328 hx hZ hown (host := "") (Or.inl (own_g hw 100 rfl)) Via.refl e328 (V_env.2.2.1.ext Od.2) (g := (mkF m 53 #[Rv a1, Iv 5] [(.int ((own_hi x2) &&& (255 : Int32))), (.int (((own_lo x2) &&& (255 : Int32)) <<< ((0 : Int32) &&& 31)))])) rfl (hb hby d23_53)
  refine own_by (fun _ k => X326.baloadBytes hx (j := (4 : Int32)) (v := (.int (own_lo x2))) (by rw [e326]; exact Ar327.1) (State.isArrayOf_alike hZ.alike Ar327.2.1) Ar327.2.2 hin327 hat327 (g := (mkF m 37 #[Rv a1, Iv 5] [(.int 4), (.ref a1)])) rfl rfl (hb hby d23_37) _ (XS.sipush X326.here hx rfl (hb hby d23_38) (XS.iand X326.here hx rfl (hb hby d23_41) rfl (st328 _ (XS.ishl X328.here hx rfl (hb hby d23_45) rfl (XS.aloadN X328.here hx rfl (hb hby d23_46) rfl rfl (XS.iloadN X328.here hx rfl (hb hby d23_47) rfl (X328.baloadBytes hx (j := (5 : Int32)) (v := (.int (own_hi x2))) (by rw [e328]; exact Ar329.1) (State.isArrayOf_alike hZ.alike Ar329.2.1) Ar329.2.2 hin329 hat329 (g := (mkF m 48 #[Rv a1, Iv 5] [(.int 5), (.ref a1), (.int (((own_lo x2) &&& (255 : Int32)) <<< ((0 : Int32) &&& 31)))])) rfl rfl (hb hby d23_48) _ (XS.sipush X328.here hx rfl (hb hby d23_49) (XS.iand X328.here hx rfl (hb hby d23_52) rfl k)))))))))) ?_
  show own_Fin _ _ _ _ _ _ _ T328 (mkF m 53 #[Rv a1, Iv 5] [(.int ((own_hi x2) &&& (255 : Int32))), (.int (((own_lo x2) &&& (255 : Int32)) <<< ((0 : Int32) &&& 31)))])
  refine own_by (fun _ k => st330 _ (XS.ishl X330.here hx rfl (hb hby d23_56) rfl (XS.ior X330.here hx rfl (hb hby d23_57) rfl (XS.i2c X330.here hx rfl (hb hby d23_58) rfl k)))) ?_
  exact own_retZ X330 hx hlk (t := .char) hret (by simp) (hb hby d23_59) ⟨own_vi (own_u16 hch), N0, e330⟩ (by decide) (by decide)
def own_QrmGC4_3 (x0 x1 x2 x3 : Int32) (h0 : Heap) (n0 : Nat) (v : Option Value) (h : Heap) (L : List Loc) : Prop := v = some (.int x3) ∧ Fr n0 L ∧ h = h0
set_option maxRecDepth 65536 in
set_option maxHeartbeats 40000000 in
theorem rmGC4_3 (l : Launch) (Z : State) (a0 : Array Value) (hw : own_W a0 Z) (ws : List Jvm.Cond) (cs : Int32) (gS : Value) (a1 : Addr) (k1 : ClassId) (x0 x1 x2 x3 : Int32) (h0 : Heap) (n0 : Nat) (Z0 : n0 ≤ h0.size) (V_env : own_Env Z cs gS) (Od : Old Z n0 h0) (V1 : Arv Z h0 a1 k1 .byte (8 : Int32) [(.int (own_lo x0)), (.int (own_hi x0)), (.int (own_lo x1)), (.int (own_hi x1)), (.int (own_lo x2)), (.int (own_hi x2)), (.int (own_lo x3)), (.int (own_hi x3))] (.int (0 : Int32))) (hch : own_ch x3) : own_Met l Z mn7 jdk_52_method_5_code 2 (some .char) ws (own_R 0 0 0 0) #[(.ref a1), (.int (3 : Int32))] h0 (own_QrmGC4_3 x0 x1 x2 x3 h0 n0) := by
  refine own_enter n0 (plainFor_of_name own_pn40) (fun m => ef_RI_2 m a1 (3 : Int32) ) (fun p e s m below meth c s₁ hx hby hlk hml hret hown hnm hZ X0 e0 N0 => ?_)
  show own_Fin _ _ _ _ _ _ _ s₁ (mkF m 0 #[Rv a1, Iv 3] [])
  obtain ⟨T331, X331, e331, st331⟩ := getS2 X0 hx hZ hown (host := "") (Or.inl (own_g hw 98 rfl)) Via.refl e0 (V_env.1.ext Od.2) (g := (mkF m 0 #[Rv a1, Iv 3] [])) rfl (hb hby d23_0)
  refine own_by (fun _ k => st331 _ (XS.ifYes X331.here hx rfl (pc0 := 3) (pc' := 28) rfl (hb hby d23_3) rfl ((if0 _ _).trans (feq (by decide : ¬ ((1 : Int32) = (0 : Int32)))).2) (by decide) (by decide) (XS.iloadN X331.here hx rfl (hb hby d23_28) rfl (XS.iconst X331.here hx rfl (hb hby d23_29) (XS.ishl X331.here hx rfl (hb hby d23_30) rfl k))))) ?_
  show own_Fin _ _ _ _ _ _ _ T331 (mkF m 31 #[Rv a1, Iv 3] [(.int ((3 : Int32) <<< ((1 : Int32) &&& 31)))])
  rw [(by decide : ((3 : Int32) <<< ((1 : Int32) &&& 31)) = (6 : Int32))]
  show own_Fin _ _ _ _ _ _ _ T331 (mkF m 31 #[Rv a1, Iv 3] [(.int 6)])
  refine own_by (fun _ k => XS.istoreN X331.here hx rfl (hb hby d23_31) rfl (l' := #[Rv a1, Iv 6]) rfl (XS.aloadN X331.here hx rfl (hb hby d23_32) rfl rfl (XS.iloadN X331.here hx rfl (hb hby d23_33) rfl (XS.iinc X331.here hx rfl (hb hby d23_34) rfl (l' := #[Rv a1, Iv ((6 : Int32) + (1 : Int32))]) rfl k)))) ?_
  show own_Fin _ _ _ _ _ _ _ T331 (mkF m 37 #[Rv a1, Iv ((6 : Int32) + (1 : Int32))] [(.int 6), (.ref a1)])
  rw [(by decide : ((6 : Int32) + (1 : Int32)) = (7 : Int32))]
  show own_Fin _ _ _ _ _ _ _ T331 (mkF m 37 #[Rv a1, Iv 7] [(.int 6), (.ref a1)])
  obtain ⟨cl332, Ar332, -, S332, M332, H332, -⟩ := id V1
  have hin332 : ¬ ((6 : Int32) < 0 ∨ cl332.slots.size ≤ ((6 : Int32)).toNatClampNeg) := inb_of S332 ⟨by decide, by decide⟩
  have hat332 : cl332.slots[((6 : Int32)).toNatClampNeg]? = some (.int (own_lo x3)) := Has.at H332 hin332 rfl
  obtain ⟨T333, X333, e333, st333⟩ := getS2 X331 hx hZ hown (host := "") (Or.inl (own_g hw 99 rfl)) Via.refl e331 (V_env.2.1.ext Od.2) (g := (mkF m 42 #[Rv a1, Iv 7] [(.int ((own_lo x3) &&& (255 : Int32)))])) rfl (hb hby d23_42)
  obtain ⟨cl334, Ar334, -, S334, M334, H334, -⟩ := id V1
  have hin334 : ¬ ((7 : Int32) < 0 ∨ cl334.slots.size ≤ ((7 : Int32)).toNatClampNeg) := inb_of S334 ⟨by decide, by decide⟩
  have hat334 : cl334.slots[((7 : Int32)).toNatClampNeg]? = some (.int (own_hi x3)) := Has.at H334 hin334 rfl
  obtain ⟨T335, X335, e335, st335⟩ := getS2 X333 hx hZ hown (host := "") (Or.inl (own_g hw 100 rfl)) Via.refl e333 (V_env.2.2.1.ext Od.2) (g := (mkF m 53 #[Rv a1, Iv 7] [(.int ((own_hi x3) &&& (255 : Int32))), (.int (((own_lo x3) &&& (255 : Int32)) <<< ((0 : Int32) &&& 31)))])) rfl (hb hby d23_53)
  refine own_by (fun _ k => X331.baloadBytes hx (j := (6 : Int32)) (v := (.int (own_lo x3))) (by rw [e331]; exact Ar332.1) (State.isArrayOf_alike hZ.alike Ar332.2.1) Ar332.2.2 hin332 hat332 (g := (mkF m 37 #[Rv a1, Iv 7] [(.int 6), (.ref a1)])) rfl rfl (hb hby d23_37) _ (XS.sipush X331.here hx rfl (hb hby d23_38) (XS.iand X331.here hx rfl (hb hby d23_41) rfl (st333 _ (XS.ishl X333.here hx rfl (hb hby d23_45) rfl (XS.aloadN X333.here hx rfl (hb hby d23_46) rfl rfl (XS.iloadN X333.here hx rfl (hb hby d23_47) rfl (X333.baloadBytes hx (j := (7 : Int32)) (v := (.int (own_hi x3))) (by rw [e333]; exact Ar334.1) (State.isArrayOf_alike hZ.alike Ar334.2.1) Ar334.2.2 hin334 hat334 (g := (mkF m 48 #[Rv a1, Iv 7] [(.int 7), (.ref a1), (.int (((own_lo x3) &&& (255 : Int32)) <<< ((0 : Int32) &&& 31)))])) rfl rfl (hb hby d23_48) _ (XS.sipush X333.here hx rfl (hb hby d23_49) (XS.iand X333.here hx rfl (hb hby d23_52) rfl k)))))))))) ?_
  show own_Fin _ _ _ _ _ _ _ T333 (mkF m 53 #[Rv a1, Iv 7] [(.int ((own_hi x3) &&& (255 : Int32))), (.int (((own_lo x3) &&& (255 : Int32)) <<< ((0 : Int32) &&& 31)))])
  refine own_by (fun _ k => st335 _ (XS.ishl X335.here hx rfl (hb hby d23_56) rfl (XS.ior X335.here hx rfl (hb hby d23_57) rfl (XS.i2c X335.here hx rfl (hb hby d23_58) rfl k)))) ?_
  exact own_retZ X335 hx hlk (t := .char) hret (by simp) (hb hby d23_59) ⟨own_vi (own_u16 hch), N0, e335⟩ (by decide) (by decide)
def own_bad4 (r : Int32) (x0 x1 x2 x3 : Int32) : Prop := (r = (0 : Int32) ∧ (255 : Int32) < x0) ∨ (r = (1 : Int32) ∧ (255 : Int32) < x1) ∨ (r = (2 : Int32) ∧ (255 : Int32) < x2) ∨ (r = (3 : Int32) ∧ (255 : Int32) < x3)
def own_QXI4 (Z : State) (a3 : Addr) (kb : ClassId) (x0 x1 x2 x3 : Int32) (h0 : Heap) (n0 : Nat) (v : Option Value) (h : Heap) (L : List Loc) : Prop := ∃ r : Int32, v = some (.int r) ∧ Fr n0 L ∧ Keep h0 h [a3] ∧ ((r = (4 : Int32) ∧ Arv Z h a3 kb .byte (4 : Int32) [(.int x0.toInt8.toInt32), (.int x1.toInt8.toInt32), (.int x2.toInt8.toInt32), (.int x3.toInt8.toInt32)] (.int (0 : Int32)) ∧ ¬ (255 : Int32) < x0 ∧ ¬ (255 : Int32) < x1 ∧ ¬ (255 : Int32) < x2 ∧ ¬ (255 : Int32) < x3) ∨ own_bad4 r x0 x1 x2 x3)
set_option maxRecDepth 65536 in
set_option maxHeartbeats 40000000 in
theorem rmXI4 (l : Launch) (Z : State) (a0 : Array Value) (hw : own_W a0 Z) (ws : List Jvm.Cond) (a1 a3 : Addr) (kc kb : ClassId) (x0 x1 x2 x3 : Int32) (h0 : Heap) (n0 : Nat) (Z0 : n0 ≤ h0.size) (V1 : Arv Z h0 a1 kc .char (4 : Int32) [(.int x0), (.int x1), (.int x2), (.int x3)] (.int (0 : Int32))) (V3 : Arv Z h0 a3 kb .byte (4 : Int32) [(.int (0 : Int32)), (.int (0 : Int32)), (.int (0 : Int32)), (.int (0 : Int32))] (.int (0 : Int32))) (ne13 : a1 ≠ a3) (g_3 : n0 ≤ a3) : own_Met l Z mn8 jdk_52_method_21_code 7 (some .int) ws (own_R 0 0 0 0) #[(.ref a1), (.int (0 : Int32)), (.ref a3), (.int (0 : Int32)), (.int (4 : Int32))] h0 (own_QXI4 Z a3 kb x0 x1 x2 x3 h0 n0) := by
  refine own_enter n0 (plainFor_of_name own_pn40) (fun m => ef_RIRII_7 m a1 (0 : Int32) a3 (0 : Int32) (4 : Int32) ) (fun p e s m below meth c s₁ hx hby hlk hml hret hown hnm hZ X0 e0 N0 => ?_)
  show own_Fin _ _ _ _ _ _ _ s₁ (mkF m 0 #[Rv a1, Iv 0, Rv a3, Iv 0, Iv 4, Uv, Uv] [])
  have Kp336 : Keep h0 h0 [a3] := Keep.refl h0 _
  obtain ⟨cl337, Ar337, -, S337, M337, H337, -⟩ := id V1
  have hin337 : ¬ ((0 : Int32) < 0 ∨ cl337.slots.size ≤ ((0 : Int32)).toNatClampNeg) := inb_of S337 ⟨by decide, by decide⟩
  have hat337 : cl337.slots[((0 : Int32)).toNatClampNeg]? = some (.int x0) := Has.at H337 hin337 rfl
  refine own_by (fun _ k => XS.iconst X0.here hx rfl (hb hby d16_0) (XS.istore X0.here hx rfl (hb hby d16_1) rfl (l' := #[Rv a1, Iv 0, Rv a3, Iv 0, Iv 4, Iv 0, Uv]) rfl (XS.iload X0.here hx rfl (hb hby d16_3) rfl (XS.iload X0.here hx rfl (hb hby d16_5) rfl (XS.icmpNo X0.here hx rfl (hb hby d16_7) rfl (tlt (by decide : (0 : Int32) < (4 : Int32))).2.1 (XS.aloadN X0.here hx rfl (hb hby d16_10) rfl rfl (XS.iloadN X0.here hx rfl (hb hby d16_11) rfl (X0.caload hx (j := (0 : Int32)) (v := (.int x0)) (by rw [e0]; exact Ar337.1) (State.isArrayOf_alike hZ.alike Ar337.2.1) Ar337.2.2 hin337 hat337 (g := (mkF m 12 #[Rv a1, Iv 0, Rv a3, Iv 0, Iv 4, Iv 0, Uv] [(.int 0), (.ref a1)])) rfl rfl (hb hby d16_12) _ (XS.istore X0.here hx rfl (hb hby d16_13) rfl (l' := #[Rv a1, Iv 0, Rv a3, Iv 0, Iv 4, Iv 0, Iv x0]) rfl (XS.iload X0.here hx rfl (hb hby d16_15) rfl k)))))))))) ?_
  show own_Fin _ _ _ _ _ _ _ s₁ (mkF m 17 #[Rv a1, Iv 0, Rv a3, Iv 0, Iv 4, Iv 0, Iv x0] [(.int x0)])
  refine own_by (fun _ k => XS.sipush X0.here hx rfl (hb hby d16_17) k) ?_
  show own_Fin _ _ _ _ _ _ _ s₁ (mkF m 20 #[Rv a1, Iv 0, Rv a3, Iv 0, Iv 4, Iv 0, Iv x0] [(.int 255), (.int x0)])
  by_cases hc20_338 : (255 : Int32) < x0
  · show own_Fin _ _ _ _ _ _ _ s₁ (mkF m 20 #[Rv a1, Iv 0, Rv a3, Iv 0, Iv 4, Iv 0, Iv x0] [(.int 255), (.int x0)])
    refine own_by (fun _ k => XS.icmpNo X0.here hx rfl (hb hby d16_20) rfl (tlt hc20_338).2.2.2 (XS.iload X0.here hx rfl (hb hby d16_23) rfl k)) ?_
    exact own_retI X0 hx hlk hret (hb hby d16_25) (by rw [e0]; exact ⟨_, rfl, N0, Kp336, Or.inr (Or.inl ⟨rfl, hc20_338⟩)⟩) (by decide) (by decide)
  · show own_Fin _ _ _ _ _ _ _ s₁ (mkF m 20 #[Rv a1, Iv 0, Rv a3, Iv 0, Iv 4, Iv 0, Iv x0] [(.int 255), (.int x0)])
    obtain ⟨cl339, Ar339, q339, S339, M339, H339, G339⟩ := id V3
    have hin339 : ¬ ((0 : Int32) < 0 ∨ cl339.slots.size ≤ ((0 : Int32)).toNatClampNeg) := inb_of S339 ⟨by decide, by decide⟩
    obtain ⟨T339, h339, X339, e339, W339, st339⟩ := stB X0 hx hZ e0 Ar339 (j := (0 : Int32)) hin339 (g := (mkF m 31 #[Rv a1, Iv 0, Rv a3, Iv 0, Iv 4, Iv 0, Iv x0] [(.int (x0.toInt8.toInt32)), (.int 0), (.ref a3)])) rfl rfl (hb hby d16_31)
    have V339 : Arv Z h339 a3 kb .byte (4 : Int32) [(.int (x0.toInt8.toInt32).toInt8.toInt32), (.int (0 : Int32)), (.int (0 : Int32)), (.int (0 : Int32))] (.int (0 : Int32)) := Arv.set Ar339 q339 S339 M339 H339 G339 (fits_nar_byte _) W339 0 rfl (Nat.le_of_ble_eq_true rfl)
    have Kp339 : Keep h0 h339 [a3] := Kp336.wr W339 (Or.inl (List.mem_of_getElem? (i := 0) rfl))
    have Zs339 : n0 ≤ h339.size := Nat.le_trans Z0 (Keep.of_wr W339).1
    have N339 := Fr.snoc X339 N0 g_3
    have f340_0 : Arv Z h339 a1 kc .char (4 : Int32) [(.int x0), (.int x1), (.int x2), (.int x3)] (.int (0 : Int32)) := V1.other W339 ne13
    refine own_by (fun _ k => XS.icmpYes X0.here hx rfl (pc0 := 20) (pc' := 26) rfl (hb hby d16_20) rfl (flt hc20_338).2.2.2 (by decide) (by decide) (XS.aloadN X0.here hx rfl (hb hby d16_26) rfl rfl (XS.iloadN X0.here hx rfl (hb hby d16_27) rfl (XS.iload X0.here hx rfl (hb hby d16_28) rfl (XS.i2b X0.here hx rfl (hb hby d16_30) rfl (st339 _ (XS.iinc X339.here hx rfl (hb hby d16_32) rfl (l' := #[Rv a1, Iv ((0 : Int32) + (1 : Int32)), Rv a3, Iv 0, Iv 4, Iv 0, Iv x0]) rfl k))))))) ?_
    show own_Fin _ _ _ _ _ _ _ T339 (mkF m 35 #[Rv a1, Iv ((0 : Int32) + (1 : Int32)), Rv a3, Iv 0, Iv 4, Iv 0, Iv x0] [])
    rw [(by decide : ((0 : Int32) + (1 : Int32)) = (1 : Int32))]
    show own_Fin _ _ _ _ _ _ _ T339 (mkF m 35 #[Rv a1, Iv 1, Rv a3, Iv 0, Iv 4, Iv 0, Iv x0] [])
    refine own_by (fun _ k => XS.iinc X339.here hx rfl (hb hby d16_35) rfl (l' := #[Rv a1, Iv 1, Rv a3, Iv ((0 : Int32) + (1 : Int32)), Iv 4, Iv 0, Iv x0]) rfl k) ?_
    show own_Fin _ _ _ _ _ _ _ T339 (mkF m 38 #[Rv a1, Iv 1, Rv a3, Iv ((0 : Int32) + (1 : Int32)), Iv 4, Iv 0, Iv x0] [])
    rw [(by decide : ((0 : Int32) + (1 : Int32)) = (1 : Int32))]
    show own_Fin _ _ _ _ _ _ _ T339 (mkF m 38 #[Rv a1, Iv 1, Rv a3, Iv 1, Iv 4, Iv 0, Iv x0] [])
    refine own_by (fun _ k => XS.iinc X339.here hx rfl (hb hby d16_38) rfl (l' := #[Rv a1, Iv 1, Rv a3, Iv 1, Iv 4, Iv ((0 : Int32) + (1 : Int32)), Iv x0]) rfl k) ?_
    show own_Fin _ _ _ _ _ _ _ T339 (mkF m 41 #[Rv a1, Iv 1, Rv a3, Iv 1, Iv 4, Iv ((0 : Int32) + (1 : Int32)), Iv x0] [])
    rw [(by decide : ((0 : Int32) + (1 : Int32)) = (1 : Int32))]
    show own_Fin _ _ _ _ _ _ _ T339 (mkF m 41 #[Rv a1, Iv 1, Rv a3, Iv 1, Iv 4, Iv 1, Iv x0] [])
    obtain ⟨cl341, Ar341, -, S341, M341, H341, -⟩ := id f340_0
    have hin341 : ¬ ((1 : Int32) < 0 ∨ cl341.slots.size ≤ ((1 : Int32)).toNatClampNeg) := inb_of S341 ⟨by decide, by decide⟩
    have hat341 : cl341.slots[((1 : Int32)).toNatClampNeg]? = some (.int x1) := Has.at H341 hin341 rfl
    refine own_by (fun _ k => XS.goto X339.here hx rfl (pc0 := 41) (pc' := 3) rfl (hb hby d16_41) (by decide) (by decide) (XS.iload X339.here hx rfl (hb hby d16_3) rfl (XS.iload X339.here hx rfl (hb hby d16_5) rfl (XS.icmpNo X339.here hx rfl (hb hby d16_7) rfl (tlt (by decide : (1 : Int32) < (4 : Int32))).2.1 (XS.aloadN X339.here hx rfl (hb hby d16_10) rfl rfl (XS.iloadN X339.here hx rfl (hb hby d16_11) rfl (X339.caload hx (j := (1 : Int32)) (v := (.int x1)) (by rw [e339]; exact Ar341.1) (State.isArrayOf_alike hZ.alike Ar341.2.1) Ar341.2.2 hin341 hat341 (g := (mkF m 12 #[Rv a1, Iv 1, Rv a3, Iv 1, Iv 4, Iv 1, Iv x0] [(.int 1), (.ref a1)])) rfl rfl (hb hby d16_12) _ (XS.istore X339.here hx rfl (hb hby d16_13) rfl (l' := #[Rv a1, Iv 1, Rv a3, Iv 1, Iv 4, Iv 1, Iv x1]) rfl (XS.iload X339.here hx rfl (hb hby d16_15) rfl (XS.sipush X339.here hx rfl (hb hby d16_17) k)))))))))) ?_
    show own_Fin _ _ _ _ _ _ _ T339 (mkF m 20 #[Rv a1, Iv 1, Rv a3, Iv 1, Iv 4, Iv 1, Iv x1] [(.int 255), (.int x1)])
    by_cases hc20_342 : (255 : Int32) < x1
    · show own_Fin _ _ _ _ _ _ _ T339 (mkF m 20 #[Rv a1, Iv 1, Rv a3, Iv 1, Iv 4, Iv 1, Iv x1] [(.int 255), (.int x1)])
      refine own_by (fun _ k => XS.icmpNo X339.here hx rfl (hb hby d16_20) rfl (tlt hc20_342).2.2.2 (XS.iload X339.here hx rfl (hb hby d16_23) rfl k)) ?_
      exact own_retI X339 hx hlk hret (hb hby d16_25) (by rw [e339]; exact ⟨_, rfl, N339, Kp339, Or.inr (Or.inr (Or.inl ⟨rfl, hc20_342⟩))⟩) (by decide) (by decide)
    · show own_Fin _ _ _ _ _ _ _ T339 (mkF m 20 #[Rv a1, Iv 1, Rv a3, Iv 1, Iv 4, Iv 1, Iv x1] [(.int 255), (.int x1)])
      obtain ⟨cl343, Ar343, q343, S343, M343, H343, G343⟩ := id V339
      have hin343 : ¬ ((1 : Int32) < 0 ∨ cl343.slots.size ≤ ((1 : Int32)).toNatClampNeg) := inb_of S343 ⟨by decide, by decide⟩
      obtain ⟨T343, h343, X343, e343, W343, st343⟩ := stB X339 hx hZ e339 Ar343 (j := (1 : Int32)) hin343 (g := (mkF m 31 #[Rv a1, Iv 1, Rv a3, Iv 1, Iv 4, Iv 1, Iv x1] [(.int (x1.toInt8.toInt32)), (.int 1), (.ref a3)])) rfl rfl (hb hby d16_31)
      have V343 : Arv Z h343 a3 kb .byte (4 : Int32) [(.int (x0.toInt8.toInt32).toInt8.toInt32), (.int (x1.toInt8.toInt32).toInt8.toInt32), (.int (0 : Int32)), (.int (0 : Int32))] (.int (0 : Int32)) := Arv.set Ar343 q343 S343 M343 H343 G343 (fits_nar_byte _) W343 1 rfl (Nat.le_of_ble_eq_true rfl)
      have Kp343 : Keep h0 h343 [a3] := Kp339.wr W343 (Or.inl (List.mem_of_getElem? (i := 0) rfl))
      have Zs343 : n0 ≤ h343.size := Nat.le_trans Zs339 (Keep.of_wr W343).1
      have N343 := Fr.snoc X343 N339 g_3
      have f344_0 : Arv Z h343 a1 kc .char (4 : Int32) [(.int x0), (.int x1), (.int x2), (.int x3)] (.int (0 : Int32)) := f340_0.other W343 ne13
      refine own_by (fun _ k => XS.icmpYes X339.here hx rfl (pc0 := 20) (pc' := 26) rfl (hb hby d16_20) rfl (flt hc20_342).2.2.2 (by decide) (by decide) (XS.aloadN X339.here hx rfl (hb hby d16_26) rfl rfl (XS.iloadN X339.here hx rfl (hb hby d16_27) rfl (XS.iload X339.here hx rfl (hb hby d16_28) rfl (XS.i2b X339.here hx rfl (hb hby d16_30) rfl (st343 _ (XS.iinc X343.here hx rfl (hb hby d16_32) rfl (l' := #[Rv a1, Iv ((1 : Int32) + (1 : Int32)), Rv a3, Iv 1, Iv 4, Iv 1, Iv x1]) rfl k))))))) ?_
      show own_Fin _ _ _ _ _ _ _ T343 (mkF m 35 #[Rv a1, Iv ((1 : Int32) + (1 : Int32)), Rv a3, Iv 1, Iv 4, Iv 1, Iv x1] [])
      rw [(by decide : ((1 : Int32) + (1 : Int32)) = (2 : Int32))]
      show own_Fin _ _ _ _ _ _ _ T343 (mkF m 35 #[Rv a1, Iv 2, Rv a3, Iv 1, Iv 4, Iv 1, Iv x1] [])
      refine own_by (fun _ k => XS.iinc X343.here hx rfl (hb hby d16_35) rfl (l' := #[Rv a1, Iv 2, Rv a3, Iv ((1 : Int32) + (1 : Int32)), Iv 4, Iv 1, Iv x1]) rfl k) ?_
      show own_Fin _ _ _ _ _ _ _ T343 (mkF m 38 #[Rv a1, Iv 2, Rv a3, Iv ((1 : Int32) + (1 : Int32)), Iv 4, Iv 1, Iv x1] [])
      rw [(by decide : ((1 : Int32) + (1 : Int32)) = (2 : Int32))]
      show own_Fin _ _ _ _ _ _ _ T343 (mkF m 38 #[Rv a1, Iv 2, Rv a3, Iv 2, Iv 4, Iv 1, Iv x1] [])
      refine own_by (fun _ k => XS.iinc X343.here hx rfl (hb hby d16_38) rfl (l' := #[Rv a1, Iv 2, Rv a3, Iv 2, Iv 4, Iv ((1 : Int32) + (1 : Int32)), Iv x1]) rfl k) ?_
      show own_Fin _ _ _ _ _ _ _ T343 (mkF m 41 #[Rv a1, Iv 2, Rv a3, Iv 2, Iv 4, Iv ((1 : Int32) + (1 : Int32)), Iv x1] [])
      rw [(by decide : ((1 : Int32) + (1 : Int32)) = (2 : Int32))]
      show own_Fin _ _ _ _ _ _ _ T343 (mkF m 41 #[Rv a1, Iv 2, Rv a3, Iv 2, Iv 4, Iv 2, Iv x1] [])
      obtain ⟨cl345, Ar345, -, S345, M345, H345, -⟩ := id f344_0
      have hin345 : ¬ ((2 : Int32) < 0 ∨ cl345.slots.size ≤ ((2 : Int32)).toNatClampNeg) := inb_of S345 ⟨by decide, by decide⟩
      have hat345 : cl345.slots[((2 : Int32)).toNatClampNeg]? = some (.int x2) := Has.at H345 hin345 rfl
      refine own_by (fun _ k => XS.goto X343.here hx rfl (pc0 := 41) (pc' := 3) rfl (hb hby d16_41) (by decide) (by decide) (XS.iload X343.here hx rfl (hb hby d16_3) rfl (XS.iload X343.here hx rfl (hb hby d16_5) rfl (XS.icmpNo X343.here hx rfl (hb hby d16_7) rfl (tlt (by decide : (2 : Int32) < (4 : Int32))).2.1 (XS.aloadN X343.here hx rfl (hb hby d16_10) rfl rfl (XS.iloadN X343.here hx rfl (hb hby d16_11) rfl (X343.caload hx (j := (2 : Int32)) (v := (.int x2)) (by rw [e343]; exact Ar345.1) (State.isArrayOf_alike hZ.alike Ar345.2.1) Ar345.2.2 hin345 hat345 (g := (mkF m 12 #[Rv a1, Iv 2, Rv a3, Iv 2, Iv 4, Iv 2, Iv x1] [(.int 2), (.ref a1)])) rfl rfl (hb hby d16_12) _ (XS.istore X343.here hx rfl (hb hby d16_13) rfl (l' := #[Rv a1, Iv 2, Rv a3, Iv 2, Iv 4, Iv 2, Iv x2]) rfl (XS.iload X343.here hx rfl (hb hby d16_15) rfl (XS.sipush X343.here hx rfl (hb hby d16_17) k)))))))))) ?_
      show own_Fin _ _ _ _ _ _ _ T343 (mkF m 20 #[Rv a1, Iv 2, Rv a3, Iv 2, Iv 4, Iv 2, Iv x2] [(.int 255), (.int x2)])
      by_cases hc20_346 : (255 : Int32) < x2
      · show own_Fin _ _ _ _ _ _ _ T343 (mkF m 20 #[Rv a1, Iv 2, Rv a3, Iv 2, Iv 4, Iv 2, Iv x2] [(.int 255), (.int x2)])
        refine own_by (fun _ k => XS.icmpNo X343.here hx rfl (hb hby d16_20) rfl (tlt hc20_346).2.2.2 (XS.iload X343.here hx rfl (hb hby d16_23) rfl k)) ?_
        exact own_retI X343 hx hlk hret (hb hby d16_25) (by rw [e343]; exact ⟨_, rfl, N343, Kp343, Or.inr (Or.inr (Or.inr (Or.inl ⟨rfl, hc20_346⟩)))⟩) (by decide) (by decide)
      · show own_Fin _ _ _ _ _ _ _ T343 (mkF m 20 #[Rv a1, Iv 2, Rv a3, Iv 2, Iv 4, Iv 2, Iv x2] [(.int 255), (.int x2)])
        obtain ⟨cl347, Ar347, q347, S347, M347, H347, G347⟩ := id V343
        have hin347 : ¬ ((2 : Int32) < 0 ∨ cl347.slots.size ≤ ((2 : Int32)).toNatClampNeg) := inb_of S347 ⟨by decide, by decide⟩
        obtain ⟨T347, h347, X347, e347, W347, st347⟩ := stB X343 hx hZ e343 Ar347 (j := (2 : Int32)) hin347 (g := (mkF m 31 #[Rv a1, Iv 2, Rv a3, Iv 2, Iv 4, Iv 2, Iv x2] [(.int (x2.toInt8.toInt32)), (.int 2), (.ref a3)])) rfl rfl (hb hby d16_31)
        have V347 : Arv Z h347 a3 kb .byte (4 : Int32) [(.int (x0.toInt8.toInt32).toInt8.toInt32), (.int (x1.toInt8.toInt32).toInt8.toInt32), (.int (x2.toInt8.toInt32).toInt8.toInt32), (.int (0 : Int32))] (.int (0 : Int32)) := Arv.set Ar347 q347 S347 M347 H347 G347 (fits_nar_byte _) W347 2 rfl (Nat.le_of_ble_eq_true rfl)
        have Kp347 : Keep h0 h347 [a3] := Kp343.wr W347 (Or.inl (List.mem_of_getElem? (i := 0) rfl))
        have Zs347 : n0 ≤ h347.size := Nat.le_trans Zs343 (Keep.of_wr W347).1
        have N347 := Fr.snoc X347 N343 g_3
        have f348_0 : Arv Z h347 a1 kc .char (4 : Int32) [(.int x0), (.int x1), (.int x2), (.int x3)] (.int (0 : Int32)) := f344_0.other W347 ne13
        refine own_by (fun _ k => XS.icmpYes X343.here hx rfl (pc0 := 20) (pc' := 26) rfl (hb hby d16_20) rfl (flt hc20_346).2.2.2 (by decide) (by decide) (XS.aloadN X343.here hx rfl (hb hby d16_26) rfl rfl (XS.iloadN X343.here hx rfl (hb hby d16_27) rfl (XS.iload X343.here hx rfl (hb hby d16_28) rfl (XS.i2b X343.here hx rfl (hb hby d16_30) rfl (st347 _ (XS.iinc X347.here hx rfl (hb hby d16_32) rfl (l' := #[Rv a1, Iv ((2 : Int32) + (1 : Int32)), Rv a3, Iv 2, Iv 4, Iv 2, Iv x2]) rfl k))))))) ?_
        show own_Fin _ _ _ _ _ _ _ T347 (mkF m 35 #[Rv a1, Iv ((2 : Int32) + (1 : Int32)), Rv a3, Iv 2, Iv 4, Iv 2, Iv x2] [])
        rw [(by decide : ((2 : Int32) + (1 : Int32)) = (3 : Int32))]
        show own_Fin _ _ _ _ _ _ _ T347 (mkF m 35 #[Rv a1, Iv 3, Rv a3, Iv 2, Iv 4, Iv 2, Iv x2] [])
        refine own_by (fun _ k => XS.iinc X347.here hx rfl (hb hby d16_35) rfl (l' := #[Rv a1, Iv 3, Rv a3, Iv ((2 : Int32) + (1 : Int32)), Iv 4, Iv 2, Iv x2]) rfl k) ?_
        show own_Fin _ _ _ _ _ _ _ T347 (mkF m 38 #[Rv a1, Iv 3, Rv a3, Iv ((2 : Int32) + (1 : Int32)), Iv 4, Iv 2, Iv x2] [])
        rw [(by decide : ((2 : Int32) + (1 : Int32)) = (3 : Int32))]
        show own_Fin _ _ _ _ _ _ _ T347 (mkF m 38 #[Rv a1, Iv 3, Rv a3, Iv 3, Iv 4, Iv 2, Iv x2] [])
        refine own_by (fun _ k => XS.iinc X347.here hx rfl (hb hby d16_38) rfl (l' := #[Rv a1, Iv 3, Rv a3, Iv 3, Iv 4, Iv ((2 : Int32) + (1 : Int32)), Iv x2]) rfl k) ?_
        show own_Fin _ _ _ _ _ _ _ T347 (mkF m 41 #[Rv a1, Iv 3, Rv a3, Iv 3, Iv 4, Iv ((2 : Int32) + (1 : Int32)), Iv x2] [])
        rw [(by decide : ((2 : Int32) + (1 : Int32)) = (3 : Int32))]
        show own_Fin _ _ _ _ _ _ _ T347 (mkF m 41 #[Rv a1, Iv 3, Rv a3, Iv 3, Iv 4, Iv 3, Iv x2] [])
        obtain ⟨cl349, Ar349, -, S349, M349, H349, -⟩ := id f348_0
        have hin349 : ¬ ((3 : Int32) < 0 ∨ cl349.slots.size ≤ ((3 : Int32)).toNatClampNeg) := inb_of S349 ⟨by decide, by decide⟩
        have hat349 : cl349.slots[((3 : Int32)).toNatClampNeg]? = some (.int x3) := Has.at H349 hin349 rfl
        refine own_by (fun _ k => XS.goto X347.here hx rfl (pc0 := 41) (pc' := 3) rfl (hb hby d16_41) (by decide) (by decide) (XS.iload X347.here hx rfl (hb hby d16_3) rfl (XS.iload X347.here hx rfl (hb hby d16_5) rfl (XS.icmpNo X347.here hx rfl (hb hby d16_7) rfl (tlt (by decide : (3 : Int32) < (4 : Int32))).2.1 (XS.aloadN X347.here hx rfl (hb hby d16_10) rfl rfl (XS.iloadN X347.here hx rfl (hb hby d16_11) rfl (X347.caload hx (j := (3 : Int32)) (v := (.int x3)) (by rw [e347]; exact Ar349.1) (State.isArrayOf_alike hZ.alike Ar349.2.1) Ar349.2.2 hin349 hat349 (g := (mkF m 12 #[Rv a1, Iv 3, Rv a3, Iv 3, Iv 4, Iv 3, Iv x2] [(.int 3), (.ref a1)])) rfl rfl (hb hby d16_12) _ (XS.istore X347.here hx rfl (hb hby d16_13) rfl (l' := #[Rv a1, Iv 3, Rv a3, Iv 3, Iv 4, Iv 3, Iv x3]) rfl (XS.iload X347.here hx rfl (hb hby d16_15) rfl (XS.sipush X347.here hx rfl (hb hby d16_17) k)))))))))) ?_
        show own_Fin _ _ _ _ _ _ _ T347 (mkF m 20 #[Rv a1, Iv 3, Rv a3, Iv 3, Iv 4, Iv 3, Iv x3] [(.int 255), (.int x3)])
        by_cases hc20_350 : (255 : Int32) < x3
        · show own_Fin _ _ _ _ _ _ _ T347 (mkF m 20 #[Rv a1, Iv 3, Rv a3, Iv 3, Iv 4, Iv 3, Iv x3] [(.int 255), (.int x3)])
          refine own_by (fun _ k => XS.icmpNo X347.here hx rfl (hb hby d16_20) rfl (tlt hc20_350).2.2.2 (XS.iload X347.here hx rfl (hb hby d16_23) rfl k)) ?_
          exact own_retI X347 hx hlk hret (hb hby d16_25) (by rw [e347]; exact ⟨_, rfl, N347, Kp347, Or.inr (Or.inr (Or.inr (Or.inr ⟨rfl, hc20_350⟩)))⟩) (by decide) (by decide)
        · show own_Fin _ _ _ _ _ _ _ T347 (mkF m 20 #[Rv a1, Iv 3, Rv a3, Iv 3, Iv 4, Iv 3, Iv x3] [(.int 255), (.int x3)])
          obtain ⟨cl351, Ar351, q351, S351, M351, H351, G351⟩ := id V347
          have hin351 : ¬ ((3 : Int32) < 0 ∨ cl351.slots.size ≤ ((3 : Int32)).toNatClampNeg) := inb_of S351 ⟨by decide, by decide⟩
          obtain ⟨T351, h351, X351, e351, W351, st351⟩ := stB X347 hx hZ e347 Ar351 (j := (3 : Int32)) hin351 (g := (mkF m 31 #[Rv a1, Iv 3, Rv a3, Iv 3, Iv 4, Iv 3, Iv x3] [(.int (x3.toInt8.toInt32)), (.int 3), (.ref a3)])) rfl rfl (hb hby d16_31)
          have V351 : Arv Z h351 a3 kb .byte (4 : Int32) [(.int (x0.toInt8.toInt32).toInt8.toInt32), (.int (x1.toInt8.toInt32).toInt8.toInt32), (.int (x2.toInt8.toInt32).toInt8.toInt32), (.int (x3.toInt8.toInt32).toInt8.toInt32)] (.int (0 : Int32)) := Arv.set Ar351 q351 S351 M351 H351 G351 (fits_nar_byte _) W351 3 rfl (Nat.le_of_ble_eq_true rfl)
          have Kp351 : Keep h0 h351 [a3] := Kp347.wr W351 (Or.inl (List.mem_of_getElem? (i := 0) rfl))
          have Zs351 : n0 ≤ h351.size := Nat.le_trans Zs347 (Keep.of_wr W351).1
          have N351 := Fr.snoc X351 N347 g_3
          have f352_0 : Arv Z h351 a1 kc .char (4 : Int32) [(.int x0), (.int x1), (.int x2), (.int x3)] (.int (0 : Int32)) := f348_0.other W351 ne13
          refine own_by (fun _ k => XS.icmpYes X347.here hx rfl (pc0 := 20) (pc' := 26) rfl (hb hby d16_20) rfl (flt hc20_350).2.2.2 (by decide) (by decide) (XS.aloadN X347.here hx rfl (hb hby d16_26) rfl rfl (XS.iloadN X347.here hx rfl (hb hby d16_27) rfl (XS.iload X347.here hx rfl (hb hby d16_28) rfl (XS.i2b X347.here hx rfl (hb hby d16_30) rfl (st351 _ (XS.iinc X351.here hx rfl (hb hby d16_32) rfl (l' := #[Rv a1, Iv ((3 : Int32) + (1 : Int32)), Rv a3, Iv 3, Iv 4, Iv 3, Iv x3]) rfl k))))))) ?_
          show own_Fin _ _ _ _ _ _ _ T351 (mkF m 35 #[Rv a1, Iv ((3 : Int32) + (1 : Int32)), Rv a3, Iv 3, Iv 4, Iv 3, Iv x3] [])
          rw [(by decide : ((3 : Int32) + (1 : Int32)) = (4 : Int32))]
          show own_Fin _ _ _ _ _ _ _ T351 (mkF m 35 #[Rv a1, Iv 4, Rv a3, Iv 3, Iv 4, Iv 3, Iv x3] [])
          refine own_by (fun _ k => XS.iinc X351.here hx rfl (hb hby d16_35) rfl (l' := #[Rv a1, Iv 4, Rv a3, Iv ((3 : Int32) + (1 : Int32)), Iv 4, Iv 3, Iv x3]) rfl k) ?_
          show own_Fin _ _ _ _ _ _ _ T351 (mkF m 38 #[Rv a1, Iv 4, Rv a3, Iv ((3 : Int32) + (1 : Int32)), Iv 4, Iv 3, Iv x3] [])
          rw [(by decide : ((3 : Int32) + (1 : Int32)) = (4 : Int32))]
          show own_Fin _ _ _ _ _ _ _ T351 (mkF m 38 #[Rv a1, Iv 4, Rv a3, Iv 4, Iv 4, Iv 3, Iv x3] [])
          refine own_by (fun _ k => XS.iinc X351.here hx rfl (hb hby d16_38) rfl (l' := #[Rv a1, Iv 4, Rv a3, Iv 4, Iv 4, Iv ((3 : Int32) + (1 : Int32)), Iv x3]) rfl k) ?_
          show own_Fin _ _ _ _ _ _ _ T351 (mkF m 41 #[Rv a1, Iv 4, Rv a3, Iv 4, Iv 4, Iv ((3 : Int32) + (1 : Int32)), Iv x3] [])
          rw [(by decide : ((3 : Int32) + (1 : Int32)) = (4 : Int32))]
          show own_Fin _ _ _ _ _ _ _ T351 (mkF m 41 #[Rv a1, Iv 4, Rv a3, Iv 4, Iv 4, Iv 4, Iv x3] [])
          refine own_by (fun _ k => XS.goto X351.here hx rfl (pc0 := 41) (pc' := 3) rfl (hb hby d16_41) (by decide) (by decide) (XS.iload X351.here hx rfl (hb hby d16_3) rfl (XS.iload X351.here hx rfl (hb hby d16_5) rfl (XS.icmpYes X351.here hx rfl (pc0 := 7) (pc' := 44) rfl (hb hby d16_7) rfl (flt (by decide : ¬ ((4 : Int32) < (4 : Int32)))).2.1 (by decide) (by decide) (XS.iload X351.here hx rfl (hb hby d16_44) rfl k))))) ?_
          exact own_retI X351 hx hlk hret (hb hby d16_46) (by rw [e351]; exact ⟨_, rfl, N351, Kp351, Or.inl ⟨rfl, (by have q := V351; simp only [own_b8] at q; exact q), hc20_338, hc20_342, hc20_346, hc20_350⟩⟩) (by decide) (by decide)
def own_QXO4 (Z : State) (x0 x1 x2 x3 : Int32) (h0 : Heap) (n0 : Nat) (v : Option Value) (h : Heap) (L : List Loc) : Prop := ∃ (a : Addr) (k : ClassId), v = some (.ref a) ∧ Fr n0 L ∧ Keep h0 h [] ∧ h0.size ≤ a ∧ ((Arv Z h a k .byte (4 : Int32) [(.int x0.toInt8.toInt32), (.int x1.toInt8.toInt32), (.int x2.toInt8.toInt32), (.int x3.toInt8.toInt32)] (.int (0 : Int32)) ∧ ¬ (255 : Int32) < x0 ∧ ¬ (255 : Int32) < x1 ∧ ¬ (255 : Int32) < x2 ∧ ¬ (255 : Int32) < x3) ∨ Arv Z h a k .byte (8 : Int32) [(.int (own_lo x0)), (.int (own_hi x0)), (.int (own_lo x1)), (.int (own_hi x1)), (.int (own_lo x2)), (.int (own_hi x2)), (.int (own_lo x3)), (.int (own_hi x3))] (.int (0 : Int32)))
set_option maxRecDepth 65536 in
set_option maxHeartbeats 40000000 in
theorem rmXO4 (l : Launch) (Z : State) (a0 : Array Value) (hw : own_W a0 Z) (ws : List Jvm.Cond) (cs : Int32) (gS : Value) (a1 : Addr) (kc : ClassId) (x0 x1 x2 x3 : Int32) (h0 : Heap) (n0 : Nat) (Z0 : n0 ≤ h0.size) (V_env : own_Env Z cs gS) (Od : Old Z n0 h0) (V1 : Arv Z h0 a1 kc .char (4 : Int32) [(.int x0), (.int x1), (.int x2), (.int x3)] (.int (0 : Int32))) (hx0 : own_ch x0) (hx1 : own_ch x1) (hx2 : own_ch x2) (hx3 : own_ch x3) : own_Met l Z mn9 jdk_52_method_16_code 6 (some (.array .byte)) ws (own_R 3 2 12 40) #[(.ref a1), (.int (0 : Int32)), (.int (4 : Int32))] h0 (own_QXO4 Z x0 x1 x2 x3 h0 n0) := by
  refine own_enter n0 (plainFor_of_name own_pn40) (fun m => ef_RII_6 m a1 (0 : Int32) (4 : Int32) ) (fun p e s m below meth c s₁ hx hby hlk hml hret hown hnm hZ X0 e0 N0 => ?_)
  show own_Fin _ _ _ _ _ _ _ s₁ (mkF m 0 #[Rv a1, Iv 0, Iv 4, Uv, Uv, Uv] [])
  have Kp353 : Keep h0 h0 [] := Keep.refl h0 _
  obtain ⟨T354, h354, k354, X354, e354, E354, A354, st354⟩ := newP X0 hx hZ (own_g hw 20 rfl) e0 (g := (mkF m 1 #[Rv a1, Iv 0, Iv 4, Uv, Uv, Uv] [(.int 4)])) rfl (hb hby d15_1) rfl (by decide) (cap := 4) (by decide) (by decide) (by decide) (by decide)
  obtain ⟨b354, g354⟩ : ∃ z, z = h0.size := ⟨_, rfl⟩
  rw [← g354] at A354 st354
  have V354 : Arv Z h354 b354 k354 .byte (4 : Int32) [(.int (0 : Int32)), (.int (0 : Int32)), (.int (0 : Int32)), (.int (0 : Int32))] (.int (0 : Int32)) := (Arv.new A354 (by decide)).pad (pad_rep [] (.int (0 : Int32)) 4)
  have ne354_a1 : a1 ≠ b354 := Nat.ne_of_lt (Nat.lt_of_lt_of_le V1.lt (Nat.le_of_eq g354.symm))
  have gf354 : n0 ≤ b354 := Nat.le_trans Z0 (Nat.le_of_eq g354.symm)
  have Zs354 : n0 ≤ h354.size := Nat.le_trans Z0 E354.1
  have Kp354 : Keep h0 h354 [] := Kp353.ext E354
  have sz_b354 : h0.size ≤ b354 := Nat.le_trans Kp353.1 (Nat.le_of_eq g354.symm)
  have f355_0 : Old Z n0 h354 := Od.ext E354
  have f355_1 : Arv Z h354 a1 kc .char (4 : Int32) [(.int x0), (.int x1), (.int x2), (.int x3)] (.int (0 : Int32)) := V1.ext E354
  obtain ⟨_, _, ⟨T356, L356, k356, n356⟩, -, X356, ⟨Lc356, hQ356, l356, y356, z356⟩, st356⟩ := Jvm.LawKit.callS X354 hx (y := mn8) hown (mvT hZ (own_g hw 75 rfl)) (mvT hZ (own_g hw 76 rfl)) (mvT hZ (own_g hw 73 rfl)) (mvT hZ (own_g hw 77 rfl)) (by decide) (backOf (W := 0) (rmXI4 l Z a0 hw [] a1 b354 kc k354 x0 x1 x2 x3 h354 n0 Zs354 f355_1 V354 ne354_a1 gf354) hZ (own_g hw 77 rfl) (own_g hw 73 rfl) (by decide) (by decide)) (g := (mkF m 9 #[Rv a1, Iv 0, Iv 4, Rv b354, Uv, Uv] [(.int 4), (.int 0), (.ref b354), (.int 0), (.ref a1)])) rfl (by rw [hml]; rfl) (argsL := [(.ref a1), (.int (0 : Int32)), (.ref b354), (.int (0 : Int32)), (.int (4 : Int32))]) (rest := []) (lenOf own_pd161 rfl) rfl (own_z rfl) (hb hby d15_9) (fun _ _ => ⟨rfl, e354, (by decide : 1 + 0 ≤ _), (by decide : 4 + 0 ≤ _)⟩)
  dsimp only [Pt.U, Pt.locs, Pt.cells, Pt.slots] at X356 l356 y356 z356 st356 hQ356
  subst l356 y356 z356
  obtain ⟨r356, rfl, Nq356, K356, hd356⟩ := hQ356
  have N356 := Fr.app N0 Nq356
  have Zs356 : n0 ≤ T356.heap.size := Nat.le_trans Zs354 K356.1
  have Kp356 : Keep h0 T356.heap [] := Kp354.trans K356 (allS (Or.inr sz_b354) all0)
  have f357_0 : Old Z n0 T356.heap := f355_0.keep K356 (allS gf354 all0)
  have f357_1 : Arv Z T356.heap a1 kc .char (4 : Int32) [(.int x0), (.int x1), (.int x2), (.int x3)] (.int (0 : Int32)) := f355_1.keep K356 (ninS ne354_a1 nin0)
  refine own_by (fun _ k => XS.iloadN X0.here hx rfl (hb hby d15_0) rfl (st354 _ (XS.astoreN X354.here hx rfl (hb hby d15_3) rfl rfl (l' := #[Rv a1, Iv 0, Iv 4, Rv b354, Uv, Uv]) rfl (XS.aloadN X354.here hx rfl (hb hby d15_4) rfl rfl (XS.iloadN X354.here hx rfl (hb hby d15_5) rfl (XS.aloadN X354.here hx rfl (hb hby d15_6) rfl rfl (XS.iconst X354.here hx rfl (hb hby d15_7) (XS.iloadN X354.here hx rfl (hb hby d15_8) rfl (st356 _ k))))))))) ?_
  rcases hd356 with ⟨rfl, Vr356, hk0, hk1, hk2, hk3⟩ | ⟨rfl, hb0⟩ | ⟨rfl, hb1⟩ | ⟨rfl, hb2⟩ | ⟨rfl, hb3⟩
  · show own_Fin _ _ _ _ _ _ _ T356 (mkF m 12 #[Rv a1, Iv 0, Iv 4, Rv b354, Uv, Uv] [(.int 4)])
    refine own_by (fun _ k => XS.istore X356.here hx rfl (hb hby d15_12) rfl (l' := #[Rv a1, Iv 0, Iv 4, Rv b354, Iv 4, Uv]) rfl (XS.iload X356.here hx rfl (hb hby d15_14) rfl (XS.iloadN X356.here hx rfl (hb hby d15_16) rfl (XS.icmpYes X356.here hx rfl (pc0 := 17) (pc' := 57) rfl (hb hby d15_17) rfl (teq (by decide : (4 : Int32) = (4 : Int32))).1 (by decide) (by decide) (XS.aloadN X356.here hx rfl (hb hby d15_57) rfl rfl k))))) ?_
    exact own_retA X356 hx hlk (t := (.array .byte)) hret rfl rfl rfl (hb hby d15_58) ⟨_, _, rfl, N356, Kp356, sz_b354, Or.inl ⟨Vr356, hk0, hk1, hk2, hk3⟩⟩ (by decide) (by decide)
  · show own_Fin _ _ _ _ _ _ _ T356 (mkF m 12 #[Rv a1, Iv 0, Iv 4, Rv b354, Uv, Uv] [(.int 0)])
    obtain ⟨_, _, ⟨T358, L358, k358, n358⟩, -, X358, ⟨Lc358, hQ358, l358, y358, z358⟩, st358⟩ := Jvm.LawKit.callS X356 hx (y := mn6) hown (mvT hZ (own_g hw 85 rfl)) (mvT hZ (own_g hw 86 rfl)) (mvT hZ (own_g hw 73 rfl)) (mvT hZ (own_g hw 87 rfl)) (by decide) (backOf (W := 0) (rmTB4 l Z a0 hw [] cs gS a1 kc x0 x1 x2 x3 T356.heap n0 Zs356 V_env f357_0 f357_1) hZ (own_g hw 87 rfl) (own_g hw 73 rfl) (by decide) (by decide)) (g := (mkF m 23 #[Rv a1, Iv 0, Iv 4, Rv b354, Iv 0, Uv] [(.int 4), (.int 0), (.ref a1)])) rfl (by rw [hml]; rfl) (argsL := [(.ref a1), (.int (0 : Int32)), (.int (4 : Int32))]) (rest := []) (lenOf own_pd172 rfl) rfl (own_z rfl) (hb hby d15_23) (fun _ _ => ⟨rfl, rfl, (by decide : 1 + 1 ≤ _), (by decide : 4 + 8 ≤ _)⟩)
    dsimp only [Pt.U, Pt.locs, Pt.cells, Pt.slots] at X358 l358 y358 z358 st358 hQ358
    subst l358 y358 z358
    obtain ⟨b358, k358, rfl, Nq358, K358, ge358, V358⟩ := hQ358
    have N358 := Fr.app N356 Nq358
    have Zs358 : n0 ≤ T358.heap.size := Nat.le_trans Zs356 K358.1
    have Kp358 : Keep h0 T358.heap [] := Kp356.trans K358 all0
    have f359_0 : Old Z n0 T358.heap := f357_0.keep K358 all0
    have f359_1 : Arv Z T358.heap a1 kc .char (4 : Int32) [(.int x0), (.int x1), (.int x2), (.int x3)] (.int (0 : Int32)) := f357_1.keep K358 nin0
    have ne358_a1 : a1 ≠ b358 := Nat.ne_of_lt (Nat.lt_of_lt_of_le f357_1.lt ge358)
    have gf358 : n0 ≤ b358 := Nat.le_trans Zs356 ge358
    have sz_b358 : h0.size ≤ b358 := Nat.le_trans Kp356.1 ge358
    refine own_by (fun _ k => XS.istore X356.here hx rfl (hb hby d15_12) rfl (l' := #[Rv a1, Iv 0, Iv 4, Rv b354, Iv 0, Uv]) rfl (XS.iload X356.here hx rfl (hb hby d15_14) rfl (XS.iloadN X356.here hx rfl (hb hby d15_16) rfl (XS.icmpNo X356.here hx rfl (hb hby d15_17) rfl (feq (by decide : ¬ ((0 : Int32) = (4 : Int32)))).1 (XS.aloadN X356.here hx rfl (hb hby d15_20) rfl rfl (XS.iloadN X356.here hx rfl (hb hby d15_21) rfl (XS.iloadN X356.here hx rfl (hb hby d15_22) rfl (st358 _ (XS.astore X358.here hx rfl (hb hby d15_26) rfl rfl (l' := #[Rv a1, Iv 0, Iv 4, Rv b354, Iv 0, Rv b358]) rfl (XS.aload X358.here hx rfl (hb hby d15_28) rfl rfl k)))))))))) ?_
    show own_Fin _ _ _ _ _ _ _ T358 (mkF m 30 #[Rv a1, Iv 0, Iv 4, Rv b354, Iv 0, Rv b358] [(.ref b358)])
    obtain ⟨_, _, ⟨T360, L360, k360, n360⟩, -, X360, ⟨Lc360, hQ360, l360, y360, z360⟩, st360⟩ := Jvm.LawKit.callS X358 hx (y := mn7) hown (mvT hZ (own_g hw 101 rfl)) (mvT hZ (own_g hw 102 rfl)) (mvT hZ (own_g hw 73 rfl)) (mvT hZ (own_g hw 103 rfl)) (by decide) (backOf (W := 0) (rmGC4_0 l Z a0 hw [] cs gS b358 k358 x0 x1 x2 x3 T358.heap n0 Zs358 V_env f359_0 V358 hx0) hZ (own_g hw 103 rfl) (own_g hw 73 rfl) (by decide) (by decide)) (g := (mkF m 32 #[Rv a1, Iv 0, Iv 4, Rv b354, Iv 0, Rv b358] [(.int 0), (.ref b358)])) rfl (by rw [hml]; rfl) (argsL := [(.ref b358), (.int (0 : Int32))]) (rest := []) (lenOf own_pd177 rfl) rfl (own_z rfl) (hb hby d15_32) (fun _ _ => ⟨rfl, rfl, (by decide : 2 + 0 ≤ _), (by decide : 12 + 0 ≤ _)⟩)
    dsimp only [Pt.U, Pt.locs, Pt.cells, Pt.slots] at X360 l360 y360 z360 st360 hQ360
    subst l360 y360 z360
    obtain ⟨rfl, Nq360, eh360⟩ := hQ360
    have N360 := Fr.app N358 Nq360
    refine own_by (fun _ k => XS.iload X358.here hx rfl (hb hby d15_30) rfl (st360 _ (XS.sipush X360.here hx rfl (hb hby d15_35) (XS.icmpYes X360.here hx rfl (pc0 := 38) (pc' := 54) rfl (hb hby d15_38) rfl (tlt hb0).2.2.1 (by decide) (by decide) (XS.aload X360.here hx rfl (hb hby d15_54) rfl rfl k))))) ?_
    exact own_retA X360 hx hlk (t := (.array .byte)) hret rfl rfl rfl (hb hby d15_56) (by rw [eh360]; exact ⟨_, _, rfl, N360, Kp358, sz_b358, Or.inr V358⟩) (by decide) (by decide)
  · show own_Fin _ _ _ _ _ _ _ T356 (mkF m 12 #[Rv a1, Iv 0, Iv 4, Rv b354, Uv, Uv] [(.int 1)])
    obtain ⟨_, _, ⟨T361, L361, k361, n361⟩, -, X361, ⟨Lc361, hQ361, l361, y361, z361⟩, st361⟩ := Jvm.LawKit.callS X356 hx (y := mn6) hown (mvT hZ (own_g hw 85 rfl)) (mvT hZ (own_g hw 86 rfl)) (mvT hZ (own_g hw 73 rfl)) (mvT hZ (own_g hw 87 rfl)) (by decide) (backOf (W := 0) (rmTB4 l Z a0 hw [] cs gS a1 kc x0 x1 x2 x3 T356.heap n0 Zs356 V_env f357_0 f357_1) hZ (own_g hw 87 rfl) (own_g hw 73 rfl) (by decide) (by decide)) (g := (mkF m 23 #[Rv a1, Iv 0, Iv 4, Rv b354, Iv 1, Uv] [(.int 4), (.int 0), (.ref a1)])) rfl (by rw [hml]; rfl) (argsL := [(.ref a1), (.int (0 : Int32)), (.int (4 : Int32))]) (rest := []) (lenOf own_pd172 rfl) rfl (own_z rfl) (hb hby d15_23) (fun _ _ => ⟨rfl, rfl, (by decide : 1 + 1 ≤ _), (by decide : 4 + 8 ≤ _)⟩)
    dsimp only [Pt.U, Pt.locs, Pt.cells, Pt.slots] at X361 l361 y361 z361 st361 hQ361
    subst l361 y361 z361
    obtain ⟨b361, k361, rfl, Nq361, K361, ge361, V361⟩ := hQ361
    have N361 := Fr.app N356 Nq361
    have Zs361 : n0 ≤ T361.heap.size := Nat.le_trans Zs356 K361.1
    have Kp361 : Keep h0 T361.heap [] := Kp356.trans K361 all0
    have f362_0 : Old Z n0 T361.heap := f357_0.keep K361 all0
    have f362_1 : Arv Z T361.heap a1 kc .char (4 : Int32) [(.int x0), (.int x1), (.int x2), (.int x3)] (.int (0 : Int32)) := f357_1.keep K361 nin0
    have ne361_a1 : a1 ≠ b361 := Nat.ne_of_lt (Nat.lt_of_lt_of_le f357_1.lt ge361)
    have gf361 : n0 ≤ b361 := Nat.le_trans Zs356 ge361
    have sz_b361 : h0.size ≤ b361 := Nat.le_trans Kp356.1 ge361
    refine own_by (fun _ k => XS.istore X356.here hx rfl (hb hby d15_12) rfl (l' := #[Rv a1, Iv 0, Iv 4, Rv b354, Iv 1, Uv]) rfl (XS.iload X356.here hx rfl (hb hby d15_14) rfl (XS.iloadN X356.here hx rfl (hb hby d15_16) rfl (XS.icmpNo X356.here hx rfl (hb hby d15_17) rfl (feq (by decide : ¬ ((1 : Int32) = (4 : Int32)))).1 (XS.aloadN X356.here hx rfl (hb hby d15_20) rfl rfl (XS.iloadN X356.here hx rfl (hb hby d15_21) rfl (XS.iloadN X356.here hx rfl (hb hby d15_22) rfl (st361 _ (XS.astore X361.here hx rfl (hb hby d15_26) rfl rfl (l' := #[Rv a1, Iv 0, Iv 4, Rv b354, Iv 1, Rv b361]) rfl (XS.aload X361.here hx rfl (hb hby d15_28) rfl rfl k)))))))))) ?_
    show own_Fin _ _ _ _ _ _ _ T361 (mkF m 30 #[Rv a1, Iv 0, Iv 4, Rv b354, Iv 1, Rv b361] [(.ref b361)])
    obtain ⟨_, _, ⟨T363, L363, k363, n363⟩, -, X363, ⟨Lc363, hQ363, l363, y363, z363⟩, st363⟩ := Jvm.LawKit.callS X361 hx (y := mn7) hown (mvT hZ (own_g hw 101 rfl)) (mvT hZ (own_g hw 102 rfl)) (mvT hZ (own_g hw 73 rfl)) (mvT hZ (own_g hw 103 rfl)) (by decide) (backOf (W := 0) (rmGC4_1 l Z a0 hw [] cs gS b361 k361 x0 x1 x2 x3 T361.heap n0 Zs361 V_env f362_0 V361 hx1) hZ (own_g hw 103 rfl) (own_g hw 73 rfl) (by decide) (by decide)) (g := (mkF m 32 #[Rv a1, Iv 0, Iv 4, Rv b354, Iv 1, Rv b361] [(.int 1), (.ref b361)])) rfl (by rw [hml]; rfl) (argsL := [(.ref b361), (.int (1 : Int32))]) (rest := []) (lenOf own_pd177 rfl) rfl (own_z rfl) (hb hby d15_32) (fun _ _ => ⟨rfl, rfl, (by decide : 2 + 0 ≤ _), (by decide : 12 + 0 ≤ _)⟩)
    dsimp only [Pt.U, Pt.locs, Pt.cells, Pt.slots] at X363 l363 y363 z363 st363 hQ363
    subst l363 y363 z363
    obtain ⟨rfl, Nq363, eh363⟩ := hQ363
    have N363 := Fr.app N361 Nq363
    refine own_by (fun _ k => XS.iload X361.here hx rfl (hb hby d15_30) rfl (st363 _ (XS.sipush X363.here hx rfl (hb hby d15_35) (XS.icmpYes X363.here hx rfl (pc0 := 38) (pc' := 54) rfl (hb hby d15_38) rfl (tlt hb1).2.2.1 (by decide) (by decide) (XS.aload X363.here hx rfl (hb hby d15_54) rfl rfl k))))) ?_
    exact own_retA X363 hx hlk (t := (.array .byte)) hret rfl rfl rfl (hb hby d15_56) (by rw [eh363]; exact ⟨_, _, rfl, N363, Kp361, sz_b361, Or.inr V361⟩) (by decide) (by decide)
  · show own_Fin _ _ _ _ _ _ _ T356 (mkF m 12 #[Rv a1, Iv 0, Iv 4, Rv b354, Uv, Uv] [(.int 2)])
    obtain ⟨_, _, ⟨T364, L364, k364, n364⟩, -, X364, ⟨Lc364, hQ364, l364, y364, z364⟩, st364⟩ := Jvm.LawKit.callS X356 hx (y := mn6) hown (mvT hZ (own_g hw 85 rfl)) (mvT hZ (own_g hw 86 rfl)) (mvT hZ (own_g hw 73 rfl)) (mvT hZ (own_g hw 87 rfl)) (by decide) (backOf (W := 0) (rmTB4 l Z a0 hw [] cs gS a1 kc x0 x1 x2 x3 T356.heap n0 Zs356 V_env f357_0 f357_1) hZ (own_g hw 87 rfl) (own_g hw 73 rfl) (by decide) (by decide)) (g := (mkF m 23 #[Rv a1, Iv 0, Iv 4, Rv b354, Iv 2, Uv] [(.int 4), (.int 0), (.ref a1)])) rfl (by rw [hml]; rfl) (argsL := [(.ref a1), (.int (0 : Int32)), (.int (4 : Int32))]) (rest := []) (lenOf own_pd172 rfl) rfl (own_z rfl) (hb hby d15_23) (fun _ _ => ⟨rfl, rfl, (by decide : 1 + 1 ≤ _), (by decide : 4 + 8 ≤ _)⟩)
    dsimp only [Pt.U, Pt.locs, Pt.cells, Pt.slots] at X364 l364 y364 z364 st364 hQ364
    subst l364 y364 z364
    obtain ⟨b364, k364, rfl, Nq364, K364, ge364, V364⟩ := hQ364
    have N364 := Fr.app N356 Nq364
    have Zs364 : n0 ≤ T364.heap.size := Nat.le_trans Zs356 K364.1
    have Kp364 : Keep h0 T364.heap [] := Kp356.trans K364 all0
    have f365_0 : Old Z n0 T364.heap := f357_0.keep K364 all0
    have f365_1 : Arv Z T364.heap a1 kc .char (4 : Int32) [(.int x0), (.int x1), (.int x2), (.int x3)] (.int (0 : Int32)) := f357_1.keep K364 nin0
    have ne364_a1 : a1 ≠ b364 := Nat.ne_of_lt (Nat.lt_of_lt_of_le f357_1.lt ge364)
    have gf364 : n0 ≤ b364 := Nat.le_trans Zs356 ge364
    have sz_b364 : h0.size ≤ b364 := Nat.le_trans Kp356.1 ge364
    refine own_by (fun _ k => XS.istore X356.here hx rfl (hb hby d15_12) rfl (l' := #[Rv a1, Iv 0, Iv 4, Rv b354, Iv 2, Uv]) rfl (XS.iload X356.here hx rfl (hb hby d15_14) rfl (XS.iloadN X356.here hx rfl (hb hby d15_16) rfl (XS.icmpNo X356.here hx rfl (hb hby d15_17) rfl (feq (by decide : ¬ ((2 : Int32) = (4 : Int32)))).1 (XS.aloadN X356.here hx rfl (hb hby d15_20) rfl rfl (XS.iloadN X356.here hx rfl (hb hby d15_21) rfl (XS.iloadN X356.here hx rfl (hb hby d15_22) rfl (st364 _ (XS.astore X364.here hx rfl (hb hby d15_26) rfl rfl (l' := #[Rv a1, Iv 0, Iv 4, Rv b354, Iv 2, Rv b364]) rfl (XS.aload X364.here hx rfl (hb hby d15_28) rfl rfl k)))))))))) ?_
    show own_Fin _ _ _ _ _ _ _ T364 (mkF m 30 #[Rv a1, Iv 0, Iv 4, Rv b354, Iv 2, Rv b364] [(.ref b364)])
    obtain ⟨_, _, ⟨T366, L366, k366, n366⟩, -, X366, ⟨Lc366, hQ366, l366, y366, z366⟩, st366⟩ := Jvm.LawKit.callS X364 hx (y := mn7) hown (mvT hZ (own_g hw 101 rfl)) (mvT hZ (own_g hw 102 rfl)) (mvT hZ (own_g hw 73 rfl)) (mvT hZ (own_g hw 103 rfl)) (by decide) (backOf (W := 0) (rmGC4_2 l Z a0 hw [] cs gS b364 k364 x0 x1 x2 x3 T364.heap n0 Zs364 V_env f365_0 V364 hx2) hZ (own_g hw 103 rfl) (own_g hw 73 rfl) (by decide) (by decide)) (g := (mkF m 32 #[Rv a1, Iv 0, Iv 4, Rv b354, Iv 2, Rv b364] [(.int 2), (.ref b364)])) rfl (by rw [hml]; rfl) (argsL := [(.ref b364), (.int (2 : Int32))]) (rest := []) (lenOf own_pd177 rfl) rfl (own_z rfl) (hb hby d15_32) (fun _ _ => ⟨rfl, rfl, (by decide : 2 + 0 ≤ _), (by decide : 12 + 0 ≤ _)⟩)
    dsimp only [Pt.U, Pt.locs, Pt.cells, Pt.slots] at X366 l366 y366 z366 st366 hQ366
    subst l366 y366 z366
    obtain ⟨rfl, Nq366, eh366⟩ := hQ366
    have N366 := Fr.app N364 Nq366
    refine own_by (fun _ k => XS.iload X364.here hx rfl (hb hby d15_30) rfl (st366 _ (XS.sipush X366.here hx rfl (hb hby d15_35) (XS.icmpYes X366.here hx rfl (pc0 := 38) (pc' := 54) rfl (hb hby d15_38) rfl (tlt hb2).2.2.1 (by decide) (by decide) (XS.aload X366.here hx rfl (hb hby d15_54) rfl rfl k))))) ?_
    exact own_retA X366 hx hlk (t := (.array .byte)) hret rfl rfl rfl (hb hby d15_56) (by rw [eh366]; exact ⟨_, _, rfl, N366, Kp364, sz_b364, Or.inr V364⟩) (by decide) (by decide)
  · show own_Fin _ _ _ _ _ _ _ T356 (mkF m 12 #[Rv a1, Iv 0, Iv 4, Rv b354, Uv, Uv] [(.int 3)])
    obtain ⟨_, _, ⟨T367, L367, k367, n367⟩, -, X367, ⟨Lc367, hQ367, l367, y367, z367⟩, st367⟩ := Jvm.LawKit.callS X356 hx (y := mn6) hown (mvT hZ (own_g hw 85 rfl)) (mvT hZ (own_g hw 86 rfl)) (mvT hZ (own_g hw 73 rfl)) (mvT hZ (own_g hw 87 rfl)) (by decide) (backOf (W := 0) (rmTB4 l Z a0 hw [] cs gS a1 kc x0 x1 x2 x3 T356.heap n0 Zs356 V_env f357_0 f357_1) hZ (own_g hw 87 rfl) (own_g hw 73 rfl) (by decide) (by decide)) (g := (mkF m 23 #[Rv a1, Iv 0, Iv 4, Rv b354, Iv 3, Uv] [(.int 4), (.int 0), (.ref a1)])) rfl (by rw [hml]; rfl) (argsL := [(.ref a1), (.int (0 : Int32)), (.int (4 : Int32))]) (rest := []) (lenOf own_pd172 rfl) rfl (own_z rfl) (hb hby d15_23) (fun _ _ => ⟨rfl, rfl, (by decide : 1 + 1 ≤ _), (by decide : 4 + 8 ≤ _)⟩)
    dsimp only [Pt.U, Pt.locs, Pt.cells, Pt.slots] at X367 l367 y367 z367 st367 hQ367
    subst l367 y367 z367
    obtain ⟨b367, k367, rfl, Nq367, K367, ge367, V367⟩ := hQ367
    have N367 := Fr.app N356 Nq367
    have Zs367 : n0 ≤ T367.heap.size := Nat.le_trans Zs356 K367.1
    have Kp367 : Keep h0 T367.heap [] := Kp356.trans K367 all0
    have f368_0 : Old Z n0 T367.heap := f357_0.keep K367 all0
    have f368_1 : Arv Z T367.heap a1 kc .char (4 : Int32) [(.int x0), (.int x1), (.int x2), (.int x3)] (.int (0 : Int32)) := f357_1.keep K367 nin0
    have ne367_a1 : a1 ≠ b367 := Nat.ne_of_lt (Nat.lt_of_lt_of_le f357_1.lt ge367)
    have gf367 : n0 ≤ b367 := Nat.le_trans Zs356 ge367
    have sz_b367 : h0.size ≤ b367 := Nat.le_trans Kp356.1 ge367
    refine own_by (fun _ k => XS.istore X356.here hx rfl (hb hby d15_12) rfl (l' := #[Rv a1, Iv 0, Iv 4, Rv b354, Iv 3, Uv]) rfl (XS.iload X356.here hx rfl (hb hby d15_14) rfl (XS.iloadN X356.here hx rfl (hb hby d15_16) rfl (XS.icmpNo X356.here hx rfl (hb hby d15_17) rfl (feq (by decide : ¬ ((3 : Int32) = (4 : Int32)))).1 (XS.aloadN X356.here hx rfl (hb hby d15_20) rfl rfl (XS.iloadN X356.here hx rfl (hb hby d15_21) rfl (XS.iloadN X356.here hx rfl (hb hby d15_22) rfl (st367 _ (XS.astore X367.here hx rfl (hb hby d15_26) rfl rfl (l' := #[Rv a1, Iv 0, Iv 4, Rv b354, Iv 3, Rv b367]) rfl (XS.aload X367.here hx rfl (hb hby d15_28) rfl rfl k)))))))))) ?_
    show own_Fin _ _ _ _ _ _ _ T367 (mkF m 30 #[Rv a1, Iv 0, Iv 4, Rv b354, Iv 3, Rv b367] [(.ref b367)])
    obtain ⟨_, _, ⟨T369, L369, k369, n369⟩, -, X369, ⟨Lc369, hQ369, l369, y369, z369⟩, st369⟩ := Jvm.LawKit.callS X367 hx (y := mn7) hown (mvT hZ (own_g hw 101 rfl)) (mvT hZ (own_g hw 102 rfl)) (mvT hZ (own_g hw 73 rfl)) (mvT hZ (own_g hw 103 rfl)) (by decide) (backOf (W := 0) (rmGC4_3 l Z a0 hw [] cs gS b367 k367 x0 x1 x2 x3 T367.heap n0 Zs367 V_env f368_0 V367 hx3) hZ (own_g hw 103 rfl) (own_g hw 73 rfl) (by decide) (by decide)) (g := (mkF m 32 #[Rv a1, Iv 0, Iv 4, Rv b354, Iv 3, Rv b367] [(.int 3), (.ref b367)])) rfl (by rw [hml]; rfl) (argsL := [(.ref b367), (.int (3 : Int32))]) (rest := []) (lenOf own_pd177 rfl) rfl (own_z rfl) (hb hby d15_32) (fun _ _ => ⟨rfl, rfl, (by decide : 2 + 0 ≤ _), (by decide : 12 + 0 ≤ _)⟩)
    dsimp only [Pt.U, Pt.locs, Pt.cells, Pt.slots] at X369 l369 y369 z369 st369 hQ369
    subst l369 y369 z369
    obtain ⟨rfl, Nq369, eh369⟩ := hQ369
    have N369 := Fr.app N367 Nq369
    refine own_by (fun _ k => XS.iload X367.here hx rfl (hb hby d15_30) rfl (st369 _ (XS.sipush X369.here hx rfl (hb hby d15_35) (XS.icmpYes X369.here hx rfl (pc0 := 38) (pc' := 54) rfl (hb hby d15_38) rfl (tlt hb3).2.2.1 (by decide) (by decide) (XS.aload X369.here hx rfl (hb hby d15_54) rfl rfl k))))) ?_
    exact own_retA X369 hx hlk (t := (.array .byte)) hret rfl rfl rfl (hb hby d15_56) (by rw [eh369]; exact ⟨_, _, rfl, N369, Kp367, sz_b367, Or.inr V367⟩) (by decide) (by decide)
def own_Qcl4_4 (h0 : Heap) (n0 : Nat) (v : Option Value) (h : Heap) (L : List Loc) : Prop := v = some (.int (0 : Int32)) ∧ Fr n0 L ∧ h = h0
set_option maxRecDepth 65536 in
set_option maxHeartbeats 40000000 in
theorem rmCL4_4 (l : Launch) (Z : State) (a0 : Array Value) (hw : own_W a0 Z) (ws : List Jvm.Cond) (a1 : Addr) (k1 : ClassId) (vs : List Value) (h0 : Heap) (n0 : Nat) (Z0 : n0 ≤ h0.size) (V1 : Arv Z h0 a1 k1 .byte (4 : Int32) vs (.int (0 : Int32))) : own_Met l Z mn10 jdk_52_method_15_code 2 (some .byte) ws (own_R 0 0 0 0) #[(.ref a1), (.int (4 : Int32))] h0 (own_Qcl4_4 h0 n0) := by
  refine own_enter n0 (plainFor_of_name own_pn40) (fun m => ef_RI_2 m a1 (4 : Int32) ) (fun p e s m below meth c s₁ hx hby hlk hml hret hown hnm hZ X0 e0 N0 => ?_)
  show own_Fin _ _ _ _ _ _ _ s₁ (mkF m 0 #[Rv a1, Iv 4] [])
  obtain ⟨cl370, Ar370, -, S370, M370, -, -⟩ := id V1
  refine own_by (fun _ k => XS.iloadN X0.here hx rfl (hb hby d17_0) rfl (XS.aloadN X0.here hx rfl (hb hby d17_1) rfl rfl (X0.arraylength hx (by rw [e0]; exact Ar370.1) (State.isArrayOf_alike hZ.alike Ar370.2.1) (g := (mkF m 2 #[Rv a1, Iv 4] [(.ref a1), (.int 4)])) rfl rfl (hb hby d17_2) _ k))) ?_
  rw [len_of S370 M370]
  show own_Fin _ _ _ _ _ _ _ s₁ (mkF m 3 #[Rv a1, Iv 4] [(.int 4), (.int 4)])
  refine own_by (fun _ k => XS.isub X0.here hx rfl (hb hby d17_3) rfl k) ?_
  show own_Fin _ _ _ _ _ _ _ s₁ (mkF m 4 #[Rv a1, Iv 4] [(.int ((4 : Int32) - (4 : Int32)))])
  rw [(by decide : ((4 : Int32) - (4 : Int32)) = (0 : Int32))]
  show own_Fin _ _ _ _ _ _ _ s₁ (mkF m 4 #[Rv a1, Iv 4] [(.int 0)])
  refine own_by (fun _ k => XS.bipush X0.here hx rfl (hb hby d17_4) (XS.iushr X0.here hx rfl (hb hby d17_6) rfl k)) ?_
  show own_Fin _ _ _ _ _ _ _ s₁ (mkF m 7 #[Rv a1, Iv 4] [(.int (((0 : Int32).toUInt32 >>> ((31 : Int32) &&& 31).toUInt32).toInt32))])
  rw [(by decide : (((0 : Int32).toUInt32 >>> ((31 : Int32) &&& 31).toUInt32).toInt32) = (0 : Int32))]
  show own_Fin _ _ _ _ _ _ _ s₁ (mkF m 7 #[Rv a1, Iv 4] [(.int 0)])
  refine own_by (fun _ k => XS.i2b X0.here hx rfl (hb hby d17_7) rfl k) ?_
  show own_Fin _ _ _ _ _ _ _ s₁ (mkF m 8 #[Rv a1, Iv 4] [(.int ((0 : Int32).toInt8.toInt32))])
  rw [(by decide : ((0 : Int32).toInt8.toInt32) = (0 : Int32))]
  show own_Fin _ _ _ _ _ _ _ s₁ (mkF m 8 #[Rv a1, Iv 4] [(.int 0)])
  exact own_retZ X0 hx hlk (t := .byte) hret (by simp) (hb hby d17_8) ⟨rfl, N0, e0⟩ (by decide) (by decide)
def own_Qcl4_8 (h0 : Heap) (n0 : Nat) (v : Option Value) (h : Heap) (L : List Loc) : Prop := v = some (.int (1 : Int32)) ∧ Fr n0 L ∧ h = h0
set_option maxRecDepth 65536 in
set_option maxHeartbeats 40000000 in
theorem rmCL4_8 (l : Launch) (Z : State) (a0 : Array Value) (hw : own_W a0 Z) (ws : List Jvm.Cond) (a1 : Addr) (k1 : ClassId) (vs : List Value) (h0 : Heap) (n0 : Nat) (Z0 : n0 ≤ h0.size) (V1 : Arv Z h0 a1 k1 .byte (8 : Int32) vs (.int (0 : Int32))) : own_Met l Z mn10 jdk_52_method_15_code 2 (some .byte) ws (own_R 0 0 0 0) #[(.ref a1), (.int (4 : Int32))] h0 (own_Qcl4_8 h0 n0) := by
  refine own_enter n0 (plainFor_of_name own_pn40) (fun m => ef_RI_2 m a1 (4 : Int32) ) (fun p e s m below meth c s₁ hx hby hlk hml hret hown hnm hZ X0 e0 N0 => ?_)
  show own_Fin _ _ _ _ _ _ _ s₁ (mkF m 0 #[Rv a1, Iv 4] [])
  obtain ⟨cl371, Ar371, -, S371, M371, -, -⟩ := id V1
  refine own_by (fun _ k => XS.iloadN X0.here hx rfl (hb hby d17_0) rfl (XS.aloadN X0.here hx rfl (hb hby d17_1) rfl rfl (X0.arraylength hx (by rw [e0]; exact Ar371.1) (State.isArrayOf_alike hZ.alike Ar371.2.1) (g := (mkF m 2 #[Rv a1, Iv 4] [(.ref a1), (.int 4)])) rfl rfl (hb hby d17_2) _ k))) ?_
  rw [len_of S371 M371]
  show own_Fin _ _ _ _ _ _ _ s₁ (mkF m 3 #[Rv a1, Iv 4] [(.int 8), (.int 4)])
  refine own_by (fun _ k => XS.isub X0.here hx rfl (hb hby d17_3) rfl k) ?_
  show own_Fin _ _ _ _ _ _ _ s₁ (mkF m 4 #[Rv a1, Iv 4] [(.int ((4 : Int32) - (8 : Int32)))])
  rw [(by decide : ((4 : Int32) - (8 : Int32)) = (-4 : Int32))]
  show own_Fin _ _ _ _ _ _ _ s₁ (mkF m 4 #[Rv a1, Iv 4] [(.int (-4))])
  refine own_by (fun _ k => XS.bipush X0.here hx rfl (hb hby d17_4) (XS.iushr X0.here hx rfl (hb hby d17_6) rfl k)) ?_
  show own_Fin _ _ _ _ _ _ _ s₁ (mkF m 7 #[Rv a1, Iv 4] [(.int (((-4 : Int32).toUInt32 >>> ((31 : Int32) &&& 31).toUInt32).toInt32))])
  rw [(by decide : (((-4 : Int32).toUInt32 >>> ((31 : Int32) &&& 31).toUInt32).toInt32) = (1 : Int32))]
  show own_Fin _ _ _ _ _ _ _ s₁ (mkF m 7 #[Rv a1, Iv 4] [(.int 1)])
  refine own_by (fun _ k => XS.i2b X0.here hx rfl (hb hby d17_7) rfl k) ?_
  show own_Fin _ _ _ _ _ _ _ s₁ (mkF m 8 #[Rv a1, Iv 4] [(.int ((1 : Int32).toInt8.toInt32))])
  rw [(by decide : ((1 : Int32).toInt8.toInt32) = (1 : Int32))]
  show own_Fin _ _ _ _ _ _ _ s₁ (mkF m 8 #[Rv a1, Iv 4] [(.int 1)])
  exact own_retZ X0 hx hlk (t := .byte) hret (by simp) (hb hby d17_8) ⟨rfl, N0, e0⟩ (by decide) (by decide)
def own_QYI4 (Z : State) (a1 : Addr) (x0 x1 x2 x3 : Int32) (h0 : Heap) (n0 : Nat) (v : Option Value) (h : Heap) (L : List Loc) : Prop := ∃ (b : Addr) (k : ClassId), v = none ∧ Fr n0 L ∧ Keep h0 h [a1] ∧ Fld Z h a1 "java/lang/String" "value" "[B" (.ref b) ∧ ((Fld Z h a1 "java/lang/String" "coder" "B" (.int (0 : Int32)) ∧ Arv Z h b k .byte (4 : Int32) [(.int x0.toInt8.toInt32), (.int x1.toInt8.toInt32), (.int x2.toInt8.toInt32), (.int x3.toInt8.toInt32)] (.int (0 : Int32)) ∧ ¬ (255 : Int32) < x0 ∧ ¬ (255 : Int32) < x1 ∧ ¬ (255 : Int32) < x2 ∧ ¬ (255 : Int32) < x3) ∨ (Fld Z h a1 "java/lang/String" "coder" "B" (.int (1 : Int32)) ∧ Arv Z h b k .byte (8 : Int32) [(.int (own_lo x0)), (.int (own_hi x0)), (.int (own_lo x1)), (.int (own_hi x1)), (.int (own_lo x2)), (.int (own_hi x2)), (.int (own_lo x3)), (.int (own_hi x3))] (.int (0 : Int32))))
set_option maxRecDepth 65536 in
set_option maxHeartbeats 40000000 in
theorem rmYI4 (l : Launch) (Z : State) (a0 : Array Value) (hw : own_W a0 Z) (ws : List Jvm.Cond) (cs : Int32) (gS : Value) (a1 a2 : Addr) (kc : ClassId) (x0 x1 x2 x3 : Int32) (h0 : Heap) (n0 : Nat) (Z0 : n0 ≤ h0.size) (V_env : own_Env Z cs gS) (Od : Old Z n0 h0) (E_a1 : Exa Z h0 a1 "java/lang/String") (F_v : Fld Z h0 a1 "java/lang/String" "value" "[B" .null) (F_c : Fld Z h0 a1 "java/lang/String" "coder" "B" (.int (0 : Int32))) (g_a1 : n0 ≤ a1) (V2 : Arv Z h0 a2 kc .char (4 : Int32) [(.int x0), (.int x1), (.int x2), (.int x3)] (.int (0 : Int32))) (ne12 : a2 ≠ a1) (hx0 : own_ch x0) (hx1 : own_ch x1) (hx2 : own_ch x2) (hx3 : own_ch x3) : own_Met l Z mn1 jdk_42_method_149_code 6 none ws (own_R 4 2 12 57) #[(.ref a1), (.ref a2), (.int (0 : Int32)), (.int (4 : Int32)), .null] h0 (own_QYI4 Z a1 x0 x1 x2 x3 h0 n0) := by
  refine own_enter n0 (plainFor_of_name own_pn16) (fun m => ef_RRIIN_6 m a1 a2 (0 : Int32) (4 : Int32) ) (fun p e s m below meth c s₁ hx hby hlk hml hret hown hnm hZ X0 e0 N0 => ?_)
  show own_Fin _ _ _ _ _ _ _ s₁ (mkF m 0 #[Rv a1, Rv a2, Iv 0, Iv 4, Nv, Uv] [])
  have Kp372 : Keep h0 h0 [a1] := Keep.refl h0 _
  obtain ⟨T373, X373, e373, st373⟩ := initO X0 hx hZ hown (own_g hw 16 rfl) (own_g hw 17 rfl) (own_g hw 18 rfl) e0 (g := (mkF m 1 #[Rv a1, Rv a2, Iv 0, Iv 4, Nv, Uv] [(.ref a1)])) rfl (by rw [hml]; rfl) rfl (hb hby d3_1) (by decide) (W := 0) (own_z rfl) (by decide)
  obtain ⟨T374, X374, e374, st374⟩ := getS2 X373 hx hZ hown (host := "") (Or.inl (own_g hw 46 rfl)) Via.refl e373 (V_env.2.2.2.1.ext Od.2) (g := (mkF m 27 #[Rv a1, Rv a2, Iv 0, Iv 4, Nv, Uv] [])) rfl (hb hby d3_27)
  obtain ⟨_, _, ⟨T375, L375, k375, n375⟩, -, X375, ⟨Lc375, hQ375, l375, y375, z375⟩, st375⟩ := Jvm.LawKit.callS X374 hx (y := mn9) hown (mvT hZ (own_g hw 71 rfl)) (mvT hZ (own_g hw 72 rfl)) (mvT hZ (own_g hw 73 rfl)) (mvT hZ (own_g hw 74 rfl)) (by decide) (backOf (W := 0) (rmXO4 l Z a0 hw [] cs gS a2 kc x0 x1 x2 x3 h0 n0 Z0 V_env Od V2 hx0 hx1 hx2 hx3) hZ (own_g hw 74 rfl) (own_g hw 73 rfl) (by decide) (by decide)) (g := (mkF m 36 #[Rv a1, Rv a2, Iv 0, Iv 4, Nv, Uv] [(.int 4), (.int 0), (.ref a2)])) rfl (by rw [hml]; rfl) (argsL := [(.ref a2), (.int (0 : Int32)), (.int (4 : Int32))]) (rest := []) (lenOf own_pd172 rfl) rfl (own_z rfl) (hb hby d3_36) (fun _ _ => ⟨rfl, e374, (by decide : 0 + 2 ≤ _), (by decide : 0 + 12 ≤ _)⟩)
  dsimp only [Pt.U, Pt.locs, Pt.cells, Pt.slots] at X375 l375 y375 z375 st375 hQ375
  subst l375 y375 z375
  obtain ⟨b375, k375, rfl, Nq375, K375, ge375, hd375⟩ := hQ375
  have N375 := Fr.app N0 Nq375
  have Zs375 : n0 ≤ T375.heap.size := Nat.le_trans Z0 K375.1
  have Kp375 : Keep h0 T375.heap [a1] := Kp372.trans K375 all0
  have f376_0 : Old Z n0 T375.heap := Od.keep K375 all0
  have f376_1 : Exa Z T375.heap a1 "java/lang/String" := E_a1.keep K375
  have f376_2 : Fld Z T375.heap a1 "java/lang/String" "value" "[B" .null := F_v.keep K375 nin0
  have f376_3 : Fld Z T375.heap a1 "java/lang/String" "coder" "B" (.int (0 : Int32)) := F_c.keep K375 nin0
  have f376_4 : Arv Z T375.heap a2 kc .char (4 : Int32) [(.int x0), (.int x1), (.int x2), (.int x3)] (.int (0 : Int32)) := V2.keep K375 nin0
  have ne375_a1 : a1 ≠ b375 := Nat.ne_of_lt (Nat.lt_of_lt_of_le E_a1.lt ge375)
  have ne375_a2 : a2 ≠ b375 := Nat.ne_of_lt (Nat.lt_of_lt_of_le V2.lt ge375)
  refine own_by (fun _ k => XS.aloadN X0.here hx rfl (hb hby d3_0) rfl rfl (st373 _ (XS.iloadN X373.here hx rfl (hb hby d3_4) rfl (XS.ifYes X373.here hx rfl (pc0 := 5) (pc' := 27) rfl (hb hby d3_5) rfl ((if0 _ _).trans (feq (by decide : ¬ ((4 : Int32) = (0 : Int32)))).2) (by decide) (by decide) (st374 _ (XS.ifNo X374.here hx rfl (hb hby d3_30) rfl ((if0 _ _).trans (feq V_env.2.2.2.2.1).1) (XS.aloadN X374.here hx rfl (hb hby d3_33) rfl rfl (XS.iloadN X374.here hx rfl (hb hby d3_34) rfl (XS.iloadN X374.here hx rfl (hb hby d3_35) rfl (st375 _ k)))))))))) ?_
  rcases hd375 with ⟨V375, hk0, hk1, hk2, hk3⟩ | V375
  · show own_Fin _ _ _ _ _ _ _ T375 (mkF m 39 #[Rv a1, Rv a2, Iv 0, Iv 4, Nv, Uv] [(.ref b375)])
    obtain ⟨_, _, ⟨T377, L377, k377, n377⟩, -, X377, ⟨Lc377, hQ377, l377, y377, z377⟩, st377⟩ := Jvm.LawKit.callS X375 hx (y := mn10) hown (mvT hZ (own_g hw 78 rfl)) (mvT hZ (own_g hw 79 rfl)) (mvT hZ (own_g hw 73 rfl)) (mvT hZ (own_g hw 80 rfl)) (by decide) (backOf (W := 1) (rmCL4_4 l Z a0 hw [] b375 k375 [(.int x0.toInt8.toInt32), (.int x1.toInt8.toInt32), (.int x2.toInt8.toInt32), (.int x3.toInt8.toInt32)] T375.heap n0 Zs375 V375) hZ (own_g hw 80 rfl) (own_g hw 73 rfl) (by decide) (by decide)) (g := (mkF m 45 #[Rv a1, Rv a2, Iv 0, Iv 4, Nv, Rv b375] [(.int 4), (.ref b375), (.ref a1)])) rfl (by rw [hml]; rfl) (argsL := [(.ref b375), (.int (4 : Int32))]) (rest := [(.ref a1)]) (lenOf own_pd201 rfl) rfl (own_z rfl) (hb hby d3_45) (fun _ _ => ⟨rfl, rfl, (by decide : 2 + 0 ≤ _), (by decide : 12 + 0 ≤ _)⟩)
    dsimp only [Pt.U, Pt.locs, Pt.cells, Pt.slots] at X377 l377 y377 z377 st377 hQ377
    subst l377 y377 z377
    obtain ⟨rfl, Nq377, eh377⟩ := hQ377
    have N377 := Fr.app N375 Nq377
    obtain ⟨T378, h378, X378, e378, W378, st378⟩ := putFN X377 hx hZ hown (own_g hw 26 rfl) Via.refl eh377 f376_3 f376_1 (Or.inr ⟨(own_g hw 22 rfl), rfl, hnm⟩) (own_g hw 7 rfl) (ty := .byte) (v' := (.int (0 : Int32))) (by decide) rfl (by decide) (g := (mkF m 48 #[Rv a1, Rv a2, Iv 0, Iv 4, Nv, Rv b375] [(.int 0), (.ref a1)])) rfl rfl (hb hby d3_48)
    have Fw378 : Fld Z h378 a1 "java/lang/String" "coder" "B" (.int (0 : Int32)) := f376_3.same W378
    have Kp378 : Keep h0 h378 [a1] := Kp375.wr W378 (Or.inl (List.mem_of_getElem? (i := 0) rfl))
    have Zs378 : n0 ≤ h378.size := Nat.le_trans Zs375 (Keep.of_wr W378).1
    have N378 := Fr.snoc X378 N377 g_a1
    have f379_0 : Old Z n0 h378 := f376_0.wr W378 g_a1
    have f379_1 : Exa Z h378 a1 "java/lang/String" := f376_1.wr W378
    have f379_2 : Fld Z h378 a1 "java/lang/String" "value" "[B" .null := f376_2.other W378 (Or.inr (slot_ne (Or.inr (own_g hw 21 rfl)) (Or.inr (own_g hw 22 rfl)) (by decide) (t := (.array .byte)) (t' := .byte) (by decide) (by decide)))
    have f379_4 : Arv Z h378 a2 kc .char (4 : Int32) [(.int x0), (.int x1), (.int x2), (.int x3)] (.int (0 : Int32)) := f376_4.other W378 ne12
    have f379_5 : Arv Z h378 b375 k375 .byte (4 : Int32) [(.int x0.toInt8.toInt32), (.int x1.toInt8.toInt32), (.int x2.toInt8.toInt32), (.int x3.toInt8.toInt32)] (.int (0 : Int32)) := V375.other W378 (Ne.symm ne375_a1)
    obtain ⟨T380, h380, X380, e380, W380, st380⟩ := putF X378 hx hZ hown (host := "") (Or.inl (own_g hw 25 rfl)) Via.refl e378 f379_2 f379_1 (Or.inr ⟨(own_g hw 21 rfl), rfl, hnm⟩) (own_g hw 7 rfl) (ty := (.array .byte)) (by decide) rfl rfl (g := (mkF m 54 #[Rv a1, Rv a2, Iv 0, Iv 4, Nv, Rv b375] [(.ref b375), (.ref a1)])) rfl rfl (hb hby d3_54)
    have Fw380 : Fld Z h380 a1 "java/lang/String" "value" "[B" (.ref b375) := f379_2.same W380
    have Kp380 : Keep h0 h380 [a1] := Kp378.wr W380 (Or.inl (List.mem_of_getElem? (i := 0) rfl))
    have Zs380 : n0 ≤ h380.size := Nat.le_trans Zs378 (Keep.of_wr W380).1
    have N380 := Fr.snoc X380 N378 g_a1
    have f381_0 : Old Z n0 h380 := f379_0.wr W380 g_a1
    have f381_1 : Exa Z h380 a1 "java/lang/String" := f379_1.wr W380
    have f381_3 : Arv Z h380 a2 kc .char (4 : Int32) [(.int x0), (.int x1), (.int x2), (.int x3)] (.int (0 : Int32)) := f379_4.other W380 ne12
    have f381_4 : Arv Z h380 b375 k375 .byte (4 : Int32) [(.int x0.toInt8.toInt32), (.int x1.toInt8.toInt32), (.int x2.toInt8.toInt32), (.int x3.toInt8.toInt32)] (.int (0 : Int32)) := f379_5.other W380 (Ne.symm ne375_a1)
    have f381_5 : Fld Z h380 a1 "java/lang/String" "coder" "B" (.int (0 : Int32)) := Fw378.other W380 (Or.inr (slot_ne (Or.inr (own_g hw 22 rfl)) (Or.inr (own_g hw 21 rfl)) (by decide) (t := .byte) (t' := (.array .byte)) (by decide) (by decide)))
    refine own_by (fun _ k => XS.astore X375.here hx rfl (hb hby d3_39) rfl rfl (l' := #[Rv a1, Rv a2, Iv 0, Iv 4, Nv, Rv b375]) rfl (XS.aloadN X375.here hx rfl (hb hby d3_41) rfl rfl (XS.aload X375.here hx rfl (hb hby d3_42) rfl rfl (XS.iloadN X375.here hx rfl (hb hby d3_44) rfl (st377 _ (st378 _ (XS.aloadN X378.here hx rfl (hb hby d3_51) rfl rfl (XS.aload X378.here hx rfl (hb hby d3_52) rfl rfl (st380 _ k))))))))) ?_
    exact own_retV X380 hx hlk hret (hb hby d3_57) (by rw [e380]; exact ⟨_, _, rfl, N380, Kp380, Fw380, Or.inl ⟨f381_5, f381_4, hk0, hk1, hk2, hk3⟩⟩) (by decide) (by decide)
  · show own_Fin _ _ _ _ _ _ _ T375 (mkF m 39 #[Rv a1, Rv a2, Iv 0, Iv 4, Nv, Uv] [(.ref b375)])
    obtain ⟨_, _, ⟨T382, L382, k382, n382⟩, -, X382, ⟨Lc382, hQ382, l382, y382, z382⟩, st382⟩ := Jvm.LawKit.callS X375 hx (y := mn10) hown (mvT hZ (own_g hw 78 rfl)) (mvT hZ (own_g hw 79 rfl)) (mvT hZ (own_g hw 73 rfl)) (mvT hZ (own_g hw 80 rfl)) (by decide) (backOf (W := 1) (rmCL4_8 l Z a0 hw [] b375 k375 [(.int (own_lo x0)), (.int (own_hi x0)), (.int (own_lo x1)), (.int (own_hi x1)), (.int (own_lo x2)), (.int (own_hi x2)), (.int (own_lo x3)), (.int (own_hi x3))] T375.heap n0 Zs375 V375) hZ (own_g hw 80 rfl) (own_g hw 73 rfl) (by decide) (by decide)) (g := (mkF m 45 #[Rv a1, Rv a2, Iv 0, Iv 4, Nv, Rv b375] [(.int 4), (.ref b375), (.ref a1)])) rfl (by rw [hml]; rfl) (argsL := [(.ref b375), (.int (4 : Int32))]) (rest := [(.ref a1)]) (lenOf own_pd201 rfl) rfl (own_z rfl) (hb hby d3_45) (fun _ _ => ⟨rfl, rfl, (by decide : 2 + 0 ≤ _), (by decide : 12 + 0 ≤ _)⟩)
    dsimp only [Pt.U, Pt.locs, Pt.cells, Pt.slots] at X382 l382 y382 z382 st382 hQ382
    subst l382 y382 z382
    obtain ⟨rfl, Nq382, eh382⟩ := hQ382
    have N382 := Fr.app N375 Nq382
    obtain ⟨T383, h383, X383, e383, W383, st383⟩ := putFN X382 hx hZ hown (own_g hw 26 rfl) Via.refl eh382 f376_3 f376_1 (Or.inr ⟨(own_g hw 22 rfl), rfl, hnm⟩) (own_g hw 7 rfl) (ty := .byte) (v' := (.int (1 : Int32))) (by decide) rfl (by decide) (g := (mkF m 48 #[Rv a1, Rv a2, Iv 0, Iv 4, Nv, Rv b375] [(.int 1), (.ref a1)])) rfl rfl (hb hby d3_48)
    have Fw383 : Fld Z h383 a1 "java/lang/String" "coder" "B" (.int (1 : Int32)) := f376_3.same W383
    have Kp383 : Keep h0 h383 [a1] := Kp375.wr W383 (Or.inl (List.mem_of_getElem? (i := 0) rfl))
    have Zs383 : n0 ≤ h383.size := Nat.le_trans Zs375 (Keep.of_wr W383).1
    have N383 := Fr.snoc X383 N382 g_a1
    have f384_0 : Old Z n0 h383 := f376_0.wr W383 g_a1
    have f384_1 : Exa Z h383 a1 "java/lang/String" := f376_1.wr W383
    have f384_2 : Fld Z h383 a1 "java/lang/String" "value" "[B" .null := f376_2.other W383 (Or.inr (slot_ne (Or.inr (own_g hw 21 rfl)) (Or.inr (own_g hw 22 rfl)) (by decide) (t := (.array .byte)) (t' := .byte) (by decide) (by decide)))
    have f384_4 : Arv Z h383 a2 kc .char (4 : Int32) [(.int x0), (.int x1), (.int x2), (.int x3)] (.int (0 : Int32)) := f376_4.other W383 ne12
    have f384_5 : Arv Z h383 b375 k375 .byte (8 : Int32) [(.int (own_lo x0)), (.int (own_hi x0)), (.int (own_lo x1)), (.int (own_hi x1)), (.int (own_lo x2)), (.int (own_hi x2)), (.int (own_lo x3)), (.int (own_hi x3))] (.int (0 : Int32)) := V375.other W383 (Ne.symm ne375_a1)
    obtain ⟨T385, h385, X385, e385, W385, st385⟩ := putF X383 hx hZ hown (host := "") (Or.inl (own_g hw 25 rfl)) Via.refl e383 f384_2 f384_1 (Or.inr ⟨(own_g hw 21 rfl), rfl, hnm⟩) (own_g hw 7 rfl) (ty := (.array .byte)) (by decide) rfl rfl (g := (mkF m 54 #[Rv a1, Rv a2, Iv 0, Iv 4, Nv, Rv b375] [(.ref b375), (.ref a1)])) rfl rfl (hb hby d3_54)
    have Fw385 : Fld Z h385 a1 "java/lang/String" "value" "[B" (.ref b375) := f384_2.same W385
    have Kp385 : Keep h0 h385 [a1] := Kp383.wr W385 (Or.inl (List.mem_of_getElem? (i := 0) rfl))
    have Zs385 : n0 ≤ h385.size := Nat.le_trans Zs383 (Keep.of_wr W385).1
    have N385 := Fr.snoc X385 N383 g_a1
    have f386_0 : Old Z n0 h385 := f384_0.wr W385 g_a1
    have f386_1 : Exa Z h385 a1 "java/lang/String" := f384_1.wr W385
    have f386_3 : Arv Z h385 a2 kc .char (4 : Int32) [(.int x0), (.int x1), (.int x2), (.int x3)] (.int (0 : Int32)) := f384_4.other W385 ne12
    have f386_4 : Arv Z h385 b375 k375 .byte (8 : Int32) [(.int (own_lo x0)), (.int (own_hi x0)), (.int (own_lo x1)), (.int (own_hi x1)), (.int (own_lo x2)), (.int (own_hi x2)), (.int (own_lo x3)), (.int (own_hi x3))] (.int (0 : Int32)) := f384_5.other W385 (Ne.symm ne375_a1)
    have f386_5 : Fld Z h385 a1 "java/lang/String" "coder" "B" (.int (1 : Int32)) := Fw383.other W385 (Or.inr (slot_ne (Or.inr (own_g hw 22 rfl)) (Or.inr (own_g hw 21 rfl)) (by decide) (t := .byte) (t' := (.array .byte)) (by decide) (by decide)))
    refine own_by (fun _ k => XS.astore X375.here hx rfl (hb hby d3_39) rfl rfl (l' := #[Rv a1, Rv a2, Iv 0, Iv 4, Nv, Rv b375]) rfl (XS.aloadN X375.here hx rfl (hb hby d3_41) rfl rfl (XS.aload X375.here hx rfl (hb hby d3_42) rfl rfl (XS.iloadN X375.here hx rfl (hb hby d3_44) rfl (st382 _ (st383 _ (XS.aloadN X383.here hx rfl (hb hby d3_51) rfl rfl (XS.aload X383.here hx rfl (hb hby d3_52) rfl rfl (st385 _ k))))))))) ?_
    exact own_retV X385 hx hlk hret (hb hby d3_57) (by rw [e385]; exact ⟨_, _, rfl, N385, Kp385, Fw385, Or.inr ⟨f386_5, f386_4⟩⟩) (by decide) (by decide)
set_option maxRecDepth 65536 in
set_option maxHeartbeats 40000000 in
theorem rmYC4 (l : Launch) (Z : State) (a0 : Array Value) (hw : own_W a0 Z) (ws : List Jvm.Cond) (cs : Int32) (gS : Value) (a1 a2 : Addr) (kc : ClassId) (x0 x1 x2 x3 : Int32) (h0 : Heap) (n0 : Nat) (Z0 : n0 ≤ h0.size) (V_env : own_Env Z cs gS) (Od : Old Z n0 h0) (E_a1 : Exa Z h0 a1 "java/lang/String") (F_v : Fld Z h0 a1 "java/lang/String" "value" "[B" .null) (F_c : Fld Z h0 a1 "java/lang/String" "coder" "B" (.int (0 : Int32))) (g_a1 : n0 ≤ a1) (V2 : Arv Z h0 a2 kc .char (4 : Int32) [(.int x0), (.int x1), (.int x2), (.int x3)] (.int (0 : Int32))) (ne12 : a2 ≠ a1) (hx0 : own_ch x0) (hx1 : own_ch x1) (hx2 : own_ch x2) (hx3 : own_ch x3) : own_Met l Z mn2 jdk_42_method_3_code 2 none ws (own_R 5 2 12 74) #[(.ref a1), (.ref a2)] h0 (own_QYI4 Z a1 x0 x1 x2 x3 h0 n0) := by
  refine own_enter n0 (plainFor_of_name own_pn16) (fun m => ef_RR_2 m a1 a2 ) (fun p e s m below meth c s₁ hx hby hlk hml hret hown hnm hZ X0 e0 N0 => ?_)
  show own_Fin _ _ _ _ _ _ _ s₁ (mkF m 0 #[Rv a1, Rv a2] [])
  have Kp387 : Keep h0 h0 [a1] := Keep.refl h0 _
  obtain ⟨cl388, Ar388, -, S388, M388, -, -⟩ := id V2
  refine own_by (fun _ k => XS.aloadN X0.here hx rfl (hb hby d2_0) rfl rfl (XS.aloadN X0.here hx rfl (hb hby d2_1) rfl rfl (XS.iconst X0.here hx rfl (hb hby d2_2) (XS.aloadN X0.here hx rfl (hb hby d2_3) rfl rfl (X0.arraylength hx (by rw [e0]; exact Ar388.1) (State.isArrayOf_alike hZ.alike Ar388.2.1) (g := (mkF m 4 #[Rv a1, Rv a2] [(.ref a2), (.int 0), (.ref a2), (.ref a1)])) rfl rfl (hb hby d2_4) _ k))))) ?_
  rw [len_of S388 M388]
  show own_Fin _ _ _ _ _ _ _ s₁ (mkF m 5 #[Rv a1, Rv a2] [(.int 4), (.int 0), (.ref a2), (.ref a1)])
  obtain ⟨_, _, ⟨T389, L389, k389, n389⟩, -, X389, ⟨Lc389, hQ389, l389, y389, z389⟩, st389⟩ := X0.specialBack hx (y := mn1) rfl hown (mvT hZ (own_g hw 12 rfl)) (mvT hZ (own_g hw 13 rfl)) (mvT hZ (own_g hw 15 rfl)) (by decide) (backOf (W := 0) (rmYI4 l Z a0 hw [] cs gS a1 a2 kc x0 x1 x2 x3 h0 n0 Z0 V_env Od E_a1 F_v F_c g_a1 V2 ne12 hx0 hx1 hx2 hx3) hZ (own_g hw 15 rfl) (own_g hw 8 rfl) (by decide) (by decide)) (g := (mkF m 6 #[Rv a1, Rv a2] [.null, (.int 4), (.int 0), (.ref a2), (.ref a1)])) rfl (by rw [hml]; rfl) (Steps.refl _) (a := a1) (argsL := [(.ref a2), (.int (0 : Int32)), (.int (4 : Int32)), .null]) (rest := []) (lenOf own_pd38 rfl) rfl (own_z rfl) (hb hby d2_6) (fun _ _ => ⟨rfl, e0, (by decide : 0 + 2 ≤ _), (by decide : 0 + 12 ≤ _)⟩)
  dsimp only [Pt.U, Pt.locs, Pt.cells, Pt.slots] at X389 l389 y389 z389 st389 hQ389
  subst l389 y389 z389
  obtain ⟨b389, k389, rfl, Nq389, K389, Gv389, hd389⟩ := hQ389
  have N389 := Fr.app N0 Nq389
  have Zs389 : n0 ≤ T389.heap.size := Nat.le_trans Z0 K389.1
  have Kp389 : Keep h0 T389.heap [a1] := Kp387.trans K389 (allS (Or.inl (List.mem_of_getElem? (i := 0) rfl)) all0)
  have f390_0 : Old Z n0 T389.heap := Od.keep K389 (allS g_a1 all0)
  have f390_1 : Exa Z T389.heap a1 "java/lang/String" := E_a1.keep K389
  have f390_4 : Arv Z T389.heap a2 kc .char (4 : Int32) [(.int x0), (.int x1), (.int x2), (.int x3)] (.int (0 : Int32)) := V2.keep K389 (ninS ne12 nin0)
  refine own_by (fun _ k => XS.aconstNull X0.here hx rfl (hb hby d2_5) (st389.trans k)) ?_
  exact own_retV X389 hx hlk hret (hb hby d2_9) ⟨_, _, rfl, N389, Kp389, Gv389, hd389⟩ (by decide) (by decide)
theorem d8_0 : decode jdk_42_method_154_code 0 = .ok (.getstatic 38, 3) := by decide +kernel
theorem d8_3 : decode jdk_42_method_154_code 3 = .ok (.ifCond .eq 14, 3) := by decide +kernel
theorem d8_6 : decode jdk_42_method_154_code 6 = .ok (.aload_n 0, 1) := by decide +kernel
theorem d8_7 : decode jdk_42_method_154_code 7 = .ok (.getfield 15, 3) := by decide +kernel
theorem d8_10 : decode jdk_42_method_154_code 10 = .ok (.ifCond .ne 7, 3) := by decide +kernel
theorem d8_13 : decode jdk_42_method_154_code 13 = .ok (.iconst 1, 1) := by decide +kernel
theorem d8_14 : decode jdk_42_method_154_code 14 = .ok (.goto 4, 3) := by decide +kernel
theorem d8_18 : decode jdk_42_method_154_code 18 = .ok (.ireturn, 1) := by decide +kernel
theorem ef_R_1 (m : MethodId) (x0 : Addr) : entryFrame m #[(.ref x0)] 1 = mkF m 0 #[.val (.ref x0)] [] := by first | (simp [entryFrame, mkF, argsToLocals, Value.category]; done) | rfl
def own_QrmIs0 (h0 : Heap) (n0 : Nat) (v : Option Value) (h : Heap) (L : List Loc) : Prop := v = some (.int (1 : Int32)) ∧ Fr n0 L ∧ h = h0
set_option maxRecDepth 65536 in
set_option maxHeartbeats 40000000 in
theorem rmIs0 (l : Launch) (Z : State) (a0 : Array Value) (hw : own_W a0 Z) (ws : List Jvm.Cond) (cs : Int32) (gS : Value) (a1 : Addr) (h0 : Heap) (n0 : Nat) (Z0 : n0 ≤ h0.size) (V_env : own_Env Z cs gS) (Od : Old Z n0 h0) (F1 : Fld Z h0 a1 "java/lang/String" "coder" "B" (.int (0 : Int32))) : own_Met l Z mn11 jdk_42_method_154_code 1 (some .boolean) ws (own_R 0 0 0 0) #[(.ref a1)] h0 (own_QrmIs0 h0 n0) := by
  refine own_enter n0 (plainFor_of_name own_pn16) (fun m => ef_R_1 m a1 ) (fun p e s m below meth c s₁ hx hby hlk hml hret hown hnm hZ X0 e0 N0 => ?_)
  show own_Fin _ _ _ _ _ _ _ s₁ (mkF m 0 #[Rv a1] [])
  obtain ⟨T391, X391, e391, st391⟩ := getS2 X0 hx hZ hown (host := "") (Or.inl (own_g hw 46 rfl)) Via.refl e0 (V_env.2.2.2.1.ext Od.2) (g := (mkF m 0 #[Rv a1] [])) rfl (hb hby d8_0)
  obtain ⟨T392, X392, e392, st392⟩ := getF X391 hx hZ hown (host := "") (Or.inl (own_g hw 26 rfl)) Via.refl e391 F1 (g := (mkF m 7 #[Rv a1] [(.ref a1)])) rfl rfl (hb hby d8_7)
  refine own_by (fun _ k => st391 _ (XS.ifNo X391.here hx rfl (hb hby d8_3) rfl ((if0 _ _).trans (feq V_env.2.2.2.2.1).1) (XS.aloadN X391.here hx rfl (hb hby d8_6) rfl rfl (st392 _ (XS.ifNo X392.here hx rfl (hb hby d8_10) rfl ((if0 _ _).trans (teq (by decide : (0 : Int32) = (0 : Int32))).2) (XS.iconst X392.here hx rfl (hb hby d8_13) (XS.goto X392.here hx rfl (pc0 := 14) (pc' := 18) rfl (hb hby d8_14) (by decide) (by decide) k))))))) ?_
  exact own_retZ X392 hx hlk (t := .boolean) hret (by simp) (hb hby d8_18) ⟨rfl, N0, e392⟩ (by decide) (by decide)
theorem d10_0 : decode jdk_42_method_152_code 0 = .ok (.getstatic 38, 3) := by decide +kernel
theorem d10_3 : decode jdk_42_method_152_code 3 = .ok (.ifCond .eq 10, 3) := by decide +kernel
theorem d10_6 : decode jdk_42_method_152_code 6 = .ok (.aload_n 0, 1) := by decide +kernel
theorem d10_7 : decode jdk_42_method_152_code 7 = .ok (.getfield 15, 3) := by decide +kernel
theorem d10_10 : decode jdk_42_method_152_code 10 = .ok (.goto 4, 3) := by decide +kernel
theorem d10_14 : decode jdk_42_method_152_code 14 = .ok (.ireturn, 1) := by decide +kernel
def own_QrmCd0 (h0 : Heap) (n0 : Nat) (v : Option Value) (h : Heap) (L : List Loc) : Prop := v = some (.int (0 : Int32)) ∧ Fr n0 L ∧ h = h0
set_option maxRecDepth 65536 in
set_option maxHeartbeats 40000000 in
theorem rmCd0 (l : Launch) (Z : State) (a0 : Array Value) (hw : own_W a0 Z) (ws : List Jvm.Cond) (cs : Int32) (gS : Value) (a1 : Addr) (h0 : Heap) (n0 : Nat) (Z0 : n0 ≤ h0.size) (V_env : own_Env Z cs gS) (Od : Old Z n0 h0) (F1 : Fld Z h0 a1 "java/lang/String" "coder" "B" (.int (0 : Int32))) : own_Met l Z mn12 jdk_42_method_152_code 1 (some .byte) ws (own_R 0 0 0 0) #[(.ref a1)] h0 (own_QrmCd0 h0 n0) := by
  refine own_enter n0 (plainFor_of_name own_pn16) (fun m => ef_R_1 m a1 ) (fun p e s m below meth c s₁ hx hby hlk hml hret hown hnm hZ X0 e0 N0 => ?_)
  show own_Fin _ _ _ _ _ _ _ s₁ (mkF m 0 #[Rv a1] [])
  obtain ⟨T393, X393, e393, st393⟩ := getS2 X0 hx hZ hown (host := "") (Or.inl (own_g hw 46 rfl)) Via.refl e0 (V_env.2.2.2.1.ext Od.2) (g := (mkF m 0 #[Rv a1] [])) rfl (hb hby d10_0)
  obtain ⟨T394, X394, e394, st394⟩ := getF X393 hx hZ hown (host := "") (Or.inl (own_g hw 26 rfl)) Via.refl e393 F1 (g := (mkF m 7 #[Rv a1] [(.ref a1)])) rfl rfl (hb hby d10_7)
  refine own_by (fun _ k => st393 _ (XS.ifNo X393.here hx rfl (hb hby d10_3) rfl ((if0 _ _).trans (feq V_env.2.2.2.2.1).1) (XS.aloadN X393.here hx rfl (hb hby d10_6) rfl rfl (st394 _ (XS.goto X394.here hx rfl (pc0 := 10) (pc' := 14) rfl (hb hby d10_10) (by decide) (by decide) k))))) ?_
  exact own_retZ X394 hx hlk (t := .byte) hret (by simp) (hb hby d10_14) ⟨rfl, N0, e394⟩ (by decide) (by decide)
theorem d8_17 : decode jdk_42_method_154_code 17 = .ok (.iconst 0, 1) := by decide +kernel
def own_QrmIs1 (h0 : Heap) (n0 : Nat) (v : Option Value) (h : Heap) (L : List Loc) : Prop := v = some (.int (0 : Int32)) ∧ Fr n0 L ∧ h = h0
set_option maxRecDepth 65536 in
set_option maxHeartbeats 40000000 in
theorem rmIs1 (l : Launch) (Z : State) (a0 : Array Value) (hw : own_W a0 Z) (ws : List Jvm.Cond) (cs : Int32) (gS : Value) (a1 : Addr) (h0 : Heap) (n0 : Nat) (Z0 : n0 ≤ h0.size) (V_env : own_Env Z cs gS) (Od : Old Z n0 h0) (F1 : Fld Z h0 a1 "java/lang/String" "coder" "B" (.int (1 : Int32))) : own_Met l Z mn11 jdk_42_method_154_code 1 (some .boolean) ws (own_R 0 0 0 0) #[(.ref a1)] h0 (own_QrmIs1 h0 n0) := by
  refine own_enter n0 (plainFor_of_name own_pn16) (fun m => ef_R_1 m a1 ) (fun p e s m below meth c s₁ hx hby hlk hml hret hown hnm hZ X0 e0 N0 => ?_)
  show own_Fin _ _ _ _ _ _ _ s₁ (mkF m 0 #[Rv a1] [])
  obtain ⟨T395, X395, e395, st395⟩ := getS2 X0 hx hZ hown (host := "") (Or.inl (own_g hw 46 rfl)) Via.refl e0 (V_env.2.2.2.1.ext Od.2) (g := (mkF m 0 #[Rv a1] [])) rfl (hb hby d8_0)
  obtain ⟨T396, X396, e396, st396⟩ := getF X395 hx hZ hown (host := "") (Or.inl (own_g hw 26 rfl)) Via.refl e395 F1 (g := (mkF m 7 #[Rv a1] [(.ref a1)])) rfl rfl (hb hby d8_7)
  refine own_by (fun _ k => st395 _ (XS.ifNo X395.here hx rfl (hb hby d8_3) rfl ((if0 _ _).trans (feq V_env.2.2.2.2.1).1) (XS.aloadN X395.here hx rfl (hb hby d8_6) rfl rfl (st396 _ (XS.ifYes X396.here hx rfl (pc0 := 10) (pc' := 17) rfl (hb hby d8_10) rfl ((if0 _ _).trans (feq (by decide : ¬ ((1 : Int32) = (0 : Int32)))).2) (by decide) (by decide) (XS.iconst X396.here hx rfl (hb hby d8_17) k)))))) ?_
  exact own_retZ X396 hx hlk (t := .boolean) hret (by simp) (hb hby d8_18) ⟨rfl, N0, e396⟩ (by decide) (by decide)
def own_QrmCd1 (h0 : Heap) (n0 : Nat) (v : Option Value) (h : Heap) (L : List Loc) : Prop := v = some (.int (1 : Int32)) ∧ Fr n0 L ∧ h = h0
set_option maxRecDepth 65536 in
set_option maxHeartbeats 40000000 in
theorem rmCd1 (l : Launch) (Z : State) (a0 : Array Value) (hw : own_W a0 Z) (ws : List Jvm.Cond) (cs : Int32) (gS : Value) (a1 : Addr) (h0 : Heap) (n0 : Nat) (Z0 : n0 ≤ h0.size) (V_env : own_Env Z cs gS) (Od : Old Z n0 h0) (F1 : Fld Z h0 a1 "java/lang/String" "coder" "B" (.int (1 : Int32))) : own_Met l Z mn12 jdk_42_method_152_code 1 (some .byte) ws (own_R 0 0 0 0) #[(.ref a1)] h0 (own_QrmCd1 h0 n0) := by
  refine own_enter n0 (plainFor_of_name own_pn16) (fun m => ef_R_1 m a1 ) (fun p e s m below meth c s₁ hx hby hlk hml hret hown hnm hZ X0 e0 N0 => ?_)
  show own_Fin _ _ _ _ _ _ _ s₁ (mkF m 0 #[Rv a1] [])
  obtain ⟨T397, X397, e397, st397⟩ := getS2 X0 hx hZ hown (host := "") (Or.inl (own_g hw 46 rfl)) Via.refl e0 (V_env.2.2.2.1.ext Od.2) (g := (mkF m 0 #[Rv a1] [])) rfl (hb hby d10_0)
  obtain ⟨T398, X398, e398, st398⟩ := getF X397 hx hZ hown (host := "") (Or.inl (own_g hw 26 rfl)) Via.refl e397 F1 (g := (mkF m 7 #[Rv a1] [(.ref a1)])) rfl rfl (hb hby d10_7)
  refine own_by (fun _ k => st397 _ (XS.ifNo X397.here hx rfl (hb hby d10_3) rfl ((if0 _ _).trans (feq V_env.2.2.2.2.1).1) (XS.aloadN X397.here hx rfl (hb hby d10_6) rfl rfl (st398 _ (XS.goto X398.here hx rfl (pc0 := 10) (pc' := 14) rfl (hb hby d10_10) (by decide) (by decide) k))))) ?_
  exact own_retZ X398 hx hlk (t := .byte) hret (by simp) (hb hby d10_14) ⟨rfl, N0, e398⟩ (by decide) (by decide)
theorem own_pn223 : plainName "java/lang/StringLatin1" = true := by first | (simp [plainName, overriddenIn]; done) | decide +kernel
theorem d12_0 : decode jdk_43_method_4_code 0 = .ok (.iload_n 0, 1) := by decide +kernel
theorem d12_1 : decode jdk_43_method_4_code 1 = .ok (.ifCond .lt 14, 3) := by decide +kernel
theorem d12_4 : decode jdk_43_method_4_code 4 = .ok (.iload_n 0, 1) := by decide +kernel
theorem d12_5 : decode jdk_43_method_4_code 5 = .ok (.sipush 255, 3) := by decide +kernel
theorem d12_8 : decode jdk_43_method_4_code 8 = .ok (.if_icmp .gt 7, 3) := by decide +kernel
theorem d12_11 : decode jdk_43_method_4_code 11 = .ok (.iconst 1, 1) := by decide +kernel
theorem d12_12 : decode jdk_43_method_4_code 12 = .ok (.goto 4, 3) := by decide +kernel
theorem d12_16 : decode jdk_43_method_4_code 16 = .ok (.ireturn, 1) := by decide +kernel
def own_QrmCe (h0 : Heap) (n0 : Nat) (v : Option Value) (h : Heap) (L : List Loc) : Prop := v = some (.int (1 : Int32)) ∧ Fr n0 L ∧ h = h0
set_option maxRecDepth 65536 in
set_option maxHeartbeats 40000000 in
theorem rmCe (l : Launch) (Z : State) (a0 : Array Value) (hw : own_W a0 Z) (ws : List Jvm.Cond) (ch : Int32) (h0 : Heap) (n0 : Nat) (Z0 : n0 ≤ h0.size) (hq : own_cq ch) : own_Met l Z mn13 jdk_43_method_4_code 1 (some .boolean) ws (own_R 0 0 0 0) #[(.int ch)] h0 (own_QrmCe h0 n0) := by
  refine own_enter n0 (plainFor_of_name own_pn223) (fun m => ef_I_1 m ch ) (fun p e s m below meth c s₁ hx hby hlk hml hret hown hnm hZ X0 e0 N0 => ?_)
  show own_Fin _ _ _ _ _ _ _ s₁ (mkF m 0 #[Iv ch] [])
  refine own_by (fun _ k => XS.iloadN X0.here hx rfl (hb hby d12_0) rfl (XS.ifNo X0.here hx rfl (hb hby d12_1) rfl ((if0 _ _).trans (flt hq.1).1) (XS.iloadN X0.here hx rfl (hb hby d12_4) rfl (XS.sipush X0.here hx rfl (hb hby d12_5) (XS.icmpNo X0.here hx rfl (hb hby d12_8) rfl (flt hq.2.1).2.2.1 (XS.iconst X0.here hx rfl (hb hby d12_11) (XS.goto X0.here hx rfl (pc0 := 12) (pc' := 16) rfl (hb hby d12_12) (by decide) (by decide) k))))))) ?_
  exact own_retZ X0 hx hlk (t := .boolean) hret (by simp) (hb hby d12_16) ⟨rfl, N0, e0⟩ (by decide) (by decide)
theorem d13_0 : decode jdk_29_method_65_code 0 = .ok (.iload_n 0, 1) := by decide +kernel
theorem d13_1 : decode jdk_29_method_65_code 1 = .ok (.iload_n 1, 1) := by decide +kernel
theorem d13_2 : decode jdk_29_method_65_code 2 = .ok (.if_icmp .lt 7, 3) := by decide +kernel
theorem d13_5 : decode jdk_29_method_65_code 5 = .ok (.iload_n 0, 1) := by decide +kernel
theorem d13_6 : decode jdk_29_method_65_code 6 = .ok (.goto 4, 3) := by decide +kernel
theorem d13_10 : decode jdk_29_method_65_code 10 = .ok (.ireturn, 1) := by decide +kernel
theorem ef_II_2 (m : MethodId) (x0 : Int32) (x1 : Int32) : entryFrame m #[(.int x0), (.int x1)] 2 = mkF m 0 #[.val (.int x0), .val (.int x1)] [] := by first | (simp [entryFrame, mkF, argsToLocals, Value.category]; done) | rfl
def own_Qrmmax_0_0 (h0 : Heap) (n0 : Nat) (v : Option Value) (h : Heap) (L : List Loc) : Prop := v = some (.int (0 : Int32)) ∧ Fr n0 L ∧ h = h0
set_option maxRecDepth 65536 in
set_option maxHeartbeats 40000000 in
theorem rmmax_0_0 (l : Launch) (Z : State) (a0 : Array Value) (hw : own_W a0 Z) (ws : List Jvm.Cond)  (h0 : Heap) (n0 : Nat) (Z0 : n0 ≤ h0.size)  : own_Met l Z mn14 jdk_29_method_65_code 2 (some .int) ws (own_R 0 0 0 0) #[(.int (0 : Int32)), (.int (0 : Int32))] h0 (own_Qrmmax_0_0 h0 n0) := by
  refine own_enter n0 (by decide +kernel) (fun m => ef_II_2 m (0 : Int32) (0 : Int32) ) (fun p e s m below meth c s₁ hx hby hlk hml hret hown hnm hZ X0 e0 N0 => ?_)
  show own_Fin _ _ _ _ _ _ _ s₁ (mkF m 0 #[Iv 0, Iv 0] [])
  refine own_by (fun _ k => XS.iloadN X0.here hx rfl (hb hby d13_0) rfl (XS.iloadN X0.here hx rfl (hb hby d13_1) rfl (XS.icmpNo X0.here hx rfl (hb hby d13_2) rfl (flt (by decide : ¬ ((0 : Int32) < (0 : Int32)))).1 (XS.iloadN X0.here hx rfl (hb hby d13_5) rfl (XS.goto X0.here hx rfl (pc0 := 6) (pc' := 10) rfl (hb hby d13_6) (by decide) (by decide) k))))) ?_
  exact own_retI X0 hx hlk hret (hb hby d13_10) ⟨rfl, N0, e0⟩ (by decide) (by decide)
theorem d14_0 : decode jdk_29_method_69_code 0 = .ok (.iload_n 0, 1) := by decide +kernel
theorem d14_1 : decode jdk_29_method_69_code 1 = .ok (.iload_n 1, 1) := by decide +kernel
theorem d14_2 : decode jdk_29_method_69_code 2 = .ok (.if_icmp .gt 7, 3) := by decide +kernel
theorem d14_5 : decode jdk_29_method_69_code 5 = .ok (.iload_n 0, 1) := by decide +kernel
theorem d14_6 : decode jdk_29_method_69_code 6 = .ok (.goto 4, 3) := by decide +kernel
theorem d14_10 : decode jdk_29_method_69_code 10 = .ok (.ireturn, 1) := by decide +kernel
def own_Qrmmin_0_0 (h0 : Heap) (n0 : Nat) (v : Option Value) (h : Heap) (L : List Loc) : Prop := v = some (.int (0 : Int32)) ∧ Fr n0 L ∧ h = h0
set_option maxRecDepth 65536 in
set_option maxHeartbeats 40000000 in
theorem rmmin_0_0 (l : Launch) (Z : State) (a0 : Array Value) (hw : own_W a0 Z) (ws : List Jvm.Cond)  (h0 : Heap) (n0 : Nat) (Z0 : n0 ≤ h0.size)  : own_Met l Z mn15 jdk_29_method_69_code 2 (some .int) ws (own_R 0 0 0 0) #[(.int (0 : Int32)), (.int (0 : Int32))] h0 (own_Qrmmin_0_0 h0 n0) := by
  refine own_enter n0 (by decide +kernel) (fun m => ef_II_2 m (0 : Int32) (0 : Int32) ) (fun p e s m below meth c s₁ hx hby hlk hml hret hown hnm hZ X0 e0 N0 => ?_)
  show own_Fin _ _ _ _ _ _ _ s₁ (mkF m 0 #[Iv 0, Iv 0] [])
  refine own_by (fun _ k => XS.iloadN X0.here hx rfl (hb hby d14_0) rfl (XS.iloadN X0.here hx rfl (hb hby d14_1) rfl (XS.icmpNo X0.here hx rfl (hb hby d14_2) rfl (flt (by decide : ¬ ((0 : Int32) < (0 : Int32)))).2.2.1 (XS.iloadN X0.here hx rfl (hb hby d14_5) rfl (XS.goto X0.here hx rfl (pc0 := 6) (pc' := 10) rfl (hb hby d14_6) (by decide) (by decide) k))))) ?_
  exact own_retI X0 hx hlk hret (hb hby d14_10) ⟨rfl, N0, e0⟩ (by decide) (by decide)
theorem d11_0 : decode jdk_43_method_22_code 0 = .ok (.iload_n 1, 1) := by decide +kernel
theorem d11_1 : decode jdk_43_method_22_code 1 = .ok (.invokestatic 88, 3) := by decide +kernel
theorem own_pd248 : parseMethodDescriptor "(I)Z" = some ⟨[.int], some .boolean⟩ := by decide +kernel
theorem d11_4 : decode jdk_43_method_22_code 4 = .ok (.ifCond .ne 5, 3) := by decide +kernel
theorem d11_9 : decode jdk_43_method_22_code 9 = .ok (.iload_n 2, 1) := by decide +kernel
theorem d11_10 : decode jdk_43_method_22_code 10 = .ok (.iconst 0, 1) := by decide +kernel
theorem d11_11 : decode jdk_43_method_22_code 11 = .ok (.invokestatic 92, 3) := by decide +kernel
theorem own_pd253 : parseMethodDescriptor "(II)I" = some ⟨[.int, .int], some .int⟩ := by decide +kernel
theorem d11_14 : decode jdk_43_method_22_code 14 = .ok (.istore_n 2, 1) := by decide +kernel
theorem d11_15 : decode jdk_43_method_22_code 15 = .ok (.iload_n 3, 1) := by decide +kernel
theorem d11_16 : decode jdk_43_method_22_code 16 = .ok (.aload_n 0, 1) := by decide +kernel
theorem d11_17 : decode jdk_43_method_22_code 17 = .ok (.arraylength, 1) := by decide +kernel
theorem d11_18 : decode jdk_43_method_22_code 18 = .ok (.invokestatic 38, 3) := by decide +kernel
theorem d11_21 : decode jdk_43_method_22_code 21 = .ok (.istore_n 3, 1) := by decide +kernel
theorem d11_22 : decode jdk_43_method_22_code 22 = .ok (.iload_n 2, 1) := by decide +kernel
theorem d11_23 : decode jdk_43_method_22_code 23 = .ok (.iload_n 3, 1) := by decide +kernel
theorem d11_24 : decode jdk_43_method_22_code 24 = .ok (.if_icmp .lt 5, 3) := by decide +kernel
theorem d11_27 : decode jdk_43_method_22_code 27 = .ok (.iconst (-1), 1) := by decide +kernel
theorem d11_28 : decode jdk_43_method_22_code 28 = .ok (.ireturn, 1) := by decide +kernel
theorem ef_RIII_4 (m : MethodId) (x0 : Addr) (x1 : Int32) (x2 : Int32) (x3 : Int32) : entryFrame m #[(.ref x0), (.int x1), (.int x2), (.int x3)] 4 = mkF m 0 #[.val (.ref x0), .val (.int x1), .val (.int x2), .val (.int x3)] [] := by first | (simp [entryFrame, mkF, argsToLocals, Value.category]; done) | rfl
def own_QrmIo0L (ch : Int32) (h0 : Heap) (n0 : Nat) (v : Option Value) (h : Heap) (L : List Loc) : Prop := v = some (.int (own_find (ch.toInt8.toInt32) [] (0 : Int32))) ∧ Fr n0 L ∧ h = h0
set_option maxRecDepth 65536 in
set_option maxHeartbeats 40000000 in
theorem rmIo0L (l : Launch) (Z : State) (a0 : Array Value) (hw : own_W a0 Z) (ws : List Jvm.Cond) (cs : Int32) (gS : Value) (v1 : Addr) (k1 : ClassId) (ch : Int32)  (h0 : Heap) (n0 : Nat) (Z0 : n0 ≤ h0.size) (V_env : own_Env Z cs gS) (Od : Old Z n0 h0) (V1 : Arv Z h0 v1 k1 .byte (0 : Int32) [] (.int (0 : Int32))) (hq : own_cq ch) : own_Met l Z mn16 jdk_43_method_22_code 4 (some .int) ws (own_R 1 0 0 13) #[(.ref v1), (.int ch), (.int (0 : Int32)), (.int (0 : Int32))] h0 (own_QrmIo0L ch h0 n0) := by
  refine own_enter n0 (plainFor_of_name own_pn223) (fun m => ef_RIII_4 m v1 ch (0 : Int32) (0 : Int32) ) (fun p e s m below meth c s₁ hx hby hlk hml hret hown hnm hZ X0 e0 N0 => ?_)
  show own_Fin _ _ _ _ _ _ _ s₁ (mkF m 0 #[Rv v1, Iv ch, Iv 0, Iv 0] [])
  obtain ⟨_, _, ⟨T399, L399, k399, n399⟩, -, X399, ⟨Lc399, hQ399, l399, y399, z399⟩, st399⟩ := Jvm.LawKit.callS X0 hx (y := mn13) hown (mvT hZ (own_g hw 61 rfl)) (mvT hZ (own_g hw 62 rfl)) (mvT hZ (own_g hw 59 rfl)) (mvT hZ (own_g hw 63 rfl)) (by decide) (backOf (W := 0) (rmCe l Z a0 hw [] ch h0 n0 Z0 hq) hZ (own_g hw 63 rfl) (own_g hw 59 rfl) (by decide) (by decide)) (g := (mkF m 1 #[Rv v1, Iv ch, Iv 0, Iv 0] [(.int ch)])) rfl (by rw [hml]; rfl) (argsL := [(.int ch)]) (rest := []) (lenOf own_pd248 rfl) rfl (own_z rfl) (hb hby d11_1) (fun _ _ => ⟨rfl, e0, (by decide : 0 + 0 ≤ _), (by decide : 0 + 0 ≤ _)⟩)
  dsimp only [Pt.U, Pt.locs, Pt.cells, Pt.slots] at X399 l399 y399 z399 st399 hQ399
  subst l399 y399 z399
  obtain ⟨rfl, Nq399, eh399⟩ := hQ399
  have N399 := Fr.app N0 Nq399
  obtain ⟨_, _, ⟨T400, L400, k400, n400⟩, -, X400, ⟨Lc400, hQ400, l400, y400, z400⟩, st400⟩ := Jvm.LawKit.callS X399 hx (y := mn14) hown (mvT hZ (own_g hw 64 rfl)) (mvT hZ (own_g hw 65 rfl)) (mvT hZ (own_g hw 66 rfl)) (mvT hZ (own_g hw 67 rfl)) (by decide) (backOf (W := 0) (rmmax_0_0 l Z a0 hw []  h0 n0 Z0 ) hZ (own_g hw 67 rfl) (own_g hw 66 rfl) (by decide) (by decide)) (g := (mkF m 11 #[Rv v1, Iv ch, Iv 0, Iv 0] [(.int 0), (.int 0)])) rfl (by rw [hml]; rfl) (argsL := [(.int (0 : Int32)), (.int (0 : Int32))]) (rest := []) (lenOf own_pd253 rfl) rfl (own_z rfl) (hb hby d11_11) (fun _ _ => ⟨rfl, eh399, (by decide : 0 + 0 ≤ _), (by decide : 0 + 0 ≤ _)⟩)
  dsimp only [Pt.U, Pt.locs, Pt.cells, Pt.slots] at X400 l400 y400 z400 st400 hQ400
  subst l400 y400 z400
  obtain ⟨rfl, Nq400, eh400⟩ := hQ400
  have N400 := Fr.app N399 Nq400
  obtain ⟨cl401, Ar401, -, S401, M401, -, -⟩ := id V1
  refine own_by (fun _ k => XS.iloadN X0.here hx rfl (hb hby d11_0) rfl (st399 _ (XS.ifYes X399.here hx rfl (pc0 := 4) (pc' := 9) rfl (hb hby d11_4) rfl ((if0 _ _).trans (feq (by decide : ¬ ((1 : Int32) = (0 : Int32)))).2) (by decide) (by decide) (XS.iloadN X399.here hx rfl (hb hby d11_9) rfl (XS.iconst X399.here hx rfl (hb hby d11_10) (st400 _ (XS.istoreN X400.here hx rfl (hb hby d11_14) rfl (l' := #[Rv v1, Iv ch, Iv 0, Iv 0]) rfl (XS.iloadN X400.here hx rfl (hb hby d11_15) rfl (XS.aloadN X400.here hx rfl (hb hby d11_16) rfl rfl (X400.arraylength hx (by rw [eh400]; exact Ar401.1) (State.isArrayOf_alike hZ.alike Ar401.2.1) (g := (mkF m 17 #[Rv v1, Iv ch, Iv 0, Iv 0] [(.ref v1), (.int 0)])) rfl rfl (hb hby d11_17) _ k)))))))))) ?_
  rw [len_of S401 M401]
  show own_Fin _ _ _ _ _ _ _ T400 (mkF m 18 #[Rv v1, Iv ch, Iv 0, Iv 0] [(.int 0), (.int 0)])
  obtain ⟨_, _, ⟨T402, L402, k402, n402⟩, -, X402, ⟨Lc402, hQ402, l402, y402, z402⟩, st402⟩ := Jvm.LawKit.callS X400 hx (y := mn15) hown (mvT hZ (own_g hw 68 rfl)) (mvT hZ (own_g hw 69 rfl)) (mvT hZ (own_g hw 66 rfl)) (mvT hZ (own_g hw 70 rfl)) (by decide) (backOf (W := 0) (rmmin_0_0 l Z a0 hw []  h0 n0 Z0 ) hZ (own_g hw 70 rfl) (own_g hw 66 rfl) (by decide) (by decide)) (g := (mkF m 18 #[Rv v1, Iv ch, Iv 0, Iv 0] [(.int 0), (.int 0)])) rfl (by rw [hml]; rfl) (argsL := [(.int (0 : Int32)), (.int (0 : Int32))]) (rest := []) (lenOf own_pd253 rfl) rfl (own_z rfl) (hb hby d11_18) (fun _ _ => ⟨rfl, eh400, (by decide : 0 + 0 ≤ _), (by decide : 0 + 0 ≤ _)⟩)
  dsimp only [Pt.U, Pt.locs, Pt.cells, Pt.slots] at X402 l402 y402 z402 st402 hQ402
  subst l402 y402 z402
  obtain ⟨rfl, Nq402, eh402⟩ := hQ402
  have N402 := Fr.app N400 Nq402
  refine own_by (fun _ k => st402 _ (XS.istoreN X402.here hx rfl (hb hby d11_21) rfl (l' := #[Rv v1, Iv ch, Iv 0, Iv 0]) rfl (XS.iloadN X402.here hx rfl (hb hby d11_22) rfl (XS.iloadN X402.here hx rfl (hb hby d11_23) rfl (XS.icmpNo X402.here hx rfl (hb hby d11_24) rfl (flt (by decide : ¬ ((0 : Int32) < (0 : Int32)))).1 (XS.iconst X402.here hx rfl (hb hby d11_27) k)))))) ?_
  exact own_retI X402 hx hlk hret (hb hby d11_28) ⟨own_vi (by show (-1 : Int32) = _; first | (simp only [own_find, if_neg V_env.2.2.2.2.1, if_neg hq.1, if_neg hq.2.1, if_pos hq.2.2]; done) | (simp only [own_find, if_neg V_env.2.2.2.2.1, if_neg hq.1, if_neg hq.2.1, if_pos hq.2.2]; decide) | simp [own_find, V_env.2.2.2.2.1, hq.1, hq.2.1, hq.2.2]), N402, eh402⟩ (by decide) (by decide)
theorem d9_0 : decode jdk_42_method_54_code 0 = .ok (.aload_n 0, 1) := by decide +kernel
theorem d9_1 : decode jdk_42_method_54_code 1 = .ok (.getfield 9, 3) := by decide +kernel
theorem d9_4 : decode jdk_42_method_54_code 4 = .ok (.arraylength, 1) := by decide +kernel
theorem d9_5 : decode jdk_42_method_54_code 5 = .ok (.aload_n 0, 1) := by decide +kernel
theorem d9_6 : decode jdk_42_method_54_code 6 = .ok (.invokevirtual 335, 3) := by decide +kernel
theorem own_pd270 : parseMethodDescriptor "()B" = some ⟨[], some .byte⟩ := by decide +kernel
theorem d9_9 : decode jdk_42_method_54_code 9 = .ok (.ishr, 1) := by decide +kernel
theorem d9_10 : decode jdk_42_method_54_code 10 = .ok (.ireturn, 1) := by decide +kernel
def own_QrmSl0_L (h0 : Heap) (n0 : Nat) (v : Option Value) (h : Heap) (L : List Loc) : Prop := v = some (.int (0 : Int32)) ∧ Fr n0 L ∧ h = h0
set_option maxRecDepth 65536 in
set_option maxHeartbeats 40000000 in
theorem rmSl0_L (l : Launch) (Z : State) (a0 : Array Value) (hw : own_W a0 Z) (ws : List Jvm.Cond) (cs : Int32) (gS : Value) (a1 v1 : Addr) (k1 : ClassId) (vs : List Value) (h0 : Heap) (n0 : Nat) (Z0 : n0 ≤ h0.size) (V_env : own_Env Z cs gS) (Od : Old Z n0 h0) (E_a1 : Exa Z h0 a1 "java/lang/String") (F1 : Fld Z h0 a1 "java/lang/String" "value" "[B" (.ref v1)) (F2 : Fld Z h0 a1 "java/lang/String" "coder" "B" (.int (0 : Int32))) (V1 : Arv Z h0 v1 k1 .byte (0 : Int32) vs (.int (0 : Int32))) : own_Met l Z mn17 jdk_42_method_54_code 1 (some .int) ws (own_R 1 0 0 13) #[(.ref a1)] h0 (own_QrmSl0_L h0 n0) := by
  refine own_enter n0 (plainFor_of_name own_pn16) (fun m => ef_R_1 m a1 ) (fun p e s m below meth c s₁ hx hby hlk hml hret hown hnm hZ X0 e0 N0 => ?_)
  show own_Fin _ _ _ _ _ _ _ s₁ (mkF m 0 #[Rv a1] [])
  obtain ⟨T403, X403, e403, st403⟩ := getF X0 hx hZ hown (host := "") (Or.inl (own_g hw 25 rfl)) Via.refl e0 F1 (g := (mkF m 1 #[Rv a1] [(.ref a1)])) rfl rfl (hb hby d9_1)
  obtain ⟨cl404, Ar404, -, S404, M404, -, -⟩ := id V1
  refine own_by (fun _ k => XS.aloadN X0.here hx rfl (hb hby d9_0) rfl rfl (st403 _ (X403.arraylength hx (by rw [e403]; exact Ar404.1) (State.isArrayOf_alike hZ.alike Ar404.2.1) (g := (mkF m 4 #[Rv a1] [(.ref v1)])) rfl rfl (hb hby d9_4) _ k))) ?_
  rw [len_of S404 M404]
  show own_Fin _ _ _ _ _ _ _ T403 (mkF m 5 #[Rv a1] [(.int 0)])
  obtain ⟨cq405, kq405, q405a, q405b, q405c⟩ := isOf hZ e403 E_a1
  obtain ⟨_, _, ⟨T405, L405, k405, n405⟩, -, X405, ⟨Lc405, hQ405, l405, y405, z405⟩, st405⟩ := X403.virtualBack hx (y := mn12) (z := mn12) hown (mvT hZ (own_g hw 52 rfl)) (mvT hZ (own_g hw 53 rfl)) (notFace_of_selects (args := #[]) (mvT hZ (own_g hw 55 rfl))) (mvT hZ (own_g hw 55 rfl)) (mvT hZ (own_g hw 54 rfl)) (by decide) (backOf (W := 1) (rmCd0 l Z a0 hw [] cs gS a1 h0 n0 Z0 V_env Od F2) hZ (own_g hw 56 rfl) (own_g hw 8 rfl) (by decide) (by decide)) q405a q405c (g := (mkF m 6 #[Rv a1] [(.ref a1), (.int 0)])) rfl (by rw [hml]; rfl) (Steps.refl _) (argsL := []) (rest := [(.int (0 : Int32))]) (lenOf own_pd270 rfl) rfl (own_z rfl) (hb hby d9_6) (fun _ _ => ⟨rfl, e403, (by decide : 0 + 0 ≤ _), (by decide : 0 + 0 ≤ _)⟩)
  dsimp only [Pt.U, Pt.locs, Pt.cells, Pt.slots] at X405 l405 y405 z405 st405 hQ405
  subst l405 y405 z405
  obtain ⟨rfl, Nq405, eh405⟩ := hQ405
  have N405 := Fr.app N0 Nq405
  refine own_by (fun _ k => XS.aloadN X403.here hx rfl (hb hby d9_5) rfl rfl (st405.trans (XS.ishr X405.here hx rfl (hb hby d9_9) rfl k))) ?_
  show own_Fin _ _ _ _ _ _ _ T405 (mkF m 10 #[Rv a1] [(.int ((0 : Int32) >>> ((0 : Int32) &&& 31)))])
  rw [(by decide : ((0 : Int32) >>> ((0 : Int32) &&& 31)) = (0 : Int32))]
  show own_Fin _ _ _ _ _ _ _ T405 (mkF m 10 #[Rv a1] [(.int 0)])
  exact own_retI X405 hx hlk hret (hb hby d9_10) ⟨rfl, N405, eh405⟩ (by decide) (by decide)
theorem d7_0 : decode jdk_42_method_80_code 0 = .ok (.aload_n 0, 1) := by decide +kernel
theorem d7_1 : decode jdk_42_method_80_code 1 = .ok (.invokevirtual 492, 3) := by decide +kernel
theorem own_pd275 : parseMethodDescriptor "()Z" = some ⟨[], some .boolean⟩ := by decide +kernel
theorem d7_4 : decode jdk_42_method_80_code 4 = .ok (.ifCond .eq 19, 3) := by decide +kernel
theorem d7_7 : decode jdk_42_method_80_code 7 = .ok (.aload_n 0, 1) := by decide +kernel
theorem d7_8 : decode jdk_42_method_80_code 8 = .ok (.getfield 9, 3) := by decide +kernel
theorem d7_11 : decode jdk_42_method_80_code 11 = .ok (.iload_n 1, 1) := by decide +kernel
theorem d7_12 : decode jdk_42_method_80_code 12 = .ok (.iload_n 2, 1) := by decide +kernel
theorem d7_13 : decode jdk_42_method_80_code 13 = .ok (.aload_n 0, 1) := by decide +kernel
theorem d7_14 : decode jdk_42_method_80_code 14 = .ok (.invokevirtual 505, 3) := by decide +kernel
theorem own_pd283 : parseMethodDescriptor "()I" = some ⟨[], some .int⟩ := by decide +kernel
theorem d7_17 : decode jdk_42_method_80_code 17 = .ok (.invokestatic 637, 3) := by decide +kernel
theorem own_pd285 : parseMethodDescriptor "([BIII)I" = some ⟨[(.array .byte), .int, .int, .int], some .int⟩ := by decide +kernel
theorem d7_20 : decode jdk_42_method_80_code 20 = .ok (.goto 16, 3) := by decide +kernel
theorem d7_36 : decode jdk_42_method_80_code 36 = .ok (.ireturn, 1) := by decide +kernel
def own_QrmI20L (ch : Int32) (h0 : Heap) (n0 : Nat) (v : Option Value) (h : Heap) (L : List Loc) : Prop := v = some (.int (own_find (ch.toInt8.toInt32) [] (0 : Int32))) ∧ Fr n0 L ∧ h = h0
set_option maxRecDepth 65536 in
set_option maxHeartbeats 40000000 in
theorem rmI20L (l : Launch) (Z : State) (a0 : Array Value) (hw : own_W a0 Z) (ws : List Jvm.Cond) (cs : Int32) (gS : Value) (a1 : Addr) (v1 : Addr) (k1 : ClassId) (ch : Int32)  (h0 : Heap) (n0 : Nat) (Z0 : n0 ≤ h0.size) (V_env : own_Env Z cs gS) (Od : Old Z n0 h0) (E_a1 : Exa Z h0 a1 "java/lang/String") (F1 : Fld Z h0 a1 "java/lang/String" "value" "[B" (.ref v1)) (F2 : Fld Z h0 a1 "java/lang/String" "coder" "B" (.int (0 : Int32))) (V1 : Arv Z h0 v1 k1 .byte (0 : Int32) [] (.int (0 : Int32))) (hq : own_cq ch) : own_Met l Z mn18 jdk_42_method_80_code 3 (some .int) ws (own_R 2 0 0 28) #[(.ref a1), (.int ch), (.int (0 : Int32))] h0 (own_QrmI20L ch h0 n0) := by
  refine own_enter n0 (plainFor_of_name own_pn16) (fun m => ef_RII_3 m a1 ch (0 : Int32) ) (fun p e s m below meth c s₁ hx hby hlk hml hret hown hnm hZ X0 e0 N0 => ?_)
  show own_Fin _ _ _ _ _ _ _ s₁ (mkF m 0 #[Rv a1, Iv ch, Iv 0] [])
  obtain ⟨cq406, kq406, q406a, q406b, q406c⟩ := isOf hZ e0 E_a1
  obtain ⟨_, _, ⟨T406, L406, k406, n406⟩, -, X406, ⟨Lc406, hQ406, l406, y406, z406⟩, st406⟩ := X0.virtualBack hx (y := mn11) (z := mn11) hown (mvT hZ (own_g hw 41 rfl)) (mvT hZ (own_g hw 42 rfl)) (notFace_of_selects (args := #[]) (mvT hZ (own_g hw 44 rfl))) (mvT hZ (own_g hw 44 rfl)) (mvT hZ (own_g hw 43 rfl)) (by decide) (backOf (W := 0) (rmIs0 l Z a0 hw [] cs gS a1 h0 n0 Z0 V_env Od F2) hZ (own_g hw 45 rfl) (own_g hw 8 rfl) (by decide) (by decide)) q406a q406c (g := (mkF m 1 #[Rv a1, Iv ch, Iv 0] [(.ref a1)])) rfl (by rw [hml]; rfl) (Steps.refl _) (argsL := []) (rest := []) (lenOf own_pd275 rfl) rfl (own_z rfl) (hb hby d7_1) (fun _ _ => ⟨rfl, e0, (by decide : 0 + 0 ≤ _), (by decide : 0 + 0 ≤ _)⟩)
  dsimp only [Pt.U, Pt.locs, Pt.cells, Pt.slots] at X406 l406 y406 z406 st406 hQ406
  subst l406 y406 z406
  obtain ⟨rfl, Nq406, eh406⟩ := hQ406
  have N406 := Fr.app N0 Nq406
  obtain ⟨T407, X407, e407, st407⟩ := getF X406 hx hZ hown (host := "") (Or.inl (own_g hw 25 rfl)) Via.refl eh406 F1 (g := (mkF m 8 #[Rv a1, Iv ch, Iv 0] [(.ref a1)])) rfl rfl (hb hby d7_8)
  obtain ⟨cq408, kq408, q408a, q408b, q408c⟩ := isOf hZ e407 E_a1
  obtain ⟨_, _, ⟨T408, L408, k408, n408⟩, -, X408, ⟨Lc408, hQ408, l408, y408, z408⟩, st408⟩ := X407.virtualBack hx (y := mn17) (z := mn17) hown (mvT hZ (own_g hw 47 rfl)) (mvT hZ (own_g hw 48 rfl)) (notFace_of_selects (args := #[]) (mvT hZ (own_g hw 50 rfl))) (mvT hZ (own_g hw 50 rfl)) (mvT hZ (own_g hw 49 rfl)) (by decide) (backOf (W := 3) (rmSl0_L l Z a0 hw [] cs gS a1 v1 k1 [] h0 n0 Z0 V_env Od E_a1 F1 F2 V1) hZ (own_g hw 51 rfl) (own_g hw 8 rfl) (by decide) (by decide)) q408a q408c (g := (mkF m 14 #[Rv a1, Iv ch, Iv 0] [(.ref a1), (.int 0), (.int ch), (.ref v1)])) rfl (by rw [hml]; rfl) (Steps.refl _) (argsL := []) (rest := [(.int (0 : Int32)), (.int ch), (.ref v1)]) (lenOf own_pd283 rfl) rfl (own_z rfl) (hb hby d7_14) (fun _ _ => ⟨rfl, e407, (by decide : 0 + 0 ≤ _), (by decide : 0 + 0 ≤ _)⟩)
  dsimp only [Pt.U, Pt.locs, Pt.cells, Pt.slots] at X408 l408 y408 z408 st408 hQ408
  subst l408 y408 z408
  obtain ⟨rfl, Nq408, eh408⟩ := hQ408
  have N408 := Fr.app N406 Nq408
  obtain ⟨_, _, ⟨T409, L409, k409, n409⟩, -, X409, ⟨Lc409, hQ409, l409, y409, z409⟩, st409⟩ := Jvm.LawKit.callS X408 hx (y := mn16) hown (mvT hZ (own_g hw 57 rfl)) (mvT hZ (own_g hw 58 rfl)) (mvT hZ (own_g hw 59 rfl)) (mvT hZ (own_g hw 60 rfl)) (by decide) (backOf (W := 0) (rmIo0L l Z a0 hw [] cs gS v1 k1 ch  h0 n0 Z0 V_env Od V1 hq ) hZ (own_g hw 60 rfl) (own_g hw 59 rfl) (by decide) (by decide)) (g := (mkF m 17 #[Rv a1, Iv ch, Iv 0] [(.int 0), (.int 0), (.int ch), (.ref v1)])) rfl (by rw [hml]; rfl) (argsL := [(.ref v1), (.int ch), (.int (0 : Int32)), (.int (0 : Int32))]) (rest := []) (lenOf own_pd285 rfl) rfl (own_z rfl) (hb hby d7_17) (fun _ _ => ⟨rfl, eh408, (by decide : 0 + 0 ≤ _), (by decide : 0 + 0 ≤ _)⟩)
  dsimp only [Pt.U, Pt.locs, Pt.cells, Pt.slots] at X409 l409 y409 z409 st409 hQ409
  subst l409 y409 z409
  obtain ⟨rfl, Nq409, eh409⟩ := hQ409
  have N409 := Fr.app N408 Nq409
  refine own_by (fun _ k => XS.aloadN X0.here hx rfl (hb hby d7_0) rfl rfl (st406.trans (XS.ifNo X406.here hx rfl (hb hby d7_4) rfl ((if0 _ _).trans (feq (by decide : ¬ ((1 : Int32) = (0 : Int32)))).1) (XS.aloadN X406.here hx rfl (hb hby d7_7) rfl rfl (st407 _ (XS.iloadN X407.here hx rfl (hb hby d7_11) rfl (XS.iloadN X407.here hx rfl (hb hby d7_12) rfl (XS.aloadN X407.here hx rfl (hb hby d7_13) rfl rfl (st408.trans (st409 _ k)))))))))) ?_
  show own_Fin _ _ _ _ _ _ _ T409 (mkF m 20 #[Rv a1, Iv ch, Iv 0] [(.int (own_find (ch.toInt8.toInt32) [] (0 : Int32)))])
  refine own_by (fun _ k => XS.goto X409.here hx rfl (pc0 := 20) (pc' := 36) rfl (hb hby d7_20) (by decide) (by decide) k) ?_
  exact own_retI X409 hx hlk hret (hb hby d7_36) ⟨rfl, N409, eh409⟩ (by decide) (by decide)
theorem d6_0 : decode jdk_42_method_79_code 0 = .ok (.aload_n 0, 1) := by decide +kernel
theorem d6_1 : decode jdk_42_method_79_code 1 = .ok (.iload_n 1, 1) := by decide +kernel
theorem d6_2 : decode jdk_42_method_79_code 2 = .ok (.iconst 0, 1) := by decide +kernel
theorem d6_3 : decode jdk_42_method_79_code 3 = .ok (.invokevirtual 633, 3) := by decide +kernel
theorem d6_6 : decode jdk_42_method_79_code 6 = .ok (.ireturn, 1) := by decide +kernel
def own_QrmIx0L (ch : Int32) (h0 : Heap) (n0 : Nat) (v : Option Value) (h : Heap) (L : List Loc) : Prop := v = some (.int (own_find (ch.toInt8.toInt32) [] (0 : Int32))) ∧ Fr n0 L ∧ h = h0
set_option maxRecDepth 65536 in
set_option maxHeartbeats 40000000 in
theorem rmIx0L (l : Launch) (Z : State) (a0 : Array Value) (hw : own_W a0 Z) (ws : List Jvm.Cond) (cs : Int32) (gS : Value) (a1 : Addr) (v1 : Addr) (k1 : ClassId) (ch : Int32)  (h0 : Heap) (n0 : Nat) (Z0 : n0 ≤ h0.size) (V_env : own_Env Z cs gS) (Od : Old Z n0 h0) (E_a1 : Exa Z h0 a1 "java/lang/String") (F1 : Fld Z h0 a1 "java/lang/String" "value" "[B" (.ref v1)) (F2 : Fld Z h0 a1 "java/lang/String" "coder" "B" (.int (0 : Int32))) (V1 : Arv Z h0 v1 k1 .byte (0 : Int32) [] (.int (0 : Int32))) (hq : own_cq ch) : own_Met l Z mn19 jdk_42_method_79_code 2 (some .int) ws (own_R 3 0 0 42) #[(.ref a1), (.int ch)] h0 (own_QrmIx0L ch h0 n0) := by
  refine own_enter n0 (plainFor_of_name own_pn16) (fun m => ef_RI_2 m a1 ch ) (fun p e s m below meth c s₁ hx hby hlk hml hret hown hnm hZ X0 e0 N0 => ?_)
  show own_Fin _ _ _ _ _ _ _ s₁ (mkF m 0 #[Rv a1, Iv ch] [])
  obtain ⟨cq410, kq410, q410a, q410b, q410c⟩ := isOf hZ e0 E_a1
  obtain ⟨_, _, ⟨T410, L410, k410, n410⟩, -, X410, ⟨Lc410, hQ410, l410, y410, z410⟩, st410⟩ := X0.virtualBack hx (y := mn18) (z := mn18) hown (mvT hZ (own_g hw 36 rfl)) (mvT hZ (own_g hw 37 rfl)) (notFace_of_selects (args := #[]) (mvT hZ (own_g hw 39 rfl))) (mvT hZ (own_g hw 39 rfl)) (mvT hZ (own_g hw 38 rfl)) (by decide) (backOf (W := 0) (rmI20L l Z a0 hw [] cs gS a1 v1 k1 ch  h0 n0 Z0 V_env Od E_a1 F1 F2 V1 hq ) hZ (own_g hw 40 rfl) (own_g hw 8 rfl) (by decide) (by decide)) q410a q410c (g := (mkF m 3 #[Rv a1, Iv ch] [(.int 0), (.int ch), (.ref a1)])) rfl (by rw [hml]; rfl) (Steps.refl _) (argsL := [(.int ch), (.int (0 : Int32))]) (rest := []) (lenOf own_pd253 rfl) rfl (own_z rfl) (hb hby d6_3) (fun _ _ => ⟨rfl, e0, (by decide : 0 + 0 ≤ _), (by decide : 0 + 0 ≤ _)⟩)
  dsimp only [Pt.U, Pt.locs, Pt.cells, Pt.slots] at X410 l410 y410 z410 st410 hQ410
  subst l410 y410 z410
  obtain ⟨rfl, Nq410, eh410⟩ := hQ410
  have N410 := Fr.app N0 Nq410
  refine own_by (fun _ k => XS.aloadN X0.here hx rfl (hb hby d6_0) rfl rfl (XS.iloadN X0.here hx rfl (hb hby d6_1) rfl (XS.iconst X0.here hx rfl (hb hby d6_2) (st410.trans k)))) ?_
  exact own_retI X410 hx hlk hret (hb hby d6_6) ⟨rfl, N410, eh410⟩ (by decide) (by decide)
theorem own_pn293 : plainName "com/example/munka/munka/model/NulFree" = true := by first | (simp [plainName, overriddenIn]; done) | decide +kernel
theorem d5_0 : decode prog_26_method_2_code 0 = .ok (.aload_n 0, 1) := by decide +kernel
theorem d5_1 : decode prog_26_method_2_code 1 = .ok (.iconst 0, 1) := by decide +kernel
theorem d5_2 : decode prog_26_method_2_code 2 = .ok (.invokevirtual 7, 3) := by decide +kernel
theorem d5_5 : decode prog_26_method_2_code 5 = .ok (.ifCond .ge 7, 3) := by decide +kernel
theorem d5_8 : decode prog_26_method_2_code 8 = .ok (.iconst 1, 1) := by decide +kernel
theorem d5_9 : decode prog_26_method_2_code 9 = .ok (.goto 4, 3) := by decide +kernel
theorem d5_13 : decode prog_26_method_2_code 13 = .ok (.ireturn, 1) := by decide +kernel
theorem d5_12 : decode prog_26_method_2_code 12 = .ok (.iconst 0, 1) := by decide +kernel
def own_QIS0L (h0 : Heap) (n0 : Nat) (v : Option Value) (h : Heap) (L : List Loc) : Prop := v = some (.int (own_neg (own_find ((0 : Int32).toInt8.toInt32) [] (0 : Int32)))) ∧ Fr n0 L ∧ h = h0
set_option maxRecDepth 65536 in
set_option maxHeartbeats 40000000 in
theorem rmIS0L (l : Launch) (Z : State) (a0 : Array Value) (hw : own_W a0 Z) (ws : List Jvm.Cond) (cs : Int32) (gS : Value) (a1 v1 : Addr) (k1 : ClassId)  (h0 : Heap) (n0 : Nat) (Z0 : n0 ≤ h0.size) (V_env : own_Env Z cs gS) (Od : Old Z n0 h0) (E_a1 : Exa Z h0 a1 "java/lang/String") (F1 : Fld Z h0 a1 "java/lang/String" "value" "[B" (.ref v1)) (F2 : Fld Z h0 a1 "java/lang/String" "coder" "B" (.int (0 : Int32))) (V1 : Arv Z h0 v1 k1 .byte (0 : Int32) [] (.int (0 : Int32))) : own_Met l Z mn20 prog_26_method_2_code 1 (some .boolean) ws (own_R 4 0 0 55) #[(.ref a1)] h0 (own_QIS0L h0 n0) := by
  refine own_enter n0 (plainFor_of_name own_pn293) (fun m => ef_R_1 m a1 ) (fun p e s m below meth c s₁ hx hby hlk hml hret hown hnm hZ X0 e0 N0 => ?_)
  show own_Fin _ _ _ _ _ _ _ s₁ (mkF m 0 #[Rv a1] [])
  obtain ⟨cq411, kq411, q411a, q411b, q411c⟩ := isOf hZ e0 E_a1
  obtain ⟨_, _, ⟨T411, L411, k411, n411⟩, -, X411, ⟨Lc411, hQ411, l411, y411, z411⟩, st411⟩ := X0.virtualBack hx (y := mn19) (z := mn19) hown (mvT hZ (own_g hw 31 rfl)) (mvT hZ (own_g hw 32 rfl)) (notFace_of_selects (args := #[]) (mvT hZ (own_g hw 34 rfl))) (mvT hZ (own_g hw 34 rfl)) (mvT hZ (own_g hw 33 rfl)) (by decide) (backOf (W := 0) (rmIx0L l Z a0 hw [] cs gS a1 v1 k1 (0 : Int32)  h0 n0 Z0 V_env Od E_a1 F1 F2 V1 ⟨by decide, by decide, by decide⟩ ) hZ (own_g hw 35 rfl) (own_g hw 8 rfl) (by decide) (by decide)) q411a q411c (g := (mkF m 2 #[Rv a1] [(.int 0), (.ref a1)])) rfl (by rw [hml]; rfl) (Steps.refl _) (argsL := [(.int (0 : Int32))]) (rest := []) (lenOf own_pd52 rfl) rfl (own_z rfl) (hb hby d5_2) (fun _ _ => ⟨rfl, e0, (by decide : 0 + 0 ≤ _), (by decide : 0 + 0 ≤ _)⟩)
  dsimp only [Pt.U, Pt.locs, Pt.cells, Pt.slots] at X411 l411 y411 z411 st411 hQ411
  subst l411 y411 z411
  obtain ⟨rfl, Nq411, eh411⟩ := hQ411
  have N411 := Fr.app N0 Nq411
  refine own_by (fun _ k => XS.aloadN X0.here hx rfl (hb hby d5_0) rfl rfl (XS.iconst X0.here hx rfl (hb hby d5_1) (st411.trans k))) ?_
  show own_Fin _ _ _ _ _ _ _ T411 (mkF m 5 #[Rv a1] [(.int (own_find ((0 : Int32).toInt8.toInt32) [] (0 : Int32)))])
  by_cases hc5_412 : (own_find ((0 : Int32).toInt8.toInt32) [] (0 : Int32)) < (0 : Int32)
  · show own_Fin _ _ _ _ _ _ _ T411 (mkF m 5 #[Rv a1] [(.int (own_find ((0 : Int32).toInt8.toInt32) [] (0 : Int32)))])
    refine own_by (fun _ k => XS.ifNo X411.here hx rfl (hb hby d5_5) rfl ((if0 _ _).trans (tlt hc5_412).2.1) (XS.iconst X411.here hx rfl (hb hby d5_8) (XS.goto X411.here hx rfl (pc0 := 9) (pc' := 13) rfl (hb hby d5_9) (by decide) (by decide) k))) ?_
    exact own_retZ X411 hx hlk (t := .boolean) hret (by simp) (hb hby d5_13) ⟨own_vi (by show (1 : Int32) = _; first | (simp only [own_neg, if_neg V_env.2.2.2.2.1, if_pos hc5_412]; done) | (simp only [own_neg, if_neg V_env.2.2.2.2.1, if_pos hc5_412]; decide) | simp [own_neg, V_env.2.2.2.2.1, hc5_412]), N411, eh411⟩ (by decide) (by decide)
  · show own_Fin _ _ _ _ _ _ _ T411 (mkF m 5 #[Rv a1] [(.int (own_find ((0 : Int32).toInt8.toInt32) [] (0 : Int32)))])
    refine own_by (fun _ k => XS.ifYes X411.here hx rfl (pc0 := 5) (pc' := 12) rfl (hb hby d5_5) rfl ((if0 _ _).trans (flt hc5_412).2.1) (by decide) (by decide) (XS.iconst X411.here hx rfl (hb hby d5_12) k)) ?_
    exact own_retZ X411 hx hlk (t := .boolean) hret (by simp) (hb hby d5_13) ⟨own_vi (by show (0 : Int32) = _; first | (simp only [own_neg, if_neg V_env.2.2.2.2.1, if_neg hc5_412]; done) | (simp only [own_neg, if_neg V_env.2.2.2.2.1, if_neg hc5_412]; decide) | simp [own_neg, V_env.2.2.2.2.1, hc5_412]), N411, eh411⟩ (by decide) (by decide)
theorem d18_0 : decode jdk_43_method_23_code 0 = .ok (.iload_n 1, 1) := by decide +kernel
theorem d18_1 : decode jdk_43_method_23_code 1 = .ok (.i2b, 1) := by decide +kernel
theorem d18_2 : decode jdk_43_method_23_code 2 = .ok (.istore 4, 2) := by decide +kernel
theorem d18_4 : decode jdk_43_method_23_code 4 = .ok (.iload_n 2, 1) := by decide +kernel
theorem d18_5 : decode jdk_43_method_23_code 5 = .ok (.istore 5, 2) := by decide +kernel
theorem d18_7 : decode jdk_43_method_23_code 7 = .ok (.iload 5, 2) := by decide +kernel
theorem d18_9 : decode jdk_43_method_23_code 9 = .ok (.iload_n 3, 1) := by decide +kernel
theorem d18_10 : decode jdk_43_method_23_code 10 = .ok (.if_icmp .ge 21, 3) := by decide +kernel
theorem d18_13 : decode jdk_43_method_23_code 13 = .ok (.aload_n 0, 1) := by decide +kernel
theorem d18_14 : decode jdk_43_method_23_code 14 = .ok (.iload 5, 2) := by decide +kernel
theorem d18_16 : decode jdk_43_method_23_code 16 = .ok (.baload, 1) := by decide +kernel
theorem d18_17 : decode jdk_43_method_23_code 17 = .ok (.iload 4, 2) := by decide +kernel
theorem d18_19 : decode jdk_43_method_23_code 19 = .ok (.if_icmp .ne 6, 3) := by decide +kernel
theorem d18_22 : decode jdk_43_method_23_code 22 = .ok (.iload 5, 2) := by decide +kernel
theorem d18_24 : decode jdk_43_method_23_code 24 = .ok (.ireturn, 1) := by decide +kernel
theorem d18_25 : decode jdk_43_method_23_code 25 = .ok (.iinc 5 1, 3) := by decide +kernel
theorem d18_28 : decode jdk_43_method_23_code 28 = .ok (.goto (-21), 3) := by decide +kernel
theorem d18_31 : decode jdk_43_method_23_code 31 = .ok (.iconst (-1), 1) := by decide +kernel
theorem d18_32 : decode jdk_43_method_23_code 32 = .ok (.ireturn, 1) := by decide +kernel
theorem ef_RIII_6 (m : MethodId) (x0 : Addr) (x1 : Int32) (x2 : Int32) (x3 : Int32) : entryFrame m #[(.ref x0), (.int x1), (.int x2), (.int x3)] 6 = mkF m 0 #[.val (.ref x0), .val (.int x1), .val (.int x2), .val (.int x3), .unset, .unset] [] := by first | (simp [entryFrame, mkF, argsToLocals, Value.category]; done) | rfl
def own_QrmIc1L (ch : Int32) (x0 : Int32) (h0 : Heap) (n0 : Nat) (v : Option Value) (h : Heap) (L : List Loc) : Prop := v = some (.int (own_find (ch.toInt8.toInt32) [x0.toInt8.toInt32] (0 : Int32))) ∧ Fr n0 L ∧ h = h0
set_option maxRecDepth 65536 in
set_option maxHeartbeats 40000000 in
theorem rmIc1L (l : Launch) (Z : State) (a0 : Array Value) (hw : own_W a0 Z) (ws : List Jvm.Cond) (cs : Int32) (gS : Value) (v1 : Addr) (k1 : ClassId) (ch : Int32) (x0 : Int32) (h0 : Heap) (n0 : Nat) (Z0 : n0 ≤ h0.size) (V_env : own_Env Z cs gS) (Od : Old Z n0 h0) (V1 : Arv Z h0 v1 k1 .byte (1 : Int32) [(.int x0.toInt8.toInt32)] (.int (0 : Int32))) (hq : own_cq ch) : own_Met l Z mn21 jdk_43_method_23_code 6 (some .int) ws (own_R 0 0 0 0) #[(.ref v1), (.int ch), (.int (0 : Int32)), (.int (1 : Int32))] h0 (own_QrmIc1L ch x0 h0 n0) := by
  refine own_enter n0 (plainFor_of_name own_pn223) (fun m => ef_RIII_6 m v1 ch (0 : Int32) (1 : Int32) ) (fun p e s m below meth c s₁ hx hby hlk hml hret hown hnm hZ X0 e0 N0 => ?_)
  show own_Fin _ _ _ _ _ _ _ s₁ (mkF m 0 #[Rv v1, Iv ch, Iv 0, Iv 1, Uv, Uv] [])
  obtain ⟨cl413, Ar413, -, S413, M413, H413, -⟩ := id V1
  have hin413 : ¬ ((0 : Int32) < 0 ∨ cl413.slots.size ≤ ((0 : Int32)).toNatClampNeg) := inb_of S413 ⟨by decide, by decide⟩
  have hat413 : cl413.slots[((0 : Int32)).toNatClampNeg]? = some (.int x0.toInt8.toInt32) := Has.at H413 hin413 rfl
  refine own_by (fun _ k => XS.iloadN X0.here hx rfl (hb hby d18_0) rfl (XS.i2b X0.here hx rfl (hb hby d18_1) rfl (XS.istore X0.here hx rfl (hb hby d18_2) rfl (l' := #[Rv v1, Iv ch, Iv 0, Iv 1, Iv (ch.toInt8.toInt32), Uv]) rfl (XS.iloadN X0.here hx rfl (hb hby d18_4) rfl (XS.istore X0.here hx rfl (hb hby d18_5) rfl (l' := #[Rv v1, Iv ch, Iv 0, Iv 1, Iv (ch.toInt8.toInt32), Iv 0]) rfl (XS.iload X0.here hx rfl (hb hby d18_7) rfl (XS.iloadN X0.here hx rfl (hb hby d18_9) rfl (XS.icmpNo X0.here hx rfl (hb hby d18_10) rfl (tlt (by decide : (0 : Int32) < (1 : Int32))).2.1 (XS.aloadN X0.here hx rfl (hb hby d18_13) rfl rfl (XS.iload X0.here hx rfl (hb hby d18_14) rfl k)))))))))) ?_
  show own_Fin _ _ _ _ _ _ _ s₁ (mkF m 16 #[Rv v1, Iv ch, Iv 0, Iv 1, Iv (ch.toInt8.toInt32), Iv 0] [(.int 0), (.ref v1)])
  refine own_by (fun _ k => X0.baloadBytes hx (j := (0 : Int32)) (v := (.int x0.toInt8.toInt32)) (by rw [e0]; exact Ar413.1) (State.isArrayOf_alike hZ.alike Ar413.2.1) Ar413.2.2 hin413 hat413 (g := (mkF m 16 #[Rv v1, Iv ch, Iv 0, Iv 1, Iv (ch.toInt8.toInt32), Iv 0] [(.int 0), (.ref v1)])) rfl rfl (hb hby d18_16) _ (XS.iload X0.here hx rfl (hb hby d18_17) rfl k)) ?_
  show own_Fin _ _ _ _ _ _ _ s₁ (mkF m 19 #[Rv v1, Iv ch, Iv 0, Iv 1, Iv (ch.toInt8.toInt32), Iv 0] [(.int (ch.toInt8.toInt32)), (.int x0.toInt8.toInt32)])
  by_cases hc19_414 : x0.toInt8.toInt32 = (ch.toInt8.toInt32)
  · show own_Fin _ _ _ _ _ _ _ s₁ (mkF m 19 #[Rv v1, Iv ch, Iv 0, Iv 1, Iv (ch.toInt8.toInt32), Iv 0] [(.int (ch.toInt8.toInt32)), (.int x0.toInt8.toInt32)])
    refine own_by (fun _ k => XS.icmpNo X0.here hx rfl (hb hby d18_19) rfl (teq hc19_414).2 (XS.iload X0.here hx rfl (hb hby d18_22) rfl k)) ?_
    exact own_retI X0 hx hlk hret (hb hby d18_24) ⟨own_vi (by show (0 : Int32) = _; first | (simp only [own_find, if_neg V_env.2.2.2.2.1, if_neg hq.1, if_neg hq.2.1, if_pos hq.2.2, if_pos hc19_414]; done) | (simp only [own_find, if_neg V_env.2.2.2.2.1, if_neg hq.1, if_neg hq.2.1, if_pos hq.2.2, if_pos hc19_414]; decide) | simp [own_find, V_env.2.2.2.2.1, hq.1, hq.2.1, hq.2.2, hc19_414]), N0, e0⟩ (by decide) (by decide)
  · show own_Fin _ _ _ _ _ _ _ s₁ (mkF m 19 #[Rv v1, Iv ch, Iv 0, Iv 1, Iv (ch.toInt8.toInt32), Iv 0] [(.int (ch.toInt8.toInt32)), (.int x0.toInt8.toInt32)])
    refine own_by (fun _ k => XS.icmpYes X0.here hx rfl (pc0 := 19) (pc' := 25) rfl (hb hby d18_19) rfl (feq hc19_414).2 (by decide) (by decide) (XS.iinc X0.here hx rfl (hb hby d18_25) rfl (l' := #[Rv v1, Iv ch, Iv 0, Iv 1, Iv (ch.toInt8.toInt32), Iv ((0 : Int32) + (1 : Int32))]) rfl k)) ?_
    show own_Fin _ _ _ _ _ _ _ s₁ (mkF m 28 #[Rv v1, Iv ch, Iv 0, Iv 1, Iv (ch.toInt8.toInt32), Iv ((0 : Int32) + (1 : Int32))] [])
    rw [(by decide : ((0 : Int32) + (1 : Int32)) = (1 : Int32))]
    show own_Fin _ _ _ _ _ _ _ s₁ (mkF m 28 #[Rv v1, Iv ch, Iv 0, Iv 1, Iv (ch.toInt8.toInt32), Iv 1] [])
    refine own_by (fun _ k => XS.goto X0.here hx rfl (pc0 := 28) (pc' := 7) rfl (hb hby d18_28) (by decide) (by decide) (XS.iload X0.here hx rfl (hb hby d18_7) rfl (XS.iloadN X0.here hx rfl (hb hby d18_9) rfl (XS.icmpYes X0.here hx rfl (pc0 := 10) (pc' := 31) rfl (hb hby d18_10) rfl (flt (by decide : ¬ ((1 : Int32) < (1 : Int32)))).2.1 (by decide) (by decide) (XS.iconst X0.here hx rfl (hb hby d18_31) k))))) ?_
    exact own_retI X0 hx hlk hret (hb hby d18_32) ⟨own_vi (by show (-1 : Int32) = _; first | (simp only [own_find, if_neg V_env.2.2.2.2.1, if_neg hq.1, if_neg hq.2.1, if_pos hq.2.2, if_neg hc19_414]; done) | (simp only [own_find, if_neg V_env.2.2.2.2.1, if_neg hq.1, if_neg hq.2.1, if_pos hq.2.2, if_neg hc19_414]; decide) | simp [own_find, V_env.2.2.2.2.1, hq.1, hq.2.1, hq.2.2, hc19_414]), N0, e0⟩ (by decide) (by decide)
def own_Qrmmin_1_1 (h0 : Heap) (n0 : Nat) (v : Option Value) (h : Heap) (L : List Loc) : Prop := v = some (.int (1 : Int32)) ∧ Fr n0 L ∧ h = h0
set_option maxRecDepth 65536 in
set_option maxHeartbeats 40000000 in
theorem rmmin_1_1 (l : Launch) (Z : State) (a0 : Array Value) (hw : own_W a0 Z) (ws : List Jvm.Cond)  (h0 : Heap) (n0 : Nat) (Z0 : n0 ≤ h0.size)  : own_Met l Z mn15 jdk_29_method_69_code 2 (some .int) ws (own_R 0 0 0 0) #[(.int (1 : Int32)), (.int (1 : Int32))] h0 (own_Qrmmin_1_1 h0 n0) := by
  refine own_enter n0 (by decide +kernel) (fun m => ef_II_2 m (1 : Int32) (1 : Int32) ) (fun p e s m below meth c s₁ hx hby hlk hml hret hown hnm hZ X0 e0 N0 => ?_)
  show own_Fin _ _ _ _ _ _ _ s₁ (mkF m 0 #[Iv 1, Iv 1] [])
  refine own_by (fun _ k => XS.iloadN X0.here hx rfl (hb hby d14_0) rfl (XS.iloadN X0.here hx rfl (hb hby d14_1) rfl (XS.icmpNo X0.here hx rfl (hb hby d14_2) rfl (flt (by decide : ¬ ((1 : Int32) < (1 : Int32)))).2.2.1 (XS.iloadN X0.here hx rfl (hb hby d14_5) rfl (XS.goto X0.here hx rfl (pc0 := 6) (pc' := 10) rfl (hb hby d14_6) (by decide) (by decide) k))))) ?_
  exact own_retI X0 hx hlk hret (hb hby d14_10) ⟨rfl, N0, e0⟩ (by decide) (by decide)
theorem d11_29 : decode jdk_43_method_22_code 29 = .ok (.aload_n 0, 1) := by decide +kernel
theorem d11_30 : decode jdk_43_method_22_code 30 = .ok (.iload_n 1, 1) := by decide +kernel
theorem d11_31 : decode jdk_43_method_22_code 31 = .ok (.iload_n 2, 1) := by decide +kernel
theorem d11_32 : decode jdk_43_method_22_code 32 = .ok (.iload_n 3, 1) := by decide +kernel
theorem d11_33 : decode jdk_43_method_22_code 33 = .ok (.invokestatic 95, 3) := by decide +kernel
theorem d11_36 : decode jdk_43_method_22_code 36 = .ok (.ireturn, 1) := by decide +kernel
def own_QrmIo1L (ch : Int32) (x0 : Int32) (h0 : Heap) (n0 : Nat) (v : Option Value) (h : Heap) (L : List Loc) : Prop := v = some (.int (own_find (ch.toInt8.toInt32) [x0.toInt8.toInt32] (0 : Int32))) ∧ Fr n0 L ∧ h = h0
set_option maxRecDepth 65536 in
set_option maxHeartbeats 40000000 in
theorem rmIo1L (l : Launch) (Z : State) (a0 : Array Value) (hw : own_W a0 Z) (ws : List Jvm.Cond) (cs : Int32) (gS : Value) (v1 : Addr) (k1 : ClassId) (ch : Int32) (x0 : Int32) (h0 : Heap) (n0 : Nat) (Z0 : n0 ≤ h0.size) (V_env : own_Env Z cs gS) (Od : Old Z n0 h0) (V1 : Arv Z h0 v1 k1 .byte (1 : Int32) [(.int x0.toInt8.toInt32)] (.int (0 : Int32))) (hq : own_cq ch) : own_Met l Z mn16 jdk_43_method_22_code 4 (some .int) ws (own_R 1 0 0 17) #[(.ref v1), (.int ch), (.int (0 : Int32)), (.int (1 : Int32))] h0 (own_QrmIo1L ch x0 h0 n0) := by
  refine own_enter n0 (plainFor_of_name own_pn223) (fun m => ef_RIII_4 m v1 ch (0 : Int32) (1 : Int32) ) (fun p e s m below meth c s₁ hx hby hlk hml hret hown hnm hZ X0 e0 N0 => ?_)
  show own_Fin _ _ _ _ _ _ _ s₁ (mkF m 0 #[Rv v1, Iv ch, Iv 0, Iv 1] [])
  obtain ⟨_, _, ⟨T415, L415, k415, n415⟩, -, X415, ⟨Lc415, hQ415, l415, y415, z415⟩, st415⟩ := Jvm.LawKit.callS X0 hx (y := mn13) hown (mvT hZ (own_g hw 61 rfl)) (mvT hZ (own_g hw 62 rfl)) (mvT hZ (own_g hw 59 rfl)) (mvT hZ (own_g hw 63 rfl)) (by decide) (backOf (W := 0) (rmCe l Z a0 hw [] ch h0 n0 Z0 hq) hZ (own_g hw 63 rfl) (own_g hw 59 rfl) (by decide) (by decide)) (g := (mkF m 1 #[Rv v1, Iv ch, Iv 0, Iv 1] [(.int ch)])) rfl (by rw [hml]; rfl) (argsL := [(.int ch)]) (rest := []) (lenOf own_pd248 rfl) rfl (own_z rfl) (hb hby d11_1) (fun _ _ => ⟨rfl, e0, (by decide : 0 + 0 ≤ _), (by decide : 0 + 0 ≤ _)⟩)
  dsimp only [Pt.U, Pt.locs, Pt.cells, Pt.slots] at X415 l415 y415 z415 st415 hQ415
  subst l415 y415 z415
  obtain ⟨rfl, Nq415, eh415⟩ := hQ415
  have N415 := Fr.app N0 Nq415
  obtain ⟨_, _, ⟨T416, L416, k416, n416⟩, -, X416, ⟨Lc416, hQ416, l416, y416, z416⟩, st416⟩ := Jvm.LawKit.callS X415 hx (y := mn14) hown (mvT hZ (own_g hw 64 rfl)) (mvT hZ (own_g hw 65 rfl)) (mvT hZ (own_g hw 66 rfl)) (mvT hZ (own_g hw 67 rfl)) (by decide) (backOf (W := 0) (rmmax_0_0 l Z a0 hw []  h0 n0 Z0 ) hZ (own_g hw 67 rfl) (own_g hw 66 rfl) (by decide) (by decide)) (g := (mkF m 11 #[Rv v1, Iv ch, Iv 0, Iv 1] [(.int 0), (.int 0)])) rfl (by rw [hml]; rfl) (argsL := [(.int (0 : Int32)), (.int (0 : Int32))]) (rest := []) (lenOf own_pd253 rfl) rfl (own_z rfl) (hb hby d11_11) (fun _ _ => ⟨rfl, eh415, (by decide : 0 + 0 ≤ _), (by decide : 0 + 0 ≤ _)⟩)
  dsimp only [Pt.U, Pt.locs, Pt.cells, Pt.slots] at X416 l416 y416 z416 st416 hQ416
  subst l416 y416 z416
  obtain ⟨rfl, Nq416, eh416⟩ := hQ416
  have N416 := Fr.app N415 Nq416
  obtain ⟨cl417, Ar417, -, S417, M417, -, -⟩ := id V1
  refine own_by (fun _ k => XS.iloadN X0.here hx rfl (hb hby d11_0) rfl (st415 _ (XS.ifYes X415.here hx rfl (pc0 := 4) (pc' := 9) rfl (hb hby d11_4) rfl ((if0 _ _).trans (feq (by decide : ¬ ((1 : Int32) = (0 : Int32)))).2) (by decide) (by decide) (XS.iloadN X415.here hx rfl (hb hby d11_9) rfl (XS.iconst X415.here hx rfl (hb hby d11_10) (st416 _ (XS.istoreN X416.here hx rfl (hb hby d11_14) rfl (l' := #[Rv v1, Iv ch, Iv 0, Iv 1]) rfl (XS.iloadN X416.here hx rfl (hb hby d11_15) rfl (XS.aloadN X416.here hx rfl (hb hby d11_16) rfl rfl (X416.arraylength hx (by rw [eh416]; exact Ar417.1) (State.isArrayOf_alike hZ.alike Ar417.2.1) (g := (mkF m 17 #[Rv v1, Iv ch, Iv 0, Iv 1] [(.ref v1), (.int 1)])) rfl rfl (hb hby d11_17) _ k)))))))))) ?_
  rw [len_of S417 M417]
  show own_Fin _ _ _ _ _ _ _ T416 (mkF m 18 #[Rv v1, Iv ch, Iv 0, Iv 1] [(.int 1), (.int 1)])
  obtain ⟨_, _, ⟨T418, L418, k418, n418⟩, -, X418, ⟨Lc418, hQ418, l418, y418, z418⟩, st418⟩ := Jvm.LawKit.callS X416 hx (y := mn15) hown (mvT hZ (own_g hw 68 rfl)) (mvT hZ (own_g hw 69 rfl)) (mvT hZ (own_g hw 66 rfl)) (mvT hZ (own_g hw 70 rfl)) (by decide) (backOf (W := 0) (rmmin_1_1 l Z a0 hw []  h0 n0 Z0 ) hZ (own_g hw 70 rfl) (own_g hw 66 rfl) (by decide) (by decide)) (g := (mkF m 18 #[Rv v1, Iv ch, Iv 0, Iv 1] [(.int 1), (.int 1)])) rfl (by rw [hml]; rfl) (argsL := [(.int (1 : Int32)), (.int (1 : Int32))]) (rest := []) (lenOf own_pd253 rfl) rfl (own_z rfl) (hb hby d11_18) (fun _ _ => ⟨rfl, eh416, (by decide : 0 + 0 ≤ _), (by decide : 0 + 0 ≤ _)⟩)
  dsimp only [Pt.U, Pt.locs, Pt.cells, Pt.slots] at X418 l418 y418 z418 st418 hQ418
  subst l418 y418 z418
  obtain ⟨rfl, Nq418, eh418⟩ := hQ418
  have N418 := Fr.app N416 Nq418
  obtain ⟨_, _, ⟨T419, L419, k419, n419⟩, -, X419, ⟨Lc419, hQ419, l419, y419, z419⟩, st419⟩ := Jvm.LawKit.callS X418 hx (y := mn21) hown (mvT hZ (own_g hw 81 rfl)) (mvT hZ (own_g hw 82 rfl)) (mvT hZ (own_g hw 59 rfl)) (mvT hZ (own_g hw 83 rfl)) (by decide) (backOf (W := 0) (rmIc1L l Z a0 hw [] cs gS v1 k1 ch x0 h0 n0 Z0 V_env Od V1 hq ) hZ (own_g hw 83 rfl) (own_g hw 59 rfl) (by decide) (by decide)) (g := (mkF m 33 #[Rv v1, Iv ch, Iv 0, Iv 1] [(.int 1), (.int 0), (.int ch), (.ref v1)])) rfl (by rw [hml]; rfl) (argsL := [(.ref v1), (.int ch), (.int (0 : Int32)), (.int (1 : Int32))]) (rest := []) (lenOf own_pd285 rfl) rfl (own_z rfl) (hb hby d11_33) (fun _ _ => ⟨rfl, eh418, (by decide : 0 + 0 ≤ _), (by decide : 0 + 0 ≤ _)⟩)
  dsimp only [Pt.U, Pt.locs, Pt.cells, Pt.slots] at X419 l419 y419 z419 st419 hQ419
  subst l419 y419 z419
  obtain ⟨rfl, Nq419, eh419⟩ := hQ419
  have N419 := Fr.app N418 Nq419
  refine own_by (fun _ k => st418 _ (XS.istoreN X418.here hx rfl (hb hby d11_21) rfl (l' := #[Rv v1, Iv ch, Iv 0, Iv 1]) rfl (XS.iloadN X418.here hx rfl (hb hby d11_22) rfl (XS.iloadN X418.here hx rfl (hb hby d11_23) rfl (XS.icmpYes X418.here hx rfl (pc0 := 24) (pc' := 29) rfl (hb hby d11_24) rfl (tlt (by decide : (0 : Int32) < (1 : Int32))).1 (by decide) (by decide) (XS.aloadN X418.here hx rfl (hb hby d11_29) rfl rfl (XS.iloadN X418.here hx rfl (hb hby d11_30) rfl (XS.iloadN X418.here hx rfl (hb hby d11_31) rfl (XS.iloadN X418.here hx rfl (hb hby d11_32) rfl (st419 _ k)))))))))) ?_
  exact own_retI X419 hx hlk hret (hb hby d11_36) ⟨rfl, N419, eh419⟩ (by decide) (by decide)
def own_QrmSl1_L (h0 : Heap) (n0 : Nat) (v : Option Value) (h : Heap) (L : List Loc) : Prop := v = some (.int (1 : Int32)) ∧ Fr n0 L ∧ h = h0
set_option maxRecDepth 65536 in
set_option maxHeartbeats 40000000 in
theorem rmSl1_L (l : Launch) (Z : State) (a0 : Array Value) (hw : own_W a0 Z) (ws : List Jvm.Cond) (cs : Int32) (gS : Value) (a1 v1 : Addr) (k1 : ClassId) (vs : List Value) (h0 : Heap) (n0 : Nat) (Z0 : n0 ≤ h0.size) (V_env : own_Env Z cs gS) (Od : Old Z n0 h0) (E_a1 : Exa Z h0 a1 "java/lang/String") (F1 : Fld Z h0 a1 "java/lang/String" "value" "[B" (.ref v1)) (F2 : Fld Z h0 a1 "java/lang/String" "coder" "B" (.int (0 : Int32))) (V1 : Arv Z h0 v1 k1 .byte (1 : Int32) vs (.int (0 : Int32))) : own_Met l Z mn17 jdk_42_method_54_code 1 (some .int) ws (own_R 1 0 0 13) #[(.ref a1)] h0 (own_QrmSl1_L h0 n0) := by
  refine own_enter n0 (plainFor_of_name own_pn16) (fun m => ef_R_1 m a1 ) (fun p e s m below meth c s₁ hx hby hlk hml hret hown hnm hZ X0 e0 N0 => ?_)
  show own_Fin _ _ _ _ _ _ _ s₁ (mkF m 0 #[Rv a1] [])
  obtain ⟨T420, X420, e420, st420⟩ := getF X0 hx hZ hown (host := "") (Or.inl (own_g hw 25 rfl)) Via.refl e0 F1 (g := (mkF m 1 #[Rv a1] [(.ref a1)])) rfl rfl (hb hby d9_1)
  obtain ⟨cl421, Ar421, -, S421, M421, -, -⟩ := id V1
  refine own_by (fun _ k => XS.aloadN X0.here hx rfl (hb hby d9_0) rfl rfl (st420 _ (X420.arraylength hx (by rw [e420]; exact Ar421.1) (State.isArrayOf_alike hZ.alike Ar421.2.1) (g := (mkF m 4 #[Rv a1] [(.ref v1)])) rfl rfl (hb hby d9_4) _ k))) ?_
  rw [len_of S421 M421]
  show own_Fin _ _ _ _ _ _ _ T420 (mkF m 5 #[Rv a1] [(.int 1)])
  obtain ⟨cq422, kq422, q422a, q422b, q422c⟩ := isOf hZ e420 E_a1
  obtain ⟨_, _, ⟨T422, L422, k422, n422⟩, -, X422, ⟨Lc422, hQ422, l422, y422, z422⟩, st422⟩ := X420.virtualBack hx (y := mn12) (z := mn12) hown (mvT hZ (own_g hw 52 rfl)) (mvT hZ (own_g hw 53 rfl)) (notFace_of_selects (args := #[]) (mvT hZ (own_g hw 55 rfl))) (mvT hZ (own_g hw 55 rfl)) (mvT hZ (own_g hw 54 rfl)) (by decide) (backOf (W := 1) (rmCd0 l Z a0 hw [] cs gS a1 h0 n0 Z0 V_env Od F2) hZ (own_g hw 56 rfl) (own_g hw 8 rfl) (by decide) (by decide)) q422a q422c (g := (mkF m 6 #[Rv a1] [(.ref a1), (.int 1)])) rfl (by rw [hml]; rfl) (Steps.refl _) (argsL := []) (rest := [(.int (1 : Int32))]) (lenOf own_pd270 rfl) rfl (own_z rfl) (hb hby d9_6) (fun _ _ => ⟨rfl, e420, (by decide : 0 + 0 ≤ _), (by decide : 0 + 0 ≤ _)⟩)
  dsimp only [Pt.U, Pt.locs, Pt.cells, Pt.slots] at X422 l422 y422 z422 st422 hQ422
  subst l422 y422 z422
  obtain ⟨rfl, Nq422, eh422⟩ := hQ422
  have N422 := Fr.app N0 Nq422
  refine own_by (fun _ k => XS.aloadN X420.here hx rfl (hb hby d9_5) rfl rfl (st422.trans (XS.ishr X422.here hx rfl (hb hby d9_9) rfl k))) ?_
  show own_Fin _ _ _ _ _ _ _ T422 (mkF m 10 #[Rv a1] [(.int ((1 : Int32) >>> ((0 : Int32) &&& 31)))])
  rw [(by decide : ((1 : Int32) >>> ((0 : Int32) &&& 31)) = (1 : Int32))]
  show own_Fin _ _ _ _ _ _ _ T422 (mkF m 10 #[Rv a1] [(.int 1)])
  exact own_retI X422 hx hlk hret (hb hby d9_10) ⟨rfl, N422, eh422⟩ (by decide) (by decide)
def own_QrmI21L (ch : Int32) (x0 : Int32) (h0 : Heap) (n0 : Nat) (v : Option Value) (h : Heap) (L : List Loc) : Prop := v = some (.int (own_find (ch.toInt8.toInt32) [x0.toInt8.toInt32] (0 : Int32))) ∧ Fr n0 L ∧ h = h0
set_option maxRecDepth 65536 in
set_option maxHeartbeats 40000000 in
theorem rmI21L (l : Launch) (Z : State) (a0 : Array Value) (hw : own_W a0 Z) (ws : List Jvm.Cond) (cs : Int32) (gS : Value) (a1 : Addr) (v1 : Addr) (k1 : ClassId) (ch : Int32) (x0 : Int32) (h0 : Heap) (n0 : Nat) (Z0 : n0 ≤ h0.size) (V_env : own_Env Z cs gS) (Od : Old Z n0 h0) (E_a1 : Exa Z h0 a1 "java/lang/String") (F1 : Fld Z h0 a1 "java/lang/String" "value" "[B" (.ref v1)) (F2 : Fld Z h0 a1 "java/lang/String" "coder" "B" (.int (0 : Int32))) (V1 : Arv Z h0 v1 k1 .byte (1 : Int32) [(.int x0.toInt8.toInt32)] (.int (0 : Int32))) (hq : own_cq ch) : own_Met l Z mn18 jdk_42_method_80_code 3 (some .int) ws (own_R 2 0 0 32) #[(.ref a1), (.int ch), (.int (0 : Int32))] h0 (own_QrmI21L ch x0 h0 n0) := by
  refine own_enter n0 (plainFor_of_name own_pn16) (fun m => ef_RII_3 m a1 ch (0 : Int32) ) (fun p e s m below meth c s₁ hx hby hlk hml hret hown hnm hZ X0 e0 N0 => ?_)
  show own_Fin _ _ _ _ _ _ _ s₁ (mkF m 0 #[Rv a1, Iv ch, Iv 0] [])
  obtain ⟨cq423, kq423, q423a, q423b, q423c⟩ := isOf hZ e0 E_a1
  obtain ⟨_, _, ⟨T423, L423, k423, n423⟩, -, X423, ⟨Lc423, hQ423, l423, y423, z423⟩, st423⟩ := X0.virtualBack hx (y := mn11) (z := mn11) hown (mvT hZ (own_g hw 41 rfl)) (mvT hZ (own_g hw 42 rfl)) (notFace_of_selects (args := #[]) (mvT hZ (own_g hw 44 rfl))) (mvT hZ (own_g hw 44 rfl)) (mvT hZ (own_g hw 43 rfl)) (by decide) (backOf (W := 0) (rmIs0 l Z a0 hw [] cs gS a1 h0 n0 Z0 V_env Od F2) hZ (own_g hw 45 rfl) (own_g hw 8 rfl) (by decide) (by decide)) q423a q423c (g := (mkF m 1 #[Rv a1, Iv ch, Iv 0] [(.ref a1)])) rfl (by rw [hml]; rfl) (Steps.refl _) (argsL := []) (rest := []) (lenOf own_pd275 rfl) rfl (own_z rfl) (hb hby d7_1) (fun _ _ => ⟨rfl, e0, (by decide : 0 + 0 ≤ _), (by decide : 0 + 0 ≤ _)⟩)
  dsimp only [Pt.U, Pt.locs, Pt.cells, Pt.slots] at X423 l423 y423 z423 st423 hQ423
  subst l423 y423 z423
  obtain ⟨rfl, Nq423, eh423⟩ := hQ423
  have N423 := Fr.app N0 Nq423
  obtain ⟨T424, X424, e424, st424⟩ := getF X423 hx hZ hown (host := "") (Or.inl (own_g hw 25 rfl)) Via.refl eh423 F1 (g := (mkF m 8 #[Rv a1, Iv ch, Iv 0] [(.ref a1)])) rfl rfl (hb hby d7_8)
  obtain ⟨cq425, kq425, q425a, q425b, q425c⟩ := isOf hZ e424 E_a1
  obtain ⟨_, _, ⟨T425, L425, k425, n425⟩, -, X425, ⟨Lc425, hQ425, l425, y425, z425⟩, st425⟩ := X424.virtualBack hx (y := mn17) (z := mn17) hown (mvT hZ (own_g hw 47 rfl)) (mvT hZ (own_g hw 48 rfl)) (notFace_of_selects (args := #[]) (mvT hZ (own_g hw 50 rfl))) (mvT hZ (own_g hw 50 rfl)) (mvT hZ (own_g hw 49 rfl)) (by decide) (backOf (W := 3) (rmSl1_L l Z a0 hw [] cs gS a1 v1 k1 [(.int x0.toInt8.toInt32)] h0 n0 Z0 V_env Od E_a1 F1 F2 V1) hZ (own_g hw 51 rfl) (own_g hw 8 rfl) (by decide) (by decide)) q425a q425c (g := (mkF m 14 #[Rv a1, Iv ch, Iv 0] [(.ref a1), (.int 0), (.int ch), (.ref v1)])) rfl (by rw [hml]; rfl) (Steps.refl _) (argsL := []) (rest := [(.int (0 : Int32)), (.int ch), (.ref v1)]) (lenOf own_pd283 rfl) rfl (own_z rfl) (hb hby d7_14) (fun _ _ => ⟨rfl, e424, (by decide : 0 + 0 ≤ _), (by decide : 0 + 0 ≤ _)⟩)
  dsimp only [Pt.U, Pt.locs, Pt.cells, Pt.slots] at X425 l425 y425 z425 st425 hQ425
  subst l425 y425 z425
  obtain ⟨rfl, Nq425, eh425⟩ := hQ425
  have N425 := Fr.app N423 Nq425
  obtain ⟨_, _, ⟨T426, L426, k426, n426⟩, -, X426, ⟨Lc426, hQ426, l426, y426, z426⟩, st426⟩ := Jvm.LawKit.callS X425 hx (y := mn16) hown (mvT hZ (own_g hw 57 rfl)) (mvT hZ (own_g hw 58 rfl)) (mvT hZ (own_g hw 59 rfl)) (mvT hZ (own_g hw 60 rfl)) (by decide) (backOf (W := 0) (rmIo1L l Z a0 hw [] cs gS v1 k1 ch x0 h0 n0 Z0 V_env Od V1 hq ) hZ (own_g hw 60 rfl) (own_g hw 59 rfl) (by decide) (by decide)) (g := (mkF m 17 #[Rv a1, Iv ch, Iv 0] [(.int 1), (.int 0), (.int ch), (.ref v1)])) rfl (by rw [hml]; rfl) (argsL := [(.ref v1), (.int ch), (.int (0 : Int32)), (.int (1 : Int32))]) (rest := []) (lenOf own_pd285 rfl) rfl (own_z rfl) (hb hby d7_17) (fun _ _ => ⟨rfl, eh425, (by decide : 0 + 0 ≤ _), (by decide : 0 + 0 ≤ _)⟩)
  dsimp only [Pt.U, Pt.locs, Pt.cells, Pt.slots] at X426 l426 y426 z426 st426 hQ426
  subst l426 y426 z426
  obtain ⟨rfl, Nq426, eh426⟩ := hQ426
  have N426 := Fr.app N425 Nq426
  refine own_by (fun _ k => XS.aloadN X0.here hx rfl (hb hby d7_0) rfl rfl (st423.trans (XS.ifNo X423.here hx rfl (hb hby d7_4) rfl ((if0 _ _).trans (feq (by decide : ¬ ((1 : Int32) = (0 : Int32)))).1) (XS.aloadN X423.here hx rfl (hb hby d7_7) rfl rfl (st424 _ (XS.iloadN X424.here hx rfl (hb hby d7_11) rfl (XS.iloadN X424.here hx rfl (hb hby d7_12) rfl (XS.aloadN X424.here hx rfl (hb hby d7_13) rfl rfl (st425.trans (st426 _ k)))))))))) ?_
  show own_Fin _ _ _ _ _ _ _ T426 (mkF m 20 #[Rv a1, Iv ch, Iv 0] [(.int (own_find (ch.toInt8.toInt32) [x0.toInt8.toInt32] (0 : Int32)))])
  refine own_by (fun _ k => XS.goto X426.here hx rfl (pc0 := 20) (pc' := 36) rfl (hb hby d7_20) (by decide) (by decide) k) ?_
  exact own_retI X426 hx hlk hret (hb hby d7_36) ⟨rfl, N426, eh426⟩ (by decide) (by decide)
def own_QrmIx1L (ch : Int32) (x0 : Int32) (h0 : Heap) (n0 : Nat) (v : Option Value) (h : Heap) (L : List Loc) : Prop := v = some (.int (own_find (ch.toInt8.toInt32) [x0.toInt8.toInt32] (0 : Int32))) ∧ Fr n0 L ∧ h = h0
set_option maxRecDepth 65536 in
set_option maxHeartbeats 40000000 in
theorem rmIx1L (l : Launch) (Z : State) (a0 : Array Value) (hw : own_W a0 Z) (ws : List Jvm.Cond) (cs : Int32) (gS : Value) (a1 : Addr) (v1 : Addr) (k1 : ClassId) (ch : Int32) (x0 : Int32) (h0 : Heap) (n0 : Nat) (Z0 : n0 ≤ h0.size) (V_env : own_Env Z cs gS) (Od : Old Z n0 h0) (E_a1 : Exa Z h0 a1 "java/lang/String") (F1 : Fld Z h0 a1 "java/lang/String" "value" "[B" (.ref v1)) (F2 : Fld Z h0 a1 "java/lang/String" "coder" "B" (.int (0 : Int32))) (V1 : Arv Z h0 v1 k1 .byte (1 : Int32) [(.int x0.toInt8.toInt32)] (.int (0 : Int32))) (hq : own_cq ch) : own_Met l Z mn19 jdk_42_method_79_code 2 (some .int) ws (own_R 3 0 0 46) #[(.ref a1), (.int ch)] h0 (own_QrmIx1L ch x0 h0 n0) := by
  refine own_enter n0 (plainFor_of_name own_pn16) (fun m => ef_RI_2 m a1 ch ) (fun p e s m below meth c s₁ hx hby hlk hml hret hown hnm hZ X0 e0 N0 => ?_)
  show own_Fin _ _ _ _ _ _ _ s₁ (mkF m 0 #[Rv a1, Iv ch] [])
  obtain ⟨cq427, kq427, q427a, q427b, q427c⟩ := isOf hZ e0 E_a1
  obtain ⟨_, _, ⟨T427, L427, k427, n427⟩, -, X427, ⟨Lc427, hQ427, l427, y427, z427⟩, st427⟩ := X0.virtualBack hx (y := mn18) (z := mn18) hown (mvT hZ (own_g hw 36 rfl)) (mvT hZ (own_g hw 37 rfl)) (notFace_of_selects (args := #[]) (mvT hZ (own_g hw 39 rfl))) (mvT hZ (own_g hw 39 rfl)) (mvT hZ (own_g hw 38 rfl)) (by decide) (backOf (W := 0) (rmI21L l Z a0 hw [] cs gS a1 v1 k1 ch x0 h0 n0 Z0 V_env Od E_a1 F1 F2 V1 hq ) hZ (own_g hw 40 rfl) (own_g hw 8 rfl) (by decide) (by decide)) q427a q427c (g := (mkF m 3 #[Rv a1, Iv ch] [(.int 0), (.int ch), (.ref a1)])) rfl (by rw [hml]; rfl) (Steps.refl _) (argsL := [(.int ch), (.int (0 : Int32))]) (rest := []) (lenOf own_pd253 rfl) rfl (own_z rfl) (hb hby d6_3) (fun _ _ => ⟨rfl, e0, (by decide : 0 + 0 ≤ _), (by decide : 0 + 0 ≤ _)⟩)
  dsimp only [Pt.U, Pt.locs, Pt.cells, Pt.slots] at X427 l427 y427 z427 st427 hQ427
  subst l427 y427 z427
  obtain ⟨rfl, Nq427, eh427⟩ := hQ427
  have N427 := Fr.app N0 Nq427
  refine own_by (fun _ k => XS.aloadN X0.here hx rfl (hb hby d6_0) rfl rfl (XS.iloadN X0.here hx rfl (hb hby d6_1) rfl (XS.iconst X0.here hx rfl (hb hby d6_2) (st427.trans k)))) ?_
  exact own_retI X427 hx hlk hret (hb hby d6_6) ⟨rfl, N427, eh427⟩ (by decide) (by decide)
def own_QIS1L (x0 : Int32) (h0 : Heap) (n0 : Nat) (v : Option Value) (h : Heap) (L : List Loc) : Prop := v = some (.int (own_neg (own_find ((0 : Int32).toInt8.toInt32) [x0.toInt8.toInt32] (0 : Int32)))) ∧ Fr n0 L ∧ h = h0
set_option maxRecDepth 65536 in
set_option maxHeartbeats 40000000 in
theorem rmIS1L (l : Launch) (Z : State) (a0 : Array Value) (hw : own_W a0 Z) (ws : List Jvm.Cond) (cs : Int32) (gS : Value) (a1 v1 : Addr) (k1 : ClassId) (x0 : Int32)  (h0 : Heap) (n0 : Nat) (Z0 : n0 ≤ h0.size) (V_env : own_Env Z cs gS) (Od : Old Z n0 h0) (E_a1 : Exa Z h0 a1 "java/lang/String") (F1 : Fld Z h0 a1 "java/lang/String" "value" "[B" (.ref v1)) (F2 : Fld Z h0 a1 "java/lang/String" "coder" "B" (.int (0 : Int32))) (V1 : Arv Z h0 v1 k1 .byte (1 : Int32) [(.int x0.toInt8.toInt32)] (.int (0 : Int32))) : own_Met l Z mn20 prog_26_method_2_code 1 (some .boolean) ws (own_R 4 0 0 59) #[(.ref a1)] h0 (own_QIS1L x0 h0 n0) := by
  refine own_enter n0 (plainFor_of_name own_pn293) (fun m => ef_R_1 m a1 ) (fun p e s m below meth c s₁ hx hby hlk hml hret hown hnm hZ X0 e0 N0 => ?_)
  show own_Fin _ _ _ _ _ _ _ s₁ (mkF m 0 #[Rv a1] [])
  obtain ⟨cq428, kq428, q428a, q428b, q428c⟩ := isOf hZ e0 E_a1
  obtain ⟨_, _, ⟨T428, L428, k428, n428⟩, -, X428, ⟨Lc428, hQ428, l428, y428, z428⟩, st428⟩ := X0.virtualBack hx (y := mn19) (z := mn19) hown (mvT hZ (own_g hw 31 rfl)) (mvT hZ (own_g hw 32 rfl)) (notFace_of_selects (args := #[]) (mvT hZ (own_g hw 34 rfl))) (mvT hZ (own_g hw 34 rfl)) (mvT hZ (own_g hw 33 rfl)) (by decide) (backOf (W := 0) (rmIx1L l Z a0 hw [] cs gS a1 v1 k1 (0 : Int32) x0 h0 n0 Z0 V_env Od E_a1 F1 F2 V1 ⟨by decide, by decide, by decide⟩ ) hZ (own_g hw 35 rfl) (own_g hw 8 rfl) (by decide) (by decide)) q428a q428c (g := (mkF m 2 #[Rv a1] [(.int 0), (.ref a1)])) rfl (by rw [hml]; rfl) (Steps.refl _) (argsL := [(.int (0 : Int32))]) (rest := []) (lenOf own_pd52 rfl) rfl (own_z rfl) (hb hby d5_2) (fun _ _ => ⟨rfl, e0, (by decide : 0 + 0 ≤ _), (by decide : 0 + 0 ≤ _)⟩)
  dsimp only [Pt.U, Pt.locs, Pt.cells, Pt.slots] at X428 l428 y428 z428 st428 hQ428
  subst l428 y428 z428
  obtain ⟨rfl, Nq428, eh428⟩ := hQ428
  have N428 := Fr.app N0 Nq428
  refine own_by (fun _ k => XS.aloadN X0.here hx rfl (hb hby d5_0) rfl rfl (XS.iconst X0.here hx rfl (hb hby d5_1) (st428.trans k))) ?_
  show own_Fin _ _ _ _ _ _ _ T428 (mkF m 5 #[Rv a1] [(.int (own_find ((0 : Int32).toInt8.toInt32) [x0.toInt8.toInt32] (0 : Int32)))])
  by_cases hc5_429 : (own_find ((0 : Int32).toInt8.toInt32) [x0.toInt8.toInt32] (0 : Int32)) < (0 : Int32)
  · show own_Fin _ _ _ _ _ _ _ T428 (mkF m 5 #[Rv a1] [(.int (own_find ((0 : Int32).toInt8.toInt32) [x0.toInt8.toInt32] (0 : Int32)))])
    refine own_by (fun _ k => XS.ifNo X428.here hx rfl (hb hby d5_5) rfl ((if0 _ _).trans (tlt hc5_429).2.1) (XS.iconst X428.here hx rfl (hb hby d5_8) (XS.goto X428.here hx rfl (pc0 := 9) (pc' := 13) rfl (hb hby d5_9) (by decide) (by decide) k))) ?_
    exact own_retZ X428 hx hlk (t := .boolean) hret (by simp) (hb hby d5_13) ⟨own_vi (by show (1 : Int32) = _; first | (simp only [own_neg, if_neg V_env.2.2.2.2.1, if_pos hc5_429]; done) | (simp only [own_neg, if_neg V_env.2.2.2.2.1, if_pos hc5_429]; decide) | simp [own_neg, V_env.2.2.2.2.1, hc5_429]), N428, eh428⟩ (by decide) (by decide)
  · show own_Fin _ _ _ _ _ _ _ T428 (mkF m 5 #[Rv a1] [(.int (own_find ((0 : Int32).toInt8.toInt32) [x0.toInt8.toInt32] (0 : Int32)))])
    refine own_by (fun _ k => XS.ifYes X428.here hx rfl (pc0 := 5) (pc' := 12) rfl (hb hby d5_5) rfl ((if0 _ _).trans (flt hc5_429).2.1) (by decide) (by decide) (XS.iconst X428.here hx rfl (hb hby d5_12) k)) ?_
    exact own_retZ X428 hx hlk (t := .boolean) hret (by simp) (hb hby d5_13) ⟨own_vi (by show (0 : Int32) = _; first | (simp only [own_neg, if_neg V_env.2.2.2.2.1, if_neg hc5_429]; done) | (simp only [own_neg, if_neg V_env.2.2.2.2.1, if_neg hc5_429]; decide) | simp [own_neg, V_env.2.2.2.2.1, hc5_429]), N428, eh428⟩ (by decide) (by decide)
theorem d27_0 : decode jdk_52_method_6_code 0 = .ok (.aload_n 0, 1) := by decide +kernel
theorem d27_1 : decode jdk_52_method_6_code 1 = .ok (.arraylength, 1) := by decide +kernel
theorem d27_2 : decode jdk_52_method_6_code 2 = .ok (.iconst 1, 1) := by decide +kernel
theorem d27_3 : decode jdk_52_method_6_code 3 = .ok (.ishr, 1) := by decide +kernel
theorem d27_4 : decode jdk_52_method_6_code 4 = .ok (.ireturn, 1) := by decide +kernel
def own_QrmLu1 (h0 : Heap) (n0 : Nat) (v : Option Value) (h : Heap) (L : List Loc) : Prop := v = some (.int (1 : Int32)) ∧ Fr n0 L ∧ h = h0
set_option maxRecDepth 65536 in
set_option maxHeartbeats 40000000 in
theorem rmLu1 (l : Launch) (Z : State) (a0 : Array Value) (hw : own_W a0 Z) (ws : List Jvm.Cond) (v1 : Addr) (k1 : ClassId) (vs : List Value) (h0 : Heap) (n0 : Nat) (Z0 : n0 ≤ h0.size) (V1 : Arv Z h0 v1 k1 .byte (2 : Int32) vs (.int (0 : Int32))) : own_Met l Z mn22 jdk_52_method_6_code 1 (some .int) ws (own_R 0 0 0 0) #[(.ref v1)] h0 (own_QrmLu1 h0 n0) := by
  refine own_enter n0 (plainFor_of_name own_pn40) (fun m => ef_R_1 m v1 ) (fun p e s m below meth c s₁ hx hby hlk hml hret hown hnm hZ X0 e0 N0 => ?_)
  show own_Fin _ _ _ _ _ _ _ s₁ (mkF m 0 #[Rv v1] [])
  obtain ⟨cl430, Ar430, -, S430, M430, -, -⟩ := id V1
  refine own_by (fun _ k => XS.aloadN X0.here hx rfl (hb hby d27_0) rfl rfl (X0.arraylength hx (by rw [e0]; exact Ar430.1) (State.isArrayOf_alike hZ.alike Ar430.2.1) (g := (mkF m 1 #[Rv v1] [(.ref v1)])) rfl rfl (hb hby d27_1) _ k)) ?_
  rw [len_of S430 M430]
  show own_Fin _ _ _ _ _ _ _ s₁ (mkF m 2 #[Rv v1] [(.int 2)])
  refine own_by (fun _ k => XS.iconst X0.here hx rfl (hb hby d27_2) (XS.ishr X0.here hx rfl (hb hby d27_3) rfl k)) ?_
  show own_Fin _ _ _ _ _ _ _ s₁ (mkF m 4 #[Rv v1] [(.int ((2 : Int32) >>> ((1 : Int32) &&& 31)))])
  rw [(by decide : ((2 : Int32) >>> ((1 : Int32) &&& 31)) = (1 : Int32))]
  show own_Fin _ _ _ _ _ _ _ s₁ (mkF m 4 #[Rv v1] [(.int 1)])
  exact own_retI X0 hx hlk hret (hb hby d27_4) ⟨rfl, N0, e0⟩ (by decide) (by decide)
theorem own_pn334 : plainName "jdk/internal/util/Preconditions" = true := by first | (simp [plainName, overriddenIn]; done) | decide +kernel
theorem d29_0 : decode jdk_41_method_12_code 0 = .ok (.iload_n 0, 1) := by decide +kernel
theorem d29_1 : decode jdk_41_method_12_code 1 = .ok (.ifCond .lt 13, 3) := by decide +kernel
theorem d29_4 : decode jdk_41_method_12_code 4 = .ok (.iload_n 0, 1) := by decide +kernel
theorem d29_5 : decode jdk_41_method_12_code 5 = .ok (.iload_n 1, 1) := by decide +kernel
theorem d29_6 : decode jdk_41_method_12_code 6 = .ok (.if_icmp .gt 8, 3) := by decide +kernel
theorem d29_9 : decode jdk_41_method_12_code 9 = .ok (.iload_n 1, 1) := by decide +kernel
theorem d29_10 : decode jdk_41_method_12_code 10 = .ok (.iload_n 2, 1) := by decide +kernel
theorem d29_11 : decode jdk_41_method_12_code 11 = .ok (.if_icmp .le 11, 3) := by decide +kernel
theorem d29_22 : decode jdk_41_method_12_code 22 = .ok (.iload_n 0, 1) := by decide +kernel
theorem d29_23 : decode jdk_41_method_12_code 23 = .ok (.ireturn, 1) := by decide +kernel
theorem ef_IIIV_4 (m : MethodId) (x0 : Int32) (x1 : Int32) (x2 : Int32) (x3 : Value) (hx3 : x3.category = 1) : entryFrame m #[(.int x0), (.int x1), (.int x2), x3] 4 = mkF m 0 #[.val (.int x0), .val (.int x1), .val (.int x2), .val x3] [] := by first | (simp [entryFrame, mkF, argsToLocals, Value.category, hx3]; done) | rfl | (cases x3 <;> first | rfl | (simp [Value.category] at hx3; done))
def own_QrmCf1 (h0 : Heap) (n0 : Nat) (v : Option Value) (h : Heap) (L : List Loc) : Prop := v = some (.int (0 : Int32)) ∧ Fr n0 L ∧ h = h0
set_option maxRecDepth 65536 in
set_option maxHeartbeats 40000000 in
theorem rmCf1 (l : Launch) (Z : State) (a0 : Array Value) (hw : own_W a0 Z) (ws : List Jvm.Cond) (gS : Value) (h0 : Heap) (n0 : Nat) (Z0 : n0 ≤ h0.size) (hgS : gS.isRef = true) : own_Met l Z mn23 jdk_41_method_12_code 4 (some .int) ws (own_R 0 0 0 0) #[(.int (0 : Int32)), (.int (1 : Int32)), (.int (1 : Int32)), gS] h0 (own_QrmCf1 h0 n0) := by
  refine own_enter n0 (plainFor_of_name own_pn334) (fun m => ef_IIIV_4 m (0 : Int32) (1 : Int32) (1 : Int32) gS (by rcases ref_cases (by assumption : (gS).isRef = true) with h | ⟨_, h⟩ <;> rw [h] <;> rfl)) (fun p e s m below meth c s₁ hx hby hlk hml hret hown hnm hZ X0 e0 N0 => ?_)
  show own_Fin _ _ _ _ _ _ _ s₁ (mkF m 0 #[Iv 0, Iv 1, Iv 1, .val gS] [])
  refine own_by (fun _ k => XS.iloadN X0.here hx rfl (hb hby d29_0) rfl (XS.ifNo X0.here hx rfl (hb hby d29_1) rfl ((if0 _ _).trans (flt (by decide : ¬ ((0 : Int32) < (0 : Int32)))).1) (XS.iloadN X0.here hx rfl (hb hby d29_4) rfl (XS.iloadN X0.here hx rfl (hb hby d29_5) rfl (XS.icmpNo X0.here hx rfl (hb hby d29_6) rfl (flt (by decide : ¬ ((1 : Int32) < (0 : Int32)))).2.2.1 (XS.iloadN X0.here hx rfl (hb hby d29_9) rfl (XS.iloadN X0.here hx rfl (hb hby d29_10) rfl (XS.icmpYes X0.here hx rfl (pc0 := 11) (pc' := 22) rfl (hb hby d29_11) rfl (flt (by decide : ¬ ((1 : Int32) < (1 : Int32)))).2.2.2 (by decide) (by decide) (XS.iloadN X0.here hx rfl (hb hby d29_22) rfl k))))))))) ?_
  exact own_retI X0 hx hlk hret (hb hby d29_23) ⟨rfl, N0, e0⟩ (by decide) (by decide)
theorem d28_0 : decode jdk_42_method_158_code 0 = .ok (.iload_n 0, 1) := by decide +kernel
theorem d28_1 : decode jdk_42_method_158_code 1 = .ok (.iload_n 1, 1) := by decide +kernel
theorem d28_2 : decode jdk_42_method_158_code 2 = .ok (.iload_n 2, 1) := by decide +kernel
theorem d28_3 : decode jdk_42_method_158_code 3 = .ok (.getstatic 1053, 3) := by decide +kernel
theorem d28_6 : decode jdk_42_method_158_code 6 = .ok (.invokestatic 1062, 3) := by decide +kernel
theorem own_pd351 : parseMethodDescriptor "(IIILjava/util/function/BiFunction;)I" = some ⟨[.int, .int, .int, (.object "java/util/function/BiFunction")], some .int⟩ := by decide +kernel
theorem d28_9 : decode jdk_42_method_158_code 9 = .ok (.pop, 1) := by decide +kernel
theorem d28_10 : decode jdk_42_method_158_code 10 = .ok (.return_, 1) := by decide +kernel
theorem ef_III_3 (m : MethodId) (x0 : Int32) (x1 : Int32) (x2 : Int32) : entryFrame m #[(.int x0), (.int x1), (.int x2)] 3 = mkF m 0 #[.val (.int x0), .val (.int x1), .val (.int x2)] [] := by first | (simp [entryFrame, mkF, argsToLocals, Value.category]; done) | rfl
def own_QCb1 (h0 : Heap) (n0 : Nat) (v : Option Value) (h : Heap) (L : List Loc) : Prop := v = none ∧ Fr n0 L ∧ h = h0
set_option maxRecDepth 65536 in
set_option maxHeartbeats 40000000 in
theorem rmCb1 (l : Launch) (Z : State) (a0 : Array Value) (hw : own_W a0 Z) (ws : List Jvm.Cond) (cs : Int32) (gS : Value) (h0 : Heap) (n0 : Nat) (Z0 : n0 ≤ h0.size) (V_env : own_Env Z cs gS) (Od : Old Z n0 h0) : own_Met l Z mn24 jdk_42_method_158_code 3 none ws (own_R 1 0 0 15) #[(.int (0 : Int32)), (.int (1 : Int32)), (.int (1 : Int32))] h0 (own_QCb1 h0 n0) := by
  refine own_enter n0 (plainFor_of_name own_pn16) (fun m => ef_III_3 m (0 : Int32) (1 : Int32) (1 : Int32) ) (fun p e s m below meth c s₁ hx hby hlk hml hret hown hnm hZ X0 e0 N0 => ?_)
  show own_Fin _ _ _ _ _ _ _ s₁ (mkF m 0 #[Iv 0, Iv 1, Iv 1] [])
  have hgS : gS.isRef = true := V_env.2.2.2.2.2.2
  obtain ⟨T431, X431, e431, st431⟩ := getS2 X0 hx hZ hown (host := "") (Or.inl (own_g hw 122 rfl)) Via.refl e0 (V_env.2.2.2.2.2.1.ext Od.2) (g := (mkF m 3 #[Iv 0, Iv 1, Iv 1] [(.int 1), (.int 1), (.int 0)])) rfl (hb hby d28_3)
  obtain ⟨_, _, ⟨T432, L432, k432, n432⟩, -, X432, ⟨Lc432, hQ432, l432, y432, z432⟩, st432⟩ := Jvm.LawKit.callS X431 hx (y := mn23) hown (mvT hZ (own_g hw 124 rfl)) (mvT hZ (own_g hw 125 rfl)) (mvT hZ (own_g hw 123 rfl)) (mvT hZ (own_g hw 126 rfl)) (by decide) (backOf (W := 0) (rmCf1 l Z a0 hw [] gS h0 n0 Z0 hgS) hZ (own_g hw 126 rfl) (own_g hw 123 rfl) (by decide) (by decide)) (g := (mkF m 6 #[Iv 0, Iv 1, Iv 1] [gS, (.int 1), (.int 1), (.int 0)])) rfl (by rw [hml]; rfl) (argsL := [(.int (0 : Int32)), (.int (1 : Int32)), (.int (1 : Int32)), gS]) (rest := []) (lenOf own_pd351 rfl) rfl (own_z rfl) (hb hby d28_6) (fun _ _ => ⟨rfl, e431, (by decide : 0 + 0 ≤ _), (by decide : 0 + 0 ≤ _)⟩)
  dsimp only [Pt.U, Pt.locs, Pt.cells, Pt.slots] at X432 l432 y432 z432 st432 hQ432
  subst l432 y432 z432
  obtain ⟨rfl, Nq432, eh432⟩ := hQ432
  have N432 := Fr.app N0 Nq432
  refine own_by (fun _ k => XS.iloadN X0.here hx rfl (hb hby d28_0) rfl (XS.iloadN X0.here hx rfl (hb hby d28_1) rfl (XS.iloadN X0.here hx rfl (hb hby d28_2) rfl (st431 _ (st432 _ (XS.pop X432.here hx rfl (hb hby d28_9) rfl rfl k)))))) ?_
  exact own_retV X432 hx hlk hret (hb hby d28_10) ⟨rfl, N432, eh432⟩ (by decide) (by decide)
theorem d26_0 : decode jdk_52_method_93_code 0 = .ok (.iload_n 0, 1) := by decide +kernel
theorem d26_1 : decode jdk_52_method_93_code 1 = .ok (.iload_n 1, 1) := by decide +kernel
theorem d26_2 : decode jdk_52_method_93_code 2 = .ok (.aload_n 2, 1) := by decide +kernel
theorem d26_3 : decode jdk_52_method_93_code 3 = .ok (.invokestatic 48, 3) := by decide +kernel
theorem own_pd359 : parseMethodDescriptor "([B)I" = some ⟨[(.array .byte)], some .int⟩ := by decide +kernel
theorem d26_6 : decode jdk_52_method_93_code 6 = .ok (.invokestatic 241, 3) := by decide +kernel
theorem own_pd361 : parseMethodDescriptor "(III)V" = some ⟨[.int, .int, .int], none⟩ := by decide +kernel
theorem d26_9 : decode jdk_52_method_93_code 9 = .ok (.return_, 1) := by decide +kernel
theorem ef_IIR_3 (m : MethodId) (x0 : Int32) (x1 : Int32) (x2 : Addr) : entryFrame m #[(.int x0), (.int x1), (.ref x2)] 3 = mkF m 0 #[.val (.int x0), .val (.int x1), .val (.ref x2)] [] := by first | (simp [entryFrame, mkF, argsToLocals, Value.category]; done) | rfl
set_option maxRecDepth 65536 in
set_option maxHeartbeats 40000000 in
theorem rmCu1 (l : Launch) (Z : State) (a0 : Array Value) (hw : own_W a0 Z) (ws : List Jvm.Cond) (cs : Int32) (gS : Value) (v1 : Addr) (k1 : ClassId) (vs : List Value) (h0 : Heap) (n0 : Nat) (Z0 : n0 ≤ h0.size) (V_env : own_Env Z cs gS) (Od : Old Z n0 h0) (V1 : Arv Z h0 v1 k1 .byte (2 : Int32) vs (.int (0 : Int32))) : own_Met l Z mn25 jdk_52_method_93_code 3 none ws (own_R 2 0 0 29) #[(.int (0 : Int32)), (.int (1 : Int32)), (.ref v1)] h0 (own_QCb1 h0 n0) := by
  refine own_enter n0 (plainFor_of_name own_pn40) (fun m => ef_IIR_3 m (0 : Int32) (1 : Int32) v1 ) (fun p e s m below meth c s₁ hx hby hlk hml hret hown hnm hZ X0 e0 N0 => ?_)
  show own_Fin _ _ _ _ _ _ _ s₁ (mkF m 0 #[Iv 0, Iv 1, Rv v1] [])
  obtain ⟨_, _, ⟨T433, L433, k433, n433⟩, -, X433, ⟨Lc433, hQ433, l433, y433, z433⟩, st433⟩ := Jvm.LawKit.callS X0 hx (y := mn22) hown (mvT hZ (own_g hw 116 rfl)) (mvT hZ (own_g hw 117 rfl)) (mvT hZ (own_g hw 73 rfl)) (mvT hZ (own_g hw 118 rfl)) (by decide) (backOf (W := 2) (rmLu1 l Z a0 hw [] v1 k1 vs h0 n0 Z0 V1) hZ (own_g hw 118 rfl) (own_g hw 73 rfl) (by decide) (by decide)) (g := (mkF m 3 #[Iv 0, Iv 1, Rv v1] [(.ref v1), (.int 1), (.int 0)])) rfl (by rw [hml]; rfl) (argsL := [(.ref v1)]) (rest := [(.int (1 : Int32)), (.int (0 : Int32))]) (lenOf own_pd359 rfl) rfl (own_z rfl) (hb hby d26_3) (fun _ _ => ⟨rfl, e0, (by decide : 0 + 0 ≤ _), (by decide : 0 + 0 ≤ _)⟩)
  dsimp only [Pt.U, Pt.locs, Pt.cells, Pt.slots] at X433 l433 y433 z433 st433 hQ433
  subst l433 y433 z433
  obtain ⟨rfl, Nq433, eh433⟩ := hQ433
  have N433 := Fr.app N0 Nq433
  obtain ⟨_, _, ⟨T434, L434, k434, n434⟩, -, X434, ⟨Lc434, hQ434, l434, y434, z434⟩, st434⟩ := Jvm.LawKit.callS X433 hx (y := mn24) hown (mvT hZ (own_g hw 119 rfl)) (mvT hZ (own_g hw 120 rfl)) (mvT hZ (own_g hw 8 rfl)) (mvT hZ (own_g hw 121 rfl)) (by decide) (backOf (W := 0) (rmCb1 l Z a0 hw [] cs gS h0 n0 Z0 V_env Od) hZ (own_g hw 121 rfl) (own_g hw 8 rfl) (by decide) (by decide)) (g := (mkF m 6 #[Iv 0, Iv 1, Rv v1] [(.int 1), (.int 1), (.int 0)])) rfl (by rw [hml]; rfl) (argsL := [(.int (0 : Int32)), (.int (1 : Int32)), (.int (1 : Int32))]) (rest := []) (lenOf own_pd361 rfl) rfl (own_z rfl) (hb hby d26_6) (fun _ _ => ⟨rfl, eh433, (by decide : 0 + 0 ≤ _), (by decide : 0 + 0 ≤ _)⟩)
  dsimp only [Pt.U, Pt.locs, Pt.cells, Pt.slots] at X434 l434 y434 z434 st434 hQ434
  subst l434 y434 z434
  obtain ⟨rfl, Nq434, eh434⟩ := hQ434
  have N434 := Fr.app N433 Nq434
  refine own_by (fun _ k => XS.iloadN X0.here hx rfl (hb hby d26_0) rfl (XS.iloadN X0.here hx rfl (hb hby d26_1) rfl (XS.aloadN X0.here hx rfl (hb hby d26_2) rfl rfl (st433 _ (st434 _ k))))) ?_
  exact own_retV X434 hx hlk hret (hb hby d26_9) ⟨rfl, N434, eh434⟩ (by decide) (by decide)
theorem d30_0 : decode jdk_52_method_48_code 0 = .ok (.iload_n 2, 1) := by decide +kernel
theorem d30_1 : decode jdk_52_method_48_code 1 = .ok (.istore 4, 2) := by decide +kernel
theorem d30_3 : decode jdk_52_method_48_code 3 = .ok (.iload 4, 2) := by decide +kernel
theorem d30_5 : decode jdk_52_method_48_code 5 = .ok (.iload_n 3, 1) := by decide +kernel
theorem d30_6 : decode jdk_52_method_48_code 6 = .ok (.if_icmp .ge 22, 3) := by decide +kernel
theorem d30_9 : decode jdk_52_method_48_code 9 = .ok (.aload_n 0, 1) := by decide +kernel
theorem d30_10 : decode jdk_52_method_48_code 10 = .ok (.iload 4, 2) := by decide +kernel
theorem d30_12 : decode jdk_52_method_48_code 12 = .ok (.invokestatic 71, 3) := by decide +kernel
theorem d30_15 : decode jdk_52_method_48_code 15 = .ok (.iload_n 1, 1) := by decide +kernel
theorem d30_16 : decode jdk_52_method_48_code 16 = .ok (.if_icmp .ne 6, 3) := by decide +kernel
theorem d30_19 : decode jdk_52_method_48_code 19 = .ok (.iload 4, 2) := by decide +kernel
theorem d30_21 : decode jdk_52_method_48_code 21 = .ok (.ireturn, 1) := by decide +kernel
theorem d30_22 : decode jdk_52_method_48_code 22 = .ok (.iinc 4 1, 3) := by decide +kernel
theorem d30_25 : decode jdk_52_method_48_code 25 = .ok (.goto (-22), 3) := by decide +kernel
theorem d30_28 : decode jdk_52_method_48_code 28 = .ok (.iconst (-1), 1) := by decide +kernel
theorem d30_29 : decode jdk_52_method_48_code 29 = .ok (.ireturn, 1) := by decide +kernel
theorem ef_RIII_5 (m : MethodId) (x0 : Addr) (x1 : Int32) (x2 : Int32) (x3 : Int32) : entryFrame m #[(.ref x0), (.int x1), (.int x2), (.int x3)] 5 = mkF m 0 #[.val (.ref x0), .val (.int x1), .val (.int x2), .val (.int x3), .unset] [] := by first | (simp [entryFrame, mkF, argsToLocals, Value.category]; done) | rfl
def own_QrmIn1U (ch : Int32) (x0 : Int32) (h0 : Heap) (n0 : Nat) (v : Option Value) (h : Heap) (L : List Loc) : Prop := v = some (.int (own_find ch [x0] (0 : Int32))) ∧ Fr n0 L ∧ h = h0
set_option maxRecDepth 65536 in
set_option maxHeartbeats 40000000 in
theorem rmIn1U (l : Launch) (Z : State) (a0 : Array Value) (hw : own_W a0 Z) (ws : List Jvm.Cond) (cs : Int32) (gS : Value) (v1 : Addr) (k1 : ClassId) (ch : Int32) (x0 : Int32) (h0 : Heap) (n0 : Nat) (Z0 : n0 ≤ h0.size) (V_env : own_Env Z cs gS) (Od : Old Z n0 h0) (V1 : Arv Z h0 v1 k1 .byte (2 : Int32) [(.int (own_lo x0)), (.int (own_hi x0))] (.int (0 : Int32))) (hq : own_cq ch) (hx0 : own_ch x0) : own_Met l Z mn26 jdk_52_method_48_code 5 (some .int) ws (own_R 1 0 0 13) #[(.ref v1), (.int ch), (.int (0 : Int32)), (.int (1 : Int32))] h0 (own_QrmIn1U ch x0 h0 n0) := by
  refine own_enter n0 (plainFor_of_name own_pn40) (fun m => ef_RIII_5 m v1 ch (0 : Int32) (1 : Int32) ) (fun p e s m below meth c s₁ hx hby hlk hml hret hown hnm hZ X0 e0 N0 => ?_)
  show own_Fin _ _ _ _ _ _ _ s₁ (mkF m 0 #[Rv v1, Iv ch, Iv 0, Iv 1, Uv] [])
  obtain ⟨_, _, ⟨T435, L435, k435, n435⟩, -, X435, ⟨Lc435, hQ435, l435, y435, z435⟩, st435⟩ := Jvm.LawKit.callS X0 hx (y := mn7) hown (mvT hZ (own_g hw 101 rfl)) (mvT hZ (own_g hw 102 rfl)) (mvT hZ (own_g hw 73 rfl)) (mvT hZ (own_g hw 103 rfl)) (by decide) (backOf (W := 0) (rmGC1_0 l Z a0 hw [] cs gS v1 k1 x0 h0 n0 Z0 V_env Od V1 hx0) hZ (own_g hw 103 rfl) (own_g hw 73 rfl) (by decide) (by decide)) (g := (mkF m 12 #[Rv v1, Iv ch, Iv 0, Iv 1, Iv 0] [(.int 0), (.ref v1)])) rfl (by rw [hml]; rfl) (argsL := [(.ref v1), (.int (0 : Int32))]) (rest := []) (lenOf own_pd177 rfl) rfl (own_z rfl) (hb hby d30_12) (fun _ _ => ⟨rfl, e0, (by decide : 0 + 0 ≤ _), (by decide : 0 + 0 ≤ _)⟩)
  dsimp only [Pt.U, Pt.locs, Pt.cells, Pt.slots] at X435 l435 y435 z435 st435 hQ435
  subst l435 y435 z435
  obtain ⟨rfl, Nq435, eh435⟩ := hQ435
  have N435 := Fr.app N0 Nq435
  refine own_by (fun _ k => XS.iloadN X0.here hx rfl (hb hby d30_0) rfl (XS.istore X0.here hx rfl (hb hby d30_1) rfl (l' := #[Rv v1, Iv ch, Iv 0, Iv 1, Iv 0]) rfl (XS.iload X0.here hx rfl (hb hby d30_3) rfl (XS.iloadN X0.here hx rfl (hb hby d30_5) rfl (XS.icmpNo X0.here hx rfl (hb hby d30_6) rfl (tlt (by decide : (0 : Int32) < (1 : Int32))).2.1 (XS.aloadN X0.here hx rfl (hb hby d30_9) rfl rfl (XS.iload X0.here hx rfl (hb hby d30_10) rfl (st435 _ (XS.iloadN X435.here hx rfl (hb hby d30_15) rfl k))))))))) ?_
  show own_Fin _ _ _ _ _ _ _ T435 (mkF m 16 #[Rv v1, Iv ch, Iv 0, Iv 1, Iv 0] [(.int ch), (.int x0)])
  by_cases hc16_436 : x0 = ch
  · show own_Fin _ _ _ _ _ _ _ T435 (mkF m 16 #[Rv v1, Iv ch, Iv 0, Iv 1, Iv 0] [(.int ch), (.int x0)])
    refine own_by (fun _ k => XS.icmpNo X435.here hx rfl (hb hby d30_16) rfl (teq hc16_436).2 (XS.iload X435.here hx rfl (hb hby d30_19) rfl k)) ?_
    exact own_retI X435 hx hlk hret (hb hby d30_21) ⟨own_vi (by show (0 : Int32) = _; first | (simp only [own_find, if_neg V_env.2.2.2.2.1, if_neg hq.1, if_neg hq.2.1, if_pos hq.2.2, if_pos hc16_436]; done) | (simp only [own_find, if_neg V_env.2.2.2.2.1, if_neg hq.1, if_neg hq.2.1, if_pos hq.2.2, if_pos hc16_436]; decide) | simp [own_find, V_env.2.2.2.2.1, hq.1, hq.2.1, hq.2.2, hc16_436]), N435, eh435⟩ (by decide) (by decide)
  · show own_Fin _ _ _ _ _ _ _ T435 (mkF m 16 #[Rv v1, Iv ch, Iv 0, Iv 1, Iv 0] [(.int ch), (.int x0)])
    refine own_by (fun _ k => XS.icmpYes X435.here hx rfl (pc0 := 16) (pc' := 22) rfl (hb hby d30_16) rfl (feq hc16_436).2 (by decide) (by decide) (XS.iinc X435.here hx rfl (hb hby d30_22) rfl (l' := #[Rv v1, Iv ch, Iv 0, Iv 1, Iv ((0 : Int32) + (1 : Int32))]) rfl k)) ?_
    show own_Fin _ _ _ _ _ _ _ T435 (mkF m 25 #[Rv v1, Iv ch, Iv 0, Iv 1, Iv ((0 : Int32) + (1 : Int32))] [])
    rw [(by decide : ((0 : Int32) + (1 : Int32)) = (1 : Int32))]
    show own_Fin _ _ _ _ _ _ _ T435 (mkF m 25 #[Rv v1, Iv ch, Iv 0, Iv 1, Iv 1] [])
    refine own_by (fun _ k => XS.goto X435.here hx rfl (pc0 := 25) (pc' := 3) rfl (hb hby d30_25) (by decide) (by decide) (XS.iload X435.here hx rfl (hb hby d30_3) rfl (XS.iloadN X435.here hx rfl (hb hby d30_5) rfl (XS.icmpYes X435.here hx rfl (pc0 := 6) (pc' := 28) rfl (hb hby d30_6) rfl (flt (by decide : ¬ ((1 : Int32) < (1 : Int32)))).2.1 (by decide) (by decide) (XS.iconst X435.here hx rfl (hb hby d30_28) k))))) ?_
    exact own_retI X435 hx hlk hret (hb hby d30_29) ⟨own_vi (by show (-1 : Int32) = _; first | (simp only [own_find, if_neg V_env.2.2.2.2.1, if_neg hq.1, if_neg hq.2.1, if_pos hq.2.2, if_neg hc16_436]; done) | (simp only [own_find, if_neg V_env.2.2.2.2.1, if_neg hq.1, if_neg hq.2.1, if_pos hq.2.2, if_neg hc16_436]; decide) | simp [own_find, V_env.2.2.2.2.1, hq.1, hq.2.1, hq.2.2, hc16_436]), N435, eh435⟩ (by decide) (by decide)
theorem d25_0 : decode jdk_52_method_47_code 0 = .ok (.iload_n 2, 1) := by decide +kernel
theorem d25_1 : decode jdk_52_method_47_code 1 = .ok (.iload_n 3, 1) := by decide +kernel
theorem d25_2 : decode jdk_52_method_47_code 2 = .ok (.aload_n 0, 1) := by decide +kernel
theorem d25_3 : decode jdk_52_method_47_code 3 = .ok (.invokestatic 96, 3) := by decide +kernel
theorem own_pd384 : parseMethodDescriptor "(II[B)V" = some ⟨[.int, .int, (.array .byte)], none⟩ := by decide +kernel
theorem d25_6 : decode jdk_52_method_47_code 6 = .ok (.aload_n 0, 1) := by decide +kernel
theorem d25_7 : decode jdk_52_method_47_code 7 = .ok (.iload_n 1, 1) := by decide +kernel
theorem d25_8 : decode jdk_52_method_47_code 8 = .ok (.iload_n 2, 1) := by decide +kernel
theorem d25_9 : decode jdk_52_method_47_code 9 = .ok (.iload_n 3, 1) := by decide +kernel
theorem d25_10 : decode jdk_52_method_47_code 10 = .ok (.invokestatic 244, 3) := by decide +kernel
theorem d25_13 : decode jdk_52_method_47_code 13 = .ok (.ireturn, 1) := by decide +kernel
def own_QrmIc1U (ch : Int32) (x0 : Int32) (h0 : Heap) (n0 : Nat) (v : Option Value) (h : Heap) (L : List Loc) : Prop := v = some (.int (own_find ch [x0] (0 : Int32))) ∧ Fr n0 L ∧ h = h0
set_option maxRecDepth 65536 in
set_option maxHeartbeats 40000000 in
theorem rmIc1U (l : Launch) (Z : State) (a0 : Array Value) (hw : own_W a0 Z) (ws : List Jvm.Cond) (cs : Int32) (gS : Value) (v1 : Addr) (k1 : ClassId) (ch : Int32) (x0 : Int32) (h0 : Heap) (n0 : Nat) (Z0 : n0 ≤ h0.size) (V_env : own_Env Z cs gS) (Od : Old Z n0 h0) (V1 : Arv Z h0 v1 k1 .byte (2 : Int32) [(.int (own_lo x0)), (.int (own_hi x0))] (.int (0 : Int32))) (hq : own_cq ch) (hx0 : own_ch x0) : own_Met l Z mn27 jdk_52_method_47_code 4 (some .int) ws (own_R 3 0 0 43) #[(.ref v1), (.int ch), (.int (0 : Int32)), (.int (1 : Int32))] h0 (own_QrmIc1U ch x0 h0 n0) := by
  refine own_enter n0 (plainFor_of_name own_pn40) (fun m => ef_RIII_4 m v1 ch (0 : Int32) (1 : Int32) ) (fun p e s m below meth c s₁ hx hby hlk hml hret hown hnm hZ X0 e0 N0 => ?_)
  show own_Fin _ _ _ _ _ _ _ s₁ (mkF m 0 #[Rv v1, Iv ch, Iv 0, Iv 1] [])
  obtain ⟨_, _, ⟨T437, L437, k437, n437⟩, -, X437, ⟨Lc437, hQ437, l437, y437, z437⟩, st437⟩ := Jvm.LawKit.callS X0 hx (y := mn25) hown (mvT hZ (own_g hw 113 rfl)) (mvT hZ (own_g hw 114 rfl)) (mvT hZ (own_g hw 73 rfl)) (mvT hZ (own_g hw 115 rfl)) (by decide) (backOf (W := 0) (rmCu1 l Z a0 hw [] cs gS v1 k1 [(.int (own_lo x0)), (.int (own_hi x0))] h0 n0 Z0 V_env Od V1) hZ (own_g hw 115 rfl) (own_g hw 73 rfl) (by decide) (by decide)) (g := (mkF m 3 #[Rv v1, Iv ch, Iv 0, Iv 1] [(.ref v1), (.int 1), (.int 0)])) rfl (by rw [hml]; rfl) (argsL := [(.int (0 : Int32)), (.int (1 : Int32)), (.ref v1)]) (rest := []) (lenOf own_pd384 rfl) rfl (own_z rfl) (hb hby d25_3) (fun _ _ => ⟨rfl, e0, (by decide : 0 + 0 ≤ _), (by decide : 0 + 0 ≤ _)⟩)
  dsimp only [Pt.U, Pt.locs, Pt.cells, Pt.slots] at X437 l437 y437 z437 st437 hQ437
  subst l437 y437 z437
  obtain ⟨rfl, Nq437, eh437⟩ := hQ437
  have N437 := Fr.app N0 Nq437
  obtain ⟨_, _, ⟨T438, L438, k438, n438⟩, -, X438, ⟨Lc438, hQ438, l438, y438, z438⟩, st438⟩ := Jvm.LawKit.callS X437 hx (y := mn26) hown (mvT hZ (own_g hw 127 rfl)) (mvT hZ (own_g hw 128 rfl)) (mvT hZ (own_g hw 73 rfl)) (mvT hZ (own_g hw 129 rfl)) (by decide) (backOf (W := 0) (rmIn1U l Z a0 hw [] cs gS v1 k1 ch x0 h0 n0 Z0 V_env Od V1 hq hx0) hZ (own_g hw 129 rfl) (own_g hw 73 rfl) (by decide) (by decide)) (g := (mkF m 10 #[Rv v1, Iv ch, Iv 0, Iv 1] [(.int 1), (.int 0), (.int ch), (.ref v1)])) rfl (by rw [hml]; rfl) (argsL := [(.ref v1), (.int ch), (.int (0 : Int32)), (.int (1 : Int32))]) (rest := []) (lenOf own_pd285 rfl) rfl (own_z rfl) (hb hby d25_10) (fun _ _ => ⟨rfl, eh437, (by decide : 0 + 0 ≤ _), (by decide : 0 + 0 ≤ _)⟩)
  dsimp only [Pt.U, Pt.locs, Pt.cells, Pt.slots] at X438 l438 y438 z438 st438 hQ438
  subst l438 y438 z438
  obtain ⟨rfl, Nq438, eh438⟩ := hQ438
  have N438 := Fr.app N437 Nq438
  refine own_by (fun _ k => XS.iloadN X0.here hx rfl (hb hby d25_0) rfl (XS.iloadN X0.here hx rfl (hb hby d25_1) rfl (XS.aloadN X0.here hx rfl (hb hby d25_2) rfl rfl (st437 _ (XS.aloadN X437.here hx rfl (hb hby d25_6) rfl rfl (XS.iloadN X437.here hx rfl (hb hby d25_7) rfl (XS.iloadN X437.here hx rfl (hb hby d25_8) rfl (XS.iloadN X437.here hx rfl (hb hby d25_9) rfl (st438 _ k))))))))) ?_
  exact own_retI X438 hx hlk hret (hb hby d25_13) ⟨rfl, N438, eh438⟩ (by decide) (by decide)
theorem d24_0 : decode jdk_52_method_40_code 0 = .ok (.iload_n 2, 1) := by decide +kernel
theorem d24_1 : decode jdk_52_method_40_code 1 = .ok (.iconst 0, 1) := by decide +kernel
theorem d24_2 : decode jdk_52_method_40_code 2 = .ok (.invokestatic 224, 3) := by decide +kernel
theorem d24_5 : decode jdk_52_method_40_code 5 = .ok (.istore_n 2, 1) := by decide +kernel
theorem d24_6 : decode jdk_52_method_40_code 6 = .ok (.iload_n 3, 1) := by decide +kernel
theorem d24_7 : decode jdk_52_method_40_code 7 = .ok (.aload_n 0, 1) := by decide +kernel
theorem d24_8 : decode jdk_52_method_40_code 8 = .ok (.arraylength, 1) := by decide +kernel
theorem d24_9 : decode jdk_52_method_40_code 9 = .ok (.iconst 1, 1) := by decide +kernel
theorem d24_10 : decode jdk_52_method_40_code 10 = .ok (.ishr, 1) := by decide +kernel
theorem d24_11 : decode jdk_52_method_40_code 11 = .ok (.invokestatic 183, 3) := by decide +kernel
theorem d24_14 : decode jdk_52_method_40_code 14 = .ok (.istore_n 3, 1) := by decide +kernel
theorem d24_15 : decode jdk_52_method_40_code 15 = .ok (.iload_n 2, 1) := by decide +kernel
theorem d24_16 : decode jdk_52_method_40_code 16 = .ok (.iload_n 3, 1) := by decide +kernel
theorem d24_17 : decode jdk_52_method_40_code 17 = .ok (.if_icmp .lt 5, 3) := by decide +kernel
theorem d24_22 : decode jdk_52_method_40_code 22 = .ok (.iload_n 1, 1) := by decide +kernel
theorem d24_23 : decode jdk_52_method_40_code 23 = .ok (.ldc 227, 2) := by decide +kernel
theorem d24_25 : decode jdk_52_method_40_code 25 = .ok (.if_icmp .ge 11, 3) := by decide +kernel
theorem d24_28 : decode jdk_52_method_40_code 28 = .ok (.aload_n 0, 1) := by decide +kernel
theorem d24_29 : decode jdk_52_method_40_code 29 = .ok (.iload_n 1, 1) := by decide +kernel
theorem d24_30 : decode jdk_52_method_40_code 30 = .ok (.iload_n 2, 1) := by decide +kernel
theorem d24_31 : decode jdk_52_method_40_code 31 = .ok (.iload_n 3, 1) := by decide +kernel
theorem d24_32 : decode jdk_52_method_40_code 32 = .ok (.invokestatic 228, 3) := by decide +kernel
theorem d24_35 : decode jdk_52_method_40_code 35 = .ok (.ireturn, 1) := by decide +kernel
def own_QrmIo1U (ch : Int32) (x0 : Int32) (h0 : Heap) (n0 : Nat) (v : Option Value) (h : Heap) (L : List Loc) : Prop := v = some (.int (own_find ch [x0] (0 : Int32))) ∧ Fr n0 L ∧ h = h0
set_option maxRecDepth 65536 in
set_option maxHeartbeats 40000000 in
theorem rmIo1U (l : Launch) (Z : State) (a0 : Array Value) (hw : own_W a0 Z) (ws : List Jvm.Cond) (cs : Int32) (gS : Value) (v1 : Addr) (k1 : ClassId) (ch : Int32) (x0 : Int32) (h0 : Heap) (n0 : Nat) (Z0 : n0 ≤ h0.size) (V_env : own_Env Z cs gS) (Od : Old Z n0 h0) (V1 : Arv Z h0 v1 k1 .byte (2 : Int32) [(.int (own_lo x0)), (.int (own_hi x0))] (.int (0 : Int32))) (hq : own_cq ch) (hx0 : own_ch x0) : own_Met l Z mn28 jdk_52_method_40_code 4 (some .int) ws (own_R 4 0 0 58) #[(.ref v1), (.int ch), (.int (0 : Int32)), (.int (1 : Int32))] h0 (own_QrmIo1U ch x0 h0 n0) := by
  refine own_enter n0 (plainFor_of_name own_pn40) (fun m => ef_RIII_4 m v1 ch (0 : Int32) (1 : Int32) ) (fun p e s m below meth c s₁ hx hby hlk hml hret hown hnm hZ X0 e0 N0 => ?_)
  show own_Fin _ _ _ _ _ _ _ s₁ (mkF m 0 #[Rv v1, Iv ch, Iv 0, Iv 1] [])
  obtain ⟨_, _, ⟨T439, L439, k439, n439⟩, -, X439, ⟨Lc439, hQ439, l439, y439, z439⟩, st439⟩ := Jvm.LawKit.callS X0 hx (y := mn14) hown (mvT hZ (own_g hw 107 rfl)) (mvT hZ (own_g hw 65 rfl)) (mvT hZ (own_g hw 66 rfl)) (mvT hZ (own_g hw 67 rfl)) (by decide) (backOf (W := 0) (rmmax_0_0 l Z a0 hw []  h0 n0 Z0 ) hZ (own_g hw 67 rfl) (own_g hw 66 rfl) (by decide) (by decide)) (g := (mkF m 2 #[Rv v1, Iv ch, Iv 0, Iv 1] [(.int 0), (.int 0)])) rfl (by rw [hml]; rfl) (argsL := [(.int (0 : Int32)), (.int (0 : Int32))]) (rest := []) (lenOf own_pd253 rfl) rfl (own_z rfl) (hb hby d24_2) (fun _ _ => ⟨rfl, e0, (by decide : 0 + 0 ≤ _), (by decide : 0 + 0 ≤ _)⟩)
  dsimp only [Pt.U, Pt.locs, Pt.cells, Pt.slots] at X439 l439 y439 z439 st439 hQ439
  subst l439 y439 z439
  obtain ⟨rfl, Nq439, eh439⟩ := hQ439
  have N439 := Fr.app N0 Nq439
  obtain ⟨cl440, Ar440, -, S440, M440, -, -⟩ := id V1
  refine own_by (fun _ k => XS.iloadN X0.here hx rfl (hb hby d24_0) rfl (XS.iconst X0.here hx rfl (hb hby d24_1) (st439 _ (XS.istoreN X439.here hx rfl (hb hby d24_5) rfl (l' := #[Rv v1, Iv ch, Iv 0, Iv 1]) rfl (XS.iloadN X439.here hx rfl (hb hby d24_6) rfl (XS.aloadN X439.here hx rfl (hb hby d24_7) rfl rfl (X439.arraylength hx (by rw [eh439]; exact Ar440.1) (State.isArrayOf_alike hZ.alike Ar440.2.1) (g := (mkF m 8 #[Rv v1, Iv ch, Iv 0, Iv 1] [(.ref v1), (.int 1)])) rfl rfl (hb hby d24_8) _ k))))))) ?_
  rw [len_of S440 M440]
  show own_Fin _ _ _ _ _ _ _ T439 (mkF m 9 #[Rv v1, Iv ch, Iv 0, Iv 1] [(.int 2), (.int 1)])
  refine own_by (fun _ k => XS.iconst X439.here hx rfl (hb hby d24_9) (XS.ishr X439.here hx rfl (hb hby d24_10) rfl k)) ?_
  show own_Fin _ _ _ _ _ _ _ T439 (mkF m 11 #[Rv v1, Iv ch, Iv 0, Iv 1] [(.int ((2 : Int32) >>> ((1 : Int32) &&& 31))), (.int 1)])
  rw [(by decide : ((2 : Int32) >>> ((1 : Int32) &&& 31)) = (1 : Int32))]
  show own_Fin _ _ _ _ _ _ _ T439 (mkF m 11 #[Rv v1, Iv ch, Iv 0, Iv 1] [(.int 1), (.int 1)])
  obtain ⟨_, _, ⟨T441, L441, k441, n441⟩, -, X441, ⟨Lc441, hQ441, l441, y441, z441⟩, st441⟩ := Jvm.LawKit.callS X439 hx (y := mn15) hown (mvT hZ (own_g hw 108 rfl)) (mvT hZ (own_g hw 69 rfl)) (mvT hZ (own_g hw 66 rfl)) (mvT hZ (own_g hw 70 rfl)) (by decide) (backOf (W := 0) (rmmin_1_1 l Z a0 hw []  h0 n0 Z0 ) hZ (own_g hw 70 rfl) (own_g hw 66 rfl) (by decide) (by decide)) (g := (mkF m 11 #[Rv v1, Iv ch, Iv 0, Iv 1] [(.int 1), (.int 1)])) rfl (by rw [hml]; rfl) (argsL := [(.int (1 : Int32)), (.int (1 : Int32))]) (rest := []) (lenOf own_pd253 rfl) rfl (own_z rfl) (hb hby d24_11) (fun _ _ => ⟨rfl, eh439, (by decide : 0 + 0 ≤ _), (by decide : 0 + 0 ≤ _)⟩)
  dsimp only [Pt.U, Pt.locs, Pt.cells, Pt.slots] at X441 l441 y441 z441 st441 hQ441
  subst l441 y441 z441
  obtain ⟨rfl, Nq441, eh441⟩ := hQ441
  have N441 := Fr.app N439 Nq441
  refine own_by (fun _ k => st441 _ (XS.istoreN X441.here hx rfl (hb hby d24_14) rfl (l' := #[Rv v1, Iv ch, Iv 0, Iv 1]) rfl (XS.iloadN X441.here hx rfl (hb hby d24_15) rfl (XS.iloadN X441.here hx rfl (hb hby d24_16) rfl (XS.icmpYes X441.here hx rfl (pc0 := 17) (pc' := 22) rfl (hb hby d24_17) rfl (tlt (by decide : (0 : Int32) < (1 : Int32))).1 (by decide) (by decide) (XS.iloadN X441.here hx rfl (hb hby d24_22) rfl (X441.ldcInt hx hown (mvT hZ (own_g hw 109 rfl)) (g := (mkF m 23 #[Rv v1, Iv ch, Iv 0, Iv 1] [(.int ch)])) rfl (hb hby d24_23) _ (XS.icmpNo X441.here hx rfl (hb hby d24_25) rfl (tlt hq.2.2).2.1 (XS.aloadN X441.here hx rfl (hb hby d24_28) rfl rfl (XS.iloadN X441.here hx rfl (hb hby d24_29) rfl k)))))))))) ?_
  show own_Fin _ _ _ _ _ _ _ T441 (mkF m 30 #[Rv v1, Iv ch, Iv 0, Iv 1] [(.int ch), (.ref v1)])
  obtain ⟨_, _, ⟨T442, L442, k442, n442⟩, -, X442, ⟨Lc442, hQ442, l442, y442, z442⟩, st442⟩ := Jvm.LawKit.callS X441 hx (y := mn27) hown (mvT hZ (own_g hw 110 rfl)) (mvT hZ (own_g hw 111 rfl)) (mvT hZ (own_g hw 73 rfl)) (mvT hZ (own_g hw 112 rfl)) (by decide) (backOf (W := 0) (rmIc1U l Z a0 hw [] cs gS v1 k1 ch x0 h0 n0 Z0 V_env Od V1 hq hx0) hZ (own_g hw 112 rfl) (own_g hw 73 rfl) (by decide) (by decide)) (g := (mkF m 32 #[Rv v1, Iv ch, Iv 0, Iv 1] [(.int 1), (.int 0), (.int ch), (.ref v1)])) rfl (by rw [hml]; rfl) (argsL := [(.ref v1), (.int ch), (.int (0 : Int32)), (.int (1 : Int32))]) (rest := []) (lenOf own_pd285 rfl) rfl (own_z rfl) (hb hby d24_32) (fun _ _ => ⟨rfl, eh441, (by decide : 0 + 0 ≤ _), (by decide : 0 + 0 ≤ _)⟩)
  dsimp only [Pt.U, Pt.locs, Pt.cells, Pt.slots] at X442 l442 y442 z442 st442 hQ442
  subst l442 y442 z442
  obtain ⟨rfl, Nq442, eh442⟩ := hQ442
  have N442 := Fr.app N441 Nq442
  refine own_by (fun _ k => XS.iloadN X441.here hx rfl (hb hby d24_30) rfl (XS.iloadN X441.here hx rfl (hb hby d24_31) rfl (st442 _ k))) ?_
  exact own_retI X442 hx hlk hret (hb hby d24_35) ⟨rfl, N442, eh442⟩ (by decide) (by decide)
def own_QrmSl1_U (h0 : Heap) (n0 : Nat) (v : Option Value) (h : Heap) (L : List Loc) : Prop := v = some (.int (1 : Int32)) ∧ Fr n0 L ∧ h = h0
set_option maxRecDepth 65536 in
set_option maxHeartbeats 40000000 in
theorem rmSl1_U (l : Launch) (Z : State) (a0 : Array Value) (hw : own_W a0 Z) (ws : List Jvm.Cond) (cs : Int32) (gS : Value) (a1 v1 : Addr) (k1 : ClassId) (vs : List Value) (h0 : Heap) (n0 : Nat) (Z0 : n0 ≤ h0.size) (V_env : own_Env Z cs gS) (Od : Old Z n0 h0) (E_a1 : Exa Z h0 a1 "java/lang/String") (F1 : Fld Z h0 a1 "java/lang/String" "value" "[B" (.ref v1)) (F2 : Fld Z h0 a1 "java/lang/String" "coder" "B" (.int (1 : Int32))) (V1 : Arv Z h0 v1 k1 .byte (2 : Int32) vs (.int (0 : Int32))) : own_Met l Z mn17 jdk_42_method_54_code 1 (some .int) ws (own_R 1 0 0 13) #[(.ref a1)] h0 (own_QrmSl1_U h0 n0) := by
  refine own_enter n0 (plainFor_of_name own_pn16) (fun m => ef_R_1 m a1 ) (fun p e s m below meth c s₁ hx hby hlk hml hret hown hnm hZ X0 e0 N0 => ?_)
  show own_Fin _ _ _ _ _ _ _ s₁ (mkF m 0 #[Rv a1] [])
  obtain ⟨T443, X443, e443, st443⟩ := getF X0 hx hZ hown (host := "") (Or.inl (own_g hw 25 rfl)) Via.refl e0 F1 (g := (mkF m 1 #[Rv a1] [(.ref a1)])) rfl rfl (hb hby d9_1)
  obtain ⟨cl444, Ar444, -, S444, M444, -, -⟩ := id V1
  refine own_by (fun _ k => XS.aloadN X0.here hx rfl (hb hby d9_0) rfl rfl (st443 _ (X443.arraylength hx (by rw [e443]; exact Ar444.1) (State.isArrayOf_alike hZ.alike Ar444.2.1) (g := (mkF m 4 #[Rv a1] [(.ref v1)])) rfl rfl (hb hby d9_4) _ k))) ?_
  rw [len_of S444 M444]
  show own_Fin _ _ _ _ _ _ _ T443 (mkF m 5 #[Rv a1] [(.int 2)])
  obtain ⟨cq445, kq445, q445a, q445b, q445c⟩ := isOf hZ e443 E_a1
  obtain ⟨_, _, ⟨T445, L445, k445, n445⟩, -, X445, ⟨Lc445, hQ445, l445, y445, z445⟩, st445⟩ := X443.virtualBack hx (y := mn12) (z := mn12) hown (mvT hZ (own_g hw 52 rfl)) (mvT hZ (own_g hw 53 rfl)) (notFace_of_selects (args := #[]) (mvT hZ (own_g hw 55 rfl))) (mvT hZ (own_g hw 55 rfl)) (mvT hZ (own_g hw 54 rfl)) (by decide) (backOf (W := 1) (rmCd1 l Z a0 hw [] cs gS a1 h0 n0 Z0 V_env Od F2) hZ (own_g hw 56 rfl) (own_g hw 8 rfl) (by decide) (by decide)) q445a q445c (g := (mkF m 6 #[Rv a1] [(.ref a1), (.int 2)])) rfl (by rw [hml]; rfl) (Steps.refl _) (argsL := []) (rest := [(.int (2 : Int32))]) (lenOf own_pd270 rfl) rfl (own_z rfl) (hb hby d9_6) (fun _ _ => ⟨rfl, e443, (by decide : 0 + 0 ≤ _), (by decide : 0 + 0 ≤ _)⟩)
  dsimp only [Pt.U, Pt.locs, Pt.cells, Pt.slots] at X445 l445 y445 z445 st445 hQ445
  subst l445 y445 z445
  obtain ⟨rfl, Nq445, eh445⟩ := hQ445
  have N445 := Fr.app N0 Nq445
  refine own_by (fun _ k => XS.aloadN X443.here hx rfl (hb hby d9_5) rfl rfl (st445.trans (XS.ishr X445.here hx rfl (hb hby d9_9) rfl k))) ?_
  show own_Fin _ _ _ _ _ _ _ T445 (mkF m 10 #[Rv a1] [(.int ((2 : Int32) >>> ((1 : Int32) &&& 31)))])
  rw [(by decide : ((2 : Int32) >>> ((1 : Int32) &&& 31)) = (1 : Int32))]
  show own_Fin _ _ _ _ _ _ _ T445 (mkF m 10 #[Rv a1] [(.int 1)])
  exact own_retI X445 hx hlk hret (hb hby d9_10) ⟨rfl, N445, eh445⟩ (by decide) (by decide)
theorem d7_23 : decode jdk_42_method_80_code 23 = .ok (.aload_n 0, 1) := by decide +kernel
theorem d7_24 : decode jdk_42_method_80_code 24 = .ok (.getfield 9, 3) := by decide +kernel
theorem d7_27 : decode jdk_42_method_80_code 27 = .ok (.iload_n 1, 1) := by decide +kernel
theorem d7_28 : decode jdk_42_method_80_code 28 = .ok (.iload_n 2, 1) := by decide +kernel
theorem d7_29 : decode jdk_42_method_80_code 29 = .ok (.aload_n 0, 1) := by decide +kernel
theorem d7_30 : decode jdk_42_method_80_code 30 = .ok (.invokevirtual 505, 3) := by decide +kernel
theorem d7_33 : decode jdk_42_method_80_code 33 = .ok (.invokestatic 640, 3) := by decide +kernel
def own_QrmI21U (ch : Int32) (x0 : Int32) (h0 : Heap) (n0 : Nat) (v : Option Value) (h : Heap) (L : List Loc) : Prop := v = some (.int (own_find ch [x0] (0 : Int32))) ∧ Fr n0 L ∧ h = h0
set_option maxRecDepth 65536 in
set_option maxHeartbeats 40000000 in
theorem rmI21U (l : Launch) (Z : State) (a0 : Array Value) (hw : own_W a0 Z) (ws : List Jvm.Cond) (cs : Int32) (gS : Value) (a1 : Addr) (v1 : Addr) (k1 : ClassId) (ch : Int32) (x0 : Int32) (h0 : Heap) (n0 : Nat) (Z0 : n0 ≤ h0.size) (V_env : own_Env Z cs gS) (Od : Old Z n0 h0) (E_a1 : Exa Z h0 a1 "java/lang/String") (F1 : Fld Z h0 a1 "java/lang/String" "value" "[B" (.ref v1)) (F2 : Fld Z h0 a1 "java/lang/String" "coder" "B" (.int (1 : Int32))) (V1 : Arv Z h0 v1 k1 .byte (2 : Int32) [(.int (own_lo x0)), (.int (own_hi x0))] (.int (0 : Int32))) (hq : own_cq ch) (hx0 : own_ch x0) : own_Met l Z mn18 jdk_42_method_80_code 3 (some .int) ws (own_R 5 0 0 73) #[(.ref a1), (.int ch), (.int (0 : Int32))] h0 (own_QrmI21U ch x0 h0 n0) := by
  refine own_enter n0 (plainFor_of_name own_pn16) (fun m => ef_RII_3 m a1 ch (0 : Int32) ) (fun p e s m below meth c s₁ hx hby hlk hml hret hown hnm hZ X0 e0 N0 => ?_)
  show own_Fin _ _ _ _ _ _ _ s₁ (mkF m 0 #[Rv a1, Iv ch, Iv 0] [])
  obtain ⟨cq446, kq446, q446a, q446b, q446c⟩ := isOf hZ e0 E_a1
  obtain ⟨_, _, ⟨T446, L446, k446, n446⟩, -, X446, ⟨Lc446, hQ446, l446, y446, z446⟩, st446⟩ := X0.virtualBack hx (y := mn11) (z := mn11) hown (mvT hZ (own_g hw 41 rfl)) (mvT hZ (own_g hw 42 rfl)) (notFace_of_selects (args := #[]) (mvT hZ (own_g hw 44 rfl))) (mvT hZ (own_g hw 44 rfl)) (mvT hZ (own_g hw 43 rfl)) (by decide) (backOf (W := 0) (rmIs1 l Z a0 hw [] cs gS a1 h0 n0 Z0 V_env Od F2) hZ (own_g hw 45 rfl) (own_g hw 8 rfl) (by decide) (by decide)) q446a q446c (g := (mkF m 1 #[Rv a1, Iv ch, Iv 0] [(.ref a1)])) rfl (by rw [hml]; rfl) (Steps.refl _) (argsL := []) (rest := []) (lenOf own_pd275 rfl) rfl (own_z rfl) (hb hby d7_1) (fun _ _ => ⟨rfl, e0, (by decide : 0 + 0 ≤ _), (by decide : 0 + 0 ≤ _)⟩)
  dsimp only [Pt.U, Pt.locs, Pt.cells, Pt.slots] at X446 l446 y446 z446 st446 hQ446
  subst l446 y446 z446
  obtain ⟨rfl, Nq446, eh446⟩ := hQ446
  have N446 := Fr.app N0 Nq446
  obtain ⟨T447, X447, e447, st447⟩ := getF X446 hx hZ hown (host := "") (Or.inl (own_g hw 25 rfl)) Via.refl eh446 F1 (g := (mkF m 24 #[Rv a1, Iv ch, Iv 0] [(.ref a1)])) rfl rfl (hb hby d7_24)
  obtain ⟨cq448, kq448, q448a, q448b, q448c⟩ := isOf hZ e447 E_a1
  obtain ⟨_, _, ⟨T448, L448, k448, n448⟩, -, X448, ⟨Lc448, hQ448, l448, y448, z448⟩, st448⟩ := X447.virtualBack hx (y := mn17) (z := mn17) hown (mvT hZ (own_g hw 47 rfl)) (mvT hZ (own_g hw 48 rfl)) (notFace_of_selects (args := #[]) (mvT hZ (own_g hw 50 rfl))) (mvT hZ (own_g hw 50 rfl)) (mvT hZ (own_g hw 49 rfl)) (by decide) (backOf (W := 3) (rmSl1_U l Z a0 hw [] cs gS a1 v1 k1 [(.int (own_lo x0)), (.int (own_hi x0))] h0 n0 Z0 V_env Od E_a1 F1 F2 V1) hZ (own_g hw 51 rfl) (own_g hw 8 rfl) (by decide) (by decide)) q448a q448c (g := (mkF m 30 #[Rv a1, Iv ch, Iv 0] [(.ref a1), (.int 0), (.int ch), (.ref v1)])) rfl (by rw [hml]; rfl) (Steps.refl _) (argsL := []) (rest := [(.int (0 : Int32)), (.int ch), (.ref v1)]) (lenOf own_pd283 rfl) rfl (own_z rfl) (hb hby d7_30) (fun _ _ => ⟨rfl, e447, (by decide : 0 + 0 ≤ _), (by decide : 0 + 0 ≤ _)⟩)
  dsimp only [Pt.U, Pt.locs, Pt.cells, Pt.slots] at X448 l448 y448 z448 st448 hQ448
  subst l448 y448 z448
  obtain ⟨rfl, Nq448, eh448⟩ := hQ448
  have N448 := Fr.app N446 Nq448
  obtain ⟨_, _, ⟨T449, L449, k449, n449⟩, -, X449, ⟨Lc449, hQ449, l449, y449, z449⟩, st449⟩ := Jvm.LawKit.callS X448 hx (y := mn28) hown (mvT hZ (own_g hw 104 rfl)) (mvT hZ (own_g hw 105 rfl)) (mvT hZ (own_g hw 73 rfl)) (mvT hZ (own_g hw 106 rfl)) (by decide) (backOf (W := 0) (rmIo1U l Z a0 hw [] cs gS v1 k1 ch x0 h0 n0 Z0 V_env Od V1 hq hx0) hZ (own_g hw 106 rfl) (own_g hw 73 rfl) (by decide) (by decide)) (g := (mkF m 33 #[Rv a1, Iv ch, Iv 0] [(.int 1), (.int 0), (.int ch), (.ref v1)])) rfl (by rw [hml]; rfl) (argsL := [(.ref v1), (.int ch), (.int (0 : Int32)), (.int (1 : Int32))]) (rest := []) (lenOf own_pd285 rfl) rfl (own_z rfl) (hb hby d7_33) (fun _ _ => ⟨rfl, eh448, (by decide : 0 + 0 ≤ _), (by decide : 0 + 0 ≤ _)⟩)
  dsimp only [Pt.U, Pt.locs, Pt.cells, Pt.slots] at X449 l449 y449 z449 st449 hQ449
  subst l449 y449 z449
  obtain ⟨rfl, Nq449, eh449⟩ := hQ449
  have N449 := Fr.app N448 Nq449
  refine own_by (fun _ k => XS.aloadN X0.here hx rfl (hb hby d7_0) rfl rfl (st446.trans (XS.ifYes X446.here hx rfl (pc0 := 4) (pc' := 23) rfl (hb hby d7_4) rfl ((if0 _ _).trans (teq (by decide : (0 : Int32) = (0 : Int32))).1) (by decide) (by decide) (XS.aloadN X446.here hx rfl (hb hby d7_23) rfl rfl (st447 _ (XS.iloadN X447.here hx rfl (hb hby d7_27) rfl (XS.iloadN X447.here hx rfl (hb hby d7_28) rfl (XS.aloadN X447.here hx rfl (hb hby d7_29) rfl rfl (st448.trans (st449 _ k)))))))))) ?_
  exact own_retI X449 hx hlk hret (hb hby d7_36) ⟨rfl, N449, eh449⟩ (by decide) (by decide)
def own_QrmIx1U (ch : Int32) (x0 : Int32) (h0 : Heap) (n0 : Nat) (v : Option Value) (h : Heap) (L : List Loc) : Prop := v = some (.int (own_find ch [x0] (0 : Int32))) ∧ Fr n0 L ∧ h = h0
set_option maxRecDepth 65536 in
set_option maxHeartbeats 40000000 in
theorem rmIx1U (l : Launch) (Z : State) (a0 : Array Value) (hw : own_W a0 Z) (ws : List Jvm.Cond) (cs : Int32) (gS : Value) (a1 : Addr) (v1 : Addr) (k1 : ClassId) (ch : Int32) (x0 : Int32) (h0 : Heap) (n0 : Nat) (Z0 : n0 ≤ h0.size) (V_env : own_Env Z cs gS) (Od : Old Z n0 h0) (E_a1 : Exa Z h0 a1 "java/lang/String") (F1 : Fld Z h0 a1 "java/lang/String" "value" "[B" (.ref v1)) (F2 : Fld Z h0 a1 "java/lang/String" "coder" "B" (.int (1 : Int32))) (V1 : Arv Z h0 v1 k1 .byte (2 : Int32) [(.int (own_lo x0)), (.int (own_hi x0))] (.int (0 : Int32))) (hq : own_cq ch) (hx0 : own_ch x0) : own_Met l Z mn19 jdk_42_method_79_code 2 (some .int) ws (own_R 6 0 0 87) #[(.ref a1), (.int ch)] h0 (own_QrmIx1U ch x0 h0 n0) := by
  refine own_enter n0 (plainFor_of_name own_pn16) (fun m => ef_RI_2 m a1 ch ) (fun p e s m below meth c s₁ hx hby hlk hml hret hown hnm hZ X0 e0 N0 => ?_)
  show own_Fin _ _ _ _ _ _ _ s₁ (mkF m 0 #[Rv a1, Iv ch] [])
  obtain ⟨cq450, kq450, q450a, q450b, q450c⟩ := isOf hZ e0 E_a1
  obtain ⟨_, _, ⟨T450, L450, k450, n450⟩, -, X450, ⟨Lc450, hQ450, l450, y450, z450⟩, st450⟩ := X0.virtualBack hx (y := mn18) (z := mn18) hown (mvT hZ (own_g hw 36 rfl)) (mvT hZ (own_g hw 37 rfl)) (notFace_of_selects (args := #[]) (mvT hZ (own_g hw 39 rfl))) (mvT hZ (own_g hw 39 rfl)) (mvT hZ (own_g hw 38 rfl)) (by decide) (backOf (W := 0) (rmI21U l Z a0 hw [] cs gS a1 v1 k1 ch x0 h0 n0 Z0 V_env Od E_a1 F1 F2 V1 hq hx0) hZ (own_g hw 40 rfl) (own_g hw 8 rfl) (by decide) (by decide)) q450a q450c (g := (mkF m 3 #[Rv a1, Iv ch] [(.int 0), (.int ch), (.ref a1)])) rfl (by rw [hml]; rfl) (Steps.refl _) (argsL := [(.int ch), (.int (0 : Int32))]) (rest := []) (lenOf own_pd253 rfl) rfl (own_z rfl) (hb hby d6_3) (fun _ _ => ⟨rfl, e0, (by decide : 0 + 0 ≤ _), (by decide : 0 + 0 ≤ _)⟩)
  dsimp only [Pt.U, Pt.locs, Pt.cells, Pt.slots] at X450 l450 y450 z450 st450 hQ450
  subst l450 y450 z450
  obtain ⟨rfl, Nq450, eh450⟩ := hQ450
  have N450 := Fr.app N0 Nq450
  refine own_by (fun _ k => XS.aloadN X0.here hx rfl (hb hby d6_0) rfl rfl (XS.iloadN X0.here hx rfl (hb hby d6_1) rfl (XS.iconst X0.here hx rfl (hb hby d6_2) (st450.trans k)))) ?_
  exact own_retI X450 hx hlk hret (hb hby d6_6) ⟨rfl, N450, eh450⟩ (by decide) (by decide)
def own_QIS1U (x0 : Int32) (h0 : Heap) (n0 : Nat) (v : Option Value) (h : Heap) (L : List Loc) : Prop := v = some (.int (own_neg (own_find (0 : Int32) [x0] (0 : Int32)))) ∧ Fr n0 L ∧ h = h0
set_option maxRecDepth 65536 in
set_option maxHeartbeats 40000000 in
theorem rmIS1U (l : Launch) (Z : State) (a0 : Array Value) (hw : own_W a0 Z) (ws : List Jvm.Cond) (cs : Int32) (gS : Value) (a1 v1 : Addr) (k1 : ClassId) (x0 : Int32)  (h0 : Heap) (n0 : Nat) (Z0 : n0 ≤ h0.size) (V_env : own_Env Z cs gS) (Od : Old Z n0 h0) (E_a1 : Exa Z h0 a1 "java/lang/String") (F1 : Fld Z h0 a1 "java/lang/String" "value" "[B" (.ref v1)) (F2 : Fld Z h0 a1 "java/lang/String" "coder" "B" (.int (1 : Int32))) (V1 : Arv Z h0 v1 k1 .byte (2 : Int32) [(.int (own_lo x0)), (.int (own_hi x0))] (.int (0 : Int32))) (hx0 : own_ch x0) : own_Met l Z mn20 prog_26_method_2_code 1 (some .boolean) ws (own_R 7 0 0 100) #[(.ref a1)] h0 (own_QIS1U x0 h0 n0) := by
  refine own_enter n0 (plainFor_of_name own_pn293) (fun m => ef_R_1 m a1 ) (fun p e s m below meth c s₁ hx hby hlk hml hret hown hnm hZ X0 e0 N0 => ?_)
  show own_Fin _ _ _ _ _ _ _ s₁ (mkF m 0 #[Rv a1] [])
  obtain ⟨cq451, kq451, q451a, q451b, q451c⟩ := isOf hZ e0 E_a1
  obtain ⟨_, _, ⟨T451, L451, k451, n451⟩, -, X451, ⟨Lc451, hQ451, l451, y451, z451⟩, st451⟩ := X0.virtualBack hx (y := mn19) (z := mn19) hown (mvT hZ (own_g hw 31 rfl)) (mvT hZ (own_g hw 32 rfl)) (notFace_of_selects (args := #[]) (mvT hZ (own_g hw 34 rfl))) (mvT hZ (own_g hw 34 rfl)) (mvT hZ (own_g hw 33 rfl)) (by decide) (backOf (W := 0) (rmIx1U l Z a0 hw [] cs gS a1 v1 k1 (0 : Int32) x0 h0 n0 Z0 V_env Od E_a1 F1 F2 V1 ⟨by decide, by decide, by decide⟩ hx0) hZ (own_g hw 35 rfl) (own_g hw 8 rfl) (by decide) (by decide)) q451a q451c (g := (mkF m 2 #[Rv a1] [(.int 0), (.ref a1)])) rfl (by rw [hml]; rfl) (Steps.refl _) (argsL := [(.int (0 : Int32))]) (rest := []) (lenOf own_pd52 rfl) rfl (own_z rfl) (hb hby d5_2) (fun _ _ => ⟨rfl, e0, (by decide : 0 + 0 ≤ _), (by decide : 0 + 0 ≤ _)⟩)
  dsimp only [Pt.U, Pt.locs, Pt.cells, Pt.slots] at X451 l451 y451 z451 st451 hQ451
  subst l451 y451 z451
  obtain ⟨rfl, Nq451, eh451⟩ := hQ451
  have N451 := Fr.app N0 Nq451
  refine own_by (fun _ k => XS.aloadN X0.here hx rfl (hb hby d5_0) rfl rfl (XS.iconst X0.here hx rfl (hb hby d5_1) (st451.trans k))) ?_
  show own_Fin _ _ _ _ _ _ _ T451 (mkF m 5 #[Rv a1] [(.int (own_find (0 : Int32) [x0] (0 : Int32)))])
  by_cases hc5_452 : (own_find (0 : Int32) [x0] (0 : Int32)) < (0 : Int32)
  · show own_Fin _ _ _ _ _ _ _ T451 (mkF m 5 #[Rv a1] [(.int (own_find (0 : Int32) [x0] (0 : Int32)))])
    refine own_by (fun _ k => XS.ifNo X451.here hx rfl (hb hby d5_5) rfl ((if0 _ _).trans (tlt hc5_452).2.1) (XS.iconst X451.here hx rfl (hb hby d5_8) (XS.goto X451.here hx rfl (pc0 := 9) (pc' := 13) rfl (hb hby d5_9) (by decide) (by decide) k))) ?_
    exact own_retZ X451 hx hlk (t := .boolean) hret (by simp) (hb hby d5_13) ⟨own_vi (by show (1 : Int32) = _; first | (simp only [own_neg, if_neg V_env.2.2.2.2.1, if_pos hc5_452]; done) | (simp only [own_neg, if_neg V_env.2.2.2.2.1, if_pos hc5_452]; decide) | simp [own_neg, V_env.2.2.2.2.1, hc5_452]), N451, eh451⟩ (by decide) (by decide)
  · show own_Fin _ _ _ _ _ _ _ T451 (mkF m 5 #[Rv a1] [(.int (own_find (0 : Int32) [x0] (0 : Int32)))])
    refine own_by (fun _ k => XS.ifYes X451.here hx rfl (pc0 := 5) (pc' := 12) rfl (hb hby d5_5) rfl ((if0 _ _).trans (flt hc5_452).2.1) (by decide) (by decide) (XS.iconst X451.here hx rfl (hb hby d5_12) k)) ?_
    exact own_retZ X451 hx hlk (t := .boolean) hret (by simp) (hb hby d5_13) ⟨own_vi (by show (0 : Int32) = _; first | (simp only [own_neg, if_neg V_env.2.2.2.2.1, if_neg hc5_452]; done) | (simp only [own_neg, if_neg V_env.2.2.2.2.1, if_neg hc5_452]; decide) | simp [own_neg, V_env.2.2.2.2.1, hc5_452]), N451, eh451⟩ (by decide) (by decide)
def own_QrmIc2L (ch : Int32) (x0 x1 : Int32) (h0 : Heap) (n0 : Nat) (v : Option Value) (h : Heap) (L : List Loc) : Prop := v = some (.int (own_find (ch.toInt8.toInt32) [x0.toInt8.toInt32, x1.toInt8.toInt32] (0 : Int32))) ∧ Fr n0 L ∧ h = h0
set_option maxRecDepth 65536 in
set_option maxHeartbeats 40000000 in
theorem rmIc2L (l : Launch) (Z : State) (a0 : Array Value) (hw : own_W a0 Z) (ws : List Jvm.Cond) (cs : Int32) (gS : Value) (v1 : Addr) (k1 : ClassId) (ch : Int32) (x0 x1 : Int32) (h0 : Heap) (n0 : Nat) (Z0 : n0 ≤ h0.size) (V_env : own_Env Z cs gS) (Od : Old Z n0 h0) (V1 : Arv Z h0 v1 k1 .byte (2 : Int32) [(.int x0.toInt8.toInt32), (.int x1.toInt8.toInt32)] (.int (0 : Int32))) (hq : own_cq ch) : own_Met l Z mn21 jdk_43_method_23_code 6 (some .int) ws (own_R 0 0 0 0) #[(.ref v1), (.int ch), (.int (0 : Int32)), (.int (2 : Int32))] h0 (own_QrmIc2L ch x0 x1 h0 n0) := by
  refine own_enter n0 (plainFor_of_name own_pn223) (fun m => ef_RIII_6 m v1 ch (0 : Int32) (2 : Int32) ) (fun p e s m below meth c s₁ hx hby hlk hml hret hown hnm hZ X0 e0 N0 => ?_)
  show own_Fin _ _ _ _ _ _ _ s₁ (mkF m 0 #[Rv v1, Iv ch, Iv 0, Iv 2, Uv, Uv] [])
  obtain ⟨cl453, Ar453, -, S453, M453, H453, -⟩ := id V1
  have hin453 : ¬ ((0 : Int32) < 0 ∨ cl453.slots.size ≤ ((0 : Int32)).toNatClampNeg) := inb_of S453 ⟨by decide, by decide⟩
  have hat453 : cl453.slots[((0 : Int32)).toNatClampNeg]? = some (.int x0.toInt8.toInt32) := Has.at H453 hin453 rfl
  refine own_by (fun _ k => XS.iloadN X0.here hx rfl (hb hby d18_0) rfl (XS.i2b X0.here hx rfl (hb hby d18_1) rfl (XS.istore X0.here hx rfl (hb hby d18_2) rfl (l' := #[Rv v1, Iv ch, Iv 0, Iv 2, Iv (ch.toInt8.toInt32), Uv]) rfl (XS.iloadN X0.here hx rfl (hb hby d18_4) rfl (XS.istore X0.here hx rfl (hb hby d18_5) rfl (l' := #[Rv v1, Iv ch, Iv 0, Iv 2, Iv (ch.toInt8.toInt32), Iv 0]) rfl (XS.iload X0.here hx rfl (hb hby d18_7) rfl (XS.iloadN X0.here hx rfl (hb hby d18_9) rfl (XS.icmpNo X0.here hx rfl (hb hby d18_10) rfl (tlt (by decide : (0 : Int32) < (2 : Int32))).2.1 (XS.aloadN X0.here hx rfl (hb hby d18_13) rfl rfl (XS.iload X0.here hx rfl (hb hby d18_14) rfl k)))))))))) ?_
  show own_Fin _ _ _ _ _ _ _ s₁ (mkF m 16 #[Rv v1, Iv ch, Iv 0, Iv 2, Iv (ch.toInt8.toInt32), Iv 0] [(.int 0), (.ref v1)])
  refine own_by (fun _ k => X0.baloadBytes hx (j := (0 : Int32)) (v := (.int x0.toInt8.toInt32)) (by rw [e0]; exact Ar453.1) (State.isArrayOf_alike hZ.alike Ar453.2.1) Ar453.2.2 hin453 hat453 (g := (mkF m 16 #[Rv v1, Iv ch, Iv 0, Iv 2, Iv (ch.toInt8.toInt32), Iv 0] [(.int 0), (.ref v1)])) rfl rfl (hb hby d18_16) _ (XS.iload X0.here hx rfl (hb hby d18_17) rfl k)) ?_
  show own_Fin _ _ _ _ _ _ _ s₁ (mkF m 19 #[Rv v1, Iv ch, Iv 0, Iv 2, Iv (ch.toInt8.toInt32), Iv 0] [(.int (ch.toInt8.toInt32)), (.int x0.toInt8.toInt32)])
  by_cases hc19_454 : x0.toInt8.toInt32 = (ch.toInt8.toInt32)
  · show own_Fin _ _ _ _ _ _ _ s₁ (mkF m 19 #[Rv v1, Iv ch, Iv 0, Iv 2, Iv (ch.toInt8.toInt32), Iv 0] [(.int (ch.toInt8.toInt32)), (.int x0.toInt8.toInt32)])
    refine own_by (fun _ k => XS.icmpNo X0.here hx rfl (hb hby d18_19) rfl (teq hc19_454).2 (XS.iload X0.here hx rfl (hb hby d18_22) rfl k)) ?_
    exact own_retI X0 hx hlk hret (hb hby d18_24) ⟨own_vi (by show (0 : Int32) = _; first | (simp only [own_find, if_neg V_env.2.2.2.2.1, if_neg hq.1, if_neg hq.2.1, if_pos hq.2.2, if_pos hc19_454]; done) | (simp only [own_find, if_neg V_env.2.2.2.2.1, if_neg hq.1, if_neg hq.2.1, if_pos hq.2.2, if_pos hc19_454]; decide) | simp [own_find, V_env.2.2.2.2.1, hq.1, hq.2.1, hq.2.2, hc19_454]), N0, e0⟩ (by decide) (by decide)
  · show own_Fin _ _ _ _ _ _ _ s₁ (mkF m 19 #[Rv v1, Iv ch, Iv 0, Iv 2, Iv (ch.toInt8.toInt32), Iv 0] [(.int (ch.toInt8.toInt32)), (.int x0.toInt8.toInt32)])
    refine own_by (fun _ k => XS.icmpYes X0.here hx rfl (pc0 := 19) (pc' := 25) rfl (hb hby d18_19) rfl (feq hc19_454).2 (by decide) (by decide) (XS.iinc X0.here hx rfl (hb hby d18_25) rfl (l' := #[Rv v1, Iv ch, Iv 0, Iv 2, Iv (ch.toInt8.toInt32), Iv ((0 : Int32) + (1 : Int32))]) rfl k)) ?_
    show own_Fin _ _ _ _ _ _ _ s₁ (mkF m 28 #[Rv v1, Iv ch, Iv 0, Iv 2, Iv (ch.toInt8.toInt32), Iv ((0 : Int32) + (1 : Int32))] [])
    rw [(by decide : ((0 : Int32) + (1 : Int32)) = (1 : Int32))]
    show own_Fin _ _ _ _ _ _ _ s₁ (mkF m 28 #[Rv v1, Iv ch, Iv 0, Iv 2, Iv (ch.toInt8.toInt32), Iv 1] [])
    obtain ⟨cl455, Ar455, -, S455, M455, H455, -⟩ := id V1
    have hin455 : ¬ ((1 : Int32) < 0 ∨ cl455.slots.size ≤ ((1 : Int32)).toNatClampNeg) := inb_of S455 ⟨by decide, by decide⟩
    have hat455 : cl455.slots[((1 : Int32)).toNatClampNeg]? = some (.int x1.toInt8.toInt32) := Has.at H455 hin455 rfl
    refine own_by (fun _ k => XS.goto X0.here hx rfl (pc0 := 28) (pc' := 7) rfl (hb hby d18_28) (by decide) (by decide) (XS.iload X0.here hx rfl (hb hby d18_7) rfl (XS.iloadN X0.here hx rfl (hb hby d18_9) rfl (XS.icmpNo X0.here hx rfl (hb hby d18_10) rfl (tlt (by decide : (1 : Int32) < (2 : Int32))).2.1 (XS.aloadN X0.here hx rfl (hb hby d18_13) rfl rfl (XS.iload X0.here hx rfl (hb hby d18_14) rfl (X0.baloadBytes hx (j := (1 : Int32)) (v := (.int x1.toInt8.toInt32)) (by rw [e0]; exact Ar455.1) (State.isArrayOf_alike hZ.alike Ar455.2.1) Ar455.2.2 hin455 hat455 (g := (mkF m 16 #[Rv v1, Iv ch, Iv 0, Iv 2, Iv (ch.toInt8.toInt32), Iv 1] [(.int 1), (.ref v1)])) rfl rfl (hb hby d18_16) _ (XS.iload X0.here hx rfl (hb hby d18_17) rfl k)))))))) ?_
    show own_Fin _ _ _ _ _ _ _ s₁ (mkF m 19 #[Rv v1, Iv ch, Iv 0, Iv 2, Iv (ch.toInt8.toInt32), Iv 1] [(.int (ch.toInt8.toInt32)), (.int x1.toInt8.toInt32)])
    by_cases hc19_456 : x1.toInt8.toInt32 = (ch.toInt8.toInt32)
    · show own_Fin _ _ _ _ _ _ _ s₁ (mkF m 19 #[Rv v1, Iv ch, Iv 0, Iv 2, Iv (ch.toInt8.toInt32), Iv 1] [(.int (ch.toInt8.toInt32)), (.int x1.toInt8.toInt32)])
      refine own_by (fun _ k => XS.icmpNo X0.here hx rfl (hb hby d18_19) rfl (teq hc19_456).2 (XS.iload X0.here hx rfl (hb hby d18_22) rfl k)) ?_
      exact own_retI X0 hx hlk hret (hb hby d18_24) ⟨own_vi (by show (1 : Int32) = _; first | (simp only [own_find, if_neg V_env.2.2.2.2.1, if_neg hq.1, if_neg hq.2.1, if_pos hq.2.2, if_neg hc19_454, if_pos hc19_456]; done) | (simp only [own_find, if_neg V_env.2.2.2.2.1, if_neg hq.1, if_neg hq.2.1, if_pos hq.2.2, if_neg hc19_454, if_pos hc19_456]; decide) | simp [own_find, V_env.2.2.2.2.1, hq.1, hq.2.1, hq.2.2, hc19_454, hc19_456]), N0, e0⟩ (by decide) (by decide)
    · show own_Fin _ _ _ _ _ _ _ s₁ (mkF m 19 #[Rv v1, Iv ch, Iv 0, Iv 2, Iv (ch.toInt8.toInt32), Iv 1] [(.int (ch.toInt8.toInt32)), (.int x1.toInt8.toInt32)])
      refine own_by (fun _ k => XS.icmpYes X0.here hx rfl (pc0 := 19) (pc' := 25) rfl (hb hby d18_19) rfl (feq hc19_456).2 (by decide) (by decide) (XS.iinc X0.here hx rfl (hb hby d18_25) rfl (l' := #[Rv v1, Iv ch, Iv 0, Iv 2, Iv (ch.toInt8.toInt32), Iv ((1 : Int32) + (1 : Int32))]) rfl k)) ?_
      show own_Fin _ _ _ _ _ _ _ s₁ (mkF m 28 #[Rv v1, Iv ch, Iv 0, Iv 2, Iv (ch.toInt8.toInt32), Iv ((1 : Int32) + (1 : Int32))] [])
      rw [(by decide : ((1 : Int32) + (1 : Int32)) = (2 : Int32))]
      show own_Fin _ _ _ _ _ _ _ s₁ (mkF m 28 #[Rv v1, Iv ch, Iv 0, Iv 2, Iv (ch.toInt8.toInt32), Iv 2] [])
      refine own_by (fun _ k => XS.goto X0.here hx rfl (pc0 := 28) (pc' := 7) rfl (hb hby d18_28) (by decide) (by decide) (XS.iload X0.here hx rfl (hb hby d18_7) rfl (XS.iloadN X0.here hx rfl (hb hby d18_9) rfl (XS.icmpYes X0.here hx rfl (pc0 := 10) (pc' := 31) rfl (hb hby d18_10) rfl (flt (by decide : ¬ ((2 : Int32) < (2 : Int32)))).2.1 (by decide) (by decide) (XS.iconst X0.here hx rfl (hb hby d18_31) k))))) ?_
      exact own_retI X0 hx hlk hret (hb hby d18_32) ⟨own_vi (by show (-1 : Int32) = _; first | (simp only [own_find, if_neg V_env.2.2.2.2.1, if_neg hq.1, if_neg hq.2.1, if_pos hq.2.2, if_neg hc19_454, if_neg hc19_456]; done) | (simp only [own_find, if_neg V_env.2.2.2.2.1, if_neg hq.1, if_neg hq.2.1, if_pos hq.2.2, if_neg hc19_454, if_neg hc19_456]; decide) | simp [own_find, V_env.2.2.2.2.1, hq.1, hq.2.1, hq.2.2, hc19_454, hc19_456]), N0, e0⟩ (by decide) (by decide)
def own_Qrmmin_2_2 (h0 : Heap) (n0 : Nat) (v : Option Value) (h : Heap) (L : List Loc) : Prop := v = some (.int (2 : Int32)) ∧ Fr n0 L ∧ h = h0
set_option maxRecDepth 65536 in
set_option maxHeartbeats 40000000 in
theorem rmmin_2_2 (l : Launch) (Z : State) (a0 : Array Value) (hw : own_W a0 Z) (ws : List Jvm.Cond)  (h0 : Heap) (n0 : Nat) (Z0 : n0 ≤ h0.size)  : own_Met l Z mn15 jdk_29_method_69_code 2 (some .int) ws (own_R 0 0 0 0) #[(.int (2 : Int32)), (.int (2 : Int32))] h0 (own_Qrmmin_2_2 h0 n0) := by
  refine own_enter n0 (by decide +kernel) (fun m => ef_II_2 m (2 : Int32) (2 : Int32) ) (fun p e s m below meth c s₁ hx hby hlk hml hret hown hnm hZ X0 e0 N0 => ?_)
  show own_Fin _ _ _ _ _ _ _ s₁ (mkF m 0 #[Iv 2, Iv 2] [])
  refine own_by (fun _ k => XS.iloadN X0.here hx rfl (hb hby d14_0) rfl (XS.iloadN X0.here hx rfl (hb hby d14_1) rfl (XS.icmpNo X0.here hx rfl (hb hby d14_2) rfl (flt (by decide : ¬ ((2 : Int32) < (2 : Int32)))).2.2.1 (XS.iloadN X0.here hx rfl (hb hby d14_5) rfl (XS.goto X0.here hx rfl (pc0 := 6) (pc' := 10) rfl (hb hby d14_6) (by decide) (by decide) k))))) ?_
  exact own_retI X0 hx hlk hret (hb hby d14_10) ⟨rfl, N0, e0⟩ (by decide) (by decide)
def own_QrmIo2L (ch : Int32) (x0 x1 : Int32) (h0 : Heap) (n0 : Nat) (v : Option Value) (h : Heap) (L : List Loc) : Prop := v = some (.int (own_find (ch.toInt8.toInt32) [x0.toInt8.toInt32, x1.toInt8.toInt32] (0 : Int32))) ∧ Fr n0 L ∧ h = h0
set_option maxRecDepth 65536 in
set_option maxHeartbeats 40000000 in
theorem rmIo2L (l : Launch) (Z : State) (a0 : Array Value) (hw : own_W a0 Z) (ws : List Jvm.Cond) (cs : Int32) (gS : Value) (v1 : Addr) (k1 : ClassId) (ch : Int32) (x0 x1 : Int32) (h0 : Heap) (n0 : Nat) (Z0 : n0 ≤ h0.size) (V_env : own_Env Z cs gS) (Od : Old Z n0 h0) (V1 : Arv Z h0 v1 k1 .byte (2 : Int32) [(.int x0.toInt8.toInt32), (.int x1.toInt8.toInt32)] (.int (0 : Int32))) (hq : own_cq ch) : own_Met l Z mn16 jdk_43_method_22_code 4 (some .int) ws (own_R 1 0 0 17) #[(.ref v1), (.int ch), (.int (0 : Int32)), (.int (2 : Int32))] h0 (own_QrmIo2L ch x0 x1 h0 n0) := by
  refine own_enter n0 (plainFor_of_name own_pn223) (fun m => ef_RIII_4 m v1 ch (0 : Int32) (2 : Int32) ) (fun p e s m below meth c s₁ hx hby hlk hml hret hown hnm hZ X0 e0 N0 => ?_)
  show own_Fin _ _ _ _ _ _ _ s₁ (mkF m 0 #[Rv v1, Iv ch, Iv 0, Iv 2] [])
  obtain ⟨_, _, ⟨T457, L457, k457, n457⟩, -, X457, ⟨Lc457, hQ457, l457, y457, z457⟩, st457⟩ := Jvm.LawKit.callS X0 hx (y := mn13) hown (mvT hZ (own_g hw 61 rfl)) (mvT hZ (own_g hw 62 rfl)) (mvT hZ (own_g hw 59 rfl)) (mvT hZ (own_g hw 63 rfl)) (by decide) (backOf (W := 0) (rmCe l Z a0 hw [] ch h0 n0 Z0 hq) hZ (own_g hw 63 rfl) (own_g hw 59 rfl) (by decide) (by decide)) (g := (mkF m 1 #[Rv v1, Iv ch, Iv 0, Iv 2] [(.int ch)])) rfl (by rw [hml]; rfl) (argsL := [(.int ch)]) (rest := []) (lenOf own_pd248 rfl) rfl (own_z rfl) (hb hby d11_1) (fun _ _ => ⟨rfl, e0, (by decide : 0 + 0 ≤ _), (by decide : 0 + 0 ≤ _)⟩)
  dsimp only [Pt.U, Pt.locs, Pt.cells, Pt.slots] at X457 l457 y457 z457 st457 hQ457
  subst l457 y457 z457
  obtain ⟨rfl, Nq457, eh457⟩ := hQ457
  have N457 := Fr.app N0 Nq457
  obtain ⟨_, _, ⟨T458, L458, k458, n458⟩, -, X458, ⟨Lc458, hQ458, l458, y458, z458⟩, st458⟩ := Jvm.LawKit.callS X457 hx (y := mn14) hown (mvT hZ (own_g hw 64 rfl)) (mvT hZ (own_g hw 65 rfl)) (mvT hZ (own_g hw 66 rfl)) (mvT hZ (own_g hw 67 rfl)) (by decide) (backOf (W := 0) (rmmax_0_0 l Z a0 hw []  h0 n0 Z0 ) hZ (own_g hw 67 rfl) (own_g hw 66 rfl) (by decide) (by decide)) (g := (mkF m 11 #[Rv v1, Iv ch, Iv 0, Iv 2] [(.int 0), (.int 0)])) rfl (by rw [hml]; rfl) (argsL := [(.int (0 : Int32)), (.int (0 : Int32))]) (rest := []) (lenOf own_pd253 rfl) rfl (own_z rfl) (hb hby d11_11) (fun _ _ => ⟨rfl, eh457, (by decide : 0 + 0 ≤ _), (by decide : 0 + 0 ≤ _)⟩)
  dsimp only [Pt.U, Pt.locs, Pt.cells, Pt.slots] at X458 l458 y458 z458 st458 hQ458
  subst l458 y458 z458
  obtain ⟨rfl, Nq458, eh458⟩ := hQ458
  have N458 := Fr.app N457 Nq458
  obtain ⟨cl459, Ar459, -, S459, M459, -, -⟩ := id V1
  refine own_by (fun _ k => XS.iloadN X0.here hx rfl (hb hby d11_0) rfl (st457 _ (XS.ifYes X457.here hx rfl (pc0 := 4) (pc' := 9) rfl (hb hby d11_4) rfl ((if0 _ _).trans (feq (by decide : ¬ ((1 : Int32) = (0 : Int32)))).2) (by decide) (by decide) (XS.iloadN X457.here hx rfl (hb hby d11_9) rfl (XS.iconst X457.here hx rfl (hb hby d11_10) (st458 _ (XS.istoreN X458.here hx rfl (hb hby d11_14) rfl (l' := #[Rv v1, Iv ch, Iv 0, Iv 2]) rfl (XS.iloadN X458.here hx rfl (hb hby d11_15) rfl (XS.aloadN X458.here hx rfl (hb hby d11_16) rfl rfl (X458.arraylength hx (by rw [eh458]; exact Ar459.1) (State.isArrayOf_alike hZ.alike Ar459.2.1) (g := (mkF m 17 #[Rv v1, Iv ch, Iv 0, Iv 2] [(.ref v1), (.int 2)])) rfl rfl (hb hby d11_17) _ k)))))))))) ?_
  rw [len_of S459 M459]
  show own_Fin _ _ _ _ _ _ _ T458 (mkF m 18 #[Rv v1, Iv ch, Iv 0, Iv 2] [(.int 2), (.int 2)])
  obtain ⟨_, _, ⟨T460, L460, k460, n460⟩, -, X460, ⟨Lc460, hQ460, l460, y460, z460⟩, st460⟩ := Jvm.LawKit.callS X458 hx (y := mn15) hown (mvT hZ (own_g hw 68 rfl)) (mvT hZ (own_g hw 69 rfl)) (mvT hZ (own_g hw 66 rfl)) (mvT hZ (own_g hw 70 rfl)) (by decide) (backOf (W := 0) (rmmin_2_2 l Z a0 hw []  h0 n0 Z0 ) hZ (own_g hw 70 rfl) (own_g hw 66 rfl) (by decide) (by decide)) (g := (mkF m 18 #[Rv v1, Iv ch, Iv 0, Iv 2] [(.int 2), (.int 2)])) rfl (by rw [hml]; rfl) (argsL := [(.int (2 : Int32)), (.int (2 : Int32))]) (rest := []) (lenOf own_pd253 rfl) rfl (own_z rfl) (hb hby d11_18) (fun _ _ => ⟨rfl, eh458, (by decide : 0 + 0 ≤ _), (by decide : 0 + 0 ≤ _)⟩)
  dsimp only [Pt.U, Pt.locs, Pt.cells, Pt.slots] at X460 l460 y460 z460 st460 hQ460
  subst l460 y460 z460
  obtain ⟨rfl, Nq460, eh460⟩ := hQ460
  have N460 := Fr.app N458 Nq460
  obtain ⟨_, _, ⟨T461, L461, k461, n461⟩, -, X461, ⟨Lc461, hQ461, l461, y461, z461⟩, st461⟩ := Jvm.LawKit.callS X460 hx (y := mn21) hown (mvT hZ (own_g hw 81 rfl)) (mvT hZ (own_g hw 82 rfl)) (mvT hZ (own_g hw 59 rfl)) (mvT hZ (own_g hw 83 rfl)) (by decide) (backOf (W := 0) (rmIc2L l Z a0 hw [] cs gS v1 k1 ch x0 x1 h0 n0 Z0 V_env Od V1 hq ) hZ (own_g hw 83 rfl) (own_g hw 59 rfl) (by decide) (by decide)) (g := (mkF m 33 #[Rv v1, Iv ch, Iv 0, Iv 2] [(.int 2), (.int 0), (.int ch), (.ref v1)])) rfl (by rw [hml]; rfl) (argsL := [(.ref v1), (.int ch), (.int (0 : Int32)), (.int (2 : Int32))]) (rest := []) (lenOf own_pd285 rfl) rfl (own_z rfl) (hb hby d11_33) (fun _ _ => ⟨rfl, eh460, (by decide : 0 + 0 ≤ _), (by decide : 0 + 0 ≤ _)⟩)
  dsimp only [Pt.U, Pt.locs, Pt.cells, Pt.slots] at X461 l461 y461 z461 st461 hQ461
  subst l461 y461 z461
  obtain ⟨rfl, Nq461, eh461⟩ := hQ461
  have N461 := Fr.app N460 Nq461
  refine own_by (fun _ k => st460 _ (XS.istoreN X460.here hx rfl (hb hby d11_21) rfl (l' := #[Rv v1, Iv ch, Iv 0, Iv 2]) rfl (XS.iloadN X460.here hx rfl (hb hby d11_22) rfl (XS.iloadN X460.here hx rfl (hb hby d11_23) rfl (XS.icmpYes X460.here hx rfl (pc0 := 24) (pc' := 29) rfl (hb hby d11_24) rfl (tlt (by decide : (0 : Int32) < (2 : Int32))).1 (by decide) (by decide) (XS.aloadN X460.here hx rfl (hb hby d11_29) rfl rfl (XS.iloadN X460.here hx rfl (hb hby d11_30) rfl (XS.iloadN X460.here hx rfl (hb hby d11_31) rfl (XS.iloadN X460.here hx rfl (hb hby d11_32) rfl (st461 _ k)))))))))) ?_
  exact own_retI X461 hx hlk hret (hb hby d11_36) ⟨rfl, N461, eh461⟩ (by decide) (by decide)
def own_QrmSl2_L (h0 : Heap) (n0 : Nat) (v : Option Value) (h : Heap) (L : List Loc) : Prop := v = some (.int (2 : Int32)) ∧ Fr n0 L ∧ h = h0
set_option maxRecDepth 65536 in
set_option maxHeartbeats 40000000 in
theorem rmSl2_L (l : Launch) (Z : State) (a0 : Array Value) (hw : own_W a0 Z) (ws : List Jvm.Cond) (cs : Int32) (gS : Value) (a1 v1 : Addr) (k1 : ClassId) (vs : List Value) (h0 : Heap) (n0 : Nat) (Z0 : n0 ≤ h0.size) (V_env : own_Env Z cs gS) (Od : Old Z n0 h0) (E_a1 : Exa Z h0 a1 "java/lang/String") (F1 : Fld Z h0 a1 "java/lang/String" "value" "[B" (.ref v1)) (F2 : Fld Z h0 a1 "java/lang/String" "coder" "B" (.int (0 : Int32))) (V1 : Arv Z h0 v1 k1 .byte (2 : Int32) vs (.int (0 : Int32))) : own_Met l Z mn17 jdk_42_method_54_code 1 (some .int) ws (own_R 1 0 0 13) #[(.ref a1)] h0 (own_QrmSl2_L h0 n0) := by
  refine own_enter n0 (plainFor_of_name own_pn16) (fun m => ef_R_1 m a1 ) (fun p e s m below meth c s₁ hx hby hlk hml hret hown hnm hZ X0 e0 N0 => ?_)
  show own_Fin _ _ _ _ _ _ _ s₁ (mkF m 0 #[Rv a1] [])
  obtain ⟨T462, X462, e462, st462⟩ := getF X0 hx hZ hown (host := "") (Or.inl (own_g hw 25 rfl)) Via.refl e0 F1 (g := (mkF m 1 #[Rv a1] [(.ref a1)])) rfl rfl (hb hby d9_1)
  obtain ⟨cl463, Ar463, -, S463, M463, -, -⟩ := id V1
  refine own_by (fun _ k => XS.aloadN X0.here hx rfl (hb hby d9_0) rfl rfl (st462 _ (X462.arraylength hx (by rw [e462]; exact Ar463.1) (State.isArrayOf_alike hZ.alike Ar463.2.1) (g := (mkF m 4 #[Rv a1] [(.ref v1)])) rfl rfl (hb hby d9_4) _ k))) ?_
  rw [len_of S463 M463]
  show own_Fin _ _ _ _ _ _ _ T462 (mkF m 5 #[Rv a1] [(.int 2)])
  obtain ⟨cq464, kq464, q464a, q464b, q464c⟩ := isOf hZ e462 E_a1
  obtain ⟨_, _, ⟨T464, L464, k464, n464⟩, -, X464, ⟨Lc464, hQ464, l464, y464, z464⟩, st464⟩ := X462.virtualBack hx (y := mn12) (z := mn12) hown (mvT hZ (own_g hw 52 rfl)) (mvT hZ (own_g hw 53 rfl)) (notFace_of_selects (args := #[]) (mvT hZ (own_g hw 55 rfl))) (mvT hZ (own_g hw 55 rfl)) (mvT hZ (own_g hw 54 rfl)) (by decide) (backOf (W := 1) (rmCd0 l Z a0 hw [] cs gS a1 h0 n0 Z0 V_env Od F2) hZ (own_g hw 56 rfl) (own_g hw 8 rfl) (by decide) (by decide)) q464a q464c (g := (mkF m 6 #[Rv a1] [(.ref a1), (.int 2)])) rfl (by rw [hml]; rfl) (Steps.refl _) (argsL := []) (rest := [(.int (2 : Int32))]) (lenOf own_pd270 rfl) rfl (own_z rfl) (hb hby d9_6) (fun _ _ => ⟨rfl, e462, (by decide : 0 + 0 ≤ _), (by decide : 0 + 0 ≤ _)⟩)
  dsimp only [Pt.U, Pt.locs, Pt.cells, Pt.slots] at X464 l464 y464 z464 st464 hQ464
  subst l464 y464 z464
  obtain ⟨rfl, Nq464, eh464⟩ := hQ464
  have N464 := Fr.app N0 Nq464
  refine own_by (fun _ k => XS.aloadN X462.here hx rfl (hb hby d9_5) rfl rfl (st464.trans (XS.ishr X464.here hx rfl (hb hby d9_9) rfl k))) ?_
  show own_Fin _ _ _ _ _ _ _ T464 (mkF m 10 #[Rv a1] [(.int ((2 : Int32) >>> ((0 : Int32) &&& 31)))])
  rw [(by decide : ((2 : Int32) >>> ((0 : Int32) &&& 31)) = (2 : Int32))]
  show own_Fin _ _ _ _ _ _ _ T464 (mkF m 10 #[Rv a1] [(.int 2)])
  exact own_retI X464 hx hlk hret (hb hby d9_10) ⟨rfl, N464, eh464⟩ (by decide) (by decide)
def own_QrmI22L (ch : Int32) (x0 x1 : Int32) (h0 : Heap) (n0 : Nat) (v : Option Value) (h : Heap) (L : List Loc) : Prop := v = some (.int (own_find (ch.toInt8.toInt32) [x0.toInt8.toInt32, x1.toInt8.toInt32] (0 : Int32))) ∧ Fr n0 L ∧ h = h0
set_option maxRecDepth 65536 in
set_option maxHeartbeats 40000000 in
theorem rmI22L (l : Launch) (Z : State) (a0 : Array Value) (hw : own_W a0 Z) (ws : List Jvm.Cond) (cs : Int32) (gS : Value) (a1 : Addr) (v1 : Addr) (k1 : ClassId) (ch : Int32) (x0 x1 : Int32) (h0 : Heap) (n0 : Nat) (Z0 : n0 ≤ h0.size) (V_env : own_Env Z cs gS) (Od : Old Z n0 h0) (E_a1 : Exa Z h0 a1 "java/lang/String") (F1 : Fld Z h0 a1 "java/lang/String" "value" "[B" (.ref v1)) (F2 : Fld Z h0 a1 "java/lang/String" "coder" "B" (.int (0 : Int32))) (V1 : Arv Z h0 v1 k1 .byte (2 : Int32) [(.int x0.toInt8.toInt32), (.int x1.toInt8.toInt32)] (.int (0 : Int32))) (hq : own_cq ch) : own_Met l Z mn18 jdk_42_method_80_code 3 (some .int) ws (own_R 2 0 0 32) #[(.ref a1), (.int ch), (.int (0 : Int32))] h0 (own_QrmI22L ch x0 x1 h0 n0) := by
  refine own_enter n0 (plainFor_of_name own_pn16) (fun m => ef_RII_3 m a1 ch (0 : Int32) ) (fun p e s m below meth c s₁ hx hby hlk hml hret hown hnm hZ X0 e0 N0 => ?_)
  show own_Fin _ _ _ _ _ _ _ s₁ (mkF m 0 #[Rv a1, Iv ch, Iv 0] [])
  obtain ⟨cq465, kq465, q465a, q465b, q465c⟩ := isOf hZ e0 E_a1
  obtain ⟨_, _, ⟨T465, L465, k465, n465⟩, -, X465, ⟨Lc465, hQ465, l465, y465, z465⟩, st465⟩ := X0.virtualBack hx (y := mn11) (z := mn11) hown (mvT hZ (own_g hw 41 rfl)) (mvT hZ (own_g hw 42 rfl)) (notFace_of_selects (args := #[]) (mvT hZ (own_g hw 44 rfl))) (mvT hZ (own_g hw 44 rfl)) (mvT hZ (own_g hw 43 rfl)) (by decide) (backOf (W := 0) (rmIs0 l Z a0 hw [] cs gS a1 h0 n0 Z0 V_env Od F2) hZ (own_g hw 45 rfl) (own_g hw 8 rfl) (by decide) (by decide)) q465a q465c (g := (mkF m 1 #[Rv a1, Iv ch, Iv 0] [(.ref a1)])) rfl (by rw [hml]; rfl) (Steps.refl _) (argsL := []) (rest := []) (lenOf own_pd275 rfl) rfl (own_z rfl) (hb hby d7_1) (fun _ _ => ⟨rfl, e0, (by decide : 0 + 0 ≤ _), (by decide : 0 + 0 ≤ _)⟩)
  dsimp only [Pt.U, Pt.locs, Pt.cells, Pt.slots] at X465 l465 y465 z465 st465 hQ465
  subst l465 y465 z465
  obtain ⟨rfl, Nq465, eh465⟩ := hQ465
  have N465 := Fr.app N0 Nq465
  obtain ⟨T466, X466, e466, st466⟩ := getF X465 hx hZ hown (host := "") (Or.inl (own_g hw 25 rfl)) Via.refl eh465 F1 (g := (mkF m 8 #[Rv a1, Iv ch, Iv 0] [(.ref a1)])) rfl rfl (hb hby d7_8)
  obtain ⟨cq467, kq467, q467a, q467b, q467c⟩ := isOf hZ e466 E_a1
  obtain ⟨_, _, ⟨T467, L467, k467, n467⟩, -, X467, ⟨Lc467, hQ467, l467, y467, z467⟩, st467⟩ := X466.virtualBack hx (y := mn17) (z := mn17) hown (mvT hZ (own_g hw 47 rfl)) (mvT hZ (own_g hw 48 rfl)) (notFace_of_selects (args := #[]) (mvT hZ (own_g hw 50 rfl))) (mvT hZ (own_g hw 50 rfl)) (mvT hZ (own_g hw 49 rfl)) (by decide) (backOf (W := 3) (rmSl2_L l Z a0 hw [] cs gS a1 v1 k1 [(.int x0.toInt8.toInt32), (.int x1.toInt8.toInt32)] h0 n0 Z0 V_env Od E_a1 F1 F2 V1) hZ (own_g hw 51 rfl) (own_g hw 8 rfl) (by decide) (by decide)) q467a q467c (g := (mkF m 14 #[Rv a1, Iv ch, Iv 0] [(.ref a1), (.int 0), (.int ch), (.ref v1)])) rfl (by rw [hml]; rfl) (Steps.refl _) (argsL := []) (rest := [(.int (0 : Int32)), (.int ch), (.ref v1)]) (lenOf own_pd283 rfl) rfl (own_z rfl) (hb hby d7_14) (fun _ _ => ⟨rfl, e466, (by decide : 0 + 0 ≤ _), (by decide : 0 + 0 ≤ _)⟩)
  dsimp only [Pt.U, Pt.locs, Pt.cells, Pt.slots] at X467 l467 y467 z467 st467 hQ467
  subst l467 y467 z467
  obtain ⟨rfl, Nq467, eh467⟩ := hQ467
  have N467 := Fr.app N465 Nq467
  obtain ⟨_, _, ⟨T468, L468, k468, n468⟩, -, X468, ⟨Lc468, hQ468, l468, y468, z468⟩, st468⟩ := Jvm.LawKit.callS X467 hx (y := mn16) hown (mvT hZ (own_g hw 57 rfl)) (mvT hZ (own_g hw 58 rfl)) (mvT hZ (own_g hw 59 rfl)) (mvT hZ (own_g hw 60 rfl)) (by decide) (backOf (W := 0) (rmIo2L l Z a0 hw [] cs gS v1 k1 ch x0 x1 h0 n0 Z0 V_env Od V1 hq ) hZ (own_g hw 60 rfl) (own_g hw 59 rfl) (by decide) (by decide)) (g := (mkF m 17 #[Rv a1, Iv ch, Iv 0] [(.int 2), (.int 0), (.int ch), (.ref v1)])) rfl (by rw [hml]; rfl) (argsL := [(.ref v1), (.int ch), (.int (0 : Int32)), (.int (2 : Int32))]) (rest := []) (lenOf own_pd285 rfl) rfl (own_z rfl) (hb hby d7_17) (fun _ _ => ⟨rfl, eh467, (by decide : 0 + 0 ≤ _), (by decide : 0 + 0 ≤ _)⟩)
  dsimp only [Pt.U, Pt.locs, Pt.cells, Pt.slots] at X468 l468 y468 z468 st468 hQ468
  subst l468 y468 z468
  obtain ⟨rfl, Nq468, eh468⟩ := hQ468
  have N468 := Fr.app N467 Nq468
  refine own_by (fun _ k => XS.aloadN X0.here hx rfl (hb hby d7_0) rfl rfl (st465.trans (XS.ifNo X465.here hx rfl (hb hby d7_4) rfl ((if0 _ _).trans (feq (by decide : ¬ ((1 : Int32) = (0 : Int32)))).1) (XS.aloadN X465.here hx rfl (hb hby d7_7) rfl rfl (st466 _ (XS.iloadN X466.here hx rfl (hb hby d7_11) rfl (XS.iloadN X466.here hx rfl (hb hby d7_12) rfl (XS.aloadN X466.here hx rfl (hb hby d7_13) rfl rfl (st467.trans (st468 _ k)))))))))) ?_
  show own_Fin _ _ _ _ _ _ _ T468 (mkF m 20 #[Rv a1, Iv ch, Iv 0] [(.int (own_find (ch.toInt8.toInt32) [x0.toInt8.toInt32, x1.toInt8.toInt32] (0 : Int32)))])
  refine own_by (fun _ k => XS.goto X468.here hx rfl (pc0 := 20) (pc' := 36) rfl (hb hby d7_20) (by decide) (by decide) k) ?_
  exact own_retI X468 hx hlk hret (hb hby d7_36) ⟨rfl, N468, eh468⟩ (by decide) (by decide)
def own_QrmIx2L (ch : Int32) (x0 x1 : Int32) (h0 : Heap) (n0 : Nat) (v : Option Value) (h : Heap) (L : List Loc) : Prop := v = some (.int (own_find (ch.toInt8.toInt32) [x0.toInt8.toInt32, x1.toInt8.toInt32] (0 : Int32))) ∧ Fr n0 L ∧ h = h0
set_option maxRecDepth 65536 in
set_option maxHeartbeats 40000000 in
theorem rmIx2L (l : Launch) (Z : State) (a0 : Array Value) (hw : own_W a0 Z) (ws : List Jvm.Cond) (cs : Int32) (gS : Value) (a1 : Addr) (v1 : Addr) (k1 : ClassId) (ch : Int32) (x0 x1 : Int32) (h0 : Heap) (n0 : Nat) (Z0 : n0 ≤ h0.size) (V_env : own_Env Z cs gS) (Od : Old Z n0 h0) (E_a1 : Exa Z h0 a1 "java/lang/String") (F1 : Fld Z h0 a1 "java/lang/String" "value" "[B" (.ref v1)) (F2 : Fld Z h0 a1 "java/lang/String" "coder" "B" (.int (0 : Int32))) (V1 : Arv Z h0 v1 k1 .byte (2 : Int32) [(.int x0.toInt8.toInt32), (.int x1.toInt8.toInt32)] (.int (0 : Int32))) (hq : own_cq ch) : own_Met l Z mn19 jdk_42_method_79_code 2 (some .int) ws (own_R 3 0 0 46) #[(.ref a1), (.int ch)] h0 (own_QrmIx2L ch x0 x1 h0 n0) := by
  refine own_enter n0 (plainFor_of_name own_pn16) (fun m => ef_RI_2 m a1 ch ) (fun p e s m below meth c s₁ hx hby hlk hml hret hown hnm hZ X0 e0 N0 => ?_)
  show own_Fin _ _ _ _ _ _ _ s₁ (mkF m 0 #[Rv a1, Iv ch] [])
  obtain ⟨cq469, kq469, q469a, q469b, q469c⟩ := isOf hZ e0 E_a1
  obtain ⟨_, _, ⟨T469, L469, k469, n469⟩, -, X469, ⟨Lc469, hQ469, l469, y469, z469⟩, st469⟩ := X0.virtualBack hx (y := mn18) (z := mn18) hown (mvT hZ (own_g hw 36 rfl)) (mvT hZ (own_g hw 37 rfl)) (notFace_of_selects (args := #[]) (mvT hZ (own_g hw 39 rfl))) (mvT hZ (own_g hw 39 rfl)) (mvT hZ (own_g hw 38 rfl)) (by decide) (backOf (W := 0) (rmI22L l Z a0 hw [] cs gS a1 v1 k1 ch x0 x1 h0 n0 Z0 V_env Od E_a1 F1 F2 V1 hq ) hZ (own_g hw 40 rfl) (own_g hw 8 rfl) (by decide) (by decide)) q469a q469c (g := (mkF m 3 #[Rv a1, Iv ch] [(.int 0), (.int ch), (.ref a1)])) rfl (by rw [hml]; rfl) (Steps.refl _) (argsL := [(.int ch), (.int (0 : Int32))]) (rest := []) (lenOf own_pd253 rfl) rfl (own_z rfl) (hb hby d6_3) (fun _ _ => ⟨rfl, e0, (by decide : 0 + 0 ≤ _), (by decide : 0 + 0 ≤ _)⟩)
  dsimp only [Pt.U, Pt.locs, Pt.cells, Pt.slots] at X469 l469 y469 z469 st469 hQ469
  subst l469 y469 z469
  obtain ⟨rfl, Nq469, eh469⟩ := hQ469
  have N469 := Fr.app N0 Nq469
  refine own_by (fun _ k => XS.aloadN X0.here hx rfl (hb hby d6_0) rfl rfl (XS.iloadN X0.here hx rfl (hb hby d6_1) rfl (XS.iconst X0.here hx rfl (hb hby d6_2) (st469.trans k)))) ?_
  exact own_retI X469 hx hlk hret (hb hby d6_6) ⟨rfl, N469, eh469⟩ (by decide) (by decide)
def own_QIS2L (x0 x1 : Int32) (h0 : Heap) (n0 : Nat) (v : Option Value) (h : Heap) (L : List Loc) : Prop := v = some (.int (own_neg (own_find ((0 : Int32).toInt8.toInt32) [x0.toInt8.toInt32, x1.toInt8.toInt32] (0 : Int32)))) ∧ Fr n0 L ∧ h = h0
set_option maxRecDepth 65536 in
set_option maxHeartbeats 40000000 in
theorem rmIS2L (l : Launch) (Z : State) (a0 : Array Value) (hw : own_W a0 Z) (ws : List Jvm.Cond) (cs : Int32) (gS : Value) (a1 v1 : Addr) (k1 : ClassId) (x0 x1 : Int32)  (h0 : Heap) (n0 : Nat) (Z0 : n0 ≤ h0.size) (V_env : own_Env Z cs gS) (Od : Old Z n0 h0) (E_a1 : Exa Z h0 a1 "java/lang/String") (F1 : Fld Z h0 a1 "java/lang/String" "value" "[B" (.ref v1)) (F2 : Fld Z h0 a1 "java/lang/String" "coder" "B" (.int (0 : Int32))) (V1 : Arv Z h0 v1 k1 .byte (2 : Int32) [(.int x0.toInt8.toInt32), (.int x1.toInt8.toInt32)] (.int (0 : Int32))) : own_Met l Z mn20 prog_26_method_2_code 1 (some .boolean) ws (own_R 4 0 0 59) #[(.ref a1)] h0 (own_QIS2L x0 x1 h0 n0) := by
  refine own_enter n0 (plainFor_of_name own_pn293) (fun m => ef_R_1 m a1 ) (fun p e s m below meth c s₁ hx hby hlk hml hret hown hnm hZ X0 e0 N0 => ?_)
  show own_Fin _ _ _ _ _ _ _ s₁ (mkF m 0 #[Rv a1] [])
  obtain ⟨cq470, kq470, q470a, q470b, q470c⟩ := isOf hZ e0 E_a1
  obtain ⟨_, _, ⟨T470, L470, k470, n470⟩, -, X470, ⟨Lc470, hQ470, l470, y470, z470⟩, st470⟩ := X0.virtualBack hx (y := mn19) (z := mn19) hown (mvT hZ (own_g hw 31 rfl)) (mvT hZ (own_g hw 32 rfl)) (notFace_of_selects (args := #[]) (mvT hZ (own_g hw 34 rfl))) (mvT hZ (own_g hw 34 rfl)) (mvT hZ (own_g hw 33 rfl)) (by decide) (backOf (W := 0) (rmIx2L l Z a0 hw [] cs gS a1 v1 k1 (0 : Int32) x0 x1 h0 n0 Z0 V_env Od E_a1 F1 F2 V1 ⟨by decide, by decide, by decide⟩ ) hZ (own_g hw 35 rfl) (own_g hw 8 rfl) (by decide) (by decide)) q470a q470c (g := (mkF m 2 #[Rv a1] [(.int 0), (.ref a1)])) rfl (by rw [hml]; rfl) (Steps.refl _) (argsL := [(.int (0 : Int32))]) (rest := []) (lenOf own_pd52 rfl) rfl (own_z rfl) (hb hby d5_2) (fun _ _ => ⟨rfl, e0, (by decide : 0 + 0 ≤ _), (by decide : 0 + 0 ≤ _)⟩)
  dsimp only [Pt.U, Pt.locs, Pt.cells, Pt.slots] at X470 l470 y470 z470 st470 hQ470
  subst l470 y470 z470
  obtain ⟨rfl, Nq470, eh470⟩ := hQ470
  have N470 := Fr.app N0 Nq470
  refine own_by (fun _ k => XS.aloadN X0.here hx rfl (hb hby d5_0) rfl rfl (XS.iconst X0.here hx rfl (hb hby d5_1) (st470.trans k))) ?_
  show own_Fin _ _ _ _ _ _ _ T470 (mkF m 5 #[Rv a1] [(.int (own_find ((0 : Int32).toInt8.toInt32) [x0.toInt8.toInt32, x1.toInt8.toInt32] (0 : Int32)))])
  by_cases hc5_471 : (own_find ((0 : Int32).toInt8.toInt32) [x0.toInt8.toInt32, x1.toInt8.toInt32] (0 : Int32)) < (0 : Int32)
  · show own_Fin _ _ _ _ _ _ _ T470 (mkF m 5 #[Rv a1] [(.int (own_find ((0 : Int32).toInt8.toInt32) [x0.toInt8.toInt32, x1.toInt8.toInt32] (0 : Int32)))])
    refine own_by (fun _ k => XS.ifNo X470.here hx rfl (hb hby d5_5) rfl ((if0 _ _).trans (tlt hc5_471).2.1) (XS.iconst X470.here hx rfl (hb hby d5_8) (XS.goto X470.here hx rfl (pc0 := 9) (pc' := 13) rfl (hb hby d5_9) (by decide) (by decide) k))) ?_
    exact own_retZ X470 hx hlk (t := .boolean) hret (by simp) (hb hby d5_13) ⟨own_vi (by show (1 : Int32) = _; first | (simp only [own_neg, if_neg V_env.2.2.2.2.1, if_pos hc5_471]; done) | (simp only [own_neg, if_neg V_env.2.2.2.2.1, if_pos hc5_471]; decide) | simp [own_neg, V_env.2.2.2.2.1, hc5_471]), N470, eh470⟩ (by decide) (by decide)
  · show own_Fin _ _ _ _ _ _ _ T470 (mkF m 5 #[Rv a1] [(.int (own_find ((0 : Int32).toInt8.toInt32) [x0.toInt8.toInt32, x1.toInt8.toInt32] (0 : Int32)))])
    refine own_by (fun _ k => XS.ifYes X470.here hx rfl (pc0 := 5) (pc' := 12) rfl (hb hby d5_5) rfl ((if0 _ _).trans (flt hc5_471).2.1) (by decide) (by decide) (XS.iconst X470.here hx rfl (hb hby d5_12) k)) ?_
    exact own_retZ X470 hx hlk (t := .boolean) hret (by simp) (hb hby d5_13) ⟨own_vi (by show (0 : Int32) = _; first | (simp only [own_neg, if_neg V_env.2.2.2.2.1, if_neg hc5_471]; done) | (simp only [own_neg, if_neg V_env.2.2.2.2.1, if_neg hc5_471]; decide) | simp [own_neg, V_env.2.2.2.2.1, hc5_471]), N470, eh470⟩ (by decide) (by decide)
def own_QrmLu2 (h0 : Heap) (n0 : Nat) (v : Option Value) (h : Heap) (L : List Loc) : Prop := v = some (.int (2 : Int32)) ∧ Fr n0 L ∧ h = h0
set_option maxRecDepth 65536 in
set_option maxHeartbeats 40000000 in
theorem rmLu2 (l : Launch) (Z : State) (a0 : Array Value) (hw : own_W a0 Z) (ws : List Jvm.Cond) (v1 : Addr) (k1 : ClassId) (vs : List Value) (h0 : Heap) (n0 : Nat) (Z0 : n0 ≤ h0.size) (V1 : Arv Z h0 v1 k1 .byte (4 : Int32) vs (.int (0 : Int32))) : own_Met l Z mn22 jdk_52_method_6_code 1 (some .int) ws (own_R 0 0 0 0) #[(.ref v1)] h0 (own_QrmLu2 h0 n0) := by
  refine own_enter n0 (plainFor_of_name own_pn40) (fun m => ef_R_1 m v1 ) (fun p e s m below meth c s₁ hx hby hlk hml hret hown hnm hZ X0 e0 N0 => ?_)
  show own_Fin _ _ _ _ _ _ _ s₁ (mkF m 0 #[Rv v1] [])
  obtain ⟨cl472, Ar472, -, S472, M472, -, -⟩ := id V1
  refine own_by (fun _ k => XS.aloadN X0.here hx rfl (hb hby d27_0) rfl rfl (X0.arraylength hx (by rw [e0]; exact Ar472.1) (State.isArrayOf_alike hZ.alike Ar472.2.1) (g := (mkF m 1 #[Rv v1] [(.ref v1)])) rfl rfl (hb hby d27_1) _ k)) ?_
  rw [len_of S472 M472]
  show own_Fin _ _ _ _ _ _ _ s₁ (mkF m 2 #[Rv v1] [(.int 4)])
  refine own_by (fun _ k => XS.iconst X0.here hx rfl (hb hby d27_2) (XS.ishr X0.here hx rfl (hb hby d27_3) rfl k)) ?_
  show own_Fin _ _ _ _ _ _ _ s₁ (mkF m 4 #[Rv v1] [(.int ((4 : Int32) >>> ((1 : Int32) &&& 31)))])
  rw [(by decide : ((4 : Int32) >>> ((1 : Int32) &&& 31)) = (2 : Int32))]
  show own_Fin _ _ _ _ _ _ _ s₁ (mkF m 4 #[Rv v1] [(.int 2)])
  exact own_retI X0 hx hlk hret (hb hby d27_4) ⟨rfl, N0, e0⟩ (by decide) (by decide)
def own_QrmCf2 (h0 : Heap) (n0 : Nat) (v : Option Value) (h : Heap) (L : List Loc) : Prop := v = some (.int (0 : Int32)) ∧ Fr n0 L ∧ h = h0
set_option maxRecDepth 65536 in
set_option maxHeartbeats 40000000 in
theorem rmCf2 (l : Launch) (Z : State) (a0 : Array Value) (hw : own_W a0 Z) (ws : List Jvm.Cond) (gS : Value) (h0 : Heap) (n0 : Nat) (Z0 : n0 ≤ h0.size) (hgS : gS.isRef = true) : own_Met l Z mn23 jdk_41_method_12_code 4 (some .int) ws (own_R 0 0 0 0) #[(.int (0 : Int32)), (.int (2 : Int32)), (.int (2 : Int32)), gS] h0 (own_QrmCf2 h0 n0) := by
  refine own_enter n0 (plainFor_of_name own_pn334) (fun m => ef_IIIV_4 m (0 : Int32) (2 : Int32) (2 : Int32) gS (by rcases ref_cases (by assumption : (gS).isRef = true) with h | ⟨_, h⟩ <;> rw [h] <;> rfl)) (fun p e s m below meth c s₁ hx hby hlk hml hret hown hnm hZ X0 e0 N0 => ?_)
  show own_Fin _ _ _ _ _ _ _ s₁ (mkF m 0 #[Iv 0, Iv 2, Iv 2, .val gS] [])
  refine own_by (fun _ k => XS.iloadN X0.here hx rfl (hb hby d29_0) rfl (XS.ifNo X0.here hx rfl (hb hby d29_1) rfl ((if0 _ _).trans (flt (by decide : ¬ ((0 : Int32) < (0 : Int32)))).1) (XS.iloadN X0.here hx rfl (hb hby d29_4) rfl (XS.iloadN X0.here hx rfl (hb hby d29_5) rfl (XS.icmpNo X0.here hx rfl (hb hby d29_6) rfl (flt (by decide : ¬ ((2 : Int32) < (0 : Int32)))).2.2.1 (XS.iloadN X0.here hx rfl (hb hby d29_9) rfl (XS.iloadN X0.here hx rfl (hb hby d29_10) rfl (XS.icmpYes X0.here hx rfl (pc0 := 11) (pc' := 22) rfl (hb hby d29_11) rfl (flt (by decide : ¬ ((2 : Int32) < (2 : Int32)))).2.2.2 (by decide) (by decide) (XS.iloadN X0.here hx rfl (hb hby d29_22) rfl k))))))))) ?_
  exact own_retI X0 hx hlk hret (hb hby d29_23) ⟨rfl, N0, e0⟩ (by decide) (by decide)
def own_QCb2 (h0 : Heap) (n0 : Nat) (v : Option Value) (h : Heap) (L : List Loc) : Prop := v = none ∧ Fr n0 L ∧ h = h0
set_option maxRecDepth 65536 in
set_option maxHeartbeats 40000000 in
theorem rmCb2 (l : Launch) (Z : State) (a0 : Array Value) (hw : own_W a0 Z) (ws : List Jvm.Cond) (cs : Int32) (gS : Value) (h0 : Heap) (n0 : Nat) (Z0 : n0 ≤ h0.size) (V_env : own_Env Z cs gS) (Od : Old Z n0 h0) : own_Met l Z mn24 jdk_42_method_158_code 3 none ws (own_R 1 0 0 15) #[(.int (0 : Int32)), (.int (2 : Int32)), (.int (2 : Int32))] h0 (own_QCb2 h0 n0) := by
  refine own_enter n0 (plainFor_of_name own_pn16) (fun m => ef_III_3 m (0 : Int32) (2 : Int32) (2 : Int32) ) (fun p e s m below meth c s₁ hx hby hlk hml hret hown hnm hZ X0 e0 N0 => ?_)
  show own_Fin _ _ _ _ _ _ _ s₁ (mkF m 0 #[Iv 0, Iv 2, Iv 2] [])
  have hgS : gS.isRef = true := V_env.2.2.2.2.2.2
  obtain ⟨T473, X473, e473, st473⟩ := getS2 X0 hx hZ hown (host := "") (Or.inl (own_g hw 122 rfl)) Via.refl e0 (V_env.2.2.2.2.2.1.ext Od.2) (g := (mkF m 3 #[Iv 0, Iv 2, Iv 2] [(.int 2), (.int 2), (.int 0)])) rfl (hb hby d28_3)
  obtain ⟨_, _, ⟨T474, L474, k474, n474⟩, -, X474, ⟨Lc474, hQ474, l474, y474, z474⟩, st474⟩ := Jvm.LawKit.callS X473 hx (y := mn23) hown (mvT hZ (own_g hw 124 rfl)) (mvT hZ (own_g hw 125 rfl)) (mvT hZ (own_g hw 123 rfl)) (mvT hZ (own_g hw 126 rfl)) (by decide) (backOf (W := 0) (rmCf2 l Z a0 hw [] gS h0 n0 Z0 hgS) hZ (own_g hw 126 rfl) (own_g hw 123 rfl) (by decide) (by decide)) (g := (mkF m 6 #[Iv 0, Iv 2, Iv 2] [gS, (.int 2), (.int 2), (.int 0)])) rfl (by rw [hml]; rfl) (argsL := [(.int (0 : Int32)), (.int (2 : Int32)), (.int (2 : Int32)), gS]) (rest := []) (lenOf own_pd351 rfl) rfl (own_z rfl) (hb hby d28_6) (fun _ _ => ⟨rfl, e473, (by decide : 0 + 0 ≤ _), (by decide : 0 + 0 ≤ _)⟩)
  dsimp only [Pt.U, Pt.locs, Pt.cells, Pt.slots] at X474 l474 y474 z474 st474 hQ474
  subst l474 y474 z474
  obtain ⟨rfl, Nq474, eh474⟩ := hQ474
  have N474 := Fr.app N0 Nq474
  refine own_by (fun _ k => XS.iloadN X0.here hx rfl (hb hby d28_0) rfl (XS.iloadN X0.here hx rfl (hb hby d28_1) rfl (XS.iloadN X0.here hx rfl (hb hby d28_2) rfl (st473 _ (st474 _ (XS.pop X474.here hx rfl (hb hby d28_9) rfl rfl k)))))) ?_
  exact own_retV X474 hx hlk hret (hb hby d28_10) ⟨rfl, N474, eh474⟩ (by decide) (by decide)
set_option maxRecDepth 65536 in
set_option maxHeartbeats 40000000 in
theorem rmCu2 (l : Launch) (Z : State) (a0 : Array Value) (hw : own_W a0 Z) (ws : List Jvm.Cond) (cs : Int32) (gS : Value) (v1 : Addr) (k1 : ClassId) (vs : List Value) (h0 : Heap) (n0 : Nat) (Z0 : n0 ≤ h0.size) (V_env : own_Env Z cs gS) (Od : Old Z n0 h0) (V1 : Arv Z h0 v1 k1 .byte (4 : Int32) vs (.int (0 : Int32))) : own_Met l Z mn25 jdk_52_method_93_code 3 none ws (own_R 2 0 0 29) #[(.int (0 : Int32)), (.int (2 : Int32)), (.ref v1)] h0 (own_QCb2 h0 n0) := by
  refine own_enter n0 (plainFor_of_name own_pn40) (fun m => ef_IIR_3 m (0 : Int32) (2 : Int32) v1 ) (fun p e s m below meth c s₁ hx hby hlk hml hret hown hnm hZ X0 e0 N0 => ?_)
  show own_Fin _ _ _ _ _ _ _ s₁ (mkF m 0 #[Iv 0, Iv 2, Rv v1] [])
  obtain ⟨_, _, ⟨T475, L475, k475, n475⟩, -, X475, ⟨Lc475, hQ475, l475, y475, z475⟩, st475⟩ := Jvm.LawKit.callS X0 hx (y := mn22) hown (mvT hZ (own_g hw 116 rfl)) (mvT hZ (own_g hw 117 rfl)) (mvT hZ (own_g hw 73 rfl)) (mvT hZ (own_g hw 118 rfl)) (by decide) (backOf (W := 2) (rmLu2 l Z a0 hw [] v1 k1 vs h0 n0 Z0 V1) hZ (own_g hw 118 rfl) (own_g hw 73 rfl) (by decide) (by decide)) (g := (mkF m 3 #[Iv 0, Iv 2, Rv v1] [(.ref v1), (.int 2), (.int 0)])) rfl (by rw [hml]; rfl) (argsL := [(.ref v1)]) (rest := [(.int (2 : Int32)), (.int (0 : Int32))]) (lenOf own_pd359 rfl) rfl (own_z rfl) (hb hby d26_3) (fun _ _ => ⟨rfl, e0, (by decide : 0 + 0 ≤ _), (by decide : 0 + 0 ≤ _)⟩)
  dsimp only [Pt.U, Pt.locs, Pt.cells, Pt.slots] at X475 l475 y475 z475 st475 hQ475
  subst l475 y475 z475
  obtain ⟨rfl, Nq475, eh475⟩ := hQ475
  have N475 := Fr.app N0 Nq475
  obtain ⟨_, _, ⟨T476, L476, k476, n476⟩, -, X476, ⟨Lc476, hQ476, l476, y476, z476⟩, st476⟩ := Jvm.LawKit.callS X475 hx (y := mn24) hown (mvT hZ (own_g hw 119 rfl)) (mvT hZ (own_g hw 120 rfl)) (mvT hZ (own_g hw 8 rfl)) (mvT hZ (own_g hw 121 rfl)) (by decide) (backOf (W := 0) (rmCb2 l Z a0 hw [] cs gS h0 n0 Z0 V_env Od) hZ (own_g hw 121 rfl) (own_g hw 8 rfl) (by decide) (by decide)) (g := (mkF m 6 #[Iv 0, Iv 2, Rv v1] [(.int 2), (.int 2), (.int 0)])) rfl (by rw [hml]; rfl) (argsL := [(.int (0 : Int32)), (.int (2 : Int32)), (.int (2 : Int32))]) (rest := []) (lenOf own_pd361 rfl) rfl (own_z rfl) (hb hby d26_6) (fun _ _ => ⟨rfl, eh475, (by decide : 0 + 0 ≤ _), (by decide : 0 + 0 ≤ _)⟩)
  dsimp only [Pt.U, Pt.locs, Pt.cells, Pt.slots] at X476 l476 y476 z476 st476 hQ476
  subst l476 y476 z476
  obtain ⟨rfl, Nq476, eh476⟩ := hQ476
  have N476 := Fr.app N475 Nq476
  refine own_by (fun _ k => XS.iloadN X0.here hx rfl (hb hby d26_0) rfl (XS.iloadN X0.here hx rfl (hb hby d26_1) rfl (XS.aloadN X0.here hx rfl (hb hby d26_2) rfl rfl (st475 _ (st476 _ k))))) ?_
  exact own_retV X476 hx hlk hret (hb hby d26_9) ⟨rfl, N476, eh476⟩ (by decide) (by decide)
def own_QrmIn2U (ch : Int32) (x0 x1 : Int32) (h0 : Heap) (n0 : Nat) (v : Option Value) (h : Heap) (L : List Loc) : Prop := v = some (.int (own_find ch [x0, x1] (0 : Int32))) ∧ Fr n0 L ∧ h = h0
set_option maxRecDepth 65536 in
set_option maxHeartbeats 40000000 in
theorem rmIn2U (l : Launch) (Z : State) (a0 : Array Value) (hw : own_W a0 Z) (ws : List Jvm.Cond) (cs : Int32) (gS : Value) (v1 : Addr) (k1 : ClassId) (ch : Int32) (x0 x1 : Int32) (h0 : Heap) (n0 : Nat) (Z0 : n0 ≤ h0.size) (V_env : own_Env Z cs gS) (Od : Old Z n0 h0) (V1 : Arv Z h0 v1 k1 .byte (4 : Int32) [(.int (own_lo x0)), (.int (own_hi x0)), (.int (own_lo x1)), (.int (own_hi x1))] (.int (0 : Int32))) (hq : own_cq ch) (hx0 : own_ch x0) (hx1 : own_ch x1) : own_Met l Z mn26 jdk_52_method_48_code 5 (some .int) ws (own_R 1 0 0 13) #[(.ref v1), (.int ch), (.int (0 : Int32)), (.int (2 : Int32))] h0 (own_QrmIn2U ch x0 x1 h0 n0) := by
  refine own_enter n0 (plainFor_of_name own_pn40) (fun m => ef_RIII_5 m v1 ch (0 : Int32) (2 : Int32) ) (fun p e s m below meth c s₁ hx hby hlk hml hret hown hnm hZ X0 e0 N0 => ?_)
  show own_Fin _ _ _ _ _ _ _ s₁ (mkF m 0 #[Rv v1, Iv ch, Iv 0, Iv 2, Uv] [])
  obtain ⟨_, _, ⟨T477, L477, k477, n477⟩, -, X477, ⟨Lc477, hQ477, l477, y477, z477⟩, st477⟩ := Jvm.LawKit.callS X0 hx (y := mn7) hown (mvT hZ (own_g hw 101 rfl)) (mvT hZ (own_g hw 102 rfl)) (mvT hZ (own_g hw 73 rfl)) (mvT hZ (own_g hw 103 rfl)) (by decide) (backOf (W := 0) (rmGC2_0 l Z a0 hw [] cs gS v1 k1 x0 x1 h0 n0 Z0 V_env Od V1 hx0) hZ (own_g hw 103 rfl) (own_g hw 73 rfl) (by decide) (by decide)) (g := (mkF m 12 #[Rv v1, Iv ch, Iv 0, Iv 2, Iv 0] [(.int 0), (.ref v1)])) rfl (by rw [hml]; rfl) (argsL := [(.ref v1), (.int (0 : Int32))]) (rest := []) (lenOf own_pd177 rfl) rfl (own_z rfl) (hb hby d30_12) (fun _ _ => ⟨rfl, e0, (by decide : 0 + 0 ≤ _), (by decide : 0 + 0 ≤ _)⟩)
  dsimp only [Pt.U, Pt.locs, Pt.cells, Pt.slots] at X477 l477 y477 z477 st477 hQ477
  subst l477 y477 z477
  obtain ⟨rfl, Nq477, eh477⟩ := hQ477
  have N477 := Fr.app N0 Nq477
  refine own_by (fun _ k => XS.iloadN X0.here hx rfl (hb hby d30_0) rfl (XS.istore X0.here hx rfl (hb hby d30_1) rfl (l' := #[Rv v1, Iv ch, Iv 0, Iv 2, Iv 0]) rfl (XS.iload X0.here hx rfl (hb hby d30_3) rfl (XS.iloadN X0.here hx rfl (hb hby d30_5) rfl (XS.icmpNo X0.here hx rfl (hb hby d30_6) rfl (tlt (by decide : (0 : Int32) < (2 : Int32))).2.1 (XS.aloadN X0.here hx rfl (hb hby d30_9) rfl rfl (XS.iload X0.here hx rfl (hb hby d30_10) rfl (st477 _ (XS.iloadN X477.here hx rfl (hb hby d30_15) rfl k))))))))) ?_
  show own_Fin _ _ _ _ _ _ _ T477 (mkF m 16 #[Rv v1, Iv ch, Iv 0, Iv 2, Iv 0] [(.int ch), (.int x0)])
  by_cases hc16_478 : x0 = ch
  · show own_Fin _ _ _ _ _ _ _ T477 (mkF m 16 #[Rv v1, Iv ch, Iv 0, Iv 2, Iv 0] [(.int ch), (.int x0)])
    refine own_by (fun _ k => XS.icmpNo X477.here hx rfl (hb hby d30_16) rfl (teq hc16_478).2 (XS.iload X477.here hx rfl (hb hby d30_19) rfl k)) ?_
    exact own_retI X477 hx hlk hret (hb hby d30_21) ⟨own_vi (by show (0 : Int32) = _; first | (simp only [own_find, if_neg V_env.2.2.2.2.1, if_neg hq.1, if_neg hq.2.1, if_pos hq.2.2, if_pos hc16_478]; done) | (simp only [own_find, if_neg V_env.2.2.2.2.1, if_neg hq.1, if_neg hq.2.1, if_pos hq.2.2, if_pos hc16_478]; decide) | simp [own_find, V_env.2.2.2.2.1, hq.1, hq.2.1, hq.2.2, hc16_478]), N477, eh477⟩ (by decide) (by decide)
  · show own_Fin _ _ _ _ _ _ _ T477 (mkF m 16 #[Rv v1, Iv ch, Iv 0, Iv 2, Iv 0] [(.int ch), (.int x0)])
    refine own_by (fun _ k => XS.icmpYes X477.here hx rfl (pc0 := 16) (pc' := 22) rfl (hb hby d30_16) rfl (feq hc16_478).2 (by decide) (by decide) (XS.iinc X477.here hx rfl (hb hby d30_22) rfl (l' := #[Rv v1, Iv ch, Iv 0, Iv 2, Iv ((0 : Int32) + (1 : Int32))]) rfl k)) ?_
    show own_Fin _ _ _ _ _ _ _ T477 (mkF m 25 #[Rv v1, Iv ch, Iv 0, Iv 2, Iv ((0 : Int32) + (1 : Int32))] [])
    rw [(by decide : ((0 : Int32) + (1 : Int32)) = (1 : Int32))]
    show own_Fin _ _ _ _ _ _ _ T477 (mkF m 25 #[Rv v1, Iv ch, Iv 0, Iv 2, Iv 1] [])
    obtain ⟨_, _, ⟨T479, L479, k479, n479⟩, -, X479, ⟨Lc479, hQ479, l479, y479, z479⟩, st479⟩ := Jvm.LawKit.callS X477 hx (y := mn7) hown (mvT hZ (own_g hw 101 rfl)) (mvT hZ (own_g hw 102 rfl)) (mvT hZ (own_g hw 73 rfl)) (mvT hZ (own_g hw 103 rfl)) (by decide) (backOf (W := 0) (rmGC2_1 l Z a0 hw [] cs gS v1 k1 x0 x1 h0 n0 Z0 V_env Od V1 hx1) hZ (own_g hw 103 rfl) (own_g hw 73 rfl) (by decide) (by decide)) (g := (mkF m 12 #[Rv v1, Iv ch, Iv 0, Iv 2, Iv 1] [(.int 1), (.ref v1)])) rfl (by rw [hml]; rfl) (argsL := [(.ref v1), (.int (1 : Int32))]) (rest := []) (lenOf own_pd177 rfl) rfl (own_z rfl) (hb hby d30_12) (fun _ _ => ⟨rfl, eh477, (by decide : 0 + 0 ≤ _), (by decide : 0 + 0 ≤ _)⟩)
    dsimp only [Pt.U, Pt.locs, Pt.cells, Pt.slots] at X479 l479 y479 z479 st479 hQ479
    subst l479 y479 z479
    obtain ⟨rfl, Nq479, eh479⟩ := hQ479
    have N479 := Fr.app N477 Nq479
    refine own_by (fun _ k => XS.goto X477.here hx rfl (pc0 := 25) (pc' := 3) rfl (hb hby d30_25) (by decide) (by decide) (XS.iload X477.here hx rfl (hb hby d30_3) rfl (XS.iloadN X477.here hx rfl (hb hby d30_5) rfl (XS.icmpNo X477.here hx rfl (hb hby d30_6) rfl (tlt (by decide : (1 : Int32) < (2 : Int32))).2.1 (XS.aloadN X477.here hx rfl (hb hby d30_9) rfl rfl (XS.iload X477.here hx rfl (hb hby d30_10) rfl (st479 _ (XS.iloadN X479.here hx rfl (hb hby d30_15) rfl k)))))))) ?_
    show own_Fin _ _ _ _ _ _ _ T479 (mkF m 16 #[Rv v1, Iv ch, Iv 0, Iv 2, Iv 1] [(.int ch), (.int x1)])
    by_cases hc16_480 : x1 = ch
    · show own_Fin _ _ _ _ _ _ _ T479 (mkF m 16 #[Rv v1, Iv ch, Iv 0, Iv 2, Iv 1] [(.int ch), (.int x1)])
      refine own_by (fun _ k => XS.icmpNo X479.here hx rfl (hb hby d30_16) rfl (teq hc16_480).2 (XS.iload X479.here hx rfl (hb hby d30_19) rfl k)) ?_
      exact own_retI X479 hx hlk hret (hb hby d30_21) ⟨own_vi (by show (1 : Int32) = _; first | (simp only [own_find, if_neg V_env.2.2.2.2.1, if_neg hq.1, if_neg hq.2.1, if_pos hq.2.2, if_neg hc16_478, if_pos hc16_480]; done) | (simp only [own_find, if_neg V_env.2.2.2.2.1, if_neg hq.1, if_neg hq.2.1, if_pos hq.2.2, if_neg hc16_478, if_pos hc16_480]; decide) | simp [own_find, V_env.2.2.2.2.1, hq.1, hq.2.1, hq.2.2, hc16_478, hc16_480]), N479, eh479⟩ (by decide) (by decide)
    · show own_Fin _ _ _ _ _ _ _ T479 (mkF m 16 #[Rv v1, Iv ch, Iv 0, Iv 2, Iv 1] [(.int ch), (.int x1)])
      refine own_by (fun _ k => XS.icmpYes X479.here hx rfl (pc0 := 16) (pc' := 22) rfl (hb hby d30_16) rfl (feq hc16_480).2 (by decide) (by decide) (XS.iinc X479.here hx rfl (hb hby d30_22) rfl (l' := #[Rv v1, Iv ch, Iv 0, Iv 2, Iv ((1 : Int32) + (1 : Int32))]) rfl k)) ?_
      show own_Fin _ _ _ _ _ _ _ T479 (mkF m 25 #[Rv v1, Iv ch, Iv 0, Iv 2, Iv ((1 : Int32) + (1 : Int32))] [])
      rw [(by decide : ((1 : Int32) + (1 : Int32)) = (2 : Int32))]
      show own_Fin _ _ _ _ _ _ _ T479 (mkF m 25 #[Rv v1, Iv ch, Iv 0, Iv 2, Iv 2] [])
      refine own_by (fun _ k => XS.goto X479.here hx rfl (pc0 := 25) (pc' := 3) rfl (hb hby d30_25) (by decide) (by decide) (XS.iload X479.here hx rfl (hb hby d30_3) rfl (XS.iloadN X479.here hx rfl (hb hby d30_5) rfl (XS.icmpYes X479.here hx rfl (pc0 := 6) (pc' := 28) rfl (hb hby d30_6) rfl (flt (by decide : ¬ ((2 : Int32) < (2 : Int32)))).2.1 (by decide) (by decide) (XS.iconst X479.here hx rfl (hb hby d30_28) k))))) ?_
      exact own_retI X479 hx hlk hret (hb hby d30_29) ⟨own_vi (by show (-1 : Int32) = _; first | (simp only [own_find, if_neg V_env.2.2.2.2.1, if_neg hq.1, if_neg hq.2.1, if_pos hq.2.2, if_neg hc16_478, if_neg hc16_480]; done) | (simp only [own_find, if_neg V_env.2.2.2.2.1, if_neg hq.1, if_neg hq.2.1, if_pos hq.2.2, if_neg hc16_478, if_neg hc16_480]; decide) | simp [own_find, V_env.2.2.2.2.1, hq.1, hq.2.1, hq.2.2, hc16_478, hc16_480]), N479, eh479⟩ (by decide) (by decide)
def own_QrmIc2U (ch : Int32) (x0 x1 : Int32) (h0 : Heap) (n0 : Nat) (v : Option Value) (h : Heap) (L : List Loc) : Prop := v = some (.int (own_find ch [x0, x1] (0 : Int32))) ∧ Fr n0 L ∧ h = h0
set_option maxRecDepth 65536 in
set_option maxHeartbeats 40000000 in
theorem rmIc2U (l : Launch) (Z : State) (a0 : Array Value) (hw : own_W a0 Z) (ws : List Jvm.Cond) (cs : Int32) (gS : Value) (v1 : Addr) (k1 : ClassId) (ch : Int32) (x0 x1 : Int32) (h0 : Heap) (n0 : Nat) (Z0 : n0 ≤ h0.size) (V_env : own_Env Z cs gS) (Od : Old Z n0 h0) (V1 : Arv Z h0 v1 k1 .byte (4 : Int32) [(.int (own_lo x0)), (.int (own_hi x0)), (.int (own_lo x1)), (.int (own_hi x1))] (.int (0 : Int32))) (hq : own_cq ch) (hx0 : own_ch x0) (hx1 : own_ch x1) : own_Met l Z mn27 jdk_52_method_47_code 4 (some .int) ws (own_R 3 0 0 43) #[(.ref v1), (.int ch), (.int (0 : Int32)), (.int (2 : Int32))] h0 (own_QrmIc2U ch x0 x1 h0 n0) := by
  refine own_enter n0 (plainFor_of_name own_pn40) (fun m => ef_RIII_4 m v1 ch (0 : Int32) (2 : Int32) ) (fun p e s m below meth c s₁ hx hby hlk hml hret hown hnm hZ X0 e0 N0 => ?_)
  show own_Fin _ _ _ _ _ _ _ s₁ (mkF m 0 #[Rv v1, Iv ch, Iv 0, Iv 2] [])
  obtain ⟨_, _, ⟨T481, L481, k481, n481⟩, -, X481, ⟨Lc481, hQ481, l481, y481, z481⟩, st481⟩ := Jvm.LawKit.callS X0 hx (y := mn25) hown (mvT hZ (own_g hw 113 rfl)) (mvT hZ (own_g hw 114 rfl)) (mvT hZ (own_g hw 73 rfl)) (mvT hZ (own_g hw 115 rfl)) (by decide) (backOf (W := 0) (rmCu2 l Z a0 hw [] cs gS v1 k1 [(.int (own_lo x0)), (.int (own_hi x0)), (.int (own_lo x1)), (.int (own_hi x1))] h0 n0 Z0 V_env Od V1) hZ (own_g hw 115 rfl) (own_g hw 73 rfl) (by decide) (by decide)) (g := (mkF m 3 #[Rv v1, Iv ch, Iv 0, Iv 2] [(.ref v1), (.int 2), (.int 0)])) rfl (by rw [hml]; rfl) (argsL := [(.int (0 : Int32)), (.int (2 : Int32)), (.ref v1)]) (rest := []) (lenOf own_pd384 rfl) rfl (own_z rfl) (hb hby d25_3) (fun _ _ => ⟨rfl, e0, (by decide : 0 + 0 ≤ _), (by decide : 0 + 0 ≤ _)⟩)
  dsimp only [Pt.U, Pt.locs, Pt.cells, Pt.slots] at X481 l481 y481 z481 st481 hQ481
  subst l481 y481 z481
  obtain ⟨rfl, Nq481, eh481⟩ := hQ481
  have N481 := Fr.app N0 Nq481
  obtain ⟨_, _, ⟨T482, L482, k482, n482⟩, -, X482, ⟨Lc482, hQ482, l482, y482, z482⟩, st482⟩ := Jvm.LawKit.callS X481 hx (y := mn26) hown (mvT hZ (own_g hw 127 rfl)) (mvT hZ (own_g hw 128 rfl)) (mvT hZ (own_g hw 73 rfl)) (mvT hZ (own_g hw 129 rfl)) (by decide) (backOf (W := 0) (rmIn2U l Z a0 hw [] cs gS v1 k1 ch x0 x1 h0 n0 Z0 V_env Od V1 hq hx0 hx1) hZ (own_g hw 129 rfl) (own_g hw 73 rfl) (by decide) (by decide)) (g := (mkF m 10 #[Rv v1, Iv ch, Iv 0, Iv 2] [(.int 2), (.int 0), (.int ch), (.ref v1)])) rfl (by rw [hml]; rfl) (argsL := [(.ref v1), (.int ch), (.int (0 : Int32)), (.int (2 : Int32))]) (rest := []) (lenOf own_pd285 rfl) rfl (own_z rfl) (hb hby d25_10) (fun _ _ => ⟨rfl, eh481, (by decide : 0 + 0 ≤ _), (by decide : 0 + 0 ≤ _)⟩)
  dsimp only [Pt.U, Pt.locs, Pt.cells, Pt.slots] at X482 l482 y482 z482 st482 hQ482
  subst l482 y482 z482
  obtain ⟨rfl, Nq482, eh482⟩ := hQ482
  have N482 := Fr.app N481 Nq482
  refine own_by (fun _ k => XS.iloadN X0.here hx rfl (hb hby d25_0) rfl (XS.iloadN X0.here hx rfl (hb hby d25_1) rfl (XS.aloadN X0.here hx rfl (hb hby d25_2) rfl rfl (st481 _ (XS.aloadN X481.here hx rfl (hb hby d25_6) rfl rfl (XS.iloadN X481.here hx rfl (hb hby d25_7) rfl (XS.iloadN X481.here hx rfl (hb hby d25_8) rfl (XS.iloadN X481.here hx rfl (hb hby d25_9) rfl (st482 _ k))))))))) ?_
  exact own_retI X482 hx hlk hret (hb hby d25_13) ⟨rfl, N482, eh482⟩ (by decide) (by decide)
def own_QrmIo2U (ch : Int32) (x0 x1 : Int32) (h0 : Heap) (n0 : Nat) (v : Option Value) (h : Heap) (L : List Loc) : Prop := v = some (.int (own_find ch [x0, x1] (0 : Int32))) ∧ Fr n0 L ∧ h = h0
set_option maxRecDepth 65536 in
set_option maxHeartbeats 40000000 in
theorem rmIo2U (l : Launch) (Z : State) (a0 : Array Value) (hw : own_W a0 Z) (ws : List Jvm.Cond) (cs : Int32) (gS : Value) (v1 : Addr) (k1 : ClassId) (ch : Int32) (x0 x1 : Int32) (h0 : Heap) (n0 : Nat) (Z0 : n0 ≤ h0.size) (V_env : own_Env Z cs gS) (Od : Old Z n0 h0) (V1 : Arv Z h0 v1 k1 .byte (4 : Int32) [(.int (own_lo x0)), (.int (own_hi x0)), (.int (own_lo x1)), (.int (own_hi x1))] (.int (0 : Int32))) (hq : own_cq ch) (hx0 : own_ch x0) (hx1 : own_ch x1) : own_Met l Z mn28 jdk_52_method_40_code 4 (some .int) ws (own_R 4 0 0 58) #[(.ref v1), (.int ch), (.int (0 : Int32)), (.int (2 : Int32))] h0 (own_QrmIo2U ch x0 x1 h0 n0) := by
  refine own_enter n0 (plainFor_of_name own_pn40) (fun m => ef_RIII_4 m v1 ch (0 : Int32) (2 : Int32) ) (fun p e s m below meth c s₁ hx hby hlk hml hret hown hnm hZ X0 e0 N0 => ?_)
  show own_Fin _ _ _ _ _ _ _ s₁ (mkF m 0 #[Rv v1, Iv ch, Iv 0, Iv 2] [])
  obtain ⟨_, _, ⟨T483, L483, k483, n483⟩, -, X483, ⟨Lc483, hQ483, l483, y483, z483⟩, st483⟩ := Jvm.LawKit.callS X0 hx (y := mn14) hown (mvT hZ (own_g hw 107 rfl)) (mvT hZ (own_g hw 65 rfl)) (mvT hZ (own_g hw 66 rfl)) (mvT hZ (own_g hw 67 rfl)) (by decide) (backOf (W := 0) (rmmax_0_0 l Z a0 hw []  h0 n0 Z0 ) hZ (own_g hw 67 rfl) (own_g hw 66 rfl) (by decide) (by decide)) (g := (mkF m 2 #[Rv v1, Iv ch, Iv 0, Iv 2] [(.int 0), (.int 0)])) rfl (by rw [hml]; rfl) (argsL := [(.int (0 : Int32)), (.int (0 : Int32))]) (rest := []) (lenOf own_pd253 rfl) rfl (own_z rfl) (hb hby d24_2) (fun _ _ => ⟨rfl, e0, (by decide : 0 + 0 ≤ _), (by decide : 0 + 0 ≤ _)⟩)
  dsimp only [Pt.U, Pt.locs, Pt.cells, Pt.slots] at X483 l483 y483 z483 st483 hQ483
  subst l483 y483 z483
  obtain ⟨rfl, Nq483, eh483⟩ := hQ483
  have N483 := Fr.app N0 Nq483
  obtain ⟨cl484, Ar484, -, S484, M484, -, -⟩ := id V1
  refine own_by (fun _ k => XS.iloadN X0.here hx rfl (hb hby d24_0) rfl (XS.iconst X0.here hx rfl (hb hby d24_1) (st483 _ (XS.istoreN X483.here hx rfl (hb hby d24_5) rfl (l' := #[Rv v1, Iv ch, Iv 0, Iv 2]) rfl (XS.iloadN X483.here hx rfl (hb hby d24_6) rfl (XS.aloadN X483.here hx rfl (hb hby d24_7) rfl rfl (X483.arraylength hx (by rw [eh483]; exact Ar484.1) (State.isArrayOf_alike hZ.alike Ar484.2.1) (g := (mkF m 8 #[Rv v1, Iv ch, Iv 0, Iv 2] [(.ref v1), (.int 2)])) rfl rfl (hb hby d24_8) _ k))))))) ?_
  rw [len_of S484 M484]
  show own_Fin _ _ _ _ _ _ _ T483 (mkF m 9 #[Rv v1, Iv ch, Iv 0, Iv 2] [(.int 4), (.int 2)])
  refine own_by (fun _ k => XS.iconst X483.here hx rfl (hb hby d24_9) (XS.ishr X483.here hx rfl (hb hby d24_10) rfl k)) ?_
  show own_Fin _ _ _ _ _ _ _ T483 (mkF m 11 #[Rv v1, Iv ch, Iv 0, Iv 2] [(.int ((4 : Int32) >>> ((1 : Int32) &&& 31))), (.int 2)])
  rw [(by decide : ((4 : Int32) >>> ((1 : Int32) &&& 31)) = (2 : Int32))]
  show own_Fin _ _ _ _ _ _ _ T483 (mkF m 11 #[Rv v1, Iv ch, Iv 0, Iv 2] [(.int 2), (.int 2)])
  obtain ⟨_, _, ⟨T485, L485, k485, n485⟩, -, X485, ⟨Lc485, hQ485, l485, y485, z485⟩, st485⟩ := Jvm.LawKit.callS X483 hx (y := mn15) hown (mvT hZ (own_g hw 108 rfl)) (mvT hZ (own_g hw 69 rfl)) (mvT hZ (own_g hw 66 rfl)) (mvT hZ (own_g hw 70 rfl)) (by decide) (backOf (W := 0) (rmmin_2_2 l Z a0 hw []  h0 n0 Z0 ) hZ (own_g hw 70 rfl) (own_g hw 66 rfl) (by decide) (by decide)) (g := (mkF m 11 #[Rv v1, Iv ch, Iv 0, Iv 2] [(.int 2), (.int 2)])) rfl (by rw [hml]; rfl) (argsL := [(.int (2 : Int32)), (.int (2 : Int32))]) (rest := []) (lenOf own_pd253 rfl) rfl (own_z rfl) (hb hby d24_11) (fun _ _ => ⟨rfl, eh483, (by decide : 0 + 0 ≤ _), (by decide : 0 + 0 ≤ _)⟩)
  dsimp only [Pt.U, Pt.locs, Pt.cells, Pt.slots] at X485 l485 y485 z485 st485 hQ485
  subst l485 y485 z485
  obtain ⟨rfl, Nq485, eh485⟩ := hQ485
  have N485 := Fr.app N483 Nq485
  refine own_by (fun _ k => st485 _ (XS.istoreN X485.here hx rfl (hb hby d24_14) rfl (l' := #[Rv v1, Iv ch, Iv 0, Iv 2]) rfl (XS.iloadN X485.here hx rfl (hb hby d24_15) rfl (XS.iloadN X485.here hx rfl (hb hby d24_16) rfl (XS.icmpYes X485.here hx rfl (pc0 := 17) (pc' := 22) rfl (hb hby d24_17) rfl (tlt (by decide : (0 : Int32) < (2 : Int32))).1 (by decide) (by decide) (XS.iloadN X485.here hx rfl (hb hby d24_22) rfl (X485.ldcInt hx hown (mvT hZ (own_g hw 109 rfl)) (g := (mkF m 23 #[Rv v1, Iv ch, Iv 0, Iv 2] [(.int ch)])) rfl (hb hby d24_23) _ (XS.icmpNo X485.here hx rfl (hb hby d24_25) rfl (tlt hq.2.2).2.1 (XS.aloadN X485.here hx rfl (hb hby d24_28) rfl rfl (XS.iloadN X485.here hx rfl (hb hby d24_29) rfl k)))))))))) ?_
  show own_Fin _ _ _ _ _ _ _ T485 (mkF m 30 #[Rv v1, Iv ch, Iv 0, Iv 2] [(.int ch), (.ref v1)])
  obtain ⟨_, _, ⟨T486, L486, k486, n486⟩, -, X486, ⟨Lc486, hQ486, l486, y486, z486⟩, st486⟩ := Jvm.LawKit.callS X485 hx (y := mn27) hown (mvT hZ (own_g hw 110 rfl)) (mvT hZ (own_g hw 111 rfl)) (mvT hZ (own_g hw 73 rfl)) (mvT hZ (own_g hw 112 rfl)) (by decide) (backOf (W := 0) (rmIc2U l Z a0 hw [] cs gS v1 k1 ch x0 x1 h0 n0 Z0 V_env Od V1 hq hx0 hx1) hZ (own_g hw 112 rfl) (own_g hw 73 rfl) (by decide) (by decide)) (g := (mkF m 32 #[Rv v1, Iv ch, Iv 0, Iv 2] [(.int 2), (.int 0), (.int ch), (.ref v1)])) rfl (by rw [hml]; rfl) (argsL := [(.ref v1), (.int ch), (.int (0 : Int32)), (.int (2 : Int32))]) (rest := []) (lenOf own_pd285 rfl) rfl (own_z rfl) (hb hby d24_32) (fun _ _ => ⟨rfl, eh485, (by decide : 0 + 0 ≤ _), (by decide : 0 + 0 ≤ _)⟩)
  dsimp only [Pt.U, Pt.locs, Pt.cells, Pt.slots] at X486 l486 y486 z486 st486 hQ486
  subst l486 y486 z486
  obtain ⟨rfl, Nq486, eh486⟩ := hQ486
  have N486 := Fr.app N485 Nq486
  refine own_by (fun _ k => XS.iloadN X485.here hx rfl (hb hby d24_30) rfl (XS.iloadN X485.here hx rfl (hb hby d24_31) rfl (st486 _ k))) ?_
  exact own_retI X486 hx hlk hret (hb hby d24_35) ⟨rfl, N486, eh486⟩ (by decide) (by decide)
def own_QrmSl2_U (h0 : Heap) (n0 : Nat) (v : Option Value) (h : Heap) (L : List Loc) : Prop := v = some (.int (2 : Int32)) ∧ Fr n0 L ∧ h = h0
set_option maxRecDepth 65536 in
set_option maxHeartbeats 40000000 in
theorem rmSl2_U (l : Launch) (Z : State) (a0 : Array Value) (hw : own_W a0 Z) (ws : List Jvm.Cond) (cs : Int32) (gS : Value) (a1 v1 : Addr) (k1 : ClassId) (vs : List Value) (h0 : Heap) (n0 : Nat) (Z0 : n0 ≤ h0.size) (V_env : own_Env Z cs gS) (Od : Old Z n0 h0) (E_a1 : Exa Z h0 a1 "java/lang/String") (F1 : Fld Z h0 a1 "java/lang/String" "value" "[B" (.ref v1)) (F2 : Fld Z h0 a1 "java/lang/String" "coder" "B" (.int (1 : Int32))) (V1 : Arv Z h0 v1 k1 .byte (4 : Int32) vs (.int (0 : Int32))) : own_Met l Z mn17 jdk_42_method_54_code 1 (some .int) ws (own_R 1 0 0 13) #[(.ref a1)] h0 (own_QrmSl2_U h0 n0) := by
  refine own_enter n0 (plainFor_of_name own_pn16) (fun m => ef_R_1 m a1 ) (fun p e s m below meth c s₁ hx hby hlk hml hret hown hnm hZ X0 e0 N0 => ?_)
  show own_Fin _ _ _ _ _ _ _ s₁ (mkF m 0 #[Rv a1] [])
  obtain ⟨T487, X487, e487, st487⟩ := getF X0 hx hZ hown (host := "") (Or.inl (own_g hw 25 rfl)) Via.refl e0 F1 (g := (mkF m 1 #[Rv a1] [(.ref a1)])) rfl rfl (hb hby d9_1)
  obtain ⟨cl488, Ar488, -, S488, M488, -, -⟩ := id V1
  refine own_by (fun _ k => XS.aloadN X0.here hx rfl (hb hby d9_0) rfl rfl (st487 _ (X487.arraylength hx (by rw [e487]; exact Ar488.1) (State.isArrayOf_alike hZ.alike Ar488.2.1) (g := (mkF m 4 #[Rv a1] [(.ref v1)])) rfl rfl (hb hby d9_4) _ k))) ?_
  rw [len_of S488 M488]
  show own_Fin _ _ _ _ _ _ _ T487 (mkF m 5 #[Rv a1] [(.int 4)])
  obtain ⟨cq489, kq489, q489a, q489b, q489c⟩ := isOf hZ e487 E_a1
  obtain ⟨_, _, ⟨T489, L489, k489, n489⟩, -, X489, ⟨Lc489, hQ489, l489, y489, z489⟩, st489⟩ := X487.virtualBack hx (y := mn12) (z := mn12) hown (mvT hZ (own_g hw 52 rfl)) (mvT hZ (own_g hw 53 rfl)) (notFace_of_selects (args := #[]) (mvT hZ (own_g hw 55 rfl))) (mvT hZ (own_g hw 55 rfl)) (mvT hZ (own_g hw 54 rfl)) (by decide) (backOf (W := 1) (rmCd1 l Z a0 hw [] cs gS a1 h0 n0 Z0 V_env Od F2) hZ (own_g hw 56 rfl) (own_g hw 8 rfl) (by decide) (by decide)) q489a q489c (g := (mkF m 6 #[Rv a1] [(.ref a1), (.int 4)])) rfl (by rw [hml]; rfl) (Steps.refl _) (argsL := []) (rest := [(.int (4 : Int32))]) (lenOf own_pd270 rfl) rfl (own_z rfl) (hb hby d9_6) (fun _ _ => ⟨rfl, e487, (by decide : 0 + 0 ≤ _), (by decide : 0 + 0 ≤ _)⟩)
  dsimp only [Pt.U, Pt.locs, Pt.cells, Pt.slots] at X489 l489 y489 z489 st489 hQ489
  subst l489 y489 z489
  obtain ⟨rfl, Nq489, eh489⟩ := hQ489
  have N489 := Fr.app N0 Nq489
  refine own_by (fun _ k => XS.aloadN X487.here hx rfl (hb hby d9_5) rfl rfl (st489.trans (XS.ishr X489.here hx rfl (hb hby d9_9) rfl k))) ?_
  show own_Fin _ _ _ _ _ _ _ T489 (mkF m 10 #[Rv a1] [(.int ((4 : Int32) >>> ((1 : Int32) &&& 31)))])
  rw [(by decide : ((4 : Int32) >>> ((1 : Int32) &&& 31)) = (2 : Int32))]
  show own_Fin _ _ _ _ _ _ _ T489 (mkF m 10 #[Rv a1] [(.int 2)])
  exact own_retI X489 hx hlk hret (hb hby d9_10) ⟨rfl, N489, eh489⟩ (by decide) (by decide)
def own_QrmI22U (ch : Int32) (x0 x1 : Int32) (h0 : Heap) (n0 : Nat) (v : Option Value) (h : Heap) (L : List Loc) : Prop := v = some (.int (own_find ch [x0, x1] (0 : Int32))) ∧ Fr n0 L ∧ h = h0
set_option maxRecDepth 65536 in
set_option maxHeartbeats 40000000 in
theorem rmI22U (l : Launch) (Z : State) (a0 : Array Value) (hw : own_W a0 Z) (ws : List Jvm.Cond) (cs : Int32) (gS : Value) (a1 : Addr) (v1 : Addr) (k1 : ClassId) (ch : Int32) (x0 x1 : Int32) (h0 : Heap) (n0 : Nat) (Z0 : n0 ≤ h0.size) (V_env : own_Env Z cs gS) (Od : Old Z n0 h0) (E_a1 : Exa Z h0 a1 "java/lang/String") (F1 : Fld Z h0 a1 "java/lang/String" "value" "[B" (.ref v1)) (F2 : Fld Z h0 a1 "java/lang/String" "coder" "B" (.int (1 : Int32))) (V1 : Arv Z h0 v1 k1 .byte (4 : Int32) [(.int (own_lo x0)), (.int (own_hi x0)), (.int (own_lo x1)), (.int (own_hi x1))] (.int (0 : Int32))) (hq : own_cq ch) (hx0 : own_ch x0) (hx1 : own_ch x1) : own_Met l Z mn18 jdk_42_method_80_code 3 (some .int) ws (own_R 5 0 0 73) #[(.ref a1), (.int ch), (.int (0 : Int32))] h0 (own_QrmI22U ch x0 x1 h0 n0) := by
  refine own_enter n0 (plainFor_of_name own_pn16) (fun m => ef_RII_3 m a1 ch (0 : Int32) ) (fun p e s m below meth c s₁ hx hby hlk hml hret hown hnm hZ X0 e0 N0 => ?_)
  show own_Fin _ _ _ _ _ _ _ s₁ (mkF m 0 #[Rv a1, Iv ch, Iv 0] [])
  obtain ⟨cq490, kq490, q490a, q490b, q490c⟩ := isOf hZ e0 E_a1
  obtain ⟨_, _, ⟨T490, L490, k490, n490⟩, -, X490, ⟨Lc490, hQ490, l490, y490, z490⟩, st490⟩ := X0.virtualBack hx (y := mn11) (z := mn11) hown (mvT hZ (own_g hw 41 rfl)) (mvT hZ (own_g hw 42 rfl)) (notFace_of_selects (args := #[]) (mvT hZ (own_g hw 44 rfl))) (mvT hZ (own_g hw 44 rfl)) (mvT hZ (own_g hw 43 rfl)) (by decide) (backOf (W := 0) (rmIs1 l Z a0 hw [] cs gS a1 h0 n0 Z0 V_env Od F2) hZ (own_g hw 45 rfl) (own_g hw 8 rfl) (by decide) (by decide)) q490a q490c (g := (mkF m 1 #[Rv a1, Iv ch, Iv 0] [(.ref a1)])) rfl (by rw [hml]; rfl) (Steps.refl _) (argsL := []) (rest := []) (lenOf own_pd275 rfl) rfl (own_z rfl) (hb hby d7_1) (fun _ _ => ⟨rfl, e0, (by decide : 0 + 0 ≤ _), (by decide : 0 + 0 ≤ _)⟩)
  dsimp only [Pt.U, Pt.locs, Pt.cells, Pt.slots] at X490 l490 y490 z490 st490 hQ490
  subst l490 y490 z490
  obtain ⟨rfl, Nq490, eh490⟩ := hQ490
  have N490 := Fr.app N0 Nq490
  obtain ⟨T491, X491, e491, st491⟩ := getF X490 hx hZ hown (host := "") (Or.inl (own_g hw 25 rfl)) Via.refl eh490 F1 (g := (mkF m 24 #[Rv a1, Iv ch, Iv 0] [(.ref a1)])) rfl rfl (hb hby d7_24)
  obtain ⟨cq492, kq492, q492a, q492b, q492c⟩ := isOf hZ e491 E_a1
  obtain ⟨_, _, ⟨T492, L492, k492, n492⟩, -, X492, ⟨Lc492, hQ492, l492, y492, z492⟩, st492⟩ := X491.virtualBack hx (y := mn17) (z := mn17) hown (mvT hZ (own_g hw 47 rfl)) (mvT hZ (own_g hw 48 rfl)) (notFace_of_selects (args := #[]) (mvT hZ (own_g hw 50 rfl))) (mvT hZ (own_g hw 50 rfl)) (mvT hZ (own_g hw 49 rfl)) (by decide) (backOf (W := 3) (rmSl2_U l Z a0 hw [] cs gS a1 v1 k1 [(.int (own_lo x0)), (.int (own_hi x0)), (.int (own_lo x1)), (.int (own_hi x1))] h0 n0 Z0 V_env Od E_a1 F1 F2 V1) hZ (own_g hw 51 rfl) (own_g hw 8 rfl) (by decide) (by decide)) q492a q492c (g := (mkF m 30 #[Rv a1, Iv ch, Iv 0] [(.ref a1), (.int 0), (.int ch), (.ref v1)])) rfl (by rw [hml]; rfl) (Steps.refl _) (argsL := []) (rest := [(.int (0 : Int32)), (.int ch), (.ref v1)]) (lenOf own_pd283 rfl) rfl (own_z rfl) (hb hby d7_30) (fun _ _ => ⟨rfl, e491, (by decide : 0 + 0 ≤ _), (by decide : 0 + 0 ≤ _)⟩)
  dsimp only [Pt.U, Pt.locs, Pt.cells, Pt.slots] at X492 l492 y492 z492 st492 hQ492
  subst l492 y492 z492
  obtain ⟨rfl, Nq492, eh492⟩ := hQ492
  have N492 := Fr.app N490 Nq492
  obtain ⟨_, _, ⟨T493, L493, k493, n493⟩, -, X493, ⟨Lc493, hQ493, l493, y493, z493⟩, st493⟩ := Jvm.LawKit.callS X492 hx (y := mn28) hown (mvT hZ (own_g hw 104 rfl)) (mvT hZ (own_g hw 105 rfl)) (mvT hZ (own_g hw 73 rfl)) (mvT hZ (own_g hw 106 rfl)) (by decide) (backOf (W := 0) (rmIo2U l Z a0 hw [] cs gS v1 k1 ch x0 x1 h0 n0 Z0 V_env Od V1 hq hx0 hx1) hZ (own_g hw 106 rfl) (own_g hw 73 rfl) (by decide) (by decide)) (g := (mkF m 33 #[Rv a1, Iv ch, Iv 0] [(.int 2), (.int 0), (.int ch), (.ref v1)])) rfl (by rw [hml]; rfl) (argsL := [(.ref v1), (.int ch), (.int (0 : Int32)), (.int (2 : Int32))]) (rest := []) (lenOf own_pd285 rfl) rfl (own_z rfl) (hb hby d7_33) (fun _ _ => ⟨rfl, eh492, (by decide : 0 + 0 ≤ _), (by decide : 0 + 0 ≤ _)⟩)
  dsimp only [Pt.U, Pt.locs, Pt.cells, Pt.slots] at X493 l493 y493 z493 st493 hQ493
  subst l493 y493 z493
  obtain ⟨rfl, Nq493, eh493⟩ := hQ493
  have N493 := Fr.app N492 Nq493
  refine own_by (fun _ k => XS.aloadN X0.here hx rfl (hb hby d7_0) rfl rfl (st490.trans (XS.ifYes X490.here hx rfl (pc0 := 4) (pc' := 23) rfl (hb hby d7_4) rfl ((if0 _ _).trans (teq (by decide : (0 : Int32) = (0 : Int32))).1) (by decide) (by decide) (XS.aloadN X490.here hx rfl (hb hby d7_23) rfl rfl (st491 _ (XS.iloadN X491.here hx rfl (hb hby d7_27) rfl (XS.iloadN X491.here hx rfl (hb hby d7_28) rfl (XS.aloadN X491.here hx rfl (hb hby d7_29) rfl rfl (st492.trans (st493 _ k)))))))))) ?_
  exact own_retI X493 hx hlk hret (hb hby d7_36) ⟨rfl, N493, eh493⟩ (by decide) (by decide)
def own_QrmIx2U (ch : Int32) (x0 x1 : Int32) (h0 : Heap) (n0 : Nat) (v : Option Value) (h : Heap) (L : List Loc) : Prop := v = some (.int (own_find ch [x0, x1] (0 : Int32))) ∧ Fr n0 L ∧ h = h0
set_option maxRecDepth 65536 in
set_option maxHeartbeats 40000000 in
theorem rmIx2U (l : Launch) (Z : State) (a0 : Array Value) (hw : own_W a0 Z) (ws : List Jvm.Cond) (cs : Int32) (gS : Value) (a1 : Addr) (v1 : Addr) (k1 : ClassId) (ch : Int32) (x0 x1 : Int32) (h0 : Heap) (n0 : Nat) (Z0 : n0 ≤ h0.size) (V_env : own_Env Z cs gS) (Od : Old Z n0 h0) (E_a1 : Exa Z h0 a1 "java/lang/String") (F1 : Fld Z h0 a1 "java/lang/String" "value" "[B" (.ref v1)) (F2 : Fld Z h0 a1 "java/lang/String" "coder" "B" (.int (1 : Int32))) (V1 : Arv Z h0 v1 k1 .byte (4 : Int32) [(.int (own_lo x0)), (.int (own_hi x0)), (.int (own_lo x1)), (.int (own_hi x1))] (.int (0 : Int32))) (hq : own_cq ch) (hx0 : own_ch x0) (hx1 : own_ch x1) : own_Met l Z mn19 jdk_42_method_79_code 2 (some .int) ws (own_R 6 0 0 87) #[(.ref a1), (.int ch)] h0 (own_QrmIx2U ch x0 x1 h0 n0) := by
  refine own_enter n0 (plainFor_of_name own_pn16) (fun m => ef_RI_2 m a1 ch ) (fun p e s m below meth c s₁ hx hby hlk hml hret hown hnm hZ X0 e0 N0 => ?_)
  show own_Fin _ _ _ _ _ _ _ s₁ (mkF m 0 #[Rv a1, Iv ch] [])
  obtain ⟨cq494, kq494, q494a, q494b, q494c⟩ := isOf hZ e0 E_a1
  obtain ⟨_, _, ⟨T494, L494, k494, n494⟩, -, X494, ⟨Lc494, hQ494, l494, y494, z494⟩, st494⟩ := X0.virtualBack hx (y := mn18) (z := mn18) hown (mvT hZ (own_g hw 36 rfl)) (mvT hZ (own_g hw 37 rfl)) (notFace_of_selects (args := #[]) (mvT hZ (own_g hw 39 rfl))) (mvT hZ (own_g hw 39 rfl)) (mvT hZ (own_g hw 38 rfl)) (by decide) (backOf (W := 0) (rmI22U l Z a0 hw [] cs gS a1 v1 k1 ch x0 x1 h0 n0 Z0 V_env Od E_a1 F1 F2 V1 hq hx0 hx1) hZ (own_g hw 40 rfl) (own_g hw 8 rfl) (by decide) (by decide)) q494a q494c (g := (mkF m 3 #[Rv a1, Iv ch] [(.int 0), (.int ch), (.ref a1)])) rfl (by rw [hml]; rfl) (Steps.refl _) (argsL := [(.int ch), (.int (0 : Int32))]) (rest := []) (lenOf own_pd253 rfl) rfl (own_z rfl) (hb hby d6_3) (fun _ _ => ⟨rfl, e0, (by decide : 0 + 0 ≤ _), (by decide : 0 + 0 ≤ _)⟩)
  dsimp only [Pt.U, Pt.locs, Pt.cells, Pt.slots] at X494 l494 y494 z494 st494 hQ494
  subst l494 y494 z494
  obtain ⟨rfl, Nq494, eh494⟩ := hQ494
  have N494 := Fr.app N0 Nq494
  refine own_by (fun _ k => XS.aloadN X0.here hx rfl (hb hby d6_0) rfl rfl (XS.iloadN X0.here hx rfl (hb hby d6_1) rfl (XS.iconst X0.here hx rfl (hb hby d6_2) (st494.trans k)))) ?_
  exact own_retI X494 hx hlk hret (hb hby d6_6) ⟨rfl, N494, eh494⟩ (by decide) (by decide)
def own_QIS2U (x0 x1 : Int32) (h0 : Heap) (n0 : Nat) (v : Option Value) (h : Heap) (L : List Loc) : Prop := v = some (.int (own_neg (own_find (0 : Int32) [x0, x1] (0 : Int32)))) ∧ Fr n0 L ∧ h = h0
set_option maxRecDepth 65536 in
set_option maxHeartbeats 40000000 in
theorem rmIS2U (l : Launch) (Z : State) (a0 : Array Value) (hw : own_W a0 Z) (ws : List Jvm.Cond) (cs : Int32) (gS : Value) (a1 v1 : Addr) (k1 : ClassId) (x0 x1 : Int32)  (h0 : Heap) (n0 : Nat) (Z0 : n0 ≤ h0.size) (V_env : own_Env Z cs gS) (Od : Old Z n0 h0) (E_a1 : Exa Z h0 a1 "java/lang/String") (F1 : Fld Z h0 a1 "java/lang/String" "value" "[B" (.ref v1)) (F2 : Fld Z h0 a1 "java/lang/String" "coder" "B" (.int (1 : Int32))) (V1 : Arv Z h0 v1 k1 .byte (4 : Int32) [(.int (own_lo x0)), (.int (own_hi x0)), (.int (own_lo x1)), (.int (own_hi x1))] (.int (0 : Int32))) (hx0 : own_ch x0) (hx1 : own_ch x1) : own_Met l Z mn20 prog_26_method_2_code 1 (some .boolean) ws (own_R 7 0 0 100) #[(.ref a1)] h0 (own_QIS2U x0 x1 h0 n0) := by
  refine own_enter n0 (plainFor_of_name own_pn293) (fun m => ef_R_1 m a1 ) (fun p e s m below meth c s₁ hx hby hlk hml hret hown hnm hZ X0 e0 N0 => ?_)
  show own_Fin _ _ _ _ _ _ _ s₁ (mkF m 0 #[Rv a1] [])
  obtain ⟨cq495, kq495, q495a, q495b, q495c⟩ := isOf hZ e0 E_a1
  obtain ⟨_, _, ⟨T495, L495, k495, n495⟩, -, X495, ⟨Lc495, hQ495, l495, y495, z495⟩, st495⟩ := X0.virtualBack hx (y := mn19) (z := mn19) hown (mvT hZ (own_g hw 31 rfl)) (mvT hZ (own_g hw 32 rfl)) (notFace_of_selects (args := #[]) (mvT hZ (own_g hw 34 rfl))) (mvT hZ (own_g hw 34 rfl)) (mvT hZ (own_g hw 33 rfl)) (by decide) (backOf (W := 0) (rmIx2U l Z a0 hw [] cs gS a1 v1 k1 (0 : Int32) x0 x1 h0 n0 Z0 V_env Od E_a1 F1 F2 V1 ⟨by decide, by decide, by decide⟩ hx0 hx1) hZ (own_g hw 35 rfl) (own_g hw 8 rfl) (by decide) (by decide)) q495a q495c (g := (mkF m 2 #[Rv a1] [(.int 0), (.ref a1)])) rfl (by rw [hml]; rfl) (Steps.refl _) (argsL := [(.int (0 : Int32))]) (rest := []) (lenOf own_pd52 rfl) rfl (own_z rfl) (hb hby d5_2) (fun _ _ => ⟨rfl, e0, (by decide : 0 + 0 ≤ _), (by decide : 0 + 0 ≤ _)⟩)
  dsimp only [Pt.U, Pt.locs, Pt.cells, Pt.slots] at X495 l495 y495 z495 st495 hQ495
  subst l495 y495 z495
  obtain ⟨rfl, Nq495, eh495⟩ := hQ495
  have N495 := Fr.app N0 Nq495
  refine own_by (fun _ k => XS.aloadN X0.here hx rfl (hb hby d5_0) rfl rfl (XS.iconst X0.here hx rfl (hb hby d5_1) (st495.trans k))) ?_
  show own_Fin _ _ _ _ _ _ _ T495 (mkF m 5 #[Rv a1] [(.int (own_find (0 : Int32) [x0, x1] (0 : Int32)))])
  by_cases hc5_496 : (own_find (0 : Int32) [x0, x1] (0 : Int32)) < (0 : Int32)
  · show own_Fin _ _ _ _ _ _ _ T495 (mkF m 5 #[Rv a1] [(.int (own_find (0 : Int32) [x0, x1] (0 : Int32)))])
    refine own_by (fun _ k => XS.ifNo X495.here hx rfl (hb hby d5_5) rfl ((if0 _ _).trans (tlt hc5_496).2.1) (XS.iconst X495.here hx rfl (hb hby d5_8) (XS.goto X495.here hx rfl (pc0 := 9) (pc' := 13) rfl (hb hby d5_9) (by decide) (by decide) k))) ?_
    exact own_retZ X495 hx hlk (t := .boolean) hret (by simp) (hb hby d5_13) ⟨own_vi (by show (1 : Int32) = _; first | (simp only [own_neg, if_neg V_env.2.2.2.2.1, if_pos hc5_496]; done) | (simp only [own_neg, if_neg V_env.2.2.2.2.1, if_pos hc5_496]; decide) | simp [own_neg, V_env.2.2.2.2.1, hc5_496]), N495, eh495⟩ (by decide) (by decide)
  · show own_Fin _ _ _ _ _ _ _ T495 (mkF m 5 #[Rv a1] [(.int (own_find (0 : Int32) [x0, x1] (0 : Int32)))])
    refine own_by (fun _ k => XS.ifYes X495.here hx rfl (pc0 := 5) (pc' := 12) rfl (hb hby d5_5) rfl ((if0 _ _).trans (flt hc5_496).2.1) (by decide) (by decide) (XS.iconst X495.here hx rfl (hb hby d5_12) k)) ?_
    exact own_retZ X495 hx hlk (t := .boolean) hret (by simp) (hb hby d5_13) ⟨own_vi (by show (0 : Int32) = _; first | (simp only [own_neg, if_neg V_env.2.2.2.2.1, if_neg hc5_496]; done) | (simp only [own_neg, if_neg V_env.2.2.2.2.1, if_neg hc5_496]; decide) | simp [own_neg, V_env.2.2.2.2.1, hc5_496]), N495, eh495⟩ (by decide) (by decide)
def own_QrmIc3L (ch : Int32) (x0 x1 x2 : Int32) (h0 : Heap) (n0 : Nat) (v : Option Value) (h : Heap) (L : List Loc) : Prop := v = some (.int (own_find (ch.toInt8.toInt32) [x0.toInt8.toInt32, x1.toInt8.toInt32, x2.toInt8.toInt32] (0 : Int32))) ∧ Fr n0 L ∧ h = h0
set_option maxRecDepth 65536 in
set_option maxHeartbeats 40000000 in
theorem rmIc3L (l : Launch) (Z : State) (a0 : Array Value) (hw : own_W a0 Z) (ws : List Jvm.Cond) (cs : Int32) (gS : Value) (v1 : Addr) (k1 : ClassId) (ch : Int32) (x0 x1 x2 : Int32) (h0 : Heap) (n0 : Nat) (Z0 : n0 ≤ h0.size) (V_env : own_Env Z cs gS) (Od : Old Z n0 h0) (V1 : Arv Z h0 v1 k1 .byte (3 : Int32) [(.int x0.toInt8.toInt32), (.int x1.toInt8.toInt32), (.int x2.toInt8.toInt32)] (.int (0 : Int32))) (hq : own_cq ch) : own_Met l Z mn21 jdk_43_method_23_code 6 (some .int) ws (own_R 0 0 0 0) #[(.ref v1), (.int ch), (.int (0 : Int32)), (.int (3 : Int32))] h0 (own_QrmIc3L ch x0 x1 x2 h0 n0) := by
  refine own_enter n0 (plainFor_of_name own_pn223) (fun m => ef_RIII_6 m v1 ch (0 : Int32) (3 : Int32) ) (fun p e s m below meth c s₁ hx hby hlk hml hret hown hnm hZ X0 e0 N0 => ?_)
  show own_Fin _ _ _ _ _ _ _ s₁ (mkF m 0 #[Rv v1, Iv ch, Iv 0, Iv 3, Uv, Uv] [])
  obtain ⟨cl497, Ar497, -, S497, M497, H497, -⟩ := id V1
  have hin497 : ¬ ((0 : Int32) < 0 ∨ cl497.slots.size ≤ ((0 : Int32)).toNatClampNeg) := inb_of S497 ⟨by decide, by decide⟩
  have hat497 : cl497.slots[((0 : Int32)).toNatClampNeg]? = some (.int x0.toInt8.toInt32) := Has.at H497 hin497 rfl
  refine own_by (fun _ k => XS.iloadN X0.here hx rfl (hb hby d18_0) rfl (XS.i2b X0.here hx rfl (hb hby d18_1) rfl (XS.istore X0.here hx rfl (hb hby d18_2) rfl (l' := #[Rv v1, Iv ch, Iv 0, Iv 3, Iv (ch.toInt8.toInt32), Uv]) rfl (XS.iloadN X0.here hx rfl (hb hby d18_4) rfl (XS.istore X0.here hx rfl (hb hby d18_5) rfl (l' := #[Rv v1, Iv ch, Iv 0, Iv 3, Iv (ch.toInt8.toInt32), Iv 0]) rfl (XS.iload X0.here hx rfl (hb hby d18_7) rfl (XS.iloadN X0.here hx rfl (hb hby d18_9) rfl (XS.icmpNo X0.here hx rfl (hb hby d18_10) rfl (tlt (by decide : (0 : Int32) < (3 : Int32))).2.1 (XS.aloadN X0.here hx rfl (hb hby d18_13) rfl rfl (XS.iload X0.here hx rfl (hb hby d18_14) rfl k)))))))))) ?_
  show own_Fin _ _ _ _ _ _ _ s₁ (mkF m 16 #[Rv v1, Iv ch, Iv 0, Iv 3, Iv (ch.toInt8.toInt32), Iv 0] [(.int 0), (.ref v1)])
  refine own_by (fun _ k => X0.baloadBytes hx (j := (0 : Int32)) (v := (.int x0.toInt8.toInt32)) (by rw [e0]; exact Ar497.1) (State.isArrayOf_alike hZ.alike Ar497.2.1) Ar497.2.2 hin497 hat497 (g := (mkF m 16 #[Rv v1, Iv ch, Iv 0, Iv 3, Iv (ch.toInt8.toInt32), Iv 0] [(.int 0), (.ref v1)])) rfl rfl (hb hby d18_16) _ (XS.iload X0.here hx rfl (hb hby d18_17) rfl k)) ?_
  show own_Fin _ _ _ _ _ _ _ s₁ (mkF m 19 #[Rv v1, Iv ch, Iv 0, Iv 3, Iv (ch.toInt8.toInt32), Iv 0] [(.int (ch.toInt8.toInt32)), (.int x0.toInt8.toInt32)])
  by_cases hc19_498 : x0.toInt8.toInt32 = (ch.toInt8.toInt32)
  · show own_Fin _ _ _ _ _ _ _ s₁ (mkF m 19 #[Rv v1, Iv ch, Iv 0, Iv 3, Iv (ch.toInt8.toInt32), Iv 0] [(.int (ch.toInt8.toInt32)), (.int x0.toInt8.toInt32)])
    refine own_by (fun _ k => XS.icmpNo X0.here hx rfl (hb hby d18_19) rfl (teq hc19_498).2 (XS.iload X0.here hx rfl (hb hby d18_22) rfl k)) ?_
    exact own_retI X0 hx hlk hret (hb hby d18_24) ⟨own_vi (by show (0 : Int32) = _; first | (simp only [own_find, if_neg V_env.2.2.2.2.1, if_neg hq.1, if_neg hq.2.1, if_pos hq.2.2, if_pos hc19_498]; done) | (simp only [own_find, if_neg V_env.2.2.2.2.1, if_neg hq.1, if_neg hq.2.1, if_pos hq.2.2, if_pos hc19_498]; decide) | simp [own_find, V_env.2.2.2.2.1, hq.1, hq.2.1, hq.2.2, hc19_498]), N0, e0⟩ (by decide) (by decide)
  · show own_Fin _ _ _ _ _ _ _ s₁ (mkF m 19 #[Rv v1, Iv ch, Iv 0, Iv 3, Iv (ch.toInt8.toInt32), Iv 0] [(.int (ch.toInt8.toInt32)), (.int x0.toInt8.toInt32)])
    refine own_by (fun _ k => XS.icmpYes X0.here hx rfl (pc0 := 19) (pc' := 25) rfl (hb hby d18_19) rfl (feq hc19_498).2 (by decide) (by decide) (XS.iinc X0.here hx rfl (hb hby d18_25) rfl (l' := #[Rv v1, Iv ch, Iv 0, Iv 3, Iv (ch.toInt8.toInt32), Iv ((0 : Int32) + (1 : Int32))]) rfl k)) ?_
    show own_Fin _ _ _ _ _ _ _ s₁ (mkF m 28 #[Rv v1, Iv ch, Iv 0, Iv 3, Iv (ch.toInt8.toInt32), Iv ((0 : Int32) + (1 : Int32))] [])
    rw [(by decide : ((0 : Int32) + (1 : Int32)) = (1 : Int32))]
    show own_Fin _ _ _ _ _ _ _ s₁ (mkF m 28 #[Rv v1, Iv ch, Iv 0, Iv 3, Iv (ch.toInt8.toInt32), Iv 1] [])
    obtain ⟨cl499, Ar499, -, S499, M499, H499, -⟩ := id V1
    have hin499 : ¬ ((1 : Int32) < 0 ∨ cl499.slots.size ≤ ((1 : Int32)).toNatClampNeg) := inb_of S499 ⟨by decide, by decide⟩
    have hat499 : cl499.slots[((1 : Int32)).toNatClampNeg]? = some (.int x1.toInt8.toInt32) := Has.at H499 hin499 rfl
    refine own_by (fun _ k => XS.goto X0.here hx rfl (pc0 := 28) (pc' := 7) rfl (hb hby d18_28) (by decide) (by decide) (XS.iload X0.here hx rfl (hb hby d18_7) rfl (XS.iloadN X0.here hx rfl (hb hby d18_9) rfl (XS.icmpNo X0.here hx rfl (hb hby d18_10) rfl (tlt (by decide : (1 : Int32) < (3 : Int32))).2.1 (XS.aloadN X0.here hx rfl (hb hby d18_13) rfl rfl (XS.iload X0.here hx rfl (hb hby d18_14) rfl (X0.baloadBytes hx (j := (1 : Int32)) (v := (.int x1.toInt8.toInt32)) (by rw [e0]; exact Ar499.1) (State.isArrayOf_alike hZ.alike Ar499.2.1) Ar499.2.2 hin499 hat499 (g := (mkF m 16 #[Rv v1, Iv ch, Iv 0, Iv 3, Iv (ch.toInt8.toInt32), Iv 1] [(.int 1), (.ref v1)])) rfl rfl (hb hby d18_16) _ (XS.iload X0.here hx rfl (hb hby d18_17) rfl k)))))))) ?_
    show own_Fin _ _ _ _ _ _ _ s₁ (mkF m 19 #[Rv v1, Iv ch, Iv 0, Iv 3, Iv (ch.toInt8.toInt32), Iv 1] [(.int (ch.toInt8.toInt32)), (.int x1.toInt8.toInt32)])
    by_cases hc19_500 : x1.toInt8.toInt32 = (ch.toInt8.toInt32)
    · show own_Fin _ _ _ _ _ _ _ s₁ (mkF m 19 #[Rv v1, Iv ch, Iv 0, Iv 3, Iv (ch.toInt8.toInt32), Iv 1] [(.int (ch.toInt8.toInt32)), (.int x1.toInt8.toInt32)])
      refine own_by (fun _ k => XS.icmpNo X0.here hx rfl (hb hby d18_19) rfl (teq hc19_500).2 (XS.iload X0.here hx rfl (hb hby d18_22) rfl k)) ?_
      exact own_retI X0 hx hlk hret (hb hby d18_24) ⟨own_vi (by show (1 : Int32) = _; first | (simp only [own_find, if_neg V_env.2.2.2.2.1, if_neg hq.1, if_neg hq.2.1, if_pos hq.2.2, if_neg hc19_498, if_pos hc19_500]; done) | (simp only [own_find, if_neg V_env.2.2.2.2.1, if_neg hq.1, if_neg hq.2.1, if_pos hq.2.2, if_neg hc19_498, if_pos hc19_500]; decide) | simp [own_find, V_env.2.2.2.2.1, hq.1, hq.2.1, hq.2.2, hc19_498, hc19_500]), N0, e0⟩ (by decide) (by decide)
    · show own_Fin _ _ _ _ _ _ _ s₁ (mkF m 19 #[Rv v1, Iv ch, Iv 0, Iv 3, Iv (ch.toInt8.toInt32), Iv 1] [(.int (ch.toInt8.toInt32)), (.int x1.toInt8.toInt32)])
      refine own_by (fun _ k => XS.icmpYes X0.here hx rfl (pc0 := 19) (pc' := 25) rfl (hb hby d18_19) rfl (feq hc19_500).2 (by decide) (by decide) (XS.iinc X0.here hx rfl (hb hby d18_25) rfl (l' := #[Rv v1, Iv ch, Iv 0, Iv 3, Iv (ch.toInt8.toInt32), Iv ((1 : Int32) + (1 : Int32))]) rfl k)) ?_
      show own_Fin _ _ _ _ _ _ _ s₁ (mkF m 28 #[Rv v1, Iv ch, Iv 0, Iv 3, Iv (ch.toInt8.toInt32), Iv ((1 : Int32) + (1 : Int32))] [])
      rw [(by decide : ((1 : Int32) + (1 : Int32)) = (2 : Int32))]
      show own_Fin _ _ _ _ _ _ _ s₁ (mkF m 28 #[Rv v1, Iv ch, Iv 0, Iv 3, Iv (ch.toInt8.toInt32), Iv 2] [])
      obtain ⟨cl501, Ar501, -, S501, M501, H501, -⟩ := id V1
      have hin501 : ¬ ((2 : Int32) < 0 ∨ cl501.slots.size ≤ ((2 : Int32)).toNatClampNeg) := inb_of S501 ⟨by decide, by decide⟩
      have hat501 : cl501.slots[((2 : Int32)).toNatClampNeg]? = some (.int x2.toInt8.toInt32) := Has.at H501 hin501 rfl
      refine own_by (fun _ k => XS.goto X0.here hx rfl (pc0 := 28) (pc' := 7) rfl (hb hby d18_28) (by decide) (by decide) (XS.iload X0.here hx rfl (hb hby d18_7) rfl (XS.iloadN X0.here hx rfl (hb hby d18_9) rfl (XS.icmpNo X0.here hx rfl (hb hby d18_10) rfl (tlt (by decide : (2 : Int32) < (3 : Int32))).2.1 (XS.aloadN X0.here hx rfl (hb hby d18_13) rfl rfl (XS.iload X0.here hx rfl (hb hby d18_14) rfl (X0.baloadBytes hx (j := (2 : Int32)) (v := (.int x2.toInt8.toInt32)) (by rw [e0]; exact Ar501.1) (State.isArrayOf_alike hZ.alike Ar501.2.1) Ar501.2.2 hin501 hat501 (g := (mkF m 16 #[Rv v1, Iv ch, Iv 0, Iv 3, Iv (ch.toInt8.toInt32), Iv 2] [(.int 2), (.ref v1)])) rfl rfl (hb hby d18_16) _ (XS.iload X0.here hx rfl (hb hby d18_17) rfl k)))))))) ?_
      show own_Fin _ _ _ _ _ _ _ s₁ (mkF m 19 #[Rv v1, Iv ch, Iv 0, Iv 3, Iv (ch.toInt8.toInt32), Iv 2] [(.int (ch.toInt8.toInt32)), (.int x2.toInt8.toInt32)])
      by_cases hc19_502 : x2.toInt8.toInt32 = (ch.toInt8.toInt32)
      · show own_Fin _ _ _ _ _ _ _ s₁ (mkF m 19 #[Rv v1, Iv ch, Iv 0, Iv 3, Iv (ch.toInt8.toInt32), Iv 2] [(.int (ch.toInt8.toInt32)), (.int x2.toInt8.toInt32)])
        refine own_by (fun _ k => XS.icmpNo X0.here hx rfl (hb hby d18_19) rfl (teq hc19_502).2 (XS.iload X0.here hx rfl (hb hby d18_22) rfl k)) ?_
        exact own_retI X0 hx hlk hret (hb hby d18_24) ⟨own_vi (by show (2 : Int32) = _; first | (simp only [own_find, if_neg V_env.2.2.2.2.1, if_neg hq.1, if_neg hq.2.1, if_pos hq.2.2, if_neg hc19_498, if_neg hc19_500, if_pos hc19_502]; done) | (simp only [own_find, if_neg V_env.2.2.2.2.1, if_neg hq.1, if_neg hq.2.1, if_pos hq.2.2, if_neg hc19_498, if_neg hc19_500, if_pos hc19_502]; decide) | simp [own_find, V_env.2.2.2.2.1, hq.1, hq.2.1, hq.2.2, hc19_498, hc19_500, hc19_502]), N0, e0⟩ (by decide) (by decide)
      · show own_Fin _ _ _ _ _ _ _ s₁ (mkF m 19 #[Rv v1, Iv ch, Iv 0, Iv 3, Iv (ch.toInt8.toInt32), Iv 2] [(.int (ch.toInt8.toInt32)), (.int x2.toInt8.toInt32)])
        refine own_by (fun _ k => XS.icmpYes X0.here hx rfl (pc0 := 19) (pc' := 25) rfl (hb hby d18_19) rfl (feq hc19_502).2 (by decide) (by decide) (XS.iinc X0.here hx rfl (hb hby d18_25) rfl (l' := #[Rv v1, Iv ch, Iv 0, Iv 3, Iv (ch.toInt8.toInt32), Iv ((2 : Int32) + (1 : Int32))]) rfl k)) ?_
        show own_Fin _ _ _ _ _ _ _ s₁ (mkF m 28 #[Rv v1, Iv ch, Iv 0, Iv 3, Iv (ch.toInt8.toInt32), Iv ((2 : Int32) + (1 : Int32))] [])
        rw [(by decide : ((2 : Int32) + (1 : Int32)) = (3 : Int32))]
        show own_Fin _ _ _ _ _ _ _ s₁ (mkF m 28 #[Rv v1, Iv ch, Iv 0, Iv 3, Iv (ch.toInt8.toInt32), Iv 3] [])
        refine own_by (fun _ k => XS.goto X0.here hx rfl (pc0 := 28) (pc' := 7) rfl (hb hby d18_28) (by decide) (by decide) (XS.iload X0.here hx rfl (hb hby d18_7) rfl (XS.iloadN X0.here hx rfl (hb hby d18_9) rfl (XS.icmpYes X0.here hx rfl (pc0 := 10) (pc' := 31) rfl (hb hby d18_10) rfl (flt (by decide : ¬ ((3 : Int32) < (3 : Int32)))).2.1 (by decide) (by decide) (XS.iconst X0.here hx rfl (hb hby d18_31) k))))) ?_
        exact own_retI X0 hx hlk hret (hb hby d18_32) ⟨own_vi (by show (-1 : Int32) = _; first | (simp only [own_find, if_neg V_env.2.2.2.2.1, if_neg hq.1, if_neg hq.2.1, if_pos hq.2.2, if_neg hc19_498, if_neg hc19_500, if_neg hc19_502]; done) | (simp only [own_find, if_neg V_env.2.2.2.2.1, if_neg hq.1, if_neg hq.2.1, if_pos hq.2.2, if_neg hc19_498, if_neg hc19_500, if_neg hc19_502]; decide) | simp [own_find, V_env.2.2.2.2.1, hq.1, hq.2.1, hq.2.2, hc19_498, hc19_500, hc19_502]), N0, e0⟩ (by decide) (by decide)
def own_Qrmmin_3_3 (h0 : Heap) (n0 : Nat) (v : Option Value) (h : Heap) (L : List Loc) : Prop := v = some (.int (3 : Int32)) ∧ Fr n0 L ∧ h = h0
set_option maxRecDepth 65536 in
set_option maxHeartbeats 40000000 in
theorem rmmin_3_3 (l : Launch) (Z : State) (a0 : Array Value) (hw : own_W a0 Z) (ws : List Jvm.Cond)  (h0 : Heap) (n0 : Nat) (Z0 : n0 ≤ h0.size)  : own_Met l Z mn15 jdk_29_method_69_code 2 (some .int) ws (own_R 0 0 0 0) #[(.int (3 : Int32)), (.int (3 : Int32))] h0 (own_Qrmmin_3_3 h0 n0) := by
  refine own_enter n0 (by decide +kernel) (fun m => ef_II_2 m (3 : Int32) (3 : Int32) ) (fun p e s m below meth c s₁ hx hby hlk hml hret hown hnm hZ X0 e0 N0 => ?_)
  show own_Fin _ _ _ _ _ _ _ s₁ (mkF m 0 #[Iv 3, Iv 3] [])
  refine own_by (fun _ k => XS.iloadN X0.here hx rfl (hb hby d14_0) rfl (XS.iloadN X0.here hx rfl (hb hby d14_1) rfl (XS.icmpNo X0.here hx rfl (hb hby d14_2) rfl (flt (by decide : ¬ ((3 : Int32) < (3 : Int32)))).2.2.1 (XS.iloadN X0.here hx rfl (hb hby d14_5) rfl (XS.goto X0.here hx rfl (pc0 := 6) (pc' := 10) rfl (hb hby d14_6) (by decide) (by decide) k))))) ?_
  exact own_retI X0 hx hlk hret (hb hby d14_10) ⟨rfl, N0, e0⟩ (by decide) (by decide)
def own_QrmIo3L (ch : Int32) (x0 x1 x2 : Int32) (h0 : Heap) (n0 : Nat) (v : Option Value) (h : Heap) (L : List Loc) : Prop := v = some (.int (own_find (ch.toInt8.toInt32) [x0.toInt8.toInt32, x1.toInt8.toInt32, x2.toInt8.toInt32] (0 : Int32))) ∧ Fr n0 L ∧ h = h0
set_option maxRecDepth 65536 in
set_option maxHeartbeats 40000000 in
theorem rmIo3L (l : Launch) (Z : State) (a0 : Array Value) (hw : own_W a0 Z) (ws : List Jvm.Cond) (cs : Int32) (gS : Value) (v1 : Addr) (k1 : ClassId) (ch : Int32) (x0 x1 x2 : Int32) (h0 : Heap) (n0 : Nat) (Z0 : n0 ≤ h0.size) (V_env : own_Env Z cs gS) (Od : Old Z n0 h0) (V1 : Arv Z h0 v1 k1 .byte (3 : Int32) [(.int x0.toInt8.toInt32), (.int x1.toInt8.toInt32), (.int x2.toInt8.toInt32)] (.int (0 : Int32))) (hq : own_cq ch) : own_Met l Z mn16 jdk_43_method_22_code 4 (some .int) ws (own_R 1 0 0 17) #[(.ref v1), (.int ch), (.int (0 : Int32)), (.int (3 : Int32))] h0 (own_QrmIo3L ch x0 x1 x2 h0 n0) := by
  refine own_enter n0 (plainFor_of_name own_pn223) (fun m => ef_RIII_4 m v1 ch (0 : Int32) (3 : Int32) ) (fun p e s m below meth c s₁ hx hby hlk hml hret hown hnm hZ X0 e0 N0 => ?_)
  show own_Fin _ _ _ _ _ _ _ s₁ (mkF m 0 #[Rv v1, Iv ch, Iv 0, Iv 3] [])
  obtain ⟨_, _, ⟨T503, L503, k503, n503⟩, -, X503, ⟨Lc503, hQ503, l503, y503, z503⟩, st503⟩ := Jvm.LawKit.callS X0 hx (y := mn13) hown (mvT hZ (own_g hw 61 rfl)) (mvT hZ (own_g hw 62 rfl)) (mvT hZ (own_g hw 59 rfl)) (mvT hZ (own_g hw 63 rfl)) (by decide) (backOf (W := 0) (rmCe l Z a0 hw [] ch h0 n0 Z0 hq) hZ (own_g hw 63 rfl) (own_g hw 59 rfl) (by decide) (by decide)) (g := (mkF m 1 #[Rv v1, Iv ch, Iv 0, Iv 3] [(.int ch)])) rfl (by rw [hml]; rfl) (argsL := [(.int ch)]) (rest := []) (lenOf own_pd248 rfl) rfl (own_z rfl) (hb hby d11_1) (fun _ _ => ⟨rfl, e0, (by decide : 0 + 0 ≤ _), (by decide : 0 + 0 ≤ _)⟩)
  dsimp only [Pt.U, Pt.locs, Pt.cells, Pt.slots] at X503 l503 y503 z503 st503 hQ503
  subst l503 y503 z503
  obtain ⟨rfl, Nq503, eh503⟩ := hQ503
  have N503 := Fr.app N0 Nq503
  obtain ⟨_, _, ⟨T504, L504, k504, n504⟩, -, X504, ⟨Lc504, hQ504, l504, y504, z504⟩, st504⟩ := Jvm.LawKit.callS X503 hx (y := mn14) hown (mvT hZ (own_g hw 64 rfl)) (mvT hZ (own_g hw 65 rfl)) (mvT hZ (own_g hw 66 rfl)) (mvT hZ (own_g hw 67 rfl)) (by decide) (backOf (W := 0) (rmmax_0_0 l Z a0 hw []  h0 n0 Z0 ) hZ (own_g hw 67 rfl) (own_g hw 66 rfl) (by decide) (by decide)) (g := (mkF m 11 #[Rv v1, Iv ch, Iv 0, Iv 3] [(.int 0), (.int 0)])) rfl (by rw [hml]; rfl) (argsL := [(.int (0 : Int32)), (.int (0 : Int32))]) (rest := []) (lenOf own_pd253 rfl) rfl (own_z rfl) (hb hby d11_11) (fun _ _ => ⟨rfl, eh503, (by decide : 0 + 0 ≤ _), (by decide : 0 + 0 ≤ _)⟩)
  dsimp only [Pt.U, Pt.locs, Pt.cells, Pt.slots] at X504 l504 y504 z504 st504 hQ504
  subst l504 y504 z504
  obtain ⟨rfl, Nq504, eh504⟩ := hQ504
  have N504 := Fr.app N503 Nq504
  obtain ⟨cl505, Ar505, -, S505, M505, -, -⟩ := id V1
  refine own_by (fun _ k => XS.iloadN X0.here hx rfl (hb hby d11_0) rfl (st503 _ (XS.ifYes X503.here hx rfl (pc0 := 4) (pc' := 9) rfl (hb hby d11_4) rfl ((if0 _ _).trans (feq (by decide : ¬ ((1 : Int32) = (0 : Int32)))).2) (by decide) (by decide) (XS.iloadN X503.here hx rfl (hb hby d11_9) rfl (XS.iconst X503.here hx rfl (hb hby d11_10) (st504 _ (XS.istoreN X504.here hx rfl (hb hby d11_14) rfl (l' := #[Rv v1, Iv ch, Iv 0, Iv 3]) rfl (XS.iloadN X504.here hx rfl (hb hby d11_15) rfl (XS.aloadN X504.here hx rfl (hb hby d11_16) rfl rfl (X504.arraylength hx (by rw [eh504]; exact Ar505.1) (State.isArrayOf_alike hZ.alike Ar505.2.1) (g := (mkF m 17 #[Rv v1, Iv ch, Iv 0, Iv 3] [(.ref v1), (.int 3)])) rfl rfl (hb hby d11_17) _ k)))))))))) ?_
  rw [len_of S505 M505]
  show own_Fin _ _ _ _ _ _ _ T504 (mkF m 18 #[Rv v1, Iv ch, Iv 0, Iv 3] [(.int 3), (.int 3)])
  obtain ⟨_, _, ⟨T506, L506, k506, n506⟩, -, X506, ⟨Lc506, hQ506, l506, y506, z506⟩, st506⟩ := Jvm.LawKit.callS X504 hx (y := mn15) hown (mvT hZ (own_g hw 68 rfl)) (mvT hZ (own_g hw 69 rfl)) (mvT hZ (own_g hw 66 rfl)) (mvT hZ (own_g hw 70 rfl)) (by decide) (backOf (W := 0) (rmmin_3_3 l Z a0 hw []  h0 n0 Z0 ) hZ (own_g hw 70 rfl) (own_g hw 66 rfl) (by decide) (by decide)) (g := (mkF m 18 #[Rv v1, Iv ch, Iv 0, Iv 3] [(.int 3), (.int 3)])) rfl (by rw [hml]; rfl) (argsL := [(.int (3 : Int32)), (.int (3 : Int32))]) (rest := []) (lenOf own_pd253 rfl) rfl (own_z rfl) (hb hby d11_18) (fun _ _ => ⟨rfl, eh504, (by decide : 0 + 0 ≤ _), (by decide : 0 + 0 ≤ _)⟩)
  dsimp only [Pt.U, Pt.locs, Pt.cells, Pt.slots] at X506 l506 y506 z506 st506 hQ506
  subst l506 y506 z506
  obtain ⟨rfl, Nq506, eh506⟩ := hQ506
  have N506 := Fr.app N504 Nq506
  obtain ⟨_, _, ⟨T507, L507, k507, n507⟩, -, X507, ⟨Lc507, hQ507, l507, y507, z507⟩, st507⟩ := Jvm.LawKit.callS X506 hx (y := mn21) hown (mvT hZ (own_g hw 81 rfl)) (mvT hZ (own_g hw 82 rfl)) (mvT hZ (own_g hw 59 rfl)) (mvT hZ (own_g hw 83 rfl)) (by decide) (backOf (W := 0) (rmIc3L l Z a0 hw [] cs gS v1 k1 ch x0 x1 x2 h0 n0 Z0 V_env Od V1 hq ) hZ (own_g hw 83 rfl) (own_g hw 59 rfl) (by decide) (by decide)) (g := (mkF m 33 #[Rv v1, Iv ch, Iv 0, Iv 3] [(.int 3), (.int 0), (.int ch), (.ref v1)])) rfl (by rw [hml]; rfl) (argsL := [(.ref v1), (.int ch), (.int (0 : Int32)), (.int (3 : Int32))]) (rest := []) (lenOf own_pd285 rfl) rfl (own_z rfl) (hb hby d11_33) (fun _ _ => ⟨rfl, eh506, (by decide : 0 + 0 ≤ _), (by decide : 0 + 0 ≤ _)⟩)
  dsimp only [Pt.U, Pt.locs, Pt.cells, Pt.slots] at X507 l507 y507 z507 st507 hQ507
  subst l507 y507 z507
  obtain ⟨rfl, Nq507, eh507⟩ := hQ507
  have N507 := Fr.app N506 Nq507
  refine own_by (fun _ k => st506 _ (XS.istoreN X506.here hx rfl (hb hby d11_21) rfl (l' := #[Rv v1, Iv ch, Iv 0, Iv 3]) rfl (XS.iloadN X506.here hx rfl (hb hby d11_22) rfl (XS.iloadN X506.here hx rfl (hb hby d11_23) rfl (XS.icmpYes X506.here hx rfl (pc0 := 24) (pc' := 29) rfl (hb hby d11_24) rfl (tlt (by decide : (0 : Int32) < (3 : Int32))).1 (by decide) (by decide) (XS.aloadN X506.here hx rfl (hb hby d11_29) rfl rfl (XS.iloadN X506.here hx rfl (hb hby d11_30) rfl (XS.iloadN X506.here hx rfl (hb hby d11_31) rfl (XS.iloadN X506.here hx rfl (hb hby d11_32) rfl (st507 _ k)))))))))) ?_
  exact own_retI X507 hx hlk hret (hb hby d11_36) ⟨rfl, N507, eh507⟩ (by decide) (by decide)
def own_QrmSl3_L (h0 : Heap) (n0 : Nat) (v : Option Value) (h : Heap) (L : List Loc) : Prop := v = some (.int (3 : Int32)) ∧ Fr n0 L ∧ h = h0
set_option maxRecDepth 65536 in
set_option maxHeartbeats 40000000 in
theorem rmSl3_L (l : Launch) (Z : State) (a0 : Array Value) (hw : own_W a0 Z) (ws : List Jvm.Cond) (cs : Int32) (gS : Value) (a1 v1 : Addr) (k1 : ClassId) (vs : List Value) (h0 : Heap) (n0 : Nat) (Z0 : n0 ≤ h0.size) (V_env : own_Env Z cs gS) (Od : Old Z n0 h0) (E_a1 : Exa Z h0 a1 "java/lang/String") (F1 : Fld Z h0 a1 "java/lang/String" "value" "[B" (.ref v1)) (F2 : Fld Z h0 a1 "java/lang/String" "coder" "B" (.int (0 : Int32))) (V1 : Arv Z h0 v1 k1 .byte (3 : Int32) vs (.int (0 : Int32))) : own_Met l Z mn17 jdk_42_method_54_code 1 (some .int) ws (own_R 1 0 0 13) #[(.ref a1)] h0 (own_QrmSl3_L h0 n0) := by
  refine own_enter n0 (plainFor_of_name own_pn16) (fun m => ef_R_1 m a1 ) (fun p e s m below meth c s₁ hx hby hlk hml hret hown hnm hZ X0 e0 N0 => ?_)
  show own_Fin _ _ _ _ _ _ _ s₁ (mkF m 0 #[Rv a1] [])
  obtain ⟨T508, X508, e508, st508⟩ := getF X0 hx hZ hown (host := "") (Or.inl (own_g hw 25 rfl)) Via.refl e0 F1 (g := (mkF m 1 #[Rv a1] [(.ref a1)])) rfl rfl (hb hby d9_1)
  obtain ⟨cl509, Ar509, -, S509, M509, -, -⟩ := id V1
  refine own_by (fun _ k => XS.aloadN X0.here hx rfl (hb hby d9_0) rfl rfl (st508 _ (X508.arraylength hx (by rw [e508]; exact Ar509.1) (State.isArrayOf_alike hZ.alike Ar509.2.1) (g := (mkF m 4 #[Rv a1] [(.ref v1)])) rfl rfl (hb hby d9_4) _ k))) ?_
  rw [len_of S509 M509]
  show own_Fin _ _ _ _ _ _ _ T508 (mkF m 5 #[Rv a1] [(.int 3)])
  obtain ⟨cq510, kq510, q510a, q510b, q510c⟩ := isOf hZ e508 E_a1
  obtain ⟨_, _, ⟨T510, L510, k510, n510⟩, -, X510, ⟨Lc510, hQ510, l510, y510, z510⟩, st510⟩ := X508.virtualBack hx (y := mn12) (z := mn12) hown (mvT hZ (own_g hw 52 rfl)) (mvT hZ (own_g hw 53 rfl)) (notFace_of_selects (args := #[]) (mvT hZ (own_g hw 55 rfl))) (mvT hZ (own_g hw 55 rfl)) (mvT hZ (own_g hw 54 rfl)) (by decide) (backOf (W := 1) (rmCd0 l Z a0 hw [] cs gS a1 h0 n0 Z0 V_env Od F2) hZ (own_g hw 56 rfl) (own_g hw 8 rfl) (by decide) (by decide)) q510a q510c (g := (mkF m 6 #[Rv a1] [(.ref a1), (.int 3)])) rfl (by rw [hml]; rfl) (Steps.refl _) (argsL := []) (rest := [(.int (3 : Int32))]) (lenOf own_pd270 rfl) rfl (own_z rfl) (hb hby d9_6) (fun _ _ => ⟨rfl, e508, (by decide : 0 + 0 ≤ _), (by decide : 0 + 0 ≤ _)⟩)
  dsimp only [Pt.U, Pt.locs, Pt.cells, Pt.slots] at X510 l510 y510 z510 st510 hQ510
  subst l510 y510 z510
  obtain ⟨rfl, Nq510, eh510⟩ := hQ510
  have N510 := Fr.app N0 Nq510
  refine own_by (fun _ k => XS.aloadN X508.here hx rfl (hb hby d9_5) rfl rfl (st510.trans (XS.ishr X510.here hx rfl (hb hby d9_9) rfl k))) ?_
  show own_Fin _ _ _ _ _ _ _ T510 (mkF m 10 #[Rv a1] [(.int ((3 : Int32) >>> ((0 : Int32) &&& 31)))])
  rw [(by decide : ((3 : Int32) >>> ((0 : Int32) &&& 31)) = (3 : Int32))]
  show own_Fin _ _ _ _ _ _ _ T510 (mkF m 10 #[Rv a1] [(.int 3)])
  exact own_retI X510 hx hlk hret (hb hby d9_10) ⟨rfl, N510, eh510⟩ (by decide) (by decide)
def own_QrmI23L (ch : Int32) (x0 x1 x2 : Int32) (h0 : Heap) (n0 : Nat) (v : Option Value) (h : Heap) (L : List Loc) : Prop := v = some (.int (own_find (ch.toInt8.toInt32) [x0.toInt8.toInt32, x1.toInt8.toInt32, x2.toInt8.toInt32] (0 : Int32))) ∧ Fr n0 L ∧ h = h0
set_option maxRecDepth 65536 in
set_option maxHeartbeats 40000000 in
theorem rmI23L (l : Launch) (Z : State) (a0 : Array Value) (hw : own_W a0 Z) (ws : List Jvm.Cond) (cs : Int32) (gS : Value) (a1 : Addr) (v1 : Addr) (k1 : ClassId) (ch : Int32) (x0 x1 x2 : Int32) (h0 : Heap) (n0 : Nat) (Z0 : n0 ≤ h0.size) (V_env : own_Env Z cs gS) (Od : Old Z n0 h0) (E_a1 : Exa Z h0 a1 "java/lang/String") (F1 : Fld Z h0 a1 "java/lang/String" "value" "[B" (.ref v1)) (F2 : Fld Z h0 a1 "java/lang/String" "coder" "B" (.int (0 : Int32))) (V1 : Arv Z h0 v1 k1 .byte (3 : Int32) [(.int x0.toInt8.toInt32), (.int x1.toInt8.toInt32), (.int x2.toInt8.toInt32)] (.int (0 : Int32))) (hq : own_cq ch) : own_Met l Z mn18 jdk_42_method_80_code 3 (some .int) ws (own_R 2 0 0 32) #[(.ref a1), (.int ch), (.int (0 : Int32))] h0 (own_QrmI23L ch x0 x1 x2 h0 n0) := by
  refine own_enter n0 (plainFor_of_name own_pn16) (fun m => ef_RII_3 m a1 ch (0 : Int32) ) (fun p e s m below meth c s₁ hx hby hlk hml hret hown hnm hZ X0 e0 N0 => ?_)
  show own_Fin _ _ _ _ _ _ _ s₁ (mkF m 0 #[Rv a1, Iv ch, Iv 0] [])
  obtain ⟨cq511, kq511, q511a, q511b, q511c⟩ := isOf hZ e0 E_a1
  obtain ⟨_, _, ⟨T511, L511, k511, n511⟩, -, X511, ⟨Lc511, hQ511, l511, y511, z511⟩, st511⟩ := X0.virtualBack hx (y := mn11) (z := mn11) hown (mvT hZ (own_g hw 41 rfl)) (mvT hZ (own_g hw 42 rfl)) (notFace_of_selects (args := #[]) (mvT hZ (own_g hw 44 rfl))) (mvT hZ (own_g hw 44 rfl)) (mvT hZ (own_g hw 43 rfl)) (by decide) (backOf (W := 0) (rmIs0 l Z a0 hw [] cs gS a1 h0 n0 Z0 V_env Od F2) hZ (own_g hw 45 rfl) (own_g hw 8 rfl) (by decide) (by decide)) q511a q511c (g := (mkF m 1 #[Rv a1, Iv ch, Iv 0] [(.ref a1)])) rfl (by rw [hml]; rfl) (Steps.refl _) (argsL := []) (rest := []) (lenOf own_pd275 rfl) rfl (own_z rfl) (hb hby d7_1) (fun _ _ => ⟨rfl, e0, (by decide : 0 + 0 ≤ _), (by decide : 0 + 0 ≤ _)⟩)
  dsimp only [Pt.U, Pt.locs, Pt.cells, Pt.slots] at X511 l511 y511 z511 st511 hQ511
  subst l511 y511 z511
  obtain ⟨rfl, Nq511, eh511⟩ := hQ511
  have N511 := Fr.app N0 Nq511
  obtain ⟨T512, X512, e512, st512⟩ := getF X511 hx hZ hown (host := "") (Or.inl (own_g hw 25 rfl)) Via.refl eh511 F1 (g := (mkF m 8 #[Rv a1, Iv ch, Iv 0] [(.ref a1)])) rfl rfl (hb hby d7_8)
  obtain ⟨cq513, kq513, q513a, q513b, q513c⟩ := isOf hZ e512 E_a1
  obtain ⟨_, _, ⟨T513, L513, k513, n513⟩, -, X513, ⟨Lc513, hQ513, l513, y513, z513⟩, st513⟩ := X512.virtualBack hx (y := mn17) (z := mn17) hown (mvT hZ (own_g hw 47 rfl)) (mvT hZ (own_g hw 48 rfl)) (notFace_of_selects (args := #[]) (mvT hZ (own_g hw 50 rfl))) (mvT hZ (own_g hw 50 rfl)) (mvT hZ (own_g hw 49 rfl)) (by decide) (backOf (W := 3) (rmSl3_L l Z a0 hw [] cs gS a1 v1 k1 [(.int x0.toInt8.toInt32), (.int x1.toInt8.toInt32), (.int x2.toInt8.toInt32)] h0 n0 Z0 V_env Od E_a1 F1 F2 V1) hZ (own_g hw 51 rfl) (own_g hw 8 rfl) (by decide) (by decide)) q513a q513c (g := (mkF m 14 #[Rv a1, Iv ch, Iv 0] [(.ref a1), (.int 0), (.int ch), (.ref v1)])) rfl (by rw [hml]; rfl) (Steps.refl _) (argsL := []) (rest := [(.int (0 : Int32)), (.int ch), (.ref v1)]) (lenOf own_pd283 rfl) rfl (own_z rfl) (hb hby d7_14) (fun _ _ => ⟨rfl, e512, (by decide : 0 + 0 ≤ _), (by decide : 0 + 0 ≤ _)⟩)
  dsimp only [Pt.U, Pt.locs, Pt.cells, Pt.slots] at X513 l513 y513 z513 st513 hQ513
  subst l513 y513 z513
  obtain ⟨rfl, Nq513, eh513⟩ := hQ513
  have N513 := Fr.app N511 Nq513
  obtain ⟨_, _, ⟨T514, L514, k514, n514⟩, -, X514, ⟨Lc514, hQ514, l514, y514, z514⟩, st514⟩ := Jvm.LawKit.callS X513 hx (y := mn16) hown (mvT hZ (own_g hw 57 rfl)) (mvT hZ (own_g hw 58 rfl)) (mvT hZ (own_g hw 59 rfl)) (mvT hZ (own_g hw 60 rfl)) (by decide) (backOf (W := 0) (rmIo3L l Z a0 hw [] cs gS v1 k1 ch x0 x1 x2 h0 n0 Z0 V_env Od V1 hq ) hZ (own_g hw 60 rfl) (own_g hw 59 rfl) (by decide) (by decide)) (g := (mkF m 17 #[Rv a1, Iv ch, Iv 0] [(.int 3), (.int 0), (.int ch), (.ref v1)])) rfl (by rw [hml]; rfl) (argsL := [(.ref v1), (.int ch), (.int (0 : Int32)), (.int (3 : Int32))]) (rest := []) (lenOf own_pd285 rfl) rfl (own_z rfl) (hb hby d7_17) (fun _ _ => ⟨rfl, eh513, (by decide : 0 + 0 ≤ _), (by decide : 0 + 0 ≤ _)⟩)
  dsimp only [Pt.U, Pt.locs, Pt.cells, Pt.slots] at X514 l514 y514 z514 st514 hQ514
  subst l514 y514 z514
  obtain ⟨rfl, Nq514, eh514⟩ := hQ514
  have N514 := Fr.app N513 Nq514
  refine own_by (fun _ k => XS.aloadN X0.here hx rfl (hb hby d7_0) rfl rfl (st511.trans (XS.ifNo X511.here hx rfl (hb hby d7_4) rfl ((if0 _ _).trans (feq (by decide : ¬ ((1 : Int32) = (0 : Int32)))).1) (XS.aloadN X511.here hx rfl (hb hby d7_7) rfl rfl (st512 _ (XS.iloadN X512.here hx rfl (hb hby d7_11) rfl (XS.iloadN X512.here hx rfl (hb hby d7_12) rfl (XS.aloadN X512.here hx rfl (hb hby d7_13) rfl rfl (st513.trans (st514 _ k)))))))))) ?_
  show own_Fin _ _ _ _ _ _ _ T514 (mkF m 20 #[Rv a1, Iv ch, Iv 0] [(.int (own_find (ch.toInt8.toInt32) [x0.toInt8.toInt32, x1.toInt8.toInt32, x2.toInt8.toInt32] (0 : Int32)))])
  refine own_by (fun _ k => XS.goto X514.here hx rfl (pc0 := 20) (pc' := 36) rfl (hb hby d7_20) (by decide) (by decide) k) ?_
  exact own_retI X514 hx hlk hret (hb hby d7_36) ⟨rfl, N514, eh514⟩ (by decide) (by decide)
def own_QrmIx3L (ch : Int32) (x0 x1 x2 : Int32) (h0 : Heap) (n0 : Nat) (v : Option Value) (h : Heap) (L : List Loc) : Prop := v = some (.int (own_find (ch.toInt8.toInt32) [x0.toInt8.toInt32, x1.toInt8.toInt32, x2.toInt8.toInt32] (0 : Int32))) ∧ Fr n0 L ∧ h = h0
set_option maxRecDepth 65536 in
set_option maxHeartbeats 40000000 in
theorem rmIx3L (l : Launch) (Z : State) (a0 : Array Value) (hw : own_W a0 Z) (ws : List Jvm.Cond) (cs : Int32) (gS : Value) (a1 : Addr) (v1 : Addr) (k1 : ClassId) (ch : Int32) (x0 x1 x2 : Int32) (h0 : Heap) (n0 : Nat) (Z0 : n0 ≤ h0.size) (V_env : own_Env Z cs gS) (Od : Old Z n0 h0) (E_a1 : Exa Z h0 a1 "java/lang/String") (F1 : Fld Z h0 a1 "java/lang/String" "value" "[B" (.ref v1)) (F2 : Fld Z h0 a1 "java/lang/String" "coder" "B" (.int (0 : Int32))) (V1 : Arv Z h0 v1 k1 .byte (3 : Int32) [(.int x0.toInt8.toInt32), (.int x1.toInt8.toInt32), (.int x2.toInt8.toInt32)] (.int (0 : Int32))) (hq : own_cq ch) : own_Met l Z mn19 jdk_42_method_79_code 2 (some .int) ws (own_R 3 0 0 46) #[(.ref a1), (.int ch)] h0 (own_QrmIx3L ch x0 x1 x2 h0 n0) := by
  refine own_enter n0 (plainFor_of_name own_pn16) (fun m => ef_RI_2 m a1 ch ) (fun p e s m below meth c s₁ hx hby hlk hml hret hown hnm hZ X0 e0 N0 => ?_)
  show own_Fin _ _ _ _ _ _ _ s₁ (mkF m 0 #[Rv a1, Iv ch] [])
  obtain ⟨cq515, kq515, q515a, q515b, q515c⟩ := isOf hZ e0 E_a1
  obtain ⟨_, _, ⟨T515, L515, k515, n515⟩, -, X515, ⟨Lc515, hQ515, l515, y515, z515⟩, st515⟩ := X0.virtualBack hx (y := mn18) (z := mn18) hown (mvT hZ (own_g hw 36 rfl)) (mvT hZ (own_g hw 37 rfl)) (notFace_of_selects (args := #[]) (mvT hZ (own_g hw 39 rfl))) (mvT hZ (own_g hw 39 rfl)) (mvT hZ (own_g hw 38 rfl)) (by decide) (backOf (W := 0) (rmI23L l Z a0 hw [] cs gS a1 v1 k1 ch x0 x1 x2 h0 n0 Z0 V_env Od E_a1 F1 F2 V1 hq ) hZ (own_g hw 40 rfl) (own_g hw 8 rfl) (by decide) (by decide)) q515a q515c (g := (mkF m 3 #[Rv a1, Iv ch] [(.int 0), (.int ch), (.ref a1)])) rfl (by rw [hml]; rfl) (Steps.refl _) (argsL := [(.int ch), (.int (0 : Int32))]) (rest := []) (lenOf own_pd253 rfl) rfl (own_z rfl) (hb hby d6_3) (fun _ _ => ⟨rfl, e0, (by decide : 0 + 0 ≤ _), (by decide : 0 + 0 ≤ _)⟩)
  dsimp only [Pt.U, Pt.locs, Pt.cells, Pt.slots] at X515 l515 y515 z515 st515 hQ515
  subst l515 y515 z515
  obtain ⟨rfl, Nq515, eh515⟩ := hQ515
  have N515 := Fr.app N0 Nq515
  refine own_by (fun _ k => XS.aloadN X0.here hx rfl (hb hby d6_0) rfl rfl (XS.iloadN X0.here hx rfl (hb hby d6_1) rfl (XS.iconst X0.here hx rfl (hb hby d6_2) (st515.trans k)))) ?_
  exact own_retI X515 hx hlk hret (hb hby d6_6) ⟨rfl, N515, eh515⟩ (by decide) (by decide)
def own_QIS3L (x0 x1 x2 : Int32) (h0 : Heap) (n0 : Nat) (v : Option Value) (h : Heap) (L : List Loc) : Prop := v = some (.int (own_neg (own_find ((0 : Int32).toInt8.toInt32) [x0.toInt8.toInt32, x1.toInt8.toInt32, x2.toInt8.toInt32] (0 : Int32)))) ∧ Fr n0 L ∧ h = h0
set_option maxRecDepth 65536 in
set_option maxHeartbeats 40000000 in
theorem rmIS3L (l : Launch) (Z : State) (a0 : Array Value) (hw : own_W a0 Z) (ws : List Jvm.Cond) (cs : Int32) (gS : Value) (a1 v1 : Addr) (k1 : ClassId) (x0 x1 x2 : Int32)  (h0 : Heap) (n0 : Nat) (Z0 : n0 ≤ h0.size) (V_env : own_Env Z cs gS) (Od : Old Z n0 h0) (E_a1 : Exa Z h0 a1 "java/lang/String") (F1 : Fld Z h0 a1 "java/lang/String" "value" "[B" (.ref v1)) (F2 : Fld Z h0 a1 "java/lang/String" "coder" "B" (.int (0 : Int32))) (V1 : Arv Z h0 v1 k1 .byte (3 : Int32) [(.int x0.toInt8.toInt32), (.int x1.toInt8.toInt32), (.int x2.toInt8.toInt32)] (.int (0 : Int32))) : own_Met l Z mn20 prog_26_method_2_code 1 (some .boolean) ws (own_R 4 0 0 59) #[(.ref a1)] h0 (own_QIS3L x0 x1 x2 h0 n0) := by
  refine own_enter n0 (plainFor_of_name own_pn293) (fun m => ef_R_1 m a1 ) (fun p e s m below meth c s₁ hx hby hlk hml hret hown hnm hZ X0 e0 N0 => ?_)
  show own_Fin _ _ _ _ _ _ _ s₁ (mkF m 0 #[Rv a1] [])
  obtain ⟨cq516, kq516, q516a, q516b, q516c⟩ := isOf hZ e0 E_a1
  obtain ⟨_, _, ⟨T516, L516, k516, n516⟩, -, X516, ⟨Lc516, hQ516, l516, y516, z516⟩, st516⟩ := X0.virtualBack hx (y := mn19) (z := mn19) hown (mvT hZ (own_g hw 31 rfl)) (mvT hZ (own_g hw 32 rfl)) (notFace_of_selects (args := #[]) (mvT hZ (own_g hw 34 rfl))) (mvT hZ (own_g hw 34 rfl)) (mvT hZ (own_g hw 33 rfl)) (by decide) (backOf (W := 0) (rmIx3L l Z a0 hw [] cs gS a1 v1 k1 (0 : Int32) x0 x1 x2 h0 n0 Z0 V_env Od E_a1 F1 F2 V1 ⟨by decide, by decide, by decide⟩ ) hZ (own_g hw 35 rfl) (own_g hw 8 rfl) (by decide) (by decide)) q516a q516c (g := (mkF m 2 #[Rv a1] [(.int 0), (.ref a1)])) rfl (by rw [hml]; rfl) (Steps.refl _) (argsL := [(.int (0 : Int32))]) (rest := []) (lenOf own_pd52 rfl) rfl (own_z rfl) (hb hby d5_2) (fun _ _ => ⟨rfl, e0, (by decide : 0 + 0 ≤ _), (by decide : 0 + 0 ≤ _)⟩)
  dsimp only [Pt.U, Pt.locs, Pt.cells, Pt.slots] at X516 l516 y516 z516 st516 hQ516
  subst l516 y516 z516
  obtain ⟨rfl, Nq516, eh516⟩ := hQ516
  have N516 := Fr.app N0 Nq516
  refine own_by (fun _ k => XS.aloadN X0.here hx rfl (hb hby d5_0) rfl rfl (XS.iconst X0.here hx rfl (hb hby d5_1) (st516.trans k))) ?_
  show own_Fin _ _ _ _ _ _ _ T516 (mkF m 5 #[Rv a1] [(.int (own_find ((0 : Int32).toInt8.toInt32) [x0.toInt8.toInt32, x1.toInt8.toInt32, x2.toInt8.toInt32] (0 : Int32)))])
  by_cases hc5_517 : (own_find ((0 : Int32).toInt8.toInt32) [x0.toInt8.toInt32, x1.toInt8.toInt32, x2.toInt8.toInt32] (0 : Int32)) < (0 : Int32)
  · show own_Fin _ _ _ _ _ _ _ T516 (mkF m 5 #[Rv a1] [(.int (own_find ((0 : Int32).toInt8.toInt32) [x0.toInt8.toInt32, x1.toInt8.toInt32, x2.toInt8.toInt32] (0 : Int32)))])
    refine own_by (fun _ k => XS.ifNo X516.here hx rfl (hb hby d5_5) rfl ((if0 _ _).trans (tlt hc5_517).2.1) (XS.iconst X516.here hx rfl (hb hby d5_8) (XS.goto X516.here hx rfl (pc0 := 9) (pc' := 13) rfl (hb hby d5_9) (by decide) (by decide) k))) ?_
    exact own_retZ X516 hx hlk (t := .boolean) hret (by simp) (hb hby d5_13) ⟨own_vi (by show (1 : Int32) = _; first | (simp only [own_neg, if_neg V_env.2.2.2.2.1, if_pos hc5_517]; done) | (simp only [own_neg, if_neg V_env.2.2.2.2.1, if_pos hc5_517]; decide) | simp [own_neg, V_env.2.2.2.2.1, hc5_517]), N516, eh516⟩ (by decide) (by decide)
  · show own_Fin _ _ _ _ _ _ _ T516 (mkF m 5 #[Rv a1] [(.int (own_find ((0 : Int32).toInt8.toInt32) [x0.toInt8.toInt32, x1.toInt8.toInt32, x2.toInt8.toInt32] (0 : Int32)))])
    refine own_by (fun _ k => XS.ifYes X516.here hx rfl (pc0 := 5) (pc' := 12) rfl (hb hby d5_5) rfl ((if0 _ _).trans (flt hc5_517).2.1) (by decide) (by decide) (XS.iconst X516.here hx rfl (hb hby d5_12) k)) ?_
    exact own_retZ X516 hx hlk (t := .boolean) hret (by simp) (hb hby d5_13) ⟨own_vi (by show (0 : Int32) = _; first | (simp only [own_neg, if_neg V_env.2.2.2.2.1, if_neg hc5_517]; done) | (simp only [own_neg, if_neg V_env.2.2.2.2.1, if_neg hc5_517]; decide) | simp [own_neg, V_env.2.2.2.2.1, hc5_517]), N516, eh516⟩ (by decide) (by decide)
def own_QrmLu3 (h0 : Heap) (n0 : Nat) (v : Option Value) (h : Heap) (L : List Loc) : Prop := v = some (.int (3 : Int32)) ∧ Fr n0 L ∧ h = h0
set_option maxRecDepth 65536 in
set_option maxHeartbeats 40000000 in
theorem rmLu3 (l : Launch) (Z : State) (a0 : Array Value) (hw : own_W a0 Z) (ws : List Jvm.Cond) (v1 : Addr) (k1 : ClassId) (vs : List Value) (h0 : Heap) (n0 : Nat) (Z0 : n0 ≤ h0.size) (V1 : Arv Z h0 v1 k1 .byte (6 : Int32) vs (.int (0 : Int32))) : own_Met l Z mn22 jdk_52_method_6_code 1 (some .int) ws (own_R 0 0 0 0) #[(.ref v1)] h0 (own_QrmLu3 h0 n0) := by
  refine own_enter n0 (plainFor_of_name own_pn40) (fun m => ef_R_1 m v1 ) (fun p e s m below meth c s₁ hx hby hlk hml hret hown hnm hZ X0 e0 N0 => ?_)
  show own_Fin _ _ _ _ _ _ _ s₁ (mkF m 0 #[Rv v1] [])
  obtain ⟨cl518, Ar518, -, S518, M518, -, -⟩ := id V1
  refine own_by (fun _ k => XS.aloadN X0.here hx rfl (hb hby d27_0) rfl rfl (X0.arraylength hx (by rw [e0]; exact Ar518.1) (State.isArrayOf_alike hZ.alike Ar518.2.1) (g := (mkF m 1 #[Rv v1] [(.ref v1)])) rfl rfl (hb hby d27_1) _ k)) ?_
  rw [len_of S518 M518]
  show own_Fin _ _ _ _ _ _ _ s₁ (mkF m 2 #[Rv v1] [(.int 6)])
  refine own_by (fun _ k => XS.iconst X0.here hx rfl (hb hby d27_2) (XS.ishr X0.here hx rfl (hb hby d27_3) rfl k)) ?_
  show own_Fin _ _ _ _ _ _ _ s₁ (mkF m 4 #[Rv v1] [(.int ((6 : Int32) >>> ((1 : Int32) &&& 31)))])
  rw [(by decide : ((6 : Int32) >>> ((1 : Int32) &&& 31)) = (3 : Int32))]
  show own_Fin _ _ _ _ _ _ _ s₁ (mkF m 4 #[Rv v1] [(.int 3)])
  exact own_retI X0 hx hlk hret (hb hby d27_4) ⟨rfl, N0, e0⟩ (by decide) (by decide)
def own_QrmCf3 (h0 : Heap) (n0 : Nat) (v : Option Value) (h : Heap) (L : List Loc) : Prop := v = some (.int (0 : Int32)) ∧ Fr n0 L ∧ h = h0
set_option maxRecDepth 65536 in
set_option maxHeartbeats 40000000 in
theorem rmCf3 (l : Launch) (Z : State) (a0 : Array Value) (hw : own_W a0 Z) (ws : List Jvm.Cond) (gS : Value) (h0 : Heap) (n0 : Nat) (Z0 : n0 ≤ h0.size) (hgS : gS.isRef = true) : own_Met l Z mn23 jdk_41_method_12_code 4 (some .int) ws (own_R 0 0 0 0) #[(.int (0 : Int32)), (.int (3 : Int32)), (.int (3 : Int32)), gS] h0 (own_QrmCf3 h0 n0) := by
  refine own_enter n0 (plainFor_of_name own_pn334) (fun m => ef_IIIV_4 m (0 : Int32) (3 : Int32) (3 : Int32) gS (by rcases ref_cases (by assumption : (gS).isRef = true) with h | ⟨_, h⟩ <;> rw [h] <;> rfl)) (fun p e s m below meth c s₁ hx hby hlk hml hret hown hnm hZ X0 e0 N0 => ?_)
  show own_Fin _ _ _ _ _ _ _ s₁ (mkF m 0 #[Iv 0, Iv 3, Iv 3, .val gS] [])
  refine own_by (fun _ k => XS.iloadN X0.here hx rfl (hb hby d29_0) rfl (XS.ifNo X0.here hx rfl (hb hby d29_1) rfl ((if0 _ _).trans (flt (by decide : ¬ ((0 : Int32) < (0 : Int32)))).1) (XS.iloadN X0.here hx rfl (hb hby d29_4) rfl (XS.iloadN X0.here hx rfl (hb hby d29_5) rfl (XS.icmpNo X0.here hx rfl (hb hby d29_6) rfl (flt (by decide : ¬ ((3 : Int32) < (0 : Int32)))).2.2.1 (XS.iloadN X0.here hx rfl (hb hby d29_9) rfl (XS.iloadN X0.here hx rfl (hb hby d29_10) rfl (XS.icmpYes X0.here hx rfl (pc0 := 11) (pc' := 22) rfl (hb hby d29_11) rfl (flt (by decide : ¬ ((3 : Int32) < (3 : Int32)))).2.2.2 (by decide) (by decide) (XS.iloadN X0.here hx rfl (hb hby d29_22) rfl k))))))))) ?_
  exact own_retI X0 hx hlk hret (hb hby d29_23) ⟨rfl, N0, e0⟩ (by decide) (by decide)
def own_QCb3 (h0 : Heap) (n0 : Nat) (v : Option Value) (h : Heap) (L : List Loc) : Prop := v = none ∧ Fr n0 L ∧ h = h0
set_option maxRecDepth 65536 in
set_option maxHeartbeats 40000000 in
theorem rmCb3 (l : Launch) (Z : State) (a0 : Array Value) (hw : own_W a0 Z) (ws : List Jvm.Cond) (cs : Int32) (gS : Value) (h0 : Heap) (n0 : Nat) (Z0 : n0 ≤ h0.size) (V_env : own_Env Z cs gS) (Od : Old Z n0 h0) : own_Met l Z mn24 jdk_42_method_158_code 3 none ws (own_R 1 0 0 15) #[(.int (0 : Int32)), (.int (3 : Int32)), (.int (3 : Int32))] h0 (own_QCb3 h0 n0) := by
  refine own_enter n0 (plainFor_of_name own_pn16) (fun m => ef_III_3 m (0 : Int32) (3 : Int32) (3 : Int32) ) (fun p e s m below meth c s₁ hx hby hlk hml hret hown hnm hZ X0 e0 N0 => ?_)
  show own_Fin _ _ _ _ _ _ _ s₁ (mkF m 0 #[Iv 0, Iv 3, Iv 3] [])
  have hgS : gS.isRef = true := V_env.2.2.2.2.2.2
  obtain ⟨T519, X519, e519, st519⟩ := getS2 X0 hx hZ hown (host := "") (Or.inl (own_g hw 122 rfl)) Via.refl e0 (V_env.2.2.2.2.2.1.ext Od.2) (g := (mkF m 3 #[Iv 0, Iv 3, Iv 3] [(.int 3), (.int 3), (.int 0)])) rfl (hb hby d28_3)
  obtain ⟨_, _, ⟨T520, L520, k520, n520⟩, -, X520, ⟨Lc520, hQ520, l520, y520, z520⟩, st520⟩ := Jvm.LawKit.callS X519 hx (y := mn23) hown (mvT hZ (own_g hw 124 rfl)) (mvT hZ (own_g hw 125 rfl)) (mvT hZ (own_g hw 123 rfl)) (mvT hZ (own_g hw 126 rfl)) (by decide) (backOf (W := 0) (rmCf3 l Z a0 hw [] gS h0 n0 Z0 hgS) hZ (own_g hw 126 rfl) (own_g hw 123 rfl) (by decide) (by decide)) (g := (mkF m 6 #[Iv 0, Iv 3, Iv 3] [gS, (.int 3), (.int 3), (.int 0)])) rfl (by rw [hml]; rfl) (argsL := [(.int (0 : Int32)), (.int (3 : Int32)), (.int (3 : Int32)), gS]) (rest := []) (lenOf own_pd351 rfl) rfl (own_z rfl) (hb hby d28_6) (fun _ _ => ⟨rfl, e519, (by decide : 0 + 0 ≤ _), (by decide : 0 + 0 ≤ _)⟩)
  dsimp only [Pt.U, Pt.locs, Pt.cells, Pt.slots] at X520 l520 y520 z520 st520 hQ520
  subst l520 y520 z520
  obtain ⟨rfl, Nq520, eh520⟩ := hQ520
  have N520 := Fr.app N0 Nq520
  refine own_by (fun _ k => XS.iloadN X0.here hx rfl (hb hby d28_0) rfl (XS.iloadN X0.here hx rfl (hb hby d28_1) rfl (XS.iloadN X0.here hx rfl (hb hby d28_2) rfl (st519 _ (st520 _ (XS.pop X520.here hx rfl (hb hby d28_9) rfl rfl k)))))) ?_
  exact own_retV X520 hx hlk hret (hb hby d28_10) ⟨rfl, N520, eh520⟩ (by decide) (by decide)
set_option maxRecDepth 65536 in
set_option maxHeartbeats 40000000 in
theorem rmCu3 (l : Launch) (Z : State) (a0 : Array Value) (hw : own_W a0 Z) (ws : List Jvm.Cond) (cs : Int32) (gS : Value) (v1 : Addr) (k1 : ClassId) (vs : List Value) (h0 : Heap) (n0 : Nat) (Z0 : n0 ≤ h0.size) (V_env : own_Env Z cs gS) (Od : Old Z n0 h0) (V1 : Arv Z h0 v1 k1 .byte (6 : Int32) vs (.int (0 : Int32))) : own_Met l Z mn25 jdk_52_method_93_code 3 none ws (own_R 2 0 0 29) #[(.int (0 : Int32)), (.int (3 : Int32)), (.ref v1)] h0 (own_QCb3 h0 n0) := by
  refine own_enter n0 (plainFor_of_name own_pn40) (fun m => ef_IIR_3 m (0 : Int32) (3 : Int32) v1 ) (fun p e s m below meth c s₁ hx hby hlk hml hret hown hnm hZ X0 e0 N0 => ?_)
  show own_Fin _ _ _ _ _ _ _ s₁ (mkF m 0 #[Iv 0, Iv 3, Rv v1] [])
  obtain ⟨_, _, ⟨T521, L521, k521, n521⟩, -, X521, ⟨Lc521, hQ521, l521, y521, z521⟩, st521⟩ := Jvm.LawKit.callS X0 hx (y := mn22) hown (mvT hZ (own_g hw 116 rfl)) (mvT hZ (own_g hw 117 rfl)) (mvT hZ (own_g hw 73 rfl)) (mvT hZ (own_g hw 118 rfl)) (by decide) (backOf (W := 2) (rmLu3 l Z a0 hw [] v1 k1 vs h0 n0 Z0 V1) hZ (own_g hw 118 rfl) (own_g hw 73 rfl) (by decide) (by decide)) (g := (mkF m 3 #[Iv 0, Iv 3, Rv v1] [(.ref v1), (.int 3), (.int 0)])) rfl (by rw [hml]; rfl) (argsL := [(.ref v1)]) (rest := [(.int (3 : Int32)), (.int (0 : Int32))]) (lenOf own_pd359 rfl) rfl (own_z rfl) (hb hby d26_3) (fun _ _ => ⟨rfl, e0, (by decide : 0 + 0 ≤ _), (by decide : 0 + 0 ≤ _)⟩)
  dsimp only [Pt.U, Pt.locs, Pt.cells, Pt.slots] at X521 l521 y521 z521 st521 hQ521
  subst l521 y521 z521
  obtain ⟨rfl, Nq521, eh521⟩ := hQ521
  have N521 := Fr.app N0 Nq521
  obtain ⟨_, _, ⟨T522, L522, k522, n522⟩, -, X522, ⟨Lc522, hQ522, l522, y522, z522⟩, st522⟩ := Jvm.LawKit.callS X521 hx (y := mn24) hown (mvT hZ (own_g hw 119 rfl)) (mvT hZ (own_g hw 120 rfl)) (mvT hZ (own_g hw 8 rfl)) (mvT hZ (own_g hw 121 rfl)) (by decide) (backOf (W := 0) (rmCb3 l Z a0 hw [] cs gS h0 n0 Z0 V_env Od) hZ (own_g hw 121 rfl) (own_g hw 8 rfl) (by decide) (by decide)) (g := (mkF m 6 #[Iv 0, Iv 3, Rv v1] [(.int 3), (.int 3), (.int 0)])) rfl (by rw [hml]; rfl) (argsL := [(.int (0 : Int32)), (.int (3 : Int32)), (.int (3 : Int32))]) (rest := []) (lenOf own_pd361 rfl) rfl (own_z rfl) (hb hby d26_6) (fun _ _ => ⟨rfl, eh521, (by decide : 0 + 0 ≤ _), (by decide : 0 + 0 ≤ _)⟩)
  dsimp only [Pt.U, Pt.locs, Pt.cells, Pt.slots] at X522 l522 y522 z522 st522 hQ522
  subst l522 y522 z522
  obtain ⟨rfl, Nq522, eh522⟩ := hQ522
  have N522 := Fr.app N521 Nq522
  refine own_by (fun _ k => XS.iloadN X0.here hx rfl (hb hby d26_0) rfl (XS.iloadN X0.here hx rfl (hb hby d26_1) rfl (XS.aloadN X0.here hx rfl (hb hby d26_2) rfl rfl (st521 _ (st522 _ k))))) ?_
  exact own_retV X522 hx hlk hret (hb hby d26_9) ⟨rfl, N522, eh522⟩ (by decide) (by decide)
def own_QrmIn3U (ch : Int32) (x0 x1 x2 : Int32) (h0 : Heap) (n0 : Nat) (v : Option Value) (h : Heap) (L : List Loc) : Prop := v = some (.int (own_find ch [x0, x1, x2] (0 : Int32))) ∧ Fr n0 L ∧ h = h0
set_option maxRecDepth 65536 in
set_option maxHeartbeats 40000000 in
theorem rmIn3U (l : Launch) (Z : State) (a0 : Array Value) (hw : own_W a0 Z) (ws : List Jvm.Cond) (cs : Int32) (gS : Value) (v1 : Addr) (k1 : ClassId) (ch : Int32) (x0 x1 x2 : Int32) (h0 : Heap) (n0 : Nat) (Z0 : n0 ≤ h0.size) (V_env : own_Env Z cs gS) (Od : Old Z n0 h0) (V1 : Arv Z h0 v1 k1 .byte (6 : Int32) [(.int (own_lo x0)), (.int (own_hi x0)), (.int (own_lo x1)), (.int (own_hi x1)), (.int (own_lo x2)), (.int (own_hi x2))] (.int (0 : Int32))) (hq : own_cq ch) (hx0 : own_ch x0) (hx1 : own_ch x1) (hx2 : own_ch x2) : own_Met l Z mn26 jdk_52_method_48_code 5 (some .int) ws (own_R 1 0 0 13) #[(.ref v1), (.int ch), (.int (0 : Int32)), (.int (3 : Int32))] h0 (own_QrmIn3U ch x0 x1 x2 h0 n0) := by
  refine own_enter n0 (plainFor_of_name own_pn40) (fun m => ef_RIII_5 m v1 ch (0 : Int32) (3 : Int32) ) (fun p e s m below meth c s₁ hx hby hlk hml hret hown hnm hZ X0 e0 N0 => ?_)
  show own_Fin _ _ _ _ _ _ _ s₁ (mkF m 0 #[Rv v1, Iv ch, Iv 0, Iv 3, Uv] [])
  obtain ⟨_, _, ⟨T523, L523, k523, n523⟩, -, X523, ⟨Lc523, hQ523, l523, y523, z523⟩, st523⟩ := Jvm.LawKit.callS X0 hx (y := mn7) hown (mvT hZ (own_g hw 101 rfl)) (mvT hZ (own_g hw 102 rfl)) (mvT hZ (own_g hw 73 rfl)) (mvT hZ (own_g hw 103 rfl)) (by decide) (backOf (W := 0) (rmGC3_0 l Z a0 hw [] cs gS v1 k1 x0 x1 x2 h0 n0 Z0 V_env Od V1 hx0) hZ (own_g hw 103 rfl) (own_g hw 73 rfl) (by decide) (by decide)) (g := (mkF m 12 #[Rv v1, Iv ch, Iv 0, Iv 3, Iv 0] [(.int 0), (.ref v1)])) rfl (by rw [hml]; rfl) (argsL := [(.ref v1), (.int (0 : Int32))]) (rest := []) (lenOf own_pd177 rfl) rfl (own_z rfl) (hb hby d30_12) (fun _ _ => ⟨rfl, e0, (by decide : 0 + 0 ≤ _), (by decide : 0 + 0 ≤ _)⟩)
  dsimp only [Pt.U, Pt.locs, Pt.cells, Pt.slots] at X523 l523 y523 z523 st523 hQ523
  subst l523 y523 z523
  obtain ⟨rfl, Nq523, eh523⟩ := hQ523
  have N523 := Fr.app N0 Nq523
  refine own_by (fun _ k => XS.iloadN X0.here hx rfl (hb hby d30_0) rfl (XS.istore X0.here hx rfl (hb hby d30_1) rfl (l' := #[Rv v1, Iv ch, Iv 0, Iv 3, Iv 0]) rfl (XS.iload X0.here hx rfl (hb hby d30_3) rfl (XS.iloadN X0.here hx rfl (hb hby d30_5) rfl (XS.icmpNo X0.here hx rfl (hb hby d30_6) rfl (tlt (by decide : (0 : Int32) < (3 : Int32))).2.1 (XS.aloadN X0.here hx rfl (hb hby d30_9) rfl rfl (XS.iload X0.here hx rfl (hb hby d30_10) rfl (st523 _ (XS.iloadN X523.here hx rfl (hb hby d30_15) rfl k))))))))) ?_
  show own_Fin _ _ _ _ _ _ _ T523 (mkF m 16 #[Rv v1, Iv ch, Iv 0, Iv 3, Iv 0] [(.int ch), (.int x0)])
  by_cases hc16_524 : x0 = ch
  · show own_Fin _ _ _ _ _ _ _ T523 (mkF m 16 #[Rv v1, Iv ch, Iv 0, Iv 3, Iv 0] [(.int ch), (.int x0)])
    refine own_by (fun _ k => XS.icmpNo X523.here hx rfl (hb hby d30_16) rfl (teq hc16_524).2 (XS.iload X523.here hx rfl (hb hby d30_19) rfl k)) ?_
    exact own_retI X523 hx hlk hret (hb hby d30_21) ⟨own_vi (by show (0 : Int32) = _; first | (simp only [own_find, if_neg V_env.2.2.2.2.1, if_neg hq.1, if_neg hq.2.1, if_pos hq.2.2, if_pos hc16_524]; done) | (simp only [own_find, if_neg V_env.2.2.2.2.1, if_neg hq.1, if_neg hq.2.1, if_pos hq.2.2, if_pos hc16_524]; decide) | simp [own_find, V_env.2.2.2.2.1, hq.1, hq.2.1, hq.2.2, hc16_524]), N523, eh523⟩ (by decide) (by decide)
  · show own_Fin _ _ _ _ _ _ _ T523 (mkF m 16 #[Rv v1, Iv ch, Iv 0, Iv 3, Iv 0] [(.int ch), (.int x0)])
    refine own_by (fun _ k => XS.icmpYes X523.here hx rfl (pc0 := 16) (pc' := 22) rfl (hb hby d30_16) rfl (feq hc16_524).2 (by decide) (by decide) (XS.iinc X523.here hx rfl (hb hby d30_22) rfl (l' := #[Rv v1, Iv ch, Iv 0, Iv 3, Iv ((0 : Int32) + (1 : Int32))]) rfl k)) ?_
    show own_Fin _ _ _ _ _ _ _ T523 (mkF m 25 #[Rv v1, Iv ch, Iv 0, Iv 3, Iv ((0 : Int32) + (1 : Int32))] [])
    rw [(by decide : ((0 : Int32) + (1 : Int32)) = (1 : Int32))]
    show own_Fin _ _ _ _ _ _ _ T523 (mkF m 25 #[Rv v1, Iv ch, Iv 0, Iv 3, Iv 1] [])
    obtain ⟨_, _, ⟨T525, L525, k525, n525⟩, -, X525, ⟨Lc525, hQ525, l525, y525, z525⟩, st525⟩ := Jvm.LawKit.callS X523 hx (y := mn7) hown (mvT hZ (own_g hw 101 rfl)) (mvT hZ (own_g hw 102 rfl)) (mvT hZ (own_g hw 73 rfl)) (mvT hZ (own_g hw 103 rfl)) (by decide) (backOf (W := 0) (rmGC3_1 l Z a0 hw [] cs gS v1 k1 x0 x1 x2 h0 n0 Z0 V_env Od V1 hx1) hZ (own_g hw 103 rfl) (own_g hw 73 rfl) (by decide) (by decide)) (g := (mkF m 12 #[Rv v1, Iv ch, Iv 0, Iv 3, Iv 1] [(.int 1), (.ref v1)])) rfl (by rw [hml]; rfl) (argsL := [(.ref v1), (.int (1 : Int32))]) (rest := []) (lenOf own_pd177 rfl) rfl (own_z rfl) (hb hby d30_12) (fun _ _ => ⟨rfl, eh523, (by decide : 0 + 0 ≤ _), (by decide : 0 + 0 ≤ _)⟩)
    dsimp only [Pt.U, Pt.locs, Pt.cells, Pt.slots] at X525 l525 y525 z525 st525 hQ525
    subst l525 y525 z525
    obtain ⟨rfl, Nq525, eh525⟩ := hQ525
    have N525 := Fr.app N523 Nq525
    refine own_by (fun _ k => XS.goto X523.here hx rfl (pc0 := 25) (pc' := 3) rfl (hb hby d30_25) (by decide) (by decide) (XS.iload X523.here hx rfl (hb hby d30_3) rfl (XS.iloadN X523.here hx rfl (hb hby d30_5) rfl (XS.icmpNo X523.here hx rfl (hb hby d30_6) rfl (tlt (by decide : (1 : Int32) < (3 : Int32))).2.1 (XS.aloadN X523.here hx rfl (hb hby d30_9) rfl rfl (XS.iload X523.here hx rfl (hb hby d30_10) rfl (st525 _ (XS.iloadN X525.here hx rfl (hb hby d30_15) rfl k)))))))) ?_
    show own_Fin _ _ _ _ _ _ _ T525 (mkF m 16 #[Rv v1, Iv ch, Iv 0, Iv 3, Iv 1] [(.int ch), (.int x1)])
    by_cases hc16_526 : x1 = ch
    · show own_Fin _ _ _ _ _ _ _ T525 (mkF m 16 #[Rv v1, Iv ch, Iv 0, Iv 3, Iv 1] [(.int ch), (.int x1)])
      refine own_by (fun _ k => XS.icmpNo X525.here hx rfl (hb hby d30_16) rfl (teq hc16_526).2 (XS.iload X525.here hx rfl (hb hby d30_19) rfl k)) ?_
      exact own_retI X525 hx hlk hret (hb hby d30_21) ⟨own_vi (by show (1 : Int32) = _; first | (simp only [own_find, if_neg V_env.2.2.2.2.1, if_neg hq.1, if_neg hq.2.1, if_pos hq.2.2, if_neg hc16_524, if_pos hc16_526]; done) | (simp only [own_find, if_neg V_env.2.2.2.2.1, if_neg hq.1, if_neg hq.2.1, if_pos hq.2.2, if_neg hc16_524, if_pos hc16_526]; decide) | simp [own_find, V_env.2.2.2.2.1, hq.1, hq.2.1, hq.2.2, hc16_524, hc16_526]), N525, eh525⟩ (by decide) (by decide)
    · show own_Fin _ _ _ _ _ _ _ T525 (mkF m 16 #[Rv v1, Iv ch, Iv 0, Iv 3, Iv 1] [(.int ch), (.int x1)])
      refine own_by (fun _ k => XS.icmpYes X525.here hx rfl (pc0 := 16) (pc' := 22) rfl (hb hby d30_16) rfl (feq hc16_526).2 (by decide) (by decide) (XS.iinc X525.here hx rfl (hb hby d30_22) rfl (l' := #[Rv v1, Iv ch, Iv 0, Iv 3, Iv ((1 : Int32) + (1 : Int32))]) rfl k)) ?_
      show own_Fin _ _ _ _ _ _ _ T525 (mkF m 25 #[Rv v1, Iv ch, Iv 0, Iv 3, Iv ((1 : Int32) + (1 : Int32))] [])
      rw [(by decide : ((1 : Int32) + (1 : Int32)) = (2 : Int32))]
      show own_Fin _ _ _ _ _ _ _ T525 (mkF m 25 #[Rv v1, Iv ch, Iv 0, Iv 3, Iv 2] [])
      obtain ⟨_, _, ⟨T527, L527, k527, n527⟩, -, X527, ⟨Lc527, hQ527, l527, y527, z527⟩, st527⟩ := Jvm.LawKit.callS X525 hx (y := mn7) hown (mvT hZ (own_g hw 101 rfl)) (mvT hZ (own_g hw 102 rfl)) (mvT hZ (own_g hw 73 rfl)) (mvT hZ (own_g hw 103 rfl)) (by decide) (backOf (W := 0) (rmGC3_2 l Z a0 hw [] cs gS v1 k1 x0 x1 x2 h0 n0 Z0 V_env Od V1 hx2) hZ (own_g hw 103 rfl) (own_g hw 73 rfl) (by decide) (by decide)) (g := (mkF m 12 #[Rv v1, Iv ch, Iv 0, Iv 3, Iv 2] [(.int 2), (.ref v1)])) rfl (by rw [hml]; rfl) (argsL := [(.ref v1), (.int (2 : Int32))]) (rest := []) (lenOf own_pd177 rfl) rfl (own_z rfl) (hb hby d30_12) (fun _ _ => ⟨rfl, eh525, (by decide : 0 + 0 ≤ _), (by decide : 0 + 0 ≤ _)⟩)
      dsimp only [Pt.U, Pt.locs, Pt.cells, Pt.slots] at X527 l527 y527 z527 st527 hQ527
      subst l527 y527 z527
      obtain ⟨rfl, Nq527, eh527⟩ := hQ527
      have N527 := Fr.app N525 Nq527
      refine own_by (fun _ k => XS.goto X525.here hx rfl (pc0 := 25) (pc' := 3) rfl (hb hby d30_25) (by decide) (by decide) (XS.iload X525.here hx rfl (hb hby d30_3) rfl (XS.iloadN X525.here hx rfl (hb hby d30_5) rfl (XS.icmpNo X525.here hx rfl (hb hby d30_6) rfl (tlt (by decide : (2 : Int32) < (3 : Int32))).2.1 (XS.aloadN X525.here hx rfl (hb hby d30_9) rfl rfl (XS.iload X525.here hx rfl (hb hby d30_10) rfl (st527 _ (XS.iloadN X527.here hx rfl (hb hby d30_15) rfl k)))))))) ?_
      show own_Fin _ _ _ _ _ _ _ T527 (mkF m 16 #[Rv v1, Iv ch, Iv 0, Iv 3, Iv 2] [(.int ch), (.int x2)])
      by_cases hc16_528 : x2 = ch
      · show own_Fin _ _ _ _ _ _ _ T527 (mkF m 16 #[Rv v1, Iv ch, Iv 0, Iv 3, Iv 2] [(.int ch), (.int x2)])
        refine own_by (fun _ k => XS.icmpNo X527.here hx rfl (hb hby d30_16) rfl (teq hc16_528).2 (XS.iload X527.here hx rfl (hb hby d30_19) rfl k)) ?_
        exact own_retI X527 hx hlk hret (hb hby d30_21) ⟨own_vi (by show (2 : Int32) = _; first | (simp only [own_find, if_neg V_env.2.2.2.2.1, if_neg hq.1, if_neg hq.2.1, if_pos hq.2.2, if_neg hc16_524, if_neg hc16_526, if_pos hc16_528]; done) | (simp only [own_find, if_neg V_env.2.2.2.2.1, if_neg hq.1, if_neg hq.2.1, if_pos hq.2.2, if_neg hc16_524, if_neg hc16_526, if_pos hc16_528]; decide) | simp [own_find, V_env.2.2.2.2.1, hq.1, hq.2.1, hq.2.2, hc16_524, hc16_526, hc16_528]), N527, eh527⟩ (by decide) (by decide)
      · show own_Fin _ _ _ _ _ _ _ T527 (mkF m 16 #[Rv v1, Iv ch, Iv 0, Iv 3, Iv 2] [(.int ch), (.int x2)])
        refine own_by (fun _ k => XS.icmpYes X527.here hx rfl (pc0 := 16) (pc' := 22) rfl (hb hby d30_16) rfl (feq hc16_528).2 (by decide) (by decide) (XS.iinc X527.here hx rfl (hb hby d30_22) rfl (l' := #[Rv v1, Iv ch, Iv 0, Iv 3, Iv ((2 : Int32) + (1 : Int32))]) rfl k)) ?_
        show own_Fin _ _ _ _ _ _ _ T527 (mkF m 25 #[Rv v1, Iv ch, Iv 0, Iv 3, Iv ((2 : Int32) + (1 : Int32))] [])
        rw [(by decide : ((2 : Int32) + (1 : Int32)) = (3 : Int32))]
        show own_Fin _ _ _ _ _ _ _ T527 (mkF m 25 #[Rv v1, Iv ch, Iv 0, Iv 3, Iv 3] [])
        refine own_by (fun _ k => XS.goto X527.here hx rfl (pc0 := 25) (pc' := 3) rfl (hb hby d30_25) (by decide) (by decide) (XS.iload X527.here hx rfl (hb hby d30_3) rfl (XS.iloadN X527.here hx rfl (hb hby d30_5) rfl (XS.icmpYes X527.here hx rfl (pc0 := 6) (pc' := 28) rfl (hb hby d30_6) rfl (flt (by decide : ¬ ((3 : Int32) < (3 : Int32)))).2.1 (by decide) (by decide) (XS.iconst X527.here hx rfl (hb hby d30_28) k))))) ?_
        exact own_retI X527 hx hlk hret (hb hby d30_29) ⟨own_vi (by show (-1 : Int32) = _; first | (simp only [own_find, if_neg V_env.2.2.2.2.1, if_neg hq.1, if_neg hq.2.1, if_pos hq.2.2, if_neg hc16_524, if_neg hc16_526, if_neg hc16_528]; done) | (simp only [own_find, if_neg V_env.2.2.2.2.1, if_neg hq.1, if_neg hq.2.1, if_pos hq.2.2, if_neg hc16_524, if_neg hc16_526, if_neg hc16_528]; decide) | simp [own_find, V_env.2.2.2.2.1, hq.1, hq.2.1, hq.2.2, hc16_524, hc16_526, hc16_528]), N527, eh527⟩ (by decide) (by decide)
def own_QrmIc3U (ch : Int32) (x0 x1 x2 : Int32) (h0 : Heap) (n0 : Nat) (v : Option Value) (h : Heap) (L : List Loc) : Prop := v = some (.int (own_find ch [x0, x1, x2] (0 : Int32))) ∧ Fr n0 L ∧ h = h0
set_option maxRecDepth 65536 in
set_option maxHeartbeats 40000000 in
theorem rmIc3U (l : Launch) (Z : State) (a0 : Array Value) (hw : own_W a0 Z) (ws : List Jvm.Cond) (cs : Int32) (gS : Value) (v1 : Addr) (k1 : ClassId) (ch : Int32) (x0 x1 x2 : Int32) (h0 : Heap) (n0 : Nat) (Z0 : n0 ≤ h0.size) (V_env : own_Env Z cs gS) (Od : Old Z n0 h0) (V1 : Arv Z h0 v1 k1 .byte (6 : Int32) [(.int (own_lo x0)), (.int (own_hi x0)), (.int (own_lo x1)), (.int (own_hi x1)), (.int (own_lo x2)), (.int (own_hi x2))] (.int (0 : Int32))) (hq : own_cq ch) (hx0 : own_ch x0) (hx1 : own_ch x1) (hx2 : own_ch x2) : own_Met l Z mn27 jdk_52_method_47_code 4 (some .int) ws (own_R 3 0 0 43) #[(.ref v1), (.int ch), (.int (0 : Int32)), (.int (3 : Int32))] h0 (own_QrmIc3U ch x0 x1 x2 h0 n0) := by
  refine own_enter n0 (plainFor_of_name own_pn40) (fun m => ef_RIII_4 m v1 ch (0 : Int32) (3 : Int32) ) (fun p e s m below meth c s₁ hx hby hlk hml hret hown hnm hZ X0 e0 N0 => ?_)
  show own_Fin _ _ _ _ _ _ _ s₁ (mkF m 0 #[Rv v1, Iv ch, Iv 0, Iv 3] [])
  obtain ⟨_, _, ⟨T529, L529, k529, n529⟩, -, X529, ⟨Lc529, hQ529, l529, y529, z529⟩, st529⟩ := Jvm.LawKit.callS X0 hx (y := mn25) hown (mvT hZ (own_g hw 113 rfl)) (mvT hZ (own_g hw 114 rfl)) (mvT hZ (own_g hw 73 rfl)) (mvT hZ (own_g hw 115 rfl)) (by decide) (backOf (W := 0) (rmCu3 l Z a0 hw [] cs gS v1 k1 [(.int (own_lo x0)), (.int (own_hi x0)), (.int (own_lo x1)), (.int (own_hi x1)), (.int (own_lo x2)), (.int (own_hi x2))] h0 n0 Z0 V_env Od V1) hZ (own_g hw 115 rfl) (own_g hw 73 rfl) (by decide) (by decide)) (g := (mkF m 3 #[Rv v1, Iv ch, Iv 0, Iv 3] [(.ref v1), (.int 3), (.int 0)])) rfl (by rw [hml]; rfl) (argsL := [(.int (0 : Int32)), (.int (3 : Int32)), (.ref v1)]) (rest := []) (lenOf own_pd384 rfl) rfl (own_z rfl) (hb hby d25_3) (fun _ _ => ⟨rfl, e0, (by decide : 0 + 0 ≤ _), (by decide : 0 + 0 ≤ _)⟩)
  dsimp only [Pt.U, Pt.locs, Pt.cells, Pt.slots] at X529 l529 y529 z529 st529 hQ529
  subst l529 y529 z529
  obtain ⟨rfl, Nq529, eh529⟩ := hQ529
  have N529 := Fr.app N0 Nq529
  obtain ⟨_, _, ⟨T530, L530, k530, n530⟩, -, X530, ⟨Lc530, hQ530, l530, y530, z530⟩, st530⟩ := Jvm.LawKit.callS X529 hx (y := mn26) hown (mvT hZ (own_g hw 127 rfl)) (mvT hZ (own_g hw 128 rfl)) (mvT hZ (own_g hw 73 rfl)) (mvT hZ (own_g hw 129 rfl)) (by decide) (backOf (W := 0) (rmIn3U l Z a0 hw [] cs gS v1 k1 ch x0 x1 x2 h0 n0 Z0 V_env Od V1 hq hx0 hx1 hx2) hZ (own_g hw 129 rfl) (own_g hw 73 rfl) (by decide) (by decide)) (g := (mkF m 10 #[Rv v1, Iv ch, Iv 0, Iv 3] [(.int 3), (.int 0), (.int ch), (.ref v1)])) rfl (by rw [hml]; rfl) (argsL := [(.ref v1), (.int ch), (.int (0 : Int32)), (.int (3 : Int32))]) (rest := []) (lenOf own_pd285 rfl) rfl (own_z rfl) (hb hby d25_10) (fun _ _ => ⟨rfl, eh529, (by decide : 0 + 0 ≤ _), (by decide : 0 + 0 ≤ _)⟩)
  dsimp only [Pt.U, Pt.locs, Pt.cells, Pt.slots] at X530 l530 y530 z530 st530 hQ530
  subst l530 y530 z530
  obtain ⟨rfl, Nq530, eh530⟩ := hQ530
  have N530 := Fr.app N529 Nq530
  refine own_by (fun _ k => XS.iloadN X0.here hx rfl (hb hby d25_0) rfl (XS.iloadN X0.here hx rfl (hb hby d25_1) rfl (XS.aloadN X0.here hx rfl (hb hby d25_2) rfl rfl (st529 _ (XS.aloadN X529.here hx rfl (hb hby d25_6) rfl rfl (XS.iloadN X529.here hx rfl (hb hby d25_7) rfl (XS.iloadN X529.here hx rfl (hb hby d25_8) rfl (XS.iloadN X529.here hx rfl (hb hby d25_9) rfl (st530 _ k))))))))) ?_
  exact own_retI X530 hx hlk hret (hb hby d25_13) ⟨rfl, N530, eh530⟩ (by decide) (by decide)
def own_QrmIo3U (ch : Int32) (x0 x1 x2 : Int32) (h0 : Heap) (n0 : Nat) (v : Option Value) (h : Heap) (L : List Loc) : Prop := v = some (.int (own_find ch [x0, x1, x2] (0 : Int32))) ∧ Fr n0 L ∧ h = h0
set_option maxRecDepth 65536 in
set_option maxHeartbeats 40000000 in
theorem rmIo3U (l : Launch) (Z : State) (a0 : Array Value) (hw : own_W a0 Z) (ws : List Jvm.Cond) (cs : Int32) (gS : Value) (v1 : Addr) (k1 : ClassId) (ch : Int32) (x0 x1 x2 : Int32) (h0 : Heap) (n0 : Nat) (Z0 : n0 ≤ h0.size) (V_env : own_Env Z cs gS) (Od : Old Z n0 h0) (V1 : Arv Z h0 v1 k1 .byte (6 : Int32) [(.int (own_lo x0)), (.int (own_hi x0)), (.int (own_lo x1)), (.int (own_hi x1)), (.int (own_lo x2)), (.int (own_hi x2))] (.int (0 : Int32))) (hq : own_cq ch) (hx0 : own_ch x0) (hx1 : own_ch x1) (hx2 : own_ch x2) : own_Met l Z mn28 jdk_52_method_40_code 4 (some .int) ws (own_R 4 0 0 58) #[(.ref v1), (.int ch), (.int (0 : Int32)), (.int (3 : Int32))] h0 (own_QrmIo3U ch x0 x1 x2 h0 n0) := by
  refine own_enter n0 (plainFor_of_name own_pn40) (fun m => ef_RIII_4 m v1 ch (0 : Int32) (3 : Int32) ) (fun p e s m below meth c s₁ hx hby hlk hml hret hown hnm hZ X0 e0 N0 => ?_)
  show own_Fin _ _ _ _ _ _ _ s₁ (mkF m 0 #[Rv v1, Iv ch, Iv 0, Iv 3] [])
  obtain ⟨_, _, ⟨T531, L531, k531, n531⟩, -, X531, ⟨Lc531, hQ531, l531, y531, z531⟩, st531⟩ := Jvm.LawKit.callS X0 hx (y := mn14) hown (mvT hZ (own_g hw 107 rfl)) (mvT hZ (own_g hw 65 rfl)) (mvT hZ (own_g hw 66 rfl)) (mvT hZ (own_g hw 67 rfl)) (by decide) (backOf (W := 0) (rmmax_0_0 l Z a0 hw []  h0 n0 Z0 ) hZ (own_g hw 67 rfl) (own_g hw 66 rfl) (by decide) (by decide)) (g := (mkF m 2 #[Rv v1, Iv ch, Iv 0, Iv 3] [(.int 0), (.int 0)])) rfl (by rw [hml]; rfl) (argsL := [(.int (0 : Int32)), (.int (0 : Int32))]) (rest := []) (lenOf own_pd253 rfl) rfl (own_z rfl) (hb hby d24_2) (fun _ _ => ⟨rfl, e0, (by decide : 0 + 0 ≤ _), (by decide : 0 + 0 ≤ _)⟩)
  dsimp only [Pt.U, Pt.locs, Pt.cells, Pt.slots] at X531 l531 y531 z531 st531 hQ531
  subst l531 y531 z531
  obtain ⟨rfl, Nq531, eh531⟩ := hQ531
  have N531 := Fr.app N0 Nq531
  obtain ⟨cl532, Ar532, -, S532, M532, -, -⟩ := id V1
  refine own_by (fun _ k => XS.iloadN X0.here hx rfl (hb hby d24_0) rfl (XS.iconst X0.here hx rfl (hb hby d24_1) (st531 _ (XS.istoreN X531.here hx rfl (hb hby d24_5) rfl (l' := #[Rv v1, Iv ch, Iv 0, Iv 3]) rfl (XS.iloadN X531.here hx rfl (hb hby d24_6) rfl (XS.aloadN X531.here hx rfl (hb hby d24_7) rfl rfl (X531.arraylength hx (by rw [eh531]; exact Ar532.1) (State.isArrayOf_alike hZ.alike Ar532.2.1) (g := (mkF m 8 #[Rv v1, Iv ch, Iv 0, Iv 3] [(.ref v1), (.int 3)])) rfl rfl (hb hby d24_8) _ k))))))) ?_
  rw [len_of S532 M532]
  show own_Fin _ _ _ _ _ _ _ T531 (mkF m 9 #[Rv v1, Iv ch, Iv 0, Iv 3] [(.int 6), (.int 3)])
  refine own_by (fun _ k => XS.iconst X531.here hx rfl (hb hby d24_9) (XS.ishr X531.here hx rfl (hb hby d24_10) rfl k)) ?_
  show own_Fin _ _ _ _ _ _ _ T531 (mkF m 11 #[Rv v1, Iv ch, Iv 0, Iv 3] [(.int ((6 : Int32) >>> ((1 : Int32) &&& 31))), (.int 3)])
  rw [(by decide : ((6 : Int32) >>> ((1 : Int32) &&& 31)) = (3 : Int32))]
  show own_Fin _ _ _ _ _ _ _ T531 (mkF m 11 #[Rv v1, Iv ch, Iv 0, Iv 3] [(.int 3), (.int 3)])
  obtain ⟨_, _, ⟨T533, L533, k533, n533⟩, -, X533, ⟨Lc533, hQ533, l533, y533, z533⟩, st533⟩ := Jvm.LawKit.callS X531 hx (y := mn15) hown (mvT hZ (own_g hw 108 rfl)) (mvT hZ (own_g hw 69 rfl)) (mvT hZ (own_g hw 66 rfl)) (mvT hZ (own_g hw 70 rfl)) (by decide) (backOf (W := 0) (rmmin_3_3 l Z a0 hw []  h0 n0 Z0 ) hZ (own_g hw 70 rfl) (own_g hw 66 rfl) (by decide) (by decide)) (g := (mkF m 11 #[Rv v1, Iv ch, Iv 0, Iv 3] [(.int 3), (.int 3)])) rfl (by rw [hml]; rfl) (argsL := [(.int (3 : Int32)), (.int (3 : Int32))]) (rest := []) (lenOf own_pd253 rfl) rfl (own_z rfl) (hb hby d24_11) (fun _ _ => ⟨rfl, eh531, (by decide : 0 + 0 ≤ _), (by decide : 0 + 0 ≤ _)⟩)
  dsimp only [Pt.U, Pt.locs, Pt.cells, Pt.slots] at X533 l533 y533 z533 st533 hQ533
  subst l533 y533 z533
  obtain ⟨rfl, Nq533, eh533⟩ := hQ533
  have N533 := Fr.app N531 Nq533
  refine own_by (fun _ k => st533 _ (XS.istoreN X533.here hx rfl (hb hby d24_14) rfl (l' := #[Rv v1, Iv ch, Iv 0, Iv 3]) rfl (XS.iloadN X533.here hx rfl (hb hby d24_15) rfl (XS.iloadN X533.here hx rfl (hb hby d24_16) rfl (XS.icmpYes X533.here hx rfl (pc0 := 17) (pc' := 22) rfl (hb hby d24_17) rfl (tlt (by decide : (0 : Int32) < (3 : Int32))).1 (by decide) (by decide) (XS.iloadN X533.here hx rfl (hb hby d24_22) rfl (X533.ldcInt hx hown (mvT hZ (own_g hw 109 rfl)) (g := (mkF m 23 #[Rv v1, Iv ch, Iv 0, Iv 3] [(.int ch)])) rfl (hb hby d24_23) _ (XS.icmpNo X533.here hx rfl (hb hby d24_25) rfl (tlt hq.2.2).2.1 (XS.aloadN X533.here hx rfl (hb hby d24_28) rfl rfl (XS.iloadN X533.here hx rfl (hb hby d24_29) rfl k)))))))))) ?_
  show own_Fin _ _ _ _ _ _ _ T533 (mkF m 30 #[Rv v1, Iv ch, Iv 0, Iv 3] [(.int ch), (.ref v1)])
  obtain ⟨_, _, ⟨T534, L534, k534, n534⟩, -, X534, ⟨Lc534, hQ534, l534, y534, z534⟩, st534⟩ := Jvm.LawKit.callS X533 hx (y := mn27) hown (mvT hZ (own_g hw 110 rfl)) (mvT hZ (own_g hw 111 rfl)) (mvT hZ (own_g hw 73 rfl)) (mvT hZ (own_g hw 112 rfl)) (by decide) (backOf (W := 0) (rmIc3U l Z a0 hw [] cs gS v1 k1 ch x0 x1 x2 h0 n0 Z0 V_env Od V1 hq hx0 hx1 hx2) hZ (own_g hw 112 rfl) (own_g hw 73 rfl) (by decide) (by decide)) (g := (mkF m 32 #[Rv v1, Iv ch, Iv 0, Iv 3] [(.int 3), (.int 0), (.int ch), (.ref v1)])) rfl (by rw [hml]; rfl) (argsL := [(.ref v1), (.int ch), (.int (0 : Int32)), (.int (3 : Int32))]) (rest := []) (lenOf own_pd285 rfl) rfl (own_z rfl) (hb hby d24_32) (fun _ _ => ⟨rfl, eh533, (by decide : 0 + 0 ≤ _), (by decide : 0 + 0 ≤ _)⟩)
  dsimp only [Pt.U, Pt.locs, Pt.cells, Pt.slots] at X534 l534 y534 z534 st534 hQ534
  subst l534 y534 z534
  obtain ⟨rfl, Nq534, eh534⟩ := hQ534
  have N534 := Fr.app N533 Nq534
  refine own_by (fun _ k => XS.iloadN X533.here hx rfl (hb hby d24_30) rfl (XS.iloadN X533.here hx rfl (hb hby d24_31) rfl (st534 _ k))) ?_
  exact own_retI X534 hx hlk hret (hb hby d24_35) ⟨rfl, N534, eh534⟩ (by decide) (by decide)
def own_QrmSl3_U (h0 : Heap) (n0 : Nat) (v : Option Value) (h : Heap) (L : List Loc) : Prop := v = some (.int (3 : Int32)) ∧ Fr n0 L ∧ h = h0
set_option maxRecDepth 65536 in
set_option maxHeartbeats 40000000 in
theorem rmSl3_U (l : Launch) (Z : State) (a0 : Array Value) (hw : own_W a0 Z) (ws : List Jvm.Cond) (cs : Int32) (gS : Value) (a1 v1 : Addr) (k1 : ClassId) (vs : List Value) (h0 : Heap) (n0 : Nat) (Z0 : n0 ≤ h0.size) (V_env : own_Env Z cs gS) (Od : Old Z n0 h0) (E_a1 : Exa Z h0 a1 "java/lang/String") (F1 : Fld Z h0 a1 "java/lang/String" "value" "[B" (.ref v1)) (F2 : Fld Z h0 a1 "java/lang/String" "coder" "B" (.int (1 : Int32))) (V1 : Arv Z h0 v1 k1 .byte (6 : Int32) vs (.int (0 : Int32))) : own_Met l Z mn17 jdk_42_method_54_code 1 (some .int) ws (own_R 1 0 0 13) #[(.ref a1)] h0 (own_QrmSl3_U h0 n0) := by
  refine own_enter n0 (plainFor_of_name own_pn16) (fun m => ef_R_1 m a1 ) (fun p e s m below meth c s₁ hx hby hlk hml hret hown hnm hZ X0 e0 N0 => ?_)
  show own_Fin _ _ _ _ _ _ _ s₁ (mkF m 0 #[Rv a1] [])
  obtain ⟨T535, X535, e535, st535⟩ := getF X0 hx hZ hown (host := "") (Or.inl (own_g hw 25 rfl)) Via.refl e0 F1 (g := (mkF m 1 #[Rv a1] [(.ref a1)])) rfl rfl (hb hby d9_1)
  obtain ⟨cl536, Ar536, -, S536, M536, -, -⟩ := id V1
  refine own_by (fun _ k => XS.aloadN X0.here hx rfl (hb hby d9_0) rfl rfl (st535 _ (X535.arraylength hx (by rw [e535]; exact Ar536.1) (State.isArrayOf_alike hZ.alike Ar536.2.1) (g := (mkF m 4 #[Rv a1] [(.ref v1)])) rfl rfl (hb hby d9_4) _ k))) ?_
  rw [len_of S536 M536]
  show own_Fin _ _ _ _ _ _ _ T535 (mkF m 5 #[Rv a1] [(.int 6)])
  obtain ⟨cq537, kq537, q537a, q537b, q537c⟩ := isOf hZ e535 E_a1
  obtain ⟨_, _, ⟨T537, L537, k537, n537⟩, -, X537, ⟨Lc537, hQ537, l537, y537, z537⟩, st537⟩ := X535.virtualBack hx (y := mn12) (z := mn12) hown (mvT hZ (own_g hw 52 rfl)) (mvT hZ (own_g hw 53 rfl)) (notFace_of_selects (args := #[]) (mvT hZ (own_g hw 55 rfl))) (mvT hZ (own_g hw 55 rfl)) (mvT hZ (own_g hw 54 rfl)) (by decide) (backOf (W := 1) (rmCd1 l Z a0 hw [] cs gS a1 h0 n0 Z0 V_env Od F2) hZ (own_g hw 56 rfl) (own_g hw 8 rfl) (by decide) (by decide)) q537a q537c (g := (mkF m 6 #[Rv a1] [(.ref a1), (.int 6)])) rfl (by rw [hml]; rfl) (Steps.refl _) (argsL := []) (rest := [(.int (6 : Int32))]) (lenOf own_pd270 rfl) rfl (own_z rfl) (hb hby d9_6) (fun _ _ => ⟨rfl, e535, (by decide : 0 + 0 ≤ _), (by decide : 0 + 0 ≤ _)⟩)
  dsimp only [Pt.U, Pt.locs, Pt.cells, Pt.slots] at X537 l537 y537 z537 st537 hQ537
  subst l537 y537 z537
  obtain ⟨rfl, Nq537, eh537⟩ := hQ537
  have N537 := Fr.app N0 Nq537
  refine own_by (fun _ k => XS.aloadN X535.here hx rfl (hb hby d9_5) rfl rfl (st537.trans (XS.ishr X537.here hx rfl (hb hby d9_9) rfl k))) ?_
  show own_Fin _ _ _ _ _ _ _ T537 (mkF m 10 #[Rv a1] [(.int ((6 : Int32) >>> ((1 : Int32) &&& 31)))])
  rw [(by decide : ((6 : Int32) >>> ((1 : Int32) &&& 31)) = (3 : Int32))]
  show own_Fin _ _ _ _ _ _ _ T537 (mkF m 10 #[Rv a1] [(.int 3)])
  exact own_retI X537 hx hlk hret (hb hby d9_10) ⟨rfl, N537, eh537⟩ (by decide) (by decide)
def own_QrmI23U (ch : Int32) (x0 x1 x2 : Int32) (h0 : Heap) (n0 : Nat) (v : Option Value) (h : Heap) (L : List Loc) : Prop := v = some (.int (own_find ch [x0, x1, x2] (0 : Int32))) ∧ Fr n0 L ∧ h = h0
set_option maxRecDepth 65536 in
set_option maxHeartbeats 40000000 in
theorem rmI23U (l : Launch) (Z : State) (a0 : Array Value) (hw : own_W a0 Z) (ws : List Jvm.Cond) (cs : Int32) (gS : Value) (a1 : Addr) (v1 : Addr) (k1 : ClassId) (ch : Int32) (x0 x1 x2 : Int32) (h0 : Heap) (n0 : Nat) (Z0 : n0 ≤ h0.size) (V_env : own_Env Z cs gS) (Od : Old Z n0 h0) (E_a1 : Exa Z h0 a1 "java/lang/String") (F1 : Fld Z h0 a1 "java/lang/String" "value" "[B" (.ref v1)) (F2 : Fld Z h0 a1 "java/lang/String" "coder" "B" (.int (1 : Int32))) (V1 : Arv Z h0 v1 k1 .byte (6 : Int32) [(.int (own_lo x0)), (.int (own_hi x0)), (.int (own_lo x1)), (.int (own_hi x1)), (.int (own_lo x2)), (.int (own_hi x2))] (.int (0 : Int32))) (hq : own_cq ch) (hx0 : own_ch x0) (hx1 : own_ch x1) (hx2 : own_ch x2) : own_Met l Z mn18 jdk_42_method_80_code 3 (some .int) ws (own_R 5 0 0 73) #[(.ref a1), (.int ch), (.int (0 : Int32))] h0 (own_QrmI23U ch x0 x1 x2 h0 n0) := by
  refine own_enter n0 (plainFor_of_name own_pn16) (fun m => ef_RII_3 m a1 ch (0 : Int32) ) (fun p e s m below meth c s₁ hx hby hlk hml hret hown hnm hZ X0 e0 N0 => ?_)
  show own_Fin _ _ _ _ _ _ _ s₁ (mkF m 0 #[Rv a1, Iv ch, Iv 0] [])
  obtain ⟨cq538, kq538, q538a, q538b, q538c⟩ := isOf hZ e0 E_a1
  obtain ⟨_, _, ⟨T538, L538, k538, n538⟩, -, X538, ⟨Lc538, hQ538, l538, y538, z538⟩, st538⟩ := X0.virtualBack hx (y := mn11) (z := mn11) hown (mvT hZ (own_g hw 41 rfl)) (mvT hZ (own_g hw 42 rfl)) (notFace_of_selects (args := #[]) (mvT hZ (own_g hw 44 rfl))) (mvT hZ (own_g hw 44 rfl)) (mvT hZ (own_g hw 43 rfl)) (by decide) (backOf (W := 0) (rmIs1 l Z a0 hw [] cs gS a1 h0 n0 Z0 V_env Od F2) hZ (own_g hw 45 rfl) (own_g hw 8 rfl) (by decide) (by decide)) q538a q538c (g := (mkF m 1 #[Rv a1, Iv ch, Iv 0] [(.ref a1)])) rfl (by rw [hml]; rfl) (Steps.refl _) (argsL := []) (rest := []) (lenOf own_pd275 rfl) rfl (own_z rfl) (hb hby d7_1) (fun _ _ => ⟨rfl, e0, (by decide : 0 + 0 ≤ _), (by decide : 0 + 0 ≤ _)⟩)
  dsimp only [Pt.U, Pt.locs, Pt.cells, Pt.slots] at X538 l538 y538 z538 st538 hQ538
  subst l538 y538 z538
  obtain ⟨rfl, Nq538, eh538⟩ := hQ538
  have N538 := Fr.app N0 Nq538
  obtain ⟨T539, X539, e539, st539⟩ := getF X538 hx hZ hown (host := "") (Or.inl (own_g hw 25 rfl)) Via.refl eh538 F1 (g := (mkF m 24 #[Rv a1, Iv ch, Iv 0] [(.ref a1)])) rfl rfl (hb hby d7_24)
  obtain ⟨cq540, kq540, q540a, q540b, q540c⟩ := isOf hZ e539 E_a1
  obtain ⟨_, _, ⟨T540, L540, k540, n540⟩, -, X540, ⟨Lc540, hQ540, l540, y540, z540⟩, st540⟩ := X539.virtualBack hx (y := mn17) (z := mn17) hown (mvT hZ (own_g hw 47 rfl)) (mvT hZ (own_g hw 48 rfl)) (notFace_of_selects (args := #[]) (mvT hZ (own_g hw 50 rfl))) (mvT hZ (own_g hw 50 rfl)) (mvT hZ (own_g hw 49 rfl)) (by decide) (backOf (W := 3) (rmSl3_U l Z a0 hw [] cs gS a1 v1 k1 [(.int (own_lo x0)), (.int (own_hi x0)), (.int (own_lo x1)), (.int (own_hi x1)), (.int (own_lo x2)), (.int (own_hi x2))] h0 n0 Z0 V_env Od E_a1 F1 F2 V1) hZ (own_g hw 51 rfl) (own_g hw 8 rfl) (by decide) (by decide)) q540a q540c (g := (mkF m 30 #[Rv a1, Iv ch, Iv 0] [(.ref a1), (.int 0), (.int ch), (.ref v1)])) rfl (by rw [hml]; rfl) (Steps.refl _) (argsL := []) (rest := [(.int (0 : Int32)), (.int ch), (.ref v1)]) (lenOf own_pd283 rfl) rfl (own_z rfl) (hb hby d7_30) (fun _ _ => ⟨rfl, e539, (by decide : 0 + 0 ≤ _), (by decide : 0 + 0 ≤ _)⟩)
  dsimp only [Pt.U, Pt.locs, Pt.cells, Pt.slots] at X540 l540 y540 z540 st540 hQ540
  subst l540 y540 z540
  obtain ⟨rfl, Nq540, eh540⟩ := hQ540
  have N540 := Fr.app N538 Nq540
  obtain ⟨_, _, ⟨T541, L541, k541, n541⟩, -, X541, ⟨Lc541, hQ541, l541, y541, z541⟩, st541⟩ := Jvm.LawKit.callS X540 hx (y := mn28) hown (mvT hZ (own_g hw 104 rfl)) (mvT hZ (own_g hw 105 rfl)) (mvT hZ (own_g hw 73 rfl)) (mvT hZ (own_g hw 106 rfl)) (by decide) (backOf (W := 0) (rmIo3U l Z a0 hw [] cs gS v1 k1 ch x0 x1 x2 h0 n0 Z0 V_env Od V1 hq hx0 hx1 hx2) hZ (own_g hw 106 rfl) (own_g hw 73 rfl) (by decide) (by decide)) (g := (mkF m 33 #[Rv a1, Iv ch, Iv 0] [(.int 3), (.int 0), (.int ch), (.ref v1)])) rfl (by rw [hml]; rfl) (argsL := [(.ref v1), (.int ch), (.int (0 : Int32)), (.int (3 : Int32))]) (rest := []) (lenOf own_pd285 rfl) rfl (own_z rfl) (hb hby d7_33) (fun _ _ => ⟨rfl, eh540, (by decide : 0 + 0 ≤ _), (by decide : 0 + 0 ≤ _)⟩)
  dsimp only [Pt.U, Pt.locs, Pt.cells, Pt.slots] at X541 l541 y541 z541 st541 hQ541
  subst l541 y541 z541
  obtain ⟨rfl, Nq541, eh541⟩ := hQ541
  have N541 := Fr.app N540 Nq541
  refine own_by (fun _ k => XS.aloadN X0.here hx rfl (hb hby d7_0) rfl rfl (st538.trans (XS.ifYes X538.here hx rfl (pc0 := 4) (pc' := 23) rfl (hb hby d7_4) rfl ((if0 _ _).trans (teq (by decide : (0 : Int32) = (0 : Int32))).1) (by decide) (by decide) (XS.aloadN X538.here hx rfl (hb hby d7_23) rfl rfl (st539 _ (XS.iloadN X539.here hx rfl (hb hby d7_27) rfl (XS.iloadN X539.here hx rfl (hb hby d7_28) rfl (XS.aloadN X539.here hx rfl (hb hby d7_29) rfl rfl (st540.trans (st541 _ k)))))))))) ?_
  exact own_retI X541 hx hlk hret (hb hby d7_36) ⟨rfl, N541, eh541⟩ (by decide) (by decide)
def own_QrmIx3U (ch : Int32) (x0 x1 x2 : Int32) (h0 : Heap) (n0 : Nat) (v : Option Value) (h : Heap) (L : List Loc) : Prop := v = some (.int (own_find ch [x0, x1, x2] (0 : Int32))) ∧ Fr n0 L ∧ h = h0
set_option maxRecDepth 65536 in
set_option maxHeartbeats 40000000 in
theorem rmIx3U (l : Launch) (Z : State) (a0 : Array Value) (hw : own_W a0 Z) (ws : List Jvm.Cond) (cs : Int32) (gS : Value) (a1 : Addr) (v1 : Addr) (k1 : ClassId) (ch : Int32) (x0 x1 x2 : Int32) (h0 : Heap) (n0 : Nat) (Z0 : n0 ≤ h0.size) (V_env : own_Env Z cs gS) (Od : Old Z n0 h0) (E_a1 : Exa Z h0 a1 "java/lang/String") (F1 : Fld Z h0 a1 "java/lang/String" "value" "[B" (.ref v1)) (F2 : Fld Z h0 a1 "java/lang/String" "coder" "B" (.int (1 : Int32))) (V1 : Arv Z h0 v1 k1 .byte (6 : Int32) [(.int (own_lo x0)), (.int (own_hi x0)), (.int (own_lo x1)), (.int (own_hi x1)), (.int (own_lo x2)), (.int (own_hi x2))] (.int (0 : Int32))) (hq : own_cq ch) (hx0 : own_ch x0) (hx1 : own_ch x1) (hx2 : own_ch x2) : own_Met l Z mn19 jdk_42_method_79_code 2 (some .int) ws (own_R 6 0 0 87) #[(.ref a1), (.int ch)] h0 (own_QrmIx3U ch x0 x1 x2 h0 n0) := by
  refine own_enter n0 (plainFor_of_name own_pn16) (fun m => ef_RI_2 m a1 ch ) (fun p e s m below meth c s₁ hx hby hlk hml hret hown hnm hZ X0 e0 N0 => ?_)
  show own_Fin _ _ _ _ _ _ _ s₁ (mkF m 0 #[Rv a1, Iv ch] [])
  obtain ⟨cq542, kq542, q542a, q542b, q542c⟩ := isOf hZ e0 E_a1
  obtain ⟨_, _, ⟨T542, L542, k542, n542⟩, -, X542, ⟨Lc542, hQ542, l542, y542, z542⟩, st542⟩ := X0.virtualBack hx (y := mn18) (z := mn18) hown (mvT hZ (own_g hw 36 rfl)) (mvT hZ (own_g hw 37 rfl)) (notFace_of_selects (args := #[]) (mvT hZ (own_g hw 39 rfl))) (mvT hZ (own_g hw 39 rfl)) (mvT hZ (own_g hw 38 rfl)) (by decide) (backOf (W := 0) (rmI23U l Z a0 hw [] cs gS a1 v1 k1 ch x0 x1 x2 h0 n0 Z0 V_env Od E_a1 F1 F2 V1 hq hx0 hx1 hx2) hZ (own_g hw 40 rfl) (own_g hw 8 rfl) (by decide) (by decide)) q542a q542c (g := (mkF m 3 #[Rv a1, Iv ch] [(.int 0), (.int ch), (.ref a1)])) rfl (by rw [hml]; rfl) (Steps.refl _) (argsL := [(.int ch), (.int (0 : Int32))]) (rest := []) (lenOf own_pd253 rfl) rfl (own_z rfl) (hb hby d6_3) (fun _ _ => ⟨rfl, e0, (by decide : 0 + 0 ≤ _), (by decide : 0 + 0 ≤ _)⟩)
  dsimp only [Pt.U, Pt.locs, Pt.cells, Pt.slots] at X542 l542 y542 z542 st542 hQ542
  subst l542 y542 z542
  obtain ⟨rfl, Nq542, eh542⟩ := hQ542
  have N542 := Fr.app N0 Nq542
  refine own_by (fun _ k => XS.aloadN X0.here hx rfl (hb hby d6_0) rfl rfl (XS.iloadN X0.here hx rfl (hb hby d6_1) rfl (XS.iconst X0.here hx rfl (hb hby d6_2) (st542.trans k)))) ?_
  exact own_retI X542 hx hlk hret (hb hby d6_6) ⟨rfl, N542, eh542⟩ (by decide) (by decide)
def own_QIS3U (x0 x1 x2 : Int32) (h0 : Heap) (n0 : Nat) (v : Option Value) (h : Heap) (L : List Loc) : Prop := v = some (.int (own_neg (own_find (0 : Int32) [x0, x1, x2] (0 : Int32)))) ∧ Fr n0 L ∧ h = h0
set_option maxRecDepth 65536 in
set_option maxHeartbeats 40000000 in
theorem rmIS3U (l : Launch) (Z : State) (a0 : Array Value) (hw : own_W a0 Z) (ws : List Jvm.Cond) (cs : Int32) (gS : Value) (a1 v1 : Addr) (k1 : ClassId) (x0 x1 x2 : Int32)  (h0 : Heap) (n0 : Nat) (Z0 : n0 ≤ h0.size) (V_env : own_Env Z cs gS) (Od : Old Z n0 h0) (E_a1 : Exa Z h0 a1 "java/lang/String") (F1 : Fld Z h0 a1 "java/lang/String" "value" "[B" (.ref v1)) (F2 : Fld Z h0 a1 "java/lang/String" "coder" "B" (.int (1 : Int32))) (V1 : Arv Z h0 v1 k1 .byte (6 : Int32) [(.int (own_lo x0)), (.int (own_hi x0)), (.int (own_lo x1)), (.int (own_hi x1)), (.int (own_lo x2)), (.int (own_hi x2))] (.int (0 : Int32))) (hx0 : own_ch x0) (hx1 : own_ch x1) (hx2 : own_ch x2) : own_Met l Z mn20 prog_26_method_2_code 1 (some .boolean) ws (own_R 7 0 0 100) #[(.ref a1)] h0 (own_QIS3U x0 x1 x2 h0 n0) := by
  refine own_enter n0 (plainFor_of_name own_pn293) (fun m => ef_R_1 m a1 ) (fun p e s m below meth c s₁ hx hby hlk hml hret hown hnm hZ X0 e0 N0 => ?_)
  show own_Fin _ _ _ _ _ _ _ s₁ (mkF m 0 #[Rv a1] [])
  obtain ⟨cq543, kq543, q543a, q543b, q543c⟩ := isOf hZ e0 E_a1
  obtain ⟨_, _, ⟨T543, L543, k543, n543⟩, -, X543, ⟨Lc543, hQ543, l543, y543, z543⟩, st543⟩ := X0.virtualBack hx (y := mn19) (z := mn19) hown (mvT hZ (own_g hw 31 rfl)) (mvT hZ (own_g hw 32 rfl)) (notFace_of_selects (args := #[]) (mvT hZ (own_g hw 34 rfl))) (mvT hZ (own_g hw 34 rfl)) (mvT hZ (own_g hw 33 rfl)) (by decide) (backOf (W := 0) (rmIx3U l Z a0 hw [] cs gS a1 v1 k1 (0 : Int32) x0 x1 x2 h0 n0 Z0 V_env Od E_a1 F1 F2 V1 ⟨by decide, by decide, by decide⟩ hx0 hx1 hx2) hZ (own_g hw 35 rfl) (own_g hw 8 rfl) (by decide) (by decide)) q543a q543c (g := (mkF m 2 #[Rv a1] [(.int 0), (.ref a1)])) rfl (by rw [hml]; rfl) (Steps.refl _) (argsL := [(.int (0 : Int32))]) (rest := []) (lenOf own_pd52 rfl) rfl (own_z rfl) (hb hby d5_2) (fun _ _ => ⟨rfl, e0, (by decide : 0 + 0 ≤ _), (by decide : 0 + 0 ≤ _)⟩)
  dsimp only [Pt.U, Pt.locs, Pt.cells, Pt.slots] at X543 l543 y543 z543 st543 hQ543
  subst l543 y543 z543
  obtain ⟨rfl, Nq543, eh543⟩ := hQ543
  have N543 := Fr.app N0 Nq543
  refine own_by (fun _ k => XS.aloadN X0.here hx rfl (hb hby d5_0) rfl rfl (XS.iconst X0.here hx rfl (hb hby d5_1) (st543.trans k))) ?_
  show own_Fin _ _ _ _ _ _ _ T543 (mkF m 5 #[Rv a1] [(.int (own_find (0 : Int32) [x0, x1, x2] (0 : Int32)))])
  by_cases hc5_544 : (own_find (0 : Int32) [x0, x1, x2] (0 : Int32)) < (0 : Int32)
  · show own_Fin _ _ _ _ _ _ _ T543 (mkF m 5 #[Rv a1] [(.int (own_find (0 : Int32) [x0, x1, x2] (0 : Int32)))])
    refine own_by (fun _ k => XS.ifNo X543.here hx rfl (hb hby d5_5) rfl ((if0 _ _).trans (tlt hc5_544).2.1) (XS.iconst X543.here hx rfl (hb hby d5_8) (XS.goto X543.here hx rfl (pc0 := 9) (pc' := 13) rfl (hb hby d5_9) (by decide) (by decide) k))) ?_
    exact own_retZ X543 hx hlk (t := .boolean) hret (by simp) (hb hby d5_13) ⟨own_vi (by show (1 : Int32) = _; first | (simp only [own_neg, if_neg V_env.2.2.2.2.1, if_pos hc5_544]; done) | (simp only [own_neg, if_neg V_env.2.2.2.2.1, if_pos hc5_544]; decide) | simp [own_neg, V_env.2.2.2.2.1, hc5_544]), N543, eh543⟩ (by decide) (by decide)
  · show own_Fin _ _ _ _ _ _ _ T543 (mkF m 5 #[Rv a1] [(.int (own_find (0 : Int32) [x0, x1, x2] (0 : Int32)))])
    refine own_by (fun _ k => XS.ifYes X543.here hx rfl (pc0 := 5) (pc' := 12) rfl (hb hby d5_5) rfl ((if0 _ _).trans (flt hc5_544).2.1) (by decide) (by decide) (XS.iconst X543.here hx rfl (hb hby d5_12) k)) ?_
    exact own_retZ X543 hx hlk (t := .boolean) hret (by simp) (hb hby d5_13) ⟨own_vi (by show (0 : Int32) = _; first | (simp only [own_neg, if_neg V_env.2.2.2.2.1, if_neg hc5_544]; done) | (simp only [own_neg, if_neg V_env.2.2.2.2.1, if_neg hc5_544]; decide) | simp [own_neg, V_env.2.2.2.2.1, hc5_544]), N543, eh543⟩ (by decide) (by decide)
def own_QrmIc4L (ch : Int32) (x0 x1 x2 x3 : Int32) (h0 : Heap) (n0 : Nat) (v : Option Value) (h : Heap) (L : List Loc) : Prop := v = some (.int (own_find (ch.toInt8.toInt32) [x0.toInt8.toInt32, x1.toInt8.toInt32, x2.toInt8.toInt32, x3.toInt8.toInt32] (0 : Int32))) ∧ Fr n0 L ∧ h = h0
set_option maxRecDepth 65536 in
set_option maxHeartbeats 40000000 in
theorem rmIc4L (l : Launch) (Z : State) (a0 : Array Value) (hw : own_W a0 Z) (ws : List Jvm.Cond) (cs : Int32) (gS : Value) (v1 : Addr) (k1 : ClassId) (ch : Int32) (x0 x1 x2 x3 : Int32) (h0 : Heap) (n0 : Nat) (Z0 : n0 ≤ h0.size) (V_env : own_Env Z cs gS) (Od : Old Z n0 h0) (V1 : Arv Z h0 v1 k1 .byte (4 : Int32) [(.int x0.toInt8.toInt32), (.int x1.toInt8.toInt32), (.int x2.toInt8.toInt32), (.int x3.toInt8.toInt32)] (.int (0 : Int32))) (hq : own_cq ch) : own_Met l Z mn21 jdk_43_method_23_code 6 (some .int) ws (own_R 0 0 0 0) #[(.ref v1), (.int ch), (.int (0 : Int32)), (.int (4 : Int32))] h0 (own_QrmIc4L ch x0 x1 x2 x3 h0 n0) := by
  refine own_enter n0 (plainFor_of_name own_pn223) (fun m => ef_RIII_6 m v1 ch (0 : Int32) (4 : Int32) ) (fun p e s m below meth c s₁ hx hby hlk hml hret hown hnm hZ X0 e0 N0 => ?_)
  show own_Fin _ _ _ _ _ _ _ s₁ (mkF m 0 #[Rv v1, Iv ch, Iv 0, Iv 4, Uv, Uv] [])
  obtain ⟨cl545, Ar545, -, S545, M545, H545, -⟩ := id V1
  have hin545 : ¬ ((0 : Int32) < 0 ∨ cl545.slots.size ≤ ((0 : Int32)).toNatClampNeg) := inb_of S545 ⟨by decide, by decide⟩
  have hat545 : cl545.slots[((0 : Int32)).toNatClampNeg]? = some (.int x0.toInt8.toInt32) := Has.at H545 hin545 rfl
  refine own_by (fun _ k => XS.iloadN X0.here hx rfl (hb hby d18_0) rfl (XS.i2b X0.here hx rfl (hb hby d18_1) rfl (XS.istore X0.here hx rfl (hb hby d18_2) rfl (l' := #[Rv v1, Iv ch, Iv 0, Iv 4, Iv (ch.toInt8.toInt32), Uv]) rfl (XS.iloadN X0.here hx rfl (hb hby d18_4) rfl (XS.istore X0.here hx rfl (hb hby d18_5) rfl (l' := #[Rv v1, Iv ch, Iv 0, Iv 4, Iv (ch.toInt8.toInt32), Iv 0]) rfl (XS.iload X0.here hx rfl (hb hby d18_7) rfl (XS.iloadN X0.here hx rfl (hb hby d18_9) rfl (XS.icmpNo X0.here hx rfl (hb hby d18_10) rfl (tlt (by decide : (0 : Int32) < (4 : Int32))).2.1 (XS.aloadN X0.here hx rfl (hb hby d18_13) rfl rfl (XS.iload X0.here hx rfl (hb hby d18_14) rfl k)))))))))) ?_
  show own_Fin _ _ _ _ _ _ _ s₁ (mkF m 16 #[Rv v1, Iv ch, Iv 0, Iv 4, Iv (ch.toInt8.toInt32), Iv 0] [(.int 0), (.ref v1)])
  refine own_by (fun _ k => X0.baloadBytes hx (j := (0 : Int32)) (v := (.int x0.toInt8.toInt32)) (by rw [e0]; exact Ar545.1) (State.isArrayOf_alike hZ.alike Ar545.2.1) Ar545.2.2 hin545 hat545 (g := (mkF m 16 #[Rv v1, Iv ch, Iv 0, Iv 4, Iv (ch.toInt8.toInt32), Iv 0] [(.int 0), (.ref v1)])) rfl rfl (hb hby d18_16) _ (XS.iload X0.here hx rfl (hb hby d18_17) rfl k)) ?_
  show own_Fin _ _ _ _ _ _ _ s₁ (mkF m 19 #[Rv v1, Iv ch, Iv 0, Iv 4, Iv (ch.toInt8.toInt32), Iv 0] [(.int (ch.toInt8.toInt32)), (.int x0.toInt8.toInt32)])
  by_cases hc19_546 : x0.toInt8.toInt32 = (ch.toInt8.toInt32)
  · show own_Fin _ _ _ _ _ _ _ s₁ (mkF m 19 #[Rv v1, Iv ch, Iv 0, Iv 4, Iv (ch.toInt8.toInt32), Iv 0] [(.int (ch.toInt8.toInt32)), (.int x0.toInt8.toInt32)])
    refine own_by (fun _ k => XS.icmpNo X0.here hx rfl (hb hby d18_19) rfl (teq hc19_546).2 (XS.iload X0.here hx rfl (hb hby d18_22) rfl k)) ?_
    exact own_retI X0 hx hlk hret (hb hby d18_24) ⟨own_vi (by show (0 : Int32) = _; first | (simp only [own_find, if_neg V_env.2.2.2.2.1, if_neg hq.1, if_neg hq.2.1, if_pos hq.2.2, if_pos hc19_546]; done) | (simp only [own_find, if_neg V_env.2.2.2.2.1, if_neg hq.1, if_neg hq.2.1, if_pos hq.2.2, if_pos hc19_546]; decide) | simp [own_find, V_env.2.2.2.2.1, hq.1, hq.2.1, hq.2.2, hc19_546]), N0, e0⟩ (by decide) (by decide)
  · show own_Fin _ _ _ _ _ _ _ s₁ (mkF m 19 #[Rv v1, Iv ch, Iv 0, Iv 4, Iv (ch.toInt8.toInt32), Iv 0] [(.int (ch.toInt8.toInt32)), (.int x0.toInt8.toInt32)])
    refine own_by (fun _ k => XS.icmpYes X0.here hx rfl (pc0 := 19) (pc' := 25) rfl (hb hby d18_19) rfl (feq hc19_546).2 (by decide) (by decide) (XS.iinc X0.here hx rfl (hb hby d18_25) rfl (l' := #[Rv v1, Iv ch, Iv 0, Iv 4, Iv (ch.toInt8.toInt32), Iv ((0 : Int32) + (1 : Int32))]) rfl k)) ?_
    show own_Fin _ _ _ _ _ _ _ s₁ (mkF m 28 #[Rv v1, Iv ch, Iv 0, Iv 4, Iv (ch.toInt8.toInt32), Iv ((0 : Int32) + (1 : Int32))] [])
    rw [(by decide : ((0 : Int32) + (1 : Int32)) = (1 : Int32))]
    show own_Fin _ _ _ _ _ _ _ s₁ (mkF m 28 #[Rv v1, Iv ch, Iv 0, Iv 4, Iv (ch.toInt8.toInt32), Iv 1] [])
    obtain ⟨cl547, Ar547, -, S547, M547, H547, -⟩ := id V1
    have hin547 : ¬ ((1 : Int32) < 0 ∨ cl547.slots.size ≤ ((1 : Int32)).toNatClampNeg) := inb_of S547 ⟨by decide, by decide⟩
    have hat547 : cl547.slots[((1 : Int32)).toNatClampNeg]? = some (.int x1.toInt8.toInt32) := Has.at H547 hin547 rfl
    refine own_by (fun _ k => XS.goto X0.here hx rfl (pc0 := 28) (pc' := 7) rfl (hb hby d18_28) (by decide) (by decide) (XS.iload X0.here hx rfl (hb hby d18_7) rfl (XS.iloadN X0.here hx rfl (hb hby d18_9) rfl (XS.icmpNo X0.here hx rfl (hb hby d18_10) rfl (tlt (by decide : (1 : Int32) < (4 : Int32))).2.1 (XS.aloadN X0.here hx rfl (hb hby d18_13) rfl rfl (XS.iload X0.here hx rfl (hb hby d18_14) rfl (X0.baloadBytes hx (j := (1 : Int32)) (v := (.int x1.toInt8.toInt32)) (by rw [e0]; exact Ar547.1) (State.isArrayOf_alike hZ.alike Ar547.2.1) Ar547.2.2 hin547 hat547 (g := (mkF m 16 #[Rv v1, Iv ch, Iv 0, Iv 4, Iv (ch.toInt8.toInt32), Iv 1] [(.int 1), (.ref v1)])) rfl rfl (hb hby d18_16) _ (XS.iload X0.here hx rfl (hb hby d18_17) rfl k)))))))) ?_
    show own_Fin _ _ _ _ _ _ _ s₁ (mkF m 19 #[Rv v1, Iv ch, Iv 0, Iv 4, Iv (ch.toInt8.toInt32), Iv 1] [(.int (ch.toInt8.toInt32)), (.int x1.toInt8.toInt32)])
    by_cases hc19_548 : x1.toInt8.toInt32 = (ch.toInt8.toInt32)
    · show own_Fin _ _ _ _ _ _ _ s₁ (mkF m 19 #[Rv v1, Iv ch, Iv 0, Iv 4, Iv (ch.toInt8.toInt32), Iv 1] [(.int (ch.toInt8.toInt32)), (.int x1.toInt8.toInt32)])
      refine own_by (fun _ k => XS.icmpNo X0.here hx rfl (hb hby d18_19) rfl (teq hc19_548).2 (XS.iload X0.here hx rfl (hb hby d18_22) rfl k)) ?_
      exact own_retI X0 hx hlk hret (hb hby d18_24) ⟨own_vi (by show (1 : Int32) = _; first | (simp only [own_find, if_neg V_env.2.2.2.2.1, if_neg hq.1, if_neg hq.2.1, if_pos hq.2.2, if_neg hc19_546, if_pos hc19_548]; done) | (simp only [own_find, if_neg V_env.2.2.2.2.1, if_neg hq.1, if_neg hq.2.1, if_pos hq.2.2, if_neg hc19_546, if_pos hc19_548]; decide) | simp [own_find, V_env.2.2.2.2.1, hq.1, hq.2.1, hq.2.2, hc19_546, hc19_548]), N0, e0⟩ (by decide) (by decide)
    · show own_Fin _ _ _ _ _ _ _ s₁ (mkF m 19 #[Rv v1, Iv ch, Iv 0, Iv 4, Iv (ch.toInt8.toInt32), Iv 1] [(.int (ch.toInt8.toInt32)), (.int x1.toInt8.toInt32)])
      refine own_by (fun _ k => XS.icmpYes X0.here hx rfl (pc0 := 19) (pc' := 25) rfl (hb hby d18_19) rfl (feq hc19_548).2 (by decide) (by decide) (XS.iinc X0.here hx rfl (hb hby d18_25) rfl (l' := #[Rv v1, Iv ch, Iv 0, Iv 4, Iv (ch.toInt8.toInt32), Iv ((1 : Int32) + (1 : Int32))]) rfl k)) ?_
      show own_Fin _ _ _ _ _ _ _ s₁ (mkF m 28 #[Rv v1, Iv ch, Iv 0, Iv 4, Iv (ch.toInt8.toInt32), Iv ((1 : Int32) + (1 : Int32))] [])
      rw [(by decide : ((1 : Int32) + (1 : Int32)) = (2 : Int32))]
      show own_Fin _ _ _ _ _ _ _ s₁ (mkF m 28 #[Rv v1, Iv ch, Iv 0, Iv 4, Iv (ch.toInt8.toInt32), Iv 2] [])
      obtain ⟨cl549, Ar549, -, S549, M549, H549, -⟩ := id V1
      have hin549 : ¬ ((2 : Int32) < 0 ∨ cl549.slots.size ≤ ((2 : Int32)).toNatClampNeg) := inb_of S549 ⟨by decide, by decide⟩
      have hat549 : cl549.slots[((2 : Int32)).toNatClampNeg]? = some (.int x2.toInt8.toInt32) := Has.at H549 hin549 rfl
      refine own_by (fun _ k => XS.goto X0.here hx rfl (pc0 := 28) (pc' := 7) rfl (hb hby d18_28) (by decide) (by decide) (XS.iload X0.here hx rfl (hb hby d18_7) rfl (XS.iloadN X0.here hx rfl (hb hby d18_9) rfl (XS.icmpNo X0.here hx rfl (hb hby d18_10) rfl (tlt (by decide : (2 : Int32) < (4 : Int32))).2.1 (XS.aloadN X0.here hx rfl (hb hby d18_13) rfl rfl (XS.iload X0.here hx rfl (hb hby d18_14) rfl (X0.baloadBytes hx (j := (2 : Int32)) (v := (.int x2.toInt8.toInt32)) (by rw [e0]; exact Ar549.1) (State.isArrayOf_alike hZ.alike Ar549.2.1) Ar549.2.2 hin549 hat549 (g := (mkF m 16 #[Rv v1, Iv ch, Iv 0, Iv 4, Iv (ch.toInt8.toInt32), Iv 2] [(.int 2), (.ref v1)])) rfl rfl (hb hby d18_16) _ (XS.iload X0.here hx rfl (hb hby d18_17) rfl k)))))))) ?_
      show own_Fin _ _ _ _ _ _ _ s₁ (mkF m 19 #[Rv v1, Iv ch, Iv 0, Iv 4, Iv (ch.toInt8.toInt32), Iv 2] [(.int (ch.toInt8.toInt32)), (.int x2.toInt8.toInt32)])
      by_cases hc19_550 : x2.toInt8.toInt32 = (ch.toInt8.toInt32)
      · show own_Fin _ _ _ _ _ _ _ s₁ (mkF m 19 #[Rv v1, Iv ch, Iv 0, Iv 4, Iv (ch.toInt8.toInt32), Iv 2] [(.int (ch.toInt8.toInt32)), (.int x2.toInt8.toInt32)])
        refine own_by (fun _ k => XS.icmpNo X0.here hx rfl (hb hby d18_19) rfl (teq hc19_550).2 (XS.iload X0.here hx rfl (hb hby d18_22) rfl k)) ?_
        exact own_retI X0 hx hlk hret (hb hby d18_24) ⟨own_vi (by show (2 : Int32) = _; first | (simp only [own_find, if_neg V_env.2.2.2.2.1, if_neg hq.1, if_neg hq.2.1, if_pos hq.2.2, if_neg hc19_546, if_neg hc19_548, if_pos hc19_550]; done) | (simp only [own_find, if_neg V_env.2.2.2.2.1, if_neg hq.1, if_neg hq.2.1, if_pos hq.2.2, if_neg hc19_546, if_neg hc19_548, if_pos hc19_550]; decide) | simp [own_find, V_env.2.2.2.2.1, hq.1, hq.2.1, hq.2.2, hc19_546, hc19_548, hc19_550]), N0, e0⟩ (by decide) (by decide)
      · show own_Fin _ _ _ _ _ _ _ s₁ (mkF m 19 #[Rv v1, Iv ch, Iv 0, Iv 4, Iv (ch.toInt8.toInt32), Iv 2] [(.int (ch.toInt8.toInt32)), (.int x2.toInt8.toInt32)])
        refine own_by (fun _ k => XS.icmpYes X0.here hx rfl (pc0 := 19) (pc' := 25) rfl (hb hby d18_19) rfl (feq hc19_550).2 (by decide) (by decide) (XS.iinc X0.here hx rfl (hb hby d18_25) rfl (l' := #[Rv v1, Iv ch, Iv 0, Iv 4, Iv (ch.toInt8.toInt32), Iv ((2 : Int32) + (1 : Int32))]) rfl k)) ?_
        show own_Fin _ _ _ _ _ _ _ s₁ (mkF m 28 #[Rv v1, Iv ch, Iv 0, Iv 4, Iv (ch.toInt8.toInt32), Iv ((2 : Int32) + (1 : Int32))] [])
        rw [(by decide : ((2 : Int32) + (1 : Int32)) = (3 : Int32))]
        show own_Fin _ _ _ _ _ _ _ s₁ (mkF m 28 #[Rv v1, Iv ch, Iv 0, Iv 4, Iv (ch.toInt8.toInt32), Iv 3] [])
        obtain ⟨cl551, Ar551, -, S551, M551, H551, -⟩ := id V1
        have hin551 : ¬ ((3 : Int32) < 0 ∨ cl551.slots.size ≤ ((3 : Int32)).toNatClampNeg) := inb_of S551 ⟨by decide, by decide⟩
        have hat551 : cl551.slots[((3 : Int32)).toNatClampNeg]? = some (.int x3.toInt8.toInt32) := Has.at H551 hin551 rfl
        refine own_by (fun _ k => XS.goto X0.here hx rfl (pc0 := 28) (pc' := 7) rfl (hb hby d18_28) (by decide) (by decide) (XS.iload X0.here hx rfl (hb hby d18_7) rfl (XS.iloadN X0.here hx rfl (hb hby d18_9) rfl (XS.icmpNo X0.here hx rfl (hb hby d18_10) rfl (tlt (by decide : (3 : Int32) < (4 : Int32))).2.1 (XS.aloadN X0.here hx rfl (hb hby d18_13) rfl rfl (XS.iload X0.here hx rfl (hb hby d18_14) rfl (X0.baloadBytes hx (j := (3 : Int32)) (v := (.int x3.toInt8.toInt32)) (by rw [e0]; exact Ar551.1) (State.isArrayOf_alike hZ.alike Ar551.2.1) Ar551.2.2 hin551 hat551 (g := (mkF m 16 #[Rv v1, Iv ch, Iv 0, Iv 4, Iv (ch.toInt8.toInt32), Iv 3] [(.int 3), (.ref v1)])) rfl rfl (hb hby d18_16) _ (XS.iload X0.here hx rfl (hb hby d18_17) rfl k)))))))) ?_
        show own_Fin _ _ _ _ _ _ _ s₁ (mkF m 19 #[Rv v1, Iv ch, Iv 0, Iv 4, Iv (ch.toInt8.toInt32), Iv 3] [(.int (ch.toInt8.toInt32)), (.int x3.toInt8.toInt32)])
        by_cases hc19_552 : x3.toInt8.toInt32 = (ch.toInt8.toInt32)
        · show own_Fin _ _ _ _ _ _ _ s₁ (mkF m 19 #[Rv v1, Iv ch, Iv 0, Iv 4, Iv (ch.toInt8.toInt32), Iv 3] [(.int (ch.toInt8.toInt32)), (.int x3.toInt8.toInt32)])
          refine own_by (fun _ k => XS.icmpNo X0.here hx rfl (hb hby d18_19) rfl (teq hc19_552).2 (XS.iload X0.here hx rfl (hb hby d18_22) rfl k)) ?_
          exact own_retI X0 hx hlk hret (hb hby d18_24) ⟨own_vi (by show (3 : Int32) = _; first | (simp only [own_find, if_neg V_env.2.2.2.2.1, if_neg hq.1, if_neg hq.2.1, if_pos hq.2.2, if_neg hc19_546, if_neg hc19_548, if_neg hc19_550, if_pos hc19_552]; done) | (simp only [own_find, if_neg V_env.2.2.2.2.1, if_neg hq.1, if_neg hq.2.1, if_pos hq.2.2, if_neg hc19_546, if_neg hc19_548, if_neg hc19_550, if_pos hc19_552]; decide) | simp [own_find, V_env.2.2.2.2.1, hq.1, hq.2.1, hq.2.2, hc19_546, hc19_548, hc19_550, hc19_552]), N0, e0⟩ (by decide) (by decide)
        · show own_Fin _ _ _ _ _ _ _ s₁ (mkF m 19 #[Rv v1, Iv ch, Iv 0, Iv 4, Iv (ch.toInt8.toInt32), Iv 3] [(.int (ch.toInt8.toInt32)), (.int x3.toInt8.toInt32)])
          refine own_by (fun _ k => XS.icmpYes X0.here hx rfl (pc0 := 19) (pc' := 25) rfl (hb hby d18_19) rfl (feq hc19_552).2 (by decide) (by decide) (XS.iinc X0.here hx rfl (hb hby d18_25) rfl (l' := #[Rv v1, Iv ch, Iv 0, Iv 4, Iv (ch.toInt8.toInt32), Iv ((3 : Int32) + (1 : Int32))]) rfl k)) ?_
          show own_Fin _ _ _ _ _ _ _ s₁ (mkF m 28 #[Rv v1, Iv ch, Iv 0, Iv 4, Iv (ch.toInt8.toInt32), Iv ((3 : Int32) + (1 : Int32))] [])
          rw [(by decide : ((3 : Int32) + (1 : Int32)) = (4 : Int32))]
          show own_Fin _ _ _ _ _ _ _ s₁ (mkF m 28 #[Rv v1, Iv ch, Iv 0, Iv 4, Iv (ch.toInt8.toInt32), Iv 4] [])
          refine own_by (fun _ k => XS.goto X0.here hx rfl (pc0 := 28) (pc' := 7) rfl (hb hby d18_28) (by decide) (by decide) (XS.iload X0.here hx rfl (hb hby d18_7) rfl (XS.iloadN X0.here hx rfl (hb hby d18_9) rfl (XS.icmpYes X0.here hx rfl (pc0 := 10) (pc' := 31) rfl (hb hby d18_10) rfl (flt (by decide : ¬ ((4 : Int32) < (4 : Int32)))).2.1 (by decide) (by decide) (XS.iconst X0.here hx rfl (hb hby d18_31) k))))) ?_
          exact own_retI X0 hx hlk hret (hb hby d18_32) ⟨own_vi (by show (-1 : Int32) = _; first | (simp only [own_find, if_neg V_env.2.2.2.2.1, if_neg hq.1, if_neg hq.2.1, if_pos hq.2.2, if_neg hc19_546, if_neg hc19_548, if_neg hc19_550, if_neg hc19_552]; done) | (simp only [own_find, if_neg V_env.2.2.2.2.1, if_neg hq.1, if_neg hq.2.1, if_pos hq.2.2, if_neg hc19_546, if_neg hc19_548, if_neg hc19_550, if_neg hc19_552]; decide) | simp [own_find, V_env.2.2.2.2.1, hq.1, hq.2.1, hq.2.2, hc19_546, hc19_548, hc19_550, hc19_552]), N0, e0⟩ (by decide) (by decide)
def own_Qrmmin_4_4 (h0 : Heap) (n0 : Nat) (v : Option Value) (h : Heap) (L : List Loc) : Prop := v = some (.int (4 : Int32)) ∧ Fr n0 L ∧ h = h0
set_option maxRecDepth 65536 in
set_option maxHeartbeats 40000000 in
theorem rmmin_4_4 (l : Launch) (Z : State) (a0 : Array Value) (hw : own_W a0 Z) (ws : List Jvm.Cond)  (h0 : Heap) (n0 : Nat) (Z0 : n0 ≤ h0.size)  : own_Met l Z mn15 jdk_29_method_69_code 2 (some .int) ws (own_R 0 0 0 0) #[(.int (4 : Int32)), (.int (4 : Int32))] h0 (own_Qrmmin_4_4 h0 n0) := by
  refine own_enter n0 (by decide +kernel) (fun m => ef_II_2 m (4 : Int32) (4 : Int32) ) (fun p e s m below meth c s₁ hx hby hlk hml hret hown hnm hZ X0 e0 N0 => ?_)
  show own_Fin _ _ _ _ _ _ _ s₁ (mkF m 0 #[Iv 4, Iv 4] [])
  refine own_by (fun _ k => XS.iloadN X0.here hx rfl (hb hby d14_0) rfl (XS.iloadN X0.here hx rfl (hb hby d14_1) rfl (XS.icmpNo X0.here hx rfl (hb hby d14_2) rfl (flt (by decide : ¬ ((4 : Int32) < (4 : Int32)))).2.2.1 (XS.iloadN X0.here hx rfl (hb hby d14_5) rfl (XS.goto X0.here hx rfl (pc0 := 6) (pc' := 10) rfl (hb hby d14_6) (by decide) (by decide) k))))) ?_
  exact own_retI X0 hx hlk hret (hb hby d14_10) ⟨rfl, N0, e0⟩ (by decide) (by decide)
def own_QrmIo4L (ch : Int32) (x0 x1 x2 x3 : Int32) (h0 : Heap) (n0 : Nat) (v : Option Value) (h : Heap) (L : List Loc) : Prop := v = some (.int (own_find (ch.toInt8.toInt32) [x0.toInt8.toInt32, x1.toInt8.toInt32, x2.toInt8.toInt32, x3.toInt8.toInt32] (0 : Int32))) ∧ Fr n0 L ∧ h = h0
set_option maxRecDepth 65536 in
set_option maxHeartbeats 40000000 in
theorem rmIo4L (l : Launch) (Z : State) (a0 : Array Value) (hw : own_W a0 Z) (ws : List Jvm.Cond) (cs : Int32) (gS : Value) (v1 : Addr) (k1 : ClassId) (ch : Int32) (x0 x1 x2 x3 : Int32) (h0 : Heap) (n0 : Nat) (Z0 : n0 ≤ h0.size) (V_env : own_Env Z cs gS) (Od : Old Z n0 h0) (V1 : Arv Z h0 v1 k1 .byte (4 : Int32) [(.int x0.toInt8.toInt32), (.int x1.toInt8.toInt32), (.int x2.toInt8.toInt32), (.int x3.toInt8.toInt32)] (.int (0 : Int32))) (hq : own_cq ch) : own_Met l Z mn16 jdk_43_method_22_code 4 (some .int) ws (own_R 1 0 0 17) #[(.ref v1), (.int ch), (.int (0 : Int32)), (.int (4 : Int32))] h0 (own_QrmIo4L ch x0 x1 x2 x3 h0 n0) := by
  refine own_enter n0 (plainFor_of_name own_pn223) (fun m => ef_RIII_4 m v1 ch (0 : Int32) (4 : Int32) ) (fun p e s m below meth c s₁ hx hby hlk hml hret hown hnm hZ X0 e0 N0 => ?_)
  show own_Fin _ _ _ _ _ _ _ s₁ (mkF m 0 #[Rv v1, Iv ch, Iv 0, Iv 4] [])
  obtain ⟨_, _, ⟨T553, L553, k553, n553⟩, -, X553, ⟨Lc553, hQ553, l553, y553, z553⟩, st553⟩ := Jvm.LawKit.callS X0 hx (y := mn13) hown (mvT hZ (own_g hw 61 rfl)) (mvT hZ (own_g hw 62 rfl)) (mvT hZ (own_g hw 59 rfl)) (mvT hZ (own_g hw 63 rfl)) (by decide) (backOf (W := 0) (rmCe l Z a0 hw [] ch h0 n0 Z0 hq) hZ (own_g hw 63 rfl) (own_g hw 59 rfl) (by decide) (by decide)) (g := (mkF m 1 #[Rv v1, Iv ch, Iv 0, Iv 4] [(.int ch)])) rfl (by rw [hml]; rfl) (argsL := [(.int ch)]) (rest := []) (lenOf own_pd248 rfl) rfl (own_z rfl) (hb hby d11_1) (fun _ _ => ⟨rfl, e0, (by decide : 0 + 0 ≤ _), (by decide : 0 + 0 ≤ _)⟩)
  dsimp only [Pt.U, Pt.locs, Pt.cells, Pt.slots] at X553 l553 y553 z553 st553 hQ553
  subst l553 y553 z553
  obtain ⟨rfl, Nq553, eh553⟩ := hQ553
  have N553 := Fr.app N0 Nq553
  obtain ⟨_, _, ⟨T554, L554, k554, n554⟩, -, X554, ⟨Lc554, hQ554, l554, y554, z554⟩, st554⟩ := Jvm.LawKit.callS X553 hx (y := mn14) hown (mvT hZ (own_g hw 64 rfl)) (mvT hZ (own_g hw 65 rfl)) (mvT hZ (own_g hw 66 rfl)) (mvT hZ (own_g hw 67 rfl)) (by decide) (backOf (W := 0) (rmmax_0_0 l Z a0 hw []  h0 n0 Z0 ) hZ (own_g hw 67 rfl) (own_g hw 66 rfl) (by decide) (by decide)) (g := (mkF m 11 #[Rv v1, Iv ch, Iv 0, Iv 4] [(.int 0), (.int 0)])) rfl (by rw [hml]; rfl) (argsL := [(.int (0 : Int32)), (.int (0 : Int32))]) (rest := []) (lenOf own_pd253 rfl) rfl (own_z rfl) (hb hby d11_11) (fun _ _ => ⟨rfl, eh553, (by decide : 0 + 0 ≤ _), (by decide : 0 + 0 ≤ _)⟩)
  dsimp only [Pt.U, Pt.locs, Pt.cells, Pt.slots] at X554 l554 y554 z554 st554 hQ554
  subst l554 y554 z554
  obtain ⟨rfl, Nq554, eh554⟩ := hQ554
  have N554 := Fr.app N553 Nq554
  obtain ⟨cl555, Ar555, -, S555, M555, -, -⟩ := id V1
  refine own_by (fun _ k => XS.iloadN X0.here hx rfl (hb hby d11_0) rfl (st553 _ (XS.ifYes X553.here hx rfl (pc0 := 4) (pc' := 9) rfl (hb hby d11_4) rfl ((if0 _ _).trans (feq (by decide : ¬ ((1 : Int32) = (0 : Int32)))).2) (by decide) (by decide) (XS.iloadN X553.here hx rfl (hb hby d11_9) rfl (XS.iconst X553.here hx rfl (hb hby d11_10) (st554 _ (XS.istoreN X554.here hx rfl (hb hby d11_14) rfl (l' := #[Rv v1, Iv ch, Iv 0, Iv 4]) rfl (XS.iloadN X554.here hx rfl (hb hby d11_15) rfl (XS.aloadN X554.here hx rfl (hb hby d11_16) rfl rfl (X554.arraylength hx (by rw [eh554]; exact Ar555.1) (State.isArrayOf_alike hZ.alike Ar555.2.1) (g := (mkF m 17 #[Rv v1, Iv ch, Iv 0, Iv 4] [(.ref v1), (.int 4)])) rfl rfl (hb hby d11_17) _ k)))))))))) ?_
  rw [len_of S555 M555]
  show own_Fin _ _ _ _ _ _ _ T554 (mkF m 18 #[Rv v1, Iv ch, Iv 0, Iv 4] [(.int 4), (.int 4)])
  obtain ⟨_, _, ⟨T556, L556, k556, n556⟩, -, X556, ⟨Lc556, hQ556, l556, y556, z556⟩, st556⟩ := Jvm.LawKit.callS X554 hx (y := mn15) hown (mvT hZ (own_g hw 68 rfl)) (mvT hZ (own_g hw 69 rfl)) (mvT hZ (own_g hw 66 rfl)) (mvT hZ (own_g hw 70 rfl)) (by decide) (backOf (W := 0) (rmmin_4_4 l Z a0 hw []  h0 n0 Z0 ) hZ (own_g hw 70 rfl) (own_g hw 66 rfl) (by decide) (by decide)) (g := (mkF m 18 #[Rv v1, Iv ch, Iv 0, Iv 4] [(.int 4), (.int 4)])) rfl (by rw [hml]; rfl) (argsL := [(.int (4 : Int32)), (.int (4 : Int32))]) (rest := []) (lenOf own_pd253 rfl) rfl (own_z rfl) (hb hby d11_18) (fun _ _ => ⟨rfl, eh554, (by decide : 0 + 0 ≤ _), (by decide : 0 + 0 ≤ _)⟩)
  dsimp only [Pt.U, Pt.locs, Pt.cells, Pt.slots] at X556 l556 y556 z556 st556 hQ556
  subst l556 y556 z556
  obtain ⟨rfl, Nq556, eh556⟩ := hQ556
  have N556 := Fr.app N554 Nq556
  obtain ⟨_, _, ⟨T557, L557, k557, n557⟩, -, X557, ⟨Lc557, hQ557, l557, y557, z557⟩, st557⟩ := Jvm.LawKit.callS X556 hx (y := mn21) hown (mvT hZ (own_g hw 81 rfl)) (mvT hZ (own_g hw 82 rfl)) (mvT hZ (own_g hw 59 rfl)) (mvT hZ (own_g hw 83 rfl)) (by decide) (backOf (W := 0) (rmIc4L l Z a0 hw [] cs gS v1 k1 ch x0 x1 x2 x3 h0 n0 Z0 V_env Od V1 hq ) hZ (own_g hw 83 rfl) (own_g hw 59 rfl) (by decide) (by decide)) (g := (mkF m 33 #[Rv v1, Iv ch, Iv 0, Iv 4] [(.int 4), (.int 0), (.int ch), (.ref v1)])) rfl (by rw [hml]; rfl) (argsL := [(.ref v1), (.int ch), (.int (0 : Int32)), (.int (4 : Int32))]) (rest := []) (lenOf own_pd285 rfl) rfl (own_z rfl) (hb hby d11_33) (fun _ _ => ⟨rfl, eh556, (by decide : 0 + 0 ≤ _), (by decide : 0 + 0 ≤ _)⟩)
  dsimp only [Pt.U, Pt.locs, Pt.cells, Pt.slots] at X557 l557 y557 z557 st557 hQ557
  subst l557 y557 z557
  obtain ⟨rfl, Nq557, eh557⟩ := hQ557
  have N557 := Fr.app N556 Nq557
  refine own_by (fun _ k => st556 _ (XS.istoreN X556.here hx rfl (hb hby d11_21) rfl (l' := #[Rv v1, Iv ch, Iv 0, Iv 4]) rfl (XS.iloadN X556.here hx rfl (hb hby d11_22) rfl (XS.iloadN X556.here hx rfl (hb hby d11_23) rfl (XS.icmpYes X556.here hx rfl (pc0 := 24) (pc' := 29) rfl (hb hby d11_24) rfl (tlt (by decide : (0 : Int32) < (4 : Int32))).1 (by decide) (by decide) (XS.aloadN X556.here hx rfl (hb hby d11_29) rfl rfl (XS.iloadN X556.here hx rfl (hb hby d11_30) rfl (XS.iloadN X556.here hx rfl (hb hby d11_31) rfl (XS.iloadN X556.here hx rfl (hb hby d11_32) rfl (st557 _ k)))))))))) ?_
  exact own_retI X557 hx hlk hret (hb hby d11_36) ⟨rfl, N557, eh557⟩ (by decide) (by decide)
def own_QrmSl4_L (h0 : Heap) (n0 : Nat) (v : Option Value) (h : Heap) (L : List Loc) : Prop := v = some (.int (4 : Int32)) ∧ Fr n0 L ∧ h = h0
set_option maxRecDepth 65536 in
set_option maxHeartbeats 40000000 in
theorem rmSl4_L (l : Launch) (Z : State) (a0 : Array Value) (hw : own_W a0 Z) (ws : List Jvm.Cond) (cs : Int32) (gS : Value) (a1 v1 : Addr) (k1 : ClassId) (vs : List Value) (h0 : Heap) (n0 : Nat) (Z0 : n0 ≤ h0.size) (V_env : own_Env Z cs gS) (Od : Old Z n0 h0) (E_a1 : Exa Z h0 a1 "java/lang/String") (F1 : Fld Z h0 a1 "java/lang/String" "value" "[B" (.ref v1)) (F2 : Fld Z h0 a1 "java/lang/String" "coder" "B" (.int (0 : Int32))) (V1 : Arv Z h0 v1 k1 .byte (4 : Int32) vs (.int (0 : Int32))) : own_Met l Z mn17 jdk_42_method_54_code 1 (some .int) ws (own_R 1 0 0 13) #[(.ref a1)] h0 (own_QrmSl4_L h0 n0) := by
  refine own_enter n0 (plainFor_of_name own_pn16) (fun m => ef_R_1 m a1 ) (fun p e s m below meth c s₁ hx hby hlk hml hret hown hnm hZ X0 e0 N0 => ?_)
  show own_Fin _ _ _ _ _ _ _ s₁ (mkF m 0 #[Rv a1] [])
  obtain ⟨T558, X558, e558, st558⟩ := getF X0 hx hZ hown (host := "") (Or.inl (own_g hw 25 rfl)) Via.refl e0 F1 (g := (mkF m 1 #[Rv a1] [(.ref a1)])) rfl rfl (hb hby d9_1)
  obtain ⟨cl559, Ar559, -, S559, M559, -, -⟩ := id V1
  refine own_by (fun _ k => XS.aloadN X0.here hx rfl (hb hby d9_0) rfl rfl (st558 _ (X558.arraylength hx (by rw [e558]; exact Ar559.1) (State.isArrayOf_alike hZ.alike Ar559.2.1) (g := (mkF m 4 #[Rv a1] [(.ref v1)])) rfl rfl (hb hby d9_4) _ k))) ?_
  rw [len_of S559 M559]
  show own_Fin _ _ _ _ _ _ _ T558 (mkF m 5 #[Rv a1] [(.int 4)])
  obtain ⟨cq560, kq560, q560a, q560b, q560c⟩ := isOf hZ e558 E_a1
  obtain ⟨_, _, ⟨T560, L560, k560, n560⟩, -, X560, ⟨Lc560, hQ560, l560, y560, z560⟩, st560⟩ := X558.virtualBack hx (y := mn12) (z := mn12) hown (mvT hZ (own_g hw 52 rfl)) (mvT hZ (own_g hw 53 rfl)) (notFace_of_selects (args := #[]) (mvT hZ (own_g hw 55 rfl))) (mvT hZ (own_g hw 55 rfl)) (mvT hZ (own_g hw 54 rfl)) (by decide) (backOf (W := 1) (rmCd0 l Z a0 hw [] cs gS a1 h0 n0 Z0 V_env Od F2) hZ (own_g hw 56 rfl) (own_g hw 8 rfl) (by decide) (by decide)) q560a q560c (g := (mkF m 6 #[Rv a1] [(.ref a1), (.int 4)])) rfl (by rw [hml]; rfl) (Steps.refl _) (argsL := []) (rest := [(.int (4 : Int32))]) (lenOf own_pd270 rfl) rfl (own_z rfl) (hb hby d9_6) (fun _ _ => ⟨rfl, e558, (by decide : 0 + 0 ≤ _), (by decide : 0 + 0 ≤ _)⟩)
  dsimp only [Pt.U, Pt.locs, Pt.cells, Pt.slots] at X560 l560 y560 z560 st560 hQ560
  subst l560 y560 z560
  obtain ⟨rfl, Nq560, eh560⟩ := hQ560
  have N560 := Fr.app N0 Nq560
  refine own_by (fun _ k => XS.aloadN X558.here hx rfl (hb hby d9_5) rfl rfl (st560.trans (XS.ishr X560.here hx rfl (hb hby d9_9) rfl k))) ?_
  show own_Fin _ _ _ _ _ _ _ T560 (mkF m 10 #[Rv a1] [(.int ((4 : Int32) >>> ((0 : Int32) &&& 31)))])
  rw [(by decide : ((4 : Int32) >>> ((0 : Int32) &&& 31)) = (4 : Int32))]
  show own_Fin _ _ _ _ _ _ _ T560 (mkF m 10 #[Rv a1] [(.int 4)])
  exact own_retI X560 hx hlk hret (hb hby d9_10) ⟨rfl, N560, eh560⟩ (by decide) (by decide)
def own_QrmI24L (ch : Int32) (x0 x1 x2 x3 : Int32) (h0 : Heap) (n0 : Nat) (v : Option Value) (h : Heap) (L : List Loc) : Prop := v = some (.int (own_find (ch.toInt8.toInt32) [x0.toInt8.toInt32, x1.toInt8.toInt32, x2.toInt8.toInt32, x3.toInt8.toInt32] (0 : Int32))) ∧ Fr n0 L ∧ h = h0
set_option maxRecDepth 65536 in
set_option maxHeartbeats 40000000 in
theorem rmI24L (l : Launch) (Z : State) (a0 : Array Value) (hw : own_W a0 Z) (ws : List Jvm.Cond) (cs : Int32) (gS : Value) (a1 : Addr) (v1 : Addr) (k1 : ClassId) (ch : Int32) (x0 x1 x2 x3 : Int32) (h0 : Heap) (n0 : Nat) (Z0 : n0 ≤ h0.size) (V_env : own_Env Z cs gS) (Od : Old Z n0 h0) (E_a1 : Exa Z h0 a1 "java/lang/String") (F1 : Fld Z h0 a1 "java/lang/String" "value" "[B" (.ref v1)) (F2 : Fld Z h0 a1 "java/lang/String" "coder" "B" (.int (0 : Int32))) (V1 : Arv Z h0 v1 k1 .byte (4 : Int32) [(.int x0.toInt8.toInt32), (.int x1.toInt8.toInt32), (.int x2.toInt8.toInt32), (.int x3.toInt8.toInt32)] (.int (0 : Int32))) (hq : own_cq ch) : own_Met l Z mn18 jdk_42_method_80_code 3 (some .int) ws (own_R 2 0 0 32) #[(.ref a1), (.int ch), (.int (0 : Int32))] h0 (own_QrmI24L ch x0 x1 x2 x3 h0 n0) := by
  refine own_enter n0 (plainFor_of_name own_pn16) (fun m => ef_RII_3 m a1 ch (0 : Int32) ) (fun p e s m below meth c s₁ hx hby hlk hml hret hown hnm hZ X0 e0 N0 => ?_)
  show own_Fin _ _ _ _ _ _ _ s₁ (mkF m 0 #[Rv a1, Iv ch, Iv 0] [])
  obtain ⟨cq561, kq561, q561a, q561b, q561c⟩ := isOf hZ e0 E_a1
  obtain ⟨_, _, ⟨T561, L561, k561, n561⟩, -, X561, ⟨Lc561, hQ561, l561, y561, z561⟩, st561⟩ := X0.virtualBack hx (y := mn11) (z := mn11) hown (mvT hZ (own_g hw 41 rfl)) (mvT hZ (own_g hw 42 rfl)) (notFace_of_selects (args := #[]) (mvT hZ (own_g hw 44 rfl))) (mvT hZ (own_g hw 44 rfl)) (mvT hZ (own_g hw 43 rfl)) (by decide) (backOf (W := 0) (rmIs0 l Z a0 hw [] cs gS a1 h0 n0 Z0 V_env Od F2) hZ (own_g hw 45 rfl) (own_g hw 8 rfl) (by decide) (by decide)) q561a q561c (g := (mkF m 1 #[Rv a1, Iv ch, Iv 0] [(.ref a1)])) rfl (by rw [hml]; rfl) (Steps.refl _) (argsL := []) (rest := []) (lenOf own_pd275 rfl) rfl (own_z rfl) (hb hby d7_1) (fun _ _ => ⟨rfl, e0, (by decide : 0 + 0 ≤ _), (by decide : 0 + 0 ≤ _)⟩)
  dsimp only [Pt.U, Pt.locs, Pt.cells, Pt.slots] at X561 l561 y561 z561 st561 hQ561
  subst l561 y561 z561
  obtain ⟨rfl, Nq561, eh561⟩ := hQ561
  have N561 := Fr.app N0 Nq561
  obtain ⟨T562, X562, e562, st562⟩ := getF X561 hx hZ hown (host := "") (Or.inl (own_g hw 25 rfl)) Via.refl eh561 F1 (g := (mkF m 8 #[Rv a1, Iv ch, Iv 0] [(.ref a1)])) rfl rfl (hb hby d7_8)
  obtain ⟨cq563, kq563, q563a, q563b, q563c⟩ := isOf hZ e562 E_a1
  obtain ⟨_, _, ⟨T563, L563, k563, n563⟩, -, X563, ⟨Lc563, hQ563, l563, y563, z563⟩, st563⟩ := X562.virtualBack hx (y := mn17) (z := mn17) hown (mvT hZ (own_g hw 47 rfl)) (mvT hZ (own_g hw 48 rfl)) (notFace_of_selects (args := #[]) (mvT hZ (own_g hw 50 rfl))) (mvT hZ (own_g hw 50 rfl)) (mvT hZ (own_g hw 49 rfl)) (by decide) (backOf (W := 3) (rmSl4_L l Z a0 hw [] cs gS a1 v1 k1 [(.int x0.toInt8.toInt32), (.int x1.toInt8.toInt32), (.int x2.toInt8.toInt32), (.int x3.toInt8.toInt32)] h0 n0 Z0 V_env Od E_a1 F1 F2 V1) hZ (own_g hw 51 rfl) (own_g hw 8 rfl) (by decide) (by decide)) q563a q563c (g := (mkF m 14 #[Rv a1, Iv ch, Iv 0] [(.ref a1), (.int 0), (.int ch), (.ref v1)])) rfl (by rw [hml]; rfl) (Steps.refl _) (argsL := []) (rest := [(.int (0 : Int32)), (.int ch), (.ref v1)]) (lenOf own_pd283 rfl) rfl (own_z rfl) (hb hby d7_14) (fun _ _ => ⟨rfl, e562, (by decide : 0 + 0 ≤ _), (by decide : 0 + 0 ≤ _)⟩)
  dsimp only [Pt.U, Pt.locs, Pt.cells, Pt.slots] at X563 l563 y563 z563 st563 hQ563
  subst l563 y563 z563
  obtain ⟨rfl, Nq563, eh563⟩ := hQ563
  have N563 := Fr.app N561 Nq563
  obtain ⟨_, _, ⟨T564, L564, k564, n564⟩, -, X564, ⟨Lc564, hQ564, l564, y564, z564⟩, st564⟩ := Jvm.LawKit.callS X563 hx (y := mn16) hown (mvT hZ (own_g hw 57 rfl)) (mvT hZ (own_g hw 58 rfl)) (mvT hZ (own_g hw 59 rfl)) (mvT hZ (own_g hw 60 rfl)) (by decide) (backOf (W := 0) (rmIo4L l Z a0 hw [] cs gS v1 k1 ch x0 x1 x2 x3 h0 n0 Z0 V_env Od V1 hq ) hZ (own_g hw 60 rfl) (own_g hw 59 rfl) (by decide) (by decide)) (g := (mkF m 17 #[Rv a1, Iv ch, Iv 0] [(.int 4), (.int 0), (.int ch), (.ref v1)])) rfl (by rw [hml]; rfl) (argsL := [(.ref v1), (.int ch), (.int (0 : Int32)), (.int (4 : Int32))]) (rest := []) (lenOf own_pd285 rfl) rfl (own_z rfl) (hb hby d7_17) (fun _ _ => ⟨rfl, eh563, (by decide : 0 + 0 ≤ _), (by decide : 0 + 0 ≤ _)⟩)
  dsimp only [Pt.U, Pt.locs, Pt.cells, Pt.slots] at X564 l564 y564 z564 st564 hQ564
  subst l564 y564 z564
  obtain ⟨rfl, Nq564, eh564⟩ := hQ564
  have N564 := Fr.app N563 Nq564
  refine own_by (fun _ k => XS.aloadN X0.here hx rfl (hb hby d7_0) rfl rfl (st561.trans (XS.ifNo X561.here hx rfl (hb hby d7_4) rfl ((if0 _ _).trans (feq (by decide : ¬ ((1 : Int32) = (0 : Int32)))).1) (XS.aloadN X561.here hx rfl (hb hby d7_7) rfl rfl (st562 _ (XS.iloadN X562.here hx rfl (hb hby d7_11) rfl (XS.iloadN X562.here hx rfl (hb hby d7_12) rfl (XS.aloadN X562.here hx rfl (hb hby d7_13) rfl rfl (st563.trans (st564 _ k)))))))))) ?_
  show own_Fin _ _ _ _ _ _ _ T564 (mkF m 20 #[Rv a1, Iv ch, Iv 0] [(.int (own_find (ch.toInt8.toInt32) [x0.toInt8.toInt32, x1.toInt8.toInt32, x2.toInt8.toInt32, x3.toInt8.toInt32] (0 : Int32)))])
  refine own_by (fun _ k => XS.goto X564.here hx rfl (pc0 := 20) (pc' := 36) rfl (hb hby d7_20) (by decide) (by decide) k) ?_
  exact own_retI X564 hx hlk hret (hb hby d7_36) ⟨rfl, N564, eh564⟩ (by decide) (by decide)
def own_QrmIx4L (ch : Int32) (x0 x1 x2 x3 : Int32) (h0 : Heap) (n0 : Nat) (v : Option Value) (h : Heap) (L : List Loc) : Prop := v = some (.int (own_find (ch.toInt8.toInt32) [x0.toInt8.toInt32, x1.toInt8.toInt32, x2.toInt8.toInt32, x3.toInt8.toInt32] (0 : Int32))) ∧ Fr n0 L ∧ h = h0
set_option maxRecDepth 65536 in
set_option maxHeartbeats 40000000 in
theorem rmIx4L (l : Launch) (Z : State) (a0 : Array Value) (hw : own_W a0 Z) (ws : List Jvm.Cond) (cs : Int32) (gS : Value) (a1 : Addr) (v1 : Addr) (k1 : ClassId) (ch : Int32) (x0 x1 x2 x3 : Int32) (h0 : Heap) (n0 : Nat) (Z0 : n0 ≤ h0.size) (V_env : own_Env Z cs gS) (Od : Old Z n0 h0) (E_a1 : Exa Z h0 a1 "java/lang/String") (F1 : Fld Z h0 a1 "java/lang/String" "value" "[B" (.ref v1)) (F2 : Fld Z h0 a1 "java/lang/String" "coder" "B" (.int (0 : Int32))) (V1 : Arv Z h0 v1 k1 .byte (4 : Int32) [(.int x0.toInt8.toInt32), (.int x1.toInt8.toInt32), (.int x2.toInt8.toInt32), (.int x3.toInt8.toInt32)] (.int (0 : Int32))) (hq : own_cq ch) : own_Met l Z mn19 jdk_42_method_79_code 2 (some .int) ws (own_R 3 0 0 46) #[(.ref a1), (.int ch)] h0 (own_QrmIx4L ch x0 x1 x2 x3 h0 n0) := by
  refine own_enter n0 (plainFor_of_name own_pn16) (fun m => ef_RI_2 m a1 ch ) (fun p e s m below meth c s₁ hx hby hlk hml hret hown hnm hZ X0 e0 N0 => ?_)
  show own_Fin _ _ _ _ _ _ _ s₁ (mkF m 0 #[Rv a1, Iv ch] [])
  obtain ⟨cq565, kq565, q565a, q565b, q565c⟩ := isOf hZ e0 E_a1
  obtain ⟨_, _, ⟨T565, L565, k565, n565⟩, -, X565, ⟨Lc565, hQ565, l565, y565, z565⟩, st565⟩ := X0.virtualBack hx (y := mn18) (z := mn18) hown (mvT hZ (own_g hw 36 rfl)) (mvT hZ (own_g hw 37 rfl)) (notFace_of_selects (args := #[]) (mvT hZ (own_g hw 39 rfl))) (mvT hZ (own_g hw 39 rfl)) (mvT hZ (own_g hw 38 rfl)) (by decide) (backOf (W := 0) (rmI24L l Z a0 hw [] cs gS a1 v1 k1 ch x0 x1 x2 x3 h0 n0 Z0 V_env Od E_a1 F1 F2 V1 hq ) hZ (own_g hw 40 rfl) (own_g hw 8 rfl) (by decide) (by decide)) q565a q565c (g := (mkF m 3 #[Rv a1, Iv ch] [(.int 0), (.int ch), (.ref a1)])) rfl (by rw [hml]; rfl) (Steps.refl _) (argsL := [(.int ch), (.int (0 : Int32))]) (rest := []) (lenOf own_pd253 rfl) rfl (own_z rfl) (hb hby d6_3) (fun _ _ => ⟨rfl, e0, (by decide : 0 + 0 ≤ _), (by decide : 0 + 0 ≤ _)⟩)
  dsimp only [Pt.U, Pt.locs, Pt.cells, Pt.slots] at X565 l565 y565 z565 st565 hQ565
  subst l565 y565 z565
  obtain ⟨rfl, Nq565, eh565⟩ := hQ565
  have N565 := Fr.app N0 Nq565
  refine own_by (fun _ k => XS.aloadN X0.here hx rfl (hb hby d6_0) rfl rfl (XS.iloadN X0.here hx rfl (hb hby d6_1) rfl (XS.iconst X0.here hx rfl (hb hby d6_2) (st565.trans k)))) ?_
  exact own_retI X565 hx hlk hret (hb hby d6_6) ⟨rfl, N565, eh565⟩ (by decide) (by decide)
def own_QIS4L (x0 x1 x2 x3 : Int32) (h0 : Heap) (n0 : Nat) (v : Option Value) (h : Heap) (L : List Loc) : Prop := v = some (.int (own_neg (own_find ((0 : Int32).toInt8.toInt32) [x0.toInt8.toInt32, x1.toInt8.toInt32, x2.toInt8.toInt32, x3.toInt8.toInt32] (0 : Int32)))) ∧ Fr n0 L ∧ h = h0
set_option maxRecDepth 65536 in
set_option maxHeartbeats 40000000 in
theorem rmIS4L (l : Launch) (Z : State) (a0 : Array Value) (hw : own_W a0 Z) (ws : List Jvm.Cond) (cs : Int32) (gS : Value) (a1 v1 : Addr) (k1 : ClassId) (x0 x1 x2 x3 : Int32)  (h0 : Heap) (n0 : Nat) (Z0 : n0 ≤ h0.size) (V_env : own_Env Z cs gS) (Od : Old Z n0 h0) (E_a1 : Exa Z h0 a1 "java/lang/String") (F1 : Fld Z h0 a1 "java/lang/String" "value" "[B" (.ref v1)) (F2 : Fld Z h0 a1 "java/lang/String" "coder" "B" (.int (0 : Int32))) (V1 : Arv Z h0 v1 k1 .byte (4 : Int32) [(.int x0.toInt8.toInt32), (.int x1.toInt8.toInt32), (.int x2.toInt8.toInt32), (.int x3.toInt8.toInt32)] (.int (0 : Int32))) : own_Met l Z mn20 prog_26_method_2_code 1 (some .boolean) ws (own_R 4 0 0 59) #[(.ref a1)] h0 (own_QIS4L x0 x1 x2 x3 h0 n0) := by
  refine own_enter n0 (plainFor_of_name own_pn293) (fun m => ef_R_1 m a1 ) (fun p e s m below meth c s₁ hx hby hlk hml hret hown hnm hZ X0 e0 N0 => ?_)
  show own_Fin _ _ _ _ _ _ _ s₁ (mkF m 0 #[Rv a1] [])
  obtain ⟨cq566, kq566, q566a, q566b, q566c⟩ := isOf hZ e0 E_a1
  obtain ⟨_, _, ⟨T566, L566, k566, n566⟩, -, X566, ⟨Lc566, hQ566, l566, y566, z566⟩, st566⟩ := X0.virtualBack hx (y := mn19) (z := mn19) hown (mvT hZ (own_g hw 31 rfl)) (mvT hZ (own_g hw 32 rfl)) (notFace_of_selects (args := #[]) (mvT hZ (own_g hw 34 rfl))) (mvT hZ (own_g hw 34 rfl)) (mvT hZ (own_g hw 33 rfl)) (by decide) (backOf (W := 0) (rmIx4L l Z a0 hw [] cs gS a1 v1 k1 (0 : Int32) x0 x1 x2 x3 h0 n0 Z0 V_env Od E_a1 F1 F2 V1 ⟨by decide, by decide, by decide⟩ ) hZ (own_g hw 35 rfl) (own_g hw 8 rfl) (by decide) (by decide)) q566a q566c (g := (mkF m 2 #[Rv a1] [(.int 0), (.ref a1)])) rfl (by rw [hml]; rfl) (Steps.refl _) (argsL := [(.int (0 : Int32))]) (rest := []) (lenOf own_pd52 rfl) rfl (own_z rfl) (hb hby d5_2) (fun _ _ => ⟨rfl, e0, (by decide : 0 + 0 ≤ _), (by decide : 0 + 0 ≤ _)⟩)
  dsimp only [Pt.U, Pt.locs, Pt.cells, Pt.slots] at X566 l566 y566 z566 st566 hQ566
  subst l566 y566 z566
  obtain ⟨rfl, Nq566, eh566⟩ := hQ566
  have N566 := Fr.app N0 Nq566
  refine own_by (fun _ k => XS.aloadN X0.here hx rfl (hb hby d5_0) rfl rfl (XS.iconst X0.here hx rfl (hb hby d5_1) (st566.trans k))) ?_
  show own_Fin _ _ _ _ _ _ _ T566 (mkF m 5 #[Rv a1] [(.int (own_find ((0 : Int32).toInt8.toInt32) [x0.toInt8.toInt32, x1.toInt8.toInt32, x2.toInt8.toInt32, x3.toInt8.toInt32] (0 : Int32)))])
  by_cases hc5_567 : (own_find ((0 : Int32).toInt8.toInt32) [x0.toInt8.toInt32, x1.toInt8.toInt32, x2.toInt8.toInt32, x3.toInt8.toInt32] (0 : Int32)) < (0 : Int32)
  · show own_Fin _ _ _ _ _ _ _ T566 (mkF m 5 #[Rv a1] [(.int (own_find ((0 : Int32).toInt8.toInt32) [x0.toInt8.toInt32, x1.toInt8.toInt32, x2.toInt8.toInt32, x3.toInt8.toInt32] (0 : Int32)))])
    refine own_by (fun _ k => XS.ifNo X566.here hx rfl (hb hby d5_5) rfl ((if0 _ _).trans (tlt hc5_567).2.1) (XS.iconst X566.here hx rfl (hb hby d5_8) (XS.goto X566.here hx rfl (pc0 := 9) (pc' := 13) rfl (hb hby d5_9) (by decide) (by decide) k))) ?_
    exact own_retZ X566 hx hlk (t := .boolean) hret (by simp) (hb hby d5_13) ⟨own_vi (by show (1 : Int32) = _; first | (simp only [own_neg, if_neg V_env.2.2.2.2.1, if_pos hc5_567]; done) | (simp only [own_neg, if_neg V_env.2.2.2.2.1, if_pos hc5_567]; decide) | simp [own_neg, V_env.2.2.2.2.1, hc5_567]), N566, eh566⟩ (by decide) (by decide)
  · show own_Fin _ _ _ _ _ _ _ T566 (mkF m 5 #[Rv a1] [(.int (own_find ((0 : Int32).toInt8.toInt32) [x0.toInt8.toInt32, x1.toInt8.toInt32, x2.toInt8.toInt32, x3.toInt8.toInt32] (0 : Int32)))])
    refine own_by (fun _ k => XS.ifYes X566.here hx rfl (pc0 := 5) (pc' := 12) rfl (hb hby d5_5) rfl ((if0 _ _).trans (flt hc5_567).2.1) (by decide) (by decide) (XS.iconst X566.here hx rfl (hb hby d5_12) k)) ?_
    exact own_retZ X566 hx hlk (t := .boolean) hret (by simp) (hb hby d5_13) ⟨own_vi (by show (0 : Int32) = _; first | (simp only [own_neg, if_neg V_env.2.2.2.2.1, if_neg hc5_567]; done) | (simp only [own_neg, if_neg V_env.2.2.2.2.1, if_neg hc5_567]; decide) | simp [own_neg, V_env.2.2.2.2.1, hc5_567]), N566, eh566⟩ (by decide) (by decide)
def own_QrmLu4 (h0 : Heap) (n0 : Nat) (v : Option Value) (h : Heap) (L : List Loc) : Prop := v = some (.int (4 : Int32)) ∧ Fr n0 L ∧ h = h0
set_option maxRecDepth 65536 in
set_option maxHeartbeats 40000000 in
theorem rmLu4 (l : Launch) (Z : State) (a0 : Array Value) (hw : own_W a0 Z) (ws : List Jvm.Cond) (v1 : Addr) (k1 : ClassId) (vs : List Value) (h0 : Heap) (n0 : Nat) (Z0 : n0 ≤ h0.size) (V1 : Arv Z h0 v1 k1 .byte (8 : Int32) vs (.int (0 : Int32))) : own_Met l Z mn22 jdk_52_method_6_code 1 (some .int) ws (own_R 0 0 0 0) #[(.ref v1)] h0 (own_QrmLu4 h0 n0) := by
  refine own_enter n0 (plainFor_of_name own_pn40) (fun m => ef_R_1 m v1 ) (fun p e s m below meth c s₁ hx hby hlk hml hret hown hnm hZ X0 e0 N0 => ?_)
  show own_Fin _ _ _ _ _ _ _ s₁ (mkF m 0 #[Rv v1] [])
  obtain ⟨cl568, Ar568, -, S568, M568, -, -⟩ := id V1
  refine own_by (fun _ k => XS.aloadN X0.here hx rfl (hb hby d27_0) rfl rfl (X0.arraylength hx (by rw [e0]; exact Ar568.1) (State.isArrayOf_alike hZ.alike Ar568.2.1) (g := (mkF m 1 #[Rv v1] [(.ref v1)])) rfl rfl (hb hby d27_1) _ k)) ?_
  rw [len_of S568 M568]
  show own_Fin _ _ _ _ _ _ _ s₁ (mkF m 2 #[Rv v1] [(.int 8)])
  refine own_by (fun _ k => XS.iconst X0.here hx rfl (hb hby d27_2) (XS.ishr X0.here hx rfl (hb hby d27_3) rfl k)) ?_
  show own_Fin _ _ _ _ _ _ _ s₁ (mkF m 4 #[Rv v1] [(.int ((8 : Int32) >>> ((1 : Int32) &&& 31)))])
  rw [(by decide : ((8 : Int32) >>> ((1 : Int32) &&& 31)) = (4 : Int32))]
  show own_Fin _ _ _ _ _ _ _ s₁ (mkF m 4 #[Rv v1] [(.int 4)])
  exact own_retI X0 hx hlk hret (hb hby d27_4) ⟨rfl, N0, e0⟩ (by decide) (by decide)
def own_QrmCf4 (h0 : Heap) (n0 : Nat) (v : Option Value) (h : Heap) (L : List Loc) : Prop := v = some (.int (0 : Int32)) ∧ Fr n0 L ∧ h = h0
set_option maxRecDepth 65536 in
set_option maxHeartbeats 40000000 in
theorem rmCf4 (l : Launch) (Z : State) (a0 : Array Value) (hw : own_W a0 Z) (ws : List Jvm.Cond) (gS : Value) (h0 : Heap) (n0 : Nat) (Z0 : n0 ≤ h0.size) (hgS : gS.isRef = true) : own_Met l Z mn23 jdk_41_method_12_code 4 (some .int) ws (own_R 0 0 0 0) #[(.int (0 : Int32)), (.int (4 : Int32)), (.int (4 : Int32)), gS] h0 (own_QrmCf4 h0 n0) := by
  refine own_enter n0 (plainFor_of_name own_pn334) (fun m => ef_IIIV_4 m (0 : Int32) (4 : Int32) (4 : Int32) gS (by rcases ref_cases (by assumption : (gS).isRef = true) with h | ⟨_, h⟩ <;> rw [h] <;> rfl)) (fun p e s m below meth c s₁ hx hby hlk hml hret hown hnm hZ X0 e0 N0 => ?_)
  show own_Fin _ _ _ _ _ _ _ s₁ (mkF m 0 #[Iv 0, Iv 4, Iv 4, .val gS] [])
  refine own_by (fun _ k => XS.iloadN X0.here hx rfl (hb hby d29_0) rfl (XS.ifNo X0.here hx rfl (hb hby d29_1) rfl ((if0 _ _).trans (flt (by decide : ¬ ((0 : Int32) < (0 : Int32)))).1) (XS.iloadN X0.here hx rfl (hb hby d29_4) rfl (XS.iloadN X0.here hx rfl (hb hby d29_5) rfl (XS.icmpNo X0.here hx rfl (hb hby d29_6) rfl (flt (by decide : ¬ ((4 : Int32) < (0 : Int32)))).2.2.1 (XS.iloadN X0.here hx rfl (hb hby d29_9) rfl (XS.iloadN X0.here hx rfl (hb hby d29_10) rfl (XS.icmpYes X0.here hx rfl (pc0 := 11) (pc' := 22) rfl (hb hby d29_11) rfl (flt (by decide : ¬ ((4 : Int32) < (4 : Int32)))).2.2.2 (by decide) (by decide) (XS.iloadN X0.here hx rfl (hb hby d29_22) rfl k))))))))) ?_
  exact own_retI X0 hx hlk hret (hb hby d29_23) ⟨rfl, N0, e0⟩ (by decide) (by decide)
def own_QCb4 (h0 : Heap) (n0 : Nat) (v : Option Value) (h : Heap) (L : List Loc) : Prop := v = none ∧ Fr n0 L ∧ h = h0
set_option maxRecDepth 65536 in
set_option maxHeartbeats 40000000 in
theorem rmCb4 (l : Launch) (Z : State) (a0 : Array Value) (hw : own_W a0 Z) (ws : List Jvm.Cond) (cs : Int32) (gS : Value) (h0 : Heap) (n0 : Nat) (Z0 : n0 ≤ h0.size) (V_env : own_Env Z cs gS) (Od : Old Z n0 h0) : own_Met l Z mn24 jdk_42_method_158_code 3 none ws (own_R 1 0 0 15) #[(.int (0 : Int32)), (.int (4 : Int32)), (.int (4 : Int32))] h0 (own_QCb4 h0 n0) := by
  refine own_enter n0 (plainFor_of_name own_pn16) (fun m => ef_III_3 m (0 : Int32) (4 : Int32) (4 : Int32) ) (fun p e s m below meth c s₁ hx hby hlk hml hret hown hnm hZ X0 e0 N0 => ?_)
  show own_Fin _ _ _ _ _ _ _ s₁ (mkF m 0 #[Iv 0, Iv 4, Iv 4] [])
  have hgS : gS.isRef = true := V_env.2.2.2.2.2.2
  obtain ⟨T569, X569, e569, st569⟩ := getS2 X0 hx hZ hown (host := "") (Or.inl (own_g hw 122 rfl)) Via.refl e0 (V_env.2.2.2.2.2.1.ext Od.2) (g := (mkF m 3 #[Iv 0, Iv 4, Iv 4] [(.int 4), (.int 4), (.int 0)])) rfl (hb hby d28_3)
  obtain ⟨_, _, ⟨T570, L570, k570, n570⟩, -, X570, ⟨Lc570, hQ570, l570, y570, z570⟩, st570⟩ := Jvm.LawKit.callS X569 hx (y := mn23) hown (mvT hZ (own_g hw 124 rfl)) (mvT hZ (own_g hw 125 rfl)) (mvT hZ (own_g hw 123 rfl)) (mvT hZ (own_g hw 126 rfl)) (by decide) (backOf (W := 0) (rmCf4 l Z a0 hw [] gS h0 n0 Z0 hgS) hZ (own_g hw 126 rfl) (own_g hw 123 rfl) (by decide) (by decide)) (g := (mkF m 6 #[Iv 0, Iv 4, Iv 4] [gS, (.int 4), (.int 4), (.int 0)])) rfl (by rw [hml]; rfl) (argsL := [(.int (0 : Int32)), (.int (4 : Int32)), (.int (4 : Int32)), gS]) (rest := []) (lenOf own_pd351 rfl) rfl (own_z rfl) (hb hby d28_6) (fun _ _ => ⟨rfl, e569, (by decide : 0 + 0 ≤ _), (by decide : 0 + 0 ≤ _)⟩)
  dsimp only [Pt.U, Pt.locs, Pt.cells, Pt.slots] at X570 l570 y570 z570 st570 hQ570
  subst l570 y570 z570
  obtain ⟨rfl, Nq570, eh570⟩ := hQ570
  have N570 := Fr.app N0 Nq570
  refine own_by (fun _ k => XS.iloadN X0.here hx rfl (hb hby d28_0) rfl (XS.iloadN X0.here hx rfl (hb hby d28_1) rfl (XS.iloadN X0.here hx rfl (hb hby d28_2) rfl (st569 _ (st570 _ (XS.pop X570.here hx rfl (hb hby d28_9) rfl rfl k)))))) ?_
  exact own_retV X570 hx hlk hret (hb hby d28_10) ⟨rfl, N570, eh570⟩ (by decide) (by decide)
set_option maxRecDepth 65536 in
set_option maxHeartbeats 40000000 in
theorem rmCu4 (l : Launch) (Z : State) (a0 : Array Value) (hw : own_W a0 Z) (ws : List Jvm.Cond) (cs : Int32) (gS : Value) (v1 : Addr) (k1 : ClassId) (vs : List Value) (h0 : Heap) (n0 : Nat) (Z0 : n0 ≤ h0.size) (V_env : own_Env Z cs gS) (Od : Old Z n0 h0) (V1 : Arv Z h0 v1 k1 .byte (8 : Int32) vs (.int (0 : Int32))) : own_Met l Z mn25 jdk_52_method_93_code 3 none ws (own_R 2 0 0 29) #[(.int (0 : Int32)), (.int (4 : Int32)), (.ref v1)] h0 (own_QCb4 h0 n0) := by
  refine own_enter n0 (plainFor_of_name own_pn40) (fun m => ef_IIR_3 m (0 : Int32) (4 : Int32) v1 ) (fun p e s m below meth c s₁ hx hby hlk hml hret hown hnm hZ X0 e0 N0 => ?_)
  show own_Fin _ _ _ _ _ _ _ s₁ (mkF m 0 #[Iv 0, Iv 4, Rv v1] [])
  obtain ⟨_, _, ⟨T571, L571, k571, n571⟩, -, X571, ⟨Lc571, hQ571, l571, y571, z571⟩, st571⟩ := Jvm.LawKit.callS X0 hx (y := mn22) hown (mvT hZ (own_g hw 116 rfl)) (mvT hZ (own_g hw 117 rfl)) (mvT hZ (own_g hw 73 rfl)) (mvT hZ (own_g hw 118 rfl)) (by decide) (backOf (W := 2) (rmLu4 l Z a0 hw [] v1 k1 vs h0 n0 Z0 V1) hZ (own_g hw 118 rfl) (own_g hw 73 rfl) (by decide) (by decide)) (g := (mkF m 3 #[Iv 0, Iv 4, Rv v1] [(.ref v1), (.int 4), (.int 0)])) rfl (by rw [hml]; rfl) (argsL := [(.ref v1)]) (rest := [(.int (4 : Int32)), (.int (0 : Int32))]) (lenOf own_pd359 rfl) rfl (own_z rfl) (hb hby d26_3) (fun _ _ => ⟨rfl, e0, (by decide : 0 + 0 ≤ _), (by decide : 0 + 0 ≤ _)⟩)
  dsimp only [Pt.U, Pt.locs, Pt.cells, Pt.slots] at X571 l571 y571 z571 st571 hQ571
  subst l571 y571 z571
  obtain ⟨rfl, Nq571, eh571⟩ := hQ571
  have N571 := Fr.app N0 Nq571
  obtain ⟨_, _, ⟨T572, L572, k572, n572⟩, -, X572, ⟨Lc572, hQ572, l572, y572, z572⟩, st572⟩ := Jvm.LawKit.callS X571 hx (y := mn24) hown (mvT hZ (own_g hw 119 rfl)) (mvT hZ (own_g hw 120 rfl)) (mvT hZ (own_g hw 8 rfl)) (mvT hZ (own_g hw 121 rfl)) (by decide) (backOf (W := 0) (rmCb4 l Z a0 hw [] cs gS h0 n0 Z0 V_env Od) hZ (own_g hw 121 rfl) (own_g hw 8 rfl) (by decide) (by decide)) (g := (mkF m 6 #[Iv 0, Iv 4, Rv v1] [(.int 4), (.int 4), (.int 0)])) rfl (by rw [hml]; rfl) (argsL := [(.int (0 : Int32)), (.int (4 : Int32)), (.int (4 : Int32))]) (rest := []) (lenOf own_pd361 rfl) rfl (own_z rfl) (hb hby d26_6) (fun _ _ => ⟨rfl, eh571, (by decide : 0 + 0 ≤ _), (by decide : 0 + 0 ≤ _)⟩)
  dsimp only [Pt.U, Pt.locs, Pt.cells, Pt.slots] at X572 l572 y572 z572 st572 hQ572
  subst l572 y572 z572
  obtain ⟨rfl, Nq572, eh572⟩ := hQ572
  have N572 := Fr.app N571 Nq572
  refine own_by (fun _ k => XS.iloadN X0.here hx rfl (hb hby d26_0) rfl (XS.iloadN X0.here hx rfl (hb hby d26_1) rfl (XS.aloadN X0.here hx rfl (hb hby d26_2) rfl rfl (st571 _ (st572 _ k))))) ?_
  exact own_retV X572 hx hlk hret (hb hby d26_9) ⟨rfl, N572, eh572⟩ (by decide) (by decide)
def own_QrmIn4U (ch : Int32) (x0 x1 x2 x3 : Int32) (h0 : Heap) (n0 : Nat) (v : Option Value) (h : Heap) (L : List Loc) : Prop := v = some (.int (own_find ch [x0, x1, x2, x3] (0 : Int32))) ∧ Fr n0 L ∧ h = h0
set_option maxRecDepth 65536 in
set_option maxHeartbeats 40000000 in
theorem rmIn4U (l : Launch) (Z : State) (a0 : Array Value) (hw : own_W a0 Z) (ws : List Jvm.Cond) (cs : Int32) (gS : Value) (v1 : Addr) (k1 : ClassId) (ch : Int32) (x0 x1 x2 x3 : Int32) (h0 : Heap) (n0 : Nat) (Z0 : n0 ≤ h0.size) (V_env : own_Env Z cs gS) (Od : Old Z n0 h0) (V1 : Arv Z h0 v1 k1 .byte (8 : Int32) [(.int (own_lo x0)), (.int (own_hi x0)), (.int (own_lo x1)), (.int (own_hi x1)), (.int (own_lo x2)), (.int (own_hi x2)), (.int (own_lo x3)), (.int (own_hi x3))] (.int (0 : Int32))) (hq : own_cq ch) (hx0 : own_ch x0) (hx1 : own_ch x1) (hx2 : own_ch x2) (hx3 : own_ch x3) : own_Met l Z mn26 jdk_52_method_48_code 5 (some .int) ws (own_R 1 0 0 13) #[(.ref v1), (.int ch), (.int (0 : Int32)), (.int (4 : Int32))] h0 (own_QrmIn4U ch x0 x1 x2 x3 h0 n0) := by
  refine own_enter n0 (plainFor_of_name own_pn40) (fun m => ef_RIII_5 m v1 ch (0 : Int32) (4 : Int32) ) (fun p e s m below meth c s₁ hx hby hlk hml hret hown hnm hZ X0 e0 N0 => ?_)
  show own_Fin _ _ _ _ _ _ _ s₁ (mkF m 0 #[Rv v1, Iv ch, Iv 0, Iv 4, Uv] [])
  obtain ⟨_, _, ⟨T573, L573, k573, n573⟩, -, X573, ⟨Lc573, hQ573, l573, y573, z573⟩, st573⟩ := Jvm.LawKit.callS X0 hx (y := mn7) hown (mvT hZ (own_g hw 101 rfl)) (mvT hZ (own_g hw 102 rfl)) (mvT hZ (own_g hw 73 rfl)) (mvT hZ (own_g hw 103 rfl)) (by decide) (backOf (W := 0) (rmGC4_0 l Z a0 hw [] cs gS v1 k1 x0 x1 x2 x3 h0 n0 Z0 V_env Od V1 hx0) hZ (own_g hw 103 rfl) (own_g hw 73 rfl) (by decide) (by decide)) (g := (mkF m 12 #[Rv v1, Iv ch, Iv 0, Iv 4, Iv 0] [(.int 0), (.ref v1)])) rfl (by rw [hml]; rfl) (argsL := [(.ref v1), (.int (0 : Int32))]) (rest := []) (lenOf own_pd177 rfl) rfl (own_z rfl) (hb hby d30_12) (fun _ _ => ⟨rfl, e0, (by decide : 0 + 0 ≤ _), (by decide : 0 + 0 ≤ _)⟩)
  dsimp only [Pt.U, Pt.locs, Pt.cells, Pt.slots] at X573 l573 y573 z573 st573 hQ573
  subst l573 y573 z573
  obtain ⟨rfl, Nq573, eh573⟩ := hQ573
  have N573 := Fr.app N0 Nq573
  refine own_by (fun _ k => XS.iloadN X0.here hx rfl (hb hby d30_0) rfl (XS.istore X0.here hx rfl (hb hby d30_1) rfl (l' := #[Rv v1, Iv ch, Iv 0, Iv 4, Iv 0]) rfl (XS.iload X0.here hx rfl (hb hby d30_3) rfl (XS.iloadN X0.here hx rfl (hb hby d30_5) rfl (XS.icmpNo X0.here hx rfl (hb hby d30_6) rfl (tlt (by decide : (0 : Int32) < (4 : Int32))).2.1 (XS.aloadN X0.here hx rfl (hb hby d30_9) rfl rfl (XS.iload X0.here hx rfl (hb hby d30_10) rfl (st573 _ (XS.iloadN X573.here hx rfl (hb hby d30_15) rfl k))))))))) ?_
  show own_Fin _ _ _ _ _ _ _ T573 (mkF m 16 #[Rv v1, Iv ch, Iv 0, Iv 4, Iv 0] [(.int ch), (.int x0)])
  by_cases hc16_574 : x0 = ch
  · show own_Fin _ _ _ _ _ _ _ T573 (mkF m 16 #[Rv v1, Iv ch, Iv 0, Iv 4, Iv 0] [(.int ch), (.int x0)])
    refine own_by (fun _ k => XS.icmpNo X573.here hx rfl (hb hby d30_16) rfl (teq hc16_574).2 (XS.iload X573.here hx rfl (hb hby d30_19) rfl k)) ?_
    exact own_retI X573 hx hlk hret (hb hby d30_21) ⟨own_vi (by show (0 : Int32) = _; first | (simp only [own_find, if_neg V_env.2.2.2.2.1, if_neg hq.1, if_neg hq.2.1, if_pos hq.2.2, if_pos hc16_574]; done) | (simp only [own_find, if_neg V_env.2.2.2.2.1, if_neg hq.1, if_neg hq.2.1, if_pos hq.2.2, if_pos hc16_574]; decide) | simp [own_find, V_env.2.2.2.2.1, hq.1, hq.2.1, hq.2.2, hc16_574]), N573, eh573⟩ (by decide) (by decide)
  · show own_Fin _ _ _ _ _ _ _ T573 (mkF m 16 #[Rv v1, Iv ch, Iv 0, Iv 4, Iv 0] [(.int ch), (.int x0)])
    refine own_by (fun _ k => XS.icmpYes X573.here hx rfl (pc0 := 16) (pc' := 22) rfl (hb hby d30_16) rfl (feq hc16_574).2 (by decide) (by decide) (XS.iinc X573.here hx rfl (hb hby d30_22) rfl (l' := #[Rv v1, Iv ch, Iv 0, Iv 4, Iv ((0 : Int32) + (1 : Int32))]) rfl k)) ?_
    show own_Fin _ _ _ _ _ _ _ T573 (mkF m 25 #[Rv v1, Iv ch, Iv 0, Iv 4, Iv ((0 : Int32) + (1 : Int32))] [])
    rw [(by decide : ((0 : Int32) + (1 : Int32)) = (1 : Int32))]
    show own_Fin _ _ _ _ _ _ _ T573 (mkF m 25 #[Rv v1, Iv ch, Iv 0, Iv 4, Iv 1] [])
    obtain ⟨_, _, ⟨T575, L575, k575, n575⟩, -, X575, ⟨Lc575, hQ575, l575, y575, z575⟩, st575⟩ := Jvm.LawKit.callS X573 hx (y := mn7) hown (mvT hZ (own_g hw 101 rfl)) (mvT hZ (own_g hw 102 rfl)) (mvT hZ (own_g hw 73 rfl)) (mvT hZ (own_g hw 103 rfl)) (by decide) (backOf (W := 0) (rmGC4_1 l Z a0 hw [] cs gS v1 k1 x0 x1 x2 x3 h0 n0 Z0 V_env Od V1 hx1) hZ (own_g hw 103 rfl) (own_g hw 73 rfl) (by decide) (by decide)) (g := (mkF m 12 #[Rv v1, Iv ch, Iv 0, Iv 4, Iv 1] [(.int 1), (.ref v1)])) rfl (by rw [hml]; rfl) (argsL := [(.ref v1), (.int (1 : Int32))]) (rest := []) (lenOf own_pd177 rfl) rfl (own_z rfl) (hb hby d30_12) (fun _ _ => ⟨rfl, eh573, (by decide : 0 + 0 ≤ _), (by decide : 0 + 0 ≤ _)⟩)
    dsimp only [Pt.U, Pt.locs, Pt.cells, Pt.slots] at X575 l575 y575 z575 st575 hQ575
    subst l575 y575 z575
    obtain ⟨rfl, Nq575, eh575⟩ := hQ575
    have N575 := Fr.app N573 Nq575
    refine own_by (fun _ k => XS.goto X573.here hx rfl (pc0 := 25) (pc' := 3) rfl (hb hby d30_25) (by decide) (by decide) (XS.iload X573.here hx rfl (hb hby d30_3) rfl (XS.iloadN X573.here hx rfl (hb hby d30_5) rfl (XS.icmpNo X573.here hx rfl (hb hby d30_6) rfl (tlt (by decide : (1 : Int32) < (4 : Int32))).2.1 (XS.aloadN X573.here hx rfl (hb hby d30_9) rfl rfl (XS.iload X573.here hx rfl (hb hby d30_10) rfl (st575 _ (XS.iloadN X575.here hx rfl (hb hby d30_15) rfl k)))))))) ?_
    show own_Fin _ _ _ _ _ _ _ T575 (mkF m 16 #[Rv v1, Iv ch, Iv 0, Iv 4, Iv 1] [(.int ch), (.int x1)])
    by_cases hc16_576 : x1 = ch
    · show own_Fin _ _ _ _ _ _ _ T575 (mkF m 16 #[Rv v1, Iv ch, Iv 0, Iv 4, Iv 1] [(.int ch), (.int x1)])
      refine own_by (fun _ k => XS.icmpNo X575.here hx rfl (hb hby d30_16) rfl (teq hc16_576).2 (XS.iload X575.here hx rfl (hb hby d30_19) rfl k)) ?_
      exact own_retI X575 hx hlk hret (hb hby d30_21) ⟨own_vi (by show (1 : Int32) = _; first | (simp only [own_find, if_neg V_env.2.2.2.2.1, if_neg hq.1, if_neg hq.2.1, if_pos hq.2.2, if_neg hc16_574, if_pos hc16_576]; done) | (simp only [own_find, if_neg V_env.2.2.2.2.1, if_neg hq.1, if_neg hq.2.1, if_pos hq.2.2, if_neg hc16_574, if_pos hc16_576]; decide) | simp [own_find, V_env.2.2.2.2.1, hq.1, hq.2.1, hq.2.2, hc16_574, hc16_576]), N575, eh575⟩ (by decide) (by decide)
    · show own_Fin _ _ _ _ _ _ _ T575 (mkF m 16 #[Rv v1, Iv ch, Iv 0, Iv 4, Iv 1] [(.int ch), (.int x1)])
      refine own_by (fun _ k => XS.icmpYes X575.here hx rfl (pc0 := 16) (pc' := 22) rfl (hb hby d30_16) rfl (feq hc16_576).2 (by decide) (by decide) (XS.iinc X575.here hx rfl (hb hby d30_22) rfl (l' := #[Rv v1, Iv ch, Iv 0, Iv 4, Iv ((1 : Int32) + (1 : Int32))]) rfl k)) ?_
      show own_Fin _ _ _ _ _ _ _ T575 (mkF m 25 #[Rv v1, Iv ch, Iv 0, Iv 4, Iv ((1 : Int32) + (1 : Int32))] [])
      rw [(by decide : ((1 : Int32) + (1 : Int32)) = (2 : Int32))]
      show own_Fin _ _ _ _ _ _ _ T575 (mkF m 25 #[Rv v1, Iv ch, Iv 0, Iv 4, Iv 2] [])
      obtain ⟨_, _, ⟨T577, L577, k577, n577⟩, -, X577, ⟨Lc577, hQ577, l577, y577, z577⟩, st577⟩ := Jvm.LawKit.callS X575 hx (y := mn7) hown (mvT hZ (own_g hw 101 rfl)) (mvT hZ (own_g hw 102 rfl)) (mvT hZ (own_g hw 73 rfl)) (mvT hZ (own_g hw 103 rfl)) (by decide) (backOf (W := 0) (rmGC4_2 l Z a0 hw [] cs gS v1 k1 x0 x1 x2 x3 h0 n0 Z0 V_env Od V1 hx2) hZ (own_g hw 103 rfl) (own_g hw 73 rfl) (by decide) (by decide)) (g := (mkF m 12 #[Rv v1, Iv ch, Iv 0, Iv 4, Iv 2] [(.int 2), (.ref v1)])) rfl (by rw [hml]; rfl) (argsL := [(.ref v1), (.int (2 : Int32))]) (rest := []) (lenOf own_pd177 rfl) rfl (own_z rfl) (hb hby d30_12) (fun _ _ => ⟨rfl, eh575, (by decide : 0 + 0 ≤ _), (by decide : 0 + 0 ≤ _)⟩)
      dsimp only [Pt.U, Pt.locs, Pt.cells, Pt.slots] at X577 l577 y577 z577 st577 hQ577
      subst l577 y577 z577
      obtain ⟨rfl, Nq577, eh577⟩ := hQ577
      have N577 := Fr.app N575 Nq577
      refine own_by (fun _ k => XS.goto X575.here hx rfl (pc0 := 25) (pc' := 3) rfl (hb hby d30_25) (by decide) (by decide) (XS.iload X575.here hx rfl (hb hby d30_3) rfl (XS.iloadN X575.here hx rfl (hb hby d30_5) rfl (XS.icmpNo X575.here hx rfl (hb hby d30_6) rfl (tlt (by decide : (2 : Int32) < (4 : Int32))).2.1 (XS.aloadN X575.here hx rfl (hb hby d30_9) rfl rfl (XS.iload X575.here hx rfl (hb hby d30_10) rfl (st577 _ (XS.iloadN X577.here hx rfl (hb hby d30_15) rfl k)))))))) ?_
      show own_Fin _ _ _ _ _ _ _ T577 (mkF m 16 #[Rv v1, Iv ch, Iv 0, Iv 4, Iv 2] [(.int ch), (.int x2)])
      by_cases hc16_578 : x2 = ch
      · show own_Fin _ _ _ _ _ _ _ T577 (mkF m 16 #[Rv v1, Iv ch, Iv 0, Iv 4, Iv 2] [(.int ch), (.int x2)])
        refine own_by (fun _ k => XS.icmpNo X577.here hx rfl (hb hby d30_16) rfl (teq hc16_578).2 (XS.iload X577.here hx rfl (hb hby d30_19) rfl k)) ?_
        exact own_retI X577 hx hlk hret (hb hby d30_21) ⟨own_vi (by show (2 : Int32) = _; first | (simp only [own_find, if_neg V_env.2.2.2.2.1, if_neg hq.1, if_neg hq.2.1, if_pos hq.2.2, if_neg hc16_574, if_neg hc16_576, if_pos hc16_578]; done) | (simp only [own_find, if_neg V_env.2.2.2.2.1, if_neg hq.1, if_neg hq.2.1, if_pos hq.2.2, if_neg hc16_574, if_neg hc16_576, if_pos hc16_578]; decide) | simp [own_find, V_env.2.2.2.2.1, hq.1, hq.2.1, hq.2.2, hc16_574, hc16_576, hc16_578]), N577, eh577⟩ (by decide) (by decide)
      · show own_Fin _ _ _ _ _ _ _ T577 (mkF m 16 #[Rv v1, Iv ch, Iv 0, Iv 4, Iv 2] [(.int ch), (.int x2)])
        refine own_by (fun _ k => XS.icmpYes X577.here hx rfl (pc0 := 16) (pc' := 22) rfl (hb hby d30_16) rfl (feq hc16_578).2 (by decide) (by decide) (XS.iinc X577.here hx rfl (hb hby d30_22) rfl (l' := #[Rv v1, Iv ch, Iv 0, Iv 4, Iv ((2 : Int32) + (1 : Int32))]) rfl k)) ?_
        show own_Fin _ _ _ _ _ _ _ T577 (mkF m 25 #[Rv v1, Iv ch, Iv 0, Iv 4, Iv ((2 : Int32) + (1 : Int32))] [])
        rw [(by decide : ((2 : Int32) + (1 : Int32)) = (3 : Int32))]
        show own_Fin _ _ _ _ _ _ _ T577 (mkF m 25 #[Rv v1, Iv ch, Iv 0, Iv 4, Iv 3] [])
        obtain ⟨_, _, ⟨T579, L579, k579, n579⟩, -, X579, ⟨Lc579, hQ579, l579, y579, z579⟩, st579⟩ := Jvm.LawKit.callS X577 hx (y := mn7) hown (mvT hZ (own_g hw 101 rfl)) (mvT hZ (own_g hw 102 rfl)) (mvT hZ (own_g hw 73 rfl)) (mvT hZ (own_g hw 103 rfl)) (by decide) (backOf (W := 0) (rmGC4_3 l Z a0 hw [] cs gS v1 k1 x0 x1 x2 x3 h0 n0 Z0 V_env Od V1 hx3) hZ (own_g hw 103 rfl) (own_g hw 73 rfl) (by decide) (by decide)) (g := (mkF m 12 #[Rv v1, Iv ch, Iv 0, Iv 4, Iv 3] [(.int 3), (.ref v1)])) rfl (by rw [hml]; rfl) (argsL := [(.ref v1), (.int (3 : Int32))]) (rest := []) (lenOf own_pd177 rfl) rfl (own_z rfl) (hb hby d30_12) (fun _ _ => ⟨rfl, eh577, (by decide : 0 + 0 ≤ _), (by decide : 0 + 0 ≤ _)⟩)
        dsimp only [Pt.U, Pt.locs, Pt.cells, Pt.slots] at X579 l579 y579 z579 st579 hQ579
        subst l579 y579 z579
        obtain ⟨rfl, Nq579, eh579⟩ := hQ579
        have N579 := Fr.app N577 Nq579
        refine own_by (fun _ k => XS.goto X577.here hx rfl (pc0 := 25) (pc' := 3) rfl (hb hby d30_25) (by decide) (by decide) (XS.iload X577.here hx rfl (hb hby d30_3) rfl (XS.iloadN X577.here hx rfl (hb hby d30_5) rfl (XS.icmpNo X577.here hx rfl (hb hby d30_6) rfl (tlt (by decide : (3 : Int32) < (4 : Int32))).2.1 (XS.aloadN X577.here hx rfl (hb hby d30_9) rfl rfl (XS.iload X577.here hx rfl (hb hby d30_10) rfl (st579 _ (XS.iloadN X579.here hx rfl (hb hby d30_15) rfl k)))))))) ?_
        show own_Fin _ _ _ _ _ _ _ T579 (mkF m 16 #[Rv v1, Iv ch, Iv 0, Iv 4, Iv 3] [(.int ch), (.int x3)])
        by_cases hc16_580 : x3 = ch
        · show own_Fin _ _ _ _ _ _ _ T579 (mkF m 16 #[Rv v1, Iv ch, Iv 0, Iv 4, Iv 3] [(.int ch), (.int x3)])
          refine own_by (fun _ k => XS.icmpNo X579.here hx rfl (hb hby d30_16) rfl (teq hc16_580).2 (XS.iload X579.here hx rfl (hb hby d30_19) rfl k)) ?_
          exact own_retI X579 hx hlk hret (hb hby d30_21) ⟨own_vi (by show (3 : Int32) = _; first | (simp only [own_find, if_neg V_env.2.2.2.2.1, if_neg hq.1, if_neg hq.2.1, if_pos hq.2.2, if_neg hc16_574, if_neg hc16_576, if_neg hc16_578, if_pos hc16_580]; done) | (simp only [own_find, if_neg V_env.2.2.2.2.1, if_neg hq.1, if_neg hq.2.1, if_pos hq.2.2, if_neg hc16_574, if_neg hc16_576, if_neg hc16_578, if_pos hc16_580]; decide) | simp [own_find, V_env.2.2.2.2.1, hq.1, hq.2.1, hq.2.2, hc16_574, hc16_576, hc16_578, hc16_580]), N579, eh579⟩ (by decide) (by decide)
        · show own_Fin _ _ _ _ _ _ _ T579 (mkF m 16 #[Rv v1, Iv ch, Iv 0, Iv 4, Iv 3] [(.int ch), (.int x3)])
          refine own_by (fun _ k => XS.icmpYes X579.here hx rfl (pc0 := 16) (pc' := 22) rfl (hb hby d30_16) rfl (feq hc16_580).2 (by decide) (by decide) (XS.iinc X579.here hx rfl (hb hby d30_22) rfl (l' := #[Rv v1, Iv ch, Iv 0, Iv 4, Iv ((3 : Int32) + (1 : Int32))]) rfl k)) ?_
          show own_Fin _ _ _ _ _ _ _ T579 (mkF m 25 #[Rv v1, Iv ch, Iv 0, Iv 4, Iv ((3 : Int32) + (1 : Int32))] [])
          rw [(by decide : ((3 : Int32) + (1 : Int32)) = (4 : Int32))]
          show own_Fin _ _ _ _ _ _ _ T579 (mkF m 25 #[Rv v1, Iv ch, Iv 0, Iv 4, Iv 4] [])
          refine own_by (fun _ k => XS.goto X579.here hx rfl (pc0 := 25) (pc' := 3) rfl (hb hby d30_25) (by decide) (by decide) (XS.iload X579.here hx rfl (hb hby d30_3) rfl (XS.iloadN X579.here hx rfl (hb hby d30_5) rfl (XS.icmpYes X579.here hx rfl (pc0 := 6) (pc' := 28) rfl (hb hby d30_6) rfl (flt (by decide : ¬ ((4 : Int32) < (4 : Int32)))).2.1 (by decide) (by decide) (XS.iconst X579.here hx rfl (hb hby d30_28) k))))) ?_
          exact own_retI X579 hx hlk hret (hb hby d30_29) ⟨own_vi (by show (-1 : Int32) = _; first | (simp only [own_find, if_neg V_env.2.2.2.2.1, if_neg hq.1, if_neg hq.2.1, if_pos hq.2.2, if_neg hc16_574, if_neg hc16_576, if_neg hc16_578, if_neg hc16_580]; done) | (simp only [own_find, if_neg V_env.2.2.2.2.1, if_neg hq.1, if_neg hq.2.1, if_pos hq.2.2, if_neg hc16_574, if_neg hc16_576, if_neg hc16_578, if_neg hc16_580]; decide) | simp [own_find, V_env.2.2.2.2.1, hq.1, hq.2.1, hq.2.2, hc16_574, hc16_576, hc16_578, hc16_580]), N579, eh579⟩ (by decide) (by decide)
def own_QrmIc4U (ch : Int32) (x0 x1 x2 x3 : Int32) (h0 : Heap) (n0 : Nat) (v : Option Value) (h : Heap) (L : List Loc) : Prop := v = some (.int (own_find ch [x0, x1, x2, x3] (0 : Int32))) ∧ Fr n0 L ∧ h = h0
set_option maxRecDepth 65536 in
set_option maxHeartbeats 40000000 in
theorem rmIc4U (l : Launch) (Z : State) (a0 : Array Value) (hw : own_W a0 Z) (ws : List Jvm.Cond) (cs : Int32) (gS : Value) (v1 : Addr) (k1 : ClassId) (ch : Int32) (x0 x1 x2 x3 : Int32) (h0 : Heap) (n0 : Nat) (Z0 : n0 ≤ h0.size) (V_env : own_Env Z cs gS) (Od : Old Z n0 h0) (V1 : Arv Z h0 v1 k1 .byte (8 : Int32) [(.int (own_lo x0)), (.int (own_hi x0)), (.int (own_lo x1)), (.int (own_hi x1)), (.int (own_lo x2)), (.int (own_hi x2)), (.int (own_lo x3)), (.int (own_hi x3))] (.int (0 : Int32))) (hq : own_cq ch) (hx0 : own_ch x0) (hx1 : own_ch x1) (hx2 : own_ch x2) (hx3 : own_ch x3) : own_Met l Z mn27 jdk_52_method_47_code 4 (some .int) ws (own_R 3 0 0 43) #[(.ref v1), (.int ch), (.int (0 : Int32)), (.int (4 : Int32))] h0 (own_QrmIc4U ch x0 x1 x2 x3 h0 n0) := by
  refine own_enter n0 (plainFor_of_name own_pn40) (fun m => ef_RIII_4 m v1 ch (0 : Int32) (4 : Int32) ) (fun p e s m below meth c s₁ hx hby hlk hml hret hown hnm hZ X0 e0 N0 => ?_)
  show own_Fin _ _ _ _ _ _ _ s₁ (mkF m 0 #[Rv v1, Iv ch, Iv 0, Iv 4] [])
  obtain ⟨_, _, ⟨T581, L581, k581, n581⟩, -, X581, ⟨Lc581, hQ581, l581, y581, z581⟩, st581⟩ := Jvm.LawKit.callS X0 hx (y := mn25) hown (mvT hZ (own_g hw 113 rfl)) (mvT hZ (own_g hw 114 rfl)) (mvT hZ (own_g hw 73 rfl)) (mvT hZ (own_g hw 115 rfl)) (by decide) (backOf (W := 0) (rmCu4 l Z a0 hw [] cs gS v1 k1 [(.int (own_lo x0)), (.int (own_hi x0)), (.int (own_lo x1)), (.int (own_hi x1)), (.int (own_lo x2)), (.int (own_hi x2)), (.int (own_lo x3)), (.int (own_hi x3))] h0 n0 Z0 V_env Od V1) hZ (own_g hw 115 rfl) (own_g hw 73 rfl) (by decide) (by decide)) (g := (mkF m 3 #[Rv v1, Iv ch, Iv 0, Iv 4] [(.ref v1), (.int 4), (.int 0)])) rfl (by rw [hml]; rfl) (argsL := [(.int (0 : Int32)), (.int (4 : Int32)), (.ref v1)]) (rest := []) (lenOf own_pd384 rfl) rfl (own_z rfl) (hb hby d25_3) (fun _ _ => ⟨rfl, e0, (by decide : 0 + 0 ≤ _), (by decide : 0 + 0 ≤ _)⟩)
  dsimp only [Pt.U, Pt.locs, Pt.cells, Pt.slots] at X581 l581 y581 z581 st581 hQ581
  subst l581 y581 z581
  obtain ⟨rfl, Nq581, eh581⟩ := hQ581
  have N581 := Fr.app N0 Nq581
  obtain ⟨_, _, ⟨T582, L582, k582, n582⟩, -, X582, ⟨Lc582, hQ582, l582, y582, z582⟩, st582⟩ := Jvm.LawKit.callS X581 hx (y := mn26) hown (mvT hZ (own_g hw 127 rfl)) (mvT hZ (own_g hw 128 rfl)) (mvT hZ (own_g hw 73 rfl)) (mvT hZ (own_g hw 129 rfl)) (by decide) (backOf (W := 0) (rmIn4U l Z a0 hw [] cs gS v1 k1 ch x0 x1 x2 x3 h0 n0 Z0 V_env Od V1 hq hx0 hx1 hx2 hx3) hZ (own_g hw 129 rfl) (own_g hw 73 rfl) (by decide) (by decide)) (g := (mkF m 10 #[Rv v1, Iv ch, Iv 0, Iv 4] [(.int 4), (.int 0), (.int ch), (.ref v1)])) rfl (by rw [hml]; rfl) (argsL := [(.ref v1), (.int ch), (.int (0 : Int32)), (.int (4 : Int32))]) (rest := []) (lenOf own_pd285 rfl) rfl (own_z rfl) (hb hby d25_10) (fun _ _ => ⟨rfl, eh581, (by decide : 0 + 0 ≤ _), (by decide : 0 + 0 ≤ _)⟩)
  dsimp only [Pt.U, Pt.locs, Pt.cells, Pt.slots] at X582 l582 y582 z582 st582 hQ582
  subst l582 y582 z582
  obtain ⟨rfl, Nq582, eh582⟩ := hQ582
  have N582 := Fr.app N581 Nq582
  refine own_by (fun _ k => XS.iloadN X0.here hx rfl (hb hby d25_0) rfl (XS.iloadN X0.here hx rfl (hb hby d25_1) rfl (XS.aloadN X0.here hx rfl (hb hby d25_2) rfl rfl (st581 _ (XS.aloadN X581.here hx rfl (hb hby d25_6) rfl rfl (XS.iloadN X581.here hx rfl (hb hby d25_7) rfl (XS.iloadN X581.here hx rfl (hb hby d25_8) rfl (XS.iloadN X581.here hx rfl (hb hby d25_9) rfl (st582 _ k))))))))) ?_
  exact own_retI X582 hx hlk hret (hb hby d25_13) ⟨rfl, N582, eh582⟩ (by decide) (by decide)
def own_QrmIo4U (ch : Int32) (x0 x1 x2 x3 : Int32) (h0 : Heap) (n0 : Nat) (v : Option Value) (h : Heap) (L : List Loc) : Prop := v = some (.int (own_find ch [x0, x1, x2, x3] (0 : Int32))) ∧ Fr n0 L ∧ h = h0
set_option maxRecDepth 65536 in
set_option maxHeartbeats 40000000 in
theorem rmIo4U (l : Launch) (Z : State) (a0 : Array Value) (hw : own_W a0 Z) (ws : List Jvm.Cond) (cs : Int32) (gS : Value) (v1 : Addr) (k1 : ClassId) (ch : Int32) (x0 x1 x2 x3 : Int32) (h0 : Heap) (n0 : Nat) (Z0 : n0 ≤ h0.size) (V_env : own_Env Z cs gS) (Od : Old Z n0 h0) (V1 : Arv Z h0 v1 k1 .byte (8 : Int32) [(.int (own_lo x0)), (.int (own_hi x0)), (.int (own_lo x1)), (.int (own_hi x1)), (.int (own_lo x2)), (.int (own_hi x2)), (.int (own_lo x3)), (.int (own_hi x3))] (.int (0 : Int32))) (hq : own_cq ch) (hx0 : own_ch x0) (hx1 : own_ch x1) (hx2 : own_ch x2) (hx3 : own_ch x3) : own_Met l Z mn28 jdk_52_method_40_code 4 (some .int) ws (own_R 4 0 0 58) #[(.ref v1), (.int ch), (.int (0 : Int32)), (.int (4 : Int32))] h0 (own_QrmIo4U ch x0 x1 x2 x3 h0 n0) := by
  refine own_enter n0 (plainFor_of_name own_pn40) (fun m => ef_RIII_4 m v1 ch (0 : Int32) (4 : Int32) ) (fun p e s m below meth c s₁ hx hby hlk hml hret hown hnm hZ X0 e0 N0 => ?_)
  show own_Fin _ _ _ _ _ _ _ s₁ (mkF m 0 #[Rv v1, Iv ch, Iv 0, Iv 4] [])
  obtain ⟨_, _, ⟨T583, L583, k583, n583⟩, -, X583, ⟨Lc583, hQ583, l583, y583, z583⟩, st583⟩ := Jvm.LawKit.callS X0 hx (y := mn14) hown (mvT hZ (own_g hw 107 rfl)) (mvT hZ (own_g hw 65 rfl)) (mvT hZ (own_g hw 66 rfl)) (mvT hZ (own_g hw 67 rfl)) (by decide) (backOf (W := 0) (rmmax_0_0 l Z a0 hw []  h0 n0 Z0 ) hZ (own_g hw 67 rfl) (own_g hw 66 rfl) (by decide) (by decide)) (g := (mkF m 2 #[Rv v1, Iv ch, Iv 0, Iv 4] [(.int 0), (.int 0)])) rfl (by rw [hml]; rfl) (argsL := [(.int (0 : Int32)), (.int (0 : Int32))]) (rest := []) (lenOf own_pd253 rfl) rfl (own_z rfl) (hb hby d24_2) (fun _ _ => ⟨rfl, e0, (by decide : 0 + 0 ≤ _), (by decide : 0 + 0 ≤ _)⟩)
  dsimp only [Pt.U, Pt.locs, Pt.cells, Pt.slots] at X583 l583 y583 z583 st583 hQ583
  subst l583 y583 z583
  obtain ⟨rfl, Nq583, eh583⟩ := hQ583
  have N583 := Fr.app N0 Nq583
  obtain ⟨cl584, Ar584, -, S584, M584, -, -⟩ := id V1
  refine own_by (fun _ k => XS.iloadN X0.here hx rfl (hb hby d24_0) rfl (XS.iconst X0.here hx rfl (hb hby d24_1) (st583 _ (XS.istoreN X583.here hx rfl (hb hby d24_5) rfl (l' := #[Rv v1, Iv ch, Iv 0, Iv 4]) rfl (XS.iloadN X583.here hx rfl (hb hby d24_6) rfl (XS.aloadN X583.here hx rfl (hb hby d24_7) rfl rfl (X583.arraylength hx (by rw [eh583]; exact Ar584.1) (State.isArrayOf_alike hZ.alike Ar584.2.1) (g := (mkF m 8 #[Rv v1, Iv ch, Iv 0, Iv 4] [(.ref v1), (.int 4)])) rfl rfl (hb hby d24_8) _ k))))))) ?_
  rw [len_of S584 M584]
  show own_Fin _ _ _ _ _ _ _ T583 (mkF m 9 #[Rv v1, Iv ch, Iv 0, Iv 4] [(.int 8), (.int 4)])
  refine own_by (fun _ k => XS.iconst X583.here hx rfl (hb hby d24_9) (XS.ishr X583.here hx rfl (hb hby d24_10) rfl k)) ?_
  show own_Fin _ _ _ _ _ _ _ T583 (mkF m 11 #[Rv v1, Iv ch, Iv 0, Iv 4] [(.int ((8 : Int32) >>> ((1 : Int32) &&& 31))), (.int 4)])
  rw [(by decide : ((8 : Int32) >>> ((1 : Int32) &&& 31)) = (4 : Int32))]
  show own_Fin _ _ _ _ _ _ _ T583 (mkF m 11 #[Rv v1, Iv ch, Iv 0, Iv 4] [(.int 4), (.int 4)])
  obtain ⟨_, _, ⟨T585, L585, k585, n585⟩, -, X585, ⟨Lc585, hQ585, l585, y585, z585⟩, st585⟩ := Jvm.LawKit.callS X583 hx (y := mn15) hown (mvT hZ (own_g hw 108 rfl)) (mvT hZ (own_g hw 69 rfl)) (mvT hZ (own_g hw 66 rfl)) (mvT hZ (own_g hw 70 rfl)) (by decide) (backOf (W := 0) (rmmin_4_4 l Z a0 hw []  h0 n0 Z0 ) hZ (own_g hw 70 rfl) (own_g hw 66 rfl) (by decide) (by decide)) (g := (mkF m 11 #[Rv v1, Iv ch, Iv 0, Iv 4] [(.int 4), (.int 4)])) rfl (by rw [hml]; rfl) (argsL := [(.int (4 : Int32)), (.int (4 : Int32))]) (rest := []) (lenOf own_pd253 rfl) rfl (own_z rfl) (hb hby d24_11) (fun _ _ => ⟨rfl, eh583, (by decide : 0 + 0 ≤ _), (by decide : 0 + 0 ≤ _)⟩)
  dsimp only [Pt.U, Pt.locs, Pt.cells, Pt.slots] at X585 l585 y585 z585 st585 hQ585
  subst l585 y585 z585
  obtain ⟨rfl, Nq585, eh585⟩ := hQ585
  have N585 := Fr.app N583 Nq585
  refine own_by (fun _ k => st585 _ (XS.istoreN X585.here hx rfl (hb hby d24_14) rfl (l' := #[Rv v1, Iv ch, Iv 0, Iv 4]) rfl (XS.iloadN X585.here hx rfl (hb hby d24_15) rfl (XS.iloadN X585.here hx rfl (hb hby d24_16) rfl (XS.icmpYes X585.here hx rfl (pc0 := 17) (pc' := 22) rfl (hb hby d24_17) rfl (tlt (by decide : (0 : Int32) < (4 : Int32))).1 (by decide) (by decide) (XS.iloadN X585.here hx rfl (hb hby d24_22) rfl (X585.ldcInt hx hown (mvT hZ (own_g hw 109 rfl)) (g := (mkF m 23 #[Rv v1, Iv ch, Iv 0, Iv 4] [(.int ch)])) rfl (hb hby d24_23) _ (XS.icmpNo X585.here hx rfl (hb hby d24_25) rfl (tlt hq.2.2).2.1 (XS.aloadN X585.here hx rfl (hb hby d24_28) rfl rfl (XS.iloadN X585.here hx rfl (hb hby d24_29) rfl k)))))))))) ?_
  show own_Fin _ _ _ _ _ _ _ T585 (mkF m 30 #[Rv v1, Iv ch, Iv 0, Iv 4] [(.int ch), (.ref v1)])
  obtain ⟨_, _, ⟨T586, L586, k586, n586⟩, -, X586, ⟨Lc586, hQ586, l586, y586, z586⟩, st586⟩ := Jvm.LawKit.callS X585 hx (y := mn27) hown (mvT hZ (own_g hw 110 rfl)) (mvT hZ (own_g hw 111 rfl)) (mvT hZ (own_g hw 73 rfl)) (mvT hZ (own_g hw 112 rfl)) (by decide) (backOf (W := 0) (rmIc4U l Z a0 hw [] cs gS v1 k1 ch x0 x1 x2 x3 h0 n0 Z0 V_env Od V1 hq hx0 hx1 hx2 hx3) hZ (own_g hw 112 rfl) (own_g hw 73 rfl) (by decide) (by decide)) (g := (mkF m 32 #[Rv v1, Iv ch, Iv 0, Iv 4] [(.int 4), (.int 0), (.int ch), (.ref v1)])) rfl (by rw [hml]; rfl) (argsL := [(.ref v1), (.int ch), (.int (0 : Int32)), (.int (4 : Int32))]) (rest := []) (lenOf own_pd285 rfl) rfl (own_z rfl) (hb hby d24_32) (fun _ _ => ⟨rfl, eh585, (by decide : 0 + 0 ≤ _), (by decide : 0 + 0 ≤ _)⟩)
  dsimp only [Pt.U, Pt.locs, Pt.cells, Pt.slots] at X586 l586 y586 z586 st586 hQ586
  subst l586 y586 z586
  obtain ⟨rfl, Nq586, eh586⟩ := hQ586
  have N586 := Fr.app N585 Nq586
  refine own_by (fun _ k => XS.iloadN X585.here hx rfl (hb hby d24_30) rfl (XS.iloadN X585.here hx rfl (hb hby d24_31) rfl (st586 _ k))) ?_
  exact own_retI X586 hx hlk hret (hb hby d24_35) ⟨rfl, N586, eh586⟩ (by decide) (by decide)
def own_QrmSl4_U (h0 : Heap) (n0 : Nat) (v : Option Value) (h : Heap) (L : List Loc) : Prop := v = some (.int (4 : Int32)) ∧ Fr n0 L ∧ h = h0
set_option maxRecDepth 65536 in
set_option maxHeartbeats 40000000 in
theorem rmSl4_U (l : Launch) (Z : State) (a0 : Array Value) (hw : own_W a0 Z) (ws : List Jvm.Cond) (cs : Int32) (gS : Value) (a1 v1 : Addr) (k1 : ClassId) (vs : List Value) (h0 : Heap) (n0 : Nat) (Z0 : n0 ≤ h0.size) (V_env : own_Env Z cs gS) (Od : Old Z n0 h0) (E_a1 : Exa Z h0 a1 "java/lang/String") (F1 : Fld Z h0 a1 "java/lang/String" "value" "[B" (.ref v1)) (F2 : Fld Z h0 a1 "java/lang/String" "coder" "B" (.int (1 : Int32))) (V1 : Arv Z h0 v1 k1 .byte (8 : Int32) vs (.int (0 : Int32))) : own_Met l Z mn17 jdk_42_method_54_code 1 (some .int) ws (own_R 1 0 0 13) #[(.ref a1)] h0 (own_QrmSl4_U h0 n0) := by
  refine own_enter n0 (plainFor_of_name own_pn16) (fun m => ef_R_1 m a1 ) (fun p e s m below meth c s₁ hx hby hlk hml hret hown hnm hZ X0 e0 N0 => ?_)
  show own_Fin _ _ _ _ _ _ _ s₁ (mkF m 0 #[Rv a1] [])
  obtain ⟨T587, X587, e587, st587⟩ := getF X0 hx hZ hown (host := "") (Or.inl (own_g hw 25 rfl)) Via.refl e0 F1 (g := (mkF m 1 #[Rv a1] [(.ref a1)])) rfl rfl (hb hby d9_1)
  obtain ⟨cl588, Ar588, -, S588, M588, -, -⟩ := id V1
  refine own_by (fun _ k => XS.aloadN X0.here hx rfl (hb hby d9_0) rfl rfl (st587 _ (X587.arraylength hx (by rw [e587]; exact Ar588.1) (State.isArrayOf_alike hZ.alike Ar588.2.1) (g := (mkF m 4 #[Rv a1] [(.ref v1)])) rfl rfl (hb hby d9_4) _ k))) ?_
  rw [len_of S588 M588]
  show own_Fin _ _ _ _ _ _ _ T587 (mkF m 5 #[Rv a1] [(.int 8)])
  obtain ⟨cq589, kq589, q589a, q589b, q589c⟩ := isOf hZ e587 E_a1
  obtain ⟨_, _, ⟨T589, L589, k589, n589⟩, -, X589, ⟨Lc589, hQ589, l589, y589, z589⟩, st589⟩ := X587.virtualBack hx (y := mn12) (z := mn12) hown (mvT hZ (own_g hw 52 rfl)) (mvT hZ (own_g hw 53 rfl)) (notFace_of_selects (args := #[]) (mvT hZ (own_g hw 55 rfl))) (mvT hZ (own_g hw 55 rfl)) (mvT hZ (own_g hw 54 rfl)) (by decide) (backOf (W := 1) (rmCd1 l Z a0 hw [] cs gS a1 h0 n0 Z0 V_env Od F2) hZ (own_g hw 56 rfl) (own_g hw 8 rfl) (by decide) (by decide)) q589a q589c (g := (mkF m 6 #[Rv a1] [(.ref a1), (.int 8)])) rfl (by rw [hml]; rfl) (Steps.refl _) (argsL := []) (rest := [(.int (8 : Int32))]) (lenOf own_pd270 rfl) rfl (own_z rfl) (hb hby d9_6) (fun _ _ => ⟨rfl, e587, (by decide : 0 + 0 ≤ _), (by decide : 0 + 0 ≤ _)⟩)
  dsimp only [Pt.U, Pt.locs, Pt.cells, Pt.slots] at X589 l589 y589 z589 st589 hQ589
  subst l589 y589 z589
  obtain ⟨rfl, Nq589, eh589⟩ := hQ589
  have N589 := Fr.app N0 Nq589
  refine own_by (fun _ k => XS.aloadN X587.here hx rfl (hb hby d9_5) rfl rfl (st589.trans (XS.ishr X589.here hx rfl (hb hby d9_9) rfl k))) ?_
  show own_Fin _ _ _ _ _ _ _ T589 (mkF m 10 #[Rv a1] [(.int ((8 : Int32) >>> ((1 : Int32) &&& 31)))])
  rw [(by decide : ((8 : Int32) >>> ((1 : Int32) &&& 31)) = (4 : Int32))]
  show own_Fin _ _ _ _ _ _ _ T589 (mkF m 10 #[Rv a1] [(.int 4)])
  exact own_retI X589 hx hlk hret (hb hby d9_10) ⟨rfl, N589, eh589⟩ (by decide) (by decide)
def own_QrmI24U (ch : Int32) (x0 x1 x2 x3 : Int32) (h0 : Heap) (n0 : Nat) (v : Option Value) (h : Heap) (L : List Loc) : Prop := v = some (.int (own_find ch [x0, x1, x2, x3] (0 : Int32))) ∧ Fr n0 L ∧ h = h0
set_option maxRecDepth 65536 in
set_option maxHeartbeats 40000000 in
theorem rmI24U (l : Launch) (Z : State) (a0 : Array Value) (hw : own_W a0 Z) (ws : List Jvm.Cond) (cs : Int32) (gS : Value) (a1 : Addr) (v1 : Addr) (k1 : ClassId) (ch : Int32) (x0 x1 x2 x3 : Int32) (h0 : Heap) (n0 : Nat) (Z0 : n0 ≤ h0.size) (V_env : own_Env Z cs gS) (Od : Old Z n0 h0) (E_a1 : Exa Z h0 a1 "java/lang/String") (F1 : Fld Z h0 a1 "java/lang/String" "value" "[B" (.ref v1)) (F2 : Fld Z h0 a1 "java/lang/String" "coder" "B" (.int (1 : Int32))) (V1 : Arv Z h0 v1 k1 .byte (8 : Int32) [(.int (own_lo x0)), (.int (own_hi x0)), (.int (own_lo x1)), (.int (own_hi x1)), (.int (own_lo x2)), (.int (own_hi x2)), (.int (own_lo x3)), (.int (own_hi x3))] (.int (0 : Int32))) (hq : own_cq ch) (hx0 : own_ch x0) (hx1 : own_ch x1) (hx2 : own_ch x2) (hx3 : own_ch x3) : own_Met l Z mn18 jdk_42_method_80_code 3 (some .int) ws (own_R 5 0 0 73) #[(.ref a1), (.int ch), (.int (0 : Int32))] h0 (own_QrmI24U ch x0 x1 x2 x3 h0 n0) := by
  refine own_enter n0 (plainFor_of_name own_pn16) (fun m => ef_RII_3 m a1 ch (0 : Int32) ) (fun p e s m below meth c s₁ hx hby hlk hml hret hown hnm hZ X0 e0 N0 => ?_)
  show own_Fin _ _ _ _ _ _ _ s₁ (mkF m 0 #[Rv a1, Iv ch, Iv 0] [])
  obtain ⟨cq590, kq590, q590a, q590b, q590c⟩ := isOf hZ e0 E_a1
  obtain ⟨_, _, ⟨T590, L590, k590, n590⟩, -, X590, ⟨Lc590, hQ590, l590, y590, z590⟩, st590⟩ := X0.virtualBack hx (y := mn11) (z := mn11) hown (mvT hZ (own_g hw 41 rfl)) (mvT hZ (own_g hw 42 rfl)) (notFace_of_selects (args := #[]) (mvT hZ (own_g hw 44 rfl))) (mvT hZ (own_g hw 44 rfl)) (mvT hZ (own_g hw 43 rfl)) (by decide) (backOf (W := 0) (rmIs1 l Z a0 hw [] cs gS a1 h0 n0 Z0 V_env Od F2) hZ (own_g hw 45 rfl) (own_g hw 8 rfl) (by decide) (by decide)) q590a q590c (g := (mkF m 1 #[Rv a1, Iv ch, Iv 0] [(.ref a1)])) rfl (by rw [hml]; rfl) (Steps.refl _) (argsL := []) (rest := []) (lenOf own_pd275 rfl) rfl (own_z rfl) (hb hby d7_1) (fun _ _ => ⟨rfl, e0, (by decide : 0 + 0 ≤ _), (by decide : 0 + 0 ≤ _)⟩)
  dsimp only [Pt.U, Pt.locs, Pt.cells, Pt.slots] at X590 l590 y590 z590 st590 hQ590
  subst l590 y590 z590
  obtain ⟨rfl, Nq590, eh590⟩ := hQ590
  have N590 := Fr.app N0 Nq590
  obtain ⟨T591, X591, e591, st591⟩ := getF X590 hx hZ hown (host := "") (Or.inl (own_g hw 25 rfl)) Via.refl eh590 F1 (g := (mkF m 24 #[Rv a1, Iv ch, Iv 0] [(.ref a1)])) rfl rfl (hb hby d7_24)
  obtain ⟨cq592, kq592, q592a, q592b, q592c⟩ := isOf hZ e591 E_a1
  obtain ⟨_, _, ⟨T592, L592, k592, n592⟩, -, X592, ⟨Lc592, hQ592, l592, y592, z592⟩, st592⟩ := X591.virtualBack hx (y := mn17) (z := mn17) hown (mvT hZ (own_g hw 47 rfl)) (mvT hZ (own_g hw 48 rfl)) (notFace_of_selects (args := #[]) (mvT hZ (own_g hw 50 rfl))) (mvT hZ (own_g hw 50 rfl)) (mvT hZ (own_g hw 49 rfl)) (by decide) (backOf (W := 3) (rmSl4_U l Z a0 hw [] cs gS a1 v1 k1 [(.int (own_lo x0)), (.int (own_hi x0)), (.int (own_lo x1)), (.int (own_hi x1)), (.int (own_lo x2)), (.int (own_hi x2)), (.int (own_lo x3)), (.int (own_hi x3))] h0 n0 Z0 V_env Od E_a1 F1 F2 V1) hZ (own_g hw 51 rfl) (own_g hw 8 rfl) (by decide) (by decide)) q592a q592c (g := (mkF m 30 #[Rv a1, Iv ch, Iv 0] [(.ref a1), (.int 0), (.int ch), (.ref v1)])) rfl (by rw [hml]; rfl) (Steps.refl _) (argsL := []) (rest := [(.int (0 : Int32)), (.int ch), (.ref v1)]) (lenOf own_pd283 rfl) rfl (own_z rfl) (hb hby d7_30) (fun _ _ => ⟨rfl, e591, (by decide : 0 + 0 ≤ _), (by decide : 0 + 0 ≤ _)⟩)
  dsimp only [Pt.U, Pt.locs, Pt.cells, Pt.slots] at X592 l592 y592 z592 st592 hQ592
  subst l592 y592 z592
  obtain ⟨rfl, Nq592, eh592⟩ := hQ592
  have N592 := Fr.app N590 Nq592
  obtain ⟨_, _, ⟨T593, L593, k593, n593⟩, -, X593, ⟨Lc593, hQ593, l593, y593, z593⟩, st593⟩ := Jvm.LawKit.callS X592 hx (y := mn28) hown (mvT hZ (own_g hw 104 rfl)) (mvT hZ (own_g hw 105 rfl)) (mvT hZ (own_g hw 73 rfl)) (mvT hZ (own_g hw 106 rfl)) (by decide) (backOf (W := 0) (rmIo4U l Z a0 hw [] cs gS v1 k1 ch x0 x1 x2 x3 h0 n0 Z0 V_env Od V1 hq hx0 hx1 hx2 hx3) hZ (own_g hw 106 rfl) (own_g hw 73 rfl) (by decide) (by decide)) (g := (mkF m 33 #[Rv a1, Iv ch, Iv 0] [(.int 4), (.int 0), (.int ch), (.ref v1)])) rfl (by rw [hml]; rfl) (argsL := [(.ref v1), (.int ch), (.int (0 : Int32)), (.int (4 : Int32))]) (rest := []) (lenOf own_pd285 rfl) rfl (own_z rfl) (hb hby d7_33) (fun _ _ => ⟨rfl, eh592, (by decide : 0 + 0 ≤ _), (by decide : 0 + 0 ≤ _)⟩)
  dsimp only [Pt.U, Pt.locs, Pt.cells, Pt.slots] at X593 l593 y593 z593 st593 hQ593
  subst l593 y593 z593
  obtain ⟨rfl, Nq593, eh593⟩ := hQ593
  have N593 := Fr.app N592 Nq593
  refine own_by (fun _ k => XS.aloadN X0.here hx rfl (hb hby d7_0) rfl rfl (st590.trans (XS.ifYes X590.here hx rfl (pc0 := 4) (pc' := 23) rfl (hb hby d7_4) rfl ((if0 _ _).trans (teq (by decide : (0 : Int32) = (0 : Int32))).1) (by decide) (by decide) (XS.aloadN X590.here hx rfl (hb hby d7_23) rfl rfl (st591 _ (XS.iloadN X591.here hx rfl (hb hby d7_27) rfl (XS.iloadN X591.here hx rfl (hb hby d7_28) rfl (XS.aloadN X591.here hx rfl (hb hby d7_29) rfl rfl (st592.trans (st593 _ k)))))))))) ?_
  exact own_retI X593 hx hlk hret (hb hby d7_36) ⟨rfl, N593, eh593⟩ (by decide) (by decide)
def own_QrmIx4U (ch : Int32) (x0 x1 x2 x3 : Int32) (h0 : Heap) (n0 : Nat) (v : Option Value) (h : Heap) (L : List Loc) : Prop := v = some (.int (own_find ch [x0, x1, x2, x3] (0 : Int32))) ∧ Fr n0 L ∧ h = h0
set_option maxRecDepth 65536 in
set_option maxHeartbeats 40000000 in
theorem rmIx4U (l : Launch) (Z : State) (a0 : Array Value) (hw : own_W a0 Z) (ws : List Jvm.Cond) (cs : Int32) (gS : Value) (a1 : Addr) (v1 : Addr) (k1 : ClassId) (ch : Int32) (x0 x1 x2 x3 : Int32) (h0 : Heap) (n0 : Nat) (Z0 : n0 ≤ h0.size) (V_env : own_Env Z cs gS) (Od : Old Z n0 h0) (E_a1 : Exa Z h0 a1 "java/lang/String") (F1 : Fld Z h0 a1 "java/lang/String" "value" "[B" (.ref v1)) (F2 : Fld Z h0 a1 "java/lang/String" "coder" "B" (.int (1 : Int32))) (V1 : Arv Z h0 v1 k1 .byte (8 : Int32) [(.int (own_lo x0)), (.int (own_hi x0)), (.int (own_lo x1)), (.int (own_hi x1)), (.int (own_lo x2)), (.int (own_hi x2)), (.int (own_lo x3)), (.int (own_hi x3))] (.int (0 : Int32))) (hq : own_cq ch) (hx0 : own_ch x0) (hx1 : own_ch x1) (hx2 : own_ch x2) (hx3 : own_ch x3) : own_Met l Z mn19 jdk_42_method_79_code 2 (some .int) ws (own_R 6 0 0 87) #[(.ref a1), (.int ch)] h0 (own_QrmIx4U ch x0 x1 x2 x3 h0 n0) := by
  refine own_enter n0 (plainFor_of_name own_pn16) (fun m => ef_RI_2 m a1 ch ) (fun p e s m below meth c s₁ hx hby hlk hml hret hown hnm hZ X0 e0 N0 => ?_)
  show own_Fin _ _ _ _ _ _ _ s₁ (mkF m 0 #[Rv a1, Iv ch] [])
  obtain ⟨cq594, kq594, q594a, q594b, q594c⟩ := isOf hZ e0 E_a1
  obtain ⟨_, _, ⟨T594, L594, k594, n594⟩, -, X594, ⟨Lc594, hQ594, l594, y594, z594⟩, st594⟩ := X0.virtualBack hx (y := mn18) (z := mn18) hown (mvT hZ (own_g hw 36 rfl)) (mvT hZ (own_g hw 37 rfl)) (notFace_of_selects (args := #[]) (mvT hZ (own_g hw 39 rfl))) (mvT hZ (own_g hw 39 rfl)) (mvT hZ (own_g hw 38 rfl)) (by decide) (backOf (W := 0) (rmI24U l Z a0 hw [] cs gS a1 v1 k1 ch x0 x1 x2 x3 h0 n0 Z0 V_env Od E_a1 F1 F2 V1 hq hx0 hx1 hx2 hx3) hZ (own_g hw 40 rfl) (own_g hw 8 rfl) (by decide) (by decide)) q594a q594c (g := (mkF m 3 #[Rv a1, Iv ch] [(.int 0), (.int ch), (.ref a1)])) rfl (by rw [hml]; rfl) (Steps.refl _) (argsL := [(.int ch), (.int (0 : Int32))]) (rest := []) (lenOf own_pd253 rfl) rfl (own_z rfl) (hb hby d6_3) (fun _ _ => ⟨rfl, e0, (by decide : 0 + 0 ≤ _), (by decide : 0 + 0 ≤ _)⟩)
  dsimp only [Pt.U, Pt.locs, Pt.cells, Pt.slots] at X594 l594 y594 z594 st594 hQ594
  subst l594 y594 z594
  obtain ⟨rfl, Nq594, eh594⟩ := hQ594
  have N594 := Fr.app N0 Nq594
  refine own_by (fun _ k => XS.aloadN X0.here hx rfl (hb hby d6_0) rfl rfl (XS.iloadN X0.here hx rfl (hb hby d6_1) rfl (XS.iconst X0.here hx rfl (hb hby d6_2) (st594.trans k)))) ?_
  exact own_retI X594 hx hlk hret (hb hby d6_6) ⟨rfl, N594, eh594⟩ (by decide) (by decide)
def own_QIS4U (x0 x1 x2 x3 : Int32) (h0 : Heap) (n0 : Nat) (v : Option Value) (h : Heap) (L : List Loc) : Prop := v = some (.int (own_neg (own_find (0 : Int32) [x0, x1, x2, x3] (0 : Int32)))) ∧ Fr n0 L ∧ h = h0
set_option maxRecDepth 65536 in
set_option maxHeartbeats 40000000 in
theorem rmIS4U (l : Launch) (Z : State) (a0 : Array Value) (hw : own_W a0 Z) (ws : List Jvm.Cond) (cs : Int32) (gS : Value) (a1 v1 : Addr) (k1 : ClassId) (x0 x1 x2 x3 : Int32)  (h0 : Heap) (n0 : Nat) (Z0 : n0 ≤ h0.size) (V_env : own_Env Z cs gS) (Od : Old Z n0 h0) (E_a1 : Exa Z h0 a1 "java/lang/String") (F1 : Fld Z h0 a1 "java/lang/String" "value" "[B" (.ref v1)) (F2 : Fld Z h0 a1 "java/lang/String" "coder" "B" (.int (1 : Int32))) (V1 : Arv Z h0 v1 k1 .byte (8 : Int32) [(.int (own_lo x0)), (.int (own_hi x0)), (.int (own_lo x1)), (.int (own_hi x1)), (.int (own_lo x2)), (.int (own_hi x2)), (.int (own_lo x3)), (.int (own_hi x3))] (.int (0 : Int32))) (hx0 : own_ch x0) (hx1 : own_ch x1) (hx2 : own_ch x2) (hx3 : own_ch x3) : own_Met l Z mn20 prog_26_method_2_code 1 (some .boolean) ws (own_R 7 0 0 100) #[(.ref a1)] h0 (own_QIS4U x0 x1 x2 x3 h0 n0) := by
  refine own_enter n0 (plainFor_of_name own_pn293) (fun m => ef_R_1 m a1 ) (fun p e s m below meth c s₁ hx hby hlk hml hret hown hnm hZ X0 e0 N0 => ?_)
  show own_Fin _ _ _ _ _ _ _ s₁ (mkF m 0 #[Rv a1] [])
  obtain ⟨cq595, kq595, q595a, q595b, q595c⟩ := isOf hZ e0 E_a1
  obtain ⟨_, _, ⟨T595, L595, k595, n595⟩, -, X595, ⟨Lc595, hQ595, l595, y595, z595⟩, st595⟩ := X0.virtualBack hx (y := mn19) (z := mn19) hown (mvT hZ (own_g hw 31 rfl)) (mvT hZ (own_g hw 32 rfl)) (notFace_of_selects (args := #[]) (mvT hZ (own_g hw 34 rfl))) (mvT hZ (own_g hw 34 rfl)) (mvT hZ (own_g hw 33 rfl)) (by decide) (backOf (W := 0) (rmIx4U l Z a0 hw [] cs gS a1 v1 k1 (0 : Int32) x0 x1 x2 x3 h0 n0 Z0 V_env Od E_a1 F1 F2 V1 ⟨by decide, by decide, by decide⟩ hx0 hx1 hx2 hx3) hZ (own_g hw 35 rfl) (own_g hw 8 rfl) (by decide) (by decide)) q595a q595c (g := (mkF m 2 #[Rv a1] [(.int 0), (.ref a1)])) rfl (by rw [hml]; rfl) (Steps.refl _) (argsL := [(.int (0 : Int32))]) (rest := []) (lenOf own_pd52 rfl) rfl (own_z rfl) (hb hby d5_2) (fun _ _ => ⟨rfl, e0, (by decide : 0 + 0 ≤ _), (by decide : 0 + 0 ≤ _)⟩)
  dsimp only [Pt.U, Pt.locs, Pt.cells, Pt.slots] at X595 l595 y595 z595 st595 hQ595
  subst l595 y595 z595
  obtain ⟨rfl, Nq595, eh595⟩ := hQ595
  have N595 := Fr.app N0 Nq595
  refine own_by (fun _ k => XS.aloadN X0.here hx rfl (hb hby d5_0) rfl rfl (XS.iconst X0.here hx rfl (hb hby d5_1) (st595.trans k))) ?_
  show own_Fin _ _ _ _ _ _ _ T595 (mkF m 5 #[Rv a1] [(.int (own_find (0 : Int32) [x0, x1, x2, x3] (0 : Int32)))])
  by_cases hc5_596 : (own_find (0 : Int32) [x0, x1, x2, x3] (0 : Int32)) < (0 : Int32)
  · show own_Fin _ _ _ _ _ _ _ T595 (mkF m 5 #[Rv a1] [(.int (own_find (0 : Int32) [x0, x1, x2, x3] (0 : Int32)))])
    refine own_by (fun _ k => XS.ifNo X595.here hx rfl (hb hby d5_5) rfl ((if0 _ _).trans (tlt hc5_596).2.1) (XS.iconst X595.here hx rfl (hb hby d5_8) (XS.goto X595.here hx rfl (pc0 := 9) (pc' := 13) rfl (hb hby d5_9) (by decide) (by decide) k))) ?_
    exact own_retZ X595 hx hlk (t := .boolean) hret (by simp) (hb hby d5_13) ⟨own_vi (by show (1 : Int32) = _; first | (simp only [own_neg, if_neg V_env.2.2.2.2.1, if_pos hc5_596]; done) | (simp only [own_neg, if_neg V_env.2.2.2.2.1, if_pos hc5_596]; decide) | simp [own_neg, V_env.2.2.2.2.1, hc5_596]), N595, eh595⟩ (by decide) (by decide)
  · show own_Fin _ _ _ _ _ _ _ T595 (mkF m 5 #[Rv a1] [(.int (own_find (0 : Int32) [x0, x1, x2, x3] (0 : Int32)))])
    refine own_by (fun _ k => XS.ifYes X595.here hx rfl (pc0 := 5) (pc' := 12) rfl (hb hby d5_5) rfl ((if0 _ _).trans (flt hc5_596).2.1) (by decide) (by decide) (XS.iconst X595.here hx rfl (hb hby d5_12) k)) ?_
    exact own_retZ X595 hx hlk (t := .boolean) hret (by simp) (hb hby d5_13) ⟨own_vi (by show (0 : Int32) = _; first | (simp only [own_neg, if_neg V_env.2.2.2.2.1, if_neg hc5_596]; done) | (simp only [own_neg, if_neg V_env.2.2.2.2.1, if_neg hc5_596]; decide) | simp [own_neg, V_env.2.2.2.2.1, hc5_596]), N595, eh595⟩ (by decide) (by decide)
theorem own_pd422 : parseMethodDescriptor "(I)C" = some ⟨[.int], some .char⟩ := by decide +kernel
theorem own_pd423 : parseMethodDescriptor "([C)V" = some ⟨[(.array .char)], none⟩ := by decide +kernel
theorem own_pd424 : parseMethodDescriptor "(Ljava/lang/String;)Z" = some ⟨[(.object "java/lang/String")], some .boolean⟩ := by decide +kernel
theorem ef_IIIII_14l (m : MethodId) (x0 : Int32) (x1 : Int32) (x2 : Int32) (x3 : Int32) (x4 : Int32) : entryFrame m #[(.int x0), (.int x1), (.int x2), (.int x3), (.int x4)] maxLocals = mkF m 0 #[.val (.int x0), .val (.int x1), .val (.int x2), .val (.int x3), .val (.int x4), .unset, .unset, .unset, .unset, .unset, .unset, .unset, .unset, .unset] [] := by first | (simp [entryFrame, mkF, argsToLocals, Value.category, maxLocals]; done) | rfl
def own_Q0 (n0 : Nat) (v : Option Value) (h : Heap) (L : List Loc) : Prop := v = some (.int (1 : Int32)) ∧ Fr n0 L
set_option maxRecDepth 65536 in
set_option maxHeartbeats 40000000 in
theorem rm0 (l : Launch) (Z : State) (a0 : Array Value) (hw : own_W a0 Z) (ws : List Jvm.Cond) (p1 p2 p3 p4 p5 : Int32) (cs : Int32) (gS : Value) (h0 : Heap) (n0 : Nat) (Z0 : n0 ≤ h0.size) (V_env : own_Env Z cs gS) (Od : Old Z n0 h0) :
    MetFree l x (head1 (Jvm.Cond.code x code maxLocals ret :: ws) room_1) (fun a U => a = #[(.int p1), (.int p2), (.int p3), (.int p4), (.int p5)] ∧ Z.Warmed39 U.vm ∧ U.heap = h0 ∧ CHv Z consts_1 U.vm h0) (fun _ _ _ _ _ => True) (fun _ U o U' => ∃ v L, o = .returned v ∧ own_Q0 n0 v U'.heap L ∧ CHr Z consts_1 U.vm U.heap U'.vm U'.heap ∧ ReturnedEndW U o U' L room_1.cells room_1.slots) := by
  refine MetFree.of_bodySF (plainFor_of_name own_pn1) hisR ?_
  intro p e s m args below meth c s₁ Bd hml0 hP hK
  obtain ⟨rfl, hZ, hh, hCH0⟩ := hP
  have hx := Bd.exec
  have hby := Bd.bytes
  have hlk := Bd.notSynchronized
  have hml : c.maxLocals = 14 := hml0
  have hown : s.vm.findClass "com/example/munka/munka/model/NulFreeIsPinLaw" = some m.cls := findClass_of_methodNamed Bd.named
  have hnm := (name_of_methodNamed Bd.named Bd.method).1
  have X0 : Stand p l e room_1 (s.setVm s.vm) m #[(.int p1), (.int p2), (.int p3), (.int p4), (.int p5)] below meth c s₁ [] 0 0 := Stand.of_body Bd
  have e0 : s₁.heap = h0 := by rw [← hh, Bd.state]; rfl
  have N0 := Fr.nil n0
  refine own_startH (Q := own_Q0 n0) (C := room_1.cells) (N := room_1.slots) hh (ef_IIIII_14l m p1 p2 p3 p4 p5 ) ?_
  have hS0 : s.Since s.vm h0.size := (State.WarmedH.refl s).since _
  have hk0 : h0.size ≤ h0.size := Nat.le_refl _
  replace hown : (s.setVm s.vm).vm.findClass "com/example/munka/munka/model/NulFreeIsPinLaw" = some m.cls := hown
  replace hZ : Z.Warmed39 (s.setVm s.vm).vm := hZ
  have CH0 : CHr Z consts_1 s.vm h0 s.vm h0 := CHr.refl hCH0
  show own_FinH _ _ _ _ _ _ _ _ _ _ s₁ (mkF m 0 #[Iv p1, Iv p2, Iv p3, Iv p4, Iv p5, Uv, Uv, Uv, Uv, Uv, Uv, Uv, Uv, Uv] [])
  obtain ⟨_, _, ⟨T597, L597, k597, n597⟩, -, X597, ⟨Lc597, hQ597, l597, y597, z597⟩, st597⟩ := Jvm.LawKit.callS X0 hx (y := mn0) hown (mvT hZ (own_g hw 1 rfl)) (mvT hZ (own_g hw 2 rfl)) (mvT hZ (own_g hw 3 rfl)) (mvT hZ (own_g hw 4 rfl)) (by decide) (backOf (W := 0) (rmDr l Z a0 hw [] p2 h0 n0 Z0) hZ (own_g hw 4 rfl) (own_g hw 3 rfl) (by decide) (by decide)) (g := (mkF m 9 #[Iv p1, Iv p2, Iv p3, Iv p4, Iv p5, Iv ((p1 &&& (2147483647 : Int32)) % (5 : Int32)), Uv, Uv, Uv, Uv, Uv, Uv, Uv, Uv] [(.int p2)])) rfl (by rw [hml]; rfl) (argsL := [(.int p2)]) (rest := []) (lenOf own_pd422 rfl) rfl (own_z rfl) (hb hby at_9) (fun _ _ => ⟨rfl, e0, (by decide : 0 + 0 ≤ _), (by decide : 0 + 0 ≤ _)⟩)
  dsimp only [Pt.U, Pt.locs, Pt.cells, Pt.slots] at X597 l597 y597 z597 st597 hQ597
  subst l597 y597 z597
  obtain ⟨y597, rfl, Nq597, hy597, eh597⟩ := hQ597
  have N597 := Fr.app N0 Nq597
  obtain ⟨_, _, ⟨T598, L598, k598, n598⟩, -, X598, ⟨Lc598, hQ598, l598, y598, z598⟩, st598⟩ := Jvm.LawKit.callS X597 hx (y := mn0) hown (mvT hZ (own_g hw 1 rfl)) (mvT hZ (own_g hw 2 rfl)) (mvT hZ (own_g hw 3 rfl)) (mvT hZ (own_g hw 4 rfl)) (by decide) (backOf (W := 0) (rmDr l Z a0 hw [] p3 h0 n0 Z0) hZ (own_g hw 4 rfl) (own_g hw 3 rfl) (by decide) (by decide)) (g := (mkF m 15 #[Iv p1, Iv p2, Iv p3, Iv p4, Iv p5, Iv ((p1 &&& (2147483647 : Int32)) % (5 : Int32)), Iv y597, Uv, Uv, Uv, Uv, Uv, Uv, Uv] [(.int p3)])) rfl (by rw [hml]; rfl) (argsL := [(.int p3)]) (rest := []) (lenOf own_pd422 rfl) rfl (own_z rfl) (hb hby at_15) (fun _ _ => ⟨rfl, eh597, (by decide : 0 + 0 ≤ _), (by decide : 0 + 0 ≤ _)⟩)
  dsimp only [Pt.U, Pt.locs, Pt.cells, Pt.slots] at X598 l598 y598 z598 st598 hQ598
  subst l598 y598 z598
  obtain ⟨y598, rfl, Nq598, hy598, eh598⟩ := hQ598
  have N598 := Fr.app N597 Nq598
  refine own_byH (fun _ k => XS.iloadN X0.here hx rfl (hb hby at_0) rfl (X0.ldcInt hx hown (mvT hZ (own_g hw 0 rfl)) (g := (mkF m 1 #[Iv p1, Iv p2, Iv p3, Iv p4, Iv p5, Uv, Uv, Uv, Uv, Uv, Uv, Uv, Uv, Uv] [(.int p1)])) rfl (hb hby at_1) _ (XS.iand X0.here hx rfl (hb hby at_3) rfl (XS.iconst X0.here hx rfl (hb hby at_4) (iremM X0 hx rfl (hb hby at_5) rfl (by decide) (XS.istore X0.here hx rfl (hb hby at_6) rfl (l' := #[Iv p1, Iv p2, Iv p3, Iv p4, Iv p5, Iv ((p1 &&& (2147483647 : Int32)) % (5 : Int32)), Uv, Uv, Uv, Uv, Uv, Uv, Uv, Uv]) rfl (XS.iloadN X0.here hx rfl (hb hby at_8) rfl (st597 _ (XS.istore X597.here hx rfl (hb hby at_12) rfl (l' := #[Iv p1, Iv p2, Iv p3, Iv p4, Iv p5, Iv ((p1 &&& (2147483647 : Int32)) % (5 : Int32)), Iv y597, Uv, Uv, Uv, Uv, Uv, Uv, Uv]) rfl (XS.iloadN X597.here hx rfl (hb hby at_14) rfl k)))))))))) ?_
  show own_FinH _ _ _ _ _ _ _ _ _ _ T597 (mkF m 15 #[Iv p1, Iv p2, Iv p3, Iv p4, Iv p5, Iv ((p1 &&& (2147483647 : Int32)) % (5 : Int32)), Iv y597, Uv, Uv, Uv, Uv, Uv, Uv, Uv] [(.int p3)])
  obtain ⟨_, _, ⟨T599, L599, k599, n599⟩, -, X599, ⟨Lc599, hQ599, l599, y599, z599⟩, st599⟩ := Jvm.LawKit.callS X598 hx (y := mn0) hown (mvT hZ (own_g hw 1 rfl)) (mvT hZ (own_g hw 2 rfl)) (mvT hZ (own_g hw 3 rfl)) (mvT hZ (own_g hw 4 rfl)) (by decide) (backOf (W := 0) (rmDr l Z a0 hw [] p4 h0 n0 Z0) hZ (own_g hw 4 rfl) (own_g hw 3 rfl) (by decide) (by decide)) (g := (mkF m 21 #[Iv p1, Iv p2, Iv p3, Iv p4, Iv p5, Iv ((p1 &&& (2147483647 : Int32)) % (5 : Int32)), Iv y597, Iv y598, Uv, Uv, Uv, Uv, Uv, Uv] [(.int p4)])) rfl (by rw [hml]; rfl) (argsL := [(.int p4)]) (rest := []) (lenOf own_pd422 rfl) rfl (own_z rfl) (hb hby at_21) (fun _ _ => ⟨rfl, eh598, (by decide : 0 + 0 ≤ _), (by decide : 0 + 0 ≤ _)⟩)
  dsimp only [Pt.U, Pt.locs, Pt.cells, Pt.slots] at X599 l599 y599 z599 st599 hQ599
  subst l599 y599 z599
  obtain ⟨y599, rfl, Nq599, hy599, eh599⟩ := hQ599
  have N599 := Fr.app N598 Nq599
  obtain ⟨_, _, ⟨T600, L600, k600, n600⟩, -, X600, ⟨Lc600, hQ600, l600, y600, z600⟩, st600⟩ := Jvm.LawKit.callS X599 hx (y := mn0) hown (mvT hZ (own_g hw 1 rfl)) (mvT hZ (own_g hw 2 rfl)) (mvT hZ (own_g hw 3 rfl)) (mvT hZ (own_g hw 4 rfl)) (by decide) (backOf (W := 0) (rmDr l Z a0 hw [] p5 h0 n0 Z0) hZ (own_g hw 4 rfl) (own_g hw 3 rfl) (by decide) (by decide)) (g := (mkF m 28 #[Iv p1, Iv p2, Iv p3, Iv p4, Iv p5, Iv ((p1 &&& (2147483647 : Int32)) % (5 : Int32)), Iv y597, Iv y598, Iv y599, Uv, Uv, Uv, Uv, Uv] [(.int p5)])) rfl (by rw [hml]; rfl) (argsL := [(.int p5)]) (rest := []) (lenOf own_pd422 rfl) rfl (own_z rfl) (hb hby at_28) (fun _ _ => ⟨rfl, eh599, (by decide : 0 + 0 ≤ _), (by decide : 0 + 0 ≤ _)⟩)
  dsimp only [Pt.U, Pt.locs, Pt.cells, Pt.slots] at X600 l600 y600 z600 st600 hQ600
  subst l600 y600 z600
  obtain ⟨y600, rfl, Nq600, hy600, eh600⟩ := hQ600
  have N600 := Fr.app N599 Nq600
  refine own_byH (fun _ k => st598 _ (XS.istore X598.here hx rfl (hb hby at_18) rfl (l' := #[Iv p1, Iv p2, Iv p3, Iv p4, Iv p5, Iv ((p1 &&& (2147483647 : Int32)) % (5 : Int32)), Iv y597, Iv y598, Uv, Uv, Uv, Uv, Uv, Uv]) rfl (XS.iloadN X598.here hx rfl (hb hby at_20) rfl (st599 _ (XS.istore X599.here hx rfl (hb hby at_24) rfl (l' := #[Iv p1, Iv p2, Iv p3, Iv p4, Iv p5, Iv ((p1 &&& (2147483647 : Int32)) % (5 : Int32)), Iv y597, Iv y598, Iv y599, Uv, Uv, Uv, Uv, Uv]) rfl (XS.iload X599.here hx rfl (hb hby at_26) rfl (st600 _ (XS.istore X600.here hx rfl (hb hby at_31) rfl (l' := #[Iv p1, Iv p2, Iv p3, Iv p4, Iv p5, Iv ((p1 &&& (2147483647 : Int32)) % (5 : Int32)), Iv y597, Iv y598, Iv y599, Iv y600, Uv, Uv, Uv, Uv]) rfl k)))))))) ?_
  show own_FinH _ _ _ _ _ _ _ _ _ _ T600 (mkF m 33 #[Iv p1, Iv p2, Iv p3, Iv p4, Iv p5, Iv ((p1 &&& (2147483647 : Int32)) % (5 : Int32)), Iv y597, Iv y598, Iv y599, Iv y600, Uv, Uv, Uv, Uv] [])
  rcases own_n5 p1 with hn | hn | hn | hn | hn
  · show own_FinH _ _ _ _ _ _ _ _ _ _ T600 (mkF m 33 #[Iv p1, Iv p2, Iv p3, Iv p4, Iv p5, Iv ((p1 &&& (2147483647 : Int32)) % (5 : Int32)), Iv y597, Iv y598, Iv y599, Iv y600, Uv, Uv, Uv, Uv] [])
    rw [hn]
    show own_FinH _ _ _ _ _ _ _ _ _ _ T600 (mkF m 33 #[Iv p1, Iv p2, Iv p3, Iv p4, Iv p5, Iv 0, Iv y597, Iv y598, Iv y599, Iv y600, Uv, Uv, Uv, Uv] [])
    obtain ⟨T601, h601, k601, X601, e601, E601, A601, st601⟩ := newP X600 hx hZ (own_g hw 5 rfl) eh600 (g := (mkF m 35 #[Iv p1, Iv p2, Iv p3, Iv p4, Iv p5, Iv 0, Iv y597, Iv y598, Iv y599, Iv y600, Uv, Uv, Uv, Uv] [(.int 0)])) rfl (hb hby at_35) rfl (by decide) (cap := 0) (by decide) (by decide) (by decide) (by decide)
    obtain ⟨b601, g601⟩ : ∃ z, z = h0.size := ⟨_, rfl⟩
    rw [← g601] at A601 st601
    have V601 : Arv Z h601 b601 k601 .char (0 : Int32) [] (.int (0 : Int32)) := Arv.new A601 (by decide)
    have gf601 : n0 ≤ b601 := Nat.le_trans Z0 (Nat.le_of_eq g601.symm)
    have Zs601 : n0 ≤ h601.size := Nat.le_trans Z0 E601.1
    have hkE601 : _ ≤ h601.size := Nat.le_trans hk0 E601.1
    have Sf601 : Safe Z consts_1 s.vm h601 b601 := Safe.ext E601 CH0.1 (Safe.new (Nat.le_of_eq g601.symm))
    have CHs602 : CHr Z consts_1 s.vm h0 s.vm h601 := CH0.trans (CHr.ext E601 CH0.1)
    have f603_0 : Old Z n0 h601 := Od.ext E601
    refine own_byH (fun _ k => XS.iload X600.here hx rfl (hb hby at_33) rfl (st601 _ (XS.astore X601.here hx rfl (hb hby at_37) rfl rfl (l' := #[Iv p1, Iv p2, Iv p3, Iv p4, Iv p5, Iv 0, Iv y597, Iv y598, Iv y599, Iv y600, Rv b601, Uv, Uv, Uv]) rfl (XS.iload X601.here hx rfl (hb hby at_39) rfl (XS.ifYes X601.here hx rfl (pc0 := 41) (pc' := 50) rfl (hb hby at_41) rfl ((if0 _ _).trans (flt (by decide : ¬ ((0 : Int32) < (0 : Int32)))).2.2.2) (by decide) (by decide) (XS.iload X601.here hx rfl (hb hby at_50) rfl (XS.iconst X601.here hx rfl (hb hby at_52) (XS.icmpYes X601.here hx rfl (pc0 := 53) (pc' := 62) rfl (hb hby at_53) rfl (flt (by decide : ¬ ((1 : Int32) < (0 : Int32)))).2.2.2 (by decide) (by decide) (XS.iload X601.here hx rfl (hb hby at_62) rfl (XS.iconst X601.here hx rfl (hb hby at_64) k)))))))))) ?_
    show own_FinH _ _ _ _ _ _ _ _ _ _ T601 (mkF m 65 #[Iv p1, Iv p2, Iv p3, Iv p4, Iv p5, Iv 0, Iv y597, Iv y598, Iv y599, Iv y600, Rv b601, Uv, Uv, Uv] [(.int 2), (.int 0)])
    obtain ⟨T604, h604, X604, e604, E604, A604, D604, -, st604⟩ := newO X601 hx hZ hown (own_g hw 6 rfl) (own_g hw 7 rfl) (own_g hw 8 rfl) e601 (g := (mkF m 86 #[Iv p1, Iv p2, Iv p3, Iv p4, Iv p5, Iv 0, Iv y597, Iv y598, Iv y599, Iv y600, Rv b601, Uv, Uv, Uv] [])) rfl (hb hby at_86) (by decide) (by decide)
    obtain ⟨b604, g604⟩ : ∃ z, z = h601.size := ⟨_, rfl⟩
    rw [← g604] at A604 D604 st604
    have ne604_b601 : b601 ≠ b604 := Nat.ne_of_lt (Nat.lt_of_lt_of_le V601.lt (Nat.le_of_eq g604.symm))
    have gf604 : n0 ≤ b604 := Nat.le_trans Zs601 (Nat.le_of_eq g604.symm)
    have Zs604 : n0 ≤ h604.size := Nat.le_trans Zs601 E604.1
    have hkE604 : _ ≤ h604.size := Nat.le_trans hkE601 E604.1
    have Sf604 : Safe Z consts_1 s.vm h604 b604 := Safe.ext E604 CHs602.1 (Safe.new (Nat.le_of_eq g604.symm))
    have sf605_b601 : Safe Z consts_1 s.vm h604 b601 := Safe.ext E604 CHs602.1 Sf601
    have CHs605 : CHr Z consts_1 s.vm h0 s.vm h604 := CHs602.trans (CHr.ext E604 CHs602.1)
    have f606_0 : Old Z n0 h604 := f603_0.ext E604
    have f606_2 : Arv Z h604 b601 k601 .char (0 : Int32) [] (.int (0 : Int32)) := V601.ext E604
    have F604_value : Fld Z h604 b604 "java/lang/String" "value" "[B" .null := D604 (Or.inr (own_g hw 21 rfl)) (ty := (.array .byte)) (by decide)
    have F604_coder : Fld Z h604 b604 "java/lang/String" "coder" "B" (.int (0 : Int32)) := D604 (Or.inr (own_g hw 22 rfl)) (ty := .byte) (by decide)
    obtain ⟨_, _, ⟨T607, L607, k607, n607⟩, -, X607, hSn607, hgr607, ⟨Lc607, hQ607, l607, y607, z607, hCr607⟩, st607⟩ := X604.specialBackS hx (y := mn2) rfl hown (mvT hZ (own_g hw 9 rfl)) (mvT hZ (own_g hw 10 rfl)) (mvT hZ (own_g hw 11 rfl)) (by decide) (backOfSH (W := 1) (s := s) (vm0 := s.vm) (rmSCe l Z a0 hw [] b604 b601 k601 h604 n0 Zs604 A604 F604_value F604_coder gf604 f606_2) hZ (own_g hw 11 rfl) (own_g hw 8 rfl) (by decide) (by decide) (own_EW hw) CHs605.1) (g := (mkF m 92 #[Iv p1, Iv p2, Iv p3, Iv p4, Iv p5, Iv 0, Iv y597, Iv y598, Iv y599, Iv y600, Rv b601, Uv, Uv, Uv] [(.ref b601), (.ref b604), (.ref b604)])) rfl (by rw [hml]; rfl) (Steps.refl _) (a := b604) (argsL := [(.ref b601)]) (rest := [(.ref b604)]) (lenOf own_pd423 rfl) rfl (own_z rfl) (hb hby at_92) (fun _ _ => ⟨rfl, e604, (by decide : 2 + 4 ≤ _), (by decide : 4 + 8 ≤ _)⟩)
    dsimp only [Pt.U, Pt.locs, Pt.cells, Pt.slots] at X607 l607 y607 z607 st607 hQ607 hSn607 hgr607
    subst l607 y607 z607
    obtain ⟨b607, k607, rfl, Nq607, K607, Gc607, Gv607, V607⟩ := hQ607
    have N607 := Fr.app N600 Nq607
    have hS607 : s.Since T607.vm T607.heap.size := foldS (s := s) hS0 (by rw [e604]; exact hkE604) hSn607 hgr607
    have hZ607 : Z.Warmed39 (s.setVm T607.vm).vm := State.Warmed39.trans (t := s.setVm s.vm) hZ hSn607.1
    have hown607 : (s.setVm T607.vm).vm.findClass "com/example/munka/munka/model/NulFreeIsPinLaw" = some m.cls := by rw [show (s.setVm T607.vm).vm = T607.vm from rfl, hSn607.1.alike.findClass]; exact hown
    replace hCr607 : CHr Z consts_1 s.vm h604 T607.vm T607.heap := hCr607
    have sf608_b601 : Safe Z consts_1 T607.vm T607.heap b601 := CHr.safe hCr607 f606_2.lt sf605_b601
    have sf608_b604 : Safe Z consts_1 T607.vm T607.heap b604 := CHr.safe hCr607 A604.lt Sf604
    have CHs608 : CHr Z consts_1 s.vm h0 T607.vm T607.heap := CHs605.trans (hCr607)
    replace hZ := hZ607
    replace hown := hown607
    replace X607 : Stand p l e room_1 (s.setVm T607.vm) m #[(.int p1), (.int p2), (.int p3), (.int p4), (.int p5)] below meth c T607 _ _ _ := X607
    have hkE607 : T607.heap.size ≤ T607.heap.size := Nat.le_refl _
    have Zs607 : n0 ≤ T607.heap.size := Nat.le_trans Zs604 K607.1
    have f609_0 : Old Z n0 T607.heap := f606_0.keep K607 (allS gf604 all0)
    have f609_2 : Arv Z T607.heap b601 k601 .char (0 : Int32) [] (.int (0 : Int32)) := f606_2.keep K607 (ninS ne604_b601 nin0)
    have f609_4 : Exa Z T607.heap b604 "java/lang/String" := A604.keep K607
    refine own_byH (fun _ k => XS.icmpYes X601.here hx rfl (pc0 := 65) (pc' := 74) rfl (hb hby at_65) rfl (flt (by decide : ¬ ((2 : Int32) < (0 : Int32)))).2.2.2 (by decide) (by decide) (XS.iload X601.here hx rfl (hb hby at_74) rfl (XS.iconst X601.here hx rfl (hb hby at_76) (XS.icmpYes X601.here hx rfl (pc0 := 77) (pc' := 86) rfl (hb hby at_77) rfl (flt (by decide : ¬ ((3 : Int32) < (0 : Int32)))).2.2.2 (by decide) (by decide) (st604 _ (XS.dup X604.here hx rfl (hb hby at_89) rfl rfl (XS.aload X604.here hx rfl (hb hby at_90) rfl rfl (st607.trans (XS.astore X607.here hx rfl (hb hby at_95) rfl rfl (l' := #[Iv p1, Iv p2, Iv p3, Iv p4, Iv p5, Iv 0, Iv y597, Iv y598, Iv y599, Iv y600, Rv b601, Rv b604, Uv, Uv]) rfl k))))))))) ?_
    show own_FinH _ _ _ _ _ _ _ _ _ _ T607 (mkF m 97 #[Iv p1, Iv p2, Iv p3, Iv p4, Iv p5, Iv 0, Iv y597, Iv y598, Iv y599, Iv y600, Rv b601, Rv b604, Uv, Uv] [])
    have J167_610 : ∀ (hs : Slot) (ex : Int32) (he : ex = own_no (0 : Int32)), own_FinH p e below s Z consts_1 h0 room_1.cells room_1.slots (own_Q0 n0) T607 (mkF m 167 #[Iv p1, Iv p2, Iv p3, Iv p4, Iv p5, Iv 0, Iv y597, Iv y598, Iv y599, Iv y600, Rv b601, Rv b604, hs, Iv ex] []) := by
      intro hs ex he
      subst he
      show own_FinH _ _ _ _ _ _ _ _ _ _ T607 (mkF m 167 #[Iv p1, Iv p2, Iv p3, Iv p4, Iv p5, Iv 0, Iv y597, Iv y598, Iv y599, Iv y600, Rv b601, Rv b604, hs, Iv (own_no (0 : Int32))] [])
      obtain ⟨_, _, ⟨T611, L611, k611, n611⟩, -, X611, ⟨Lc611, hQ611, l611, y611, z611⟩, st611⟩ := Jvm.LawKit.callS X607 hx (y := mn20) hown (mvT hZ (own_g hw 27 rfl)) (mvT hZ (own_g hw 28 rfl)) (mvT hZ (own_g hw 29 rfl)) (mvT hZ (own_g hw 30 rfl)) (by decide) (backOf (W := 0) (rmIS0L l Z a0 hw [] cs gS b604 b607 k607  T607.heap n0 Zs607 V_env f609_0 f609_4 Gv607 Gc607 V607 ) hZ (own_g hw 30 rfl) (own_g hw 29 rfl) (by decide) (by decide)) (g := (mkF m 169 #[Iv p1, Iv p2, Iv p3, Iv p4, Iv p5, Iv 0, Iv y597, Iv y598, Iv y599, Iv y600, Rv b601, Rv b604, hs, Iv (own_no (0 : Int32))] [(.ref b604)])) rfl (by rw [hml]; rfl) (argsL := [(.ref b604)]) (rest := []) (lenOf own_pd424 rfl) rfl (own_z rfl) (hb hby at_169) (fun _ _ => ⟨rfl, rfl, (by decide : 6 + 0 ≤ _), (by decide : 12 + 0 ≤ _)⟩)
      dsimp only [Pt.U, Pt.locs, Pt.cells, Pt.slots] at X611 l611 y611 z611 st611 hQ611
      subst l611 y611 z611
      obtain ⟨rfl, Nq611, eh611⟩ := hQ611
      have N611 := Fr.app N607 Nq611
      have pl : own_neg (own_find ((0 : Int32).toInt8.toInt32) [] (0 : Int32)) = own_no (0 : Int32) := by decide
      have CHe612 : CHr Z consts_1 s.vm h0 T611.vm T607.heap := CHs608.trans (CHv.at X611 hZ (own_EW hw) CHs608.1)
      refine own_byH (fun _ k => XS.aload X607.here hx rfl (hb hby at_167) rfl rfl (st611 _ (XS.iload X611.here hx rfl (hb hby at_172) rfl (XS.icmpNo X611.here hx rfl (hb hby at_174) rfl (teq pl).2 (XS.iconst X611.here hx rfl (hb hby at_177) (XS.goto X611.here hx rfl (pc0 := 178) (pc' := 182) rfl (hb hby at_178) (by decide) (by decide) k)))))) ?_
      exact own_retZH X611 hS607 (by rw [eh611]; exact hkE607) (by rw [eh611]; exact CHe612) hx hlk (t := .boolean) Bd.returns (by simp) (hb hby at_182) ⟨rfl, N611⟩ (by decide) (by decide)
    show own_FinH _ _ _ _ _ _ _ _ _ _ T607 (mkF m 97 #[Iv p1, Iv p2, Iv p3, Iv p4, Iv p5, Iv 0, Iv y597, Iv y598, Iv y599, Iv y600, Rv b601, Rv b604, Uv, Uv] [])
    refine own_byH (fun _ k => XS.iconst X607.here hx rfl (hb hby at_97) (XS.istore X607.here hx rfl (hb hby at_98) rfl (l' := #[Iv p1, Iv p2, Iv p3, Iv p4, Iv p5, Iv 0, Iv y597, Iv y598, Iv y599, Iv y600, Rv b601, Rv b604, Iv 0, Uv]) rfl (XS.iload X607.here hx rfl (hb hby at_100) rfl (XS.ifYes X607.here hx rfl (pc0 := 102) (pc' := 113) rfl (hb hby at_102) rfl ((if0 _ _).trans (flt (by decide : ¬ ((0 : Int32) < (0 : Int32)))).2.2.2) (by decide) (by decide) (XS.iload X607.here hx rfl (hb hby at_113) rfl (XS.iconst X607.here hx rfl (hb hby at_115) (XS.icmpYes X607.here hx rfl (pc0 := 116) (pc' := 127) rfl (hb hby at_116) rfl (flt (by decide : ¬ ((1 : Int32) < (0 : Int32)))).2.2.2 (by decide) (by decide) (XS.iload X607.here hx rfl (hb hby at_127) rfl (XS.iconst X607.here hx rfl (hb hby at_129) (XS.icmpYes X607.here hx rfl (pc0 := 130) (pc' := 141) rfl (hb hby at_130) rfl (flt (by decide : ¬ ((2 : Int32) < (0 : Int32)))).2.2.2 (by decide) (by decide) k)))))))))) ?_
    show own_FinH _ _ _ _ _ _ _ _ _ _ T607 (mkF m 141 #[Iv p1, Iv p2, Iv p3, Iv p4, Iv p5, Iv 0, Iv y597, Iv y598, Iv y599, Iv y600, Rv b601, Rv b604, Iv 0, Uv] [])
    refine own_byH (fun _ k => XS.iload X607.here hx rfl (hb hby at_141) rfl (XS.iconst X607.here hx rfl (hb hby at_143) (XS.icmpYes X607.here hx rfl (pc0 := 144) (pc' := 155) rfl (hb hby at_144) rfl (flt (by decide : ¬ ((3 : Int32) < (0 : Int32)))).2.2.2 (by decide) (by decide) (XS.iload X607.here hx rfl (hb hby at_155) rfl (XS.ifNo X607.here hx rfl (hb hby at_157) rfl ((if0 _ _).trans (teq (by decide : (0 : Int32) = (0 : Int32))).2) (XS.iconst X607.here hx rfl (hb hby at_160) (XS.goto X607.here hx rfl (pc0 := 161) (pc' := 165) rfl (hb hby at_161) (by decide) (by decide) (XS.istore X607.here hx rfl (hb hby at_165) rfl (l' := #[Iv p1, Iv p2, Iv p3, Iv p4, Iv p5, Iv 0, Iv y597, Iv y598, Iv y599, Iv y600, Rv b601, Rv b604, Iv 0, Iv 1]) rfl k)))))))) ?_
    exact J167_610 (.val (.int (0 : Int32))) ((1 : Int32)) (by decide)
  · show own_FinH _ _ _ _ _ _ _ _ _ _ T600 (mkF m 33 #[Iv p1, Iv p2, Iv p3, Iv p4, Iv p5, Iv ((p1 &&& (2147483647 : Int32)) % (5 : Int32)), Iv y597, Iv y598, Iv y599, Iv y600, Uv, Uv, Uv, Uv] [])
    rw [hn]
    show own_FinH _ _ _ _ _ _ _ _ _ _ T600 (mkF m 33 #[Iv p1, Iv p2, Iv p3, Iv p4, Iv p5, Iv 1, Iv y597, Iv y598, Iv y599, Iv y600, Uv, Uv, Uv, Uv] [])
    obtain ⟨T613, h613, k613, X613, e613, E613, A613, st613⟩ := newP X600 hx hZ (own_g hw 5 rfl) eh600 (g := (mkF m 35 #[Iv p1, Iv p2, Iv p3, Iv p4, Iv p5, Iv 1, Iv y597, Iv y598, Iv y599, Iv y600, Uv, Uv, Uv, Uv] [(.int 1)])) rfl (hb hby at_35) rfl (by decide) (cap := 1) (by decide) (by decide) (by decide) (by decide)
    obtain ⟨b613, g613⟩ : ∃ z, z = h0.size := ⟨_, rfl⟩
    rw [← g613] at A613 st613
    have V613 : Arv Z h613 b613 k613 .char (1 : Int32) [(.int (0 : Int32))] (.int (0 : Int32)) := (Arv.new A613 (by decide)).pad (pad_rep [] (.int (0 : Int32)) 1)
    have gf613 : n0 ≤ b613 := Nat.le_trans Z0 (Nat.le_of_eq g613.symm)
    have Zs613 : n0 ≤ h613.size := Nat.le_trans Z0 E613.1
    have hkE613 : _ ≤ h613.size := Nat.le_trans hk0 E613.1
    have Sf613 : Safe Z consts_1 s.vm h613 b613 := Safe.ext E613 CH0.1 (Safe.new (Nat.le_of_eq g613.symm))
    have CHs614 : CHr Z consts_1 s.vm h0 s.vm h613 := CH0.trans (CHr.ext E613 CH0.1)
    have f615_0 : Old Z n0 h613 := Od.ext E613
    obtain ⟨cl616, Ar616, q616, S616, M616, H616, G616⟩ := id V613
    have hin616 : ¬ ((0 : Int32) < 0 ∨ cl616.slots.size ≤ ((0 : Int32)).toNatClampNeg) := inb_of S616 ⟨by decide, by decide⟩
    obtain ⟨T616, h616, X616, e616, W616, st616⟩ := stC X613 hx hZ e613 Ar616 (j := (0 : Int32)) hin616 (g := (mkF m 49 #[Iv p1, Iv p2, Iv p3, Iv p4, Iv p5, Iv 1, Iv y597, Iv y598, Iv y599, Iv y600, Rv b613, Uv, Uv, Uv] [(.int y597), (.int 0), (.ref b613)])) rfl rfl (hb hby at_49)
    have V616 : Arv Z h616 b613 k613 .char (1 : Int32) [(.int y597.toUInt32.toUInt16.toUInt32.toInt32)] (.int (0 : Int32)) := Arv.set Ar616 q616 S616 M616 H616 G616 (fits_nar_char _) W616 0 rfl (Nat.le_of_ble_eq_true rfl)
    have Zs616 : n0 ≤ h616.size := Nat.le_trans Zs613 (Keep.of_wr W616).1
    have N616 := Fr.snoc X616 N600 gf613
    have hkE616 : _ ≤ h616.size := Nat.le_trans hkE613 (Keep.of_wr W616).1
    have sf617_b613 : Safe Z consts_1 s.vm h616 b613 := Safe.wr W616 Sf613 CHs614.1 Sf613
    have CHs617 : CHr Z consts_1 s.vm h0 s.vm h616 := CHs614.trans (CHr.wr W616 Sf613 CHs614.1)
    have f618_0 : Old Z n0 h616 := f615_0.wr W616 gf613
    refine own_byH (fun _ k => XS.iload X600.here hx rfl (hb hby at_33) rfl (st613 _ (XS.astore X613.here hx rfl (hb hby at_37) rfl rfl (l' := #[Iv p1, Iv p2, Iv p3, Iv p4, Iv p5, Iv 1, Iv y597, Iv y598, Iv y599, Iv y600, Rv b613, Uv, Uv, Uv]) rfl (XS.iload X613.here hx rfl (hb hby at_39) rfl (XS.ifNo X613.here hx rfl (hb hby at_41) rfl ((if0 _ _).trans (tlt (by decide : (0 : Int32) < (1 : Int32))).2.2.2) (XS.aload X613.here hx rfl (hb hby at_44) rfl rfl (XS.iconst X613.here hx rfl (hb hby at_46) (XS.iload X613.here hx rfl (hb hby at_47) rfl (st616 _ (XS.iload X616.here hx rfl (hb hby at_50) rfl k)))))))))) ?_
    show own_FinH _ _ _ _ _ _ _ _ _ _ T616 (mkF m 52 #[Iv p1, Iv p2, Iv p3, Iv p4, Iv p5, Iv 1, Iv y597, Iv y598, Iv y599, Iv y600, Rv b613, Uv, Uv, Uv] [(.int 1)])
    obtain ⟨T619, h619, X619, e619, E619, A619, D619, -, st619⟩ := newO X616 hx hZ hown (own_g hw 6 rfl) (own_g hw 7 rfl) (own_g hw 8 rfl) e616 (g := (mkF m 86 #[Iv p1, Iv p2, Iv p3, Iv p4, Iv p5, Iv 1, Iv y597, Iv y598, Iv y599, Iv y600, Rv b613, Uv, Uv, Uv] [])) rfl (hb hby at_86) (by decide) (by decide)
    obtain ⟨b619, g619⟩ : ∃ z, z = h616.size := ⟨_, rfl⟩
    rw [← g619] at A619 D619 st619
    have ne619_b613 : b613 ≠ b619 := Nat.ne_of_lt (Nat.lt_of_lt_of_le V616.lt (Nat.le_of_eq g619.symm))
    have gf619 : n0 ≤ b619 := Nat.le_trans Zs616 (Nat.le_of_eq g619.symm)
    have Zs619 : n0 ≤ h619.size := Nat.le_trans Zs616 E619.1
    have hkE619 : _ ≤ h619.size := Nat.le_trans hkE616 E619.1
    have Sf619 : Safe Z consts_1 s.vm h619 b619 := Safe.ext E619 CHs617.1 (Safe.new (Nat.le_of_eq g619.symm))
    have sf620_b613 : Safe Z consts_1 s.vm h619 b613 := Safe.ext E619 CHs617.1 sf617_b613
    have CHs620 : CHr Z consts_1 s.vm h0 s.vm h619 := CHs617.trans (CHr.ext E619 CHs617.1)
    have f621_0 : Old Z n0 h619 := f618_0.ext E619
    have f621_2 : Arv Z h619 b613 k613 .char (1 : Int32) [(.int y597.toUInt32.toUInt16.toUInt32.toInt32)] (.int (0 : Int32)) := V616.ext E619
    have F619_value : Fld Z h619 b619 "java/lang/String" "value" "[B" .null := D619 (Or.inr (own_g hw 21 rfl)) (ty := (.array .byte)) (by decide)
    have F619_coder : Fld Z h619 b619 "java/lang/String" "coder" "B" (.int (0 : Int32)) := D619 (Or.inr (own_g hw 22 rfl)) (ty := .byte) (by decide)
    refine own_byH (fun _ k => XS.iconst X616.here hx rfl (hb hby at_52) (XS.icmpYes X616.here hx rfl (pc0 := 53) (pc' := 62) rfl (hb hby at_53) rfl (flt (by decide : ¬ ((1 : Int32) < (1 : Int32)))).2.2.2 (by decide) (by decide) (XS.iload X616.here hx rfl (hb hby at_62) rfl (XS.iconst X616.here hx rfl (hb hby at_64) (XS.icmpYes X616.here hx rfl (pc0 := 65) (pc' := 74) rfl (hb hby at_65) rfl (flt (by decide : ¬ ((2 : Int32) < (1 : Int32)))).2.2.2 (by decide) (by decide) (XS.iload X616.here hx rfl (hb hby at_74) rfl (XS.iconst X616.here hx rfl (hb hby at_76) (XS.icmpYes X616.here hx rfl (pc0 := 77) (pc' := 86) rfl (hb hby at_77) rfl (flt (by decide : ¬ ((3 : Int32) < (1 : Int32)))).2.2.2 (by decide) (by decide) (st619 _ (XS.dup X619.here hx rfl (hb hby at_89) rfl rfl k)))))))))) ?_
    show own_FinH _ _ _ _ _ _ _ _ _ _ T619 (mkF m 90 #[Iv p1, Iv p2, Iv p3, Iv p4, Iv p5, Iv 1, Iv y597, Iv y598, Iv y599, Iv y600, Rv b613, Uv, Uv, Uv] [(.ref b619), (.ref b619)])
    have Vc : Arv Z h619 b613 k613 .char (1 : Int32) [(.int y597)] (.int (0 : Int32)) := by have q := f621_2; simp only [own_ch_c hy597] at q; exact q
    obtain ⟨_, _, ⟨T622, L622, k622, n622⟩, -, X622, ⟨Lc622, hQ622, l622, y622, z622⟩, st622⟩ := X619.specialBack hx (y := mn2) rfl hown (mvT hZ (own_g hw 9 rfl)) (mvT hZ (own_g hw 10 rfl)) (mvT hZ (own_g hw 11 rfl)) (by decide) (backOf (W := 1) (rmYC1 l Z a0 hw [] cs gS b619 b613 k613 y597 h619 n0 Zs619 V_env f621_0 A619 F619_value F619_coder gf619 Vc ne619_b613 hy597) hZ (own_g hw 11 rfl) (own_g hw 8 rfl) (by decide) (by decide)) (g := (mkF m 92 #[Iv p1, Iv p2, Iv p3, Iv p4, Iv p5, Iv 1, Iv y597, Iv y598, Iv y599, Iv y600, Rv b613, Uv, Uv, Uv] [(.ref b613), (.ref b619), (.ref b619)])) rfl (by rw [hml]; rfl) (Steps.refl _) (a := b619) (argsL := [(.ref b613)]) (rest := [(.ref b619)]) (lenOf own_pd423 rfl) rfl (own_z rfl) (hb hby at_92) (fun _ _ => ⟨rfl, e619, (by decide : 2 + 2 ≤ _), (by decide : 5 + 3 ≤ _)⟩)
    dsimp only [Pt.U, Pt.locs, Pt.cells, Pt.slots] at X622 l622 y622 z622 st622 hQ622
    subst l622 y622 z622
    obtain ⟨b622, k622, rfl, Nq622, K622, Gv622, hd622⟩ := hQ622
    have N622 := Fr.app N616 Nq622
    have Zs622 : n0 ≤ T622.heap.size := Nat.le_trans Zs619 K622.1
    have sf623_b613 : Safe Z consts_1 s.vm T622.heap b613 := Safe.keep K622 (sfS Sf619 sf0) CHs620.1 sf620_b613
    have sf623_b619 : Safe Z consts_1 s.vm T622.heap b619 := Safe.keep K622 (sfS Sf619 sf0) CHs620.1 Sf619
    have CHs623 : CHr Z consts_1 s.vm h0 s.vm T622.heap := CHs620.trans (CHr.keep K622 (sfS Sf619 sf0) CHs620.1)
    have hkE622 : _ ≤ T622.heap.size := Nat.le_trans hkE619 K622.1
    have f624_0 : Old Z n0 T622.heap := f621_0.keep K622 (allS gf619 all0)
    have f624_2 : Arv Z T622.heap b613 k613 .char (1 : Int32) [(.int y597.toUInt32.toUInt16.toUInt32.toInt32)] (.int (0 : Int32)) := f621_2.keep K622 (ninS ne619_b613 nin0)
    have f624_4 : Exa Z T622.heap b619 "java/lang/String" := A619.keep K622
    refine own_byH (fun _ k => XS.aload X619.here hx rfl (hb hby at_90) rfl rfl (st622.trans (XS.astore X622.here hx rfl (hb hby at_95) rfl rfl (l' := #[Iv p1, Iv p2, Iv p3, Iv p4, Iv p5, Iv 1, Iv y597, Iv y598, Iv y599, Iv y600, Rv b613, Rv b619, Uv, Uv]) rfl k))) ?_
    show own_FinH _ _ _ _ _ _ _ _ _ _ T622 (mkF m 97 #[Iv p1, Iv p2, Iv p3, Iv p4, Iv p5, Iv 1, Iv y597, Iv y598, Iv y599, Iv y600, Rv b613, Rv b619, Uv, Uv] [])
    have J167_625 : ∀ (hs : Slot) (ex : Int32) (he : ex = own_no (own_st (0 : Int32) y597)), own_FinH p e below s Z consts_1 h0 room_1.cells room_1.slots (own_Q0 n0) T622 (mkF m 167 #[Iv p1, Iv p2, Iv p3, Iv p4, Iv p5, Iv 1, Iv y597, Iv y598, Iv y599, Iv y600, Rv b613, Rv b619, hs, Iv ex] []) := by
      intro hs ex he
      subst he
      show own_FinH _ _ _ _ _ _ _ _ _ _ T622 (mkF m 167 #[Iv p1, Iv p2, Iv p3, Iv p4, Iv p5, Iv 1, Iv y597, Iv y598, Iv y599, Iv y600, Rv b613, Rv b619, hs, Iv (own_no (own_st (0 : Int32) y597))] [])
      rcases hd622 with ⟨Gc622, V622, hk0⟩ | ⟨Gc622, V622⟩
      · show own_FinH _ _ _ _ _ _ _ _ _ _ T622 (mkF m 167 #[Iv p1, Iv p2, Iv p3, Iv p4, Iv p5, Iv 1, Iv y597, Iv y598, Iv y599, Iv y600, Rv b613, Rv b619, hs, Iv (own_no (own_st (0 : Int32) y597))] [])
        obtain ⟨_, _, ⟨T626, L626, k626, n626⟩, -, X626, ⟨Lc626, hQ626, l626, y626, z626⟩, st626⟩ := Jvm.LawKit.callS X622 hx (y := mn20) hown (mvT hZ (own_g hw 27 rfl)) (mvT hZ (own_g hw 28 rfl)) (mvT hZ (own_g hw 29 rfl)) (mvT hZ (own_g hw 30 rfl)) (by decide) (backOf (W := 0) (rmIS1L l Z a0 hw [] cs gS b619 b622 k622 y597 T622.heap n0 Zs622 V_env f624_0 f624_4 Gv622 Gc622 V622 ) hZ (own_g hw 30 rfl) (own_g hw 29 rfl) (by decide) (by decide)) (g := (mkF m 169 #[Iv p1, Iv p2, Iv p3, Iv p4, Iv p5, Iv 1, Iv y597, Iv y598, Iv y599, Iv y600, Rv b613, Rv b619, hs, Iv (own_no (own_st (0 : Int32) y597))] [(.ref b619)])) rfl (by rw [hml]; rfl) (argsL := [(.ref b619)]) (rest := []) (lenOf own_pd424 rfl) rfl (own_z rfl) (hb hby at_169) (fun _ _ => ⟨rfl, rfl, (by decide : 4 + 0 ≤ _), (by decide : 8 + 0 ≤ _)⟩)
        dsimp only [Pt.U, Pt.locs, Pt.cells, Pt.slots] at X626 l626 y626 z626 st626 hQ626
        subst l626 y626 z626
        obtain ⟨rfl, Nq626, eh626⟩ := hQ626
        have N626 := Fr.app N622 Nq626
        have pl : own_neg (own_find ((0 : Int32).toInt8.toInt32) [y597.toInt8.toInt32] (0 : Int32)) = own_no (own_st (0 : Int32) y597) := by rw [← own_pl1 y597, (by decide : (0 : Int32).toInt8.toInt32 = (0 : Int32))]; simp only [own_find, own_bch hy597 hk0 (c := (0 : Int32)) ⟨by decide, by decide⟩]
        have CHe627 : CHr Z consts_1 s.vm h0 T626.vm T622.heap := CHs623.trans (CHv.at X626 hZ (own_EW hw) CHs623.1)
        refine own_byH (fun _ k => XS.aload X622.here hx rfl (hb hby at_167) rfl rfl (st626 _ (XS.iload X626.here hx rfl (hb hby at_172) rfl (XS.icmpNo X626.here hx rfl (hb hby at_174) rfl (teq pl).2 (XS.iconst X626.here hx rfl (hb hby at_177) (XS.goto X626.here hx rfl (pc0 := 178) (pc' := 182) rfl (hb hby at_178) (by decide) (by decide) k)))))) ?_
        exact own_retZH X626 hS0 (by rw [eh626]; exact hkE622) (by rw [eh626]; exact CHe627) hx hlk (t := .boolean) Bd.returns (by simp) (hb hby at_182) ⟨rfl, N626⟩ (by decide) (by decide)
      · show own_FinH _ _ _ _ _ _ _ _ _ _ T622 (mkF m 167 #[Iv p1, Iv p2, Iv p3, Iv p4, Iv p5, Iv 1, Iv y597, Iv y598, Iv y599, Iv y600, Rv b613, Rv b619, hs, Iv (own_no (own_st (0 : Int32) y597))] [])
        obtain ⟨_, _, ⟨T628, L628, k628, n628⟩, -, X628, ⟨Lc628, hQ628, l628, y628, z628⟩, st628⟩ := Jvm.LawKit.callS X622 hx (y := mn20) hown (mvT hZ (own_g hw 27 rfl)) (mvT hZ (own_g hw 28 rfl)) (mvT hZ (own_g hw 29 rfl)) (mvT hZ (own_g hw 30 rfl)) (by decide) (backOf (W := 0) (rmIS1U l Z a0 hw [] cs gS b619 b622 k622 y597 T622.heap n0 Zs622 V_env f624_0 f624_4 Gv622 Gc622 V622 hy597) hZ (own_g hw 30 rfl) (own_g hw 29 rfl) (by decide) (by decide)) (g := (mkF m 169 #[Iv p1, Iv p2, Iv p3, Iv p4, Iv p5, Iv 1, Iv y597, Iv y598, Iv y599, Iv y600, Rv b613, Rv b619, hs, Iv (own_no (own_st (0 : Int32) y597))] [(.ref b619)])) rfl (by rw [hml]; rfl) (argsL := [(.ref b619)]) (rest := []) (lenOf own_pd424 rfl) rfl (own_z rfl) (hb hby at_169) (fun _ _ => ⟨rfl, rfl, (by decide : 4 + 0 ≤ _), (by decide : 8 + 0 ≤ _)⟩)
        dsimp only [Pt.U, Pt.locs, Pt.cells, Pt.slots] at X628 l628 y628 z628 st628 hQ628
        subst l628 y628 z628
        obtain ⟨rfl, Nq628, eh628⟩ := hQ628
        have N628 := Fr.app N622 Nq628
        have pl : own_neg (own_find (0 : Int32) [y597] (0 : Int32)) = own_no (own_st (0 : Int32) y597) := own_pl1 y597
        have CHe629 : CHr Z consts_1 s.vm h0 T628.vm T622.heap := CHs623.trans (CHv.at X628 hZ (own_EW hw) CHs623.1)
        refine own_byH (fun _ k => XS.aload X622.here hx rfl (hb hby at_167) rfl rfl (st628 _ (XS.iload X628.here hx rfl (hb hby at_172) rfl (XS.icmpNo X628.here hx rfl (hb hby at_174) rfl (teq pl).2 (XS.iconst X628.here hx rfl (hb hby at_177) (XS.goto X628.here hx rfl (pc0 := 178) (pc' := 182) rfl (hb hby at_178) (by decide) (by decide) k)))))) ?_
        exact own_retZH X628 hS0 (by rw [eh628]; exact hkE622) (by rw [eh628]; exact CHe629) hx hlk (t := .boolean) Bd.returns (by simp) (hb hby at_182) ⟨rfl, N628⟩ (by decide) (by decide)
    have J113_630 : ∀ (hs : Int32) (he : hs = (own_st (0 : Int32) y597)), own_FinH p e below s Z consts_1 h0 room_1.cells room_1.slots (own_Q0 n0) T622 (mkF m 113 #[Iv p1, Iv p2, Iv p3, Iv p4, Iv p5, Iv 1, Iv y597, Iv y598, Iv y599, Iv y600, Rv b613, Rv b619, Iv hs, Uv] []) := by
      intro hs he
      subst he
      show own_FinH _ _ _ _ _ _ _ _ _ _ T622 (mkF m 113 #[Iv p1, Iv p2, Iv p3, Iv p4, Iv p5, Iv 1, Iv y597, Iv y598, Iv y599, Iv y600, Rv b613, Rv b619, Iv (own_st (0 : Int32) y597), Uv] [])
      refine own_byH (fun _ k => XS.iload X622.here hx rfl (hb hby at_113) rfl (XS.iconst X622.here hx rfl (hb hby at_115) (XS.icmpYes X622.here hx rfl (pc0 := 116) (pc' := 127) rfl (hb hby at_116) rfl (flt (by decide : ¬ ((1 : Int32) < (1 : Int32)))).2.2.2 (by decide) (by decide) (XS.iload X622.here hx rfl (hb hby at_127) rfl (XS.iconst X622.here hx rfl (hb hby at_129) (XS.icmpYes X622.here hx rfl (pc0 := 130) (pc' := 141) rfl (hb hby at_130) rfl (flt (by decide : ¬ ((2 : Int32) < (1 : Int32)))).2.2.2 (by decide) (by decide) (XS.iload X622.here hx rfl (hb hby at_141) rfl (XS.iconst X622.here hx rfl (hb hby at_143) (XS.icmpYes X622.here hx rfl (pc0 := 144) (pc' := 155) rfl (hb hby at_144) rfl (flt (by decide : ¬ ((3 : Int32) < (1 : Int32)))).2.2.2 (by decide) (by decide) (XS.iload X622.here hx rfl (hb hby at_155) rfl k)))))))))) ?_
      show own_FinH _ _ _ _ _ _ _ _ _ _ T622 (mkF m 157 #[Iv p1, Iv p2, Iv p3, Iv p4, Iv p5, Iv 1, Iv y597, Iv y598, Iv y599, Iv y600, Rv b613, Rv b619, Iv (own_st (0 : Int32) y597), Uv] [(.int (own_st (0 : Int32) y597))])
      by_cases hc157_631 : (own_st (0 : Int32) y597) = (0 : Int32)
      · show own_FinH _ _ _ _ _ _ _ _ _ _ T622 (mkF m 157 #[Iv p1, Iv p2, Iv p3, Iv p4, Iv p5, Iv 1, Iv y597, Iv y598, Iv y599, Iv y600, Rv b613, Rv b619, Iv (own_st (0 : Int32) y597), Uv] [(.int (own_st (0 : Int32) y597))])
        refine own_byH (fun _ k => XS.ifNo X622.here hx rfl (hb hby at_157) rfl ((if0 _ _).trans (teq hc157_631).2) (XS.iconst X622.here hx rfl (hb hby at_160) (XS.goto X622.here hx rfl (pc0 := 161) (pc' := 165) rfl (hb hby at_161) (by decide) (by decide) (XS.istore X622.here hx rfl (hb hby at_165) rfl (l' := #[Iv p1, Iv p2, Iv p3, Iv p4, Iv p5, Iv 1, Iv y597, Iv y598, Iv y599, Iv y600, Rv b613, Rv b619, Iv (own_st (0 : Int32) y597), Iv 1]) rfl k)))) ?_
        exact J167_625 (.val (.int (own_st (0 : Int32) y597))) ((1 : Int32)) (if_pos hc157_631).symm
      · show own_FinH _ _ _ _ _ _ _ _ _ _ T622 (mkF m 157 #[Iv p1, Iv p2, Iv p3, Iv p4, Iv p5, Iv 1, Iv y597, Iv y598, Iv y599, Iv y600, Rv b613, Rv b619, Iv (own_st (0 : Int32) y597), Uv] [(.int (own_st (0 : Int32) y597))])
        refine own_byH (fun _ k => XS.ifYes X622.here hx rfl (pc0 := 157) (pc' := 164) rfl (hb hby at_157) rfl ((if0 _ _).trans (feq hc157_631).2) (by decide) (by decide) (XS.iconst X622.here hx rfl (hb hby at_164) (XS.istore X622.here hx rfl (hb hby at_165) rfl (l' := #[Iv p1, Iv p2, Iv p3, Iv p4, Iv p5, Iv 1, Iv y597, Iv y598, Iv y599, Iv y600, Rv b613, Rv b619, Iv (own_st (0 : Int32) y597), Iv 0]) rfl k))) ?_
        exact J167_625 (.val (.int (own_st (0 : Int32) y597))) ((0 : Int32)) (if_neg hc157_631).symm
    show own_FinH _ _ _ _ _ _ _ _ _ _ T622 (mkF m 97 #[Iv p1, Iv p2, Iv p3, Iv p4, Iv p5, Iv 1, Iv y597, Iv y598, Iv y599, Iv y600, Rv b613, Rv b619, Uv, Uv] [])
    refine own_byH (fun _ k => XS.iconst X622.here hx rfl (hb hby at_97) (XS.istore X622.here hx rfl (hb hby at_98) rfl (l' := #[Iv p1, Iv p2, Iv p3, Iv p4, Iv p5, Iv 1, Iv y597, Iv y598, Iv y599, Iv y600, Rv b613, Rv b619, Iv 0, Uv]) rfl (XS.iload X622.here hx rfl (hb hby at_100) rfl (XS.ifNo X622.here hx rfl (hb hby at_102) rfl ((if0 _ _).trans (tlt (by decide : (0 : Int32) < (1 : Int32))).2.2.2) (XS.iload X622.here hx rfl (hb hby at_105) rfl k))))) ?_
    show own_FinH _ _ _ _ _ _ _ _ _ _ T622 (mkF m 107 #[Iv p1, Iv p2, Iv p3, Iv p4, Iv p5, Iv 1, Iv y597, Iv y598, Iv y599, Iv y600, Rv b613, Rv b619, Iv 0, Uv] [(.int y597)])
    by_cases hc107_632 : y597 = (0 : Int32)
    · show own_FinH _ _ _ _ _ _ _ _ _ _ T622 (mkF m 107 #[Iv p1, Iv p2, Iv p3, Iv p4, Iv p5, Iv 1, Iv y597, Iv y598, Iv y599, Iv y600, Rv b613, Rv b619, Iv 0, Uv] [(.int y597)])
      refine own_byH (fun _ k => XS.ifNo X622.here hx rfl (hb hby at_107) rfl ((if0 _ _).trans (teq hc107_632).2) (XS.iconst X622.here hx rfl (hb hby at_110) (XS.istore X622.here hx rfl (hb hby at_111) rfl (l' := #[Iv p1, Iv p2, Iv p3, Iv p4, Iv p5, Iv 1, Iv y597, Iv y598, Iv y599, Iv y600, Rv b613, Rv b619, Iv 1, Uv]) rfl k))) ?_
      exact J113_630 ((1 : Int32)) (if_pos hc107_632).symm
    · show own_FinH _ _ _ _ _ _ _ _ _ _ T622 (mkF m 107 #[Iv p1, Iv p2, Iv p3, Iv p4, Iv p5, Iv 1, Iv y597, Iv y598, Iv y599, Iv y600, Rv b613, Rv b619, Iv 0, Uv] [(.int y597)])
      refine own_byH (fun _ k => XS.ifYes X622.here hx rfl (pc0 := 107) (pc' := 113) rfl (hb hby at_107) rfl ((if0 _ _).trans (feq hc107_632).2) (by decide) (by decide) k) ?_
      exact J113_630 ((0 : Int32)) (if_neg hc107_632).symm
  · show own_FinH _ _ _ _ _ _ _ _ _ _ T600 (mkF m 33 #[Iv p1, Iv p2, Iv p3, Iv p4, Iv p5, Iv ((p1 &&& (2147483647 : Int32)) % (5 : Int32)), Iv y597, Iv y598, Iv y599, Iv y600, Uv, Uv, Uv, Uv] [])
    rw [hn]
    show own_FinH _ _ _ _ _ _ _ _ _ _ T600 (mkF m 33 #[Iv p1, Iv p2, Iv p3, Iv p4, Iv p5, Iv 2, Iv y597, Iv y598, Iv y599, Iv y600, Uv, Uv, Uv, Uv] [])
    obtain ⟨T633, h633, k633, X633, e633, E633, A633, st633⟩ := newP X600 hx hZ (own_g hw 5 rfl) eh600 (g := (mkF m 35 #[Iv p1, Iv p2, Iv p3, Iv p4, Iv p5, Iv 2, Iv y597, Iv y598, Iv y599, Iv y600, Uv, Uv, Uv, Uv] [(.int 2)])) rfl (hb hby at_35) rfl (by decide) (cap := 2) (by decide) (by decide) (by decide) (by decide)
    obtain ⟨b633, g633⟩ : ∃ z, z = h0.size := ⟨_, rfl⟩
    rw [← g633] at A633 st633
    have V633 : Arv Z h633 b633 k633 .char (2 : Int32) [(.int (0 : Int32)), (.int (0 : Int32))] (.int (0 : Int32)) := (Arv.new A633 (by decide)).pad (pad_rep [] (.int (0 : Int32)) 2)
    have gf633 : n0 ≤ b633 := Nat.le_trans Z0 (Nat.le_of_eq g633.symm)
    have Zs633 : n0 ≤ h633.size := Nat.le_trans Z0 E633.1
    have hkE633 : _ ≤ h633.size := Nat.le_trans hk0 E633.1
    have Sf633 : Safe Z consts_1 s.vm h633 b633 := Safe.ext E633 CH0.1 (Safe.new (Nat.le_of_eq g633.symm))
    have CHs634 : CHr Z consts_1 s.vm h0 s.vm h633 := CH0.trans (CHr.ext E633 CH0.1)
    have f635_0 : Old Z n0 h633 := Od.ext E633
    obtain ⟨cl636, Ar636, q636, S636, M636, H636, G636⟩ := id V633
    have hin636 : ¬ ((0 : Int32) < 0 ∨ cl636.slots.size ≤ ((0 : Int32)).toNatClampNeg) := inb_of S636 ⟨by decide, by decide⟩
    obtain ⟨T636, h636, X636, e636, W636, st636⟩ := stC X633 hx hZ e633 Ar636 (j := (0 : Int32)) hin636 (g := (mkF m 49 #[Iv p1, Iv p2, Iv p3, Iv p4, Iv p5, Iv 2, Iv y597, Iv y598, Iv y599, Iv y600, Rv b633, Uv, Uv, Uv] [(.int y597), (.int 0), (.ref b633)])) rfl rfl (hb hby at_49)
    have V636 : Arv Z h636 b633 k633 .char (2 : Int32) [(.int y597.toUInt32.toUInt16.toUInt32.toInt32), (.int (0 : Int32))] (.int (0 : Int32)) := Arv.set Ar636 q636 S636 M636 H636 G636 (fits_nar_char _) W636 0 rfl (Nat.le_of_ble_eq_true rfl)
    have Zs636 : n0 ≤ h636.size := Nat.le_trans Zs633 (Keep.of_wr W636).1
    have N636 := Fr.snoc X636 N600 gf633
    have hkE636 : _ ≤ h636.size := Nat.le_trans hkE633 (Keep.of_wr W636).1
    have sf637_b633 : Safe Z consts_1 s.vm h636 b633 := Safe.wr W636 Sf633 CHs634.1 Sf633
    have CHs637 : CHr Z consts_1 s.vm h0 s.vm h636 := CHs634.trans (CHr.wr W636 Sf633 CHs634.1)
    have f638_0 : Old Z n0 h636 := f635_0.wr W636 gf633
    refine own_byH (fun _ k => XS.iload X600.here hx rfl (hb hby at_33) rfl (st633 _ (XS.astore X633.here hx rfl (hb hby at_37) rfl rfl (l' := #[Iv p1, Iv p2, Iv p3, Iv p4, Iv p5, Iv 2, Iv y597, Iv y598, Iv y599, Iv y600, Rv b633, Uv, Uv, Uv]) rfl (XS.iload X633.here hx rfl (hb hby at_39) rfl (XS.ifNo X633.here hx rfl (hb hby at_41) rfl ((if0 _ _).trans (tlt (by decide : (0 : Int32) < (2 : Int32))).2.2.2) (XS.aload X633.here hx rfl (hb hby at_44) rfl rfl (XS.iconst X633.here hx rfl (hb hby at_46) (XS.iload X633.here hx rfl (hb hby at_47) rfl (st636 _ (XS.iload X636.here hx rfl (hb hby at_50) rfl k)))))))))) ?_
    show own_FinH _ _ _ _ _ _ _ _ _ _ T636 (mkF m 52 #[Iv p1, Iv p2, Iv p3, Iv p4, Iv p5, Iv 2, Iv y597, Iv y598, Iv y599, Iv y600, Rv b633, Uv, Uv, Uv] [(.int 2)])
    obtain ⟨cl639, Ar639, q639, S639, M639, H639, G639⟩ := id V636
    have hin639 : ¬ ((1 : Int32) < 0 ∨ cl639.slots.size ≤ ((1 : Int32)).toNatClampNeg) := inb_of S639 ⟨by decide, by decide⟩
    obtain ⟨T639, h639, X639, e639, W639, st639⟩ := stC X636 hx hZ e636 Ar639 (j := (1 : Int32)) hin639 (g := (mkF m 61 #[Iv p1, Iv p2, Iv p3, Iv p4, Iv p5, Iv 2, Iv y597, Iv y598, Iv y599, Iv y600, Rv b633, Uv, Uv, Uv] [(.int y598), (.int 1), (.ref b633)])) rfl rfl (hb hby at_61)
    have V639 : Arv Z h639 b633 k633 .char (2 : Int32) [(.int y597.toUInt32.toUInt16.toUInt32.toInt32), (.int y598.toUInt32.toUInt16.toUInt32.toInt32)] (.int (0 : Int32)) := Arv.set Ar639 q639 S639 M639 H639 G639 (fits_nar_char _) W639 1 rfl (Nat.le_of_ble_eq_true rfl)
    have Zs639 : n0 ≤ h639.size := Nat.le_trans Zs636 (Keep.of_wr W639).1
    have N639 := Fr.snoc X639 N636 gf633
    have hkE639 : _ ≤ h639.size := Nat.le_trans hkE636 (Keep.of_wr W639).1
    have sf640_b633 : Safe Z consts_1 s.vm h639 b633 := Safe.wr W639 sf637_b633 CHs637.1 sf637_b633
    have CHs640 : CHr Z consts_1 s.vm h0 s.vm h639 := CHs637.trans (CHr.wr W639 sf637_b633 CHs637.1)
    have f641_0 : Old Z n0 h639 := f638_0.wr W639 gf633
    refine own_byH (fun _ k => XS.iconst X636.here hx rfl (hb hby at_52) (XS.icmpNo X636.here hx rfl (hb hby at_53) rfl (tlt (by decide : (1 : Int32) < (2 : Int32))).2.2.2 (XS.aload X636.here hx rfl (hb hby at_56) rfl rfl (XS.iconst X636.here hx rfl (hb hby at_58) (XS.iload X636.here hx rfl (hb hby at_59) rfl (st639 _ (XS.iload X639.here hx rfl (hb hby at_62) rfl (XS.iconst X639.here hx rfl (hb hby at_64) (XS.icmpYes X639.here hx rfl (pc0 := 65) (pc' := 74) rfl (hb hby at_65) rfl (flt (by decide : ¬ ((2 : Int32) < (2 : Int32)))).2.2.2 (by decide) (by decide) (XS.iload X639.here hx rfl (hb hby at_74) rfl k)))))))))) ?_
    show own_FinH _ _ _ _ _ _ _ _ _ _ T639 (mkF m 76 #[Iv p1, Iv p2, Iv p3, Iv p4, Iv p5, Iv 2, Iv y597, Iv y598, Iv y599, Iv y600, Rv b633, Uv, Uv, Uv] [(.int 2)])
    obtain ⟨T642, h642, X642, e642, E642, A642, D642, -, st642⟩ := newO X639 hx hZ hown (own_g hw 6 rfl) (own_g hw 7 rfl) (own_g hw 8 rfl) e639 (g := (mkF m 86 #[Iv p1, Iv p2, Iv p3, Iv p4, Iv p5, Iv 2, Iv y597, Iv y598, Iv y599, Iv y600, Rv b633, Uv, Uv, Uv] [])) rfl (hb hby at_86) (by decide) (by decide)
    obtain ⟨b642, g642⟩ : ∃ z, z = h639.size := ⟨_, rfl⟩
    rw [← g642] at A642 D642 st642
    have ne642_b633 : b633 ≠ b642 := Nat.ne_of_lt (Nat.lt_of_lt_of_le V639.lt (Nat.le_of_eq g642.symm))
    have gf642 : n0 ≤ b642 := Nat.le_trans Zs639 (Nat.le_of_eq g642.symm)
    have Zs642 : n0 ≤ h642.size := Nat.le_trans Zs639 E642.1
    have hkE642 : _ ≤ h642.size := Nat.le_trans hkE639 E642.1
    have Sf642 : Safe Z consts_1 s.vm h642 b642 := Safe.ext E642 CHs640.1 (Safe.new (Nat.le_of_eq g642.symm))
    have sf643_b633 : Safe Z consts_1 s.vm h642 b633 := Safe.ext E642 CHs640.1 sf640_b633
    have CHs643 : CHr Z consts_1 s.vm h0 s.vm h642 := CHs640.trans (CHr.ext E642 CHs640.1)
    have f644_0 : Old Z n0 h642 := f641_0.ext E642
    have f644_2 : Arv Z h642 b633 k633 .char (2 : Int32) [(.int y597.toUInt32.toUInt16.toUInt32.toInt32), (.int y598.toUInt32.toUInt16.toUInt32.toInt32)] (.int (0 : Int32)) := V639.ext E642
    have F642_value : Fld Z h642 b642 "java/lang/String" "value" "[B" .null := D642 (Or.inr (own_g hw 21 rfl)) (ty := (.array .byte)) (by decide)
    have F642_coder : Fld Z h642 b642 "java/lang/String" "coder" "B" (.int (0 : Int32)) := D642 (Or.inr (own_g hw 22 rfl)) (ty := .byte) (by decide)
    have Vc : Arv Z h642 b633 k633 .char (2 : Int32) [(.int y597), (.int y598)] (.int (0 : Int32)) := by have q := f644_2; simp only [own_ch_c hy597, own_ch_c hy598] at q; exact q
    obtain ⟨_, _, ⟨T645, L645, k645, n645⟩, -, X645, ⟨Lc645, hQ645, l645, y645, z645⟩, st645⟩ := X642.specialBack hx (y := mn2) rfl hown (mvT hZ (own_g hw 9 rfl)) (mvT hZ (own_g hw 10 rfl)) (mvT hZ (own_g hw 11 rfl)) (by decide) (backOf (W := 1) (rmYC2 l Z a0 hw [] cs gS b642 b633 k633 y597 y598 h642 n0 Zs642 V_env f644_0 A642 F642_value F642_coder gf642 Vc ne642_b633 hy597 hy598) hZ (own_g hw 11 rfl) (own_g hw 8 rfl) (by decide) (by decide)) (g := (mkF m 92 #[Iv p1, Iv p2, Iv p3, Iv p4, Iv p5, Iv 2, Iv y597, Iv y598, Iv y599, Iv y600, Rv b633, Uv, Uv, Uv] [(.ref b633), (.ref b642), (.ref b642)])) rfl (by rw [hml]; rfl) (Steps.refl _) (a := b642) (argsL := [(.ref b633)]) (rest := [(.ref b642)]) (lenOf own_pd423 rfl) rfl (own_z rfl) (hb hby at_92) (fun _ _ => ⟨rfl, e642, (by decide : 2 + 2 ≤ _), (by decide : 6 + 6 ≤ _)⟩)
    dsimp only [Pt.U, Pt.locs, Pt.cells, Pt.slots] at X645 l645 y645 z645 st645 hQ645
    subst l645 y645 z645
    obtain ⟨b645, k645, rfl, Nq645, K645, Gv645, hd645⟩ := hQ645
    have N645 := Fr.app N639 Nq645
    have Zs645 : n0 ≤ T645.heap.size := Nat.le_trans Zs642 K645.1
    have sf646_b633 : Safe Z consts_1 s.vm T645.heap b633 := Safe.keep K645 (sfS Sf642 sf0) CHs643.1 sf643_b633
    have sf646_b642 : Safe Z consts_1 s.vm T645.heap b642 := Safe.keep K645 (sfS Sf642 sf0) CHs643.1 Sf642
    have CHs646 : CHr Z consts_1 s.vm h0 s.vm T645.heap := CHs643.trans (CHr.keep K645 (sfS Sf642 sf0) CHs643.1)
    have hkE645 : _ ≤ T645.heap.size := Nat.le_trans hkE642 K645.1
    have f647_0 : Old Z n0 T645.heap := f644_0.keep K645 (allS gf642 all0)
    have f647_2 : Arv Z T645.heap b633 k633 .char (2 : Int32) [(.int y597.toUInt32.toUInt16.toUInt32.toInt32), (.int y598.toUInt32.toUInt16.toUInt32.toInt32)] (.int (0 : Int32)) := f644_2.keep K645 (ninS ne642_b633 nin0)
    have f647_4 : Exa Z T645.heap b642 "java/lang/String" := A642.keep K645
    refine own_byH (fun _ k => XS.iconst X639.here hx rfl (hb hby at_76) (XS.icmpYes X639.here hx rfl (pc0 := 77) (pc' := 86) rfl (hb hby at_77) rfl (flt (by decide : ¬ ((3 : Int32) < (2 : Int32)))).2.2.2 (by decide) (by decide) (st642 _ (XS.dup X642.here hx rfl (hb hby at_89) rfl rfl (XS.aload X642.here hx rfl (hb hby at_90) rfl rfl (st645.trans (XS.astore X645.here hx rfl (hb hby at_95) rfl rfl (l' := #[Iv p1, Iv p2, Iv p3, Iv p4, Iv p5, Iv 2, Iv y597, Iv y598, Iv y599, Iv y600, Rv b633, Rv b642, Uv, Uv]) rfl k))))))) ?_
    show own_FinH _ _ _ _ _ _ _ _ _ _ T645 (mkF m 97 #[Iv p1, Iv p2, Iv p3, Iv p4, Iv p5, Iv 2, Iv y597, Iv y598, Iv y599, Iv y600, Rv b633, Rv b642, Uv, Uv] [])
    have J167_648 : ∀ (hs : Slot) (ex : Int32) (he : ex = own_no (own_st (own_st (0 : Int32) y597) y598)), own_FinH p e below s Z consts_1 h0 room_1.cells room_1.slots (own_Q0 n0) T645 (mkF m 167 #[Iv p1, Iv p2, Iv p3, Iv p4, Iv p5, Iv 2, Iv y597, Iv y598, Iv y599, Iv y600, Rv b633, Rv b642, hs, Iv ex] []) := by
      intro hs ex he
      subst he
      show own_FinH _ _ _ _ _ _ _ _ _ _ T645 (mkF m 167 #[Iv p1, Iv p2, Iv p3, Iv p4, Iv p5, Iv 2, Iv y597, Iv y598, Iv y599, Iv y600, Rv b633, Rv b642, hs, Iv (own_no (own_st (own_st (0 : Int32) y597) y598))] [])
      rcases hd645 with ⟨Gc645, V645, hk0, hk1⟩ | ⟨Gc645, V645⟩
      · show own_FinH _ _ _ _ _ _ _ _ _ _ T645 (mkF m 167 #[Iv p1, Iv p2, Iv p3, Iv p4, Iv p5, Iv 2, Iv y597, Iv y598, Iv y599, Iv y600, Rv b633, Rv b642, hs, Iv (own_no (own_st (own_st (0 : Int32) y597) y598))] [])
        obtain ⟨_, _, ⟨T649, L649, k649, n649⟩, -, X649, ⟨Lc649, hQ649, l649, y649, z649⟩, st649⟩ := Jvm.LawKit.callS X645 hx (y := mn20) hown (mvT hZ (own_g hw 27 rfl)) (mvT hZ (own_g hw 28 rfl)) (mvT hZ (own_g hw 29 rfl)) (mvT hZ (own_g hw 30 rfl)) (by decide) (backOf (W := 0) (rmIS2L l Z a0 hw [] cs gS b642 b645 k645 y597 y598 T645.heap n0 Zs645 V_env f647_0 f647_4 Gv645 Gc645 V645 ) hZ (own_g hw 30 rfl) (own_g hw 29 rfl) (by decide) (by decide)) (g := (mkF m 169 #[Iv p1, Iv p2, Iv p3, Iv p4, Iv p5, Iv 2, Iv y597, Iv y598, Iv y599, Iv y600, Rv b633, Rv b642, hs, Iv (own_no (own_st (own_st (0 : Int32) y597) y598))] [(.ref b642)])) rfl (by rw [hml]; rfl) (argsL := [(.ref b642)]) (rest := []) (lenOf own_pd424 rfl) rfl (own_z rfl) (hb hby at_169) (fun _ _ => ⟨rfl, rfl, (by decide : 4 + 0 ≤ _), (by decide : 12 + 0 ≤ _)⟩)
        dsimp only [Pt.U, Pt.locs, Pt.cells, Pt.slots] at X649 l649 y649 z649 st649 hQ649
        subst l649 y649 z649
        obtain ⟨rfl, Nq649, eh649⟩ := hQ649
        have N649 := Fr.app N645 Nq649
        have pl : own_neg (own_find ((0 : Int32).toInt8.toInt32) [y597.toInt8.toInt32, y598.toInt8.toInt32] (0 : Int32)) = own_no (own_st (own_st (0 : Int32) y597) y598) := by rw [← own_pl2 y597 y598, (by decide : (0 : Int32).toInt8.toInt32 = (0 : Int32))]; simp only [own_find, own_bch hy597 hk0 (c := (0 : Int32)) ⟨by decide, by decide⟩, own_bch hy598 hk1 (c := (0 : Int32)) ⟨by decide, by decide⟩]
        have CHe650 : CHr Z consts_1 s.vm h0 T649.vm T645.heap := CHs646.trans (CHv.at X649 hZ (own_EW hw) CHs646.1)
        refine own_byH (fun _ k => XS.aload X645.here hx rfl (hb hby at_167) rfl rfl (st649 _ (XS.iload X649.here hx rfl (hb hby at_172) rfl (XS.icmpNo X649.here hx rfl (hb hby at_174) rfl (teq pl).2 (XS.iconst X649.here hx rfl (hb hby at_177) (XS.goto X649.here hx rfl (pc0 := 178) (pc' := 182) rfl (hb hby at_178) (by decide) (by decide) k)))))) ?_
        exact own_retZH X649 hS0 (by rw [eh649]; exact hkE645) (by rw [eh649]; exact CHe650) hx hlk (t := .boolean) Bd.returns (by simp) (hb hby at_182) ⟨rfl, N649⟩ (by decide) (by decide)
      · show own_FinH _ _ _ _ _ _ _ _ _ _ T645 (mkF m 167 #[Iv p1, Iv p2, Iv p3, Iv p4, Iv p5, Iv 2, Iv y597, Iv y598, Iv y599, Iv y600, Rv b633, Rv b642, hs, Iv (own_no (own_st (own_st (0 : Int32) y597) y598))] [])
        obtain ⟨_, _, ⟨T651, L651, k651, n651⟩, -, X651, ⟨Lc651, hQ651, l651, y651, z651⟩, st651⟩ := Jvm.LawKit.callS X645 hx (y := mn20) hown (mvT hZ (own_g hw 27 rfl)) (mvT hZ (own_g hw 28 rfl)) (mvT hZ (own_g hw 29 rfl)) (mvT hZ (own_g hw 30 rfl)) (by decide) (backOf (W := 0) (rmIS2U l Z a0 hw [] cs gS b642 b645 k645 y597 y598 T645.heap n0 Zs645 V_env f647_0 f647_4 Gv645 Gc645 V645 hy597 hy598) hZ (own_g hw 30 rfl) (own_g hw 29 rfl) (by decide) (by decide)) (g := (mkF m 169 #[Iv p1, Iv p2, Iv p3, Iv p4, Iv p5, Iv 2, Iv y597, Iv y598, Iv y599, Iv y600, Rv b633, Rv b642, hs, Iv (own_no (own_st (own_st (0 : Int32) y597) y598))] [(.ref b642)])) rfl (by rw [hml]; rfl) (argsL := [(.ref b642)]) (rest := []) (lenOf own_pd424 rfl) rfl (own_z rfl) (hb hby at_169) (fun _ _ => ⟨rfl, rfl, (by decide : 4 + 0 ≤ _), (by decide : 12 + 0 ≤ _)⟩)
        dsimp only [Pt.U, Pt.locs, Pt.cells, Pt.slots] at X651 l651 y651 z651 st651 hQ651
        subst l651 y651 z651
        obtain ⟨rfl, Nq651, eh651⟩ := hQ651
        have N651 := Fr.app N645 Nq651
        have pl : own_neg (own_find (0 : Int32) [y597, y598] (0 : Int32)) = own_no (own_st (own_st (0 : Int32) y597) y598) := own_pl2 y597 y598
        have CHe652 : CHr Z consts_1 s.vm h0 T651.vm T645.heap := CHs646.trans (CHv.at X651 hZ (own_EW hw) CHs646.1)
        refine own_byH (fun _ k => XS.aload X645.here hx rfl (hb hby at_167) rfl rfl (st651 _ (XS.iload X651.here hx rfl (hb hby at_172) rfl (XS.icmpNo X651.here hx rfl (hb hby at_174) rfl (teq pl).2 (XS.iconst X651.here hx rfl (hb hby at_177) (XS.goto X651.here hx rfl (pc0 := 178) (pc' := 182) rfl (hb hby at_178) (by decide) (by decide) k)))))) ?_
        exact own_retZH X651 hS0 (by rw [eh651]; exact hkE645) (by rw [eh651]; exact CHe652) hx hlk (t := .boolean) Bd.returns (by simp) (hb hby at_182) ⟨rfl, N651⟩ (by decide) (by decide)
    have J127_653 : ∀ (hs : Int32) (he : hs = (own_st (own_st (0 : Int32) y597) y598)), own_FinH p e below s Z consts_1 h0 room_1.cells room_1.slots (own_Q0 n0) T645 (mkF m 127 #[Iv p1, Iv p2, Iv p3, Iv p4, Iv p5, Iv 2, Iv y597, Iv y598, Iv y599, Iv y600, Rv b633, Rv b642, Iv hs, Uv] []) := by
      intro hs he
      subst he
      show own_FinH _ _ _ _ _ _ _ _ _ _ T645 (mkF m 127 #[Iv p1, Iv p2, Iv p3, Iv p4, Iv p5, Iv 2, Iv y597, Iv y598, Iv y599, Iv y600, Rv b633, Rv b642, Iv (own_st (own_st (0 : Int32) y597) y598), Uv] [])
      refine own_byH (fun _ k => XS.iload X645.here hx rfl (hb hby at_127) rfl (XS.iconst X645.here hx rfl (hb hby at_129) (XS.icmpYes X645.here hx rfl (pc0 := 130) (pc' := 141) rfl (hb hby at_130) rfl (flt (by decide : ¬ ((2 : Int32) < (2 : Int32)))).2.2.2 (by decide) (by decide) (XS.iload X645.here hx rfl (hb hby at_141) rfl (XS.iconst X645.here hx rfl (hb hby at_143) (XS.icmpYes X645.here hx rfl (pc0 := 144) (pc' := 155) rfl (hb hby at_144) rfl (flt (by decide : ¬ ((3 : Int32) < (2 : Int32)))).2.2.2 (by decide) (by decide) (XS.iload X645.here hx rfl (hb hby at_155) rfl k))))))) ?_
      show own_FinH _ _ _ _ _ _ _ _ _ _ T645 (mkF m 157 #[Iv p1, Iv p2, Iv p3, Iv p4, Iv p5, Iv 2, Iv y597, Iv y598, Iv y599, Iv y600, Rv b633, Rv b642, Iv (own_st (own_st (0 : Int32) y597) y598), Uv] [(.int (own_st (own_st (0 : Int32) y597) y598))])
      by_cases hc157_654 : (own_st (own_st (0 : Int32) y597) y598) = (0 : Int32)
      · show own_FinH _ _ _ _ _ _ _ _ _ _ T645 (mkF m 157 #[Iv p1, Iv p2, Iv p3, Iv p4, Iv p5, Iv 2, Iv y597, Iv y598, Iv y599, Iv y600, Rv b633, Rv b642, Iv (own_st (own_st (0 : Int32) y597) y598), Uv] [(.int (own_st (own_st (0 : Int32) y597) y598))])
        refine own_byH (fun _ k => XS.ifNo X645.here hx rfl (hb hby at_157) rfl ((if0 _ _).trans (teq hc157_654).2) (XS.iconst X645.here hx rfl (hb hby at_160) (XS.goto X645.here hx rfl (pc0 := 161) (pc' := 165) rfl (hb hby at_161) (by decide) (by decide) (XS.istore X645.here hx rfl (hb hby at_165) rfl (l' := #[Iv p1, Iv p2, Iv p3, Iv p4, Iv p5, Iv 2, Iv y597, Iv y598, Iv y599, Iv y600, Rv b633, Rv b642, Iv (own_st (own_st (0 : Int32) y597) y598), Iv 1]) rfl k)))) ?_
        exact J167_648 (.val (.int (own_st (own_st (0 : Int32) y597) y598))) ((1 : Int32)) (if_pos hc157_654).symm
      · show own_FinH _ _ _ _ _ _ _ _ _ _ T645 (mkF m 157 #[Iv p1, Iv p2, Iv p3, Iv p4, Iv p5, Iv 2, Iv y597, Iv y598, Iv y599, Iv y600, Rv b633, Rv b642, Iv (own_st (own_st (0 : Int32) y597) y598), Uv] [(.int (own_st (own_st (0 : Int32) y597) y598))])
        refine own_byH (fun _ k => XS.ifYes X645.here hx rfl (pc0 := 157) (pc' := 164) rfl (hb hby at_157) rfl ((if0 _ _).trans (feq hc157_654).2) (by decide) (by decide) (XS.iconst X645.here hx rfl (hb hby at_164) (XS.istore X645.here hx rfl (hb hby at_165) rfl (l' := #[Iv p1, Iv p2, Iv p3, Iv p4, Iv p5, Iv 2, Iv y597, Iv y598, Iv y599, Iv y600, Rv b633, Rv b642, Iv (own_st (own_st (0 : Int32) y597) y598), Iv 0]) rfl k))) ?_
        exact J167_648 (.val (.int (own_st (own_st (0 : Int32) y597) y598))) ((0 : Int32)) (if_neg hc157_654).symm
    have J113_655 : ∀ (hs : Int32) (he : hs = (own_st (0 : Int32) y597)), own_FinH p e below s Z consts_1 h0 room_1.cells room_1.slots (own_Q0 n0) T645 (mkF m 113 #[Iv p1, Iv p2, Iv p3, Iv p4, Iv p5, Iv 2, Iv y597, Iv y598, Iv y599, Iv y600, Rv b633, Rv b642, Iv hs, Uv] []) := by
      intro hs he
      subst he
      show own_FinH _ _ _ _ _ _ _ _ _ _ T645 (mkF m 113 #[Iv p1, Iv p2, Iv p3, Iv p4, Iv p5, Iv 2, Iv y597, Iv y598, Iv y599, Iv y600, Rv b633, Rv b642, Iv (own_st (0 : Int32) y597), Uv] [])
      refine own_byH (fun _ k => XS.iload X645.here hx rfl (hb hby at_113) rfl (XS.iconst X645.here hx rfl (hb hby at_115) (XS.icmpNo X645.here hx rfl (hb hby at_116) rfl (tlt (by decide : (1 : Int32) < (2 : Int32))).2.2.2 (XS.iload X645.here hx rfl (hb hby at_119) rfl k)))) ?_
      show own_FinH _ _ _ _ _ _ _ _ _ _ T645 (mkF m 121 #[Iv p1, Iv p2, Iv p3, Iv p4, Iv p5, Iv 2, Iv y597, Iv y598, Iv y599, Iv y600, Rv b633, Rv b642, Iv (own_st (0 : Int32) y597), Uv] [(.int y598)])
      by_cases hc121_656 : y598 = (0 : Int32)
      · show own_FinH _ _ _ _ _ _ _ _ _ _ T645 (mkF m 121 #[Iv p1, Iv p2, Iv p3, Iv p4, Iv p5, Iv 2, Iv y597, Iv y598, Iv y599, Iv y600, Rv b633, Rv b642, Iv (own_st (0 : Int32) y597), Uv] [(.int y598)])
        refine own_byH (fun _ k => XS.ifNo X645.here hx rfl (hb hby at_121) rfl ((if0 _ _).trans (teq hc121_656).2) (XS.iconst X645.here hx rfl (hb hby at_124) (XS.istore X645.here hx rfl (hb hby at_125) rfl (l' := #[Iv p1, Iv p2, Iv p3, Iv p4, Iv p5, Iv 2, Iv y597, Iv y598, Iv y599, Iv y600, Rv b633, Rv b642, Iv 1, Uv]) rfl k))) ?_
        exact J127_653 ((1 : Int32)) (if_pos hc121_656).symm
      · show own_FinH _ _ _ _ _ _ _ _ _ _ T645 (mkF m 121 #[Iv p1, Iv p2, Iv p3, Iv p4, Iv p5, Iv 2, Iv y597, Iv y598, Iv y599, Iv y600, Rv b633, Rv b642, Iv (own_st (0 : Int32) y597), Uv] [(.int y598)])
        refine own_byH (fun _ k => XS.ifYes X645.here hx rfl (pc0 := 121) (pc' := 127) rfl (hb hby at_121) rfl ((if0 _ _).trans (feq hc121_656).2) (by decide) (by decide) k) ?_
        exact J127_653 ((own_st (0 : Int32) y597)) (if_neg hc121_656).symm
    show own_FinH _ _ _ _ _ _ _ _ _ _ T645 (mkF m 97 #[Iv p1, Iv p2, Iv p3, Iv p4, Iv p5, Iv 2, Iv y597, Iv y598, Iv y599, Iv y600, Rv b633, Rv b642, Uv, Uv] [])
    refine own_byH (fun _ k => XS.iconst X645.here hx rfl (hb hby at_97) (XS.istore X645.here hx rfl (hb hby at_98) rfl (l' := #[Iv p1, Iv p2, Iv p3, Iv p4, Iv p5, Iv 2, Iv y597, Iv y598, Iv y599, Iv y600, Rv b633, Rv b642, Iv 0, Uv]) rfl (XS.iload X645.here hx rfl (hb hby at_100) rfl (XS.ifNo X645.here hx rfl (hb hby at_102) rfl ((if0 _ _).trans (tlt (by decide : (0 : Int32) < (2 : Int32))).2.2.2) (XS.iload X645.here hx rfl (hb hby at_105) rfl k))))) ?_
    show own_FinH _ _ _ _ _ _ _ _ _ _ T645 (mkF m 107 #[Iv p1, Iv p2, Iv p3, Iv p4, Iv p5, Iv 2, Iv y597, Iv y598, Iv y599, Iv y600, Rv b633, Rv b642, Iv 0, Uv] [(.int y597)])
    by_cases hc107_657 : y597 = (0 : Int32)
    · show own_FinH _ _ _ _ _ _ _ _ _ _ T645 (mkF m 107 #[Iv p1, Iv p2, Iv p3, Iv p4, Iv p5, Iv 2, Iv y597, Iv y598, Iv y599, Iv y600, Rv b633, Rv b642, Iv 0, Uv] [(.int y597)])
      refine own_byH (fun _ k => XS.ifNo X645.here hx rfl (hb hby at_107) rfl ((if0 _ _).trans (teq hc107_657).2) (XS.iconst X645.here hx rfl (hb hby at_110) (XS.istore X645.here hx rfl (hb hby at_111) rfl (l' := #[Iv p1, Iv p2, Iv p3, Iv p4, Iv p5, Iv 2, Iv y597, Iv y598, Iv y599, Iv y600, Rv b633, Rv b642, Iv 1, Uv]) rfl k))) ?_
      exact J113_655 ((1 : Int32)) (if_pos hc107_657).symm
    · show own_FinH _ _ _ _ _ _ _ _ _ _ T645 (mkF m 107 #[Iv p1, Iv p2, Iv p3, Iv p4, Iv p5, Iv 2, Iv y597, Iv y598, Iv y599, Iv y600, Rv b633, Rv b642, Iv 0, Uv] [(.int y597)])
      refine own_byH (fun _ k => XS.ifYes X645.here hx rfl (pc0 := 107) (pc' := 113) rfl (hb hby at_107) rfl ((if0 _ _).trans (feq hc107_657).2) (by decide) (by decide) k) ?_
      exact J113_655 ((0 : Int32)) (if_neg hc107_657).symm
  · show own_FinH _ _ _ _ _ _ _ _ _ _ T600 (mkF m 33 #[Iv p1, Iv p2, Iv p3, Iv p4, Iv p5, Iv ((p1 &&& (2147483647 : Int32)) % (5 : Int32)), Iv y597, Iv y598, Iv y599, Iv y600, Uv, Uv, Uv, Uv] [])
    rw [hn]
    show own_FinH _ _ _ _ _ _ _ _ _ _ T600 (mkF m 33 #[Iv p1, Iv p2, Iv p3, Iv p4, Iv p5, Iv 3, Iv y597, Iv y598, Iv y599, Iv y600, Uv, Uv, Uv, Uv] [])
    obtain ⟨T658, h658, k658, X658, e658, E658, A658, st658⟩ := newP X600 hx hZ (own_g hw 5 rfl) eh600 (g := (mkF m 35 #[Iv p1, Iv p2, Iv p3, Iv p4, Iv p5, Iv 3, Iv y597, Iv y598, Iv y599, Iv y600, Uv, Uv, Uv, Uv] [(.int 3)])) rfl (hb hby at_35) rfl (by decide) (cap := 3) (by decide) (by decide) (by decide) (by decide)
    obtain ⟨b658, g658⟩ : ∃ z, z = h0.size := ⟨_, rfl⟩
    rw [← g658] at A658 st658
    have V658 : Arv Z h658 b658 k658 .char (3 : Int32) [(.int (0 : Int32)), (.int (0 : Int32)), (.int (0 : Int32))] (.int (0 : Int32)) := (Arv.new A658 (by decide)).pad (pad_rep [] (.int (0 : Int32)) 3)
    have gf658 : n0 ≤ b658 := Nat.le_trans Z0 (Nat.le_of_eq g658.symm)
    have Zs658 : n0 ≤ h658.size := Nat.le_trans Z0 E658.1
    have hkE658 : _ ≤ h658.size := Nat.le_trans hk0 E658.1
    have Sf658 : Safe Z consts_1 s.vm h658 b658 := Safe.ext E658 CH0.1 (Safe.new (Nat.le_of_eq g658.symm))
    have CHs659 : CHr Z consts_1 s.vm h0 s.vm h658 := CH0.trans (CHr.ext E658 CH0.1)
    have f660_0 : Old Z n0 h658 := Od.ext E658
    obtain ⟨cl661, Ar661, q661, S661, M661, H661, G661⟩ := id V658
    have hin661 : ¬ ((0 : Int32) < 0 ∨ cl661.slots.size ≤ ((0 : Int32)).toNatClampNeg) := inb_of S661 ⟨by decide, by decide⟩
    obtain ⟨T661, h661, X661, e661, W661, st661⟩ := stC X658 hx hZ e658 Ar661 (j := (0 : Int32)) hin661 (g := (mkF m 49 #[Iv p1, Iv p2, Iv p3, Iv p4, Iv p5, Iv 3, Iv y597, Iv y598, Iv y599, Iv y600, Rv b658, Uv, Uv, Uv] [(.int y597), (.int 0), (.ref b658)])) rfl rfl (hb hby at_49)
    have V661 : Arv Z h661 b658 k658 .char (3 : Int32) [(.int y597.toUInt32.toUInt16.toUInt32.toInt32), (.int (0 : Int32)), (.int (0 : Int32))] (.int (0 : Int32)) := Arv.set Ar661 q661 S661 M661 H661 G661 (fits_nar_char _) W661 0 rfl (Nat.le_of_ble_eq_true rfl)
    have Zs661 : n0 ≤ h661.size := Nat.le_trans Zs658 (Keep.of_wr W661).1
    have N661 := Fr.snoc X661 N600 gf658
    have hkE661 : _ ≤ h661.size := Nat.le_trans hkE658 (Keep.of_wr W661).1
    have sf662_b658 : Safe Z consts_1 s.vm h661 b658 := Safe.wr W661 Sf658 CHs659.1 Sf658
    have CHs662 : CHr Z consts_1 s.vm h0 s.vm h661 := CHs659.trans (CHr.wr W661 Sf658 CHs659.1)
    have f663_0 : Old Z n0 h661 := f660_0.wr W661 gf658
    refine own_byH (fun _ k => XS.iload X600.here hx rfl (hb hby at_33) rfl (st658 _ (XS.astore X658.here hx rfl (hb hby at_37) rfl rfl (l' := #[Iv p1, Iv p2, Iv p3, Iv p4, Iv p5, Iv 3, Iv y597, Iv y598, Iv y599, Iv y600, Rv b658, Uv, Uv, Uv]) rfl (XS.iload X658.here hx rfl (hb hby at_39) rfl (XS.ifNo X658.here hx rfl (hb hby at_41) rfl ((if0 _ _).trans (tlt (by decide : (0 : Int32) < (3 : Int32))).2.2.2) (XS.aload X658.here hx rfl (hb hby at_44) rfl rfl (XS.iconst X658.here hx rfl (hb hby at_46) (XS.iload X658.here hx rfl (hb hby at_47) rfl (st661 _ (XS.iload X661.here hx rfl (hb hby at_50) rfl k)))))))))) ?_
    show own_FinH _ _ _ _ _ _ _ _ _ _ T661 (mkF m 52 #[Iv p1, Iv p2, Iv p3, Iv p4, Iv p5, Iv 3, Iv y597, Iv y598, Iv y599, Iv y600, Rv b658, Uv, Uv, Uv] [(.int 3)])
    obtain ⟨cl664, Ar664, q664, S664, M664, H664, G664⟩ := id V661
    have hin664 : ¬ ((1 : Int32) < 0 ∨ cl664.slots.size ≤ ((1 : Int32)).toNatClampNeg) := inb_of S664 ⟨by decide, by decide⟩
    obtain ⟨T664, h664, X664, e664, W664, st664⟩ := stC X661 hx hZ e661 Ar664 (j := (1 : Int32)) hin664 (g := (mkF m 61 #[Iv p1, Iv p2, Iv p3, Iv p4, Iv p5, Iv 3, Iv y597, Iv y598, Iv y599, Iv y600, Rv b658, Uv, Uv, Uv] [(.int y598), (.int 1), (.ref b658)])) rfl rfl (hb hby at_61)
    have V664 : Arv Z h664 b658 k658 .char (3 : Int32) [(.int y597.toUInt32.toUInt16.toUInt32.toInt32), (.int y598.toUInt32.toUInt16.toUInt32.toInt32), (.int (0 : Int32))] (.int (0 : Int32)) := Arv.set Ar664 q664 S664 M664 H664 G664 (fits_nar_char _) W664 1 rfl (Nat.le_of_ble_eq_true rfl)
    have Zs664 : n0 ≤ h664.size := Nat.le_trans Zs661 (Keep.of_wr W664).1
    have N664 := Fr.snoc X664 N661 gf658
    have hkE664 : _ ≤ h664.size := Nat.le_trans hkE661 (Keep.of_wr W664).1
    have sf665_b658 : Safe Z consts_1 s.vm h664 b658 := Safe.wr W664 sf662_b658 CHs662.1 sf662_b658
    have CHs665 : CHr Z consts_1 s.vm h0 s.vm h664 := CHs662.trans (CHr.wr W664 sf662_b658 CHs662.1)
    have f666_0 : Old Z n0 h664 := f663_0.wr W664 gf658
    refine own_byH (fun _ k => XS.iconst X661.here hx rfl (hb hby at_52) (XS.icmpNo X661.here hx rfl (hb hby at_53) rfl (tlt (by decide : (1 : Int32) < (3 : Int32))).2.2.2 (XS.aload X661.here hx rfl (hb hby at_56) rfl rfl (XS.iconst X661.here hx rfl (hb hby at_58) (XS.iload X661.here hx rfl (hb hby at_59) rfl (st664 _ (XS.iload X664.here hx rfl (hb hby at_62) rfl (XS.iconst X664.here hx rfl (hb hby at_64) (XS.icmpNo X664.here hx rfl (hb hby at_65) rfl (tlt (by decide : (2 : Int32) < (3 : Int32))).2.2.2 (XS.aload X664.here hx rfl (hb hby at_68) rfl rfl k)))))))))) ?_
    show own_FinH _ _ _ _ _ _ _ _ _ _ T664 (mkF m 70 #[Iv p1, Iv p2, Iv p3, Iv p4, Iv p5, Iv 3, Iv y597, Iv y598, Iv y599, Iv y600, Rv b658, Uv, Uv, Uv] [(.ref b658)])
    obtain ⟨cl667, Ar667, q667, S667, M667, H667, G667⟩ := id V664
    have hin667 : ¬ ((2 : Int32) < 0 ∨ cl667.slots.size ≤ ((2 : Int32)).toNatClampNeg) := inb_of S667 ⟨by decide, by decide⟩
    obtain ⟨T667, h667, X667, e667, W667, st667⟩ := stC X664 hx hZ e664 Ar667 (j := (2 : Int32)) hin667 (g := (mkF m 73 #[Iv p1, Iv p2, Iv p3, Iv p4, Iv p5, Iv 3, Iv y597, Iv y598, Iv y599, Iv y600, Rv b658, Uv, Uv, Uv] [(.int y599), (.int 2), (.ref b658)])) rfl rfl (hb hby at_73)
    have V667 : Arv Z h667 b658 k658 .char (3 : Int32) [(.int y597.toUInt32.toUInt16.toUInt32.toInt32), (.int y598.toUInt32.toUInt16.toUInt32.toInt32), (.int y599.toUInt32.toUInt16.toUInt32.toInt32)] (.int (0 : Int32)) := Arv.set Ar667 q667 S667 M667 H667 G667 (fits_nar_char _) W667 2 rfl (Nat.le_of_ble_eq_true rfl)
    have Zs667 : n0 ≤ h667.size := Nat.le_trans Zs664 (Keep.of_wr W667).1
    have N667 := Fr.snoc X667 N664 gf658
    have hkE667 : _ ≤ h667.size := Nat.le_trans hkE664 (Keep.of_wr W667).1
    have sf668_b658 : Safe Z consts_1 s.vm h667 b658 := Safe.wr W667 sf665_b658 CHs665.1 sf665_b658
    have CHs668 : CHr Z consts_1 s.vm h0 s.vm h667 := CHs665.trans (CHr.wr W667 sf665_b658 CHs665.1)
    have f669_0 : Old Z n0 h667 := f666_0.wr W667 gf658
    obtain ⟨T670, h670, X670, e670, E670, A670, D670, -, st670⟩ := newO X667 hx hZ hown (own_g hw 6 rfl) (own_g hw 7 rfl) (own_g hw 8 rfl) e667 (g := (mkF m 86 #[Iv p1, Iv p2, Iv p3, Iv p4, Iv p5, Iv 3, Iv y597, Iv y598, Iv y599, Iv y600, Rv b658, Uv, Uv, Uv] [])) rfl (hb hby at_86) (by decide) (by decide)
    obtain ⟨b670, g670⟩ : ∃ z, z = h667.size := ⟨_, rfl⟩
    rw [← g670] at A670 D670 st670
    have ne670_b658 : b658 ≠ b670 := Nat.ne_of_lt (Nat.lt_of_lt_of_le V667.lt (Nat.le_of_eq g670.symm))
    have gf670 : n0 ≤ b670 := Nat.le_trans Zs667 (Nat.le_of_eq g670.symm)
    have Zs670 : n0 ≤ h670.size := Nat.le_trans Zs667 E670.1
    have hkE670 : _ ≤ h670.size := Nat.le_trans hkE667 E670.1
    have Sf670 : Safe Z consts_1 s.vm h670 b670 := Safe.ext E670 CHs668.1 (Safe.new (Nat.le_of_eq g670.symm))
    have sf671_b658 : Safe Z consts_1 s.vm h670 b658 := Safe.ext E670 CHs668.1 sf668_b658
    have CHs671 : CHr Z consts_1 s.vm h0 s.vm h670 := CHs668.trans (CHr.ext E670 CHs668.1)
    have f672_0 : Old Z n0 h670 := f669_0.ext E670
    have f672_2 : Arv Z h670 b658 k658 .char (3 : Int32) [(.int y597.toUInt32.toUInt16.toUInt32.toInt32), (.int y598.toUInt32.toUInt16.toUInt32.toInt32), (.int y599.toUInt32.toUInt16.toUInt32.toInt32)] (.int (0 : Int32)) := V667.ext E670
    have F670_value : Fld Z h670 b670 "java/lang/String" "value" "[B" .null := D670 (Or.inr (own_g hw 21 rfl)) (ty := (.array .byte)) (by decide)
    have F670_coder : Fld Z h670 b670 "java/lang/String" "coder" "B" (.int (0 : Int32)) := D670 (Or.inr (own_g hw 22 rfl)) (ty := .byte) (by decide)
    have Vc : Arv Z h670 b658 k658 .char (3 : Int32) [(.int y597), (.int y598), (.int y599)] (.int (0 : Int32)) := by have q := f672_2; simp only [own_ch_c hy597, own_ch_c hy598, own_ch_c hy599] at q; exact q
    obtain ⟨_, _, ⟨T673, L673, k673, n673⟩, -, X673, ⟨Lc673, hQ673, l673, y673, z673⟩, st673⟩ := X670.specialBack hx (y := mn2) rfl hown (mvT hZ (own_g hw 9 rfl)) (mvT hZ (own_g hw 10 rfl)) (mvT hZ (own_g hw 11 rfl)) (by decide) (backOf (W := 1) (rmYC3 l Z a0 hw [] cs gS b670 b658 k658 y597 y598 y599 h670 n0 Zs670 V_env f672_0 A670 F670_value F670_coder gf670 Vc ne670_b658 hy597 hy598 hy599) hZ (own_g hw 11 rfl) (own_g hw 8 rfl) (by decide) (by decide)) (g := (mkF m 92 #[Iv p1, Iv p2, Iv p3, Iv p4, Iv p5, Iv 3, Iv y597, Iv y598, Iv y599, Iv y600, Rv b658, Uv, Uv, Uv] [(.ref b658), (.ref b670), (.ref b670)])) rfl (by rw [hml]; rfl) (Steps.refl _) (a := b670) (argsL := [(.ref b658)]) (rest := [(.ref b670)]) (lenOf own_pd423 rfl) rfl (own_z rfl) (hb hby at_92) (fun _ _ => ⟨rfl, e670, (by decide : 2 + 2 ≤ _), (by decide : 7 + 9 ≤ _)⟩)
    dsimp only [Pt.U, Pt.locs, Pt.cells, Pt.slots] at X673 l673 y673 z673 st673 hQ673
    subst l673 y673 z673
    obtain ⟨b673, k673, rfl, Nq673, K673, Gv673, hd673⟩ := hQ673
    have N673 := Fr.app N667 Nq673
    have Zs673 : n0 ≤ T673.heap.size := Nat.le_trans Zs670 K673.1
    have sf674_b658 : Safe Z consts_1 s.vm T673.heap b658 := Safe.keep K673 (sfS Sf670 sf0) CHs671.1 sf671_b658
    have sf674_b670 : Safe Z consts_1 s.vm T673.heap b670 := Safe.keep K673 (sfS Sf670 sf0) CHs671.1 Sf670
    have CHs674 : CHr Z consts_1 s.vm h0 s.vm T673.heap := CHs671.trans (CHr.keep K673 (sfS Sf670 sf0) CHs671.1)
    have hkE673 : _ ≤ T673.heap.size := Nat.le_trans hkE670 K673.1
    have f675_0 : Old Z n0 T673.heap := f672_0.keep K673 (allS gf670 all0)
    have f675_2 : Arv Z T673.heap b658 k658 .char (3 : Int32) [(.int y597.toUInt32.toUInt16.toUInt32.toInt32), (.int y598.toUInt32.toUInt16.toUInt32.toInt32), (.int y599.toUInt32.toUInt16.toUInt32.toInt32)] (.int (0 : Int32)) := f672_2.keep K673 (ninS ne670_b658 nin0)
    have f675_4 : Exa Z T673.heap b670 "java/lang/String" := A670.keep K673
    refine own_byH (fun _ k => XS.iconst X664.here hx rfl (hb hby at_70) (XS.iload X664.here hx rfl (hb hby at_71) rfl (st667 _ (XS.iload X667.here hx rfl (hb hby at_74) rfl (XS.iconst X667.here hx rfl (hb hby at_76) (XS.icmpYes X667.here hx rfl (pc0 := 77) (pc' := 86) rfl (hb hby at_77) rfl (flt (by decide : ¬ ((3 : Int32) < (3 : Int32)))).2.2.2 (by decide) (by decide) (st670 _ (XS.dup X670.here hx rfl (hb hby at_89) rfl rfl (XS.aload X670.here hx rfl (hb hby at_90) rfl rfl (st673.trans k)))))))))) ?_
    show own_FinH _ _ _ _ _ _ _ _ _ _ T673 (mkF m 95 #[Iv p1, Iv p2, Iv p3, Iv p4, Iv p5, Iv 3, Iv y597, Iv y598, Iv y599, Iv y600, Rv b658, Uv, Uv, Uv] [(.ref b670)])
    refine own_byH (fun _ k => XS.astore X673.here hx rfl (hb hby at_95) rfl rfl (l' := #[Iv p1, Iv p2, Iv p3, Iv p4, Iv p5, Iv 3, Iv y597, Iv y598, Iv y599, Iv y600, Rv b658, Rv b670, Uv, Uv]) rfl k) ?_
    show own_FinH _ _ _ _ _ _ _ _ _ _ T673 (mkF m 97 #[Iv p1, Iv p2, Iv p3, Iv p4, Iv p5, Iv 3, Iv y597, Iv y598, Iv y599, Iv y600, Rv b658, Rv b670, Uv, Uv] [])
    have J167_676 : ∀ (hs : Slot) (ex : Int32) (he : ex = own_no (own_st (own_st (own_st (0 : Int32) y597) y598) y599)), own_FinH p e below s Z consts_1 h0 room_1.cells room_1.slots (own_Q0 n0) T673 (mkF m 167 #[Iv p1, Iv p2, Iv p3, Iv p4, Iv p5, Iv 3, Iv y597, Iv y598, Iv y599, Iv y600, Rv b658, Rv b670, hs, Iv ex] []) := by
      intro hs ex he
      subst he
      show own_FinH _ _ _ _ _ _ _ _ _ _ T673 (mkF m 167 #[Iv p1, Iv p2, Iv p3, Iv p4, Iv p5, Iv 3, Iv y597, Iv y598, Iv y599, Iv y600, Rv b658, Rv b670, hs, Iv (own_no (own_st (own_st (own_st (0 : Int32) y597) y598) y599))] [])
      rcases hd673 with ⟨Gc673, V673, hk0, hk1, hk2⟩ | ⟨Gc673, V673⟩
      · show own_FinH _ _ _ _ _ _ _ _ _ _ T673 (mkF m 167 #[Iv p1, Iv p2, Iv p3, Iv p4, Iv p5, Iv 3, Iv y597, Iv y598, Iv y599, Iv y600, Rv b658, Rv b670, hs, Iv (own_no (own_st (own_st (own_st (0 : Int32) y597) y598) y599))] [])
        obtain ⟨_, _, ⟨T677, L677, k677, n677⟩, -, X677, ⟨Lc677, hQ677, l677, y677, z677⟩, st677⟩ := Jvm.LawKit.callS X673 hx (y := mn20) hown (mvT hZ (own_g hw 27 rfl)) (mvT hZ (own_g hw 28 rfl)) (mvT hZ (own_g hw 29 rfl)) (mvT hZ (own_g hw 30 rfl)) (by decide) (backOf (W := 0) (rmIS3L l Z a0 hw [] cs gS b670 b673 k673 y597 y598 y599 T673.heap n0 Zs673 V_env f675_0 f675_4 Gv673 Gc673 V673 ) hZ (own_g hw 30 rfl) (own_g hw 29 rfl) (by decide) (by decide)) (g := (mkF m 169 #[Iv p1, Iv p2, Iv p3, Iv p4, Iv p5, Iv 3, Iv y597, Iv y598, Iv y599, Iv y600, Rv b658, Rv b670, hs, Iv (own_no (own_st (own_st (own_st (0 : Int32) y597) y598) y599))] [(.ref b670)])) rfl (by rw [hml]; rfl) (argsL := [(.ref b670)]) (rest := []) (lenOf own_pd424 rfl) rfl (own_z rfl) (hb hby at_169) (fun _ _ => ⟨rfl, rfl, (by decide : 4 + 0 ≤ _), (by decide : 16 + 0 ≤ _)⟩)
        dsimp only [Pt.U, Pt.locs, Pt.cells, Pt.slots] at X677 l677 y677 z677 st677 hQ677
        subst l677 y677 z677
        obtain ⟨rfl, Nq677, eh677⟩ := hQ677
        have N677 := Fr.app N673 Nq677
        have pl : own_neg (own_find ((0 : Int32).toInt8.toInt32) [y597.toInt8.toInt32, y598.toInt8.toInt32, y599.toInt8.toInt32] (0 : Int32)) = own_no (own_st (own_st (own_st (0 : Int32) y597) y598) y599) := by rw [← own_pl3 y597 y598 y599, (by decide : (0 : Int32).toInt8.toInt32 = (0 : Int32))]; simp only [own_find, own_bch hy597 hk0 (c := (0 : Int32)) ⟨by decide, by decide⟩, own_bch hy598 hk1 (c := (0 : Int32)) ⟨by decide, by decide⟩, own_bch hy599 hk2 (c := (0 : Int32)) ⟨by decide, by decide⟩]
        have CHe678 : CHr Z consts_1 s.vm h0 T677.vm T673.heap := CHs674.trans (CHv.at X677 hZ (own_EW hw) CHs674.1)
        refine own_byH (fun _ k => XS.aload X673.here hx rfl (hb hby at_167) rfl rfl (st677 _ (XS.iload X677.here hx rfl (hb hby at_172) rfl (XS.icmpNo X677.here hx rfl (hb hby at_174) rfl (teq pl).2 (XS.iconst X677.here hx rfl (hb hby at_177) (XS.goto X677.here hx rfl (pc0 := 178) (pc' := 182) rfl (hb hby at_178) (by decide) (by decide) k)))))) ?_
        exact own_retZH X677 hS0 (by rw [eh677]; exact hkE673) (by rw [eh677]; exact CHe678) hx hlk (t := .boolean) Bd.returns (by simp) (hb hby at_182) ⟨rfl, N677⟩ (by decide) (by decide)
      · show own_FinH _ _ _ _ _ _ _ _ _ _ T673 (mkF m 167 #[Iv p1, Iv p2, Iv p3, Iv p4, Iv p5, Iv 3, Iv y597, Iv y598, Iv y599, Iv y600, Rv b658, Rv b670, hs, Iv (own_no (own_st (own_st (own_st (0 : Int32) y597) y598) y599))] [])
        obtain ⟨_, _, ⟨T679, L679, k679, n679⟩, -, X679, ⟨Lc679, hQ679, l679, y679, z679⟩, st679⟩ := Jvm.LawKit.callS X673 hx (y := mn20) hown (mvT hZ (own_g hw 27 rfl)) (mvT hZ (own_g hw 28 rfl)) (mvT hZ (own_g hw 29 rfl)) (mvT hZ (own_g hw 30 rfl)) (by decide) (backOf (W := 0) (rmIS3U l Z a0 hw [] cs gS b670 b673 k673 y597 y598 y599 T673.heap n0 Zs673 V_env f675_0 f675_4 Gv673 Gc673 V673 hy597 hy598 hy599) hZ (own_g hw 30 rfl) (own_g hw 29 rfl) (by decide) (by decide)) (g := (mkF m 169 #[Iv p1, Iv p2, Iv p3, Iv p4, Iv p5, Iv 3, Iv y597, Iv y598, Iv y599, Iv y600, Rv b658, Rv b670, hs, Iv (own_no (own_st (own_st (own_st (0 : Int32) y597) y598) y599))] [(.ref b670)])) rfl (by rw [hml]; rfl) (argsL := [(.ref b670)]) (rest := []) (lenOf own_pd424 rfl) rfl (own_z rfl) (hb hby at_169) (fun _ _ => ⟨rfl, rfl, (by decide : 4 + 0 ≤ _), (by decide : 16 + 0 ≤ _)⟩)
        dsimp only [Pt.U, Pt.locs, Pt.cells, Pt.slots] at X679 l679 y679 z679 st679 hQ679
        subst l679 y679 z679
        obtain ⟨rfl, Nq679, eh679⟩ := hQ679
        have N679 := Fr.app N673 Nq679
        have pl : own_neg (own_find (0 : Int32) [y597, y598, y599] (0 : Int32)) = own_no (own_st (own_st (own_st (0 : Int32) y597) y598) y599) := own_pl3 y597 y598 y599
        have CHe680 : CHr Z consts_1 s.vm h0 T679.vm T673.heap := CHs674.trans (CHv.at X679 hZ (own_EW hw) CHs674.1)
        refine own_byH (fun _ k => XS.aload X673.here hx rfl (hb hby at_167) rfl rfl (st679 _ (XS.iload X679.here hx rfl (hb hby at_172) rfl (XS.icmpNo X679.here hx rfl (hb hby at_174) rfl (teq pl).2 (XS.iconst X679.here hx rfl (hb hby at_177) (XS.goto X679.here hx rfl (pc0 := 178) (pc' := 182) rfl (hb hby at_178) (by decide) (by decide) k)))))) ?_
        exact own_retZH X679 hS0 (by rw [eh679]; exact hkE673) (by rw [eh679]; exact CHe680) hx hlk (t := .boolean) Bd.returns (by simp) (hb hby at_182) ⟨rfl, N679⟩ (by decide) (by decide)
    have J141_681 : ∀ (hs : Int32) (he : hs = (own_st (own_st (own_st (0 : Int32) y597) y598) y599)), own_FinH p e below s Z consts_1 h0 room_1.cells room_1.slots (own_Q0 n0) T673 (mkF m 141 #[Iv p1, Iv p2, Iv p3, Iv p4, Iv p5, Iv 3, Iv y597, Iv y598, Iv y599, Iv y600, Rv b658, Rv b670, Iv hs, Uv] []) := by
      intro hs he
      subst he
      show own_FinH _ _ _ _ _ _ _ _ _ _ T673 (mkF m 141 #[Iv p1, Iv p2, Iv p3, Iv p4, Iv p5, Iv 3, Iv y597, Iv y598, Iv y599, Iv y600, Rv b658, Rv b670, Iv (own_st (own_st (own_st (0 : Int32) y597) y598) y599), Uv] [])
      refine own_byH (fun _ k => XS.iload X673.here hx rfl (hb hby at_141) rfl (XS.iconst X673.here hx rfl (hb hby at_143) (XS.icmpYes X673.here hx rfl (pc0 := 144) (pc' := 155) rfl (hb hby at_144) rfl (flt (by decide : ¬ ((3 : Int32) < (3 : Int32)))).2.2.2 (by decide) (by decide) (XS.iload X673.here hx rfl (hb hby at_155) rfl k)))) ?_
      show own_FinH _ _ _ _ _ _ _ _ _ _ T673 (mkF m 157 #[Iv p1, Iv p2, Iv p3, Iv p4, Iv p5, Iv 3, Iv y597, Iv y598, Iv y599, Iv y600, Rv b658, Rv b670, Iv (own_st (own_st (own_st (0 : Int32) y597) y598) y599), Uv] [(.int (own_st (own_st (own_st (0 : Int32) y597) y598) y599))])
      by_cases hc157_682 : (own_st (own_st (own_st (0 : Int32) y597) y598) y599) = (0 : Int32)
      · show own_FinH _ _ _ _ _ _ _ _ _ _ T673 (mkF m 157 #[Iv p1, Iv p2, Iv p3, Iv p4, Iv p5, Iv 3, Iv y597, Iv y598, Iv y599, Iv y600, Rv b658, Rv b670, Iv (own_st (own_st (own_st (0 : Int32) y597) y598) y599), Uv] [(.int (own_st (own_st (own_st (0 : Int32) y597) y598) y599))])
        refine own_byH (fun _ k => XS.ifNo X673.here hx rfl (hb hby at_157) rfl ((if0 _ _).trans (teq hc157_682).2) (XS.iconst X673.here hx rfl (hb hby at_160) (XS.goto X673.here hx rfl (pc0 := 161) (pc' := 165) rfl (hb hby at_161) (by decide) (by decide) (XS.istore X673.here hx rfl (hb hby at_165) rfl (l' := #[Iv p1, Iv p2, Iv p3, Iv p4, Iv p5, Iv 3, Iv y597, Iv y598, Iv y599, Iv y600, Rv b658, Rv b670, Iv (own_st (own_st (own_st (0 : Int32) y597) y598) y599), Iv 1]) rfl k)))) ?_
        exact J167_676 (.val (.int (own_st (own_st (own_st (0 : Int32) y597) y598) y599))) ((1 : Int32)) (if_pos hc157_682).symm
      · show own_FinH _ _ _ _ _ _ _ _ _ _ T673 (mkF m 157 #[Iv p1, Iv p2, Iv p3, Iv p4, Iv p5, Iv 3, Iv y597, Iv y598, Iv y599, Iv y600, Rv b658, Rv b670, Iv (own_st (own_st (own_st (0 : Int32) y597) y598) y599), Uv] [(.int (own_st (own_st (own_st (0 : Int32) y597) y598) y599))])
        refine own_byH (fun _ k => XS.ifYes X673.here hx rfl (pc0 := 157) (pc' := 164) rfl (hb hby at_157) rfl ((if0 _ _).trans (feq hc157_682).2) (by decide) (by decide) (XS.iconst X673.here hx rfl (hb hby at_164) (XS.istore X673.here hx rfl (hb hby at_165) rfl (l' := #[Iv p1, Iv p2, Iv p3, Iv p4, Iv p5, Iv 3, Iv y597, Iv y598, Iv y599, Iv y600, Rv b658, Rv b670, Iv (own_st (own_st (own_st (0 : Int32) y597) y598) y599), Iv 0]) rfl k))) ?_
        exact J167_676 (.val (.int (own_st (own_st (own_st (0 : Int32) y597) y598) y599))) ((0 : Int32)) (if_neg hc157_682).symm
    have J127_683 : ∀ (hs : Int32) (he : hs = (own_st (own_st (0 : Int32) y597) y598)), own_FinH p e below s Z consts_1 h0 room_1.cells room_1.slots (own_Q0 n0) T673 (mkF m 127 #[Iv p1, Iv p2, Iv p3, Iv p4, Iv p5, Iv 3, Iv y597, Iv y598, Iv y599, Iv y600, Rv b658, Rv b670, Iv hs, Uv] []) := by
      intro hs he
      subst he
      show own_FinH _ _ _ _ _ _ _ _ _ _ T673 (mkF m 127 #[Iv p1, Iv p2, Iv p3, Iv p4, Iv p5, Iv 3, Iv y597, Iv y598, Iv y599, Iv y600, Rv b658, Rv b670, Iv (own_st (own_st (0 : Int32) y597) y598), Uv] [])
      refine own_byH (fun _ k => XS.iload X673.here hx rfl (hb hby at_127) rfl (XS.iconst X673.here hx rfl (hb hby at_129) (XS.icmpNo X673.here hx rfl (hb hby at_130) rfl (tlt (by decide : (2 : Int32) < (3 : Int32))).2.2.2 (XS.iload X673.here hx rfl (hb hby at_133) rfl k)))) ?_
      show own_FinH _ _ _ _ _ _ _ _ _ _ T673 (mkF m 135 #[Iv p1, Iv p2, Iv p3, Iv p4, Iv p5, Iv 3, Iv y597, Iv y598, Iv y599, Iv y600, Rv b658, Rv b670, Iv (own_st (own_st (0 : Int32) y597) y598), Uv] [(.int y599)])
      by_cases hc135_684 : y599 = (0 : Int32)
      · show own_FinH _ _ _ _ _ _ _ _ _ _ T673 (mkF m 135 #[Iv p1, Iv p2, Iv p3, Iv p4, Iv p5, Iv 3, Iv y597, Iv y598, Iv y599, Iv y600, Rv b658, Rv b670, Iv (own_st (own_st (0 : Int32) y597) y598), Uv] [(.int y599)])
        refine own_byH (fun _ k => XS.ifNo X673.here hx rfl (hb hby at_135) rfl ((if0 _ _).trans (teq hc135_684).2) (XS.iconst X673.here hx rfl (hb hby at_138) (XS.istore X673.here hx rfl (hb hby at_139) rfl (l' := #[Iv p1, Iv p2, Iv p3, Iv p4, Iv p5, Iv 3, Iv y597, Iv y598, Iv y599, Iv y600, Rv b658, Rv b670, Iv 1, Uv]) rfl k))) ?_
        exact J141_681 ((1 : Int32)) (if_pos hc135_684).symm
      · show own_FinH _ _ _ _ _ _ _ _ _ _ T673 (mkF m 135 #[Iv p1, Iv p2, Iv p3, Iv p4, Iv p5, Iv 3, Iv y597, Iv y598, Iv y599, Iv y600, Rv b658, Rv b670, Iv (own_st (own_st (0 : Int32) y597) y598), Uv] [(.int y599)])
        refine own_byH (fun _ k => XS.ifYes X673.here hx rfl (pc0 := 135) (pc' := 141) rfl (hb hby at_135) rfl ((if0 _ _).trans (feq hc135_684).2) (by decide) (by decide) k) ?_
        exact J141_681 ((own_st (own_st (0 : Int32) y597) y598)) (if_neg hc135_684).symm
    have J113_685 : ∀ (hs : Int32) (he : hs = (own_st (0 : Int32) y597)), own_FinH p e below s Z consts_1 h0 room_1.cells room_1.slots (own_Q0 n0) T673 (mkF m 113 #[Iv p1, Iv p2, Iv p3, Iv p4, Iv p5, Iv 3, Iv y597, Iv y598, Iv y599, Iv y600, Rv b658, Rv b670, Iv hs, Uv] []) := by
      intro hs he
      subst he
      show own_FinH _ _ _ _ _ _ _ _ _ _ T673 (mkF m 113 #[Iv p1, Iv p2, Iv p3, Iv p4, Iv p5, Iv 3, Iv y597, Iv y598, Iv y599, Iv y600, Rv b658, Rv b670, Iv (own_st (0 : Int32) y597), Uv] [])
      refine own_byH (fun _ k => XS.iload X673.here hx rfl (hb hby at_113) rfl (XS.iconst X673.here hx rfl (hb hby at_115) (XS.icmpNo X673.here hx rfl (hb hby at_116) rfl (tlt (by decide : (1 : Int32) < (3 : Int32))).2.2.2 (XS.iload X673.here hx rfl (hb hby at_119) rfl k)))) ?_
      show own_FinH _ _ _ _ _ _ _ _ _ _ T673 (mkF m 121 #[Iv p1, Iv p2, Iv p3, Iv p4, Iv p5, Iv 3, Iv y597, Iv y598, Iv y599, Iv y600, Rv b658, Rv b670, Iv (own_st (0 : Int32) y597), Uv] [(.int y598)])
      by_cases hc121_686 : y598 = (0 : Int32)
      · show own_FinH _ _ _ _ _ _ _ _ _ _ T673 (mkF m 121 #[Iv p1, Iv p2, Iv p3, Iv p4, Iv p5, Iv 3, Iv y597, Iv y598, Iv y599, Iv y600, Rv b658, Rv b670, Iv (own_st (0 : Int32) y597), Uv] [(.int y598)])
        refine own_byH (fun _ k => XS.ifNo X673.here hx rfl (hb hby at_121) rfl ((if0 _ _).trans (teq hc121_686).2) (XS.iconst X673.here hx rfl (hb hby at_124) (XS.istore X673.here hx rfl (hb hby at_125) rfl (l' := #[Iv p1, Iv p2, Iv p3, Iv p4, Iv p5, Iv 3, Iv y597, Iv y598, Iv y599, Iv y600, Rv b658, Rv b670, Iv 1, Uv]) rfl k))) ?_
        exact J127_683 ((1 : Int32)) (if_pos hc121_686).symm
      · show own_FinH _ _ _ _ _ _ _ _ _ _ T673 (mkF m 121 #[Iv p1, Iv p2, Iv p3, Iv p4, Iv p5, Iv 3, Iv y597, Iv y598, Iv y599, Iv y600, Rv b658, Rv b670, Iv (own_st (0 : Int32) y597), Uv] [(.int y598)])
        refine own_byH (fun _ k => XS.ifYes X673.here hx rfl (pc0 := 121) (pc' := 127) rfl (hb hby at_121) rfl ((if0 _ _).trans (feq hc121_686).2) (by decide) (by decide) k) ?_
        exact J127_683 ((own_st (0 : Int32) y597)) (if_neg hc121_686).symm
    show own_FinH _ _ _ _ _ _ _ _ _ _ T673 (mkF m 97 #[Iv p1, Iv p2, Iv p3, Iv p4, Iv p5, Iv 3, Iv y597, Iv y598, Iv y599, Iv y600, Rv b658, Rv b670, Uv, Uv] [])
    refine own_byH (fun _ k => XS.iconst X673.here hx rfl (hb hby at_97) (XS.istore X673.here hx rfl (hb hby at_98) rfl (l' := #[Iv p1, Iv p2, Iv p3, Iv p4, Iv p5, Iv 3, Iv y597, Iv y598, Iv y599, Iv y600, Rv b658, Rv b670, Iv 0, Uv]) rfl (XS.iload X673.here hx rfl (hb hby at_100) rfl (XS.ifNo X673.here hx rfl (hb hby at_102) rfl ((if0 _ _).trans (tlt (by decide : (0 : Int32) < (3 : Int32))).2.2.2) (XS.iload X673.here hx rfl (hb hby at_105) rfl k))))) ?_
    show own_FinH _ _ _ _ _ _ _ _ _ _ T673 (mkF m 107 #[Iv p1, Iv p2, Iv p3, Iv p4, Iv p5, Iv 3, Iv y597, Iv y598, Iv y599, Iv y600, Rv b658, Rv b670, Iv 0, Uv] [(.int y597)])
    by_cases hc107_687 : y597 = (0 : Int32)
    · show own_FinH _ _ _ _ _ _ _ _ _ _ T673 (mkF m 107 #[Iv p1, Iv p2, Iv p3, Iv p4, Iv p5, Iv 3, Iv y597, Iv y598, Iv y599, Iv y600, Rv b658, Rv b670, Iv 0, Uv] [(.int y597)])
      refine own_byH (fun _ k => XS.ifNo X673.here hx rfl (hb hby at_107) rfl ((if0 _ _).trans (teq hc107_687).2) (XS.iconst X673.here hx rfl (hb hby at_110) (XS.istore X673.here hx rfl (hb hby at_111) rfl (l' := #[Iv p1, Iv p2, Iv p3, Iv p4, Iv p5, Iv 3, Iv y597, Iv y598, Iv y599, Iv y600, Rv b658, Rv b670, Iv 1, Uv]) rfl k))) ?_
      exact J113_685 ((1 : Int32)) (if_pos hc107_687).symm
    · show own_FinH _ _ _ _ _ _ _ _ _ _ T673 (mkF m 107 #[Iv p1, Iv p2, Iv p3, Iv p4, Iv p5, Iv 3, Iv y597, Iv y598, Iv y599, Iv y600, Rv b658, Rv b670, Iv 0, Uv] [(.int y597)])
      refine own_byH (fun _ k => XS.ifYes X673.here hx rfl (pc0 := 107) (pc' := 113) rfl (hb hby at_107) rfl ((if0 _ _).trans (feq hc107_687).2) (by decide) (by decide) k) ?_
      exact J113_685 ((0 : Int32)) (if_neg hc107_687).symm
  · show own_FinH _ _ _ _ _ _ _ _ _ _ T600 (mkF m 33 #[Iv p1, Iv p2, Iv p3, Iv p4, Iv p5, Iv ((p1 &&& (2147483647 : Int32)) % (5 : Int32)), Iv y597, Iv y598, Iv y599, Iv y600, Uv, Uv, Uv, Uv] [])
    rw [hn]
    show own_FinH _ _ _ _ _ _ _ _ _ _ T600 (mkF m 33 #[Iv p1, Iv p2, Iv p3, Iv p4, Iv p5, Iv 4, Iv y597, Iv y598, Iv y599, Iv y600, Uv, Uv, Uv, Uv] [])
    obtain ⟨T688, h688, k688, X688, e688, E688, A688, st688⟩ := newP X600 hx hZ (own_g hw 5 rfl) eh600 (g := (mkF m 35 #[Iv p1, Iv p2, Iv p3, Iv p4, Iv p5, Iv 4, Iv y597, Iv y598, Iv y599, Iv y600, Uv, Uv, Uv, Uv] [(.int 4)])) rfl (hb hby at_35) rfl (by decide) (cap := 4) (by decide) (by decide) (by decide) (by decide)
    obtain ⟨b688, g688⟩ : ∃ z, z = h0.size := ⟨_, rfl⟩
    rw [← g688] at A688 st688
    have V688 : Arv Z h688 b688 k688 .char (4 : Int32) [(.int (0 : Int32)), (.int (0 : Int32)), (.int (0 : Int32)), (.int (0 : Int32))] (.int (0 : Int32)) := (Arv.new A688 (by decide)).pad (pad_rep [] (.int (0 : Int32)) 4)
    have gf688 : n0 ≤ b688 := Nat.le_trans Z0 (Nat.le_of_eq g688.symm)
    have Zs688 : n0 ≤ h688.size := Nat.le_trans Z0 E688.1
    have hkE688 : _ ≤ h688.size := Nat.le_trans hk0 E688.1
    have Sf688 : Safe Z consts_1 s.vm h688 b688 := Safe.ext E688 CH0.1 (Safe.new (Nat.le_of_eq g688.symm))
    have CHs689 : CHr Z consts_1 s.vm h0 s.vm h688 := CH0.trans (CHr.ext E688 CH0.1)
    have f690_0 : Old Z n0 h688 := Od.ext E688
    obtain ⟨cl691, Ar691, q691, S691, M691, H691, G691⟩ := id V688
    have hin691 : ¬ ((0 : Int32) < 0 ∨ cl691.slots.size ≤ ((0 : Int32)).toNatClampNeg) := inb_of S691 ⟨by decide, by decide⟩
    obtain ⟨T691, h691, X691, e691, W691, st691⟩ := stC X688 hx hZ e688 Ar691 (j := (0 : Int32)) hin691 (g := (mkF m 49 #[Iv p1, Iv p2, Iv p3, Iv p4, Iv p5, Iv 4, Iv y597, Iv y598, Iv y599, Iv y600, Rv b688, Uv, Uv, Uv] [(.int y597), (.int 0), (.ref b688)])) rfl rfl (hb hby at_49)
    have V691 : Arv Z h691 b688 k688 .char (4 : Int32) [(.int y597.toUInt32.toUInt16.toUInt32.toInt32), (.int (0 : Int32)), (.int (0 : Int32)), (.int (0 : Int32))] (.int (0 : Int32)) := Arv.set Ar691 q691 S691 M691 H691 G691 (fits_nar_char _) W691 0 rfl (Nat.le_of_ble_eq_true rfl)
    have Zs691 : n0 ≤ h691.size := Nat.le_trans Zs688 (Keep.of_wr W691).1
    have N691 := Fr.snoc X691 N600 gf688
    have hkE691 : _ ≤ h691.size := Nat.le_trans hkE688 (Keep.of_wr W691).1
    have sf692_b688 : Safe Z consts_1 s.vm h691 b688 := Safe.wr W691 Sf688 CHs689.1 Sf688
    have CHs692 : CHr Z consts_1 s.vm h0 s.vm h691 := CHs689.trans (CHr.wr W691 Sf688 CHs689.1)
    have f693_0 : Old Z n0 h691 := f690_0.wr W691 gf688
    refine own_byH (fun _ k => XS.iload X600.here hx rfl (hb hby at_33) rfl (st688 _ (XS.astore X688.here hx rfl (hb hby at_37) rfl rfl (l' := #[Iv p1, Iv p2, Iv p3, Iv p4, Iv p5, Iv 4, Iv y597, Iv y598, Iv y599, Iv y600, Rv b688, Uv, Uv, Uv]) rfl (XS.iload X688.here hx rfl (hb hby at_39) rfl (XS.ifNo X688.here hx rfl (hb hby at_41) rfl ((if0 _ _).trans (tlt (by decide : (0 : Int32) < (4 : Int32))).2.2.2) (XS.aload X688.here hx rfl (hb hby at_44) rfl rfl (XS.iconst X688.here hx rfl (hb hby at_46) (XS.iload X688.here hx rfl (hb hby at_47) rfl (st691 _ (XS.iload X691.here hx rfl (hb hby at_50) rfl k)))))))))) ?_
    show own_FinH _ _ _ _ _ _ _ _ _ _ T691 (mkF m 52 #[Iv p1, Iv p2, Iv p3, Iv p4, Iv p5, Iv 4, Iv y597, Iv y598, Iv y599, Iv y600, Rv b688, Uv, Uv, Uv] [(.int 4)])
    obtain ⟨cl694, Ar694, q694, S694, M694, H694, G694⟩ := id V691
    have hin694 : ¬ ((1 : Int32) < 0 ∨ cl694.slots.size ≤ ((1 : Int32)).toNatClampNeg) := inb_of S694 ⟨by decide, by decide⟩
    obtain ⟨T694, h694, X694, e694, W694, st694⟩ := stC X691 hx hZ e691 Ar694 (j := (1 : Int32)) hin694 (g := (mkF m 61 #[Iv p1, Iv p2, Iv p3, Iv p4, Iv p5, Iv 4, Iv y597, Iv y598, Iv y599, Iv y600, Rv b688, Uv, Uv, Uv] [(.int y598), (.int 1), (.ref b688)])) rfl rfl (hb hby at_61)
    have V694 : Arv Z h694 b688 k688 .char (4 : Int32) [(.int y597.toUInt32.toUInt16.toUInt32.toInt32), (.int y598.toUInt32.toUInt16.toUInt32.toInt32), (.int (0 : Int32)), (.int (0 : Int32))] (.int (0 : Int32)) := Arv.set Ar694 q694 S694 M694 H694 G694 (fits_nar_char _) W694 1 rfl (Nat.le_of_ble_eq_true rfl)
    have Zs694 : n0 ≤ h694.size := Nat.le_trans Zs691 (Keep.of_wr W694).1
    have N694 := Fr.snoc X694 N691 gf688
    have hkE694 : _ ≤ h694.size := Nat.le_trans hkE691 (Keep.of_wr W694).1
    have sf695_b688 : Safe Z consts_1 s.vm h694 b688 := Safe.wr W694 sf692_b688 CHs692.1 sf692_b688
    have CHs695 : CHr Z consts_1 s.vm h0 s.vm h694 := CHs692.trans (CHr.wr W694 sf692_b688 CHs692.1)
    have f696_0 : Old Z n0 h694 := f693_0.wr W694 gf688
    refine own_byH (fun _ k => XS.iconst X691.here hx rfl (hb hby at_52) (XS.icmpNo X691.here hx rfl (hb hby at_53) rfl (tlt (by decide : (1 : Int32) < (4 : Int32))).2.2.2 (XS.aload X691.here hx rfl (hb hby at_56) rfl rfl (XS.iconst X691.here hx rfl (hb hby at_58) (XS.iload X691.here hx rfl (hb hby at_59) rfl (st694 _ (XS.iload X694.here hx rfl (hb hby at_62) rfl (XS.iconst X694.here hx rfl (hb hby at_64) (XS.icmpNo X694.here hx rfl (hb hby at_65) rfl (tlt (by decide : (2 : Int32) < (4 : Int32))).2.2.2 (XS.aload X694.here hx rfl (hb hby at_68) rfl rfl k)))))))))) ?_
    show own_FinH _ _ _ _ _ _ _ _ _ _ T694 (mkF m 70 #[Iv p1, Iv p2, Iv p3, Iv p4, Iv p5, Iv 4, Iv y597, Iv y598, Iv y599, Iv y600, Rv b688, Uv, Uv, Uv] [(.ref b688)])
    obtain ⟨cl697, Ar697, q697, S697, M697, H697, G697⟩ := id V694
    have hin697 : ¬ ((2 : Int32) < 0 ∨ cl697.slots.size ≤ ((2 : Int32)).toNatClampNeg) := inb_of S697 ⟨by decide, by decide⟩
    obtain ⟨T697, h697, X697, e697, W697, st697⟩ := stC X694 hx hZ e694 Ar697 (j := (2 : Int32)) hin697 (g := (mkF m 73 #[Iv p1, Iv p2, Iv p3, Iv p4, Iv p5, Iv 4, Iv y597, Iv y598, Iv y599, Iv y600, Rv b688, Uv, Uv, Uv] [(.int y599), (.int 2), (.ref b688)])) rfl rfl (hb hby at_73)
    have V697 : Arv Z h697 b688 k688 .char (4 : Int32) [(.int y597.toUInt32.toUInt16.toUInt32.toInt32), (.int y598.toUInt32.toUInt16.toUInt32.toInt32), (.int y599.toUInt32.toUInt16.toUInt32.toInt32), (.int (0 : Int32))] (.int (0 : Int32)) := Arv.set Ar697 q697 S697 M697 H697 G697 (fits_nar_char _) W697 2 rfl (Nat.le_of_ble_eq_true rfl)
    have Zs697 : n0 ≤ h697.size := Nat.le_trans Zs694 (Keep.of_wr W697).1
    have N697 := Fr.snoc X697 N694 gf688
    have hkE697 : _ ≤ h697.size := Nat.le_trans hkE694 (Keep.of_wr W697).1
    have sf698_b688 : Safe Z consts_1 s.vm h697 b688 := Safe.wr W697 sf695_b688 CHs695.1 sf695_b688
    have CHs698 : CHr Z consts_1 s.vm h0 s.vm h697 := CHs695.trans (CHr.wr W697 sf695_b688 CHs695.1)
    have f699_0 : Old Z n0 h697 := f696_0.wr W697 gf688
    obtain ⟨cl700, Ar700, q700, S700, M700, H700, G700⟩ := id V697
    have hin700 : ¬ ((3 : Int32) < 0 ∨ cl700.slots.size ≤ ((3 : Int32)).toNatClampNeg) := inb_of S700 ⟨by decide, by decide⟩
    obtain ⟨T700, h700, X700, e700, W700, st700⟩ := stC X697 hx hZ e697 Ar700 (j := (3 : Int32)) hin700 (g := (mkF m 85 #[Iv p1, Iv p2, Iv p3, Iv p4, Iv p5, Iv 4, Iv y597, Iv y598, Iv y599, Iv y600, Rv b688, Uv, Uv, Uv] [(.int y600), (.int 3), (.ref b688)])) rfl rfl (hb hby at_85)
    have V700 : Arv Z h700 b688 k688 .char (4 : Int32) [(.int y597.toUInt32.toUInt16.toUInt32.toInt32), (.int y598.toUInt32.toUInt16.toUInt32.toInt32), (.int y599.toUInt32.toUInt16.toUInt32.toInt32), (.int y600.toUInt32.toUInt16.toUInt32.toInt32)] (.int (0 : Int32)) := Arv.set Ar700 q700 S700 M700 H700 G700 (fits_nar_char _) W700 3 rfl (Nat.le_of_ble_eq_true rfl)
    have Zs700 : n0 ≤ h700.size := Nat.le_trans Zs697 (Keep.of_wr W700).1
    have N700 := Fr.snoc X700 N697 gf688
    have hkE700 : _ ≤ h700.size := Nat.le_trans hkE697 (Keep.of_wr W700).1
    have sf701_b688 : Safe Z consts_1 s.vm h700 b688 := Safe.wr W700 sf698_b688 CHs698.1 sf698_b688
    have CHs701 : CHr Z consts_1 s.vm h0 s.vm h700 := CHs698.trans (CHr.wr W700 sf698_b688 CHs698.1)
    have f702_0 : Old Z n0 h700 := f699_0.wr W700 gf688
    obtain ⟨T703, h703, X703, e703, E703, A703, D703, -, st703⟩ := newO X700 hx hZ hown (own_g hw 6 rfl) (own_g hw 7 rfl) (own_g hw 8 rfl) e700 (g := (mkF m 86 #[Iv p1, Iv p2, Iv p3, Iv p4, Iv p5, Iv 4, Iv y597, Iv y598, Iv y599, Iv y600, Rv b688, Uv, Uv, Uv] [])) rfl (hb hby at_86) (by decide) (by decide)
    obtain ⟨b703, g703⟩ : ∃ z, z = h700.size := ⟨_, rfl⟩
    rw [← g703] at A703 D703 st703
    refine own_byH (fun _ k => XS.iconst X694.here hx rfl (hb hby at_70) (XS.iload X694.here hx rfl (hb hby at_71) rfl (st697 _ (XS.iload X697.here hx rfl (hb hby at_74) rfl (XS.iconst X697.here hx rfl (hb hby at_76) (XS.icmpNo X697.here hx rfl (hb hby at_77) rfl (tlt (by decide : (3 : Int32) < (4 : Int32))).2.2.2 (XS.aload X697.here hx rfl (hb hby at_80) rfl rfl (XS.iconst X697.here hx rfl (hb hby at_82) (XS.iload X697.here hx rfl (hb hby at_83) rfl (st700 _ k)))))))))) ?_
    show own_FinH _ _ _ _ _ _ _ _ _ _ T700 (mkF m 86 #[Iv p1, Iv p2, Iv p3, Iv p4, Iv p5, Iv 4, Iv y597, Iv y598, Iv y599, Iv y600, Rv b688, Uv, Uv, Uv] [])
    have ne703_b688 : b688 ≠ b703 := Nat.ne_of_lt (Nat.lt_of_lt_of_le V700.lt (Nat.le_of_eq g703.symm))
    have gf703 : n0 ≤ b703 := Nat.le_trans Zs700 (Nat.le_of_eq g703.symm)
    have Zs703 : n0 ≤ h703.size := Nat.le_trans Zs700 E703.1
    have hkE703 : _ ≤ h703.size := Nat.le_trans hkE700 E703.1
    have Sf703 : Safe Z consts_1 s.vm h703 b703 := Safe.ext E703 CHs701.1 (Safe.new (Nat.le_of_eq g703.symm))
    have sf704_b688 : Safe Z consts_1 s.vm h703 b688 := Safe.ext E703 CHs701.1 sf701_b688
    have CHs704 : CHr Z consts_1 s.vm h0 s.vm h703 := CHs701.trans (CHr.ext E703 CHs701.1)
    have f705_0 : Old Z n0 h703 := f702_0.ext E703
    have f705_2 : Arv Z h703 b688 k688 .char (4 : Int32) [(.int y597.toUInt32.toUInt16.toUInt32.toInt32), (.int y598.toUInt32.toUInt16.toUInt32.toInt32), (.int y599.toUInt32.toUInt16.toUInt32.toInt32), (.int y600.toUInt32.toUInt16.toUInt32.toInt32)] (.int (0 : Int32)) := V700.ext E703
    have F703_value : Fld Z h703 b703 "java/lang/String" "value" "[B" .null := D703 (Or.inr (own_g hw 21 rfl)) (ty := (.array .byte)) (by decide)
    have F703_coder : Fld Z h703 b703 "java/lang/String" "coder" "B" (.int (0 : Int32)) := D703 (Or.inr (own_g hw 22 rfl)) (ty := .byte) (by decide)
    have Vc : Arv Z h703 b688 k688 .char (4 : Int32) [(.int y597), (.int y598), (.int y599), (.int y600)] (.int (0 : Int32)) := by have q := f705_2; simp only [own_ch_c hy597, own_ch_c hy598, own_ch_c hy599, own_ch_c hy600] at q; exact q
    obtain ⟨_, _, ⟨T706, L706, k706, n706⟩, -, X706, ⟨Lc706, hQ706, l706, y706, z706⟩, st706⟩ := X703.specialBack hx (y := mn2) rfl hown (mvT hZ (own_g hw 9 rfl)) (mvT hZ (own_g hw 10 rfl)) (mvT hZ (own_g hw 11 rfl)) (by decide) (backOf (W := 1) (rmYC4 l Z a0 hw [] cs gS b703 b688 k688 y597 y598 y599 y600 h703 n0 Zs703 V_env f705_0 A703 F703_value F703_coder gf703 Vc ne703_b688 hy597 hy598 hy599 hy600) hZ (own_g hw 11 rfl) (own_g hw 8 rfl) (by decide) (by decide)) (g := (mkF m 92 #[Iv p1, Iv p2, Iv p3, Iv p4, Iv p5, Iv 4, Iv y597, Iv y598, Iv y599, Iv y600, Rv b688, Uv, Uv, Uv] [(.ref b688), (.ref b703), (.ref b703)])) rfl (by rw [hml]; rfl) (Steps.refl _) (a := b703) (argsL := [(.ref b688)]) (rest := [(.ref b703)]) (lenOf own_pd423 rfl) rfl (own_z rfl) (hb hby at_92) (fun _ _ => ⟨rfl, e703, (by decide : 2 + 2 ≤ _), (by decide : 8 + 12 ≤ _)⟩)
    dsimp only [Pt.U, Pt.locs, Pt.cells, Pt.slots] at X706 l706 y706 z706 st706 hQ706
    subst l706 y706 z706
    obtain ⟨b706, k706, rfl, Nq706, K706, Gv706, hd706⟩ := hQ706
    have N706 := Fr.app N700 Nq706
    have Zs706 : n0 ≤ T706.heap.size := Nat.le_trans Zs703 K706.1
    have sf707_b688 : Safe Z consts_1 s.vm T706.heap b688 := Safe.keep K706 (sfS Sf703 sf0) CHs704.1 sf704_b688
    have sf707_b703 : Safe Z consts_1 s.vm T706.heap b703 := Safe.keep K706 (sfS Sf703 sf0) CHs704.1 Sf703
    have CHs707 : CHr Z consts_1 s.vm h0 s.vm T706.heap := CHs704.trans (CHr.keep K706 (sfS Sf703 sf0) CHs704.1)
    have hkE706 : _ ≤ T706.heap.size := Nat.le_trans hkE703 K706.1
    have f708_0 : Old Z n0 T706.heap := f705_0.keep K706 (allS gf703 all0)
    have f708_2 : Arv Z T706.heap b688 k688 .char (4 : Int32) [(.int y597.toUInt32.toUInt16.toUInt32.toInt32), (.int y598.toUInt32.toUInt16.toUInt32.toInt32), (.int y599.toUInt32.toUInt16.toUInt32.toInt32), (.int y600.toUInt32.toUInt16.toUInt32.toInt32)] (.int (0 : Int32)) := f705_2.keep K706 (ninS ne703_b688 nin0)
    have f708_4 : Exa Z T706.heap b703 "java/lang/String" := A703.keep K706
    refine own_byH (fun _ k => st703 _ (XS.dup X703.here hx rfl (hb hby at_89) rfl rfl (XS.aload X703.here hx rfl (hb hby at_90) rfl rfl (st706.trans (XS.astore X706.here hx rfl (hb hby at_95) rfl rfl (l' := #[Iv p1, Iv p2, Iv p3, Iv p4, Iv p5, Iv 4, Iv y597, Iv y598, Iv y599, Iv y600, Rv b688, Rv b703, Uv, Uv]) rfl k))))) ?_
    show own_FinH _ _ _ _ _ _ _ _ _ _ T706 (mkF m 97 #[Iv p1, Iv p2, Iv p3, Iv p4, Iv p5, Iv 4, Iv y597, Iv y598, Iv y599, Iv y600, Rv b688, Rv b703, Uv, Uv] [])
    have J167_709 : ∀ (hs : Slot) (ex : Int32) (he : ex = own_no (own_st (own_st (own_st (own_st (0 : Int32) y597) y598) y599) y600)), own_FinH p e below s Z consts_1 h0 room_1.cells room_1.slots (own_Q0 n0) T706 (mkF m 167 #[Iv p1, Iv p2, Iv p3, Iv p4, Iv p5, Iv 4, Iv y597, Iv y598, Iv y599, Iv y600, Rv b688, Rv b703, hs, Iv ex] []) := by
      intro hs ex he
      subst he
      show own_FinH _ _ _ _ _ _ _ _ _ _ T706 (mkF m 167 #[Iv p1, Iv p2, Iv p3, Iv p4, Iv p5, Iv 4, Iv y597, Iv y598, Iv y599, Iv y600, Rv b688, Rv b703, hs, Iv (own_no (own_st (own_st (own_st (own_st (0 : Int32) y597) y598) y599) y600))] [])
      rcases hd706 with ⟨Gc706, V706, hk0, hk1, hk2, hk3⟩ | ⟨Gc706, V706⟩
      · show own_FinH _ _ _ _ _ _ _ _ _ _ T706 (mkF m 167 #[Iv p1, Iv p2, Iv p3, Iv p4, Iv p5, Iv 4, Iv y597, Iv y598, Iv y599, Iv y600, Rv b688, Rv b703, hs, Iv (own_no (own_st (own_st (own_st (own_st (0 : Int32) y597) y598) y599) y600))] [])
        obtain ⟨_, _, ⟨T710, L710, k710, n710⟩, -, X710, ⟨Lc710, hQ710, l710, y710, z710⟩, st710⟩ := Jvm.LawKit.callS X706 hx (y := mn20) hown (mvT hZ (own_g hw 27 rfl)) (mvT hZ (own_g hw 28 rfl)) (mvT hZ (own_g hw 29 rfl)) (mvT hZ (own_g hw 30 rfl)) (by decide) (backOf (W := 0) (rmIS4L l Z a0 hw [] cs gS b703 b706 k706 y597 y598 y599 y600 T706.heap n0 Zs706 V_env f708_0 f708_4 Gv706 Gc706 V706 ) hZ (own_g hw 30 rfl) (own_g hw 29 rfl) (by decide) (by decide)) (g := (mkF m 169 #[Iv p1, Iv p2, Iv p3, Iv p4, Iv p5, Iv 4, Iv y597, Iv y598, Iv y599, Iv y600, Rv b688, Rv b703, hs, Iv (own_no (own_st (own_st (own_st (own_st (0 : Int32) y597) y598) y599) y600))] [(.ref b703)])) rfl (by rw [hml]; rfl) (argsL := [(.ref b703)]) (rest := []) (lenOf own_pd424 rfl) rfl (own_z rfl) (hb hby at_169) (fun _ _ => ⟨rfl, rfl, (by decide : 4 + 0 ≤ _), (by decide : 20 + 0 ≤ _)⟩)
        dsimp only [Pt.U, Pt.locs, Pt.cells, Pt.slots] at X710 l710 y710 z710 st710 hQ710
        subst l710 y710 z710
        obtain ⟨rfl, Nq710, eh710⟩ := hQ710
        have N710 := Fr.app N706 Nq710
        have pl : own_neg (own_find ((0 : Int32).toInt8.toInt32) [y597.toInt8.toInt32, y598.toInt8.toInt32, y599.toInt8.toInt32, y600.toInt8.toInt32] (0 : Int32)) = own_no (own_st (own_st (own_st (own_st (0 : Int32) y597) y598) y599) y600) := by rw [← own_pl4 y597 y598 y599 y600, (by decide : (0 : Int32).toInt8.toInt32 = (0 : Int32))]; simp only [own_find, own_bch hy597 hk0 (c := (0 : Int32)) ⟨by decide, by decide⟩, own_bch hy598 hk1 (c := (0 : Int32)) ⟨by decide, by decide⟩, own_bch hy599 hk2 (c := (0 : Int32)) ⟨by decide, by decide⟩, own_bch hy600 hk3 (c := (0 : Int32)) ⟨by decide, by decide⟩]
        have CHe711 : CHr Z consts_1 s.vm h0 T710.vm T706.heap := CHs707.trans (CHv.at X710 hZ (own_EW hw) CHs707.1)
        refine own_byH (fun _ k => XS.aload X706.here hx rfl (hb hby at_167) rfl rfl (st710 _ (XS.iload X710.here hx rfl (hb hby at_172) rfl (XS.icmpNo X710.here hx rfl (hb hby at_174) rfl (teq pl).2 (XS.iconst X710.here hx rfl (hb hby at_177) (XS.goto X710.here hx rfl (pc0 := 178) (pc' := 182) rfl (hb hby at_178) (by decide) (by decide) k)))))) ?_
        exact own_retZH X710 hS0 (by rw [eh710]; exact hkE706) (by rw [eh710]; exact CHe711) hx hlk (t := .boolean) Bd.returns (by simp) (hb hby at_182) ⟨rfl, N710⟩ (by decide) (by decide)
      · show own_FinH _ _ _ _ _ _ _ _ _ _ T706 (mkF m 167 #[Iv p1, Iv p2, Iv p3, Iv p4, Iv p5, Iv 4, Iv y597, Iv y598, Iv y599, Iv y600, Rv b688, Rv b703, hs, Iv (own_no (own_st (own_st (own_st (own_st (0 : Int32) y597) y598) y599) y600))] [])
        obtain ⟨_, _, ⟨T712, L712, k712, n712⟩, -, X712, ⟨Lc712, hQ712, l712, y712, z712⟩, st712⟩ := Jvm.LawKit.callS X706 hx (y := mn20) hown (mvT hZ (own_g hw 27 rfl)) (mvT hZ (own_g hw 28 rfl)) (mvT hZ (own_g hw 29 rfl)) (mvT hZ (own_g hw 30 rfl)) (by decide) (backOf (W := 0) (rmIS4U l Z a0 hw [] cs gS b703 b706 k706 y597 y598 y599 y600 T706.heap n0 Zs706 V_env f708_0 f708_4 Gv706 Gc706 V706 hy597 hy598 hy599 hy600) hZ (own_g hw 30 rfl) (own_g hw 29 rfl) (by decide) (by decide)) (g := (mkF m 169 #[Iv p1, Iv p2, Iv p3, Iv p4, Iv p5, Iv 4, Iv y597, Iv y598, Iv y599, Iv y600, Rv b688, Rv b703, hs, Iv (own_no (own_st (own_st (own_st (own_st (0 : Int32) y597) y598) y599) y600))] [(.ref b703)])) rfl (by rw [hml]; rfl) (argsL := [(.ref b703)]) (rest := []) (lenOf own_pd424 rfl) rfl (own_z rfl) (hb hby at_169) (fun _ _ => ⟨rfl, rfl, (by decide : 4 + 0 ≤ _), (by decide : 20 + 0 ≤ _)⟩)
        dsimp only [Pt.U, Pt.locs, Pt.cells, Pt.slots] at X712 l712 y712 z712 st712 hQ712
        subst l712 y712 z712
        obtain ⟨rfl, Nq712, eh712⟩ := hQ712
        have N712 := Fr.app N706 Nq712
        have pl : own_neg (own_find (0 : Int32) [y597, y598, y599, y600] (0 : Int32)) = own_no (own_st (own_st (own_st (own_st (0 : Int32) y597) y598) y599) y600) := own_pl4 y597 y598 y599 y600
        have CHe713 : CHr Z consts_1 s.vm h0 T712.vm T706.heap := CHs707.trans (CHv.at X712 hZ (own_EW hw) CHs707.1)
        refine own_byH (fun _ k => XS.aload X706.here hx rfl (hb hby at_167) rfl rfl (st712 _ (XS.iload X712.here hx rfl (hb hby at_172) rfl (XS.icmpNo X712.here hx rfl (hb hby at_174) rfl (teq pl).2 (XS.iconst X712.here hx rfl (hb hby at_177) (XS.goto X712.here hx rfl (pc0 := 178) (pc' := 182) rfl (hb hby at_178) (by decide) (by decide) k)))))) ?_
        exact own_retZH X712 hS0 (by rw [eh712]; exact hkE706) (by rw [eh712]; exact CHe713) hx hlk (t := .boolean) Bd.returns (by simp) (hb hby at_182) ⟨rfl, N712⟩ (by decide) (by decide)
    have J155_714 : ∀ (hs : Int32) (he : hs = (own_st (own_st (own_st (own_st (0 : Int32) y597) y598) y599) y600)), own_FinH p e below s Z consts_1 h0 room_1.cells room_1.slots (own_Q0 n0) T706 (mkF m 155 #[Iv p1, Iv p2, Iv p3, Iv p4, Iv p5, Iv 4, Iv y597, Iv y598, Iv y599, Iv y600, Rv b688, Rv b703, Iv hs, Uv] []) := by
      intro hs he
      subst he
      show own_FinH _ _ _ _ _ _ _ _ _ _ T706 (mkF m 155 #[Iv p1, Iv p2, Iv p3, Iv p4, Iv p5, Iv 4, Iv y597, Iv y598, Iv y599, Iv y600, Rv b688, Rv b703, Iv (own_st (own_st (own_st (own_st (0 : Int32) y597) y598) y599) y600), Uv] [])
      refine own_byH (fun _ k => XS.iload X706.here hx rfl (hb hby at_155) rfl k) ?_
      show own_FinH _ _ _ _ _ _ _ _ _ _ T706 (mkF m 157 #[Iv p1, Iv p2, Iv p3, Iv p4, Iv p5, Iv 4, Iv y597, Iv y598, Iv y599, Iv y600, Rv b688, Rv b703, Iv (own_st (own_st (own_st (own_st (0 : Int32) y597) y598) y599) y600), Uv] [(.int (own_st (own_st (own_st (own_st (0 : Int32) y597) y598) y599) y600))])
      by_cases hc157_715 : (own_st (own_st (own_st (own_st (0 : Int32) y597) y598) y599) y600) = (0 : Int32)
      · show own_FinH _ _ _ _ _ _ _ _ _ _ T706 (mkF m 157 #[Iv p1, Iv p2, Iv p3, Iv p4, Iv p5, Iv 4, Iv y597, Iv y598, Iv y599, Iv y600, Rv b688, Rv b703, Iv (own_st (own_st (own_st (own_st (0 : Int32) y597) y598) y599) y600), Uv] [(.int (own_st (own_st (own_st (own_st (0 : Int32) y597) y598) y599) y600))])
        refine own_byH (fun _ k => XS.ifNo X706.here hx rfl (hb hby at_157) rfl ((if0 _ _).trans (teq hc157_715).2) (XS.iconst X706.here hx rfl (hb hby at_160) (XS.goto X706.here hx rfl (pc0 := 161) (pc' := 165) rfl (hb hby at_161) (by decide) (by decide) (XS.istore X706.here hx rfl (hb hby at_165) rfl (l' := #[Iv p1, Iv p2, Iv p3, Iv p4, Iv p5, Iv 4, Iv y597, Iv y598, Iv y599, Iv y600, Rv b688, Rv b703, Iv (own_st (own_st (own_st (own_st (0 : Int32) y597) y598) y599) y600), Iv 1]) rfl k)))) ?_
        exact J167_709 (.val (.int (own_st (own_st (own_st (own_st (0 : Int32) y597) y598) y599) y600))) ((1 : Int32)) (if_pos hc157_715).symm
      · show own_FinH _ _ _ _ _ _ _ _ _ _ T706 (mkF m 157 #[Iv p1, Iv p2, Iv p3, Iv p4, Iv p5, Iv 4, Iv y597, Iv y598, Iv y599, Iv y600, Rv b688, Rv b703, Iv (own_st (own_st (own_st (own_st (0 : Int32) y597) y598) y599) y600), Uv] [(.int (own_st (own_st (own_st (own_st (0 : Int32) y597) y598) y599) y600))])
        refine own_byH (fun _ k => XS.ifYes X706.here hx rfl (pc0 := 157) (pc' := 164) rfl (hb hby at_157) rfl ((if0 _ _).trans (feq hc157_715).2) (by decide) (by decide) (XS.iconst X706.here hx rfl (hb hby at_164) (XS.istore X706.here hx rfl (hb hby at_165) rfl (l' := #[Iv p1, Iv p2, Iv p3, Iv p4, Iv p5, Iv 4, Iv y597, Iv y598, Iv y599, Iv y600, Rv b688, Rv b703, Iv (own_st (own_st (own_st (own_st (0 : Int32) y597) y598) y599) y600), Iv 0]) rfl k))) ?_
        exact J167_709 (.val (.int (own_st (own_st (own_st (own_st (0 : Int32) y597) y598) y599) y600))) ((0 : Int32)) (if_neg hc157_715).symm
    have J141_716 : ∀ (hs : Int32) (he : hs = (own_st (own_st (own_st (0 : Int32) y597) y598) y599)), own_FinH p e below s Z consts_1 h0 room_1.cells room_1.slots (own_Q0 n0) T706 (mkF m 141 #[Iv p1, Iv p2, Iv p3, Iv p4, Iv p5, Iv 4, Iv y597, Iv y598, Iv y599, Iv y600, Rv b688, Rv b703, Iv hs, Uv] []) := by
      intro hs he
      subst he
      show own_FinH _ _ _ _ _ _ _ _ _ _ T706 (mkF m 141 #[Iv p1, Iv p2, Iv p3, Iv p4, Iv p5, Iv 4, Iv y597, Iv y598, Iv y599, Iv y600, Rv b688, Rv b703, Iv (own_st (own_st (own_st (0 : Int32) y597) y598) y599), Uv] [])
      refine own_byH (fun _ k => XS.iload X706.here hx rfl (hb hby at_141) rfl (XS.iconst X706.here hx rfl (hb hby at_143) (XS.icmpNo X706.here hx rfl (hb hby at_144) rfl (tlt (by decide : (3 : Int32) < (4 : Int32))).2.2.2 (XS.iload X706.here hx rfl (hb hby at_147) rfl k)))) ?_
      show own_FinH _ _ _ _ _ _ _ _ _ _ T706 (mkF m 149 #[Iv p1, Iv p2, Iv p3, Iv p4, Iv p5, Iv 4, Iv y597, Iv y598, Iv y599, Iv y600, Rv b688, Rv b703, Iv (own_st (own_st (own_st (0 : Int32) y597) y598) y599), Uv] [(.int y600)])
      by_cases hc149_717 : y600 = (0 : Int32)
      · show own_FinH _ _ _ _ _ _ _ _ _ _ T706 (mkF m 149 #[Iv p1, Iv p2, Iv p3, Iv p4, Iv p5, Iv 4, Iv y597, Iv y598, Iv y599, Iv y600, Rv b688, Rv b703, Iv (own_st (own_st (own_st (0 : Int32) y597) y598) y599), Uv] [(.int y600)])
        refine own_byH (fun _ k => XS.ifNo X706.here hx rfl (hb hby at_149) rfl ((if0 _ _).trans (teq hc149_717).2) (XS.iconst X706.here hx rfl (hb hby at_152) (XS.istore X706.here hx rfl (hb hby at_153) rfl (l' := #[Iv p1, Iv p2, Iv p3, Iv p4, Iv p5, Iv 4, Iv y597, Iv y598, Iv y599, Iv y600, Rv b688, Rv b703, Iv 1, Uv]) rfl k))) ?_
        exact J155_714 ((1 : Int32)) (if_pos hc149_717).symm
      · show own_FinH _ _ _ _ _ _ _ _ _ _ T706 (mkF m 149 #[Iv p1, Iv p2, Iv p3, Iv p4, Iv p5, Iv 4, Iv y597, Iv y598, Iv y599, Iv y600, Rv b688, Rv b703, Iv (own_st (own_st (own_st (0 : Int32) y597) y598) y599), Uv] [(.int y600)])
        refine own_byH (fun _ k => XS.ifYes X706.here hx rfl (pc0 := 149) (pc' := 155) rfl (hb hby at_149) rfl ((if0 _ _).trans (feq hc149_717).2) (by decide) (by decide) k) ?_
        exact J155_714 ((own_st (own_st (own_st (0 : Int32) y597) y598) y599)) (if_neg hc149_717).symm
    have J127_718 : ∀ (hs : Int32) (he : hs = (own_st (own_st (0 : Int32) y597) y598)), own_FinH p e below s Z consts_1 h0 room_1.cells room_1.slots (own_Q0 n0) T706 (mkF m 127 #[Iv p1, Iv p2, Iv p3, Iv p4, Iv p5, Iv 4, Iv y597, Iv y598, Iv y599, Iv y600, Rv b688, Rv b703, Iv hs, Uv] []) := by
      intro hs he
      subst he
      show own_FinH _ _ _ _ _ _ _ _ _ _ T706 (mkF m 127 #[Iv p1, Iv p2, Iv p3, Iv p4, Iv p5, Iv 4, Iv y597, Iv y598, Iv y599, Iv y600, Rv b688, Rv b703, Iv (own_st (own_st (0 : Int32) y597) y598), Uv] [])
      refine own_byH (fun _ k => XS.iload X706.here hx rfl (hb hby at_127) rfl (XS.iconst X706.here hx rfl (hb hby at_129) (XS.icmpNo X706.here hx rfl (hb hby at_130) rfl (tlt (by decide : (2 : Int32) < (4 : Int32))).2.2.2 (XS.iload X706.here hx rfl (hb hby at_133) rfl k)))) ?_
      show own_FinH _ _ _ _ _ _ _ _ _ _ T706 (mkF m 135 #[Iv p1, Iv p2, Iv p3, Iv p4, Iv p5, Iv 4, Iv y597, Iv y598, Iv y599, Iv y600, Rv b688, Rv b703, Iv (own_st (own_st (0 : Int32) y597) y598), Uv] [(.int y599)])
      by_cases hc135_719 : y599 = (0 : Int32)
      · show own_FinH _ _ _ _ _ _ _ _ _ _ T706 (mkF m 135 #[Iv p1, Iv p2, Iv p3, Iv p4, Iv p5, Iv 4, Iv y597, Iv y598, Iv y599, Iv y600, Rv b688, Rv b703, Iv (own_st (own_st (0 : Int32) y597) y598), Uv] [(.int y599)])
        refine own_byH (fun _ k => XS.ifNo X706.here hx rfl (hb hby at_135) rfl ((if0 _ _).trans (teq hc135_719).2) (XS.iconst X706.here hx rfl (hb hby at_138) (XS.istore X706.here hx rfl (hb hby at_139) rfl (l' := #[Iv p1, Iv p2, Iv p3, Iv p4, Iv p5, Iv 4, Iv y597, Iv y598, Iv y599, Iv y600, Rv b688, Rv b703, Iv 1, Uv]) rfl k))) ?_
        exact J141_716 ((1 : Int32)) (if_pos hc135_719).symm
      · show own_FinH _ _ _ _ _ _ _ _ _ _ T706 (mkF m 135 #[Iv p1, Iv p2, Iv p3, Iv p4, Iv p5, Iv 4, Iv y597, Iv y598, Iv y599, Iv y600, Rv b688, Rv b703, Iv (own_st (own_st (0 : Int32) y597) y598), Uv] [(.int y599)])
        refine own_byH (fun _ k => XS.ifYes X706.here hx rfl (pc0 := 135) (pc' := 141) rfl (hb hby at_135) rfl ((if0 _ _).trans (feq hc135_719).2) (by decide) (by decide) k) ?_
        exact J141_716 ((own_st (own_st (0 : Int32) y597) y598)) (if_neg hc135_719).symm
    have J113_720 : ∀ (hs : Int32) (he : hs = (own_st (0 : Int32) y597)), own_FinH p e below s Z consts_1 h0 room_1.cells room_1.slots (own_Q0 n0) T706 (mkF m 113 #[Iv p1, Iv p2, Iv p3, Iv p4, Iv p5, Iv 4, Iv y597, Iv y598, Iv y599, Iv y600, Rv b688, Rv b703, Iv hs, Uv] []) := by
      intro hs he
      subst he
      show own_FinH _ _ _ _ _ _ _ _ _ _ T706 (mkF m 113 #[Iv p1, Iv p2, Iv p3, Iv p4, Iv p5, Iv 4, Iv y597, Iv y598, Iv y599, Iv y600, Rv b688, Rv b703, Iv (own_st (0 : Int32) y597), Uv] [])
      refine own_byH (fun _ k => XS.iload X706.here hx rfl (hb hby at_113) rfl (XS.iconst X706.here hx rfl (hb hby at_115) (XS.icmpNo X706.here hx rfl (hb hby at_116) rfl (tlt (by decide : (1 : Int32) < (4 : Int32))).2.2.2 (XS.iload X706.here hx rfl (hb hby at_119) rfl k)))) ?_
      show own_FinH _ _ _ _ _ _ _ _ _ _ T706 (mkF m 121 #[Iv p1, Iv p2, Iv p3, Iv p4, Iv p5, Iv 4, Iv y597, Iv y598, Iv y599, Iv y600, Rv b688, Rv b703, Iv (own_st (0 : Int32) y597), Uv] [(.int y598)])
      by_cases hc121_721 : y598 = (0 : Int32)
      · show own_FinH _ _ _ _ _ _ _ _ _ _ T706 (mkF m 121 #[Iv p1, Iv p2, Iv p3, Iv p4, Iv p5, Iv 4, Iv y597, Iv y598, Iv y599, Iv y600, Rv b688, Rv b703, Iv (own_st (0 : Int32) y597), Uv] [(.int y598)])
        refine own_byH (fun _ k => XS.ifNo X706.here hx rfl (hb hby at_121) rfl ((if0 _ _).trans (teq hc121_721).2) (XS.iconst X706.here hx rfl (hb hby at_124) (XS.istore X706.here hx rfl (hb hby at_125) rfl (l' := #[Iv p1, Iv p2, Iv p3, Iv p4, Iv p5, Iv 4, Iv y597, Iv y598, Iv y599, Iv y600, Rv b688, Rv b703, Iv 1, Uv]) rfl k))) ?_
        exact J127_718 ((1 : Int32)) (if_pos hc121_721).symm
      · show own_FinH _ _ _ _ _ _ _ _ _ _ T706 (mkF m 121 #[Iv p1, Iv p2, Iv p3, Iv p4, Iv p5, Iv 4, Iv y597, Iv y598, Iv y599, Iv y600, Rv b688, Rv b703, Iv (own_st (0 : Int32) y597), Uv] [(.int y598)])
        refine own_byH (fun _ k => XS.ifYes X706.here hx rfl (pc0 := 121) (pc' := 127) rfl (hb hby at_121) rfl ((if0 _ _).trans (feq hc121_721).2) (by decide) (by decide) k) ?_
        exact J127_718 ((own_st (0 : Int32) y597)) (if_neg hc121_721).symm
    show own_FinH _ _ _ _ _ _ _ _ _ _ T706 (mkF m 97 #[Iv p1, Iv p2, Iv p3, Iv p4, Iv p5, Iv 4, Iv y597, Iv y598, Iv y599, Iv y600, Rv b688, Rv b703, Uv, Uv] [])
    refine own_byH (fun _ k => XS.iconst X706.here hx rfl (hb hby at_97) (XS.istore X706.here hx rfl (hb hby at_98) rfl (l' := #[Iv p1, Iv p2, Iv p3, Iv p4, Iv p5, Iv 4, Iv y597, Iv y598, Iv y599, Iv y600, Rv b688, Rv b703, Iv 0, Uv]) rfl (XS.iload X706.here hx rfl (hb hby at_100) rfl (XS.ifNo X706.here hx rfl (hb hby at_102) rfl ((if0 _ _).trans (tlt (by decide : (0 : Int32) < (4 : Int32))).2.2.2) (XS.iload X706.here hx rfl (hb hby at_105) rfl k))))) ?_
    show own_FinH _ _ _ _ _ _ _ _ _ _ T706 (mkF m 107 #[Iv p1, Iv p2, Iv p3, Iv p4, Iv p5, Iv 4, Iv y597, Iv y598, Iv y599, Iv y600, Rv b688, Rv b703, Iv 0, Uv] [(.int y597)])
    by_cases hc107_722 : y597 = (0 : Int32)
    · show own_FinH _ _ _ _ _ _ _ _ _ _ T706 (mkF m 107 #[Iv p1, Iv p2, Iv p3, Iv p4, Iv p5, Iv 4, Iv y597, Iv y598, Iv y599, Iv y600, Rv b688, Rv b703, Iv 0, Uv] [(.int y597)])
      refine own_byH (fun _ k => XS.ifNo X706.here hx rfl (hb hby at_107) rfl ((if0 _ _).trans (teq hc107_722).2) (XS.iconst X706.here hx rfl (hb hby at_110) (XS.istore X706.here hx rfl (hb hby at_111) rfl (l' := #[Iv p1, Iv p2, Iv p3, Iv p4, Iv p5, Iv 4, Iv y597, Iv y598, Iv y599, Iv y600, Rv b688, Rv b703, Iv 1, Uv]) rfl k))) ?_
      exact J113_720 ((1 : Int32)) (if_pos hc107_722).symm
    · show own_FinH _ _ _ _ _ _ _ _ _ _ T706 (mkF m 107 #[Iv p1, Iv p2, Iv p3, Iv p4, Iv p5, Iv 4, Iv y597, Iv y598, Iv y599, Iv y600, Rv b688, Rv b703, Iv 0, Uv] [(.int y597)])
      refine own_byH (fun _ k => XS.ifYes X706.here hx rfl (pc0 := 107) (pc' := 113) rfl (hb hby at_107) rfl ((if0 _ _).trans (feq hc107_722).2) (by decide) (by decide) k) ?_
      exact J113_720 ((0 : Int32)) (if_neg hc107_722).symm
set_option maxRecDepth 65536 in
set_option maxHeartbeats 40000000 in
theorem comes_1 {Post : Tables → Env → Array Value → State → Outcome → State → Prop} (hpost : ∀ tb e args s v u, (limb_1_1.after args s (.returned v) u = true ∧ limb_1_2.after args s (.returned v) u = true ∧ True) → ReturnedEndW s (.returned v) u (Jvm.fieldLocs frame_1_writes args s ++ Jvm.arrayLocs frame_1_arrays args s ++ Jvm.staticLocs frame_1_statics s) 24 1152 → Post tb e args s (.returned v) u) :
    ArmFor flags0 classFile x code maxLocals ret World_1 tables_1 room_1 Calls_1 rest_1 Pre_1 Post := by
  intro l hfl _ _ p e ha hc hk s m args below hf hA hF happ hP
  obtain ⟨hcalls, hrest, hpre⟩ := hP
  obtain ⟨-, -, -, hnamed, -, -, -, hat⟩ := (Spec.applies_iff hf).mp happ
  obtain ⟨hg, hn⟩ := and_e (Cond.before_iff.mp (show (Jvm.Cond.and given_1 narrow_1).before args s = true from hpre))
  obtain ⟨gc, gr0⟩ := and_e hg
  obtain ⟨ga0, gr1⟩ := and_e gr0
  obtain ⟨ga1, gr2⟩ := and_e gr1
  obtain ⟨ga2, gr3⟩ := and_e gr2
  obtain ⟨ga3, gr4⟩ := and_e gr3
  obtain ⟨w0, w1, w2, w3, w4, rfl⟩ : ∃ w0 w1 w2 w3 w4 : Value, args = #[w0, w1, w2, w3, w4] := by
    have hs : args.size = 5 := by simpa [Cond.value, given_1] using gc
    obtain ⟨L⟩ := args
    match L, hs with
    | [w0, w1, w2, w3, w4], _ => exact ⟨w0, w1, w2, w3, w4, rfl⟩
  have hw := fun d (hd : d ∈ tables_1) => atoms_spec (ws := Jvm.Cond.code x code maxLocals ret :: tables_1) hat d (List.mem_cons_of_mem _ hd)
  obtain ⟨hsets, hown0⟩ := atoms_of _ (rest_1_c_eq ▸ (show rest_1_c.before _ s = true from hrest))
  have hr0 := Cond.before_iff.mp hown0
  have hfit : Fit s := fun {y c} hc i hi => by
    obtain ⟨ha, rfl⟩ := Array.getElem?_eq_some_iff.mp hc
    have q := List.all_eq_true.mp ((Array.all_eq_true_iff_forall_mem.mp hF) _ (Array.getElem_mem ha)) i (List.mem_range.mpr hi)
    simpa [Array.getElem?_eq_getElem hi] using q
  obtain ⟨i0, ei0⟩ := is_v ga0
  obtain rfl : w0 = (.int i0) := Option.some.inj ei0
  obtain ⟨i1, ei1⟩ := is_v ga1
  obtain rfl : w1 = (.int i1) := Option.some.inj ei1
  obtain ⟨i2, ei2⟩ := is_v ga2
  obtain rfl : w2 = (.int i2) := Option.some.inj ei2
  obtain ⟨i3, ei3⟩ := is_v ga3
  obtain rfl : w3 = (.int i3) := Option.some.inj ei3
  obtain ⟨i4, ei4⟩ := is_v gr4
  obtain rfl : w4 = (.int i4) := Option.some.inj ei4
  have n5 := not_v (Cond.before_iff.mp (hsets _ (List.mem_of_getElem? (i := 2) rfl)))
  obtain ⟨cs, ecs⟩ := is_v (Cond.before_iff.mp (hsets _ (List.mem_of_getElem? (i := 1) rfl)))
  have S12 : Sta s s.heap "java/lang/String" "COMPACT_STRINGS" "Z" (.int cs) := Sta.start ecs (Or.inl (hsets _ (List.mem_of_getElem? (i := 0) rfl)))
  have c17 : ¬ (cs = (0 : Int32)) := gotF (Cond.eq_ints ecs (Term.int_eval (0))) n5
  have hCH : CHv s consts_1 s.vm s.heap := CHv.start (own_EW hw) (fun p hp => hcalls.1 p hp) (hsets _ (List.mem_of_getElem? (i := 2) rfl)) (own_g hw 20 rfl) (own_g hw 7 rfl)
  obtain ⟨gS, eg, hgr⟩ := isR_v (Cond.before_iff.mp (hsets _ (List.mem_of_getElem? (i := 8) rfl)))
  have env : own_Env s cs gS := ⟨Sta.start (eqv_i (Term.int_eval (1)) (Cond.before_iff.mp (hsets _ (List.mem_of_getElem? (i := 12) rfl)))) (Or.inl (hsets _ (List.mem_of_getElem? (i := 11) rfl))), Sta.start (eqv_i (Term.int_eval (0)) (Cond.before_iff.mp (hsets _ (List.mem_of_getElem? (i := 15) rfl)))) (Or.inl (hsets _ (List.mem_of_getElem? (i := 14) rfl))), Sta.start (eqv_i (Term.int_eval (8)) (Cond.before_iff.mp (hsets _ (List.mem_of_getElem? (i := 18) rfl)))) (Or.inl (hsets _ (List.mem_of_getElem? (i := 17) rfl))), S12, c17, Sta.start eg (Or.inl (hsets _ (List.mem_of_getElem? (i := 7) rfl))), hgr⟩
  obtain ⟨n, o, h1, h2, h3, _, L, rfl, ⟨rfl, N⟩, -, hq⟩ := rm0 l s _ hw tables_1 i0 i1 i2 i3 i4 cs gS s.heap s.heap.size (Nat.le_refl _) env (Old.start s) p e ha hc hk s m _ below hf ((Spec.applies_iff_loose hf).mp happ).1 ⟨rfl, State.Warmed39.refl s, rfl, hCH⟩ trivial
  refine ⟨n, _, h1, h2, h3, hpost _ _ _ _ _ _ ⟨Cond.after_iff.mpr rfl, Cond.after_iff.mpr (eq_i res_at (Term.int_eval (1)) rfl), trivial⟩ ⟨hq.1, hq.2.1, hq.2.2.1, (hq.2.2.2.sift fun y hy => Or.inr (N y hy)).mono (by decide) (by decide)⟩⟩
theorem main_1_1 : Claimed_1_1 := comes_1 fun _ _ _ _ _ _ h hF => ⟨h.1, hF⟩
theorem main_1_2 : Claimed_1_2 := comes_1 fun _ _ _ _ _ _ h hF => ⟨h.2.1, hF⟩
end Jvm.Pilot.@@N@@
namespace Jvm.Pilot.@@N@@
open Jvm Jvm.ClassFile Sem Op Lib Jvm.Free Jvm.Stand Jvm.Pilot.@@N@@.Jvm.D
/-! MADE BY PROGRAM (witnessworld.py) out of the Statement's table words and the real class files: 21 classes; the members and pool entries that the words name. The judged class is class 1, her method 2. -/
namespace start1
open Jvm.ClassFile
def u (s : String) : CpInfo := .utf8 (stringToUtf16 s)
/-- a pool by its gaps: so many unusable entries, then the entry; so many at the end -/
def gap : Nat → List CpInfo → List CpInfo
  | 0, r => r
  | n + 1, r => .unusable :: gap n r
def poolList (es : List (Nat × CpInfo)) (last : Nat) : List CpInfo := es.foldr (fun e r => gap e.1 (e.2 :: r)) (gap last [])
def pool (es : List (Nat × CpInfo)) (last : Nat) : Array CpInfo := ⟨poolList es last⟩
def fileOf (pool : Array CpInfo) (this : Nat) (attrs : Array Attribute := #[]) (ms : Array MethodInfo := #[]) (fl : Nat := 33) (sup : Nat := 0) (ifs : Array Nat := #[]) (fds : Array FieldInfo := #[]) : ClassFile where
  minorVersion := 0
  majorVersion := 65
  constantPool := pool
  accessFlags := fl
  thisClass := this
  superClass := sup
  interfaces := ifs
  fields := fds
  methods := ms
  attributes := attrs
def plain (name : String) (sup : Option ClassId) : Class where
  name := name
  kind := .ordinary
  loader := none
  accessFlags := 33
  super := sup
  interfaces := #[]
  cf := none
  fields := #[]
  methods := #[]
  instanceTypes := #[]
  staticTypes := #[]
  resolved := #[]
  callSites := []
  init := .initialized
  statics := none
  mirror := none

def pool0 : Array CpInfo := pool [(5, u "<init>"), (0, u "()V"), (1, .class_ 10), (1, u "java/lang/Object")] 113

def k0c0 : Code := { maxStack := 0, maxLocals := 1, code := object_method_1_code, exceptionTable := #[], attributes := #[] }
def k0m0 : Method := { name := "<init>", desc := "()V", sig := { parameters := [], returnType := none }, accessFlags := 1, code := some k0c0 }
/-- java/lang/Object -/
def k0 : Class := { plain "java/lang/Object" none with
  accessFlags := 33
  interfaces := #[]
  cf := some (fileOf pool0 8 #[] #[{ accessFlags := 1, nameIndex := 5, descriptorIndex := 6, attributes := #[] }] 33 0 #[] #[])
  fields := #[]
  methods := #[k0m0]
  instanceTypes := #[]
  staticTypes := #[]
  resolved := Array.replicate 124 none
  statics := none }

def pool1 : Array CpInfo := pool [(2, .class_ 4), (1, u "java/lang/Object"), (0, u "<init>"), (0, u "()V"), (0, .integer 65535), (0, .integer 2147483647), (0, .methodref 10 11), (0, .class_ 12), (0, .nameAndType 13 14), (0, u "com/example/munka/munka/model/NulFreeIsPinLaw"), (0, u "draw"), (0, u "(I)C"), (0, .class_ 16), (0, u "java/lang/String"), (0, .methodref 15 18), (0, .nameAndType 5 19), (0, u "([C)V"), (0, .methodref 21 22), (0, .class_ 23), (0, .nameAndType 24 25), (0, u "com/example/munka/munka/model/NulFree"), (0, u "is"), (0, u "(Ljava/lang/String;)Z"), (3, u "law"), (0, u "(IIIII)Z")] 4

def k1m0 : Method := { name := "<init>", desc := "()V", sig := { parameters := [], returnType := none }, accessFlags := 2, code := none }
def k1c1 : Code := { maxStack := 2, maxLocals := 1, code := method_2_code, exceptionTable := #[], attributes := #[] }
def k1m1 : Method := { name := "draw", desc := "(I)C", sig := { parameters := [.int], returnType := some .char }, accessFlags := 10, code := some k1c1 }
def k1c2 : Code := { maxStack := 3, maxLocals := 14, code := code, exceptionTable := #[], attributes := #[] }
def k1m2 : Method := { name := "law", desc := "(IIIII)Z", sig := { parameters := [.int, .int, .int, .int, .int], returnType := some .boolean }, accessFlags := 9, code := some k1c2 }
/-- com/example/munka/munka/model/NulFreeIsPinLaw -/
def k1 : Class := { plain "com/example/munka/munka/model/NulFreeIsPinLaw" (some 0) with
  accessFlags := 49
  interfaces := #[]
  cf := some (fileOf pool1 10 #[] #[{ accessFlags := 2, nameIndex := 5, descriptorIndex := 6, attributes := #[] }, { accessFlags := 10, nameIndex := 13, descriptorIndex := 14, attributes := #[] }, { accessFlags := 9, nameIndex := 29, descriptorIndex := 30, attributes := #[] }] 49 2 #[] #[])
  fields := #[]
  methods := #[k1m0, k1m1, k1m2]
  instanceTypes := #[]
  staticTypes := #[]
  resolved := Array.replicate 35 none
  statics := none }

def pool2 : Array CpInfo := pool [(1, .class_ 2), (0, u "java/io/Serializable"), (0, .class_ 4), (0, u "java/lang/Object")] 2

/-- java/io/Serializable -/
def k2 : Class := { plain "java/io/Serializable" (some 0) with
  accessFlags := 1537
  interfaces := #[]
  cf := some (fileOf pool2 1 #[] #[] 1537 3 #[] #[])
  fields := #[]
  methods := #[]
  instanceTypes := #[]
  staticTypes := #[]
  resolved := Array.replicate 7 none
  statics := none }

def pool3 : Array CpInfo := pool [(1, .class_ 2), (0, u "java/lang/Comparable"), (0, .class_ 4), (0, u "java/lang/Object")] 7

/-- java/lang/Comparable -/
def k3 : Class := { plain "java/lang/Comparable" (some 0) with
  accessFlags := 1537
  interfaces := #[]
  cf := some (fileOf pool3 1 #[] #[] 1537 3 #[] #[])
  fields := #[]
  methods := #[]
  instanceTypes := #[]
  staticTypes := #[]
  resolved := Array.replicate 12 none
  statics := none }

def pool4 : Array CpInfo := pool [(2, .class_ 4), (1, u "java/lang/CharSequence"), (42, .class_ 48), (0, u "java/lang/CharSequence$1CodePointIterator"), (10, .class_ 60), (0, u "java/lang/CharSequence$1CharIterator"), (5, .class_ 67), (0, u "java/lang/Object")] 63

/-- java/lang/CharSequence -/
def k4 : Class := { plain "java/lang/CharSequence" (some 0) with
  accessFlags := 1537
  interfaces := #[]
  cf := some (fileOf pool4 2 #[.nestMembers #[47, 59]] #[] 1537 66 #[] #[])
  fields := #[]
  methods := #[]
  instanceTypes := #[]
  staticTypes := #[]
  resolved := Array.replicate 131 none
  statics := none }

def pool5 : Array CpInfo := pool [(1, .class_ 2), (0, u "java/lang/constant/Constable"), (0, .class_ 4), (0, u "java/lang/Object")] 6

/-- java/lang/constant/Constable -/
def k5 : Class := { plain "java/lang/constant/Constable" (some 0) with
  accessFlags := 1537
  interfaces := #[]
  cf := some (fileOf pool5 1 #[] #[] 1537 3 #[] #[])
  fields := #[]
  methods := #[]
  instanceTypes := #[]
  staticTypes := #[]
  resolved := Array.replicate 11 none
  statics := none }

def pool6 : Array CpInfo := pool [(1, .class_ 2), (0, u "java/lang/constant/ConstantDesc"), (0, .class_ 4), (0, u "java/lang/Object")] 32

/-- java/lang/constant/ConstantDesc -/
def k6 : Class := { plain "java/lang/constant/ConstantDesc" (some 0) with
  accessFlags := 1537
  interfaces := #[]
  cf := some (fileOf pool6 1 #[] #[] 1537 3 #[] #[])
  fields := #[]
  methods := #[]
  instanceTypes := #[]
  staticTypes := #[]
  resolved := Array.replicate 37 none
  statics := none }

def pool7 : Array CpInfo := pool [(1, .methodref 2 3), (0, .class_ 4), (0, .nameAndType 5 6), (0, u "java/lang/Object"), (0, u "<init>"), (0, u "()V"), (0, .string 8), (0, u ""), (0, .fieldref 10 11), (0, .class_ 12), (0, .nameAndType 13 14), (0, u "java/lang/String"), (0, u "value"), (0, u "[B"), (0, .fieldref 10 16), (0, .nameAndType 17 18), (0, u "coder"), (0, u "B"), (2, u "hash"), (0, u "I"), (2, u "hashIsZero"), (0, u "Z"), (0, .methodref 10 28), (0, .nameAndType 5 29), (0, u "([CIILjava/lang/Void;)V"), (8, .fieldref 10 39), (0, .nameAndType 40 26), (0, u "COMPACT_STRINGS"), (1, .class_ 44), (1, u "java/lang/StringUTF16"), (0, u "compress"), (1, .methodref 42 48), (0, .nameAndType 49 50), (0, u "coderFromArrayLen"), (0, u "([BI)B"), (56, .class_ 109), (1, u "java/lang/StringLatin1"), (32, u "()Z"), (34, .methodref 42 178), (0, .nameAndType 45 179), (0, u "([CII)[B"), (154, u "()I"), (0, .methodref 10 336), (0, .nameAndType 17 337), (0, u "()B"), (154, .methodref 10 493), (0, .nameAndType 494 142), (0, u "isLatin1"), (10, .methodref 10 506), (0, .nameAndType 507 334), (0, u "length"), (5, u "checkFromToIndex"), (9, u "checkBoundsBeginEnd"), (0, u "(III)V"), (50, .class_ 576), (0, u "java/lang/CharSequence"), (22, u "CASE_INSENSITIVE_ORDER"), (0, u "Ljava/util/Comparator;"), (32, .methodref 10 634), (0, .nameAndType 635 636), (0, u "indexOf"), (0, u "(II)I"), (0, .methodref 107 638), (0, .nameAndType 635 639), (0, u "([BIII)I"), (0, .methodref 42 638), (124, u "(I)I"), (244, u "([C)V"), (42, .fieldref 1054 1055), (0, .class_ 1056), (0, .nameAndType 1057 1058), (0, u "jdk/internal/util/Preconditions"), (0, u "SIOOBE_FORMATTER"), (0, u "Ljava/util/function/BiFunction;"), (3, .methodref 1054 1063), (0, .nameAndType 513 1064), (0, u "(IIILjava/util/function/BiFunction;)I"), (36, u "serialPersistentFields"), (0, u "[Ljava/io/ObjectStreamField;"), (0, .class_ 1104), (0, u "java/lang/String$CaseInsensitiveComparator"), (1, .class_ 1107), (0, u "java/io/Serializable"), (0, .class_ 1109), (0, u "java/lang/Comparable"), (0, .class_ 1111), (0, u "java/lang/constant/Constable"), (0, .class_ 1113), (0, u "java/lang/constant/ConstantDesc"), (2, u "serialVersionUID"), (0, u "J"), (3, u "REPL"), (0, u "C"), (2, u "LATIN1"), (1, u "UTF16")] 323

def k7m0 : Method := { name := "<init>", desc := "()V", sig := { parameters := [], returnType := none }, accessFlags := 1, code := none }
def k7c1 : Code := { maxStack := 5, maxLocals := 2, code := jdk_42_method_3_code, exceptionTable := #[], attributes := #[] }
def k7m1 : Method := { name := "<init>", desc := "([C)V", sig := { parameters := [(.array .char)], returnType := none }, accessFlags := 1, code := some k7c1 }
def k7c2 : Code := { maxStack := 2, maxLocals := 1, code := jdk_42_method_54_code, exceptionTable := #[], attributes := #[] }
def k7m2 : Method := { name := "length", desc := "()I", sig := { parameters := [], returnType := some .int }, accessFlags := 1, code := some k7c2 }
def k7c3 : Code := { maxStack := 3, maxLocals := 2, code := jdk_42_method_79_code, exceptionTable := #[], attributes := #[] }
def k7m3 : Method := { name := "indexOf", desc := "(I)I", sig := { parameters := [.int], returnType := some .int }, accessFlags := 1, code := some k7c3 }
def k7c4 : Code := { maxStack := 4, maxLocals := 3, code := jdk_42_method_80_code, exceptionTable := #[], attributes := #[] }
def k7m4 : Method := { name := "indexOf", desc := "(II)I", sig := { parameters := [.int, .int], returnType := some .int }, accessFlags := 1, code := some k7c4 }
def k7c5 : Code := { maxStack := 4, maxLocals := 6, code := jdk_42_method_149_code, exceptionTable := #[], attributes := #[] }
def k7m5 : Method := { name := "<init>", desc := "([CIILjava/lang/Void;)V", sig := { parameters := [(.array .char), .int, .int, (.object "java/lang/Void")], returnType := none }, accessFlags := 2, code := some k7c5 }
def k7c6 : Code := { maxStack := 1, maxLocals := 1, code := jdk_42_method_152_code, exceptionTable := #[], attributes := #[] }
def k7m6 : Method := { name := "coder", desc := "()B", sig := { parameters := [], returnType := some .byte }, accessFlags := 0, code := some k7c6 }
def k7c7 : Code := { maxStack := 1, maxLocals := 1, code := jdk_42_method_154_code, exceptionTable := #[], attributes := #[] }
def k7m7 : Method := { name := "isLatin1", desc := "()Z", sig := { parameters := [], returnType := some .boolean }, accessFlags := 0, code := some k7c7 }
def k7c8 : Code := { maxStack := 4, maxLocals := 3, code := jdk_42_method_158_code, exceptionTable := #[], attributes := #[] }
def k7m8 : Method := { name := "checkBoundsBeginEnd", desc := "(III)V", sig := { parameters := [.int, .int, .int], returnType := none }, accessFlags := 8, code := some k7c8 }
/-- java/lang/String -/
def k7 : Class := { plain "java/lang/String" (some 0) with
  accessFlags := 49
  interfaces := #[2, 3, 4, 5, 6]
  cf := some (fileOf pool7 10 #[.nestMembers #[1103]] #[{ accessFlags := 1, nameIndex := 5, descriptorIndex := 6, attributes := #[] }, { accessFlags := 1, nameIndex := 5, descriptorIndex := 1010, attributes := #[] }, { accessFlags := 1, nameIndex := 507, descriptorIndex := 334, attributes := #[] }, { accessFlags := 1, nameIndex := 635, descriptorIndex := 765, attributes := #[] }, { accessFlags := 1, nameIndex := 635, descriptorIndex := 636, attributes := #[] }, { accessFlags := 2, nameIndex := 5, descriptorIndex := 29, attributes := #[] }, { accessFlags := 0, nameIndex := 17, descriptorIndex := 337, attributes := #[] }, { accessFlags := 0, nameIndex := 494, descriptorIndex := 142, attributes := #[] }, { accessFlags := 8, nameIndex := 523, descriptorIndex := 524, attributes := #[] }] 49 2 #[1106, 1108, 575, 1110, 1112] #[{ accessFlags := 18, nameIndex := 13, descriptorIndex := 14, attributes := #[] }, { accessFlags := 18, nameIndex := 17, descriptorIndex := 18, attributes := #[] }, { accessFlags := 2, nameIndex := 21, descriptorIndex := 22, attributes := #[] }, { accessFlags := 2, nameIndex := 25, descriptorIndex := 26, attributes := #[] }, { accessFlags := 26, nameIndex := 1116, descriptorIndex := 1117, attributes := #[] }, { accessFlags := 24, nameIndex := 40, descriptorIndex := 26, attributes := #[] }, { accessFlags := 26, nameIndex := 1101, descriptorIndex := 1102, attributes := #[] }, { accessFlags := 26, nameIndex := 1121, descriptorIndex := 1122, attributes := #[] }, { accessFlags := 25, nameIndex := 599, descriptorIndex := 600, attributes := #[] }, { accessFlags := 24, nameIndex := 1125, descriptorIndex := 18, attributes := #[] }, { accessFlags := 24, nameIndex := 1127, descriptorIndex := 18, attributes := #[] }])
  fields := #[{ name := "value", type := (.array .byte), accessFlags := 18, slot := 0, constantValue := 0 }, { name := "coder", type := .byte, accessFlags := 18, slot := 1, constantValue := 0 }, { name := "hash", type := .int, accessFlags := 2, slot := 2, constantValue := 0 }, { name := "hashIsZero", type := .boolean, accessFlags := 2, slot := 3, constantValue := 0 }, { name := "serialVersionUID", type := .long, accessFlags := 26, slot := 0, constantValue := 0 }, { name := "COMPACT_STRINGS", type := .boolean, accessFlags := 24, slot := 1, constantValue := 0 }, { name := "serialPersistentFields", type := (.array (.object "java/io/ObjectStreamField")), accessFlags := 26, slot := 2, constantValue := 0 }, { name := "REPL", type := .char, accessFlags := 26, slot := 3, constantValue := 0 }, { name := "CASE_INSENSITIVE_ORDER", type := (.object "java/util/Comparator"), accessFlags := 25, slot := 4, constantValue := 0 }, { name := "LATIN1", type := .byte, accessFlags := 24, slot := 5, constantValue := 0 }, { name := "UTF16", type := .byte, accessFlags := 24, slot := 6, constantValue := 0 }]
  methods := #[k7m0, k7m1, k7m2, k7m3, k7m4, k7m5, k7m6, k7m7, k7m8]
  instanceTypes := #[(.array .byte), .byte, .int, .boolean]
  staticTypes := #[.long, .boolean, (.array (.object "java/io/ObjectStreamField")), .char, (.object "java/util/Comparator"), .byte, .byte]
  resolved := Array.replicate 1451 none
  statics := some 0 }

def pool8 : Array CpInfo := pool [(2, .class_ 4), (1, u "java/lang/Object"), (0, u "<init>"), (0, u "()V"), (0, .methodref 8 9), (0, .class_ 10), (0, .nameAndType 11 12), (0, u "java/lang/String"), (0, u "indexOf"), (0, u "(I)I"), (0, .class_ 14), (0, u "com/example/munka/munka/model/NulFree"), (2, u "is"), (0, u "(Ljava/lang/String;)Z")] 3

def k8m0 : Method := { name := "<init>", desc := "()V", sig := { parameters := [], returnType := none }, accessFlags := 2, code := none }
def k8c1 : Code := { maxStack := 2, maxLocals := 1, code := prog_26_method_2_code, exceptionTable := #[], attributes := #[] }
def k8m1 : Method := { name := "is", desc := "(Ljava/lang/String;)Z", sig := { parameters := [(.object "java/lang/String")], returnType := some .boolean }, accessFlags := 9, code := some k8c1 }
/-- com/example/munka/munka/model/NulFree -/
def k8 : Class := { plain "com/example/munka/munka/model/NulFree" (some 0) with
  accessFlags := 49
  interfaces := #[]
  cf := some (fileOf pool8 13 #[] #[{ accessFlags := 2, nameIndex := 5, descriptorIndex := 6, attributes := #[] }, { accessFlags := 9, nameIndex := 17, descriptorIndex := 18, attributes := #[] }] 49 2 #[] #[])
  fields := #[]
  methods := #[k8m0, k8m1]
  instanceTypes := #[]
  staticTypes := #[]
  resolved := Array.replicate 22 none
  statics := none }

def pool9 : Array CpInfo := pool [(4, .class_ 6), (1, u "java/lang/Object"), (0, u "<init>"), (0, u "()V"), (5, .class_ 16), (1, u "java/lang/StringLatin1"), (21, .methodref 39 40), (0, .class_ 41), (0, .nameAndType 42 43), (0, u "java/lang/Math"), (0, u "min"), (0, u "(II)I"), (44, .methodref 14 89), (0, .nameAndType 90 91), (0, u "canEncode"), (0, u "(I)Z"), (0, .methodref 39 93), (0, .nameAndType 94 43), (0, u "max"), (0, .methodref 14 96), (0, .nameAndType 97 98), (0, u "indexOfChar"), (0, u "([BIII)I"), (2, u "indexOf"), (19, u "$assertionsDisabled"), (0, u "Z"), (98, .class_ 223), (1, u "java/lang/StringLatin1$LinesSpliterator"), (166, .class_ 391), (0, u "java/lang/StringLatin1$CharsSpliterator")] 3

def k9m0 : Method := { name := "<init>", desc := "()V", sig := { parameters := [], returnType := none }, accessFlags := 0, code := none }
def k9c1 : Code := { maxStack := 2, maxLocals := 1, code := jdk_43_method_4_code, exceptionTable := #[], attributes := #[] }
def k9m1 : Method := { name := "canEncode", desc := "(I)Z", sig := { parameters := [.int], returnType := some .boolean }, accessFlags := 9, code := some k9c1 }
def k9c2 : Code := { maxStack := 4, maxLocals := 4, code := jdk_43_method_22_code, exceptionTable := #[], attributes := #[] }
def k9m2 : Method := { name := "indexOf", desc := "([BIII)I", sig := { parameters := [(.array .byte), .int, .int, .int], returnType := some .int }, accessFlags := 9, code := some k9c2 }
def k9c3 : Code := { maxStack := 2, maxLocals := 6, code := jdk_43_method_23_code, exceptionTable := #[], attributes := #[] }
def k9m3 : Method := { name := "indexOfChar", desc := "([BIII)I", sig := { parameters := [(.array .byte), .int, .int, .int], returnType := some .int }, accessFlags := 10, code := some k9c3 }
/-- java/lang/StringLatin1 -/
def k9 : Class := { plain "java/lang/StringLatin1" (some 0) with
  accessFlags := 48
  interfaces := #[]
  cf := some (fileOf pool9 14 #[.nestMembers #[390, 221]] #[{ accessFlags := 0, nameIndex := 7, descriptorIndex := 8, attributes := #[] }, { accessFlags := 9, nameIndex := 90, descriptorIndex := 91, attributes := #[] }, { accessFlags := 9, nameIndex := 101, descriptorIndex := 98, attributes := #[] }, { accessFlags := 10, nameIndex := 97, descriptorIndex := 98, attributes := #[] }] 48 4 #[] #[{ accessFlags := 4120, nameIndex := 121, descriptorIndex := 122, attributes := #[] }])
  fields := #[{ name := "$assertionsDisabled", type := .boolean, accessFlags := 4120, slot := 0, constantValue := 0 }]
  methods := #[k9m0, k9m1, k9m2, k9m3]
  instanceTypes := #[]
  staticTypes := #[.boolean]
  resolved := Array.replicate 395 none
  statics := none }

def pool10 : Array CpInfo := pool [(1, .class_ 2), (0, u "java/lang/Math"), (1, .class_ 6), (1, u "java/lang/Object"), (0, u "<init>"), (0, u "()V"), (89, .class_ 100), (1, u "java/lang/Math$RandomNumberGeneratorHolder"), (71, u "negativeZeroFloatBits"), (0, u "J"), (2, u "negativeZeroDoubleBits"), (21, u "max"), (2, u "min"), (43, u "$assertionsDisabled"), (0, u "Z"), (88, u "(II)I"), (2, u "twoToTheDoubleScaleDown"), (0, u "D"), (4, u "twoToTheDoubleScaleUp"), (9, u "E"), (3, u "PI"), (2, u "TAU"), (2, u "DEGREES_TO_RADIANS"), (0, u "RADIANS_TO_DEGREES")] 94

def k10m0 : Method := { name := "<init>", desc := "()V", sig := { parameters := [], returnType := none }, accessFlags := 2, code := none }
def k10c1 : Code := { maxStack := 2, maxLocals := 2, code := jdk_29_method_65_code, exceptionTable := #[], attributes := #[] }
def k10m1 : Method := { name := "max", desc := "(II)I", sig := { parameters := [.int, .int], returnType := some .int }, accessFlags := 9, code := some k10c1 }
def k10c2 : Code := { maxStack := 2, maxLocals := 2, code := jdk_29_method_69_code, exceptionTable := #[], attributes := #[] }
def k10m2 : Method := { name := "min", desc := "(II)I", sig := { parameters := [.int, .int], returnType := some .int }, accessFlags := 9, code := some k10c2 }
/-- java/lang/Math -/
def k10 : Class := { plain "java/lang/Math" (some 0) with
  accessFlags := 49
  interfaces := #[]
  cf := some (fileOf pool10 1 #[.nestMembers #[98]] #[{ accessFlags := 2, nameIndex := 7, descriptorIndex := 8, attributes := #[] }, { accessFlags := 9, nameIndex := 198, descriptorIndex := 335, attributes := #[] }, { accessFlags := 9, nameIndex := 201, descriptorIndex := 335, attributes := #[] }] 49 4 #[] #[{ accessFlags := 25, nameIndex := 354, descriptorIndex := 339, attributes := #[] }, { accessFlags := 25, nameIndex := 358, descriptorIndex := 339, attributes := #[] }, { accessFlags := 25, nameIndex := 361, descriptorIndex := 339, attributes := #[] }, { accessFlags := 26, nameIndex := 364, descriptorIndex := 339, attributes := #[] }, { accessFlags := 26, nameIndex := 365, descriptorIndex := 339, attributes := #[] }, { accessFlags := 26, nameIndex := 172, descriptorIndex := 173, attributes := #[] }, { accessFlags := 26, nameIndex := 176, descriptorIndex := 173, attributes := #[] }, { accessFlags := 8, nameIndex := 344, descriptorIndex := 339, attributes := #[] }, { accessFlags := 8, nameIndex := 338, descriptorIndex := 339, attributes := #[] }, { accessFlags := 4120, nameIndex := 245, descriptorIndex := 246, attributes := #[] }])
  fields := #[{ name := "E", type := .double, accessFlags := 25, slot := 0, constantValue := 0 }, { name := "PI", type := .double, accessFlags := 25, slot := 1, constantValue := 0 }, { name := "TAU", type := .double, accessFlags := 25, slot := 2, constantValue := 0 }, { name := "DEGREES_TO_RADIANS", type := .double, accessFlags := 26, slot := 3, constantValue := 0 }, { name := "RADIANS_TO_DEGREES", type := .double, accessFlags := 26, slot := 4, constantValue := 0 }, { name := "negativeZeroFloatBits", type := .long, accessFlags := 26, slot := 5, constantValue := 0 }, { name := "negativeZeroDoubleBits", type := .long, accessFlags := 26, slot := 6, constantValue := 0 }, { name := "twoToTheDoubleScaleUp", type := .double, accessFlags := 8, slot := 7, constantValue := 0 }, { name := "twoToTheDoubleScaleDown", type := .double, accessFlags := 8, slot := 8, constantValue := 0 }, { name := "$assertionsDisabled", type := .boolean, accessFlags := 4120, slot := 9, constantValue := 0 }]
  methods := #[k10m0, k10m1, k10m2]
  instanceTypes := #[]
  staticTypes := #[.double, .double, .double, .double, .double, .long, .long, .double, .double, .boolean]
  resolved := Array.replicate 460 none
  statics := none }

def pool11 : Array CpInfo := pool [(3, .class_ 4), (0, u "java/lang/String"), (1, .class_ 8), (1, u "java/lang/Object"), (0, u "<init>"), (0, u "()V"), (0, .methodref 12 13), (0, .class_ 14), (0, .nameAndType 15 16), (0, u "java/lang/StringUTF16"), (0, u "newBytesLength"), (0, u "(I)I"), (3, .integer 1073741823), (23, .fieldref 12 45), (0, .nameAndType 46 47), (0, u "$assertionsDisabled"), (0, u "Z"), (0, .methodref 12 49), (0, .nameAndType 50 51), (0, u "length"), (0, u "([B)I"), (7, .fieldref 12 60), (0, .nameAndType 61 62), (0, u "HI_BYTE_SHIFT"), (0, u "I"), (0, .fieldref 12 64), (0, .nameAndType 65 62), (0, u "LO_BYTE_SHIFT"), (5, .methodref 12 72), (0, .nameAndType 73 74), (0, u "getChar"), (0, u "([BI)C"), (21, .methodref 12 97), (0, .nameAndType 98 99), (0, u "checkBoundsBeginEnd"), (0, u "(II[B)V"), (7, .methodref 12 108), (0, .nameAndType 109 110), (0, u "newBytesFor"), (0, u "(I)[B"), (0, .methodref 12 112), (0, .nameAndType 113 114), (0, u "putChar"), (0, u "([BII)V"), (0, .methodref 12 116), (0, .nameAndType 117 118), (0, u "compress"), (0, u "([CI[BII)I"), (0, .methodref 12 120), (0, .nameAndType 121 122), (0, u "toBytes"), (0, u "([CII)[B"), (60, .methodref 184 185), (0, .class_ 186), (0, .nameAndType 187 188), (0, u "java/lang/Math"), (0, u "min"), (0, u "(II)I"), (35, .methodref 184 225), (0, .nameAndType 226 188), (0, u "max"), (0, .integer 65536), (0, .methodref 12 229), (0, .nameAndType 230 231), (0, u "indexOfChar"), (0, u "([BIII)I"), (9, .methodref 3 242), (0, .nameAndType 98 243), (0, u "(III)V"), (0, .methodref 12 245), (0, .nameAndType 246 231), (0, u "indexOfCharUnsafe"), (14, u "coderFromArrayLen"), (0, u "([BI)B"), (5, u "indexOf"), (100, .class_ 371), (1, u "java/lang/StringUTF16$LinesSpliterator"), (58, u "MAX_LENGTH"), (196, .class_ 628), (0, u "java/lang/StringUTF16$CodePointsSpliterator"), (0, .class_ 630), (0, u "java/lang/StringUTF16$CharsSpliterator")] 4

def k11m0 : Method := { name := "<init>", desc := "()V", sig := { parameters := [], returnType := none }, accessFlags := 0, code := none }
def k11c1 : Code := { maxStack := 1, maxLocals := 1, code := jdk_52_method_2_code, exceptionTable := #[], attributes := #[] }
def k11m1 : Method := { name := "newBytesFor", desc := "(I)[B", sig := { parameters := [.int], returnType := some (.array .byte) }, accessFlags := 9, code := some k11c1 }
def k11c2 : Code := { maxStack := 4, maxLocals := 1, code := jdk_52_method_3_code, exceptionTable := #[], attributes := #[] }
def k11m2 : Method := { name := "newBytesLength", desc := "(I)I", sig := { parameters := [.int], returnType := some .int }, accessFlags := 9, code := some k11c2 }
def k11c3 : Code := { maxStack := 4, maxLocals := 3, code := jdk_52_method_4_code, exceptionTable := #[], attributes := #[] }
def k11m3 : Method := { name := "putChar", desc := "([BII)V", sig := { parameters := [(.array .byte), .int, .int], returnType := none }, accessFlags := 8, code := some k11c3 }
def k11c4 : Code := { maxStack := 3, maxLocals := 2, code := jdk_52_method_5_code, exceptionTable := #[], attributes := #[] }
def k11m4 : Method := { name := "getChar", desc := "([BI)C", sig := { parameters := [(.array .byte), .int], returnType := some .char }, accessFlags := 8, code := some k11c4 }
def k11c5 : Code := { maxStack := 2, maxLocals := 1, code := jdk_52_method_6_code, exceptionTable := #[], attributes := #[] }
def k11m5 : Method := { name := "length", desc := "([B)I", sig := { parameters := [(.array .byte)], returnType := some .int }, accessFlags := 9, code := some k11c5 }
def k11c6 : Code := { maxStack := 4, maxLocals := 5, code := jdk_52_method_14_code, exceptionTable := #[], attributes := #[] }
def k11m6 : Method := { name := "toBytes", desc := "([CII)[B", sig := { parameters := [(.array .char), .int, .int], returnType := some (.array .byte) }, accessFlags := 9, code := some k11c6 }
def k11c7 : Code := { maxStack := 2, maxLocals := 2, code := jdk_52_method_15_code, exceptionTable := #[], attributes := #[] }
def k11m7 : Method := { name := "coderFromArrayLen", desc := "([BI)B", sig := { parameters := [(.array .byte), .int], returnType := some .byte }, accessFlags := 8, code := some k11c7 }
def k11c8 : Code := { maxStack := 5, maxLocals := 6, code := jdk_52_method_16_code, exceptionTable := #[], attributes := #[] }
def k11m8 : Method := { name := "compress", desc := "([CII)[B", sig := { parameters := [(.array .char), .int, .int], returnType := some (.array .byte) }, accessFlags := 9, code := some k11c8 }
def k11c9 : Code := { maxStack := 3, maxLocals := 7, code := jdk_52_method_21_code, exceptionTable := #[], attributes := #[] }
def k11m9 : Method := { name := "compress", desc := "([CI[BII)I", sig := { parameters := [(.array .char), .int, (.array .byte), .int, .int], returnType := some .int }, accessFlags := 9, code := some k11c9 }
def k11c10 : Code := { maxStack := 4, maxLocals := 4, code := jdk_52_method_40_code, exceptionTable := #[], attributes := #[] }
def k11m10 : Method := { name := "indexOf", desc := "([BIII)I", sig := { parameters := [(.array .byte), .int, .int, .int], returnType := some .int }, accessFlags := 9, code := some k11c10 }
def k11c11 : Code := { maxStack := 4, maxLocals := 4, code := jdk_52_method_47_code, exceptionTable := #[], attributes := #[] }
def k11m11 : Method := { name := "indexOfChar", desc := "([BIII)I", sig := { parameters := [(.array .byte), .int, .int, .int], returnType := some .int }, accessFlags := 10, code := some k11c11 }
def k11c12 : Code := { maxStack := 2, maxLocals := 5, code := jdk_52_method_48_code, exceptionTable := #[], attributes := #[] }
def k11m12 : Method := { name := "indexOfCharUnsafe", desc := "([BIII)I", sig := { parameters := [(.array .byte), .int, .int, .int], returnType := some .int }, accessFlags := 10, code := some k11c12 }
def k11c13 : Code := { maxStack := 3, maxLocals := 3, code := jdk_52_method_93_code, exceptionTable := #[], attributes := #[] }
def k11m13 : Method := { name := "checkBoundsBeginEnd", desc := "(II[B)V", sig := { parameters := [.int, .int, (.array .byte)], returnType := none }, accessFlags := 9, code := some k11c13 }
/-- java/lang/StringUTF16 -/
def k11 : Class := { plain "java/lang/StringUTF16" (some 0) with
  accessFlags := 48
  interfaces := #[]
  cf := some (fileOf pool11 12 #[.nestMembers #[627, 629, 369]] #[{ accessFlags := 0, nameIndex := 9, descriptorIndex := 10, attributes := #[] }, { accessFlags := 9, nameIndex := 109, descriptorIndex := 110, attributes := #[] }, { accessFlags := 9, nameIndex := 15, descriptorIndex := 16, attributes := #[] }, { accessFlags := 8, nameIndex := 113, descriptorIndex := 114, attributes := #[] }, { accessFlags := 8, nameIndex := 73, descriptorIndex := 74, attributes := #[] }, { accessFlags := 9, nameIndex := 50, descriptorIndex := 51, attributes := #[] }, { accessFlags := 9, nameIndex := 121, descriptorIndex := 122, attributes := #[] }, { accessFlags := 8, nameIndex := 261, descriptorIndex := 262, attributes := #[] }, { accessFlags := 9, nameIndex := 117, descriptorIndex := 122, attributes := #[] }, { accessFlags := 9, nameIndex := 117, descriptorIndex := 118, attributes := #[] }, { accessFlags := 9, nameIndex := 268, descriptorIndex := 231, attributes := #[] }, { accessFlags := 10, nameIndex := 230, descriptorIndex := 231, attributes := #[] }, { accessFlags := 10, nameIndex := 246, descriptorIndex := 231, attributes := #[] }, { accessFlags := 9, nameIndex := 98, descriptorIndex := 99, attributes := #[] }] 48 6 #[] #[{ accessFlags := 26, nameIndex := 61, descriptorIndex := 62, attributes := #[] }, { accessFlags := 26, nameIndex := 65, descriptorIndex := 62, attributes := #[] }, { accessFlags := 24, nameIndex := 430, descriptorIndex := 62, attributes := #[] }, { accessFlags := 4120, nameIndex := 46, descriptorIndex := 47, attributes := #[] }])
  fields := #[{ name := "HI_BYTE_SHIFT", type := .int, accessFlags := 26, slot := 0, constantValue := 0 }, { name := "LO_BYTE_SHIFT", type := .int, accessFlags := 26, slot := 1, constantValue := 0 }, { name := "MAX_LENGTH", type := .int, accessFlags := 24, slot := 2, constantValue := 0 }, { name := "$assertionsDisabled", type := .boolean, accessFlags := 4120, slot := 3, constantValue := 0 }]
  methods := #[k11m0, k11m1, k11m2, k11m3, k11m4, k11m5, k11m6, k11m7, k11m8, k11m9, k11m10, k11m11, k11m12, k11m13]
  instanceTypes := #[]
  staticTypes := #[.int, .int, .int, .boolean]
  resolved := Array.replicate 635 none
  statics := some 1 }

def pool12 : Array CpInfo := pool [(2, .class_ 4), (1, u "java/lang/Object"), (0, u "<init>"), (0, u "()V"), (17, .class_ 26), (1, u "jdk/internal/util/Preconditions"), (20, u "checkFromToIndex"), (7, .class_ 56), (0, u "jdk/internal/util/Preconditions$4"), (57, .class_ 115), (0, u "jdk/internal/util/Preconditions$1"), (7, u "SIOOBE_FORMATTER"), (0, u "Ljava/util/function/BiFunction;"), (0, .class_ 126), (0, u "jdk/internal/util/Preconditions$2"), (3, u "AIOOBE_FORMATTER"), (0, .class_ 132), (0, u "jdk/internal/util/Preconditions$3"), (3, u "IOOBE_FORMATTER"), (46, u "(IIILjava/util/function/BiFunction;)I")] 10

def k12m0 : Method := { name := "<init>", desc := "()V", sig := { parameters := [], returnType := none }, accessFlags := 1, code := none }
def k12c1 : Code := { maxStack := 4, maxLocals := 4, code := jdk_41_method_12_code, exceptionTable := #[], attributes := #[] }
def k12m1 : Method := { name := "checkFromToIndex", desc := "(IIILjava/util/function/BiFunction;)I", sig := { parameters := [.int, .int, .int, (.object "java/util/function/BiFunction")], returnType := some .int }, accessFlags := 9, code := some k12c1 }
/-- jdk/internal/util/Preconditions -/
def k12 : Class := { plain "jdk/internal/util/Preconditions" (some 0) with
  accessFlags := 33
  interfaces := #[]
  cf := some (fileOf pool12 24 #[.nestMembers #[55, 131, 125, 114]] #[{ accessFlags := 1, nameIndex := 5, descriptorIndex := 6, attributes := #[] }, { accessFlags := 9, nameIndex := 47, descriptorIndex := 183, attributes := #[] }] 33 2 #[] #[{ accessFlags := 25, nameIndex := 123, descriptorIndex := 124, attributes := #[] }, { accessFlags := 25, nameIndex := 130, descriptorIndex := 124, attributes := #[] }, { accessFlags := 25, nameIndex := 136, descriptorIndex := 124, attributes := #[] }])
  fields := #[{ name := "SIOOBE_FORMATTER", type := (.object "java/util/function/BiFunction"), accessFlags := 25, slot := 0, constantValue := 0 }, { name := "AIOOBE_FORMATTER", type := (.object "java/util/function/BiFunction"), accessFlags := 25, slot := 1, constantValue := 0 }, { name := "IOOBE_FORMATTER", type := (.object "java/util/function/BiFunction"), accessFlags := 25, slot := 2, constantValue := 0 }]
  methods := #[k12m0, k12m1]
  instanceTypes := #[]
  staticTypes := #[(.object "java/util/function/BiFunction"), (.object "java/util/function/BiFunction"), (.object "java/util/function/BiFunction")]
  resolved := Array.replicate 194 none
  statics := some 2 }

def pool13 : Array CpInfo := pool [(9, u "<init>"), (6, .class_ 18), (1, u "java/lang/Object"), (0, u "()V"), (1, .class_ 23), (1, u "jdk/internal/util/ArraysSupport"), (0, u "LOG2_ARRAY_LONG_INDEX_SCALE"), (0, u "I"), (2, u "U"), (0, u "Ljdk/internal/misc/Unsafe;"), (8, u "BIG_ENDIAN"), (0, u "Z"), (8, u "LOG2_BYTE_BIT_SIZE"), (4, u "LOG2_ARRAY_INT_INDEX_SCALE"), (54, u "JLA"), (0, u "Ljdk/internal/access/JavaLangAccess;"), (11, u "LOG2_ARRAY_BOOLEAN_INDEX_SCALE"), (9, u "LOG2_ARRAY_BYTE_INDEX_SCALE"), (5, u "LOG2_ARRAY_CHAR_INDEX_SCALE"), (5, u "LOG2_ARRAY_SHORT_INDEX_SCALE"), (18, u "LOG2_ARRAY_FLOAT_INDEX_SCALE"), (24, u "LOG2_ARRAY_DOUBLE_INDEX_SCALE"), (89, u "T_BOOLEAN"), (2, u "T_CHAR"), (1, u "T_FLOAT"), (1, u "T_DOUBLE"), (1, u "T_BYTE"), (1, u "T_SHORT"), (1, u "T_INT"), (1, u "T_LONG"), (1, u "SOFT_MAX_ARRAY_LENGTH")] 83

def k13m0 : Method := { name := "<init>", desc := "()V", sig := { parameters := [], returnType := none }, accessFlags := 2, code := none }
/-- jdk/internal/util/ArraysSupport -/
def k13 : Class := { plain "jdk/internal/util/ArraysSupport" (some 0) with
  accessFlags := 33
  interfaces := #[]
  cf := some (fileOf pool13 21 #[] #[{ accessFlags := 2, nameIndex := 9, descriptorIndex := 19, attributes := #[] }] 33 16 #[] #[{ accessFlags := 24, nameIndex := 28, descriptorIndex := 29, attributes := #[] }, { accessFlags := 26, nameIndex := 38, descriptorIndex := 39, attributes := #[] }, { accessFlags := 25, nameIndex := 121, descriptorIndex := 25, attributes := #[] }, { accessFlags := 25, nameIndex := 131, descriptorIndex := 25, attributes := #[] }, { accessFlags := 25, nameIndex := 137, descriptorIndex := 25, attributes := #[] }, { accessFlags := 25, nameIndex := 143, descriptorIndex := 25, attributes := #[] }, { accessFlags := 25, nameIndex := 53, descriptorIndex := 25, attributes := #[] }, { accessFlags := 25, nameIndex := 24, descriptorIndex := 25, attributes := #[] }, { accessFlags := 25, nameIndex := 162, descriptorIndex := 25, attributes := #[] }, { accessFlags := 25, nameIndex := 187, descriptorIndex := 25, attributes := #[] }, { accessFlags := 26, nameIndex := 48, descriptorIndex := 25, attributes := #[] }, { accessFlags := 25, nameIndex := 277, descriptorIndex := 25, attributes := #[] }, { accessFlags := 25, nameIndex := 280, descriptorIndex := 25, attributes := #[] }, { accessFlags := 25, nameIndex := 282, descriptorIndex := 25, attributes := #[] }, { accessFlags := 25, nameIndex := 284, descriptorIndex := 25, attributes := #[] }, { accessFlags := 25, nameIndex := 286, descriptorIndex := 25, attributes := #[] }, { accessFlags := 25, nameIndex := 288, descriptorIndex := 25, attributes := #[] }, { accessFlags := 25, nameIndex := 290, descriptorIndex := 25, attributes := #[] }, { accessFlags := 25, nameIndex := 292, descriptorIndex := 25, attributes := #[] }, { accessFlags := 26, nameIndex := 108, descriptorIndex := 109, attributes := #[] }, { accessFlags := 25, nameIndex := 294, descriptorIndex := 25, attributes := #[] }])
  fields := #[{ name := "U", type := (.object "jdk/internal/misc/Unsafe"), accessFlags := 24, slot := 0, constantValue := 0 }, { name := "BIG_ENDIAN", type := .boolean, accessFlags := 26, slot := 1, constantValue := 0 }, { name := "LOG2_ARRAY_BOOLEAN_INDEX_SCALE", type := .int, accessFlags := 25, slot := 2, constantValue := 0 }, { name := "LOG2_ARRAY_BYTE_INDEX_SCALE", type := .int, accessFlags := 25, slot := 3, constantValue := 0 }, { name := "LOG2_ARRAY_CHAR_INDEX_SCALE", type := .int, accessFlags := 25, slot := 4, constantValue := 0 }, { name := "LOG2_ARRAY_SHORT_INDEX_SCALE", type := .int, accessFlags := 25, slot := 5, constantValue := 0 }, { name := "LOG2_ARRAY_INT_INDEX_SCALE", type := .int, accessFlags := 25, slot := 6, constantValue := 0 }, { name := "LOG2_ARRAY_LONG_INDEX_SCALE", type := .int, accessFlags := 25, slot := 7, constantValue := 0 }, { name := "LOG2_ARRAY_FLOAT_INDEX_SCALE", type := .int, accessFlags := 25, slot := 8, constantValue := 0 }, { name := "LOG2_ARRAY_DOUBLE_INDEX_SCALE", type := .int, accessFlags := 25, slot := 9, constantValue := 0 }, { name := "LOG2_BYTE_BIT_SIZE", type := .int, accessFlags := 26, slot := 10, constantValue := 0 }, { name := "T_BOOLEAN", type := .int, accessFlags := 25, slot := 11, constantValue := 0 }, { name := "T_CHAR", type := .int, accessFlags := 25, slot := 12, constantValue := 0 }, { name := "T_FLOAT", type := .int, accessFlags := 25, slot := 13, constantValue := 0 }, { name := "T_DOUBLE", type := .int, accessFlags := 25, slot := 14, constantValue := 0 }, { name := "T_BYTE", type := .int, accessFlags := 25, slot := 15, constantValue := 0 }, { name := "T_SHORT", type := .int, accessFlags := 25, slot := 16, constantValue := 0 }, { name := "T_INT", type := .int, accessFlags := 25, slot := 17, constantValue := 0 }, { name := "T_LONG", type := .int, accessFlags := 25, slot := 18, constantValue := 0 }, { name := "JLA", type := (.object "jdk/internal/access/JavaLangAccess"), accessFlags := 26, slot := 19, constantValue := 0 }, { name := "SOFT_MAX_ARRAY_LENGTH", type := .int, accessFlags := 25, slot := 20, constantValue := 0 }]
  methods := #[k13m0]
  instanceTypes := #[]
  staticTypes := #[(.object "jdk/internal/misc/Unsafe"), .boolean, .int, .int, .int, .int, .int, .int, .int, .int, .int, .int, .int, .int, .int, .int, .int, .int, .int, (.object "jdk/internal/access/JavaLangAccess"), .int]
  resolved := Array.replicate 378 none
  statics := none }

def pool14 : Array CpInfo := pool [(1, u "java/lang/Cloneable"), (0, .class_ 1), (0, u "java/lang/Object"), (0, .class_ 3)] 3

/-- java/lang/Cloneable -/
def k14 : Class := { plain "java/lang/Cloneable" (some 0) with
  accessFlags := 1537
  interfaces := #[]
  cf := some (fileOf pool14 2 #[] #[] 1537 4 #[] #[])
  fields := #[]
  methods := #[]
  instanceTypes := #[]
  staticTypes := #[]
  resolved := Array.replicate 8 none
  statics := none }

/-- the primitive byte -/
def k15 : Class := { plain "byte" none with kind := .primitive 'B', accessFlags := 0x411 }
/-- [B -/
def k16 : Class := { plain "[B" (some 0) with kind := .array 15 .byte, interfaces := #[14, 2], accessFlags := 1041 }

/-- the primitive char -/
def k17 : Class := { plain "char" none with kind := .primitive 'C', accessFlags := 0x411 }
/-- [C -/
def k18 : Class := { plain "[C" (some 0) with kind := .array 17 .char, interfaces := #[14, 2], accessFlags := 1041 }

/-- the primitive int -/
def k19 : Class := { plain "int" none with kind := .primitive 'I', accessFlags := 0x411 }
/-- [I -/
def k20 : Class := { plain "[I" (some 0) with kind := .array 19 .int, interfaces := #[14, 2], accessFlags := 1041 }

def heap : Heap := #[{ cls := 7, slots := #[.long 0, .int 1, .null, .int 0, .null, .int 0, .int 0], vm := .statics 7 },
  { cls := 11, slots := #[.int 0, .int 8, .int 0, .int 1], vm := .statics 11 },
  { cls := 12, slots := #[.null, .null, .null], vm := .statics 12 }]
def classes : Array Class := #[k0, k1, k2, k3, k4, k5, k6, k7, k8, k9, k10, k11, k12, k13, k14, k15, k16, k17, k18, k19, k20]
def interned : List (Array UInt16 × Addr) := []
def slotsUsed : Nat := 14
def theMethod : MethodId := ⟨1, 2⟩
def args0 : Array Value := #[.int 5, .int 5, .int 5, .int 5, .int 5]
def aboutOver (below : List Frame) : State where
  vm := { classes := classes, interned := interned.toArray }
  heap := heap
  slotsUsed := slotsUsed
  threads := #[{ frames := .invoking theMethod args0 :: below }]
def below0 : List Frame := [.native { method := ⟨0, 0⟩, args := #[] }]
def about1 : State := aboutOver below0
def p0 : Program := .bare "" "" ""
def e0 : Env := launch0.env 0 0 0
theorem w_frames : about1.frames = Frame.invoking theMethod args0 :: below0 := rfl
set_option maxRecDepth 65536 in
theorem w_args : argsFit about1.vm theMethod args0 = true := by decide +kernel
set_option maxRecDepth 65536 in
theorem w_heap : heapFits about1 = true := by decide +kernel
set_option maxRecDepth 65536 in
theorem w_runnable : about1.curStatus? = some .runnable := by decide +kernel
set_option maxRecDepth 65536 in
theorem w_alone : about1.alone = true := by decide +kernel
set_option maxRecDepth 65536 in
theorem w_named : about1.methodNamed? x = some theMethod := by decide +kernel
set_option maxRecDepth 65536 in
theorem w_hears : about1.hears theMethod below0 = true := by decide +kernel
set_option maxRecDepth 65536 in
theorem w_ripe : about1.ripe theMethod args0 below0 = true := by decide +kernel
theorem w_running : about1.status = .running := rfl
set_option maxRecDepth 65536 in
theorem w_room : about1.hasRoom e0.platform room_1 = true :=
  launch0.hasRoom_least _ room_1 (by decide +kernel) (by decide +kernel) (by decide +kernel) (by decide +kernel) (by decide +kernel) (by decide +kernel)
theorem allAtoms_all (ts : List Jvm.Cond) (a : Array Jvm.Value) (st : Jvm.State) : (allAtoms ts).before a st = ts.all (fun c => c.before a st) := by
  induction ts with
  | nil => rfl
  | cons c t ih =>
    show (Jvm.Cond.and c (allAtoms t)).before a st = _
    rw [Jvm.Cond.before_and, ih, List.all_cons]
def words1 : List Jvm.Cond := Jvm.Cond.code x code maxLocals ret :: tables_1
/-- a 'code' word, met by the world's own term for the bytes: nothing is compared byte by byte -/
theorem code_word {y : MethodName} {bytes : ByteArray} {mx : Nat} {rt : Option FieldType} {a : Array Value} {s : State} {m : MethodId} {meth : Method} {c : Code} (h1 : s.methodNamed? y = some m) (h2 : s.vm.method? m = some meth) (h3 : meth.code = some c) (h4 : c.code = bytes)
    (h5 : (c.maxLocals == mx && c.exceptionTable.isEmpty && decide (c.maxStack ≤ mostOperands) && decide (meth.sig.returnType = rt) && !meth.locks && decide (parseMethodDescriptor y.desc = some meth.sig)) = true) : (Jvm.Cond.code y bytes mx rt).before a s = true := by
  simp only [Bool.and_eq_true, beq_iff_eq, Bool.not_eq_true', decide_eq_true_eq] at h5
  obtain ⟨⟨⟨⟨⟨g1, g2⟩, g3⟩, g4⟩, g5⟩, g6⟩ := h5
  simp [Cond.before, Cond.holds, Cond.value, h1, h2, h3, h4, g1, g2, g3, g4, g5, g6]
def isCode : Jvm.Cond → Bool
  | .code _ _ _ _ => true
  | _ => false
theorem all_split {L : List Jvm.Cond} {P : Jvm.Cond → Bool} (h1 : L.all (fun c => isCode c || P c) = true) (h2 : ∀ c ∈ L.filter isCode, P c = true) : L.all P = true := by
  refine List.all_eq_true.mpr fun c hc => ?_
  have h := List.all_eq_true.mp h1 c hc
  rcases Bool.eq_false_or_eq_true (isCode c) with hi | hi
  · exact h2 c (List.mem_filter.mpr ⟨hc, hi⟩)
  · simpa [hi] using h
set_option maxRecDepth 65536 in
theorem w_c0 : (Jvm.Cond.code x code maxLocals ret).before args0 about1 = true := code_word (m := ⟨1, 2⟩) (meth := k1m2) (c := k1c2) (by decide +kernel) rfl rfl rfl (by decide +kernel)
set_option maxRecDepth 65536 in
theorem w_c1 : (Jvm.Cond.code ({ cls := "com/example/munka/munka/model/NulFreeIsPinLaw", name := "draw", desc := "(I)C" } : Jvm.MethodName) method_2_code (1 : Nat) (Option.some Jvm.ClassFile.FieldType.char)).before args0 about1 = true := code_word (m := ⟨1, 1⟩) (meth := k1m1) (c := k1c1) (by decide +kernel) rfl rfl rfl (by decide +kernel)
set_option maxRecDepth 65536 in
theorem w_c2 : (Jvm.Cond.code ({ cls := "java/lang/String", name := "<init>", desc := "([C)V" } : Jvm.MethodName) jdk_42_method_3_code (2 : Nat) (Option.none : Option Jvm.ClassFile.FieldType)).before args0 about1 = true := code_word (m := ⟨7, 1⟩) (meth := k7m1) (c := k7c1) (by decide +kernel) rfl rfl rfl (by decide +kernel)
set_option maxRecDepth 65536 in
theorem w_c3 : (Jvm.Cond.code ({ cls := "java/lang/String", name := "<init>", desc := "([CIILjava/lang/Void;)V" } : Jvm.MethodName) jdk_42_method_149_code (6 : Nat) (Option.none : Option Jvm.ClassFile.FieldType)).before args0 about1 = true := code_word (m := ⟨7, 5⟩) (meth := k7m5) (c := k7c5) (by decide +kernel) rfl rfl rfl (by decide +kernel)
set_option maxRecDepth 65536 in
theorem w_c4 : (Jvm.Cond.code ({ cls := "java/lang/Object", name := "<init>", desc := "()V" } : Jvm.MethodName) object_method_1_code (1 : Nat) (Option.none : Option Jvm.ClassFile.FieldType)).before args0 about1 = true := code_word (m := ⟨0, 0⟩) (meth := k0m0) (c := k0c0) (by decide +kernel) rfl rfl rfl (by decide +kernel)
set_option maxRecDepth 65536 in
theorem w_c5 : (Jvm.Cond.code ({ cls := "com/example/munka/munka/model/NulFree", name := "is", desc := "(Ljava/lang/String;)Z" } : Jvm.MethodName) prog_26_method_2_code (1 : Nat) (Option.some Jvm.ClassFile.FieldType.boolean)).before args0 about1 = true := code_word (m := ⟨8, 1⟩) (meth := k8m1) (c := k8c1) (by decide +kernel) rfl rfl rfl (by decide +kernel)
set_option maxRecDepth 65536 in
theorem w_c6 : (Jvm.Cond.code ({ cls := "java/lang/String", name := "indexOf", desc := "(I)I" } : Jvm.MethodName) jdk_42_method_79_code (2 : Nat) (Option.some Jvm.ClassFile.FieldType.int)).before args0 about1 = true := code_word (m := ⟨7, 3⟩) (meth := k7m3) (c := k7c3) (by decide +kernel) rfl rfl rfl (by decide +kernel)
set_option maxRecDepth 65536 in
theorem w_c7 : (Jvm.Cond.code ({ cls := "java/lang/String", name := "indexOf", desc := "(II)I" } : Jvm.MethodName) jdk_42_method_80_code (3 : Nat) (Option.some Jvm.ClassFile.FieldType.int)).before args0 about1 = true := code_word (m := ⟨7, 4⟩) (meth := k7m4) (c := k7c4) (by decide +kernel) rfl rfl rfl (by decide +kernel)
set_option maxRecDepth 65536 in
theorem w_c8 : (Jvm.Cond.code ({ cls := "java/lang/String", name := "isLatin1", desc := "()Z" } : Jvm.MethodName) jdk_42_method_154_code (1 : Nat) (Option.some Jvm.ClassFile.FieldType.boolean)).before args0 about1 = true := code_word (m := ⟨7, 7⟩) (meth := k7m7) (c := k7c7) (by decide +kernel) rfl rfl rfl (by decide +kernel)
set_option maxRecDepth 65536 in
theorem w_c9 : (Jvm.Cond.code ({ cls := "java/lang/String", name := "length", desc := "()I" } : Jvm.MethodName) jdk_42_method_54_code (1 : Nat) (Option.some Jvm.ClassFile.FieldType.int)).before args0 about1 = true := code_word (m := ⟨7, 2⟩) (meth := k7m2) (c := k7c2) (by decide +kernel) rfl rfl rfl (by decide +kernel)
set_option maxRecDepth 65536 in
theorem w_c10 : (Jvm.Cond.code ({ cls := "java/lang/String", name := "coder", desc := "()B" } : Jvm.MethodName) jdk_42_method_152_code (1 : Nat) (Option.some Jvm.ClassFile.FieldType.byte)).before args0 about1 = true := code_word (m := ⟨7, 6⟩) (meth := k7m6) (c := k7c6) (by decide +kernel) rfl rfl rfl (by decide +kernel)
set_option maxRecDepth 65536 in
theorem w_c11 : (Jvm.Cond.code ({ cls := "java/lang/StringLatin1", name := "indexOf", desc := "([BIII)I" } : Jvm.MethodName) jdk_43_method_22_code (4 : Nat) (Option.some Jvm.ClassFile.FieldType.int)).before args0 about1 = true := code_word (m := ⟨9, 2⟩) (meth := k9m2) (c := k9c2) (by decide +kernel) rfl rfl rfl (by decide +kernel)
set_option maxRecDepth 65536 in
theorem w_c12 : (Jvm.Cond.code ({ cls := "java/lang/StringLatin1", name := "canEncode", desc := "(I)Z" } : Jvm.MethodName) jdk_43_method_4_code (1 : Nat) (Option.some Jvm.ClassFile.FieldType.boolean)).before args0 about1 = true := code_word (m := ⟨9, 1⟩) (meth := k9m1) (c := k9c1) (by decide +kernel) rfl rfl rfl (by decide +kernel)
set_option maxRecDepth 65536 in
theorem w_c13 : (Jvm.Cond.code ({ cls := "java/lang/Math", name := "max", desc := "(II)I" } : Jvm.MethodName) jdk_29_method_65_code (2 : Nat) (Option.some Jvm.ClassFile.FieldType.int)).before args0 about1 = true := code_word (m := ⟨10, 1⟩) (meth := k10m1) (c := k10c1) (by decide +kernel) rfl rfl rfl (by decide +kernel)
set_option maxRecDepth 65536 in
theorem w_c14 : (Jvm.Cond.code ({ cls := "java/lang/Math", name := "min", desc := "(II)I" } : Jvm.MethodName) jdk_29_method_69_code (2 : Nat) (Option.some Jvm.ClassFile.FieldType.int)).before args0 about1 = true := code_word (m := ⟨10, 2⟩) (meth := k10m2) (c := k10c2) (by decide +kernel) rfl rfl rfl (by decide +kernel)
set_option maxRecDepth 65536 in
theorem w_c15 : (Jvm.Cond.code ({ cls := "java/lang/StringUTF16", name := "compress", desc := "([CII)[B" } : Jvm.MethodName) jdk_52_method_16_code (6 : Nat) (Option.some (Jvm.ClassFile.FieldType.array Jvm.ClassFile.FieldType.byte))).before args0 about1 = true := code_word (m := ⟨11, 8⟩) (meth := k11m8) (c := k11c8) (by decide +kernel) rfl rfl rfl (by decide +kernel)
set_option maxRecDepth 65536 in
theorem w_c16 : (Jvm.Cond.code ({ cls := "java/lang/StringUTF16", name := "compress", desc := "([CI[BII)I" } : Jvm.MethodName) jdk_52_method_21_code (7 : Nat) (Option.some Jvm.ClassFile.FieldType.int)).before args0 about1 = true := code_word (m := ⟨11, 9⟩) (meth := k11m9) (c := k11c9) (by decide +kernel) rfl rfl rfl (by decide +kernel)
set_option maxRecDepth 65536 in
theorem w_c17 : (Jvm.Cond.code ({ cls := "java/lang/StringUTF16", name := "coderFromArrayLen", desc := "([BI)B" } : Jvm.MethodName) jdk_52_method_15_code (2 : Nat) (Option.some Jvm.ClassFile.FieldType.byte)).before args0 about1 = true := code_word (m := ⟨11, 7⟩) (meth := k11m7) (c := k11c7) (by decide +kernel) rfl rfl rfl (by decide +kernel)
set_option maxRecDepth 65536 in
theorem w_c18 : (Jvm.Cond.code ({ cls := "java/lang/StringLatin1", name := "indexOfChar", desc := "([BIII)I" } : Jvm.MethodName) jdk_43_method_23_code (6 : Nat) (Option.some Jvm.ClassFile.FieldType.int)).before args0 about1 = true := code_word (m := ⟨9, 3⟩) (meth := k9m3) (c := k9c3) (by decide +kernel) rfl rfl rfl (by decide +kernel)
set_option maxRecDepth 65536 in
theorem w_c19 : (Jvm.Cond.code ({ cls := "java/lang/StringUTF16", name := "toBytes", desc := "([CII)[B" } : Jvm.MethodName) jdk_52_method_14_code (5 : Nat) (Option.some (Jvm.ClassFile.FieldType.array Jvm.ClassFile.FieldType.byte))).before args0 about1 = true := code_word (m := ⟨11, 6⟩) (meth := k11m6) (c := k11c6) (by decide +kernel) rfl rfl rfl (by decide +kernel)
set_option maxRecDepth 65536 in
theorem w_c20 : (Jvm.Cond.code ({ cls := "java/lang/StringUTF16", name := "newBytesFor", desc := "(I)[B" } : Jvm.MethodName) jdk_52_method_2_code (1 : Nat) (Option.some (Jvm.ClassFile.FieldType.array Jvm.ClassFile.FieldType.byte))).before args0 about1 = true := code_word (m := ⟨11, 1⟩) (meth := k11m1) (c := k11c1) (by decide +kernel) rfl rfl rfl (by decide +kernel)
set_option maxRecDepth 65536 in
theorem w_c21 : (Jvm.Cond.code ({ cls := "java/lang/StringUTF16", name := "newBytesLength", desc := "(I)I" } : Jvm.MethodName) jdk_52_method_3_code (1 : Nat) (Option.some Jvm.ClassFile.FieldType.int)).before args0 about1 = true := code_word (m := ⟨11, 2⟩) (meth := k11m2) (c := k11c2) (by decide +kernel) rfl rfl rfl (by decide +kernel)
set_option maxRecDepth 65536 in
theorem w_c22 : (Jvm.Cond.code ({ cls := "java/lang/StringUTF16", name := "putChar", desc := "([BII)V" } : Jvm.MethodName) jdk_52_method_4_code (3 : Nat) (Option.none : Option Jvm.ClassFile.FieldType)).before args0 about1 = true := code_word (m := ⟨11, 3⟩) (meth := k11m3) (c := k11c3) (by decide +kernel) rfl rfl rfl (by decide +kernel)
set_option maxRecDepth 65536 in
theorem w_c23 : (Jvm.Cond.code ({ cls := "java/lang/StringUTF16", name := "getChar", desc := "([BI)C" } : Jvm.MethodName) jdk_52_method_5_code (2 : Nat) (Option.some Jvm.ClassFile.FieldType.char)).before args0 about1 = true := code_word (m := ⟨11, 4⟩) (meth := k11m4) (c := k11c4) (by decide +kernel) rfl rfl rfl (by decide +kernel)
set_option maxRecDepth 65536 in
theorem w_c24 : (Jvm.Cond.code ({ cls := "java/lang/StringUTF16", name := "indexOf", desc := "([BIII)I" } : Jvm.MethodName) jdk_52_method_40_code (4 : Nat) (Option.some Jvm.ClassFile.FieldType.int)).before args0 about1 = true := code_word (m := ⟨11, 10⟩) (meth := k11m10) (c := k11c10) (by decide +kernel) rfl rfl rfl (by decide +kernel)
set_option maxRecDepth 65536 in
theorem w_c25 : (Jvm.Cond.code ({ cls := "java/lang/StringUTF16", name := "indexOfChar", desc := "([BIII)I" } : Jvm.MethodName) jdk_52_method_47_code (4 : Nat) (Option.some Jvm.ClassFile.FieldType.int)).before args0 about1 = true := code_word (m := ⟨11, 11⟩) (meth := k11m11) (c := k11c11) (by decide +kernel) rfl rfl rfl (by decide +kernel)
set_option maxRecDepth 65536 in
theorem w_c26 : (Jvm.Cond.code ({ cls := "java/lang/StringUTF16", name := "checkBoundsBeginEnd", desc := "(II[B)V" } : Jvm.MethodName) jdk_52_method_93_code (3 : Nat) (Option.none : Option Jvm.ClassFile.FieldType)).before args0 about1 = true := code_word (m := ⟨11, 13⟩) (meth := k11m13) (c := k11c13) (by decide +kernel) rfl rfl rfl (by decide +kernel)
set_option maxRecDepth 65536 in
theorem w_c27 : (Jvm.Cond.code ({ cls := "java/lang/StringUTF16", name := "length", desc := "([B)I" } : Jvm.MethodName) jdk_52_method_6_code (1 : Nat) (Option.some Jvm.ClassFile.FieldType.int)).before args0 about1 = true := code_word (m := ⟨11, 5⟩) (meth := k11m5) (c := k11c5) (by decide +kernel) rfl rfl rfl (by decide +kernel)
set_option maxRecDepth 65536 in
theorem w_c28 : (Jvm.Cond.code ({ cls := "java/lang/String", name := "checkBoundsBeginEnd", desc := "(III)V" } : Jvm.MethodName) jdk_42_method_158_code (3 : Nat) (Option.none : Option Jvm.ClassFile.FieldType)).before args0 about1 = true := code_word (m := ⟨7, 8⟩) (meth := k7m8) (c := k7c8) (by decide +kernel) rfl rfl rfl (by decide +kernel)
set_option maxRecDepth 65536 in
theorem w_c29 : (Jvm.Cond.code ({ cls := "jdk/internal/util/Preconditions", name := "checkFromToIndex", desc := "(IIILjava/util/function/BiFunction;)I" } : Jvm.MethodName) jdk_41_method_12_code (4 : Nat) (Option.some Jvm.ClassFile.FieldType.int)).before args0 about1 = true := code_word (m := ⟨12, 1⟩) (meth := k12m1) (c := k12c1) (by decide +kernel) rfl rfl rfl (by decide +kernel)
set_option maxRecDepth 65536 in
theorem w_c30 : (Jvm.Cond.code ({ cls := "java/lang/StringUTF16", name := "indexOfCharUnsafe", desc := "([BIII)I" } : Jvm.MethodName) jdk_52_method_48_code (5 : Nat) (Option.some Jvm.ClassFile.FieldType.int)).before args0 about1 = true := code_word (m := ⟨11, 12⟩) (meth := k11m12) (c := k11c12) (by decide +kernel) rfl rfl rfl (by decide +kernel)
def codes1 : List Jvm.Cond := [Jvm.Cond.code x code maxLocals ret, Jvm.Cond.code ({ cls := "com/example/munka/munka/model/NulFreeIsPinLaw", name := "draw", desc := "(I)C" } : Jvm.MethodName) method_2_code (1 : Nat) (Option.some Jvm.ClassFile.FieldType.char), Jvm.Cond.code ({ cls := "java/lang/String", name := "<init>", desc := "([C)V" } : Jvm.MethodName) jdk_42_method_3_code (2 : Nat) (Option.none : Option Jvm.ClassFile.FieldType), Jvm.Cond.code ({ cls := "java/lang/String", name := "<init>", desc := "([CIILjava/lang/Void;)V" } : Jvm.MethodName) jdk_42_method_149_code (6 : Nat) (Option.none : Option Jvm.ClassFile.FieldType), Jvm.Cond.code ({ cls := "java/lang/Object", name := "<init>", desc := "()V" } : Jvm.MethodName) object_method_1_code (1 : Nat) (Option.none : Option Jvm.ClassFile.FieldType), Jvm.Cond.code ({ cls := "com/example/munka/munka/model/NulFree", name := "is", desc := "(Ljava/lang/String;)Z" } : Jvm.MethodName) prog_26_method_2_code (1 : Nat) (Option.some Jvm.ClassFile.FieldType.boolean), Jvm.Cond.code ({ cls := "java/lang/String", name := "indexOf", desc := "(I)I" } : Jvm.MethodName) jdk_42_method_79_code (2 : Nat) (Option.some Jvm.ClassFile.FieldType.int), Jvm.Cond.code ({ cls := "java/lang/String", name := "indexOf", desc := "(II)I" } : Jvm.MethodName) jdk_42_method_80_code (3 : Nat) (Option.some Jvm.ClassFile.FieldType.int), Jvm.Cond.code ({ cls := "java/lang/String", name := "isLatin1", desc := "()Z" } : Jvm.MethodName) jdk_42_method_154_code (1 : Nat) (Option.some Jvm.ClassFile.FieldType.boolean), Jvm.Cond.code ({ cls := "java/lang/String", name := "length", desc := "()I" } : Jvm.MethodName) jdk_42_method_54_code (1 : Nat) (Option.some Jvm.ClassFile.FieldType.int), Jvm.Cond.code ({ cls := "java/lang/String", name := "coder", desc := "()B" } : Jvm.MethodName) jdk_42_method_152_code (1 : Nat) (Option.some Jvm.ClassFile.FieldType.byte), Jvm.Cond.code ({ cls := "java/lang/StringLatin1", name := "indexOf", desc := "([BIII)I" } : Jvm.MethodName) jdk_43_method_22_code (4 : Nat) (Option.some Jvm.ClassFile.FieldType.int), Jvm.Cond.code ({ cls := "java/lang/StringLatin1", name := "canEncode", desc := "(I)Z" } : Jvm.MethodName) jdk_43_method_4_code (1 : Nat) (Option.some Jvm.ClassFile.FieldType.boolean), Jvm.Cond.code ({ cls := "java/lang/Math", name := "max", desc := "(II)I" } : Jvm.MethodName) jdk_29_method_65_code (2 : Nat) (Option.some Jvm.ClassFile.FieldType.int), Jvm.Cond.code ({ cls := "java/lang/Math", name := "min", desc := "(II)I" } : Jvm.MethodName) jdk_29_method_69_code (2 : Nat) (Option.some Jvm.ClassFile.FieldType.int), Jvm.Cond.code ({ cls := "java/lang/StringUTF16", name := "compress", desc := "([CII)[B" } : Jvm.MethodName) jdk_52_method_16_code (6 : Nat) (Option.some (Jvm.ClassFile.FieldType.array Jvm.ClassFile.FieldType.byte)), Jvm.Cond.code ({ cls := "java/lang/StringUTF16", name := "compress", desc := "([CI[BII)I" } : Jvm.MethodName) jdk_52_method_21_code (7 : Nat) (Option.some Jvm.ClassFile.FieldType.int), Jvm.Cond.code ({ cls := "java/lang/StringUTF16", name := "coderFromArrayLen", desc := "([BI)B" } : Jvm.MethodName) jdk_52_method_15_code (2 : Nat) (Option.some Jvm.ClassFile.FieldType.byte), Jvm.Cond.code ({ cls := "java/lang/StringLatin1", name := "indexOfChar", desc := "([BIII)I" } : Jvm.MethodName) jdk_43_method_23_code (6 : Nat) (Option.some Jvm.ClassFile.FieldType.int), Jvm.Cond.code ({ cls := "java/lang/StringUTF16", name := "toBytes", desc := "([CII)[B" } : Jvm.MethodName) jdk_52_method_14_code (5 : Nat) (Option.some (Jvm.ClassFile.FieldType.array Jvm.ClassFile.FieldType.byte)), Jvm.Cond.code ({ cls := "java/lang/StringUTF16", name := "newBytesFor", desc := "(I)[B" } : Jvm.MethodName) jdk_52_method_2_code (1 : Nat) (Option.some (Jvm.ClassFile.FieldType.array Jvm.ClassFile.FieldType.byte)), Jvm.Cond.code ({ cls := "java/lang/StringUTF16", name := "newBytesLength", desc := "(I)I" } : Jvm.MethodName) jdk_52_method_3_code (1 : Nat) (Option.some Jvm.ClassFile.FieldType.int), Jvm.Cond.code ({ cls := "java/lang/StringUTF16", name := "putChar", desc := "([BII)V" } : Jvm.MethodName) jdk_52_method_4_code (3 : Nat) (Option.none : Option Jvm.ClassFile.FieldType), Jvm.Cond.code ({ cls := "java/lang/StringUTF16", name := "getChar", desc := "([BI)C" } : Jvm.MethodName) jdk_52_method_5_code (2 : Nat) (Option.some Jvm.ClassFile.FieldType.char), Jvm.Cond.code ({ cls := "java/lang/StringUTF16", name := "indexOf", desc := "([BIII)I" } : Jvm.MethodName) jdk_52_method_40_code (4 : Nat) (Option.some Jvm.ClassFile.FieldType.int), Jvm.Cond.code ({ cls := "java/lang/StringUTF16", name := "indexOfChar", desc := "([BIII)I" } : Jvm.MethodName) jdk_52_method_47_code (4 : Nat) (Option.some Jvm.ClassFile.FieldType.int), Jvm.Cond.code ({ cls := "java/lang/StringUTF16", name := "checkBoundsBeginEnd", desc := "(II[B)V" } : Jvm.MethodName) jdk_52_method_93_code (3 : Nat) (Option.none : Option Jvm.ClassFile.FieldType), Jvm.Cond.code ({ cls := "java/lang/StringUTF16", name := "length", desc := "([B)I" } : Jvm.MethodName) jdk_52_method_6_code (1 : Nat) (Option.some Jvm.ClassFile.FieldType.int), Jvm.Cond.code ({ cls := "java/lang/String", name := "checkBoundsBeginEnd", desc := "(III)V" } : Jvm.MethodName) jdk_42_method_158_code (3 : Nat) (Option.none : Option Jvm.ClassFile.FieldType), Jvm.Cond.code ({ cls := "jdk/internal/util/Preconditions", name := "checkFromToIndex", desc := "(IIILjava/util/function/BiFunction;)I" } : Jvm.MethodName) jdk_41_method_12_code (4 : Nat) (Option.some Jvm.ClassFile.FieldType.int), Jvm.Cond.code ({ cls := "java/lang/StringUTF16", name := "indexOfCharUnsafe", desc := "([BIII)I" } : Jvm.MethodName) jdk_52_method_48_code (5 : Nat) (Option.some Jvm.ClassFile.FieldType.int)]
set_option maxRecDepth 65536 in
theorem codes_eq : words1.filter isCode = codes1 := rfl
theorem w_codes : ∀ c ∈ words1.filter isCode, c.before args0 about1 = true := by
  rw [codes_eq]
  intro c hc
  simp only [codes1, List.mem_cons, List.not_mem_nil, or_false] at hc
  rcases hc with rfl | rfl | rfl | rfl | rfl | rfl | rfl | rfl | rfl | rfl | rfl | rfl | rfl | rfl | rfl | rfl | rfl | rfl | rfl | rfl | rfl | rfl | rfl | rfl | rfl | rfl | rfl | rfl | rfl | rfl | rfl
  · exact w_c0
  · exact w_c1
  · exact w_c2
  · exact w_c3
  · exact w_c4
  · exact w_c5
  · exact w_c6
  · exact w_c7
  · exact w_c8
  · exact w_c9
  · exact w_c10
  · exact w_c11
  · exact w_c12
  · exact w_c13
  · exact w_c14
  · exact w_c15
  · exact w_c16
  · exact w_c17
  · exact w_c18
  · exact w_c19
  · exact w_c20
  · exact w_c21
  · exact w_c22
  · exact w_c23
  · exact w_c24
  · exact w_c25
  · exact w_c26
  · exact w_c27
  · exact w_c28
  · exact w_c29
  · exact w_c30
set_option maxRecDepth 65536 in
theorem w_t1 : (words1.take 24).all (fun c => isCode c || c.before args0 about1) = true := by decide +kernel
set_option maxRecDepth 65536 in
theorem w_t2 : ((words1.drop 24).take 24).all (fun c => isCode c || c.before args0 about1) = true := by decide +kernel
set_option maxRecDepth 65536 in
theorem w_t3 : (((words1.drop 24).drop 24).take 24).all (fun c => isCode c || c.before args0 about1) = true := by decide +kernel
set_option maxRecDepth 65536 in
theorem w_t4 : ((((words1.drop 24).drop 24).drop 24).take 24).all (fun c => isCode c || c.before args0 about1) = true := by decide +kernel
set_option maxRecDepth 65536 in
theorem w_t5 : (((((words1.drop 24).drop 24).drop 24).drop 24).take 24).all (fun c => isCode c || c.before args0 about1) = true := by decide +kernel
set_option maxRecDepth 65536 in
theorem w_t6 : (((((words1.drop 24).drop 24).drop 24).drop 24).drop 24).all (fun c => isCode c || c.before args0 about1) = true := by decide +kernel
theorem w_tables : (allAtoms (Jvm.Cond.code x code maxLocals ret :: tables_1)).before args0 about1 = true := by
  rw [allAtoms_all]
  show words1.all (fun c => c.before args0 about1) = true
  refine all_split ?_ w_codes
  rw [← List.take_append_drop 24 words1, List.all_append, w_t1, ← List.take_append_drop 24 (words1.drop 24), List.all_append, w_t2, ← List.take_append_drop 24 ((words1.drop 24).drop 24), List.all_append, w_t3, ← List.take_append_drop 24 (((words1.drop 24).drop 24).drop 24), List.all_append, w_t4, ← List.take_append_drop 24 ((((words1.drop 24).drop 24).drop 24).drop 24), List.all_append, w_t5, w_t6]
  rfl
set_option maxRecDepth 65536 in
theorem w_rest : rest_1_c.before args0 about1 = true := by decide +kernel
set_option maxRecDepth 65536 in
theorem w_case : (Jvm.Cond.and given_1 narrow_1).before args0 about1 = true := by decide +kernel
set_option maxRecDepth 65536 in
theorem w_consts : constsHeld consts_1 about1 := Jvm.Lit.constsHeldB_iff.mp (by decide +kernel)
theorem w_applies : (headSpec (Jvm.Cond.code x code maxLocals ret :: tables_1) room_1).applies x e0.platform about1 = true :=
  (Spec.applies_iff w_frames).mpr ⟨w_running, w_runnable, w_alone, w_named, w_hears, w_ripe, w_room, w_tables⟩
theorem atStart : AtStart classFile x code maxLocals ret World_1 tables_1 room_1 Calls_1 rest_1 Pre_1 launch0 p0 e0 about1 theMethod args0 below0 :=
  ⟨lists_1, trivial, launch0.admits_env _ _ _, launch0.least_env, fairChoices_fair.cas, fairChoices_fair.clock, w_frames, w_args, w_heap, w_applies, ⟨w_consts, trivial⟩, w_rest, w_case⟩
end start1
theorem witness_1 : WitnessClaimed_1 := ⟨start1.p0, start1.e0, start1.about1, start1.theMethod, start1.args0, start1.below0, start1.atStart⟩
end Jvm.Pilot.@@N@@
