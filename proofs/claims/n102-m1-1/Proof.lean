import JvmDerived
import JvmDerived.Pilot.@@N@@Statement
import JvmDerived.Pilot.@@N@@Code
set_option linter.unusedVariables false
set_option linter.unusedSimpArgs false
namespace Jvm.Pilot.@@N@@
open Jvm Jvm.ClassFile Sem Op Lib Jvm.Free Jvm.Stand Jvm.LawKit Jvm.RoadKit Bundle Jvm.Pilot.@@N@@.Jvm.D
section Own
variable {p : Program} {l : Launch} {e : Env} {R : Room} {s : State} {m : MethodId} {args : Array Value} {below : List Frame} {meth : Method} {c : Code} {T T' : State} {locs : List Loc} {cells slots : Nat}
/-- from T with the frame f on top the method comes to its end; what it returns, the heap and the places written answer Q; at most C cells and N slots are new -/
def own_Fin (p : Program) (e : Env) (below : List Frame) (s : State) (C N : Nat) (Q : Option Value → Heap → List Loc → Prop) (T : State) (f : JFrame) : Prop :=
  ∃ s₂ o, Steps p.tables e below (T.setTop f) s₂ ∧ s₂.status = .running ∧ Ended s₂ below o ∧ ∃ v L, o = .returned v ∧ Q v s₂.heap L ∧ FrameEnd s o s₂ L C N
variable {C N : Nat} {Q : Option Value → Heap → List Loc → Prop} {f f' : JFrame}
theorem own_by (h : ∀ t, Steps p.tables e below (T'.setTop f') t → Steps p.tables e below (T.setTop f) t) (k : own_Fin p e below s C N Q T' f') : own_Fin p e below s C N Q T f := by
  obtain ⟨s2, o, h1, h2⟩ := k
  exact ⟨s2, o, h _ h1, h2⟩
theorem own_start (q : f = f') (k : own_Fin p e below s C N Q T f') : ∃ s₂ o, Steps p.tables e below (T.setTop f) s₂ ∧ s₂.status = .running ∧ Ended s₂ below o ∧ ∃ v L, o = .returned v ∧ Q v s₂.heap L ∧ FrameEnd s o s₂ L C N := by
  subst q; exact k
theorem own_leaf (X : Stand p l e R s m args below meth c T locs cells slots) (hlk : meth.locks = false) {v : Option Value} (hv : meth.sig.returnType = none → v = none)
    (hs : ∀ fs, (∀ (f : JFrame) (acts : List Action), f.method = m → f.locked = none → f.entered = [] → (doReturn e (T.setTop f) acts v).1 = T.setFrames fs) → Steps p.tables e below (T.setTop f) (T.setFrames fs))
    (hQ : Q v T.heap locs) (hc : cells ≤ C) (hn : slots ≤ N) : own_Fin p e below s C N Q T f := by
  obtain ⟨fs, hr, hrun, hended, hW, hsame⟩ := X.leave (v := v) hv hlk
  exact ⟨_, _, hs fs hr, hrun, hended, _, _, rfl, hQ, ⟨_, rfl⟩, hW, hsame.mono hc hn⟩
theorem own_retV (X : Stand p l e R s m args below meth c T locs cells slots) (hx : p.tables.exec = Jvm.exec) (hlk : meth.locks = false) {pc : Nat} {Ls : Array Slot} (hret : meth.sig.returnType = none) (hd : decode c.code pc = .ok (.return_, 1))
    (hQ : Q none T.heap locs) (hc : cells ≤ C) (hn : slots ≤ N) : own_Fin p e below s C N Q T (mkF m pc Ls []) :=
  own_leaf X hlk (fun _ => rfl) (fun fs hr => X.returnOut hx hret hd hr) hQ hc hn
theorem own_retZ (X : Stand p l e R s m args below meth c T locs cells slots) (hx : p.tables.exec = Jvm.exec) (hlk : meth.locks = false) {pc : Nat} {Ls : Array Slot} {z : Int32} {t : FieldType} {rest : List Value} (hret : meth.sig.returnType = some t) (ht : t = .boolean ∨ t = .byte ∨ t = .char ∨ t = .short) (hd : decode c.code pc = .ok (.ireturn, 1))
    (hQ : Q (some (.int (nar t z))) T.heap locs) (hc : cells ≤ C) (hn : slots ≤ N) : own_Fin p e below s C N Q T (mkF m pc Ls (.int z :: rest)) :=
  own_leaf X hlk (fun h => by rw [hret] at h; cases h) (fun fs hr => retN X hx hret ht hd hr) hQ hc hn
theorem own_retO (X : Stand p l e R s m args below meth c T locs cells slots) (hx : p.tables.exec = Jvm.exec) (hlk : meth.locks = false) {pc : Nat} {Ls : Array Slot} {w : Value} {t : FieldType} {i : Instr} {rest : List Value} (hret : meth.sig.returnType = some t) (hn' : narrow t w = w)
    (hi : (i = .ireturn ∧ (t = .int ∨ t = .boolean ∨ t = .byte ∨ t = .char ∨ t = .short) ∧ ∃ z, w = .int z) ∨ (i = .lreturn ∧ t = .long ∧ ∃ z, w = .long z) ∨ (i = .dreturn ∧ t = .double ∧ ∃ z, w = .double z) ∨ (i = .freturn ∧ t = .float ∧ ∃ z, w = .float z) ∨ (i = .areturn ∧ t.isReference = true ∧ w.isRef = true))
    (hd : decode c.code pc = .ok (i, 1)) (hQ : Q (some w) T.heap locs) (hc : cells ≤ C) (hn : slots ≤ N) : own_Fin p e below s C N Q T (mkF m pc Ls (w :: rest)) :=
  own_leaf X hlk (fun h => by rw [hret] at h; cases h) (fun fs hr => retOut X hx hret hn' hi hd hr) hQ hc hn
theorem own_retI (X : Stand p l e R s m args below meth c T locs cells slots) (hx : p.tables.exec = Jvm.exec) (hlk : meth.locks = false) {pc : Nat} {Ls : Array Slot} {z : Int32} {rest : List Value} (hret : meth.sig.returnType = some .int) (hd : decode c.code pc = .ok (.ireturn, 1))
    (hQ : Q (some (.int z)) T.heap locs) (hc : cells ≤ C) (hn : slots ≤ N) : own_Fin p e below s C N Q T (mkF m pc Ls (.int z :: rest)) :=
  own_retO X hx hlk hret rfl (Or.inl ⟨rfl, Or.inl rfl, _, rfl⟩) hd hQ hc hn
theorem own_retJ (X : Stand p l e R s m args below meth c T locs cells slots) (hx : p.tables.exec = Jvm.exec) (hlk : meth.locks = false) {pc : Nat} {Ls : Array Slot} {z : Int64} {rest : List Value} (hret : meth.sig.returnType = some .long) (hd : decode c.code pc = .ok (.lreturn, 1))
    (hQ : Q (some (.long z)) T.heap locs) (hc : cells ≤ C) (hn : slots ≤ N) : own_Fin p e below s C N Q T (mkF m pc Ls (.long z :: rest)) :=
  own_retO X hx hlk hret rfl (Or.inr (Or.inl ⟨rfl, rfl, _, rfl⟩)) hd hQ hc hn
theorem own_retA (X : Stand p l e R s m args below meth c T locs cells slots) (hx : p.tables.exec = Jvm.exec) (hlk : meth.locks = false) {pc : Nat} {Ls : Array Slot} {w : Value} {t : FieldType} {rest : List Value} (hret : meth.sig.returnType = some t) (hr : t.isReference = true) (hn' : narrow t w = w) (hw : w.isRef = true) (hd : decode c.code pc = .ok (.areturn, 1))
    (hQ : Q (some w) T.heap locs) (hc : cells ≤ C) (hn : slots ≤ N) : own_Fin p e below s C N Q T (mkF m pc Ls (w :: rest)) :=
  own_retO X hx hlk hret hn' (Or.inr (Or.inr (Or.inr (Or.inr ⟨rfl, hr, hw⟩)))) hd hQ hc hn
/-- a room by its four numbers -/
abbrev own_R (f c s l : Nat) : Room := { frames := f, cells := c, slots := s, locals := l }
/-- the contract's form: called with A at a heap h0 it returns, and Q holds of what it returns, the heap and the places written -/
abbrev own_Met (l : Launch) (Z : State) (y : MethodName) (code : ByteArray) (ml : Nat) (ret : Option FieldType) (ws : List Jvm.Cond) (R : Room) (A : Array Value) (h0 : Heap) (Q : Option Value → Heap → List Loc → Prop) : Prop :=
  MetFree l y (head1 (Jvm.Cond.code y code ml ret :: ws) R) (fun a U => a = A ∧ Z.Warmed39 U.vm ∧ U.heap = h0) (fun _ _ _ _ _ => True) (fun _ U o U' => ∃ v L, o = .returned v ∧ Q v U'.heap L ∧ FrameEnd U o U' L R.cells R.slots)
theorem own_enter {Z : State} {y : MethodName} {code : ByteArray} {ml : Nat} {ret : Option FieldType} {ws : List Jvm.Cond} {A : Array Value} {h0 : Heap} {f0 : MethodId → JFrame} (n0 : Nat) (hpn : plainName y.cls = true) (hef : ∀ m, entryFrame m A ml = f0 m)
    (H : ∀ (p : Program) (e : Env) (s : State) (m : MethodId) (below : List Frame) (meth : Method) (c : Code) (s₁ : State), p.tables.exec = Jvm.exec → c.code = code → meth.locks = false → c.maxLocals = ml → meth.sig.returnType = ret → s.vm.findClass y.cls = some m.cls → meth.name = y.name →
      Z.Warmed39 s.vm → Stand p l e R s m A below meth c s₁ [] 0 0 → s₁.heap = h0 → Fr n0 [] → own_Fin p e below s R.cells R.slots Q s₁ (f0 m)) : own_Met l Z y code ml ret ws R A h0 Q := by
  refine MetFree.of_bodySF (plainFor_of_name hpn) hisR ?_
  intro p e s m args below meth c s₁ Bd hml hP _
  obtain ⟨rfl, hZ, hh⟩ := hP
  have q := H p e s m below meth c s₁ Bd.exec Bd.bytes Bd.notSynchronized hml Bd.returns (findClass_of_methodNamed Bd.named) (name_of_methodNamed Bd.named Bd.method).1 hZ (Stand.of_body Bd) (by rw [← hh, Bd.state]; rfl) (Fr.nil n0)
  rw [hef m]
  exact q
end Own
section OwnW
variable {p : Program} {l : Launch} {e : Env} {R : Room} {s : State} {vm0 : Vm} {k0 : Nat} {m : MethodId} {args : Array Value} {below : List Frame} {meth : Method} {c : Code} {T T' : State} {locs : List Loc} {cells slots : Nat}
/-- as own_Fin, the end said by the wide word: String constants may have been interned meanwhile -/
def own_FinW (p : Program) (e : Env) (below : List Frame) (s : State) (C N : Nat) (Q : Option Value → Heap → List Loc → Prop) (T : State) (f : JFrame) : Prop :=
  ∃ s₂ o, Steps p.tables e below (T.setTop f) s₂ ∧ s₂.status = .running ∧ Ended s₂ below o ∧ ∃ v L, o = .returned v ∧ Q v s₂.heap L ∧ ReturnedEndW s o s₂ L C N
variable {C N : Nat} {Q : Option Value → Heap → List Loc → Prop} {f f' : JFrame}
theorem own_byW (h : ∀ t, Steps p.tables e below (T'.setTop f') t → Steps p.tables e below (T.setTop f) t) (k : own_FinW p e below s C N Q T' f') : own_FinW p e below s C N Q T f := by
  obtain ⟨s2, o, h1, h2⟩ := k
  exact ⟨s2, o, h _ h1, h2⟩
theorem own_startW (q : f = f') (k : own_FinW p e below s C N Q T f') : ∃ s₂ o, Steps p.tables e below (T.setTop f) s₂ ∧ s₂.status = .running ∧ Ended s₂ below o ∧ ∃ v L, o = .returned v ∧ Q v s₂.heap L ∧ ReturnedEndW s o s₂ L C N := by
  subst q; exact k
theorem own_endW {t : State} {o : Outcome} {L : List Loc} (h : ReturnedEndW s o t L cells slots) (hc : cells ≤ C) (hn : slots ≤ N) : ReturnedEndW s o t L C N :=
  ⟨h.1, h.2.1, h.2.2.1, h.2.2.2.mono hc hn⟩
theorem own_leafW (X : Stand p l e R (s.setVm vm0) m args below meth c T locs cells slots) (hS : s.Since vm0 k0) (hk : k0 ≤ T.heap.size) (hlk : meth.locks = false) {v : Option Value} (hv : meth.sig.returnType = none → v = none)
    (hs : ∀ fs, (∀ (f : JFrame) (acts : List Action), f.method = m → f.locked = none → f.entered = [] → (doReturn e (T.setTop f) acts v).1 = T.setFrames fs) → Steps p.tables e below (T.setTop f) (T.setFrames fs))
    (hQ : Q v T.heap locs) (hc : cells ≤ C) (hn : slots ≤ N) : own_FinW p e below s C N Q T f := by
  obtain ⟨fs, hr, hrun, hended, hE⟩ := X.leaveW hS hk (v := v) hv hlk
  exact ⟨_, _, hs fs hr, hrun, hended, _, _, rfl, hQ, own_endW hE hc hn⟩
theorem own_retVW (X : Stand p l e R (s.setVm vm0) m args below meth c T locs cells slots) (hS : s.Since vm0 k0) (hk : k0 ≤ T.heap.size) (hx : p.tables.exec = Jvm.exec) (hlk : meth.locks = false) {pc : Nat} {Ls : Array Slot} (hret : meth.sig.returnType = none) (hd : decode c.code pc = .ok (.return_, 1))
    (hQ : Q none T.heap locs) (hc : cells ≤ C) (hn : slots ≤ N) : own_FinW p e below s C N Q T (mkF m pc Ls []) :=
  own_leafW X hS hk hlk (fun _ => rfl) (fun fs hr => X.returnOut hx hret hd hr) hQ hc hn
theorem own_retZW (X : Stand p l e R (s.setVm vm0) m args below meth c T locs cells slots) (hS : s.Since vm0 k0) (hk : k0 ≤ T.heap.size) (hx : p.tables.exec = Jvm.exec) (hlk : meth.locks = false) {pc : Nat} {Ls : Array Slot} {z : Int32} {t : FieldType} {rest : List Value} (hret : meth.sig.returnType = some t) (ht : t = .boolean ∨ t = .byte ∨ t = .char ∨ t = .short) (hd : decode c.code pc = .ok (.ireturn, 1))
    (hQ : Q (some (.int (nar t z))) T.heap locs) (hc : cells ≤ C) (hn : slots ≤ N) : own_FinW p e below s C N Q T (mkF m pc Ls (.int z :: rest)) :=
  own_leafW X hS hk hlk (fun h => by rw [hret] at h; cases h) (fun fs hr => retN X hx hret ht hd hr) hQ hc hn
theorem own_retOW (X : Stand p l e R (s.setVm vm0) m args below meth c T locs cells slots) (hS : s.Since vm0 k0) (hk : k0 ≤ T.heap.size) (hx : p.tables.exec = Jvm.exec) (hlk : meth.locks = false) {pc : Nat} {Ls : Array Slot} {w : Value} {t : FieldType} {i : Instr} {rest : List Value} (hret : meth.sig.returnType = some t) (hn' : narrow t w = w)
    (hi : (i = .ireturn ∧ (t = .int ∨ t = .boolean ∨ t = .byte ∨ t = .char ∨ t = .short) ∧ ∃ z, w = .int z) ∨ (i = .lreturn ∧ t = .long ∧ ∃ z, w = .long z) ∨ (i = .dreturn ∧ t = .double ∧ ∃ z, w = .double z) ∨ (i = .freturn ∧ t = .float ∧ ∃ z, w = .float z) ∨ (i = .areturn ∧ t.isReference = true ∧ w.isRef = true))
    (hd : decode c.code pc = .ok (i, 1)) (hQ : Q (some w) T.heap locs) (hc : cells ≤ C) (hn : slots ≤ N) : own_FinW p e below s C N Q T (mkF m pc Ls (w :: rest)) :=
  own_leafW X hS hk hlk (fun h => by rw [hret] at h; cases h) (fun fs hr => retOut X hx hret hn' hi hd hr) hQ hc hn
theorem own_retIW (X : Stand p l e R (s.setVm vm0) m args below meth c T locs cells slots) (hS : s.Since vm0 k0) (hk : k0 ≤ T.heap.size) (hx : p.tables.exec = Jvm.exec) (hlk : meth.locks = false) {pc : Nat} {Ls : Array Slot} {z : Int32} {rest : List Value} (hret : meth.sig.returnType = some .int) (hd : decode c.code pc = .ok (.ireturn, 1))
    (hQ : Q (some (.int z)) T.heap locs) (hc : cells ≤ C) (hn : slots ≤ N) : own_FinW p e below s C N Q T (mkF m pc Ls (.int z :: rest)) :=
  own_retOW X hS hk hx hlk hret rfl (Or.inl ⟨rfl, Or.inl rfl, _, rfl⟩) hd hQ hc hn
theorem own_retAW (X : Stand p l e R (s.setVm vm0) m args below meth c T locs cells slots) (hS : s.Since vm0 k0) (hk : k0 ≤ T.heap.size) (hx : p.tables.exec = Jvm.exec) (hlk : meth.locks = false) {pc : Nat} {Ls : Array Slot} {w : Value} {t : FieldType} {rest : List Value} (hret : meth.sig.returnType = some t) (hr : t.isReference = true) (hn' : narrow t w = w) (hw : w.isRef = true) (hd : decode c.code pc = .ok (.areturn, 1))
    (hQ : Q (some w) T.heap locs) (hc : cells ≤ C) (hn : slots ≤ N) : own_FinW p e below s C N Q T (mkF m pc Ls (w :: rest)) :=
  own_retOW X hS hk hx hlk hret hn' (Or.inr (Or.inr (Or.inr (Or.inr ⟨rfl, hr, hw⟩)))) hd hQ hc hn
end OwnW
theorem own_vi {a b : Int32} (h : a = b) : some (Value.int a) = some (Value.int b) := h ▸ rfl
theorem own_wS {a0 : Array Value} {Z : State} (hw : ∀ d ∈ tables_1, d.before a0 Z = true) : ∀ a ∈ Bundle.stringAtoms, a.before a0 Z = true := fun d hd => hw d ((by decide +kernel : ∀ d ∈ Bundle.stringAtoms, d ∈ tables_1) d hd)
theorem own_c255 (x : Int32) : ¬ (255 : Int32) < ((x &&& (255 : Int32)).toUInt32.toUInt16.toUInt32.toInt32) := by
  have m := c_and x 255 (by decide)
  have q := c_i2c (x &&& 255)
  have k : (255 : Int32).toInt = 255 := by decide
  rw [Int32.lt_iff_toInt_lt]
  omega
theorem own_pn1 : plainName "java/util/Objects" = true := by first | (simp [plainName, overriddenIn]; done) | decide +kernel
theorem d7_0 : decode jdk_31_method_11_code 0 = .ok (.aload_n 0, 1) := by decide +kernel
theorem d7_1 : decode jdk_31_method_11_code 1 = .ok (.ifnonnull 12, 3) := by decide +kernel
theorem d7_13 : decode jdk_31_method_11_code 13 = .ok (.aload_n 0, 1) := by decide +kernel
theorem d7_14 : decode jdk_31_method_11_code 14 = .ok (.areturn, 1) := by decide +kernel
theorem ef_rm7 (m : MethodId) (x0 : Addr) (x1 : Addr) : entryFrame m #[(.ref x0), (.ref x1)] 2 = mkF m 0 #[.val (.ref x0), .val (.ref x1)] [] := by first | (simp [entryFrame, mkF, argsToLocals, Value.category]; done) | rfl
def own_Q7 (a1 : Addr) (h0 : Heap) (n0 : Nat) (v : Option Value) (h : Heap) (L : List Loc) : Prop := v = some (.ref a1) ∧ Fr n0 L ∧ h = h0
set_option maxRecDepth 65536 in
set_option maxHeartbeats 40000000 in
theorem rm7 (l : Launch) (Z : State) (a0 : Array Value) (hw : ∀ d ∈ tables_1, d.before a0 Z = true) (ws : List Jvm.Cond) (a1 a2 : Addr) (h0 : Heap) (n0 : Nat) (Z0 : n0 ≤ h0.size)  : own_Met l Z (⟨"java/util/Objects", "requireNonNull", "(Ljava/lang/Object;Ljava/lang/String;)Ljava/lang/Object;"⟩ : MethodName) jdk_31_method_11_code 2 (some (.object "java/lang/Object")) ws (own_R 0 0 0 0) #[(.ref a1), (.ref a2)] h0 (own_Q7 a1 h0 n0) := by
  refine own_enter n0 own_pn1 (fun m => ef_rm7 m a1 a2 ) (fun p e s m below meth c s₁ hx hby hlk hml hret hown hnm hZ X0 e0 N0 => ?_)
  show own_Fin p e below s _ _ _ s₁ (mkF m 0 #[.val (.ref a1), .val (.ref a2)] [])
  refine own_by (fun _ k => XS.aloadN X0.here hx rfl (hb hby d7_0) rfl rfl k) ?_
  show own_Fin p e below s _ _ _ s₁ (mkF m 1 #[.val (.ref a1), .val (.ref a2)] [(.ref a1)])
  refine own_by (fun _ k => XS.ifnonnullYes X0.here hx rfl (pc0 := 1) (pc' := 13) rfl (hb hby d7_1) rfl (by decide) (by decide) k) ?_
  show own_Fin p e below s _ _ _ s₁ (mkF m 13 #[.val (.ref a1), .val (.ref a2)] [])
  refine own_by (fun _ k => XS.aloadN X0.here hx rfl (hb hby d7_13) rfl rfl k) ?_
  show own_Fin p e below s _ _ _ s₁ (mkF m 14 #[.val (.ref a1), .val (.ref a2)] [(.ref a1)])
  exact own_retA X0 hx hlk (t := (.object "java/lang/Object")) hret rfl rfl rfl (hb hby d7_14) ⟨rfl, N0, e0⟩ (by decide) (by decide)
theorem own_pn7 : plainName "java/lang/StringLatin1" = true := by first | (simp [plainName, overriddenIn]; done) | decide +kernel
theorem d2_0 : decode jdk_43_method_3_code 0 = .ok (.iload_n 0, 1) := by decide +kernel
theorem d2_1 : decode jdk_43_method_3_code 1 = .ok (.sipush 255, 3) := by decide +kernel
theorem d2_4 : decode jdk_43_method_3_code 4 = .ok (.if_icmp .gt 7, 3) := by decide +kernel
theorem d2_7 : decode jdk_43_method_3_code 7 = .ok (.iconst 1, 1) := by decide +kernel
theorem d2_8 : decode jdk_43_method_3_code 8 = .ok (.goto 4, 3) := by decide +kernel
theorem d2_12 : decode jdk_43_method_3_code 12 = .ok (.ireturn, 1) := by decide +kernel
theorem ef_rm2 (m : MethodId) (x0 : Int32) : entryFrame m #[(.int x0)] 1 = mkF m 0 #[.val (.int x0)] [] := by first | (simp [entryFrame, mkF, argsToLocals, Value.category]; done) | rfl
def own_Q2 (h0 : Heap) (n0 : Nat) (v : Option Value) (h : Heap) (L : List Loc) : Prop := v = some (.int (1 : Int32)) ∧ Fr n0 L ∧ h = h0
set_option maxRecDepth 65536 in
set_option maxHeartbeats 40000000 in
theorem rm2 (l : Launch) (Z : State) (a0 : Array Value) (hw : ∀ d ∈ tables_1, d.before a0 Z = true) (ws : List Jvm.Cond) (p1 : Int32) (h0 : Heap) (n0 : Nat) (Z0 : n0 ≤ h0.size) (hp : ¬ (255 : Int32) < p1) : own_Met l Z (⟨"java/lang/StringLatin1", "canEncode", "(C)Z"⟩ : MethodName) jdk_43_method_3_code 1 (some .boolean) ws (own_R 0 0 0 0) #[(.int p1)] h0 (own_Q2 h0 n0) := by
  refine own_enter n0 own_pn7 (fun m => ef_rm2 m p1 ) (fun p e s m below meth c s₁ hx hby hlk hml hret hown hnm hZ X0 e0 N0 => ?_)
  show own_Fin p e below s _ _ _ s₁ (mkF m 0 #[.val (.int p1)] [])
  refine own_by (fun _ k => XS.iloadN X0.here hx rfl (hb hby d2_0) rfl (XS.sipush X0.here hx rfl (hb hby d2_1) k)) ?_
  show own_Fin p e below s _ _ _ s₁ (mkF m 4 #[.val (.int p1)] [(.int (255 : Int32)), (.int p1)])
  refine own_by (fun _ k => XS.icmpNo X0.here hx rfl (hb hby d2_4) rfl (flt hp).2.2.1 k) ?_
  show own_Fin p e below s _ _ _ s₁ (mkF m 7 #[.val (.int p1)] [])
  refine own_by (fun _ k => XS.iconst X0.here hx rfl (hb hby d2_7) (XS.goto X0.here hx rfl (pc0 := 8) (pc' := 12) rfl (hb hby d2_8) (by decide) (by decide) k)) ?_
  show own_Fin p e below s _ _ _ s₁ (mkF m 12 #[.val (.int p1)] [(.int (1 : Int32))])
  exact own_retZ X0 hx hlk (t := .boolean) hret (by simp) (hb hby d2_12) ⟨rfl, N0, e0⟩ (by decide) (by decide)
theorem d3_0 : decode jdk_43_method_46_code 0 = .ok (.iconst 1, 1) := by decide +kernel
theorem d3_1 : decode jdk_43_method_46_code 1 = .ok (.newarray .byte, 2) := by decide +kernel
theorem d3_3 : decode jdk_43_method_46_code 3 = .ok (.dup, 1) := by decide +kernel
theorem d3_4 : decode jdk_43_method_46_code 4 = .ok (.iconst 0, 1) := by decide +kernel
theorem d3_5 : decode jdk_43_method_46_code 5 = .ok (.iload_n 0, 1) := by decide +kernel
theorem d3_6 : decode jdk_43_method_46_code 6 = .ok (.i2b, 1) := by decide +kernel
theorem d3_7 : decode jdk_43_method_46_code 7 = .ok (.bastore, 1) := by decide +kernel
theorem d3_8 : decode jdk_43_method_46_code 8 = .ok (.areturn, 1) := by decide +kernel
theorem ef_rm3 (m : MethodId) (x0 : Int32) : entryFrame m #[(.int x0)] 1 = mkF m 0 #[.val (.int x0)] [] := by first | (simp [entryFrame, mkF, argsToLocals, Value.category]; done) | rfl
def own_Q3 (h0 : Heap) (n0 : Nat) (v : Option Value) (h : Heap) (L : List Loc) : Prop := ∃ a : Addr, v = some (.ref a) ∧ Fr n0 L ∧ Keep h0 h []
set_option maxRecDepth 65536 in
set_option maxHeartbeats 40000000 in
theorem rm3 (l : Launch) (Z : State) (a0 : Array Value) (hw : ∀ d ∈ tables_1, d.before a0 Z = true) (ws : List Jvm.Cond) (p1 : Int32) (h0 : Heap) (n0 : Nat) (Z0 : n0 ≤ h0.size)  : own_Met l Z (⟨"java/lang/StringLatin1", "toBytes", "(C)[B"⟩ : MethodName) jdk_43_method_46_code 1 (some (.array .byte)) ws (own_R 0 1 1 0) #[(.int p1)] h0 (own_Q3 h0 n0) := by
  refine own_enter n0 own_pn7 (fun m => ef_rm3 m p1 ) (fun p e s m below meth c s₁ hx hby hlk hml hret hown hnm hZ X0 e0 N0 => ?_)
  show own_Fin p e below s _ _ _ s₁ (mkF m 0 #[.val (.int p1)] [])
  have Kp1 : Keep h0 h0 [] := Keep.refl h0 _
  refine own_by (fun _ k => XS.iconst X0.here hx rfl (hb hby d3_0) k) ?_
  show own_Fin p e below s _ _ _ s₁ (mkF m 1 #[.val (.int p1)] [(.int (1 : Int32))])
  obtain ⟨T2, h2, k2, X2, e2, E2, A2, st2⟩ := newP X0 hx hZ (hw _ (List.mem_of_getElem? (i := 14) rfl)) e0 (g := (mkF m 1 #[.val (.int p1)] [(.int (1 : Int32))])) rfl (hb hby d3_1) rfl (by decide) (cap := 1) (by decide) (by decide) (by decide) (by decide)
  obtain ⟨b2, g2⟩ : ∃ z, z = h0.size := ⟨_, rfl⟩
  rw [← g2] at A2 st2
  refine own_by (fun _ k => st2 _ k) ?_
  have V2 : Arv Z h2 b2 k2 .byte (1 : Int32) [(.int (0 : Int32))] (.int (0 : Int32)) := (Arv.new A2 (by decide)).pad (pad_rep [] (.int (0 : Int32)) 1)
  have gf2 : n0 ≤ b2 := Nat.le_trans Z0 (Nat.le_of_eq g2.symm)
  have Zs2 : n0 ≤ h2.size := Nat.le_trans Z0 E2.1
  have Kp2 : Keep h0 h2 [] := Kp1.ext E2
  have sz_b2 : h0.size ≤ b2 := Nat.le_trans Kp1.1 (Nat.le_of_eq g2.symm)
  show own_Fin p e below s _ _ _ T2 (mkF m 3 #[.val (.int p1)] [(.ref b2)])
  refine own_by (fun _ k => XS.dup X2.here hx rfl (hb hby d3_3) rfl rfl (XS.iconst X2.here hx rfl (hb hby d3_4) (XS.iloadN X2.here hx rfl (hb hby d3_5) rfl (XS.i2b X2.here hx rfl (hb hby d3_6) rfl k)))) ?_
  show own_Fin p e below s _ _ _ T2 (mkF m 7 #[.val (.int p1)] [(.int (p1.toInt8.toInt32)), (.int (0 : Int32)), (.ref b2), (.ref b2)])
  obtain ⟨cl4, Ar4, q4, S4, M4, H4, G4⟩ := id V2
  have hin4 : ¬ ((0 : Int32) < 0 ∨ cl4.slots.size ≤ ((0 : Int32)).toNatClampNeg) := inb_of S4 ⟨by decide, by decide⟩
  obtain ⟨T4, h4, X4, e4, W4, st4⟩ := stB X2 hx hZ e2 Ar4 (j := (0 : Int32)) hin4 (g := (mkF m 7 #[.val (.int p1)] [(.int (p1.toInt8.toInt32)), (.int (0 : Int32)), (.ref b2), (.ref b2)])) rfl rfl (hb hby d3_7)
  refine own_by (fun _ k => st4 _ k) ?_
  have V4 : Arv Z h4 b2 k2 .byte (1 : Int32) [(.int (p1.toInt8.toInt32).toInt8.toInt32)] (.int (0 : Int32)) := Arv.set Ar4 q4 S4 M4 H4 G4 (fits_nar_byte _) W4 0 rfl (Nat.le_of_ble_eq_true rfl)
  have Kp4 : Keep h0 h4 [] := Kp2.wr W4 (Or.inr sz_b2)
  have Zs4 : n0 ≤ h4.size := Nat.le_trans Zs2 (Keep.of_wr W4).1
  have N4 := Fr.snoc X4 N0 gf2
  show own_Fin p e below s _ _ _ T4 (mkF m 8 #[.val (.int p1)] [(.ref b2)])
  exact own_retA X4 hx hlk (t := (.array .byte)) hret rfl rfl rfl (hb hby d3_8) (by rw [e4]; exact ⟨_, rfl, N4, Kp4⟩) (by decide) (by decide)
theorem own_pn24 : plainName "java/lang/String" = true := by first | (simp [plainName, overriddenIn]; done) | decide +kernel
theorem d4_0 : decode jdk_42_method_151_code 0 = .ok (.aload_n 0, 1) := by decide +kernel
theorem d4_1 : decode jdk_42_method_151_code 1 = .ok (.invokespecial 1, 3) := by decide +kernel
theorem d4_4 : decode jdk_42_method_151_code 4 = .ok (.aload_n 0, 1) := by decide +kernel
theorem d4_5 : decode jdk_42_method_151_code 5 = .ok (.aload_n 1, 1) := by decide +kernel
theorem d4_6 : decode jdk_42_method_151_code 6 = .ok (.putfield 9, 3) := by decide +kernel
theorem d4_9 : decode jdk_42_method_151_code 9 = .ok (.aload_n 0, 1) := by decide +kernel
theorem d4_10 : decode jdk_42_method_151_code 10 = .ok (.iload_n 2, 1) := by decide +kernel
theorem d4_11 : decode jdk_42_method_151_code 11 = .ok (.putfield 15, 3) := by decide +kernel
theorem d4_14 : decode jdk_42_method_151_code 14 = .ok (.return_, 1) := by decide +kernel
theorem ef_rm4 (m : MethodId) (x0 : Addr) (x1 : Addr) (x2 : Int32) : entryFrame m #[(.ref x0), (.ref x1), (.int x2)] 3 = mkF m 0 #[.val (.ref x0), .val (.ref x1), .val (.int x2)] [] := by first | (simp [entryFrame, mkF, argsToLocals, Value.category]; done) | rfl
def own_Q4 (a1 : Addr) (h0 : Heap) (n0 : Nat) (v : Option Value) (h : Heap) (L : List Loc) : Prop := v = none ∧ Fr n0 L ∧ Keep h0 h [a1]
set_option maxRecDepth 65536 in
set_option maxHeartbeats 40000000 in
theorem rm4 (l : Launch) (Z : State) (a0 : Array Value) (hw : ∀ d ∈ tables_1, d.before a0 Z = true) (ws : List Jvm.Cond) (a1 a2 : Addr) (p3 : Int32) (u1 u2 : Value) (h0 : Heap) (n0 : Nat) (Z0 : n0 ≤ h0.size) (E_a1 : Exa Z h0 a1 "java/lang/String") (F_v : Fld Z h0 a1 "java/lang/String" "value" "[B" u1) (F_c : Fld Z h0 a1 "java/lang/String" "coder" "B" u2) (g_a1 : n0 ≤ a1) : own_Met l Z (⟨"java/lang/String", "<init>", "([BB)V"⟩ : MethodName) jdk_42_method_151_code 3 none ws (own_R 1 0 0 12) #[(.ref a1), (.ref a2), (.int p3)] h0 (own_Q4 a1 h0 n0) := by
  refine own_enter n0 own_pn24 (fun m => ef_rm4 m a1 a2 p3 ) (fun p e s m below meth c s₁ hx hby hlk hml hret hown hnm hZ X0 e0 N0 => ?_)
  show own_Fin p e below s _ _ _ s₁ (mkF m 0 #[.val (.ref a1), .val (.ref a2), .val (.int p3)] [])
  have Kp6 : Keep h0 h0 [a1] := Keep.refl h0 _
  refine own_by (fun _ k => XS.aloadN X0.here hx rfl (hb hby d4_0) rfl rfl k) ?_
  show own_Fin p e below s _ _ _ s₁ (mkF m 1 #[.val (.ref a1), .val (.ref a2), .val (.int p3)] [(.ref a1)])
  obtain ⟨T7, X7, e7, st7⟩ := initO X0 hx hZ hown (hw _ (List.mem_of_getElem? (i := 19) rfl)) (hw _ (List.mem_of_getElem? (i := 20) rfl)) (hw _ (List.mem_of_getElem? (i := 21) rfl)) e0 (g := (mkF m 1 #[.val (.ref a1), .val (.ref a2), .val (.int p3)] [(.ref a1)])) rfl (by rw [hml]; rfl) rfl (hb hby d4_1) (by decide) (W := 0) (by show 2 * 0 + _ ≤ _; exact Nat.le_of_eq rfl) (by decide)
  refine own_by (fun _ k => st7 _ k) ?_
  show own_Fin p e below s _ _ _ T7 (mkF m 4 #[.val (.ref a1), .val (.ref a2), .val (.int p3)] [])
  refine own_by (fun _ k => XS.aloadN X7.here hx rfl (hb hby d4_4) rfl rfl (XS.aloadN X7.here hx rfl (hb hby d4_5) rfl rfl k)) ?_
  show own_Fin p e below s _ _ _ T7 (mkF m 6 #[.val (.ref a1), .val (.ref a2), .val (.int p3)] [(.ref a2), (.ref a1)])
  obtain ⟨T8, h8, X8, e8, W8, st8⟩ := putF X7 hx hZ hown (host := "") (Or.inl (hw _ (List.mem_of_getElem? (i := 22) rfl))) Via.refl e7 F_v E_a1 (Or.inr ⟨(hw _ (List.mem_of_getElem? (i := 23) rfl)), rfl, hnm⟩) (hw _ (List.mem_of_getElem? (i := 10) rfl)) (ty := (.array .byte)) (by decide) rfl rfl (g := (mkF m 6 #[.val (.ref a1), .val (.ref a2), .val (.int p3)] [(.ref a2), (.ref a1)])) rfl rfl (hb hby d4_6)
  refine own_by (fun _ k => st8 _ k) ?_
  have Fw8 : Fld Z h8 a1 "java/lang/String" "value" "[B" (.ref a2) := F_v.same W8
  have Kp8 : Keep h0 h8 [a1] := Kp6.wr W8 (Or.inl (List.mem_of_getElem? (i := 0) rfl))
  have Zs8 : n0 ≤ h8.size := Nat.le_trans Z0 (Keep.of_wr W8).1
  have N8 := Fr.snoc X8 N0 g_a1
  have f9_0 : Exa Z h8 a1 "java/lang/String" := E_a1.wr W8
  have f9_2 : Fld Z h8 a1 "java/lang/String" "coder" "B" u2 := F_c.other W8 (Or.inr (slot_ne (Or.inr (hw _ (List.mem_of_getElem? (i := 25) rfl))) (Or.inr (hw _ (List.mem_of_getElem? (i := 23) rfl))) (by decide) (t := .byte) (t' := (.array .byte)) (by decide) (by decide)))
  show own_Fin p e below s _ _ _ T8 (mkF m 9 #[.val (.ref a1), .val (.ref a2), .val (.int p3)] [])
  refine own_by (fun _ k => XS.aloadN X8.here hx rfl (hb hby d4_9) rfl rfl (XS.iloadN X8.here hx rfl (hb hby d4_10) rfl k)) ?_
  show own_Fin p e below s _ _ _ T8 (mkF m 11 #[.val (.ref a1), .val (.ref a2), .val (.int p3)] [(.int p3), (.ref a1)])
  obtain ⟨T10, h10, X10, e10, W10, st10⟩ := putFN X8 hx hZ hown (hw _ (List.mem_of_getElem? (i := 24) rfl)) Via.refl e8 f9_2 f9_0 (Or.inr ⟨(hw _ (List.mem_of_getElem? (i := 25) rfl)), rfl, hnm⟩) (hw _ (List.mem_of_getElem? (i := 10) rfl)) (ty := .byte) (v' := (.int (nar .byte p3))) (by decide) rfl (fits_nar_byte _) (g := (mkF m 11 #[.val (.ref a1), .val (.ref a2), .val (.int p3)] [(.int p3), (.ref a1)])) rfl rfl (hb hby d4_11)
  refine own_by (fun _ k => st10 _ k) ?_
  have Fw10 : Fld Z h10 a1 "java/lang/String" "coder" "B" (.int (nar .byte p3)) := f9_2.same W10
  have Kp10 : Keep h0 h10 [a1] := Kp8.wr W10 (Or.inl (List.mem_of_getElem? (i := 0) rfl))
  have Zs10 : n0 ≤ h10.size := Nat.le_trans Zs8 (Keep.of_wr W10).1
  have N10 := Fr.snoc X10 N8 g_a1
  have f11_0 : Exa Z h10 a1 "java/lang/String" := f9_0.wr W10
  have f11_2 : Fld Z h10 a1 "java/lang/String" "value" "[B" (.ref a2) := Fw8.other W10 (Or.inr (slot_ne (Or.inr (hw _ (List.mem_of_getElem? (i := 23) rfl))) (Or.inr (hw _ (List.mem_of_getElem? (i := 25) rfl))) (by decide) (t := (.array .byte)) (t' := .byte) (by decide) (by decide)))
  show own_Fin p e below s _ _ _ T10 (mkF m 14 #[.val (.ref a1), .val (.ref a2), .val (.int p3)] [])
  exact own_retV X10 hx hlk hret (hb hby d4_14) (by rw [e10]; exact ⟨rfl, N10, Kp10⟩) (by decide) (by decide)
theorem d1_0 : decode jdk_42_method_139_code 0 = .ok (.getstatic 38, 3) := by decide +kernel
theorem d1_3 : decode jdk_42_method_139_code 3 = .ok (.ifCond .eq 23, 3) := by decide +kernel
theorem d1_6 : decode jdk_42_method_139_code 6 = .ok (.iload_n 0, 1) := by decide +kernel
theorem d1_7 : decode jdk_42_method_139_code 7 = .ok (.invokestatic 1015, 3) := by decide +kernel
theorem own_pd39 : parseMethodDescriptor "(C)Z" = some ⟨[.char], some .boolean⟩ := by decide +kernel
theorem d1_10 : decode jdk_42_method_139_code 10 = .ok (.ifCond .eq 16, 3) := by decide +kernel
theorem d1_13 : decode jdk_42_method_139_code 13 = .ok (.new 10, 3) := by decide +kernel
theorem d1_16 : decode jdk_42_method_139_code 16 = .ok (.dup, 1) := by decide +kernel
theorem d1_17 : decode jdk_42_method_139_code 17 = .ok (.iload_n 0, 1) := by decide +kernel
theorem d1_18 : decode jdk_42_method_139_code 18 = .ok (.invokestatic 1018, 3) := by decide +kernel
theorem own_pd45 : parseMethodDescriptor "(C)[B" = some ⟨[.char], some (.array .byte)⟩ := by decide +kernel
theorem d1_21 : decode jdk_42_method_139_code 21 = .ok (.iconst 0, 1) := by decide +kernel
theorem d1_22 : decode jdk_42_method_139_code 22 = .ok (.invokespecial 209, 3) := by decide +kernel
theorem own_pd48 : parseMethodDescriptor "([BB)V" = some ⟨[(.array .byte), .byte], none⟩ := by decide +kernel
theorem d1_25 : decode jdk_42_method_139_code 25 = .ok (.areturn, 1) := by decide +kernel
theorem ef_rm1 (m : MethodId) (x0 : Int32) : entryFrame m #[(.int x0)] 1 = mkF m 0 #[.val (.int x0)] [] := by first | (simp [entryFrame, mkF, argsToLocals, Value.category]; done) | rfl
def own_Q1 (Z : State) (h0 : Heap) (n0 : Nat) (v : Option Value) (h : Heap) (L : List Loc) : Prop := ∃ a : Addr, v = some (.ref a) ∧ Fr n0 L ∧ Keep h0 h [] ∧ Exa Z h a "java/lang/String"
set_option maxRecDepth 65536 in
set_option maxHeartbeats 40000000 in
theorem rm1 (l : Launch) (Z : State) (a0 : Array Value) (hw : ∀ d ∈ tables_1, d.before a0 Z = true) (ws : List Jvm.Cond) (p1 cs : Int32) (h0 : Heap) (n0 : Nat) (Z0 : n0 ≤ h0.size) (hp : ¬ (255 : Int32) < p1) (S_cs : Sta Z h0 "java/lang/String" "COMPACT_STRINGS" "Z" (.int cs)) (hcs : ¬ cs = (0 : Int32)) : own_Met l Z (⟨"java/lang/String", "valueOf", "(C)Ljava/lang/String;"⟩ : MethodName) jdk_42_method_139_code 1 (some (.object "java/lang/String")) ws (own_R 2 2 5 30) #[(.int p1)] h0 (own_Q1 Z h0 n0) := by
  refine own_enter n0 own_pn24 (fun m => ef_rm1 m p1 ) (fun p e s m below meth c s₁ hx hby hlk hml hret hown hnm hZ X0 e0 N0 => ?_)
  show own_Fin p e below s _ _ _ s₁ (mkF m 0 #[.val (.int p1)] [])
  have Kp12 : Keep h0 h0 [] := Keep.refl h0 _
  obtain ⟨T13, X13, e13, st13⟩ := getS2 X0 hx hZ hown (host := "") (Or.inl (hw _ (List.mem_of_getElem? (i := 4) rfl))) Via.refl e0 S_cs (g := (mkF m 0 #[.val (.int p1)] [])) rfl (hb hby d1_0)
  refine own_by (fun _ k => st13 _ k) ?_
  show own_Fin p e below s _ _ _ T13 (mkF m 3 #[.val (.int p1)] [(.int cs)])
  refine own_by (fun _ k => XS.ifNo X13.here hx rfl (hb hby d1_3) rfl ((if0 _ _).trans (feq hcs).1) k) ?_
  show own_Fin p e below s _ _ _ T13 (mkF m 6 #[.val (.int p1)] [])
  refine own_by (fun _ k => XS.iloadN X13.here hx rfl (hb hby d1_6) rfl k) ?_
  show own_Fin p e below s _ _ _ T13 (mkF m 7 #[.val (.int p1)] [(.int p1)])
  obtain ⟨_, _, ⟨T14, L14, k14, n14⟩, -, X14, ⟨Lc14, hQ14, l14, y14, z14⟩, st14⟩ := Jvm.LawKit.callS X13 hx (y := (⟨"java/lang/StringLatin1", "canEncode", "(C)Z"⟩ : MethodName)) hown (mvT hZ (hw _ (List.mem_of_getElem? (i := 5) rfl))) (mvT hZ (hw _ (List.mem_of_getElem? (i := 6) rfl))) (mvT hZ (hw _ (List.mem_of_getElem? (i := 7) rfl))) (mvT hZ (hw _ (List.mem_of_getElem? (i := 8) rfl))) (by decide) (backOf (W := 0) (rm2 l Z a0 hw [] p1 h0 n0 Z0 hp) hZ (hw _ (List.mem_of_getElem? (i := 8) rfl)) (hw _ (List.mem_of_getElem? (i := 7) rfl)) (by decide) (by decide)) (g := (mkF m 7 #[.val (.int p1)] [(.int p1)])) rfl (by rw [hml]; rfl) (argsL := [(.int p1)]) (rest := []) (lenOf own_pd39 rfl) rfl (by show 2 * 0 + _ ≤ _; exact Nat.le_of_eq rfl) (hb hby d1_7) (fun _ _ => ⟨rfl, e13, (by decide : 0 + 0 ≤ _), (by decide : 0 + 0 ≤ _)⟩)
  dsimp only [Pt.U, Pt.locs, Pt.cells, Pt.slots] at X14 l14 y14 z14 st14 hQ14
  subst l14 y14 z14
  obtain ⟨rfl, Nq14, eh14⟩ := hQ14
  have N14 := Fr.app N0 Nq14
  refine own_by (fun _ k => st14 _ k) ?_
  show own_Fin p e below s _ _ _ T14 (mkF m 10 #[.val (.int p1)] [(.int (1 : Int32))])
  refine own_by (fun _ k => XS.ifNo X14.here hx rfl (hb hby d1_10) rfl ((if0 _ _).trans (feq (by decide : ¬ ((1 : Int32) = (0 : Int32)))).1) k) ?_
  show own_Fin p e below s _ _ _ T14 (mkF m 13 #[.val (.int p1)] [])
  obtain ⟨T15, h15, X15, e15, E15, A15, D15, -, st15⟩ := newO X14 hx hZ hown (hw _ (List.mem_of_getElem? (i := 9) rfl)) (hw _ (List.mem_of_getElem? (i := 10) rfl)) (hw _ (List.mem_of_getElem? (i := 2) rfl)) eh14 (g := (mkF m 13 #[.val (.int p1)] [])) rfl (hb hby d1_13) (by decide) (by decide)
  obtain ⟨b15, g15⟩ : ∃ z, z = h0.size := ⟨_, rfl⟩
  rw [← g15] at A15 D15 st15
  refine own_by (fun _ k => st15 _ k) ?_
  have gf15 : n0 ≤ b15 := Nat.le_trans Z0 (Nat.le_of_eq g15.symm)
  have Zs15 : n0 ≤ h15.size := Nat.le_trans Z0 E15.1
  have Kp15 : Keep h0 h15 [] := Kp12.ext E15
  have sz_b15 : h0.size ≤ b15 := Nat.le_trans Kp12.1 (Nat.le_of_eq g15.symm)
  have F15_value : Fld Z h15 b15 "java/lang/String" "value" "[B" .null := D15 (Or.inr (hw _ (List.mem_of_getElem? (i := 23) rfl))) (ty := (.array .byte)) (by decide)
  have F15_coder : Fld Z h15 b15 "java/lang/String" "coder" "B" (.int (0 : Int32)) := D15 (Or.inr (hw _ (List.mem_of_getElem? (i := 25) rfl))) (ty := .byte) (by decide)
  show own_Fin p e below s _ _ _ T15 (mkF m 16 #[.val (.int p1)] [(.ref b15)])
  refine own_by (fun _ k => XS.dup X15.here hx rfl (hb hby d1_16) rfl rfl (XS.iloadN X15.here hx rfl (hb hby d1_17) rfl k)) ?_
  show own_Fin p e below s _ _ _ T15 (mkF m 18 #[.val (.int p1)] [(.int p1), (.ref b15), (.ref b15)])
  obtain ⟨_, _, ⟨T17, L17, k17, n17⟩, -, X17, ⟨Lc17, hQ17, l17, y17, z17⟩, st17⟩ := Jvm.LawKit.callS X15 hx (y := (⟨"java/lang/StringLatin1", "toBytes", "(C)[B"⟩ : MethodName)) hown (mvT hZ (hw _ (List.mem_of_getElem? (i := 11) rfl))) (mvT hZ (hw _ (List.mem_of_getElem? (i := 12) rfl))) (mvT hZ (hw _ (List.mem_of_getElem? (i := 7) rfl))) (mvT hZ (hw _ (List.mem_of_getElem? (i := 13) rfl))) (by decide) (backOf (W := 2) (rm3 l Z a0 hw [] p1 h15 n0 Zs15) hZ (hw _ (List.mem_of_getElem? (i := 13) rfl)) (hw _ (List.mem_of_getElem? (i := 7) rfl)) (by decide) (by decide)) (g := (mkF m 18 #[.val (.int p1)] [(.int p1), (.ref b15), (.ref b15)])) rfl (by rw [hml]; rfl) (argsL := [(.int p1)]) (rest := [(.ref b15), (.ref b15)]) (lenOf own_pd45 rfl) rfl (by show 2 * 0 + _ ≤ _; exact Nat.le_of_eq rfl) (hb hby d1_18) (fun _ _ => ⟨rfl, e15, (by decide : 1 + 1 ≤ _), (by decide : 4 + 1 ≤ _)⟩)
  dsimp only [Pt.U, Pt.locs, Pt.cells, Pt.slots] at X17 l17 y17 z17 st17 hQ17
  subst l17 y17 z17
  obtain ⟨b17, rfl, Nq17, K17⟩ := hQ17
  have N17 := Fr.app N14 Nq17
  refine own_by (fun _ k => st17 _ k) ?_
  have Zs17 : n0 ≤ T17.heap.size := Nat.le_trans Zs15 K17.1
  have Kp17 : Keep h0 T17.heap [] := Kp15.trans K17 all0
  have f18_0 : Exa Z T17.heap b15 "java/lang/String" := A15.keep K17
  have f18_1 : Fld Z T17.heap b15 "java/lang/String" "value" "[B" .null := F15_value.keep K17 nin0
  have f18_2 : Fld Z T17.heap b15 "java/lang/String" "coder" "B" (.int (0 : Int32)) := F15_coder.keep K17 nin0
  show own_Fin p e below s _ _ _ T17 (mkF m 21 #[.val (.int p1)] [(.ref b17), (.ref b15), (.ref b15)])
  refine own_by (fun _ k => XS.iconst X17.here hx rfl (hb hby d1_21) k) ?_
  show own_Fin p e below s _ _ _ T17 (mkF m 22 #[.val (.int p1)] [(.int (0 : Int32)), (.ref b17), (.ref b15), (.ref b15)])
  obtain ⟨_, _, ⟨T19, L19, k19, n19⟩, -, X19, ⟨Lc19, hQ19, l19, y19, z19⟩, st19⟩ := X17.specialBack hx (y := (⟨"java/lang/String", "<init>", "([BB)V"⟩ : MethodName)) rfl hown (mvT hZ (hw _ (List.mem_of_getElem? (i := 15) rfl))) (mvT hZ (hw _ (List.mem_of_getElem? (i := 16) rfl))) (mvT hZ (hw _ (List.mem_of_getElem? (i := 18) rfl))) (by decide) (backOf (W := 1) (rm4 l Z a0 hw [] b15 b17 (0 : Int32) _ _ T17.heap n0 Zs17 f18_0 f18_1 f18_2 gf15) hZ (hw _ (List.mem_of_getElem? (i := 18) rfl)) (hw _ (List.mem_of_getElem? (i := 2) rfl)) (by decide) (by decide)) (g := (mkF m 22 #[.val (.int p1)] [(.int (0 : Int32)), (.ref b17), (.ref b15), (.ref b15)])) rfl (by rw [hml]; rfl) (Steps.refl _) (a := b15) (argsL := [(.ref b17), (.int (0 : Int32))]) (rest := [(.ref b15)]) (lenOf own_pd48 rfl) rfl (by show 2 * 0 + _ ≤ _; exact Nat.le_of_eq rfl) (hb hby d1_22) (fun _ _ => ⟨rfl, rfl, (by decide : 2 + 0 ≤ _), (by decide : 5 + 0 ≤ _)⟩)
  dsimp only [Pt.U, Pt.locs, Pt.cells, Pt.slots] at X19 l19 y19 z19 st19 hQ19
  subst l19 y19 z19
  obtain ⟨rfl, Nq19, K19⟩ := hQ19
  have N19 := Fr.app N17 Nq19
  refine own_by (fun _ k => st19.trans k) ?_
  have Zs19 : n0 ≤ T19.heap.size := Nat.le_trans Zs17 K19.1
  have Kp19 : Keep h0 T19.heap [] := Kp17.trans K19 (allS (Or.inr sz_b15) all0)
  have f20_0 : Exa Z T19.heap b15 "java/lang/String" := f18_0.keep K19
  show own_Fin p e below s _ _ _ T19 (mkF m 25 #[.val (.int p1)] [(.ref b15)])
  exact own_retA X19 hx hlk (t := (.object "java/lang/String")) hret rfl rfl rfl (hb hby d1_25) ⟨_, rfl, N19, Kp19, f20_0⟩ (by decide) (by decide)
theorem own_pn51 : plainName "com/example/mosub/mosub/model/Stamp" = true := by first | (simp [plainName, overriddenIn]; done) | decide +kernel
theorem d6_0 : decode prog_45_method_1_code 0 = .ok (.aload_n 0, 1) := by decide +kernel
theorem d6_1 : decode prog_45_method_1_code 1 = .ok (.invokespecial 1, 3) := by decide +kernel
theorem d6_4 : decode prog_45_method_1_code 4 = .ok (.aload_n 0, 1) := by decide +kernel
theorem d6_5 : decode prog_45_method_1_code 5 = .ok (.lload_n 1, 1) := by decide +kernel
theorem d6_6 : decode prog_45_method_1_code 6 = .ok (.putfield 7, 3) := by decide +kernel
theorem d6_9 : decode prog_45_method_1_code 9 = .ok (.aload_n 0, 1) := by decide +kernel
theorem d6_10 : decode prog_45_method_1_code 10 = .ok (.aload_n 3, 1) := by decide +kernel
theorem d6_11 : decode prog_45_method_1_code 11 = .ok (.ldc 13, 2) := by decide +kernel
theorem d6_13 : decode prog_45_method_1_code 13 = .ok (.invokestatic 15, 3) := by decide +kernel
theorem own_pd61 : parseMethodDescriptor "(Ljava/lang/Object;Ljava/lang/String;)Ljava/lang/Object;" = some ⟨[(.object "java/lang/Object"), (.object "java/lang/String")], some (.object "java/lang/Object")⟩ := by decide +kernel
theorem d6_16 : decode prog_45_method_1_code 16 = .ok (.checkcast 21, 3) := by decide +kernel
theorem d6_19 : decode prog_45_method_1_code 19 = .ok (.putfield 23, 3) := by decide +kernel
theorem d6_22 : decode prog_45_method_1_code 22 = .ok (.return_, 1) := by decide +kernel
theorem ef_rmS (m : MethodId) (x0 : Addr) (x1 : Int64) (x2 : Addr) : entryFrame m #[(.ref x0), (.long x1), (.ref x2)] 4 = mkF m 0 #[.val (.ref x0), .val (.long x1), .second, .val (.ref x2)] [] := by first | (simp [entryFrame, mkF, argsToLocals, Value.category]; done) | rfl
def own_QrmS (Z : State) (a1 a3 : Addr) (h0 : Heap) (n0 : Nat) (v : Option Value) (h : Heap) (L : List Loc) : Prop := v = none ∧ Fr n0 L ∧ Keep h0 h [a1]
set_option maxRecDepth 65536 in
set_option maxHeartbeats 40000000 in
theorem rmS (l : Launch) (Z : State) (a0 : Array Value) (hw : ∀ d ∈ tables_1, d.before a0 Z = true) (ws : List Jvm.Cond) (a1 a3 : Addr) (p2 : Int64) (u_number u_origin : Value) (h0 : Heap) (n0 : Nat) (Z0 : n0 ≤ h0.size) (E_a1 : Exa Z h0 a1 "com/example/mosub/mosub/model/Stamp") (F_number : Fld Z h0 a1 "com/example/mosub/mosub/model/Stamp" "number" "J" u_number) (F_origin : Fld Z h0 a1 "com/example/mosub/mosub/model/Stamp" "origin" "Ljava/lang/String;" u_origin) (g_a1 : n0 ≤ a1) (E_a3 : Exa Z h0 a3 "java/lang/String") :
    MetFree l (⟨"com/example/mosub/mosub/model/Stamp", "<init>", "(JLjava/lang/String;)V"⟩ : MethodName) (head1 (Jvm.Cond.code (⟨"com/example/mosub/mosub/model/Stamp", "<init>", "(JLjava/lang/String;)V"⟩ : MethodName) prog_45_method_1_code 4 none :: ws) (own_R 1 2 28 30)) (fun a U => a = #[(.ref a1), (.long p2), (.ref a3)] ∧ Z.Warmed39 U.vm ∧ U.heap = h0) (fun _ _ _ _ _ => True) (fun _ U o U' => ∃ v L, o = .returned v ∧ own_QrmS Z a1 a3 h0 n0 v U'.heap L ∧ ReturnedEndW U o U' L (own_R 1 2 28 30).cells (own_R 1 2 28 30).slots) := by
  refine MetFree.of_bodySF (plainFor_of_name own_pn51) hisR ?_
  intro p e s m args below meth c s₁ Bd hml0 hP hK
  obtain ⟨rfl, hZ, hh⟩ := hP
  have hx := Bd.exec
  have hby := Bd.bytes
  have hlk := Bd.notSynchronized
  have hml : c.maxLocals = 4 := hml0
  have hown : s.vm.findClass "com/example/mosub/mosub/model/Stamp" = some m.cls := findClass_of_methodNamed Bd.named
  have hnm := (name_of_methodNamed Bd.named Bd.method).1
  have X0 : Stand p l e (own_R 1 2 28 30) (s.setVm s.vm) m #[(.ref a1), (.long p2), (.ref a3)] below meth c s₁ [] 0 0 := Stand.of_body Bd
  have e0 : s₁.heap = h0 := by rw [← hh, Bd.state]; rfl
  have N0 := Fr.nil n0
  refine own_startW (Q := own_QrmS Z a1 a3 h0 n0) (C := (own_R 1 2 28 30).cells) (N := (own_R 1 2 28 30).slots) (ef_rmS m a1 p2 a3 ) ?_
  have hS0 : s.Since s.vm h0.size := (State.WarmedH.refl s).since _
  have hk0 : h0.size ≤ h0.size := Nat.le_refl _
  replace hown : (s.setVm s.vm).vm.findClass "com/example/mosub/mosub/model/Stamp" = some m.cls := hown
  replace hZ : Z.Warmed39 (s.setVm s.vm).vm := hZ
  show own_FinW p e below s _ _ _ s₁ (mkF m 0 #[.val (.ref a1), .val (.long p2), .second, .val (.ref a3)] [])
  have Kp21 : Keep h0 h0 [a1] := Keep.refl h0 _
  refine own_byW (fun _ k => XS.aloadN X0.here hx rfl (hb hby d6_0) rfl rfl k) ?_
  show own_FinW p e below s _ _ _ s₁ (mkF m 1 #[.val (.ref a1), .val (.long p2), .second, .val (.ref a3)] [(.ref a1)])
  obtain ⟨T22, X22, e22, st22⟩ := initO X0 hx hZ hown (hw _ (List.mem_of_getElem? (i := 32) rfl)) (hw _ (List.mem_of_getElem? (i := 20) rfl)) (hw _ (List.mem_of_getElem? (i := 21) rfl)) e0 (g := (mkF m 1 #[.val (.ref a1), .val (.long p2), .second, .val (.ref a3)] [(.ref a1)])) rfl (by rw [hml]; rfl) rfl (hb hby d6_1) (by decide) (W := 0) (by show 2 * 0 + _ ≤ _; exact Nat.le_of_eq rfl) (by decide)
  refine own_byW (fun _ k => st22 _ k) ?_
  show own_FinW p e below s _ _ _ T22 (mkF m 4 #[.val (.ref a1), .val (.long p2), .second, .val (.ref a3)] [])
  refine own_byW (fun _ k => XS.aloadN X22.here hx rfl (hb hby d6_4) rfl rfl (XS.lloadN X22.here hx rfl (hb hby d6_5) rfl k)) ?_
  show own_FinW p e below s _ _ _ T22 (mkF m 6 #[.val (.ref a1), .val (.long p2), .second, .val (.ref a3)] [(.long p2), (.ref a1)])
  obtain ⟨T23, h23, X23, e23, W23, st23⟩ := putF X22 hx hZ hown (host := "") (Or.inl (hw _ (List.mem_of_getElem? (i := 33) rfl))) Via.refl e22 F_number E_a1 (Or.inr ⟨(hw _ (List.mem_of_getElem? (i := 34) rfl)), rfl, hnm⟩) (hw _ (List.mem_of_getElem? (i := 27) rfl)) (ty := .long) (by decide) rfl rfl (g := (mkF m 6 #[.val (.ref a1), .val (.long p2), .second, .val (.ref a3)] [(.long p2), (.ref a1)])) rfl rfl (hb hby d6_6)
  refine own_byW (fun _ k => st23 _ k) ?_
  have Fw23 : Fld Z h23 a1 "com/example/mosub/mosub/model/Stamp" "number" "J" (.long p2) := F_number.same W23
  have Kp23 : Keep h0 h23 [a1] := Kp21.wr W23 (Or.inl (List.mem_of_getElem? (i := 0) rfl))
  have Zs23 : n0 ≤ h23.size := Nat.le_trans Z0 (Keep.of_wr W23).1
  have N23 := Fr.snoc X23 N0 g_a1
  have hkE23 : _ ≤ h23.size := Nat.le_trans hk0 (Keep.of_wr W23).1
  have f24_0 : Exa Z h23 a1 "com/example/mosub/mosub/model/Stamp" := E_a1.wr W23
  have f24_2 : Fld Z h23 a1 "com/example/mosub/mosub/model/Stamp" "origin" "Ljava/lang/String;" u_origin := F_origin.other W23 (Or.inr (slot_ne (Or.inr (hw _ (List.mem_of_getElem? (i := 44) rfl))) (Or.inr (hw _ (List.mem_of_getElem? (i := 34) rfl))) (by decide) (t := (.object "java/lang/String")) (t' := .long) (by decide) (by decide)))
  have f24_3 : Exa Z h23 a3 "java/lang/String" := E_a3.wr W23
  show own_FinW p e below s _ _ _ T23 (mkF m 9 #[.val (.ref a1), .val (.long p2), .second, .val (.ref a3)] [])
  refine own_byW (fun _ k => XS.aloadN X23.here hx rfl (hb hby d6_9) rfl rfl (XS.aloadN X23.here hx rfl (hb hby d6_10) rfl rfl k)) ?_
  show own_FinW p e below s _ _ _ T23 (mkF m 11 #[.val (.ref a1), .val (.long p2), .second, .val (.ref a3)] [(.ref a3), (.ref a1)])
  obtain ⟨b25, T25, h25, k25, X25, e25, E25, hS25, hkE25, hZ25, hown25, st25⟩ := ldcS (s := s) (vm0 := s.vm) X23 hx hZ hown (hw _ (List.mem_of_getElem? (i := 35) rfl)) (own_wS hw) e23 hS0 hkE23 (g := (mkF m 11 #[.val (.ref a1), .val (.long p2), .second, .val (.ref a3)] [(.ref a3), (.ref a1)])) rfl (hb hby d6_11) (n := 24) (by decide) (by decide) (by decide) (by decide)
  replace hZ := hZ25
  replace hown := hown25
  refine own_byW (fun _ k => st25 _ k) ?_
  have Zs25 : n0 ≤ h25.size := Nat.le_trans Zs23 E25.1
  have Kp25 : Keep h0 h25 [a1] := Kp23.ext E25
  have f26_0 : Exa Z h25 a1 "com/example/mosub/mosub/model/Stamp" := f24_0.ext E25
  have f26_1 : Fld Z h25 a1 "com/example/mosub/mosub/model/Stamp" "origin" "Ljava/lang/String;" u_origin := f24_2.ext E25
  have f26_2 : Exa Z h25 a3 "java/lang/String" := f24_3.ext E25
  have f26_3 : Fld Z h25 a1 "com/example/mosub/mosub/model/Stamp" "number" "J" (.long p2) := Fw23.ext E25
  show own_FinW p e below s _ _ _ T25 (mkF m 13 #[.val (.ref a1), .val (.long p2), .second, .val (.ref a3)] [(.ref b25), (.ref a3), (.ref a1)])
  obtain ⟨_, _, ⟨T27, L27, k27, n27⟩, -, X27, ⟨Lc27, hQ27, l27, y27, z27⟩, st27⟩ := Jvm.LawKit.callS X25 hx (y := (⟨"java/util/Objects", "requireNonNull", "(Ljava/lang/Object;Ljava/lang/String;)Ljava/lang/Object;"⟩ : MethodName)) hown (mvT hZ (hw _ (List.mem_of_getElem? (i := 38) rfl))) (mvT hZ (hw _ (List.mem_of_getElem? (i := 39) rfl))) (mvT hZ (hw _ (List.mem_of_getElem? (i := 40) rfl))) (mvT hZ (hw _ (List.mem_of_getElem? (i := 41) rfl))) (by decide) (backOf (W := 1) (rm7 l Z a0 hw [] a3 b25 h25 n0 Zs25 ) hZ (hw _ (List.mem_of_getElem? (i := 41) rfl)) (hw _ (List.mem_of_getElem? (i := 40) rfl)) (by decide) (by decide)) (g := (mkF m 13 #[.val (.ref a1), .val (.long p2), .second, .val (.ref a3)] [(.ref b25), (.ref a3), (.ref a1)])) rfl (by rw [hml]; rfl) (argsL := [(.ref a3), (.ref b25)]) (rest := [(.ref a1)]) (lenOf own_pd61 rfl) rfl (by show 2 * 0 + _ ≤ _; exact Nat.le_of_eq rfl) (hb hby d6_13) (fun _ _ => ⟨rfl, e25, (by decide : 2 + 0 ≤ _), (by decide : 28 + 0 ≤ _)⟩)
  dsimp only [Pt.U, Pt.locs, Pt.cells, Pt.slots] at X27 l27 y27 z27 st27 hQ27
  subst l27 y27 z27
  obtain ⟨rfl, Nq27, eh27⟩ := hQ27
  have N27 := Fr.app N23 Nq27
  refine own_byW (fun _ k => st27 _ k) ?_
  show own_FinW p e below s _ _ _ T27 (mkF m 16 #[.val (.ref a1), .val (.long p2), .second, .val (.ref a3)] [(.ref a3), (.ref a1)])
  obtain ⟨T28, X28, e28, st28⟩ := castY X27 hx hZ hown (hw _ (List.mem_of_getElem? (i := 42) rfl)) eh27 (Ins.self f26_2) (g := (mkF m 16 #[.val (.ref a1), .val (.long p2), .second, .val (.ref a3)] [(.ref a3), (.ref a1)])) rfl rfl (hb hby d6_16)
  refine own_byW (fun _ k => st28 _ k) ?_
  show own_FinW p e below s _ _ _ T28 (mkF m 19 #[.val (.ref a1), .val (.long p2), .second, .val (.ref a3)] [(.ref a3), (.ref a1)])
  obtain ⟨T29, h29, X29, e29, W29, st29⟩ := putF X28 hx hZ hown (host := "") (Or.inl (hw _ (List.mem_of_getElem? (i := 43) rfl))) Via.refl e28 f26_1 f26_0 (Or.inr ⟨(hw _ (List.mem_of_getElem? (i := 44) rfl)), rfl, hnm⟩) (hw _ (List.mem_of_getElem? (i := 27) rfl)) (ty := (.object "java/lang/String")) (by decide) rfl rfl (g := (mkF m 19 #[.val (.ref a1), .val (.long p2), .second, .val (.ref a3)] [(.ref a3), (.ref a1)])) rfl rfl (hb hby d6_19)
  refine own_byW (fun _ k => st29 _ k) ?_
  have Fw29 : Fld Z h29 a1 "com/example/mosub/mosub/model/Stamp" "origin" "Ljava/lang/String;" (.ref a3) := f26_1.same W29
  have Kp29 : Keep h0 h29 [a1] := Kp25.wr W29 (Or.inl (List.mem_of_getElem? (i := 0) rfl))
  have Zs29 : n0 ≤ h29.size := Nat.le_trans Zs25 (Keep.of_wr W29).1
  have N29 := Fr.snoc X29 N27 g_a1
  have hkE29 : _ ≤ h29.size := Nat.le_trans hkE25 (Keep.of_wr W29).1
  have f30_0 : Exa Z h29 a1 "com/example/mosub/mosub/model/Stamp" := f26_0.wr W29
  have f30_2 : Exa Z h29 a3 "java/lang/String" := f26_2.wr W29
  have f30_3 : Fld Z h29 a1 "com/example/mosub/mosub/model/Stamp" "number" "J" (.long p2) := f26_3.other W29 (Or.inr (slot_ne (Or.inr (hw _ (List.mem_of_getElem? (i := 34) rfl))) (Or.inr (hw _ (List.mem_of_getElem? (i := 44) rfl))) (by decide) (t := .long) (t' := (.object "java/lang/String")) (by decide) (by decide)))
  show own_FinW p e below s _ _ _ T29 (mkF m 22 #[.val (.ref a1), .val (.long p2), .second, .val (.ref a3)] [])
  exact own_retVW X29 hS25 (by rw [e29]; exact hkE29) hx hlk Bd.returns (hb hby d6_22) (by rw [e29]; exact ⟨rfl, N29, Kp29⟩) (by decide) (by decide)
theorem own_pn66 : plainName "com/example/mosub/mosub/model/Route" = true := by first | (simp [plainName, overriddenIn]; done) | decide +kernel
theorem d11_0 : decode prog_38_method_1_code 0 = .ok (.aload_n 0, 1) := by decide +kernel
theorem d11_1 : decode prog_38_method_1_code 1 = .ok (.invokespecial 1, 3) := by decide +kernel
theorem d11_4 : decode prog_38_method_1_code 4 = .ok (.aload_n 0, 1) := by decide +kernel
theorem d11_5 : decode prog_38_method_1_code 5 = .ok (.aload_n 1, 1) := by decide +kernel
theorem d11_6 : decode prog_38_method_1_code 6 = .ok (.ldc 7, 2) := by decide +kernel
theorem d11_8 : decode prog_38_method_1_code 8 = .ok (.invokestatic 9, 3) := by decide +kernel
theorem d11_11 : decode prog_38_method_1_code 11 = .ok (.checkcast 15, 3) := by decide +kernel
theorem d11_14 : decode prog_38_method_1_code 14 = .ok (.putfield 17, 3) := by decide +kernel
theorem d11_17 : decode prog_38_method_1_code 17 = .ok (.aload_n 0, 1) := by decide +kernel
theorem d11_18 : decode prog_38_method_1_code 18 = .ok (.aload_n 2, 1) := by decide +kernel
theorem d11_19 : decode prog_38_method_1_code 19 = .ok (.ldc 22, 2) := by decide +kernel
theorem d11_21 : decode prog_38_method_1_code 21 = .ok (.invokestatic 9, 3) := by decide +kernel
theorem d11_24 : decode prog_38_method_1_code 24 = .ok (.checkcast 15, 3) := by decide +kernel
theorem d11_27 : decode prog_38_method_1_code 27 = .ok (.putfield 24, 3) := by decide +kernel
theorem d11_30 : decode prog_38_method_1_code 30 = .ok (.return_, 1) := by decide +kernel
theorem ef_rmR (m : MethodId) (x0 : Addr) (x1 : Addr) (x2 : Addr) : entryFrame m #[(.ref x0), (.ref x1), (.ref x2)] 3 = mkF m 0 #[.val (.ref x0), .val (.ref x1), .val (.ref x2)] [] := by first | (simp [entryFrame, mkF, argsToLocals, Value.category]; done) | rfl
def own_QrmR (Z : State) (a1 a3 : Addr) (h0 : Heap) (n0 : Nat) (v : Option Value) (h : Heap) (L : List Loc) : Prop := v = none ∧ Fr n0 L ∧ Keep h0 h [a1]
set_option maxRecDepth 65536 in
set_option maxHeartbeats 40000000 in
theorem rmR (l : Launch) (Z : State) (a0 : Array Value) (hw : ∀ d ∈ tables_1, d.before a0 Z = true) (ws : List Jvm.Cond) (a1 a2 a3 : Addr) (u_newest u_last : Value) (h0 : Heap) (n0 : Nat) (Z0 : n0 ≤ h0.size) (E_a1 : Exa Z h0 a1 "com/example/mosub/mosub/model/Route") (F_newest : Fld Z h0 a1 "com/example/mosub/mosub/model/Route" "newest" "Lcom/example/mosub/mosub/model/Stamp;" u_newest) (F_last : Fld Z h0 a1 "com/example/mosub/mosub/model/Route" "last" "Lcom/example/mosub/mosub/model/Stamp;" u_last) (g_a1 : n0 ≤ a1) (E_a2 : Exa Z h0 a2 "com/example/mosub/mosub/model/Stamp") (E_a3 : Exa Z h0 a3 "com/example/mosub/mosub/model/Stamp") :
    MetFree l (⟨"com/example/mosub/mosub/model/Route", "<init>", "(Lcom/example/mosub/mosub/model/Stamp;Lcom/example/mosub/mosub/model/Stamp;)V"⟩ : MethodName) (head1 (Jvm.Cond.code (⟨"com/example/mosub/mosub/model/Route", "<init>", "(Lcom/example/mosub/mosub/model/Stamp;Lcom/example/mosub/mosub/model/Stamp;)V"⟩ : MethodName) prog_38_method_1_code 3 none :: ws) (own_R 1 4 48 30)) (fun a U => a = #[(.ref a1), (.ref a2), (.ref a3)] ∧ Z.Warmed39 U.vm ∧ U.heap = h0) (fun _ _ _ _ _ => True) (fun _ U o U' => ∃ v L, o = .returned v ∧ own_QrmR Z a1 a3 h0 n0 v U'.heap L ∧ ReturnedEndW U o U' L (own_R 1 4 48 30).cells (own_R 1 4 48 30).slots) := by
  refine MetFree.of_bodySF (plainFor_of_name own_pn66) hisR ?_
  intro p e s m args below meth c s₁ Bd hml0 hP hK
  obtain ⟨rfl, hZ, hh⟩ := hP
  have hx := Bd.exec
  have hby := Bd.bytes
  have hlk := Bd.notSynchronized
  have hml : c.maxLocals = 3 := hml0
  have hown : s.vm.findClass "com/example/mosub/mosub/model/Route" = some m.cls := findClass_of_methodNamed Bd.named
  have hnm := (name_of_methodNamed Bd.named Bd.method).1
  have X0 : Stand p l e (own_R 1 4 48 30) (s.setVm s.vm) m #[(.ref a1), (.ref a2), (.ref a3)] below meth c s₁ [] 0 0 := Stand.of_body Bd
  have e0 : s₁.heap = h0 := by rw [← hh, Bd.state]; rfl
  have N0 := Fr.nil n0
  refine own_startW (Q := own_QrmR Z a1 a3 h0 n0) (C := (own_R 1 4 48 30).cells) (N := (own_R 1 4 48 30).slots) (ef_rmR m a1 a2 a3 ) ?_
  have hS0 : s.Since s.vm h0.size := (State.WarmedH.refl s).since _
  have hk0 : h0.size ≤ h0.size := Nat.le_refl _
  replace hown : (s.setVm s.vm).vm.findClass "com/example/mosub/mosub/model/Route" = some m.cls := hown
  replace hZ : Z.Warmed39 (s.setVm s.vm).vm := hZ
  show own_FinW p e below s _ _ _ s₁ (mkF m 0 #[.val (.ref a1), .val (.ref a2), .val (.ref a3)] [])
  have Kp31 : Keep h0 h0 [a1] := Keep.refl h0 _
  refine own_byW (fun _ k => XS.aloadN X0.here hx rfl (hb hby d11_0) rfl rfl k) ?_
  show own_FinW p e below s _ _ _ s₁ (mkF m 1 #[.val (.ref a1), .val (.ref a2), .val (.ref a3)] [(.ref a1)])
  obtain ⟨T32, X32, e32, st32⟩ := initO X0 hx hZ hown (hw _ (List.mem_of_getElem? (i := 75) rfl)) (hw _ (List.mem_of_getElem? (i := 20) rfl)) (hw _ (List.mem_of_getElem? (i := 21) rfl)) e0 (g := (mkF m 1 #[.val (.ref a1), .val (.ref a2), .val (.ref a3)] [(.ref a1)])) rfl (by rw [hml]; rfl) rfl (hb hby d11_1) (by decide) (W := 0) (by show 2 * 0 + _ ≤ _; exact Nat.le_of_eq rfl) (by decide)
  refine own_byW (fun _ k => st32 _ k) ?_
  show own_FinW p e below s _ _ _ T32 (mkF m 4 #[.val (.ref a1), .val (.ref a2), .val (.ref a3)] [])
  refine own_byW (fun _ k => XS.aloadN X32.here hx rfl (hb hby d11_4) rfl rfl (XS.aloadN X32.here hx rfl (hb hby d11_5) rfl rfl k)) ?_
  show own_FinW p e below s _ _ _ T32 (mkF m 6 #[.val (.ref a1), .val (.ref a2), .val (.ref a3)] [(.ref a2), (.ref a1)])
  obtain ⟨b33, T33, h33, k33, X33, e33, E33, hS33, hkE33, hZ33, hown33, st33⟩ := ldcS (s := s) (vm0 := s.vm) X32 hx hZ hown (hw _ (List.mem_of_getElem? (i := 76) rfl)) (own_wS hw) e32 hS0 hk0 (g := (mkF m 6 #[.val (.ref a1), .val (.ref a2), .val (.ref a3)] [(.ref a2), (.ref a1)])) rfl (hb hby d11_6) (n := 24) (by decide) (by decide) (by decide) (by decide)
  replace hZ := hZ33
  replace hown := hown33
  refine own_byW (fun _ k => st33 _ k) ?_
  have Zs33 : n0 ≤ h33.size := Nat.le_trans Z0 E33.1
  have Kp33 : Keep h0 h33 [a1] := Kp31.ext E33
  have f34_0 : Exa Z h33 a1 "com/example/mosub/mosub/model/Route" := E_a1.ext E33
  have f34_1 : Fld Z h33 a1 "com/example/mosub/mosub/model/Route" "newest" "Lcom/example/mosub/mosub/model/Stamp;" u_newest := F_newest.ext E33
  have f34_2 : Fld Z h33 a1 "com/example/mosub/mosub/model/Route" "last" "Lcom/example/mosub/mosub/model/Stamp;" u_last := F_last.ext E33
  have f34_3 : Exa Z h33 a2 "com/example/mosub/mosub/model/Stamp" := E_a2.ext E33
  have f34_4 : Exa Z h33 a3 "com/example/mosub/mosub/model/Stamp" := E_a3.ext E33
  show own_FinW p e below s _ _ _ T33 (mkF m 8 #[.val (.ref a1), .val (.ref a2), .val (.ref a3)] [(.ref b33), (.ref a2), (.ref a1)])
  obtain ⟨_, _, ⟨T35, L35, k35, n35⟩, -, X35, ⟨Lc35, hQ35, l35, y35, z35⟩, st35⟩ := Jvm.LawKit.callS X33 hx (y := (⟨"java/util/Objects", "requireNonNull", "(Ljava/lang/Object;Ljava/lang/String;)Ljava/lang/Object;"⟩ : MethodName)) hown (mvT hZ (hw _ (List.mem_of_getElem? (i := 77) rfl))) (mvT hZ (hw _ (List.mem_of_getElem? (i := 39) rfl))) (mvT hZ (hw _ (List.mem_of_getElem? (i := 40) rfl))) (mvT hZ (hw _ (List.mem_of_getElem? (i := 41) rfl))) (by decide) (backOf (W := 1) (rm7 l Z a0 hw [] a2 b33 h33 n0 Zs33 ) hZ (hw _ (List.mem_of_getElem? (i := 41) rfl)) (hw _ (List.mem_of_getElem? (i := 40) rfl)) (by decide) (by decide)) (g := (mkF m 8 #[.val (.ref a1), .val (.ref a2), .val (.ref a3)] [(.ref b33), (.ref a2), (.ref a1)])) rfl (by rw [hml]; rfl) (argsL := [(.ref a2), (.ref b33)]) (rest := [(.ref a1)]) (lenOf own_pd61 rfl) rfl (by show 2 * 0 + _ ≤ _; exact Nat.le_of_eq rfl) (hb hby d11_8) (fun _ _ => ⟨rfl, e33, (by decide : 2 + 0 ≤ _), (by decide : 28 + 0 ≤ _)⟩)
  dsimp only [Pt.U, Pt.locs, Pt.cells, Pt.slots] at X35 l35 y35 z35 st35 hQ35
  subst l35 y35 z35
  obtain ⟨rfl, Nq35, eh35⟩ := hQ35
  have N35 := Fr.app N0 Nq35
  refine own_byW (fun _ k => st35 _ k) ?_
  show own_FinW p e below s _ _ _ T35 (mkF m 11 #[.val (.ref a1), .val (.ref a2), .val (.ref a3)] [(.ref a2), (.ref a1)])
  obtain ⟨T36, X36, e36, st36⟩ := castY X35 hx hZ hown (hw _ (List.mem_of_getElem? (i := 78) rfl)) eh35 (Ins.self f34_3) (g := (mkF m 11 #[.val (.ref a1), .val (.ref a2), .val (.ref a3)] [(.ref a2), (.ref a1)])) rfl rfl (hb hby d11_11)
  refine own_byW (fun _ k => st36 _ k) ?_
  show own_FinW p e below s _ _ _ T36 (mkF m 14 #[.val (.ref a1), .val (.ref a2), .val (.ref a3)] [(.ref a2), (.ref a1)])
  obtain ⟨T37, h37, X37, e37, W37, st37⟩ := putF X36 hx hZ hown (host := "") (Or.inl (hw _ (List.mem_of_getElem? (i := 80) rfl))) Via.refl e36 f34_1 f34_0 (Or.inr ⟨(hw _ (List.mem_of_getElem? (i := 81) rfl)), rfl, hnm⟩) (hw _ (List.mem_of_getElem? (i := 70) rfl)) (ty := (.object "com/example/mosub/mosub/model/Stamp")) (by decide) rfl rfl (g := (mkF m 14 #[.val (.ref a1), .val (.ref a2), .val (.ref a3)] [(.ref a2), (.ref a1)])) rfl rfl (hb hby d11_14)
  refine own_byW (fun _ k => st37 _ k) ?_
  have Fw37 : Fld Z h37 a1 "com/example/mosub/mosub/model/Route" "newest" "Lcom/example/mosub/mosub/model/Stamp;" (.ref a2) := f34_1.same W37
  have Kp37 : Keep h0 h37 [a1] := Kp33.wr W37 (Or.inl (List.mem_of_getElem? (i := 0) rfl))
  have Zs37 : n0 ≤ h37.size := Nat.le_trans Zs33 (Keep.of_wr W37).1
  have N37 := Fr.snoc X37 N35 g_a1
  have hkE37 : _ ≤ h37.size := Nat.le_trans hkE33 (Keep.of_wr W37).1
  have f38_0 : Exa Z h37 a1 "com/example/mosub/mosub/model/Route" := f34_0.wr W37
  have f38_2 : Fld Z h37 a1 "com/example/mosub/mosub/model/Route" "last" "Lcom/example/mosub/mosub/model/Stamp;" u_last := f34_2.other W37 (Or.inr (slot_ne (Or.inr (hw _ (List.mem_of_getElem? (i := 84) rfl))) (Or.inr (hw _ (List.mem_of_getElem? (i := 81) rfl))) (by decide) (t := (.object "com/example/mosub/mosub/model/Stamp")) (t' := (.object "com/example/mosub/mosub/model/Stamp")) (by decide) (by decide)))
  have f38_3 : Exa Z h37 a2 "com/example/mosub/mosub/model/Stamp" := f34_3.wr W37
  have f38_4 : Exa Z h37 a3 "com/example/mosub/mosub/model/Stamp" := f34_4.wr W37
  show own_FinW p e below s _ _ _ T37 (mkF m 17 #[.val (.ref a1), .val (.ref a2), .val (.ref a3)] [])
  refine own_byW (fun _ k => XS.aloadN X37.here hx rfl (hb hby d11_17) rfl rfl (XS.aloadN X37.here hx rfl (hb hby d11_18) rfl rfl k)) ?_
  show own_FinW p e below s _ _ _ T37 (mkF m 19 #[.val (.ref a1), .val (.ref a2), .val (.ref a3)] [(.ref a3), (.ref a1)])
  obtain ⟨b39, T39, h39, k39, X39, e39, E39, hS39, hkE39, hZ39, hown39, st39⟩ := ldcS (s := s) (vm0 := T33.vm) X37 hx hZ hown (hw _ (List.mem_of_getElem? (i := 82) rfl)) (own_wS hw) e37 hS33 hkE37 (g := (mkF m 19 #[.val (.ref a1), .val (.ref a2), .val (.ref a3)] [(.ref a3), (.ref a1)])) rfl (hb hby d11_19) (n := 16) (by decide) (by decide) (by decide) (by decide)
  replace hZ := hZ39
  replace hown := hown39
  refine own_byW (fun _ k => st39 _ k) ?_
  have Zs39 : n0 ≤ h39.size := Nat.le_trans Zs37 E39.1
  have Kp39 : Keep h0 h39 [a1] := Kp37.ext E39
  have f40_0 : Exa Z h39 a1 "com/example/mosub/mosub/model/Route" := f38_0.ext E39
  have f40_1 : Fld Z h39 a1 "com/example/mosub/mosub/model/Route" "last" "Lcom/example/mosub/mosub/model/Stamp;" u_last := f38_2.ext E39
  have f40_2 : Exa Z h39 a2 "com/example/mosub/mosub/model/Stamp" := f38_3.ext E39
  have f40_3 : Exa Z h39 a3 "com/example/mosub/mosub/model/Stamp" := f38_4.ext E39
  have f40_4 : Fld Z h39 a1 "com/example/mosub/mosub/model/Route" "newest" "Lcom/example/mosub/mosub/model/Stamp;" (.ref a2) := Fw37.ext E39
  show own_FinW p e below s _ _ _ T39 (mkF m 21 #[.val (.ref a1), .val (.ref a2), .val (.ref a3)] [(.ref b39), (.ref a3), (.ref a1)])
  obtain ⟨_, _, ⟨T41, L41, k41, n41⟩, -, X41, ⟨Lc41, hQ41, l41, y41, z41⟩, st41⟩ := Jvm.LawKit.callS X39 hx (y := (⟨"java/util/Objects", "requireNonNull", "(Ljava/lang/Object;Ljava/lang/String;)Ljava/lang/Object;"⟩ : MethodName)) hown (mvT hZ (hw _ (List.mem_of_getElem? (i := 77) rfl))) (mvT hZ (hw _ (List.mem_of_getElem? (i := 39) rfl))) (mvT hZ (hw _ (List.mem_of_getElem? (i := 40) rfl))) (mvT hZ (hw _ (List.mem_of_getElem? (i := 41) rfl))) (by decide) (backOf (W := 1) (rm7 l Z a0 hw [] a3 b39 h39 n0 Zs39 ) hZ (hw _ (List.mem_of_getElem? (i := 41) rfl)) (hw _ (List.mem_of_getElem? (i := 40) rfl)) (by decide) (by decide)) (g := (mkF m 21 #[.val (.ref a1), .val (.ref a2), .val (.ref a3)] [(.ref b39), (.ref a3), (.ref a1)])) rfl (by rw [hml]; rfl) (argsL := [(.ref a3), (.ref b39)]) (rest := [(.ref a1)]) (lenOf own_pd61 rfl) rfl (by show 2 * 0 + _ ≤ _; exact Nat.le_of_eq rfl) (hb hby d11_21) (fun _ _ => ⟨rfl, e39, (by decide : 4 + 0 ≤ _), (by decide : 48 + 0 ≤ _)⟩)
  dsimp only [Pt.U, Pt.locs, Pt.cells, Pt.slots] at X41 l41 y41 z41 st41 hQ41
  subst l41 y41 z41
  obtain ⟨rfl, Nq41, eh41⟩ := hQ41
  have N41 := Fr.app N37 Nq41
  refine own_byW (fun _ k => st41 _ k) ?_
  show own_FinW p e below s _ _ _ T41 (mkF m 24 #[.val (.ref a1), .val (.ref a2), .val (.ref a3)] [(.ref a3), (.ref a1)])
  obtain ⟨T42, X42, e42, st42⟩ := castY X41 hx hZ hown (hw _ (List.mem_of_getElem? (i := 78) rfl)) eh41 (Ins.self f40_3) (g := (mkF m 24 #[.val (.ref a1), .val (.ref a2), .val (.ref a3)] [(.ref a3), (.ref a1)])) rfl rfl (hb hby d11_24)
  refine own_byW (fun _ k => st42 _ k) ?_
  show own_FinW p e below s _ _ _ T42 (mkF m 27 #[.val (.ref a1), .val (.ref a2), .val (.ref a3)] [(.ref a3), (.ref a1)])
  obtain ⟨T43, h43, X43, e43, W43, st43⟩ := putF X42 hx hZ hown (host := "") (Or.inl (hw _ (List.mem_of_getElem? (i := 83) rfl))) Via.refl e42 f40_1 f40_0 (Or.inr ⟨(hw _ (List.mem_of_getElem? (i := 84) rfl)), rfl, hnm⟩) (hw _ (List.mem_of_getElem? (i := 70) rfl)) (ty := (.object "com/example/mosub/mosub/model/Stamp")) (by decide) rfl rfl (g := (mkF m 27 #[.val (.ref a1), .val (.ref a2), .val (.ref a3)] [(.ref a3), (.ref a1)])) rfl rfl (hb hby d11_27)
  refine own_byW (fun _ k => st43 _ k) ?_
  have Fw43 : Fld Z h43 a1 "com/example/mosub/mosub/model/Route" "last" "Lcom/example/mosub/mosub/model/Stamp;" (.ref a3) := f40_1.same W43
  have Kp43 : Keep h0 h43 [a1] := Kp39.wr W43 (Or.inl (List.mem_of_getElem? (i := 0) rfl))
  have Zs43 : n0 ≤ h43.size := Nat.le_trans Zs39 (Keep.of_wr W43).1
  have N43 := Fr.snoc X43 N41 g_a1
  have hkE43 : _ ≤ h43.size := Nat.le_trans hkE39 (Keep.of_wr W43).1
  have f44_0 : Exa Z h43 a1 "com/example/mosub/mosub/model/Route" := f40_0.wr W43
  have f44_2 : Exa Z h43 a2 "com/example/mosub/mosub/model/Stamp" := f40_2.wr W43
  have f44_3 : Exa Z h43 a3 "com/example/mosub/mosub/model/Stamp" := f40_3.wr W43
  have f44_4 : Fld Z h43 a1 "com/example/mosub/mosub/model/Route" "newest" "Lcom/example/mosub/mosub/model/Stamp;" (.ref a2) := f40_4.other W43 (Or.inr (slot_ne (Or.inr (hw _ (List.mem_of_getElem? (i := 81) rfl))) (Or.inr (hw _ (List.mem_of_getElem? (i := 84) rfl))) (by decide) (t := (.object "com/example/mosub/mosub/model/Stamp")) (t' := (.object "com/example/mosub/mosub/model/Stamp")) (by decide) (by decide)))
  show own_FinW p e below s _ _ _ T43 (mkF m 30 #[.val (.ref a1), .val (.ref a2), .val (.ref a3)] [])
  exact own_retVW X43 hS39 (by rw [e43]; exact hkE43) hx hlk Bd.returns (hb hby d11_30) (by rw [e43]; exact ⟨rfl, N43, Kp43⟩) (by decide) (by decide)
theorem own_pn83 : plainName "com/example/mosub/mosub/model/Reach" = true := by first | (simp [plainName, overriddenIn]; done) | decide +kernel
theorem d8_0 : decode prog_32_method_1_code 0 = .ok (.aload_n 0, 1) := by decide +kernel
theorem d8_1 : decode prog_32_method_1_code 1 = .ok (.invokespecial 1, 3) := by decide +kernel
theorem d8_4 : decode prog_32_method_1_code 4 = .ok (.aload_n 0, 1) := by decide +kernel
theorem d8_5 : decode prog_32_method_1_code 5 = .ok (.aload_n 1, 1) := by decide +kernel
theorem d8_6 : decode prog_32_method_1_code 6 = .ok (.ldc 7, 2) := by decide +kernel
theorem d8_8 : decode prog_32_method_1_code 8 = .ok (.invokestatic 9, 3) := by decide +kernel
theorem d8_11 : decode prog_32_method_1_code 11 = .ok (.checkcast 15, 3) := by decide +kernel
theorem d8_14 : decode prog_32_method_1_code 14 = .ok (.putfield 17, 3) := by decide +kernel
theorem d8_17 : decode prog_32_method_1_code 17 = .ok (.aload_n 0, 1) := by decide +kernel
theorem d8_18 : decode prog_32_method_1_code 18 = .ok (.aload_n 2, 1) := by decide +kernel
theorem d8_19 : decode prog_32_method_1_code 19 = .ok (.putfield 22, 3) := by decide +kernel
theorem d8_22 : decode prog_32_method_1_code 22 = .ok (.return_, 1) := by decide +kernel
theorem ef_rmE (m : MethodId) (x0 : Addr) (x1 : Addr) (x2 : Addr) : entryFrame m #[(.ref x0), (.ref x1), (.ref x2)] 3 = mkF m 0 #[.val (.ref x0), .val (.ref x1), .val (.ref x2)] [] := by first | (simp [entryFrame, mkF, argsToLocals, Value.category]; done) | rfl
def own_QrmE (Z : State) (a1 a3 : Addr) (h0 : Heap) (n0 : Nat) (v : Option Value) (h : Heap) (L : List Loc) : Prop := v = none ∧ Fr n0 L ∧ Keep h0 h [a1] ∧ Fld Z h a1 "com/example/mosub/mosub/model/Reach" "route" "Lcom/example/mosub/mosub/model/Route;" (.ref a3)
set_option maxRecDepth 65536 in
set_option maxHeartbeats 40000000 in
theorem rmE (l : Launch) (Z : State) (a0 : Array Value) (hw : ∀ d ∈ tables_1, d.before a0 Z = true) (ws : List Jvm.Cond) (a1 a2 a3 : Addr) (u_brokerName u_route : Value) (h0 : Heap) (n0 : Nat) (Z0 : n0 ≤ h0.size) (E_a1 : Exa Z h0 a1 "com/example/mosub/mosub/model/Reach") (F_brokerName : Fld Z h0 a1 "com/example/mosub/mosub/model/Reach" "brokerName" "Ljava/lang/String;" u_brokerName) (F_route : Fld Z h0 a1 "com/example/mosub/mosub/model/Reach" "route" "Lcom/example/mosub/mosub/model/Route;" u_route) (g_a1 : n0 ≤ a1) (E_a2 : Exa Z h0 a2 "java/lang/String") :
    MetFree l (⟨"com/example/mosub/mosub/model/Reach", "<init>", "(Ljava/lang/String;Lcom/example/mosub/mosub/model/Route;)V"⟩ : MethodName) (head1 (Jvm.Cond.code (⟨"com/example/mosub/mosub/model/Reach", "<init>", "(Ljava/lang/String;Lcom/example/mosub/mosub/model/Route;)V"⟩ : MethodName) prog_32_method_1_code 3 none :: ws) (own_R 1 2 44 30)) (fun a U => a = #[(.ref a1), (.ref a2), (.ref a3)] ∧ Z.Warmed39 U.vm ∧ U.heap = h0) (fun _ _ _ _ _ => True) (fun _ U o U' => ∃ v L, o = .returned v ∧ own_QrmE Z a1 a3 h0 n0 v U'.heap L ∧ ReturnedEndW U o U' L (own_R 1 2 44 30).cells (own_R 1 2 44 30).slots) := by
  refine MetFree.of_bodySF (plainFor_of_name own_pn83) hisR ?_
  intro p e s m args below meth c s₁ Bd hml0 hP hK
  obtain ⟨rfl, hZ, hh⟩ := hP
  have hx := Bd.exec
  have hby := Bd.bytes
  have hlk := Bd.notSynchronized
  have hml : c.maxLocals = 3 := hml0
  have hown : s.vm.findClass "com/example/mosub/mosub/model/Reach" = some m.cls := findClass_of_methodNamed Bd.named
  have hnm := (name_of_methodNamed Bd.named Bd.method).1
  have X0 : Stand p l e (own_R 1 2 44 30) (s.setVm s.vm) m #[(.ref a1), (.ref a2), (.ref a3)] below meth c s₁ [] 0 0 := Stand.of_body Bd
  have e0 : s₁.heap = h0 := by rw [← hh, Bd.state]; rfl
  have N0 := Fr.nil n0
  refine own_startW (Q := own_QrmE Z a1 a3 h0 n0) (C := (own_R 1 2 44 30).cells) (N := (own_R 1 2 44 30).slots) (ef_rmE m a1 a2 a3 ) ?_
  have hS0 : s.Since s.vm h0.size := (State.WarmedH.refl s).since _
  have hk0 : h0.size ≤ h0.size := Nat.le_refl _
  replace hown : (s.setVm s.vm).vm.findClass "com/example/mosub/mosub/model/Reach" = some m.cls := hown
  replace hZ : Z.Warmed39 (s.setVm s.vm).vm := hZ
  show own_FinW p e below s _ _ _ s₁ (mkF m 0 #[.val (.ref a1), .val (.ref a2), .val (.ref a3)] [])
  have Kp45 : Keep h0 h0 [a1] := Keep.refl h0 _
  refine own_byW (fun _ k => XS.aloadN X0.here hx rfl (hb hby d8_0) rfl rfl k) ?_
  show own_FinW p e below s _ _ _ s₁ (mkF m 1 #[.val (.ref a1), .val (.ref a2), .val (.ref a3)] [(.ref a1)])
  obtain ⟨T46, X46, e46, st46⟩ := initO X0 hx hZ hown (hw _ (List.mem_of_getElem? (i := 51) rfl)) (hw _ (List.mem_of_getElem? (i := 20) rfl)) (hw _ (List.mem_of_getElem? (i := 21) rfl)) e0 (g := (mkF m 1 #[.val (.ref a1), .val (.ref a2), .val (.ref a3)] [(.ref a1)])) rfl (by rw [hml]; rfl) rfl (hb hby d8_1) (by decide) (W := 0) (by show 2 * 0 + _ ≤ _; exact Nat.le_of_eq rfl) (by decide)
  refine own_byW (fun _ k => st46 _ k) ?_
  show own_FinW p e below s _ _ _ T46 (mkF m 4 #[.val (.ref a1), .val (.ref a2), .val (.ref a3)] [])
  refine own_byW (fun _ k => XS.aloadN X46.here hx rfl (hb hby d8_4) rfl rfl (XS.aloadN X46.here hx rfl (hb hby d8_5) rfl rfl k)) ?_
  show own_FinW p e below s _ _ _ T46 (mkF m 6 #[.val (.ref a1), .val (.ref a2), .val (.ref a3)] [(.ref a2), (.ref a1)])
  obtain ⟨b47, T47, h47, k47, X47, e47, E47, hS47, hkE47, hZ47, hown47, st47⟩ := ldcS (s := s) (vm0 := s.vm) X46 hx hZ hown (hw _ (List.mem_of_getElem? (i := 52) rfl)) (own_wS hw) e46 hS0 hk0 (g := (mkF m 6 #[.val (.ref a1), .val (.ref a2), .val (.ref a3)] [(.ref a2), (.ref a1)])) rfl (hb hby d8_6) (n := 40) (by decide) (by decide) (by decide) (by decide)
  replace hZ := hZ47
  replace hown := hown47
  refine own_byW (fun _ k => st47 _ k) ?_
  have Zs47 : n0 ≤ h47.size := Nat.le_trans Z0 E47.1
  have Kp47 : Keep h0 h47 [a1] := Kp45.ext E47
  have f48_0 : Exa Z h47 a1 "com/example/mosub/mosub/model/Reach" := E_a1.ext E47
  have f48_1 : Fld Z h47 a1 "com/example/mosub/mosub/model/Reach" "brokerName" "Ljava/lang/String;" u_brokerName := F_brokerName.ext E47
  have f48_2 : Fld Z h47 a1 "com/example/mosub/mosub/model/Reach" "route" "Lcom/example/mosub/mosub/model/Route;" u_route := F_route.ext E47
  have f48_3 : Exa Z h47 a2 "java/lang/String" := E_a2.ext E47
  show own_FinW p e below s _ _ _ T47 (mkF m 8 #[.val (.ref a1), .val (.ref a2), .val (.ref a3)] [(.ref b47), (.ref a2), (.ref a1)])
  obtain ⟨_, _, ⟨T49, L49, k49, n49⟩, -, X49, ⟨Lc49, hQ49, l49, y49, z49⟩, st49⟩ := Jvm.LawKit.callS X47 hx (y := (⟨"java/util/Objects", "requireNonNull", "(Ljava/lang/Object;Ljava/lang/String;)Ljava/lang/Object;"⟩ : MethodName)) hown (mvT hZ (hw _ (List.mem_of_getElem? (i := 53) rfl))) (mvT hZ (hw _ (List.mem_of_getElem? (i := 39) rfl))) (mvT hZ (hw _ (List.mem_of_getElem? (i := 40) rfl))) (mvT hZ (hw _ (List.mem_of_getElem? (i := 41) rfl))) (by decide) (backOf (W := 1) (rm7 l Z a0 hw [] a2 b47 h47 n0 Zs47 ) hZ (hw _ (List.mem_of_getElem? (i := 41) rfl)) (hw _ (List.mem_of_getElem? (i := 40) rfl)) (by decide) (by decide)) (g := (mkF m 8 #[.val (.ref a1), .val (.ref a2), .val (.ref a3)] [(.ref b47), (.ref a2), (.ref a1)])) rfl (by rw [hml]; rfl) (argsL := [(.ref a2), (.ref b47)]) (rest := [(.ref a1)]) (lenOf own_pd61 rfl) rfl (by show 2 * 0 + _ ≤ _; exact Nat.le_of_eq rfl) (hb hby d8_8) (fun _ _ => ⟨rfl, e47, (by decide : 2 + 0 ≤ _), (by decide : 44 + 0 ≤ _)⟩)
  dsimp only [Pt.U, Pt.locs, Pt.cells, Pt.slots] at X49 l49 y49 z49 st49 hQ49
  subst l49 y49 z49
  obtain ⟨rfl, Nq49, eh49⟩ := hQ49
  have N49 := Fr.app N0 Nq49
  refine own_byW (fun _ k => st49 _ k) ?_
  show own_FinW p e below s _ _ _ T49 (mkF m 11 #[.val (.ref a1), .val (.ref a2), .val (.ref a3)] [(.ref a2), (.ref a1)])
  obtain ⟨T50, X50, e50, st50⟩ := castY X49 hx hZ hown (hw _ (List.mem_of_getElem? (i := 54) rfl)) eh49 (Ins.self f48_3) (g := (mkF m 11 #[.val (.ref a1), .val (.ref a2), .val (.ref a3)] [(.ref a2), (.ref a1)])) rfl rfl (hb hby d8_11)
  refine own_byW (fun _ k => st50 _ k) ?_
  show own_FinW p e below s _ _ _ T50 (mkF m 14 #[.val (.ref a1), .val (.ref a2), .val (.ref a3)] [(.ref a2), (.ref a1)])
  obtain ⟨T51, h51, X51, e51, W51, st51⟩ := putF X50 hx hZ hown (host := "") (Or.inl (hw _ (List.mem_of_getElem? (i := 55) rfl))) Via.refl e50 f48_1 f48_0 (Or.inr ⟨(hw _ (List.mem_of_getElem? (i := 56) rfl)), rfl, hnm⟩) (hw _ (List.mem_of_getElem? (i := 46) rfl)) (ty := (.object "java/lang/String")) (by decide) rfl rfl (g := (mkF m 14 #[.val (.ref a1), .val (.ref a2), .val (.ref a3)] [(.ref a2), (.ref a1)])) rfl rfl (hb hby d8_14)
  refine own_byW (fun _ k => st51 _ k) ?_
  have Fw51 : Fld Z h51 a1 "com/example/mosub/mosub/model/Reach" "brokerName" "Ljava/lang/String;" (.ref a2) := f48_1.same W51
  have Kp51 : Keep h0 h51 [a1] := Kp47.wr W51 (Or.inl (List.mem_of_getElem? (i := 0) rfl))
  have Zs51 : n0 ≤ h51.size := Nat.le_trans Zs47 (Keep.of_wr W51).1
  have N51 := Fr.snoc X51 N49 g_a1
  have hkE51 : _ ≤ h51.size := Nat.le_trans hkE47 (Keep.of_wr W51).1
  have f52_0 : Exa Z h51 a1 "com/example/mosub/mosub/model/Reach" := f48_0.wr W51
  have f52_2 : Fld Z h51 a1 "com/example/mosub/mosub/model/Reach" "route" "Lcom/example/mosub/mosub/model/Route;" u_route := f48_2.other W51 (Or.inr (slot_ne (Or.inr (hw _ (List.mem_of_getElem? (i := 58) rfl))) (Or.inr (hw _ (List.mem_of_getElem? (i := 56) rfl))) (by decide) (t := (.object "com/example/mosub/mosub/model/Route")) (t' := (.object "java/lang/String")) (by decide) (by decide)))
  have f52_3 : Exa Z h51 a2 "java/lang/String" := f48_3.wr W51
  show own_FinW p e below s _ _ _ T51 (mkF m 17 #[.val (.ref a1), .val (.ref a2), .val (.ref a3)] [])
  refine own_byW (fun _ k => XS.aloadN X51.here hx rfl (hb hby d8_17) rfl rfl (XS.aloadN X51.here hx rfl (hb hby d8_18) rfl rfl k)) ?_
  show own_FinW p e below s _ _ _ T51 (mkF m 19 #[.val (.ref a1), .val (.ref a2), .val (.ref a3)] [(.ref a3), (.ref a1)])
  obtain ⟨T53, h53, X53, e53, W53, st53⟩ := putF X51 hx hZ hown (host := "") (Or.inl (hw _ (List.mem_of_getElem? (i := 57) rfl))) Via.refl e51 f52_2 f52_0 (Or.inr ⟨(hw _ (List.mem_of_getElem? (i := 58) rfl)), rfl, hnm⟩) (hw _ (List.mem_of_getElem? (i := 46) rfl)) (ty := (.object "com/example/mosub/mosub/model/Route")) (by decide) rfl rfl (g := (mkF m 19 #[.val (.ref a1), .val (.ref a2), .val (.ref a3)] [(.ref a3), (.ref a1)])) rfl rfl (hb hby d8_19)
  refine own_byW (fun _ k => st53 _ k) ?_
  have Fw53 : Fld Z h53 a1 "com/example/mosub/mosub/model/Reach" "route" "Lcom/example/mosub/mosub/model/Route;" (.ref a3) := f52_2.same W53
  have Kp53 : Keep h0 h53 [a1] := Kp51.wr W53 (Or.inl (List.mem_of_getElem? (i := 0) rfl))
  have Zs53 : n0 ≤ h53.size := Nat.le_trans Zs51 (Keep.of_wr W53).1
  have N53 := Fr.snoc X53 N51 g_a1
  have hkE53 : _ ≤ h53.size := Nat.le_trans hkE51 (Keep.of_wr W53).1
  have f54_0 : Exa Z h53 a1 "com/example/mosub/mosub/model/Reach" := f52_0.wr W53
  have f54_2 : Exa Z h53 a2 "java/lang/String" := f52_3.wr W53
  have f54_3 : Fld Z h53 a1 "com/example/mosub/mosub/model/Reach" "brokerName" "Ljava/lang/String;" (.ref a2) := Fw51.other W53 (Or.inr (slot_ne (Or.inr (hw _ (List.mem_of_getElem? (i := 56) rfl))) (Or.inr (hw _ (List.mem_of_getElem? (i := 58) rfl))) (by decide) (t := (.object "java/lang/String")) (t' := (.object "com/example/mosub/mosub/model/Route")) (by decide) (by decide)))
  show own_FinW p e below s _ _ _ T53 (mkF m 22 #[.val (.ref a1), .val (.ref a2), .val (.ref a3)] [])
  exact own_retVW X53 hS47 (by rw [e53]; exact hkE53) hx hlk Bd.returns (hb hby d8_22) (by rw [e53]; exact ⟨rfl, N53, Kp53, Fw53⟩) (by decide) (by decide)
theorem ef_rmN (m : MethodId) (x0 : Addr) (x1 : Addr) : entryFrame m #[(.ref x0), (.ref x1), .null] 3 = mkF m 0 #[.val (.ref x0), .val (.ref x1), .val .null] [] := by first | (simp [entryFrame, mkF, argsToLocals, Value.category]; done) | rfl
def own_QrmN (Z : State) (a1 a3 : Addr) (h0 : Heap) (n0 : Nat) (v : Option Value) (h : Heap) (L : List Loc) : Prop := v = none ∧ Fr n0 L ∧ Keep h0 h [a1] ∧ Fld Z h a1 "com/example/mosub/mosub/model/Reach" "route" "Lcom/example/mosub/mosub/model/Route;" .null
set_option maxRecDepth 65536 in
set_option maxHeartbeats 40000000 in
theorem rmN (l : Launch) (Z : State) (a0 : Array Value) (hw : ∀ d ∈ tables_1, d.before a0 Z = true) (ws : List Jvm.Cond) (a1 a2 : Addr) (u_brokerName u_route : Value) (h0 : Heap) (n0 : Nat) (Z0 : n0 ≤ h0.size) (E_a1 : Exa Z h0 a1 "com/example/mosub/mosub/model/Reach") (F_brokerName : Fld Z h0 a1 "com/example/mosub/mosub/model/Reach" "brokerName" "Ljava/lang/String;" u_brokerName) (F_route : Fld Z h0 a1 "com/example/mosub/mosub/model/Reach" "route" "Lcom/example/mosub/mosub/model/Route;" u_route) (g_a1 : n0 ≤ a1) (E_a2 : Exa Z h0 a2 "java/lang/String") :
    MetFree l (⟨"com/example/mosub/mosub/model/Reach", "<init>", "(Ljava/lang/String;Lcom/example/mosub/mosub/model/Route;)V"⟩ : MethodName) (head1 (Jvm.Cond.code (⟨"com/example/mosub/mosub/model/Reach", "<init>", "(Ljava/lang/String;Lcom/example/mosub/mosub/model/Route;)V"⟩ : MethodName) prog_32_method_1_code 3 none :: ws) (own_R 1 2 44 30)) (fun a U => a = #[(.ref a1), (.ref a2), .null] ∧ Z.Warmed39 U.vm ∧ U.heap = h0) (fun _ _ _ _ _ => True) (fun _ U o U' => ∃ v L, o = .returned v ∧ own_QrmN Z a1 a1 h0 n0 v U'.heap L ∧ ReturnedEndW U o U' L (own_R 1 2 44 30).cells (own_R 1 2 44 30).slots) := by
  refine MetFree.of_bodySF (plainFor_of_name own_pn83) hisR ?_
  intro p e s m args below meth c s₁ Bd hml0 hP hK
  obtain ⟨rfl, hZ, hh⟩ := hP
  have hx := Bd.exec
  have hby := Bd.bytes
  have hlk := Bd.notSynchronized
  have hml : c.maxLocals = 3 := hml0
  have hown : s.vm.findClass "com/example/mosub/mosub/model/Reach" = some m.cls := findClass_of_methodNamed Bd.named
  have hnm := (name_of_methodNamed Bd.named Bd.method).1
  have X0 : Stand p l e (own_R 1 2 44 30) (s.setVm s.vm) m #[(.ref a1), (.ref a2), .null] below meth c s₁ [] 0 0 := Stand.of_body Bd
  have e0 : s₁.heap = h0 := by rw [← hh, Bd.state]; rfl
  have N0 := Fr.nil n0
  refine own_startW (Q := own_QrmN Z a1 a1 h0 n0) (C := (own_R 1 2 44 30).cells) (N := (own_R 1 2 44 30).slots) (ef_rmN m a1 a2 ) ?_
  have hS0 : s.Since s.vm h0.size := (State.WarmedH.refl s).since _
  have hk0 : h0.size ≤ h0.size := Nat.le_refl _
  replace hown : (s.setVm s.vm).vm.findClass "com/example/mosub/mosub/model/Reach" = some m.cls := hown
  replace hZ : Z.Warmed39 (s.setVm s.vm).vm := hZ
  show own_FinW p e below s _ _ _ s₁ (mkF m 0 #[.val (.ref a1), .val (.ref a2), .val .null] [])
  have Kp55 : Keep h0 h0 [a1] := Keep.refl h0 _
  refine own_byW (fun _ k => XS.aloadN X0.here hx rfl (hb hby d8_0) rfl rfl k) ?_
  show own_FinW p e below s _ _ _ s₁ (mkF m 1 #[.val (.ref a1), .val (.ref a2), .val .null] [(.ref a1)])
  obtain ⟨T56, X56, e56, st56⟩ := initO X0 hx hZ hown (hw _ (List.mem_of_getElem? (i := 51) rfl)) (hw _ (List.mem_of_getElem? (i := 20) rfl)) (hw _ (List.mem_of_getElem? (i := 21) rfl)) e0 (g := (mkF m 1 #[.val (.ref a1), .val (.ref a2), .val .null] [(.ref a1)])) rfl (by rw [hml]; rfl) rfl (hb hby d8_1) (by decide) (W := 0) (by show 2 * 0 + _ ≤ _; exact Nat.le_of_eq rfl) (by decide)
  refine own_byW (fun _ k => st56 _ k) ?_
  show own_FinW p e below s _ _ _ T56 (mkF m 4 #[.val (.ref a1), .val (.ref a2), .val .null] [])
  refine own_byW (fun _ k => XS.aloadN X56.here hx rfl (hb hby d8_4) rfl rfl (XS.aloadN X56.here hx rfl (hb hby d8_5) rfl rfl k)) ?_
  show own_FinW p e below s _ _ _ T56 (mkF m 6 #[.val (.ref a1), .val (.ref a2), .val .null] [(.ref a2), (.ref a1)])
  obtain ⟨b57, T57, h57, k57, X57, e57, E57, hS57, hkE57, hZ57, hown57, st57⟩ := ldcS (s := s) (vm0 := s.vm) X56 hx hZ hown (hw _ (List.mem_of_getElem? (i := 52) rfl)) (own_wS hw) e56 hS0 hk0 (g := (mkF m 6 #[.val (.ref a1), .val (.ref a2), .val .null] [(.ref a2), (.ref a1)])) rfl (hb hby d8_6) (n := 40) (by decide) (by decide) (by decide) (by decide)
  replace hZ := hZ57
  replace hown := hown57
  refine own_byW (fun _ k => st57 _ k) ?_
  have Zs57 : n0 ≤ h57.size := Nat.le_trans Z0 E57.1
  have Kp57 : Keep h0 h57 [a1] := Kp55.ext E57
  have f58_0 : Exa Z h57 a1 "com/example/mosub/mosub/model/Reach" := E_a1.ext E57
  have f58_1 : Fld Z h57 a1 "com/example/mosub/mosub/model/Reach" "brokerName" "Ljava/lang/String;" u_brokerName := F_brokerName.ext E57
  have f58_2 : Fld Z h57 a1 "com/example/mosub/mosub/model/Reach" "route" "Lcom/example/mosub/mosub/model/Route;" u_route := F_route.ext E57
  have f58_3 : Exa Z h57 a2 "java/lang/String" := E_a2.ext E57
  show own_FinW p e below s _ _ _ T57 (mkF m 8 #[.val (.ref a1), .val (.ref a2), .val .null] [(.ref b57), (.ref a2), (.ref a1)])
  obtain ⟨_, _, ⟨T59, L59, k59, n59⟩, -, X59, ⟨Lc59, hQ59, l59, y59, z59⟩, st59⟩ := Jvm.LawKit.callS X57 hx (y := (⟨"java/util/Objects", "requireNonNull", "(Ljava/lang/Object;Ljava/lang/String;)Ljava/lang/Object;"⟩ : MethodName)) hown (mvT hZ (hw _ (List.mem_of_getElem? (i := 53) rfl))) (mvT hZ (hw _ (List.mem_of_getElem? (i := 39) rfl))) (mvT hZ (hw _ (List.mem_of_getElem? (i := 40) rfl))) (mvT hZ (hw _ (List.mem_of_getElem? (i := 41) rfl))) (by decide) (backOf (W := 1) (rm7 l Z a0 hw [] a2 b57 h57 n0 Zs57 ) hZ (hw _ (List.mem_of_getElem? (i := 41) rfl)) (hw _ (List.mem_of_getElem? (i := 40) rfl)) (by decide) (by decide)) (g := (mkF m 8 #[.val (.ref a1), .val (.ref a2), .val .null] [(.ref b57), (.ref a2), (.ref a1)])) rfl (by rw [hml]; rfl) (argsL := [(.ref a2), (.ref b57)]) (rest := [(.ref a1)]) (lenOf own_pd61 rfl) rfl (by show 2 * 0 + _ ≤ _; exact Nat.le_of_eq rfl) (hb hby d8_8) (fun _ _ => ⟨rfl, e57, (by decide : 2 + 0 ≤ _), (by decide : 44 + 0 ≤ _)⟩)
  dsimp only [Pt.U, Pt.locs, Pt.cells, Pt.slots] at X59 l59 y59 z59 st59 hQ59
  subst l59 y59 z59
  obtain ⟨rfl, Nq59, eh59⟩ := hQ59
  have N59 := Fr.app N0 Nq59
  refine own_byW (fun _ k => st59 _ k) ?_
  show own_FinW p e below s _ _ _ T59 (mkF m 11 #[.val (.ref a1), .val (.ref a2), .val .null] [(.ref a2), (.ref a1)])
  obtain ⟨T60, X60, e60, st60⟩ := castY X59 hx hZ hown (hw _ (List.mem_of_getElem? (i := 54) rfl)) eh59 (Ins.self f58_3) (g := (mkF m 11 #[.val (.ref a1), .val (.ref a2), .val .null] [(.ref a2), (.ref a1)])) rfl rfl (hb hby d8_11)
  refine own_byW (fun _ k => st60 _ k) ?_
  show own_FinW p e below s _ _ _ T60 (mkF m 14 #[.val (.ref a1), .val (.ref a2), .val .null] [(.ref a2), (.ref a1)])
  obtain ⟨T61, h61, X61, e61, W61, st61⟩ := putF X60 hx hZ hown (host := "") (Or.inl (hw _ (List.mem_of_getElem? (i := 55) rfl))) Via.refl e60 f58_1 f58_0 (Or.inr ⟨(hw _ (List.mem_of_getElem? (i := 56) rfl)), rfl, hnm⟩) (hw _ (List.mem_of_getElem? (i := 46) rfl)) (ty := (.object "java/lang/String")) (by decide) rfl rfl (g := (mkF m 14 #[.val (.ref a1), .val (.ref a2), .val .null] [(.ref a2), (.ref a1)])) rfl rfl (hb hby d8_14)
  refine own_byW (fun _ k => st61 _ k) ?_
  have Fw61 : Fld Z h61 a1 "com/example/mosub/mosub/model/Reach" "brokerName" "Ljava/lang/String;" (.ref a2) := f58_1.same W61
  have Kp61 : Keep h0 h61 [a1] := Kp57.wr W61 (Or.inl (List.mem_of_getElem? (i := 0) rfl))
  have Zs61 : n0 ≤ h61.size := Nat.le_trans Zs57 (Keep.of_wr W61).1
  have N61 := Fr.snoc X61 N59 g_a1
  have hkE61 : _ ≤ h61.size := Nat.le_trans hkE57 (Keep.of_wr W61).1
  have f62_0 : Exa Z h61 a1 "com/example/mosub/mosub/model/Reach" := f58_0.wr W61
  have f62_2 : Fld Z h61 a1 "com/example/mosub/mosub/model/Reach" "route" "Lcom/example/mosub/mosub/model/Route;" u_route := f58_2.other W61 (Or.inr (slot_ne (Or.inr (hw _ (List.mem_of_getElem? (i := 58) rfl))) (Or.inr (hw _ (List.mem_of_getElem? (i := 56) rfl))) (by decide) (t := (.object "com/example/mosub/mosub/model/Route")) (t' := (.object "java/lang/String")) (by decide) (by decide)))
  have f62_3 : Exa Z h61 a2 "java/lang/String" := f58_3.wr W61
  show own_FinW p e below s _ _ _ T61 (mkF m 17 #[.val (.ref a1), .val (.ref a2), .val .null] [])
  refine own_byW (fun _ k => XS.aloadN X61.here hx rfl (hb hby d8_17) rfl rfl (XS.aloadN X61.here hx rfl (hb hby d8_18) rfl rfl k)) ?_
  show own_FinW p e below s _ _ _ T61 (mkF m 19 #[.val (.ref a1), .val (.ref a2), .val .null] [.null, (.ref a1)])
  obtain ⟨T63, h63, X63, e63, W63, st63⟩ := putF X61 hx hZ hown (host := "") (Or.inl (hw _ (List.mem_of_getElem? (i := 57) rfl))) Via.refl e61 f62_2 f62_0 (Or.inr ⟨(hw _ (List.mem_of_getElem? (i := 58) rfl)), rfl, hnm⟩) (hw _ (List.mem_of_getElem? (i := 46) rfl)) (ty := (.object "com/example/mosub/mosub/model/Route")) (by decide) rfl rfl (g := (mkF m 19 #[.val (.ref a1), .val (.ref a2), .val .null] [.null, (.ref a1)])) rfl rfl (hb hby d8_19)
  refine own_byW (fun _ k => st63 _ k) ?_
  have Fw63 : Fld Z h63 a1 "com/example/mosub/mosub/model/Reach" "route" "Lcom/example/mosub/mosub/model/Route;" .null := f62_2.same W63
  have Kp63 : Keep h0 h63 [a1] := Kp61.wr W63 (Or.inl (List.mem_of_getElem? (i := 0) rfl))
  have Zs63 : n0 ≤ h63.size := Nat.le_trans Zs61 (Keep.of_wr W63).1
  have N63 := Fr.snoc X63 N61 g_a1
  have hkE63 : _ ≤ h63.size := Nat.le_trans hkE61 (Keep.of_wr W63).1
  have f64_0 : Exa Z h63 a1 "com/example/mosub/mosub/model/Reach" := f62_0.wr W63
  have f64_2 : Exa Z h63 a2 "java/lang/String" := f62_3.wr W63
  have f64_3 : Fld Z h63 a1 "com/example/mosub/mosub/model/Reach" "brokerName" "Ljava/lang/String;" (.ref a2) := Fw61.other W63 (Or.inr (slot_ne (Or.inr (hw _ (List.mem_of_getElem? (i := 56) rfl))) (Or.inr (hw _ (List.mem_of_getElem? (i := 58) rfl))) (by decide) (t := (.object "java/lang/String")) (t' := (.object "com/example/mosub/mosub/model/Route")) (by decide) (by decide)))
  show own_FinW p e below s _ _ _ T63 (mkF m 22 #[.val (.ref a1), .val (.ref a2), .val .null] [])
  exact own_retVW X63 hS57 (by rw [e63]; exact hkE63) hx hlk Bd.returns (hb hby d8_22) (by rw [e63]; exact ⟨rfl, N63, Kp63, Fw63⟩) (by decide) (by decide)
theorem d9_0 : decode prog_32_method_4_code 0 = .ok (.aload_n 0, 1) := by decide +kernel
theorem d9_1 : decode prog_32_method_4_code 1 = .ok (.getfield 22, 3) := by decide +kernel
theorem d9_4 : decode prog_32_method_4_code 4 = .ok (.ifnull 7, 3) := by decide +kernel
theorem d9_7 : decode prog_32_method_4_code 7 = .ok (.iconst 1, 1) := by decide +kernel
theorem d9_8 : decode prog_32_method_4_code 8 = .ok (.goto 4, 3) := by decide +kernel
theorem d9_12 : decode prog_32_method_4_code 12 = .ok (.ireturn, 1) := by decide +kernel
theorem ef_rm_addedR (m : MethodId) (x0 : Addr) : entryFrame m #[(.ref x0)] 1 = mkF m 0 #[.val (.ref x0)] [] := by first | (simp [entryFrame, mkF, argsToLocals, Value.category]; done) | rfl
def own_Qrm_addedR (a2 : Addr) (h0 : Heap) (n0 : Nat) (v : Option Value) (h : Heap) (L : List Loc) : Prop := v = some (.int (1 : Int32)) ∧ Fr n0 L ∧ h = h0
set_option maxRecDepth 65536 in
set_option maxHeartbeats 40000000 in
theorem rm_addedR (l : Launch) (Z : State) (a0 : Array Value) (hw : ∀ d ∈ tables_1, d.before a0 Z = true) (ws : List Jvm.Cond) (a1 a2 : Addr) (h0 : Heap) (n0 : Nat) (Z0 : n0 ≤ h0.size) (F1 : Fld Z h0 a1 "com/example/mosub/mosub/model/Reach" "route" "Lcom/example/mosub/mosub/model/Route;" (.ref a2)) : own_Met l Z (⟨"com/example/mosub/mosub/model/Reach", "added", "()Z"⟩ : MethodName) prog_32_method_4_code 1 (some .boolean) ws (own_R 0 0 0 0) #[(.ref a1)] h0 (own_Qrm_addedR a2 h0 n0) := by
  refine own_enter n0 own_pn83 (fun m => ef_rm_addedR m a1 ) (fun p e s m below meth c s₁ hx hby hlk hml hret hown hnm hZ X0 e0 N0 => ?_)
  show own_Fin p e below s _ _ _ s₁ (mkF m 0 #[.val (.ref a1)] [])
  refine own_by (fun _ k => XS.aloadN X0.here hx rfl (hb hby d9_0) rfl rfl k) ?_
  show own_Fin p e below s _ _ _ s₁ (mkF m 1 #[.val (.ref a1)] [(.ref a1)])
  obtain ⟨T65, X65, e65, st65⟩ := getF X0 hx hZ hown (host := "") (Or.inl (hw _ (List.mem_of_getElem? (i := 57) rfl))) Via.refl e0 F1 (g := (mkF m 1 #[.val (.ref a1)] [(.ref a1)])) rfl rfl (hb hby d9_1)
  refine own_by (fun _ k => st65 _ k) ?_
  show own_Fin p e below s _ _ _ T65 (mkF m 4 #[.val (.ref a1)] [(.ref a2)])
  refine own_by (fun _ k => XS.ifnullNo X65.here hx rfl (hb hby d9_4) rfl k) ?_
  show own_Fin p e below s _ _ _ T65 (mkF m 7 #[.val (.ref a1)] [])
  refine own_by (fun _ k => XS.iconst X65.here hx rfl (hb hby d9_7) (XS.goto X65.here hx rfl (pc0 := 8) (pc' := 12) rfl (hb hby d9_8) (by decide) (by decide) k)) ?_
  show own_Fin p e below s _ _ _ T65 (mkF m 12 #[.val (.ref a1)] [(.int (1 : Int32))])
  exact own_retZ X65 hx hlk (t := .boolean) hret (by simp) (hb hby d9_12) ⟨rfl, N0, e65⟩ (by decide) (by decide)
theorem d9_11 : decode prog_32_method_4_code 11 = .ok (.iconst 0, 1) := by decide +kernel
theorem ef_rm_addedN (m : MethodId) (x0 : Addr) : entryFrame m #[(.ref x0)] 1 = mkF m 0 #[.val (.ref x0)] [] := by first | (simp [entryFrame, mkF, argsToLocals, Value.category]; done) | rfl
def own_Qrm_addedN (a2 : Addr) (h0 : Heap) (n0 : Nat) (v : Option Value) (h : Heap) (L : List Loc) : Prop := v = some (.int (0 : Int32)) ∧ Fr n0 L ∧ h = h0
set_option maxRecDepth 65536 in
set_option maxHeartbeats 40000000 in
theorem rm_addedN (l : Launch) (Z : State) (a0 : Array Value) (hw : ∀ d ∈ tables_1, d.before a0 Z = true) (ws : List Jvm.Cond) (a1 a2 : Addr) (h0 : Heap) (n0 : Nat) (Z0 : n0 ≤ h0.size) (F1 : Fld Z h0 a1 "com/example/mosub/mosub/model/Reach" "route" "Lcom/example/mosub/mosub/model/Route;" .null) : own_Met l Z (⟨"com/example/mosub/mosub/model/Reach", "added", "()Z"⟩ : MethodName) prog_32_method_4_code 1 (some .boolean) ws (own_R 0 0 0 0) #[(.ref a1)] h0 (own_Qrm_addedN a2 h0 n0) := by
  refine own_enter n0 own_pn83 (fun m => ef_rm_addedN m a1 ) (fun p e s m below meth c s₁ hx hby hlk hml hret hown hnm hZ X0 e0 N0 => ?_)
  show own_Fin p e below s _ _ _ s₁ (mkF m 0 #[.val (.ref a1)] [])
  refine own_by (fun _ k => XS.aloadN X0.here hx rfl (hb hby d9_0) rfl rfl k) ?_
  show own_Fin p e below s _ _ _ s₁ (mkF m 1 #[.val (.ref a1)] [(.ref a1)])
  obtain ⟨T66, X66, e66, st66⟩ := getF X0 hx hZ hown (host := "") (Or.inl (hw _ (List.mem_of_getElem? (i := 57) rfl))) Via.refl e0 F1 (g := (mkF m 1 #[.val (.ref a1)] [(.ref a1)])) rfl rfl (hb hby d9_1)
  refine own_by (fun _ k => st66 _ k) ?_
  show own_Fin p e below s _ _ _ T66 (mkF m 4 #[.val (.ref a1)] [.null])
  refine own_by (fun _ k => XS.ifnullYes X66.here hx rfl (pc0 := 4) (pc' := 11) rfl (hb hby d9_4) rfl (by decide) (by decide) k) ?_
  show own_Fin p e below s _ _ _ T66 (mkF m 11 #[.val (.ref a1)] [])
  refine own_by (fun _ k => XS.iconst X66.here hx rfl (hb hby d9_11) k) ?_
  show own_Fin p e below s _ _ _ T66 (mkF m 12 #[.val (.ref a1)] [(.int (0 : Int32))])
  exact own_retZ X66 hx hlk (t := .boolean) hret (by simp) (hb hby d9_12) ⟨rfl, N0, e66⟩ (by decide) (by decide)
theorem d10_0 : decode prog_32_method_5_code 0 = .ok (.aload_n 0, 1) := by decide +kernel
theorem d10_1 : decode prog_32_method_5_code 1 = .ok (.getfield 22, 3) := by decide +kernel
theorem d10_4 : decode prog_32_method_5_code 4 = .ok (.areturn, 1) := by decide +kernel
theorem ef_rm_routeR (m : MethodId) (x0 : Addr) : entryFrame m #[(.ref x0)] 1 = mkF m 0 #[.val (.ref x0)] [] := by first | (simp [entryFrame, mkF, argsToLocals, Value.category]; done) | rfl
def own_Qrm_routeR (a2 : Addr) (h0 : Heap) (n0 : Nat) (v : Option Value) (h : Heap) (L : List Loc) : Prop := v = some (.ref a2) ∧ Fr n0 L ∧ h = h0
set_option maxRecDepth 65536 in
set_option maxHeartbeats 40000000 in
theorem rm_routeR (l : Launch) (Z : State) (a0 : Array Value) (hw : ∀ d ∈ tables_1, d.before a0 Z = true) (ws : List Jvm.Cond) (a1 a2 : Addr) (h0 : Heap) (n0 : Nat) (Z0 : n0 ≤ h0.size) (F1 : Fld Z h0 a1 "com/example/mosub/mosub/model/Reach" "route" "Lcom/example/mosub/mosub/model/Route;" (.ref a2)) : own_Met l Z (⟨"com/example/mosub/mosub/model/Reach", "route", "()Lcom/example/mosub/mosub/model/Route;"⟩ : MethodName) prog_32_method_5_code 1 (some (.object "com/example/mosub/mosub/model/Route")) ws (own_R 0 0 0 0) #[(.ref a1)] h0 (own_Qrm_routeR a2 h0 n0) := by
  refine own_enter n0 own_pn83 (fun m => ef_rm_routeR m a1 ) (fun p e s m below meth c s₁ hx hby hlk hml hret hown hnm hZ X0 e0 N0 => ?_)
  show own_Fin p e below s _ _ _ s₁ (mkF m 0 #[.val (.ref a1)] [])
  refine own_by (fun _ k => XS.aloadN X0.here hx rfl (hb hby d10_0) rfl rfl k) ?_
  show own_Fin p e below s _ _ _ s₁ (mkF m 1 #[.val (.ref a1)] [(.ref a1)])
  obtain ⟨T67, X67, e67, st67⟩ := getF X0 hx hZ hown (host := "") (Or.inl (hw _ (List.mem_of_getElem? (i := 57) rfl))) Via.refl e0 F1 (g := (mkF m 1 #[.val (.ref a1)] [(.ref a1)])) rfl rfl (hb hby d10_1)
  refine own_by (fun _ k => st67 _ k) ?_
  show own_Fin p e below s _ _ _ T67 (mkF m 4 #[.val (.ref a1)] [(.ref a2)])
  exact own_retA X67 hx hlk (t := (.object "com/example/mosub/mosub/model/Route")) hret rfl rfl rfl (hb hby d10_4) ⟨rfl, N0, e67⟩ (by decide) (by decide)
theorem ef_rm_routeN (m : MethodId) (x0 : Addr) : entryFrame m #[(.ref x0)] 1 = mkF m 0 #[.val (.ref x0)] [] := by first | (simp [entryFrame, mkF, argsToLocals, Value.category]; done) | rfl
def own_Qrm_routeN (a2 : Addr) (h0 : Heap) (n0 : Nat) (v : Option Value) (h : Heap) (L : List Loc) : Prop := v = some .null ∧ Fr n0 L ∧ h = h0
set_option maxRecDepth 65536 in
set_option maxHeartbeats 40000000 in
theorem rm_routeN (l : Launch) (Z : State) (a0 : Array Value) (hw : ∀ d ∈ tables_1, d.before a0 Z = true) (ws : List Jvm.Cond) (a1 a2 : Addr) (h0 : Heap) (n0 : Nat) (Z0 : n0 ≤ h0.size) (F1 : Fld Z h0 a1 "com/example/mosub/mosub/model/Reach" "route" "Lcom/example/mosub/mosub/model/Route;" .null) : own_Met l Z (⟨"com/example/mosub/mosub/model/Reach", "route", "()Lcom/example/mosub/mosub/model/Route;"⟩ : MethodName) prog_32_method_5_code 1 (some (.object "com/example/mosub/mosub/model/Route")) ws (own_R 0 0 0 0) #[(.ref a1)] h0 (own_Qrm_routeN a2 h0 n0) := by
  refine own_enter n0 own_pn83 (fun m => ef_rm_routeN m a1 ) (fun p e s m below meth c s₁ hx hby hlk hml hret hown hnm hZ X0 e0 N0 => ?_)
  show own_Fin p e below s _ _ _ s₁ (mkF m 0 #[.val (.ref a1)] [])
  refine own_by (fun _ k => XS.aloadN X0.here hx rfl (hb hby d10_0) rfl rfl k) ?_
  show own_Fin p e below s _ _ _ s₁ (mkF m 1 #[.val (.ref a1)] [(.ref a1)])
  obtain ⟨T68, X68, e68, st68⟩ := getF X0 hx hZ hown (host := "") (Or.inl (hw _ (List.mem_of_getElem? (i := 57) rfl))) Via.refl e0 F1 (g := (mkF m 1 #[.val (.ref a1)] [(.ref a1)])) rfl rfl (hb hby d10_1)
  refine own_by (fun _ k => st68 _ k) ?_
  show own_Fin p e below s _ _ _ T68 (mkF m 4 #[.val (.ref a1)] [.null])
  exact own_retA X68 hx hlk (t := (.object "com/example/mosub/mosub/model/Route")) hret rfl rfl rfl (hb hby d10_4) ⟨rfl, N0, e68⟩ (by decide) (by decide)
theorem own_pn112 : plainName "com/example/mosub/mosub/model/ReachAddedPinLaw" = true := by first | (simp [plainName, overriddenIn]; done) | decide +kernel
theorem own_pd113 : parseMethodDescriptor "(C)Ljava/lang/String;" = some ⟨[.char], some (.object "java/lang/String")⟩ := by decide +kernel
theorem own_pd114 : parseMethodDescriptor "(JLjava/lang/String;)V" = some ⟨[.long, (.object "java/lang/String")], none⟩ := by decide +kernel
theorem own_pd115 : parseMethodDescriptor "(Ljava/lang/String;Lcom/example/mosub/mosub/model/Route;)V" = some ⟨[(.object "java/lang/String"), (.object "com/example/mosub/mosub/model/Route")], none⟩ := by decide +kernel
theorem own_pd116 : parseMethodDescriptor "()Z" = some ⟨[], some .boolean⟩ := by decide +kernel
theorem own_pd117 : parseMethodDescriptor "()Lcom/example/mosub/mosub/model/Route;" = some ⟨[], some (.object "com/example/mosub/mosub/model/Route")⟩ := by decide +kernel
theorem own_pd118 : parseMethodDescriptor "(Lcom/example/mosub/mosub/model/Stamp;Lcom/example/mosub/mosub/model/Stamp;)V" = some ⟨[(.object "com/example/mosub/mosub/model/Stamp"), (.object "com/example/mosub/mosub/model/Stamp")], none⟩ := by decide +kernel
theorem ef_rm0 (m : MethodId) (x0 : Int32) (x1 : Int64) (x2 : Int64) (x3 : Int32) (x4 : Int32) : entryFrame m #[(.int x0), (.long x1), (.long x2), (.int x3), (.int x4)] maxLocals = mkF m 0 #[.val (.int x0), .val (.long x1), .second, .val (.long x2), .second, .val (.int x3), .val (.int x4), .unset, .unset, .unset, .unset, .unset, .unset, .unset, .unset] [] := by first | (simp [entryFrame, mkF, argsToLocals, Value.category, maxLocals]; done) | rfl
def own_Q0 (n0 : Nat) (v : Option Value) (h : Heap) (L : List Loc) : Prop := v = some (.int (1 : Int32)) ∧ Fr n0 L
set_option maxRecDepth 65536 in
set_option maxHeartbeats 40000000 in
theorem rm0 (l : Launch) (Z : State) (a0 : Array Value) (hw : ∀ d ∈ tables_1, d.before a0 Z = true) (ws : List Jvm.Cond) (p1 : Int32) (p2 p3 : Int64) (p4 p5 cs : Int32) (h0 : Heap) (n0 : Nat) (Z0 : n0 ≤ h0.size) (S_cs : Sta Z Z.heap "java/lang/String" "COMPACT_STRINGS" "Z" (.int cs)) (hcs : ¬ cs = (0 : Int32)) (Od : Old Z n0 h0) :
    MetFree l x (head1 (Jvm.Cond.code x code maxLocals ret :: ws) room_1) (fun a U => a = #[(.int p1), (.long p2), (.long p3), (.int p4), (.int p5)] ∧ Z.Warmed39 U.vm ∧ U.heap = h0) (fun _ _ _ _ _ => True) (fun _ U o U' => ∃ v L, o = .returned v ∧ own_Q0 n0 v U'.heap L ∧ ReturnedEndW U o U' L room_1.cells room_1.slots) := by
  refine MetFree.of_bodySF (plainFor_of_name own_pn112) hisR ?_
  intro p e s m args below meth c s₁ Bd hml0 hP hK
  obtain ⟨rfl, hZ, hh⟩ := hP
  have hx := Bd.exec
  have hby := Bd.bytes
  have hlk := Bd.notSynchronized
  have hml : c.maxLocals = 15 := hml0
  have hown : s.vm.findClass "com/example/mosub/mosub/model/ReachAddedPinLaw" = some m.cls := findClass_of_methodNamed Bd.named
  have hnm := (name_of_methodNamed Bd.named Bd.method).1
  have X0 : Stand p l e room_1 (s.setVm s.vm) m #[(.int p1), (.long p2), (.long p3), (.int p4), (.int p5)] below meth c s₁ [] 0 0 := Stand.of_body Bd
  have e0 : s₁.heap = h0 := by rw [← hh, Bd.state]; rfl
  have N0 := Fr.nil n0
  refine own_startW (Q := own_Q0 n0) (C := room_1.cells) (N := room_1.slots) (ef_rm0 m p1 p2 p3 p4 p5 ) ?_
  have hS0 : s.Since s.vm h0.size := (State.WarmedH.refl s).since _
  have hk0 : h0.size ≤ h0.size := Nat.le_refl _
  replace hown : (s.setVm s.vm).vm.findClass "com/example/mosub/mosub/model/ReachAddedPinLaw" = some m.cls := hown
  replace hZ : Z.Warmed39 (s.setVm s.vm).vm := hZ
  show own_FinW p e below s _ _ _ s₁ (mkF m 0 #[.val (.int p1), .val (.long p2), .second, .val (.long p3), .second, .val (.int p4), .val (.int p5), .unset, .unset, .unset, .unset, .unset, .unset, .unset, .unset] [])
  refine own_byW (fun _ k => XS.iloadN X0.here hx rfl (hb hby at_0) rfl (XS.iconst X0.here hx rfl (hb hby at_1) (XS.iand X0.here hx rfl (hb hby at_2) rfl k))) ?_
  show own_FinW p e below s _ _ _ s₁ (mkF m 3 #[.val (.int p1), .val (.long p2), .second, .val (.long p3), .second, .val (.int p4), .val (.int p5), .unset, .unset, .unset, .unset, .unset, .unset, .unset, .unset] [(.int (p1 &&& (1 : Int32)))])
  by_cases hc3_69 : (p1 &&& (1 : Int32)) = (0 : Int32)
  · show own_FinW p e below s _ _ _ s₁ (mkF m 3 #[.val (.int p1), .val (.long p2), .second, .val (.long p3), .second, .val (.int p4), .val (.int p5), .unset, .unset, .unset, .unset, .unset, .unset, .unset, .unset] [(.int (p1 &&& (1 : Int32)))])
    refine own_byW (fun _ k => XS.ifYes X0.here hx rfl (pc0 := 3) (pc' := 10) rfl (hb hby at_3) rfl ((if0 _ _).trans (teq hc3_69).1) (by decide) (by decide) k) ?_
    show own_FinW p e below s _ _ _ s₁ (mkF m 10 #[.val (.int p1), .val (.long p2), .second, .val (.long p3), .second, .val (.int p4), .val (.int p5), .unset, .unset, .unset, .unset, .unset, .unset, .unset, .unset] [])
    refine own_byW (fun _ k => XS.iconst X0.here hx rfl (hb hby at_10) (XS.istore X0.here hx rfl (hb hby at_11) rfl (l' := #[.val (.int p1), .val (.long p2), .second, .val (.long p3), .second, .val (.int p4), .val (.int p5), .val (.int (0 : Int32)), .unset, .unset, .unset, .unset, .unset, .unset, .unset]) rfl (XS.iload X0.here hx rfl (hb hby at_13) rfl (XS.sipush X0.here hx rfl (hb hby at_15) (XS.iand X0.here hx rfl (hb hby at_18) rfl (XS.i2c X0.here hx rfl (hb hby at_19) rfl k)))))) ?_
    show own_FinW p e below s _ _ _ s₁ (mkF m 20 #[.val (.int p1), .val (.long p2), .second, .val (.long p3), .second, .val (.int p4), .val (.int p5), .val (.int (0 : Int32)), .unset, .unset, .unset, .unset, .unset, .unset, .unset] [(.int ((p4 &&& (255 : Int32)).toUInt32.toUInt16.toUInt32.toInt32))])
    obtain ⟨_, _, ⟨T70, L70, k70, n70⟩, -, X70, ⟨Lc70, hQ70, l70, y70, z70⟩, st70⟩ := Jvm.LawKit.callS X0 hx (y := (⟨"java/lang/String", "valueOf", "(C)Ljava/lang/String;"⟩ : MethodName)) hown (mvT hZ (hw _ (List.mem_of_getElem? (i := 0) rfl))) (mvT hZ (hw _ (List.mem_of_getElem? (i := 1) rfl))) (mvT hZ (hw _ (List.mem_of_getElem? (i := 2) rfl))) (mvT hZ (hw _ (List.mem_of_getElem? (i := 3) rfl))) (by decide) (backOf (W := 0) (rm1 l Z a0 hw [] ((p4 &&& (255 : Int32)).toUInt32.toUInt16.toUInt32.toInt32) cs h0 n0 Z0 (own_c255 p4) (S_cs.ext Od.2) hcs) hZ (hw _ (List.mem_of_getElem? (i := 3) rfl)) (hw _ (List.mem_of_getElem? (i := 2) rfl)) (by decide) (by decide)) (g := (mkF m 20 #[.val (.int p1), .val (.long p2), .second, .val (.long p3), .second, .val (.int p4), .val (.int p5), .val (.int (0 : Int32)), .unset, .unset, .unset, .unset, .unset, .unset, .unset] [(.int ((p4 &&& (255 : Int32)).toUInt32.toUInt16.toUInt32.toInt32))])) rfl (by rw [hml]; rfl) (argsL := [(.int ((p4 &&& (255 : Int32)).toUInt32.toUInt16.toUInt32.toInt32))]) (rest := []) (lenOf own_pd113 rfl) rfl (by show 2 * 0 + _ ≤ _; exact Nat.le_of_eq rfl) (hb hby at_20) (fun _ _ => ⟨rfl, e0, (by decide : 0 + 2 ≤ _), (by decide : 0 + 5 ≤ _)⟩)
    dsimp only [Pt.U, Pt.locs, Pt.cells, Pt.slots] at X70 l70 y70 z70 st70 hQ70
    subst l70 y70 z70
    obtain ⟨b70, rfl, Nq70, K70, Eb70⟩ := hQ70
    have N70 := Fr.app N0 Nq70
    refine own_byW (fun _ k => st70 _ k) ?_
    have Zs70 : n0 ≤ T70.heap.size := Nat.le_trans Z0 K70.1
    have hkE70 : _ ≤ T70.heap.size := Nat.le_trans hk0 K70.1
    have f71_0 : Old Z n0 T70.heap := Od.keep K70 all0
    show own_FinW p e below s _ _ _ T70 (mkF m 23 #[.val (.int p1), .val (.long p2), .second, .val (.long p3), .second, .val (.int p4), .val (.int p5), .val (.int (0 : Int32)), .unset, .unset, .unset, .unset, .unset, .unset, .unset] [(.ref b70)])
    refine own_byW (fun _ k => XS.astore X70.here hx rfl (hb hby at_23) rfl rfl (l' := #[.val (.int p1), .val (.long p2), .second, .val (.long p3), .second, .val (.int p4), .val (.int p5), .val (.int (0 : Int32)), .val (.ref b70), .unset, .unset, .unset, .unset, .unset, .unset]) rfl (XS.iload X70.here hx rfl (hb hby at_25) rfl (XS.sipush X70.here hx rfl (hb hby at_27) (XS.iand X70.here hx rfl (hb hby at_30) rfl (XS.i2c X70.here hx rfl (hb hby at_31) rfl k))))) ?_
    show own_FinW p e below s _ _ _ T70 (mkF m 32 #[.val (.int p1), .val (.long p2), .second, .val (.long p3), .second, .val (.int p4), .val (.int p5), .val (.int (0 : Int32)), .val (.ref b70), .unset, .unset, .unset, .unset, .unset, .unset] [(.int ((p5 &&& (255 : Int32)).toUInt32.toUInt16.toUInt32.toInt32))])
    obtain ⟨_, _, ⟨T72, L72, k72, n72⟩, -, X72, ⟨Lc72, hQ72, l72, y72, z72⟩, st72⟩ := Jvm.LawKit.callS X70 hx (y := (⟨"java/lang/String", "valueOf", "(C)Ljava/lang/String;"⟩ : MethodName)) hown (mvT hZ (hw _ (List.mem_of_getElem? (i := 0) rfl))) (mvT hZ (hw _ (List.mem_of_getElem? (i := 1) rfl))) (mvT hZ (hw _ (List.mem_of_getElem? (i := 2) rfl))) (mvT hZ (hw _ (List.mem_of_getElem? (i := 3) rfl))) (by decide) (backOf (W := 0) (rm1 l Z a0 hw [] ((p5 &&& (255 : Int32)).toUInt32.toUInt16.toUInt32.toInt32) cs T70.heap n0 Zs70 (own_c255 p5) (S_cs.ext f71_0.2) hcs) hZ (hw _ (List.mem_of_getElem? (i := 3) rfl)) (hw _ (List.mem_of_getElem? (i := 2) rfl)) (by decide) (by decide)) (g := (mkF m 32 #[.val (.int p1), .val (.long p2), .second, .val (.long p3), .second, .val (.int p4), .val (.int p5), .val (.int (0 : Int32)), .val (.ref b70), .unset, .unset, .unset, .unset, .unset, .unset] [(.int ((p5 &&& (255 : Int32)).toUInt32.toUInt16.toUInt32.toInt32))])) rfl (by rw [hml]; rfl) (argsL := [(.int ((p5 &&& (255 : Int32)).toUInt32.toUInt16.toUInt32.toInt32))]) (rest := []) (lenOf own_pd113 rfl) rfl (by show 2 * 0 + _ ≤ _; exact Nat.le_of_eq rfl) (hb hby at_32) (fun _ _ => ⟨rfl, rfl, (by decide : 2 + 2 ≤ _), (by decide : 5 + 5 ≤ _)⟩)
    dsimp only [Pt.U, Pt.locs, Pt.cells, Pt.slots] at X72 l72 y72 z72 st72 hQ72
    subst l72 y72 z72
    obtain ⟨b72, rfl, Nq72, K72, Eb72⟩ := hQ72
    have N72 := Fr.app N70 Nq72
    refine own_byW (fun _ k => st72 _ k) ?_
    have Zs72 : n0 ≤ T72.heap.size := Nat.le_trans Zs70 K72.1
    have hkE72 : _ ≤ T72.heap.size := Nat.le_trans hkE70 K72.1
    have f73_0 : Old Z n0 T72.heap := f71_0.keep K72 all0
    have f73_1 : Exa Z T72.heap b70 "java/lang/String" := Eb70.keep K72
    show own_FinW p e below s _ _ _ T72 (mkF m 35 #[.val (.int p1), .val (.long p2), .second, .val (.long p3), .second, .val (.int p4), .val (.int p5), .val (.int (0 : Int32)), .val (.ref b70), .unset, .unset, .unset, .unset, .unset, .unset] [(.ref b72)])
    refine own_byW (fun _ k => XS.astore X72.here hx rfl (hb hby at_35) rfl rfl (l' := #[.val (.int p1), .val (.long p2), .second, .val (.long p3), .second, .val (.int p4), .val (.int p5), .val (.int (0 : Int32)), .val (.ref b70), .val (.ref b72), .unset, .unset, .unset, .unset, .unset]) rfl k) ?_
    show own_FinW p e below s _ _ _ T72 (mkF m 37 #[.val (.int p1), .val (.long p2), .second, .val (.long p3), .second, .val (.int p4), .val (.int p5), .val (.int (0 : Int32)), .val (.ref b70), .val (.ref b72), .unset, .unset, .unset, .unset, .unset] [])
    obtain ⟨T74, h74, X74, e74, E74, A74, D74, -, st74⟩ := newO X72 hx hZ hown (hw _ (List.mem_of_getElem? (i := 26) rfl)) (hw _ (List.mem_of_getElem? (i := 27) rfl)) (hw _ (List.mem_of_getElem? (i := 28) rfl)) rfl (g := (mkF m 37 #[.val (.int p1), .val (.long p2), .second, .val (.long p3), .second, .val (.int p4), .val (.int p5), .val (.int (0 : Int32)), .val (.ref b70), .val (.ref b72), .unset, .unset, .unset, .unset, .unset] [])) rfl (hb hby at_37) (by decide) (by decide)
    obtain ⟨b74, g74⟩ : ∃ z, z = T72.heap.size := ⟨_, rfl⟩
    rw [← g74] at A74 D74 st74
    refine own_byW (fun _ k => st74 _ k) ?_
    have ne74_b70 : b70 ≠ b74 := Nat.ne_of_lt (Nat.lt_of_lt_of_le f73_1.lt (Nat.le_of_eq g74.symm))
    have ne74_b72 : b72 ≠ b74 := Nat.ne_of_lt (Nat.lt_of_lt_of_le Eb72.lt (Nat.le_of_eq g74.symm))
    have gf74 : n0 ≤ b74 := Nat.le_trans Zs72 (Nat.le_of_eq g74.symm)
    have Zs74 : n0 ≤ h74.size := Nat.le_trans Zs72 E74.1
    have hkE74 : _ ≤ h74.size := Nat.le_trans hkE72 E74.1
    have f75_0 : Old Z n0 h74 := f73_0.ext E74
    have f75_1 : Exa Z h74 b70 "java/lang/String" := f73_1.ext E74
    have f75_2 : Exa Z h74 b72 "java/lang/String" := Eb72.ext E74
    have F74_number : Fld Z h74 b74 "com/example/mosub/mosub/model/Stamp" "number" "J" (.long (0 : Int64)) := D74 (Or.inr (hw _ (List.mem_of_getElem? (i := 34) rfl))) (ty := .long) (by decide)
    have F74_origin : Fld Z h74 b74 "com/example/mosub/mosub/model/Stamp" "origin" "Ljava/lang/String;" .null := D74 (Or.inr (hw _ (List.mem_of_getElem? (i := 44) rfl))) (ty := (.object "java/lang/String")) (by decide)
    show own_FinW p e below s _ _ _ T74 (mkF m 40 #[.val (.int p1), .val (.long p2), .second, .val (.long p3), .second, .val (.int p4), .val (.int p5), .val (.int (0 : Int32)), .val (.ref b70), .val (.ref b72), .unset, .unset, .unset, .unset, .unset] [(.ref b74)])
    refine own_byW (fun _ k => XS.dup X74.here hx rfl (hb hby at_40) rfl rfl (XS.lloadN X74.here hx rfl (hb hby at_41) rfl (XS.aload X74.here hx rfl (hb hby at_42) rfl rfl k))) ?_
    show own_FinW p e below s _ _ _ T74 (mkF m 44 #[.val (.int p1), .val (.long p2), .second, .val (.long p3), .second, .val (.int p4), .val (.int p5), .val (.int (0 : Int32)), .val (.ref b70), .val (.ref b72), .unset, .unset, .unset, .unset, .unset] [(.ref b72), (.long p2), (.ref b74), (.ref b74)])
    obtain ⟨_, _, ⟨T76, L76, k76, n76⟩, -, X76, hSn76, hgr76, ⟨Lc76, hQ76, l76, y76, z76⟩, st76⟩ := X74.specialBackS hx (y := (⟨"com/example/mosub/mosub/model/Stamp", "<init>", "(JLjava/lang/String;)V"⟩ : MethodName)) rfl hown (mvT hZ (hw _ (List.mem_of_getElem? (i := 29) rfl))) (mvT hZ (hw _ (List.mem_of_getElem? (i := 30) rfl))) (mvT hZ (hw _ (List.mem_of_getElem? (i := 31) rfl))) (by decide) (backOfS (W := 1) (rmS l Z a0 hw [] b74 b72 p2 _ _ h74 n0 Zs74 A74 F74_number F74_origin gf74 f75_2) hZ (hw _ (List.mem_of_getElem? (i := 31) rfl)) (hw _ (List.mem_of_getElem? (i := 28) rfl)) (by decide) (by decide)) (g := (mkF m 44 #[.val (.int p1), .val (.long p2), .second, .val (.long p3), .second, .val (.int p4), .val (.int p5), .val (.int (0 : Int32)), .val (.ref b70), .val (.ref b72), .unset, .unset, .unset, .unset, .unset] [(.ref b72), (.long p2), (.ref b74), (.ref b74)])) rfl (by rw [hml]; rfl) (Steps.refl _) (a := b74) (argsL := [(.long p2), (.ref b72)]) (rest := [(.ref b74)]) (lenOf own_pd114 rfl) rfl (by show 2 * 0 + _ ≤ _; exact Nat.le_of_eq rfl) (hb hby at_44) (fun _ _ => ⟨rfl, e74, (by decide : 5 + 2 ≤ _), (by decide : 12 + 28 ≤ _)⟩)
    dsimp only [Pt.U, Pt.locs, Pt.cells, Pt.slots] at X76 l76 y76 z76 st76 hQ76 hSn76 hgr76
    subst l76 y76 z76
    obtain ⟨rfl, Nq76, K76⟩ := hQ76
    have N76 := Fr.app N72 Nq76
    have hS76 : s.Since T76.vm T76.heap.size := foldS (s := s) hS0 (by rw [e74]; exact hkE74) hSn76 hgr76
    have hZ76 : Z.Warmed39 (s.setVm T76.vm).vm := State.Warmed39.trans (t := s.setVm s.vm) hZ hSn76.1
    have hown76 : (s.setVm T76.vm).vm.findClass "com/example/mosub/mosub/model/ReachAddedPinLaw" = some m.cls := by rw [show (s.setVm T76.vm).vm = T76.vm from rfl, hSn76.1.alike.findClass]; exact hown
    replace hZ := hZ76
    replace hown := hown76
    replace X76 : Stand p l e room_1 (s.setVm T76.vm) m #[(.int p1), (.long p2), (.long p3), (.int p4), (.int p5)] below meth c T76 _ _ _ := X76
    have hkE76 : T76.heap.size ≤ T76.heap.size := Nat.le_refl _
    refine own_byW (fun _ k => st76.trans k) ?_
    have Zs76 : n0 ≤ T76.heap.size := Nat.le_trans Zs74 K76.1
    have f77_0 : Old Z n0 T76.heap := f75_0.keep K76 (allS gf74 all0)
    have f77_1 : Exa Z T76.heap b70 "java/lang/String" := f75_1.keep K76
    have f77_2 : Exa Z T76.heap b72 "java/lang/String" := f75_2.keep K76
    have f77_3 : Exa Z T76.heap b74 "com/example/mosub/mosub/model/Stamp" := A74.keep K76
    show own_FinW p e below s _ _ _ T76 (mkF m 47 #[.val (.int p1), .val (.long p2), .second, .val (.long p3), .second, .val (.int p4), .val (.int p5), .val (.int (0 : Int32)), .val (.ref b70), .val (.ref b72), .unset, .unset, .unset, .unset, .unset] [(.ref b74)])
    refine own_byW (fun _ k => XS.astore X76.here hx rfl (hb hby at_47) rfl rfl (l' := #[.val (.int p1), .val (.long p2), .second, .val (.long p3), .second, .val (.int p4), .val (.int p5), .val (.int (0 : Int32)), .val (.ref b70), .val (.ref b72), .val (.ref b74), .unset, .unset, .unset, .unset]) rfl k) ?_
    show own_FinW p e below s _ _ _ T76 (mkF m 49 #[.val (.int p1), .val (.long p2), .second, .val (.long p3), .second, .val (.int p4), .val (.int p5), .val (.int (0 : Int32)), .val (.ref b70), .val (.ref b72), .val (.ref b74), .unset, .unset, .unset, .unset] [])
    obtain ⟨T78, h78, X78, e78, E78, A78, D78, -, st78⟩ := newO X76 hx hZ hown (hw _ (List.mem_of_getElem? (i := 26) rfl)) (hw _ (List.mem_of_getElem? (i := 27) rfl)) (hw _ (List.mem_of_getElem? (i := 28) rfl)) rfl (g := (mkF m 49 #[.val (.int p1), .val (.long p2), .second, .val (.long p3), .second, .val (.int p4), .val (.int p5), .val (.int (0 : Int32)), .val (.ref b70), .val (.ref b72), .val (.ref b74), .unset, .unset, .unset, .unset] [])) rfl (hb hby at_49) (by decide) (by decide)
    obtain ⟨b78, g78⟩ : ∃ z, z = T76.heap.size := ⟨_, rfl⟩
    rw [← g78] at A78 D78 st78
    refine own_byW (fun _ k => st78 _ k) ?_
    have ne78_b70 : b70 ≠ b78 := Nat.ne_of_lt (Nat.lt_of_lt_of_le f77_1.lt (Nat.le_of_eq g78.symm))
    have ne78_b72 : b72 ≠ b78 := Nat.ne_of_lt (Nat.lt_of_lt_of_le f77_2.lt (Nat.le_of_eq g78.symm))
    have ne78_b74 : b74 ≠ b78 := Nat.ne_of_lt (Nat.lt_of_lt_of_le f77_3.lt (Nat.le_of_eq g78.symm))
    have gf78 : n0 ≤ b78 := Nat.le_trans Zs76 (Nat.le_of_eq g78.symm)
    have Zs78 : n0 ≤ h78.size := Nat.le_trans Zs76 E78.1
    have hkE78 : _ ≤ h78.size := Nat.le_trans hkE76 E78.1
    have f79_0 : Old Z n0 h78 := f77_0.ext E78
    have f79_1 : Exa Z h78 b70 "java/lang/String" := f77_1.ext E78
    have f79_2 : Exa Z h78 b72 "java/lang/String" := f77_2.ext E78
    have f79_3 : Exa Z h78 b74 "com/example/mosub/mosub/model/Stamp" := f77_3.ext E78
    have F78_number : Fld Z h78 b78 "com/example/mosub/mosub/model/Stamp" "number" "J" (.long (0 : Int64)) := D78 (Or.inr (hw _ (List.mem_of_getElem? (i := 34) rfl))) (ty := .long) (by decide)
    have F78_origin : Fld Z h78 b78 "com/example/mosub/mosub/model/Stamp" "origin" "Ljava/lang/String;" .null := D78 (Or.inr (hw _ (List.mem_of_getElem? (i := 44) rfl))) (ty := (.object "java/lang/String")) (by decide)
    show own_FinW p e below s _ _ _ T78 (mkF m 52 #[.val (.int p1), .val (.long p2), .second, .val (.long p3), .second, .val (.int p4), .val (.int p5), .val (.int (0 : Int32)), .val (.ref b70), .val (.ref b72), .val (.ref b74), .unset, .unset, .unset, .unset] [(.ref b78)])
    refine own_byW (fun _ k => XS.dup X78.here hx rfl (hb hby at_52) rfl rfl (XS.lloadN X78.here hx rfl (hb hby at_53) rfl (XS.aload X78.here hx rfl (hb hby at_54) rfl rfl k))) ?_
    show own_FinW p e below s _ _ _ T78 (mkF m 56 #[.val (.int p1), .val (.long p2), .second, .val (.long p3), .second, .val (.int p4), .val (.int p5), .val (.int (0 : Int32)), .val (.ref b70), .val (.ref b72), .val (.ref b74), .unset, .unset, .unset, .unset] [(.ref b70), (.long p3), (.ref b78), (.ref b78)])
    obtain ⟨_, _, ⟨T80, L80, k80, n80⟩, -, X80, hSn80, hgr80, ⟨Lc80, hQ80, l80, y80, z80⟩, st80⟩ := X78.specialBackS hx (y := (⟨"com/example/mosub/mosub/model/Stamp", "<init>", "(JLjava/lang/String;)V"⟩ : MethodName)) rfl hown (mvT hZ (hw _ (List.mem_of_getElem? (i := 29) rfl))) (mvT hZ (hw _ (List.mem_of_getElem? (i := 30) rfl))) (mvT hZ (hw _ (List.mem_of_getElem? (i := 31) rfl))) (by decide) (backOfS (W := 1) (rmS l Z a0 hw [] b78 b70 p3 _ _ h78 n0 Zs78 A78 F78_number F78_origin gf78 f79_1) hZ (hw _ (List.mem_of_getElem? (i := 31) rfl)) (hw _ (List.mem_of_getElem? (i := 28) rfl)) (by decide) (by decide)) (g := (mkF m 56 #[.val (.int p1), .val (.long p2), .second, .val (.long p3), .second, .val (.int p4), .val (.int p5), .val (.int (0 : Int32)), .val (.ref b70), .val (.ref b72), .val (.ref b74), .unset, .unset, .unset, .unset] [(.ref b70), (.long p3), (.ref b78), (.ref b78)])) rfl (by rw [hml]; rfl) (Steps.refl _) (a := b78) (argsL := [(.long p3), (.ref b70)]) (rest := [(.ref b78)]) (lenOf own_pd114 rfl) rfl (by show 2 * 0 + _ ≤ _; exact Nat.le_of_eq rfl) (hb hby at_56) (fun _ _ => ⟨rfl, e78, (by decide : 8 + 2 ≤ _), (by decide : 42 + 28 ≤ _)⟩)
    dsimp only [Pt.U, Pt.locs, Pt.cells, Pt.slots] at X80 l80 y80 z80 st80 hQ80 hSn80 hgr80
    subst l80 y80 z80
    obtain ⟨rfl, Nq80, K80⟩ := hQ80
    have N80 := Fr.app N76 Nq80
    have hS80 : s.Since T80.vm T80.heap.size := foldS (s := s) hS76 (by rw [e78]; exact hkE78) hSn80 hgr80
    have hZ80 : Z.Warmed39 (s.setVm T80.vm).vm := State.Warmed39.trans (t := s.setVm T76.vm) hZ hSn80.1
    have hown80 : (s.setVm T80.vm).vm.findClass "com/example/mosub/mosub/model/ReachAddedPinLaw" = some m.cls := by rw [show (s.setVm T80.vm).vm = T80.vm from rfl, hSn80.1.alike.findClass]; exact hown
    replace hZ := hZ80
    replace hown := hown80
    replace X80 : Stand p l e room_1 (s.setVm T80.vm) m #[(.int p1), (.long p2), (.long p3), (.int p4), (.int p5)] below meth c T80 _ _ _ := X80
    have hkE80 : T80.heap.size ≤ T80.heap.size := Nat.le_refl _
    refine own_byW (fun _ k => st80.trans k) ?_
    have Zs80 : n0 ≤ T80.heap.size := Nat.le_trans Zs78 K80.1
    have f81_0 : Old Z n0 T80.heap := f79_0.keep K80 (allS gf78 all0)
    have f81_1 : Exa Z T80.heap b70 "java/lang/String" := f79_1.keep K80
    have f81_2 : Exa Z T80.heap b72 "java/lang/String" := f79_2.keep K80
    have f81_3 : Exa Z T80.heap b74 "com/example/mosub/mosub/model/Stamp" := f79_3.keep K80
    have f81_4 : Exa Z T80.heap b78 "com/example/mosub/mosub/model/Stamp" := A78.keep K80
    show own_FinW p e below s _ _ _ T80 (mkF m 59 #[.val (.int p1), .val (.long p2), .second, .val (.long p3), .second, .val (.int p4), .val (.int p5), .val (.int (0 : Int32)), .val (.ref b70), .val (.ref b72), .val (.ref b74), .unset, .unset, .unset, .unset] [(.ref b78)])
    refine own_byW (fun _ k => XS.astore X80.here hx rfl (hb hby at_59) rfl rfl (l' := #[.val (.int p1), .val (.long p2), .second, .val (.long p3), .second, .val (.int p4), .val (.int p5), .val (.int (0 : Int32)), .val (.ref b70), .val (.ref b72), .val (.ref b74), .val (.ref b78), .unset, .unset, .unset]) rfl (XS.aconstNull X80.here hx rfl (hb hby at_61) (XS.astore X80.here hx rfl (hb hby at_62) rfl rfl (l' := #[.val (.int p1), .val (.long p2), .second, .val (.long p3), .second, .val (.int p4), .val (.int p5), .val (.int (0 : Int32)), .val (.ref b70), .val (.ref b72), .val (.ref b74), .val (.ref b78), .val .null, .unset, .unset]) rfl (XS.iload X80.here hx rfl (hb hby at_64) rfl k)))) ?_
    show own_FinW p e below s _ _ _ T80 (mkF m 66 #[.val (.int p1), .val (.long p2), .second, .val (.long p3), .second, .val (.int p4), .val (.int p5), .val (.int (0 : Int32)), .val (.ref b70), .val (.ref b72), .val (.ref b74), .val (.ref b78), .val .null, .unset, .unset] [(.int (0 : Int32))])
    refine own_byW (fun _ k => XS.ifYes X80.here hx rfl (pc0 := 66) (pc' := 82) rfl (hb hby at_66) rfl ((if0 _ _).trans (teq (by decide : (0 : Int32) = (0 : Int32))).1) (by decide) (by decide) k) ?_
    show own_FinW p e below s _ _ _ T80 (mkF m 82 #[.val (.int p1), .val (.long p2), .second, .val (.long p3), .second, .val (.int p4), .val (.int p5), .val (.int (0 : Int32)), .val (.ref b70), .val (.ref b72), .val (.ref b74), .val (.ref b78), .val .null, .unset, .unset] [])
    obtain ⟨T82, h82, X82, e82, E82, A82, D82, -, st82⟩ := newO X80 hx hZ hown (hw _ (List.mem_of_getElem? (i := 45) rfl)) (hw _ (List.mem_of_getElem? (i := 46) rfl)) (hw _ (List.mem_of_getElem? (i := 47) rfl)) rfl (g := (mkF m 82 #[.val (.int p1), .val (.long p2), .second, .val (.long p3), .second, .val (.int p4), .val (.int p5), .val (.int (0 : Int32)), .val (.ref b70), .val (.ref b72), .val (.ref b74), .val (.ref b78), .val .null, .unset, .unset] [])) rfl (hb hby at_82) (by decide) (by decide)
    obtain ⟨b82, g82⟩ : ∃ z, z = T80.heap.size := ⟨_, rfl⟩
    rw [← g82] at A82 D82 st82
    refine own_byW (fun _ k => st82 _ k) ?_
    have ne82_b70 : b70 ≠ b82 := Nat.ne_of_lt (Nat.lt_of_lt_of_le f81_1.lt (Nat.le_of_eq g82.symm))
    have ne82_b72 : b72 ≠ b82 := Nat.ne_of_lt (Nat.lt_of_lt_of_le f81_2.lt (Nat.le_of_eq g82.symm))
    have ne82_b74 : b74 ≠ b82 := Nat.ne_of_lt (Nat.lt_of_lt_of_le f81_3.lt (Nat.le_of_eq g82.symm))
    have ne82_b78 : b78 ≠ b82 := Nat.ne_of_lt (Nat.lt_of_lt_of_le f81_4.lt (Nat.le_of_eq g82.symm))
    have gf82 : n0 ≤ b82 := Nat.le_trans Zs80 (Nat.le_of_eq g82.symm)
    have Zs82 : n0 ≤ h82.size := Nat.le_trans Zs80 E82.1
    have hkE82 : _ ≤ h82.size := Nat.le_trans hkE80 E82.1
    have f83_0 : Old Z n0 h82 := f81_0.ext E82
    have f83_1 : Exa Z h82 b70 "java/lang/String" := f81_1.ext E82
    have f83_2 : Exa Z h82 b72 "java/lang/String" := f81_2.ext E82
    have f83_3 : Exa Z h82 b74 "com/example/mosub/mosub/model/Stamp" := f81_3.ext E82
    have f83_4 : Exa Z h82 b78 "com/example/mosub/mosub/model/Stamp" := f81_4.ext E82
    have F82_brokerName : Fld Z h82 b82 "com/example/mosub/mosub/model/Reach" "brokerName" "Ljava/lang/String;" .null := D82 (Or.inr (hw _ (List.mem_of_getElem? (i := 56) rfl))) (ty := (.object "java/lang/String")) (by decide)
    have F82_route : Fld Z h82 b82 "com/example/mosub/mosub/model/Reach" "route" "Lcom/example/mosub/mosub/model/Route;" .null := D82 (Or.inr (hw _ (List.mem_of_getElem? (i := 58) rfl))) (ty := (.object "com/example/mosub/mosub/model/Route")) (by decide)
    show own_FinW p e below s _ _ _ T82 (mkF m 85 #[.val (.int p1), .val (.long p2), .second, .val (.long p3), .second, .val (.int p4), .val (.int p5), .val (.int (0 : Int32)), .val (.ref b70), .val (.ref b72), .val (.ref b74), .val (.ref b78), .val .null, .unset, .unset] [(.ref b82)])
    refine own_byW (fun _ k => XS.dup X82.here hx rfl (hb hby at_85) rfl rfl (XS.aload X82.here hx rfl (hb hby at_86) rfl rfl (XS.aload X82.here hx rfl (hb hby at_88) rfl rfl k))) ?_
    show own_FinW p e below s _ _ _ T82 (mkF m 90 #[.val (.int p1), .val (.long p2), .second, .val (.long p3), .second, .val (.int p4), .val (.int p5), .val (.int (0 : Int32)), .val (.ref b70), .val (.ref b72), .val (.ref b74), .val (.ref b78), .val .null, .unset, .unset] [.null, (.ref b70), (.ref b82), (.ref b82)])
    obtain ⟨_, _, ⟨T84, L84, k84, n84⟩, -, X84, hSn84, hgr84, ⟨Lc84, hQ84, l84, y84, z84⟩, st84⟩ := X82.specialBackS hx (y := (⟨"com/example/mosub/mosub/model/Reach", "<init>", "(Ljava/lang/String;Lcom/example/mosub/mosub/model/Route;)V"⟩ : MethodName)) rfl hown (mvT hZ (hw _ (List.mem_of_getElem? (i := 48) rfl))) (mvT hZ (hw _ (List.mem_of_getElem? (i := 49) rfl))) (mvT hZ (hw _ (List.mem_of_getElem? (i := 50) rfl))) (by decide) (backOfS (W := 1) (rmN l Z a0 hw [] b82 b70 _ _ h82 n0 Zs82 A82 F82_brokerName F82_route gf82 f83_1) hZ (hw _ (List.mem_of_getElem? (i := 50) rfl)) (hw _ (List.mem_of_getElem? (i := 47) rfl)) (by decide) (by decide)) (g := (mkF m 90 #[.val (.int p1), .val (.long p2), .second, .val (.long p3), .second, .val (.int p4), .val (.int p5), .val (.int (0 : Int32)), .val (.ref b70), .val (.ref b72), .val (.ref b74), .val (.ref b78), .val .null, .unset, .unset] [.null, (.ref b70), (.ref b82), (.ref b82)])) rfl (by rw [hml]; rfl) (Steps.refl _) (a := b82) (argsL := [(.ref b70), .null]) (rest := [(.ref b82)]) (lenOf own_pd115 rfl) rfl (by show 2 * 0 + _ ≤ _; exact Nat.le_of_eq rfl) (hb hby at_90) (fun _ _ => ⟨rfl, e82, (by decide : 11 + 2 ≤ _), (by decide : 72 + 44 ≤ _)⟩)
    dsimp only [Pt.U, Pt.locs, Pt.cells, Pt.slots] at X84 l84 y84 z84 st84 hQ84 hSn84 hgr84
    subst l84 y84 z84
    obtain ⟨rfl, Nq84, K84, Fr84⟩ := hQ84
    have N84 := Fr.app N80 Nq84
    have hS84 : s.Since T84.vm T84.heap.size := foldS (s := s) hS80 (by rw [e82]; exact hkE82) hSn84 hgr84
    have hZ84 : Z.Warmed39 (s.setVm T84.vm).vm := State.Warmed39.trans (t := s.setVm T80.vm) hZ hSn84.1
    have hown84 : (s.setVm T84.vm).vm.findClass "com/example/mosub/mosub/model/ReachAddedPinLaw" = some m.cls := by rw [show (s.setVm T84.vm).vm = T84.vm from rfl, hSn84.1.alike.findClass]; exact hown
    replace hZ := hZ84
    replace hown := hown84
    replace X84 : Stand p l e room_1 (s.setVm T84.vm) m #[(.int p1), (.long p2), (.long p3), (.int p4), (.int p5)] below meth c T84 _ _ _ := X84
    have hkE84 : T84.heap.size ≤ T84.heap.size := Nat.le_refl _
    refine own_byW (fun _ k => st84.trans k) ?_
    have Zs84 : n0 ≤ T84.heap.size := Nat.le_trans Zs82 K84.1
    have f85_0 : Old Z n0 T84.heap := f83_0.keep K84 (allS gf82 all0)
    have f85_1 : Exa Z T84.heap b70 "java/lang/String" := f83_1.keep K84
    have f85_2 : Exa Z T84.heap b72 "java/lang/String" := f83_2.keep K84
    have f85_3 : Exa Z T84.heap b74 "com/example/mosub/mosub/model/Stamp" := f83_3.keep K84
    have f85_4 : Exa Z T84.heap b78 "com/example/mosub/mosub/model/Stamp" := f83_4.keep K84
    have f85_5 : Exa Z T84.heap b82 "com/example/mosub/mosub/model/Reach" := A82.keep K84
    show own_FinW p e below s _ _ _ T84 (mkF m 93 #[.val (.int p1), .val (.long p2), .second, .val (.long p3), .second, .val (.int p4), .val (.int p5), .val (.int (0 : Int32)), .val (.ref b70), .val (.ref b72), .val (.ref b74), .val (.ref b78), .val .null, .unset, .unset] [(.ref b82)])
    refine own_byW (fun _ k => XS.astore X84.here hx rfl (hb hby at_93) rfl rfl (l' := #[.val (.int p1), .val (.long p2), .second, .val (.long p3), .second, .val (.int p4), .val (.int p5), .val (.int (0 : Int32)), .val (.ref b70), .val (.ref b72), .val (.ref b74), .val (.ref b78), .val .null, .val (.ref b82), .unset]) rfl (XS.aload X84.here hx rfl (hb hby at_95) rfl rfl k)) ?_
    show own_FinW p e below s _ _ _ T84 (mkF m 97 #[.val (.int p1), .val (.long p2), .second, .val (.long p3), .second, .val (.int p4), .val (.int p5), .val (.int (0 : Int32)), .val (.ref b70), .val (.ref b72), .val (.ref b74), .val (.ref b78), .val .null, .val (.ref b82), .unset] [(.ref b82)])
    obtain ⟨cq86, kq86, q86a, q86b, q86c⟩ := isOf hZ rfl f85_5
    obtain ⟨_, _, ⟨T86, L86, k86, n86⟩, -, X86, ⟨Lc86, hQ86, l86, y86, z86⟩, st86⟩ := X84.virtualBack hx (y := (⟨"com/example/mosub/mosub/model/Reach", "added", "()Z"⟩ : MethodName)) (z := (⟨"com/example/mosub/mosub/model/Reach", "added", "()Z"⟩ : MethodName)) hown (mvT hZ (hw _ (List.mem_of_getElem? (i := 59) rfl))) (mvT hZ (hw _ (List.mem_of_getElem? (i := 60) rfl))) (notFace_of_selects (args := #[]) (mvT hZ (hw _ (List.mem_of_getElem? (i := 62) rfl)))) (mvT hZ (hw _ (List.mem_of_getElem? (i := 62) rfl))) (mvT hZ (hw _ (List.mem_of_getElem? (i := 61) rfl))) (by decide) (backOf (W := 0) (rm_addedN l Z a0 hw [] b82 b82 T84.heap n0 Zs84 Fr84) hZ (hw _ (List.mem_of_getElem? (i := 63) rfl)) (hw _ (List.mem_of_getElem? (i := 47) rfl)) (by decide) (by decide)) q86a q86c (g := (mkF m 97 #[.val (.int p1), .val (.long p2), .second, .val (.long p3), .second, .val (.int p4), .val (.int p5), .val (.int (0 : Int32)), .val (.ref b70), .val (.ref b72), .val (.ref b74), .val (.ref b78), .val .null, .val (.ref b82), .unset] [(.ref b82)])) rfl (by rw [hml]; rfl) (Steps.refl _) (argsL := []) (rest := []) (lenOf own_pd116 rfl) rfl (by show 2 * 0 + _ ≤ _; exact Nat.le_of_eq rfl) (hb hby at_97) (fun _ _ => ⟨rfl, rfl, (by decide : 13 + 0 ≤ _), (by decide : 116 + 0 ≤ _)⟩)
    dsimp only [Pt.U, Pt.locs, Pt.cells, Pt.slots] at X86 l86 y86 z86 st86 hQ86
    subst l86 y86 z86
    obtain ⟨rfl, Nq86, eh86⟩ := hQ86
    have N86 := Fr.app N84 Nq86
    refine own_byW (fun _ k => st86.trans k) ?_
    show own_FinW p e below s _ _ _ T86 (mkF m 100 #[.val (.int p1), .val (.long p2), .second, .val (.long p3), .second, .val (.int p4), .val (.int p5), .val (.int (0 : Int32)), .val (.ref b70), .val (.ref b72), .val (.ref b74), .val (.ref b78), .val .null, .val (.ref b82), .unset] [(.int (0 : Int32))])
    refine own_byW (fun _ k => XS.istore X86.here hx rfl (hb hby at_100) rfl (l' := #[.val (.int p1), .val (.long p2), .second, .val (.long p3), .second, .val (.int p4), .val (.int p5), .val (.int (0 : Int32)), .val (.ref b70), .val (.ref b72), .val (.ref b74), .val (.ref b78), .val .null, .val (.ref b82), .val (.int (0 : Int32))]) rfl (XS.iload X86.here hx rfl (hb hby at_102) rfl (XS.iload X86.here hx rfl (hb hby at_104) rfl k))) ?_
    show own_FinW p e below s _ _ _ T86 (mkF m 106 #[.val (.int p1), .val (.long p2), .second, .val (.long p3), .second, .val (.int p4), .val (.int p5), .val (.int (0 : Int32)), .val (.ref b70), .val (.ref b72), .val (.ref b74), .val (.ref b78), .val .null, .val (.ref b82), .val (.int (0 : Int32))] [(.int (0 : Int32)), (.int (0 : Int32))])
    refine own_byW (fun _ k => XS.icmpNo X86.here hx rfl (hb hby at_106) rfl (teq (by decide : (0 : Int32) = (0 : Int32))).2 k) ?_
    show own_FinW p e below s _ _ _ T86 (mkF m 109 #[.val (.int p1), .val (.long p2), .second, .val (.long p3), .second, .val (.int p4), .val (.int p5), .val (.int (0 : Int32)), .val (.ref b70), .val (.ref b72), .val (.ref b74), .val (.ref b78), .val .null, .val (.ref b82), .val (.int (0 : Int32))] [])
    refine own_byW (fun _ k => XS.iload X86.here hx rfl (hb hby at_109) rfl (XS.aload X86.here hx rfl (hb hby at_111) rfl rfl k)) ?_
    show own_FinW p e below s _ _ _ T86 (mkF m 113 #[.val (.int p1), .val (.long p2), .second, .val (.long p3), .second, .val (.int p4), .val (.int p5), .val (.int (0 : Int32)), .val (.ref b70), .val (.ref b72), .val (.ref b74), .val (.ref b78), .val .null, .val (.ref b82), .val (.int (0 : Int32))] [(.ref b82), (.int (0 : Int32))])
    obtain ⟨cq87, kq87, q87a, q87b, q87c⟩ := isOf hZ eh86 f85_5
    obtain ⟨_, _, ⟨T87, L87, k87, n87⟩, -, X87, ⟨Lc87, hQ87, l87, y87, z87⟩, st87⟩ := X86.virtualBack hx (y := (⟨"com/example/mosub/mosub/model/Reach", "route", "()Lcom/example/mosub/mosub/model/Route;"⟩ : MethodName)) (z := (⟨"com/example/mosub/mosub/model/Reach", "route", "()Lcom/example/mosub/mosub/model/Route;"⟩ : MethodName)) hown (mvT hZ (hw _ (List.mem_of_getElem? (i := 64) rfl))) (mvT hZ (hw _ (List.mem_of_getElem? (i := 65) rfl))) (notFace_of_selects (args := #[]) (mvT hZ (hw _ (List.mem_of_getElem? (i := 67) rfl)))) (mvT hZ (hw _ (List.mem_of_getElem? (i := 67) rfl))) (mvT hZ (hw _ (List.mem_of_getElem? (i := 66) rfl))) (by decide) (backOf (W := 1) (rm_routeN l Z a0 hw [] b82 b82 T84.heap n0 Zs84 Fr84) hZ (hw _ (List.mem_of_getElem? (i := 68) rfl)) (hw _ (List.mem_of_getElem? (i := 47) rfl)) (by decide) (by decide)) q87a q87c (g := (mkF m 113 #[.val (.int p1), .val (.long p2), .second, .val (.long p3), .second, .val (.int p4), .val (.int p5), .val (.int (0 : Int32)), .val (.ref b70), .val (.ref b72), .val (.ref b74), .val (.ref b78), .val .null, .val (.ref b82), .val (.int (0 : Int32))] [(.ref b82), (.int (0 : Int32))])) rfl (by rw [hml]; rfl) (Steps.refl _) (argsL := []) (rest := [(.int (0 : Int32))]) (lenOf own_pd117 rfl) rfl (by show 2 * 0 + _ ≤ _; exact Nat.le_of_eq rfl) (hb hby at_113) (fun _ _ => ⟨rfl, eh86, (by decide : 13 + 0 ≤ _), (by decide : 116 + 0 ≤ _)⟩)
    dsimp only [Pt.U, Pt.locs, Pt.cells, Pt.slots] at X87 l87 y87 z87 st87 hQ87
    subst l87 y87 z87
    obtain ⟨rfl, Nq87, eh87⟩ := hQ87
    have N87 := Fr.app N86 Nq87
    refine own_byW (fun _ k => st87.trans k) ?_
    show own_FinW p e below s _ _ _ T87 (mkF m 116 #[.val (.int p1), .val (.long p2), .second, .val (.long p3), .second, .val (.int p4), .val (.int p5), .val (.int (0 : Int32)), .val (.ref b70), .val (.ref b72), .val (.ref b74), .val (.ref b78), .val .null, .val (.ref b82), .val (.int (0 : Int32))] [.null, (.int (0 : Int32))])
    refine own_byW (fun _ k => XS.ifnullYes X87.here hx rfl (pc0 := 116) (pc' := 123) rfl (hb hby at_116) rfl (by decide) (by decide) k) ?_
    show own_FinW p e below s _ _ _ T87 (mkF m 123 #[.val (.int p1), .val (.long p2), .second, .val (.long p3), .second, .val (.int p4), .val (.int p5), .val (.int (0 : Int32)), .val (.ref b70), .val (.ref b72), .val (.ref b74), .val (.ref b78), .val .null, .val (.ref b82), .val (.int (0 : Int32))] [(.int (0 : Int32))])
    refine own_byW (fun _ k => XS.iconst X87.here hx rfl (hb hby at_123) k) ?_
    show own_FinW p e below s _ _ _ T87 (mkF m 124 #[.val (.int p1), .val (.long p2), .second, .val (.long p3), .second, .val (.int p4), .val (.int p5), .val (.int (0 : Int32)), .val (.ref b70), .val (.ref b72), .val (.ref b74), .val (.ref b78), .val .null, .val (.ref b82), .val (.int (0 : Int32))] [(.int (0 : Int32)), (.int (0 : Int32))])
    refine own_byW (fun _ k => XS.icmpNo X87.here hx rfl (hb hby at_124) rfl (teq (by decide : (0 : Int32) = (0 : Int32))).2 k) ?_
    show own_FinW p e below s _ _ _ T87 (mkF m 127 #[.val (.int p1), .val (.long p2), .second, .val (.long p3), .second, .val (.int p4), .val (.int p5), .val (.int (0 : Int32)), .val (.ref b70), .val (.ref b72), .val (.ref b74), .val (.ref b78), .val .null, .val (.ref b82), .val (.int (0 : Int32))] [])
    refine own_byW (fun _ k => XS.iconst X87.here hx rfl (hb hby at_127) (XS.goto X87.here hx rfl (pc0 := 128) (pc' := 132) rfl (hb hby at_128) (by decide) (by decide) k)) ?_
    show own_FinW p e below s _ _ _ T87 (mkF m 132 #[.val (.int p1), .val (.long p2), .second, .val (.long p3), .second, .val (.int p4), .val (.int p5), .val (.int (0 : Int32)), .val (.ref b70), .val (.ref b72), .val (.ref b74), .val (.ref b78), .val .null, .val (.ref b82), .val (.int (0 : Int32))] [(.int (1 : Int32))])
    exact own_retZW X87 hS84 (by rw [eh87]; exact hkE84) hx hlk (t := .boolean) Bd.returns (by simp) (hb hby at_132) ⟨rfl, N87⟩ (by decide) (by decide)
  · show own_FinW p e below s _ _ _ s₁ (mkF m 3 #[.val (.int p1), .val (.long p2), .second, .val (.long p3), .second, .val (.int p4), .val (.int p5), .unset, .unset, .unset, .unset, .unset, .unset, .unset, .unset] [(.int (p1 &&& (1 : Int32)))])
    refine own_byW (fun _ k => XS.ifNo X0.here hx rfl (hb hby at_3) rfl ((if0 _ _).trans (feq hc3_69).1) k) ?_
    show own_FinW p e below s _ _ _ s₁ (mkF m 6 #[.val (.int p1), .val (.long p2), .second, .val (.long p3), .second, .val (.int p4), .val (.int p5), .unset, .unset, .unset, .unset, .unset, .unset, .unset, .unset] [])
    refine own_byW (fun _ k => XS.iconst X0.here hx rfl (hb hby at_6) (XS.goto X0.here hx rfl (pc0 := 7) (pc' := 11) rfl (hb hby at_7) (by decide) (by decide) (XS.istore X0.here hx rfl (hb hby at_11) rfl (l' := #[.val (.int p1), .val (.long p2), .second, .val (.long p3), .second, .val (.int p4), .val (.int p5), .val (.int (1 : Int32)), .unset, .unset, .unset, .unset, .unset, .unset, .unset]) rfl (XS.iload X0.here hx rfl (hb hby at_13) rfl (XS.sipush X0.here hx rfl (hb hby at_15) (XS.iand X0.here hx rfl (hb hby at_18) rfl (XS.i2c X0.here hx rfl (hb hby at_19) rfl k))))))) ?_
    show own_FinW p e below s _ _ _ s₁ (mkF m 20 #[.val (.int p1), .val (.long p2), .second, .val (.long p3), .second, .val (.int p4), .val (.int p5), .val (.int (1 : Int32)), .unset, .unset, .unset, .unset, .unset, .unset, .unset] [(.int ((p4 &&& (255 : Int32)).toUInt32.toUInt16.toUInt32.toInt32))])
    obtain ⟨_, _, ⟨T88, L88, k88, n88⟩, -, X88, ⟨Lc88, hQ88, l88, y88, z88⟩, st88⟩ := Jvm.LawKit.callS X0 hx (y := (⟨"java/lang/String", "valueOf", "(C)Ljava/lang/String;"⟩ : MethodName)) hown (mvT hZ (hw _ (List.mem_of_getElem? (i := 0) rfl))) (mvT hZ (hw _ (List.mem_of_getElem? (i := 1) rfl))) (mvT hZ (hw _ (List.mem_of_getElem? (i := 2) rfl))) (mvT hZ (hw _ (List.mem_of_getElem? (i := 3) rfl))) (by decide) (backOf (W := 0) (rm1 l Z a0 hw [] ((p4 &&& (255 : Int32)).toUInt32.toUInt16.toUInt32.toInt32) cs h0 n0 Z0 (own_c255 p4) (S_cs.ext Od.2) hcs) hZ (hw _ (List.mem_of_getElem? (i := 3) rfl)) (hw _ (List.mem_of_getElem? (i := 2) rfl)) (by decide) (by decide)) (g := (mkF m 20 #[.val (.int p1), .val (.long p2), .second, .val (.long p3), .second, .val (.int p4), .val (.int p5), .val (.int (1 : Int32)), .unset, .unset, .unset, .unset, .unset, .unset, .unset] [(.int ((p4 &&& (255 : Int32)).toUInt32.toUInt16.toUInt32.toInt32))])) rfl (by rw [hml]; rfl) (argsL := [(.int ((p4 &&& (255 : Int32)).toUInt32.toUInt16.toUInt32.toInt32))]) (rest := []) (lenOf own_pd113 rfl) rfl (by show 2 * 0 + _ ≤ _; exact Nat.le_of_eq rfl) (hb hby at_20) (fun _ _ => ⟨rfl, e0, (by decide : 0 + 2 ≤ _), (by decide : 0 + 5 ≤ _)⟩)
    dsimp only [Pt.U, Pt.locs, Pt.cells, Pt.slots] at X88 l88 y88 z88 st88 hQ88
    subst l88 y88 z88
    obtain ⟨b88, rfl, Nq88, K88, Eb88⟩ := hQ88
    have N88 := Fr.app N0 Nq88
    refine own_byW (fun _ k => st88 _ k) ?_
    have Zs88 : n0 ≤ T88.heap.size := Nat.le_trans Z0 K88.1
    have hkE88 : _ ≤ T88.heap.size := Nat.le_trans hk0 K88.1
    have f89_0 : Old Z n0 T88.heap := Od.keep K88 all0
    show own_FinW p e below s _ _ _ T88 (mkF m 23 #[.val (.int p1), .val (.long p2), .second, .val (.long p3), .second, .val (.int p4), .val (.int p5), .val (.int (1 : Int32)), .unset, .unset, .unset, .unset, .unset, .unset, .unset] [(.ref b88)])
    refine own_byW (fun _ k => XS.astore X88.here hx rfl (hb hby at_23) rfl rfl (l' := #[.val (.int p1), .val (.long p2), .second, .val (.long p3), .second, .val (.int p4), .val (.int p5), .val (.int (1 : Int32)), .val (.ref b88), .unset, .unset, .unset, .unset, .unset, .unset]) rfl (XS.iload X88.here hx rfl (hb hby at_25) rfl (XS.sipush X88.here hx rfl (hb hby at_27) (XS.iand X88.here hx rfl (hb hby at_30) rfl (XS.i2c X88.here hx rfl (hb hby at_31) rfl k))))) ?_
    show own_FinW p e below s _ _ _ T88 (mkF m 32 #[.val (.int p1), .val (.long p2), .second, .val (.long p3), .second, .val (.int p4), .val (.int p5), .val (.int (1 : Int32)), .val (.ref b88), .unset, .unset, .unset, .unset, .unset, .unset] [(.int ((p5 &&& (255 : Int32)).toUInt32.toUInt16.toUInt32.toInt32))])
    obtain ⟨_, _, ⟨T90, L90, k90, n90⟩, -, X90, ⟨Lc90, hQ90, l90, y90, z90⟩, st90⟩ := Jvm.LawKit.callS X88 hx (y := (⟨"java/lang/String", "valueOf", "(C)Ljava/lang/String;"⟩ : MethodName)) hown (mvT hZ (hw _ (List.mem_of_getElem? (i := 0) rfl))) (mvT hZ (hw _ (List.mem_of_getElem? (i := 1) rfl))) (mvT hZ (hw _ (List.mem_of_getElem? (i := 2) rfl))) (mvT hZ (hw _ (List.mem_of_getElem? (i := 3) rfl))) (by decide) (backOf (W := 0) (rm1 l Z a0 hw [] ((p5 &&& (255 : Int32)).toUInt32.toUInt16.toUInt32.toInt32) cs T88.heap n0 Zs88 (own_c255 p5) (S_cs.ext f89_0.2) hcs) hZ (hw _ (List.mem_of_getElem? (i := 3) rfl)) (hw _ (List.mem_of_getElem? (i := 2) rfl)) (by decide) (by decide)) (g := (mkF m 32 #[.val (.int p1), .val (.long p2), .second, .val (.long p3), .second, .val (.int p4), .val (.int p5), .val (.int (1 : Int32)), .val (.ref b88), .unset, .unset, .unset, .unset, .unset, .unset] [(.int ((p5 &&& (255 : Int32)).toUInt32.toUInt16.toUInt32.toInt32))])) rfl (by rw [hml]; rfl) (argsL := [(.int ((p5 &&& (255 : Int32)).toUInt32.toUInt16.toUInt32.toInt32))]) (rest := []) (lenOf own_pd113 rfl) rfl (by show 2 * 0 + _ ≤ _; exact Nat.le_of_eq rfl) (hb hby at_32) (fun _ _ => ⟨rfl, rfl, (by decide : 2 + 2 ≤ _), (by decide : 5 + 5 ≤ _)⟩)
    dsimp only [Pt.U, Pt.locs, Pt.cells, Pt.slots] at X90 l90 y90 z90 st90 hQ90
    subst l90 y90 z90
    obtain ⟨b90, rfl, Nq90, K90, Eb90⟩ := hQ90
    have N90 := Fr.app N88 Nq90
    refine own_byW (fun _ k => st90 _ k) ?_
    have Zs90 : n0 ≤ T90.heap.size := Nat.le_trans Zs88 K90.1
    have hkE90 : _ ≤ T90.heap.size := Nat.le_trans hkE88 K90.1
    have f91_0 : Old Z n0 T90.heap := f89_0.keep K90 all0
    have f91_1 : Exa Z T90.heap b88 "java/lang/String" := Eb88.keep K90
    show own_FinW p e below s _ _ _ T90 (mkF m 35 #[.val (.int p1), .val (.long p2), .second, .val (.long p3), .second, .val (.int p4), .val (.int p5), .val (.int (1 : Int32)), .val (.ref b88), .unset, .unset, .unset, .unset, .unset, .unset] [(.ref b90)])
    refine own_byW (fun _ k => XS.astore X90.here hx rfl (hb hby at_35) rfl rfl (l' := #[.val (.int p1), .val (.long p2), .second, .val (.long p3), .second, .val (.int p4), .val (.int p5), .val (.int (1 : Int32)), .val (.ref b88), .val (.ref b90), .unset, .unset, .unset, .unset, .unset]) rfl k) ?_
    show own_FinW p e below s _ _ _ T90 (mkF m 37 #[.val (.int p1), .val (.long p2), .second, .val (.long p3), .second, .val (.int p4), .val (.int p5), .val (.int (1 : Int32)), .val (.ref b88), .val (.ref b90), .unset, .unset, .unset, .unset, .unset] [])
    obtain ⟨T92, h92, X92, e92, E92, A92, D92, -, st92⟩ := newO X90 hx hZ hown (hw _ (List.mem_of_getElem? (i := 26) rfl)) (hw _ (List.mem_of_getElem? (i := 27) rfl)) (hw _ (List.mem_of_getElem? (i := 28) rfl)) rfl (g := (mkF m 37 #[.val (.int p1), .val (.long p2), .second, .val (.long p3), .second, .val (.int p4), .val (.int p5), .val (.int (1 : Int32)), .val (.ref b88), .val (.ref b90), .unset, .unset, .unset, .unset, .unset] [])) rfl (hb hby at_37) (by decide) (by decide)
    obtain ⟨b92, g92⟩ : ∃ z, z = T90.heap.size := ⟨_, rfl⟩
    rw [← g92] at A92 D92 st92
    refine own_byW (fun _ k => st92 _ k) ?_
    have ne92_b88 : b88 ≠ b92 := Nat.ne_of_lt (Nat.lt_of_lt_of_le f91_1.lt (Nat.le_of_eq g92.symm))
    have ne92_b90 : b90 ≠ b92 := Nat.ne_of_lt (Nat.lt_of_lt_of_le Eb90.lt (Nat.le_of_eq g92.symm))
    have gf92 : n0 ≤ b92 := Nat.le_trans Zs90 (Nat.le_of_eq g92.symm)
    have Zs92 : n0 ≤ h92.size := Nat.le_trans Zs90 E92.1
    have hkE92 : _ ≤ h92.size := Nat.le_trans hkE90 E92.1
    have f93_0 : Old Z n0 h92 := f91_0.ext E92
    have f93_1 : Exa Z h92 b88 "java/lang/String" := f91_1.ext E92
    have f93_2 : Exa Z h92 b90 "java/lang/String" := Eb90.ext E92
    have F92_number : Fld Z h92 b92 "com/example/mosub/mosub/model/Stamp" "number" "J" (.long (0 : Int64)) := D92 (Or.inr (hw _ (List.mem_of_getElem? (i := 34) rfl))) (ty := .long) (by decide)
    have F92_origin : Fld Z h92 b92 "com/example/mosub/mosub/model/Stamp" "origin" "Ljava/lang/String;" .null := D92 (Or.inr (hw _ (List.mem_of_getElem? (i := 44) rfl))) (ty := (.object "java/lang/String")) (by decide)
    show own_FinW p e below s _ _ _ T92 (mkF m 40 #[.val (.int p1), .val (.long p2), .second, .val (.long p3), .second, .val (.int p4), .val (.int p5), .val (.int (1 : Int32)), .val (.ref b88), .val (.ref b90), .unset, .unset, .unset, .unset, .unset] [(.ref b92)])
    refine own_byW (fun _ k => XS.dup X92.here hx rfl (hb hby at_40) rfl rfl (XS.lloadN X92.here hx rfl (hb hby at_41) rfl (XS.aload X92.here hx rfl (hb hby at_42) rfl rfl k))) ?_
    show own_FinW p e below s _ _ _ T92 (mkF m 44 #[.val (.int p1), .val (.long p2), .second, .val (.long p3), .second, .val (.int p4), .val (.int p5), .val (.int (1 : Int32)), .val (.ref b88), .val (.ref b90), .unset, .unset, .unset, .unset, .unset] [(.ref b90), (.long p2), (.ref b92), (.ref b92)])
    obtain ⟨_, _, ⟨T94, L94, k94, n94⟩, -, X94, hSn94, hgr94, ⟨Lc94, hQ94, l94, y94, z94⟩, st94⟩ := X92.specialBackS hx (y := (⟨"com/example/mosub/mosub/model/Stamp", "<init>", "(JLjava/lang/String;)V"⟩ : MethodName)) rfl hown (mvT hZ (hw _ (List.mem_of_getElem? (i := 29) rfl))) (mvT hZ (hw _ (List.mem_of_getElem? (i := 30) rfl))) (mvT hZ (hw _ (List.mem_of_getElem? (i := 31) rfl))) (by decide) (backOfS (W := 1) (rmS l Z a0 hw [] b92 b90 p2 _ _ h92 n0 Zs92 A92 F92_number F92_origin gf92 f93_2) hZ (hw _ (List.mem_of_getElem? (i := 31) rfl)) (hw _ (List.mem_of_getElem? (i := 28) rfl)) (by decide) (by decide)) (g := (mkF m 44 #[.val (.int p1), .val (.long p2), .second, .val (.long p3), .second, .val (.int p4), .val (.int p5), .val (.int (1 : Int32)), .val (.ref b88), .val (.ref b90), .unset, .unset, .unset, .unset, .unset] [(.ref b90), (.long p2), (.ref b92), (.ref b92)])) rfl (by rw [hml]; rfl) (Steps.refl _) (a := b92) (argsL := [(.long p2), (.ref b90)]) (rest := [(.ref b92)]) (lenOf own_pd114 rfl) rfl (by show 2 * 0 + _ ≤ _; exact Nat.le_of_eq rfl) (hb hby at_44) (fun _ _ => ⟨rfl, e92, (by decide : 5 + 2 ≤ _), (by decide : 12 + 28 ≤ _)⟩)
    dsimp only [Pt.U, Pt.locs, Pt.cells, Pt.slots] at X94 l94 y94 z94 st94 hQ94 hSn94 hgr94
    subst l94 y94 z94
    obtain ⟨rfl, Nq94, K94⟩ := hQ94
    have N94 := Fr.app N90 Nq94
    have hS94 : s.Since T94.vm T94.heap.size := foldS (s := s) hS0 (by rw [e92]; exact hkE92) hSn94 hgr94
    have hZ94 : Z.Warmed39 (s.setVm T94.vm).vm := State.Warmed39.trans (t := s.setVm s.vm) hZ hSn94.1
    have hown94 : (s.setVm T94.vm).vm.findClass "com/example/mosub/mosub/model/ReachAddedPinLaw" = some m.cls := by rw [show (s.setVm T94.vm).vm = T94.vm from rfl, hSn94.1.alike.findClass]; exact hown
    replace hZ := hZ94
    replace hown := hown94
    replace X94 : Stand p l e room_1 (s.setVm T94.vm) m #[(.int p1), (.long p2), (.long p3), (.int p4), (.int p5)] below meth c T94 _ _ _ := X94
    have hkE94 : T94.heap.size ≤ T94.heap.size := Nat.le_refl _
    refine own_byW (fun _ k => st94.trans k) ?_
    have Zs94 : n0 ≤ T94.heap.size := Nat.le_trans Zs92 K94.1
    have f95_0 : Old Z n0 T94.heap := f93_0.keep K94 (allS gf92 all0)
    have f95_1 : Exa Z T94.heap b88 "java/lang/String" := f93_1.keep K94
    have f95_2 : Exa Z T94.heap b90 "java/lang/String" := f93_2.keep K94
    have f95_3 : Exa Z T94.heap b92 "com/example/mosub/mosub/model/Stamp" := A92.keep K94
    show own_FinW p e below s _ _ _ T94 (mkF m 47 #[.val (.int p1), .val (.long p2), .second, .val (.long p3), .second, .val (.int p4), .val (.int p5), .val (.int (1 : Int32)), .val (.ref b88), .val (.ref b90), .unset, .unset, .unset, .unset, .unset] [(.ref b92)])
    refine own_byW (fun _ k => XS.astore X94.here hx rfl (hb hby at_47) rfl rfl (l' := #[.val (.int p1), .val (.long p2), .second, .val (.long p3), .second, .val (.int p4), .val (.int p5), .val (.int (1 : Int32)), .val (.ref b88), .val (.ref b90), .val (.ref b92), .unset, .unset, .unset, .unset]) rfl k) ?_
    show own_FinW p e below s _ _ _ T94 (mkF m 49 #[.val (.int p1), .val (.long p2), .second, .val (.long p3), .second, .val (.int p4), .val (.int p5), .val (.int (1 : Int32)), .val (.ref b88), .val (.ref b90), .val (.ref b92), .unset, .unset, .unset, .unset] [])
    obtain ⟨T96, h96, X96, e96, E96, A96, D96, -, st96⟩ := newO X94 hx hZ hown (hw _ (List.mem_of_getElem? (i := 26) rfl)) (hw _ (List.mem_of_getElem? (i := 27) rfl)) (hw _ (List.mem_of_getElem? (i := 28) rfl)) rfl (g := (mkF m 49 #[.val (.int p1), .val (.long p2), .second, .val (.long p3), .second, .val (.int p4), .val (.int p5), .val (.int (1 : Int32)), .val (.ref b88), .val (.ref b90), .val (.ref b92), .unset, .unset, .unset, .unset] [])) rfl (hb hby at_49) (by decide) (by decide)
    obtain ⟨b96, g96⟩ : ∃ z, z = T94.heap.size := ⟨_, rfl⟩
    rw [← g96] at A96 D96 st96
    refine own_byW (fun _ k => st96 _ k) ?_
    have ne96_b88 : b88 ≠ b96 := Nat.ne_of_lt (Nat.lt_of_lt_of_le f95_1.lt (Nat.le_of_eq g96.symm))
    have ne96_b90 : b90 ≠ b96 := Nat.ne_of_lt (Nat.lt_of_lt_of_le f95_2.lt (Nat.le_of_eq g96.symm))
    have ne96_b92 : b92 ≠ b96 := Nat.ne_of_lt (Nat.lt_of_lt_of_le f95_3.lt (Nat.le_of_eq g96.symm))
    have gf96 : n0 ≤ b96 := Nat.le_trans Zs94 (Nat.le_of_eq g96.symm)
    have Zs96 : n0 ≤ h96.size := Nat.le_trans Zs94 E96.1
    have hkE96 : _ ≤ h96.size := Nat.le_trans hkE94 E96.1
    have f97_0 : Old Z n0 h96 := f95_0.ext E96
    have f97_1 : Exa Z h96 b88 "java/lang/String" := f95_1.ext E96
    have f97_2 : Exa Z h96 b90 "java/lang/String" := f95_2.ext E96
    have f97_3 : Exa Z h96 b92 "com/example/mosub/mosub/model/Stamp" := f95_3.ext E96
    have F96_number : Fld Z h96 b96 "com/example/mosub/mosub/model/Stamp" "number" "J" (.long (0 : Int64)) := D96 (Or.inr (hw _ (List.mem_of_getElem? (i := 34) rfl))) (ty := .long) (by decide)
    have F96_origin : Fld Z h96 b96 "com/example/mosub/mosub/model/Stamp" "origin" "Ljava/lang/String;" .null := D96 (Or.inr (hw _ (List.mem_of_getElem? (i := 44) rfl))) (ty := (.object "java/lang/String")) (by decide)
    show own_FinW p e below s _ _ _ T96 (mkF m 52 #[.val (.int p1), .val (.long p2), .second, .val (.long p3), .second, .val (.int p4), .val (.int p5), .val (.int (1 : Int32)), .val (.ref b88), .val (.ref b90), .val (.ref b92), .unset, .unset, .unset, .unset] [(.ref b96)])
    refine own_byW (fun _ k => XS.dup X96.here hx rfl (hb hby at_52) rfl rfl (XS.lloadN X96.here hx rfl (hb hby at_53) rfl (XS.aload X96.here hx rfl (hb hby at_54) rfl rfl k))) ?_
    show own_FinW p e below s _ _ _ T96 (mkF m 56 #[.val (.int p1), .val (.long p2), .second, .val (.long p3), .second, .val (.int p4), .val (.int p5), .val (.int (1 : Int32)), .val (.ref b88), .val (.ref b90), .val (.ref b92), .unset, .unset, .unset, .unset] [(.ref b88), (.long p3), (.ref b96), (.ref b96)])
    obtain ⟨_, _, ⟨T98, L98, k98, n98⟩, -, X98, hSn98, hgr98, ⟨Lc98, hQ98, l98, y98, z98⟩, st98⟩ := X96.specialBackS hx (y := (⟨"com/example/mosub/mosub/model/Stamp", "<init>", "(JLjava/lang/String;)V"⟩ : MethodName)) rfl hown (mvT hZ (hw _ (List.mem_of_getElem? (i := 29) rfl))) (mvT hZ (hw _ (List.mem_of_getElem? (i := 30) rfl))) (mvT hZ (hw _ (List.mem_of_getElem? (i := 31) rfl))) (by decide) (backOfS (W := 1) (rmS l Z a0 hw [] b96 b88 p3 _ _ h96 n0 Zs96 A96 F96_number F96_origin gf96 f97_1) hZ (hw _ (List.mem_of_getElem? (i := 31) rfl)) (hw _ (List.mem_of_getElem? (i := 28) rfl)) (by decide) (by decide)) (g := (mkF m 56 #[.val (.int p1), .val (.long p2), .second, .val (.long p3), .second, .val (.int p4), .val (.int p5), .val (.int (1 : Int32)), .val (.ref b88), .val (.ref b90), .val (.ref b92), .unset, .unset, .unset, .unset] [(.ref b88), (.long p3), (.ref b96), (.ref b96)])) rfl (by rw [hml]; rfl) (Steps.refl _) (a := b96) (argsL := [(.long p3), (.ref b88)]) (rest := [(.ref b96)]) (lenOf own_pd114 rfl) rfl (by show 2 * 0 + _ ≤ _; exact Nat.le_of_eq rfl) (hb hby at_56) (fun _ _ => ⟨rfl, e96, (by decide : 8 + 2 ≤ _), (by decide : 42 + 28 ≤ _)⟩)
    dsimp only [Pt.U, Pt.locs, Pt.cells, Pt.slots] at X98 l98 y98 z98 st98 hQ98 hSn98 hgr98
    subst l98 y98 z98
    obtain ⟨rfl, Nq98, K98⟩ := hQ98
    have N98 := Fr.app N94 Nq98
    have hS98 : s.Since T98.vm T98.heap.size := foldS (s := s) hS94 (by rw [e96]; exact hkE96) hSn98 hgr98
    have hZ98 : Z.Warmed39 (s.setVm T98.vm).vm := State.Warmed39.trans (t := s.setVm T94.vm) hZ hSn98.1
    have hown98 : (s.setVm T98.vm).vm.findClass "com/example/mosub/mosub/model/ReachAddedPinLaw" = some m.cls := by rw [show (s.setVm T98.vm).vm = T98.vm from rfl, hSn98.1.alike.findClass]; exact hown
    replace hZ := hZ98
    replace hown := hown98
    replace X98 : Stand p l e room_1 (s.setVm T98.vm) m #[(.int p1), (.long p2), (.long p3), (.int p4), (.int p5)] below meth c T98 _ _ _ := X98
    have hkE98 : T98.heap.size ≤ T98.heap.size := Nat.le_refl _
    refine own_byW (fun _ k => st98.trans k) ?_
    have Zs98 : n0 ≤ T98.heap.size := Nat.le_trans Zs96 K98.1
    have f99_0 : Old Z n0 T98.heap := f97_0.keep K98 (allS gf96 all0)
    have f99_1 : Exa Z T98.heap b88 "java/lang/String" := f97_1.keep K98
    have f99_2 : Exa Z T98.heap b90 "java/lang/String" := f97_2.keep K98
    have f99_3 : Exa Z T98.heap b92 "com/example/mosub/mosub/model/Stamp" := f97_3.keep K98
    have f99_4 : Exa Z T98.heap b96 "com/example/mosub/mosub/model/Stamp" := A96.keep K98
    show own_FinW p e below s _ _ _ T98 (mkF m 59 #[.val (.int p1), .val (.long p2), .second, .val (.long p3), .second, .val (.int p4), .val (.int p5), .val (.int (1 : Int32)), .val (.ref b88), .val (.ref b90), .val (.ref b92), .unset, .unset, .unset, .unset] [(.ref b96)])
    refine own_byW (fun _ k => XS.astore X98.here hx rfl (hb hby at_59) rfl rfl (l' := #[.val (.int p1), .val (.long p2), .second, .val (.long p3), .second, .val (.int p4), .val (.int p5), .val (.int (1 : Int32)), .val (.ref b88), .val (.ref b90), .val (.ref b92), .val (.ref b96), .unset, .unset, .unset]) rfl (XS.aconstNull X98.here hx rfl (hb hby at_61) (XS.astore X98.here hx rfl (hb hby at_62) rfl rfl (l' := #[.val (.int p1), .val (.long p2), .second, .val (.long p3), .second, .val (.int p4), .val (.int p5), .val (.int (1 : Int32)), .val (.ref b88), .val (.ref b90), .val (.ref b92), .val (.ref b96), .val .null, .unset, .unset]) rfl (XS.iload X98.here hx rfl (hb hby at_64) rfl k)))) ?_
    show own_FinW p e below s _ _ _ T98 (mkF m 66 #[.val (.int p1), .val (.long p2), .second, .val (.long p3), .second, .val (.int p4), .val (.int p5), .val (.int (1 : Int32)), .val (.ref b88), .val (.ref b90), .val (.ref b92), .val (.ref b96), .val .null, .unset, .unset] [(.int (1 : Int32))])
    refine own_byW (fun _ k => XS.ifNo X98.here hx rfl (hb hby at_66) rfl ((if0 _ _).trans (feq (by decide : ¬ ((1 : Int32) = (0 : Int32)))).1) k) ?_
    show own_FinW p e below s _ _ _ T98 (mkF m 69 #[.val (.int p1), .val (.long p2), .second, .val (.long p3), .second, .val (.int p4), .val (.int p5), .val (.int (1 : Int32)), .val (.ref b88), .val (.ref b90), .val (.ref b92), .val (.ref b96), .val .null, .unset, .unset] [])
    obtain ⟨T100, h100, X100, e100, E100, A100, D100, -, st100⟩ := newO X98 hx hZ hown (hw _ (List.mem_of_getElem? (i := 69) rfl)) (hw _ (List.mem_of_getElem? (i := 70) rfl)) (hw _ (List.mem_of_getElem? (i := 71) rfl)) rfl (g := (mkF m 69 #[.val (.int p1), .val (.long p2), .second, .val (.long p3), .second, .val (.int p4), .val (.int p5), .val (.int (1 : Int32)), .val (.ref b88), .val (.ref b90), .val (.ref b92), .val (.ref b96), .val .null, .unset, .unset] [])) rfl (hb hby at_69) (by decide) (by decide)
    obtain ⟨b100, g100⟩ : ∃ z, z = T98.heap.size := ⟨_, rfl⟩
    rw [← g100] at A100 D100 st100
    refine own_byW (fun _ k => st100 _ k) ?_
    have ne100_b88 : b88 ≠ b100 := Nat.ne_of_lt (Nat.lt_of_lt_of_le f99_1.lt (Nat.le_of_eq g100.symm))
    have ne100_b90 : b90 ≠ b100 := Nat.ne_of_lt (Nat.lt_of_lt_of_le f99_2.lt (Nat.le_of_eq g100.symm))
    have ne100_b92 : b92 ≠ b100 := Nat.ne_of_lt (Nat.lt_of_lt_of_le f99_3.lt (Nat.le_of_eq g100.symm))
    have ne100_b96 : b96 ≠ b100 := Nat.ne_of_lt (Nat.lt_of_lt_of_le f99_4.lt (Nat.le_of_eq g100.symm))
    have gf100 : n0 ≤ b100 := Nat.le_trans Zs98 (Nat.le_of_eq g100.symm)
    have Zs100 : n0 ≤ h100.size := Nat.le_trans Zs98 E100.1
    have hkE100 : _ ≤ h100.size := Nat.le_trans hkE98 E100.1
    have f101_0 : Old Z n0 h100 := f99_0.ext E100
    have f101_1 : Exa Z h100 b88 "java/lang/String" := f99_1.ext E100
    have f101_2 : Exa Z h100 b90 "java/lang/String" := f99_2.ext E100
    have f101_3 : Exa Z h100 b92 "com/example/mosub/mosub/model/Stamp" := f99_3.ext E100
    have f101_4 : Exa Z h100 b96 "com/example/mosub/mosub/model/Stamp" := f99_4.ext E100
    have F100_newest : Fld Z h100 b100 "com/example/mosub/mosub/model/Route" "newest" "Lcom/example/mosub/mosub/model/Stamp;" .null := D100 (Or.inr (hw _ (List.mem_of_getElem? (i := 81) rfl))) (ty := (.object "com/example/mosub/mosub/model/Stamp")) (by decide)
    have F100_last : Fld Z h100 b100 "com/example/mosub/mosub/model/Route" "last" "Lcom/example/mosub/mosub/model/Stamp;" .null := D100 (Or.inr (hw _ (List.mem_of_getElem? (i := 84) rfl))) (ty := (.object "com/example/mosub/mosub/model/Stamp")) (by decide)
    show own_FinW p e below s _ _ _ T100 (mkF m 72 #[.val (.int p1), .val (.long p2), .second, .val (.long p3), .second, .val (.int p4), .val (.int p5), .val (.int (1 : Int32)), .val (.ref b88), .val (.ref b90), .val (.ref b92), .val (.ref b96), .val .null, .unset, .unset] [(.ref b100)])
    refine own_byW (fun _ k => XS.dup X100.here hx rfl (hb hby at_72) rfl rfl (XS.aload X100.here hx rfl (hb hby at_73) rfl rfl (XS.aload X100.here hx rfl (hb hby at_75) rfl rfl k))) ?_
    show own_FinW p e below s _ _ _ T100 (mkF m 77 #[.val (.int p1), .val (.long p2), .second, .val (.long p3), .second, .val (.int p4), .val (.int p5), .val (.int (1 : Int32)), .val (.ref b88), .val (.ref b90), .val (.ref b92), .val (.ref b96), .val .null, .unset, .unset] [(.ref b96), (.ref b92), (.ref b100), (.ref b100)])
    obtain ⟨_, _, ⟨T102, L102, k102, n102⟩, -, X102, hSn102, hgr102, ⟨Lc102, hQ102, l102, y102, z102⟩, st102⟩ := X100.specialBackS hx (y := (⟨"com/example/mosub/mosub/model/Route", "<init>", "(Lcom/example/mosub/mosub/model/Stamp;Lcom/example/mosub/mosub/model/Stamp;)V"⟩ : MethodName)) rfl hown (mvT hZ (hw _ (List.mem_of_getElem? (i := 72) rfl))) (mvT hZ (hw _ (List.mem_of_getElem? (i := 73) rfl))) (mvT hZ (hw _ (List.mem_of_getElem? (i := 74) rfl))) (by decide) (backOfS (W := 1) (rmR l Z a0 hw [] b100 b92 b96 _ _ h100 n0 Zs100 A100 F100_newest F100_last gf100 f101_3 f101_4) hZ (hw _ (List.mem_of_getElem? (i := 74) rfl)) (hw _ (List.mem_of_getElem? (i := 71) rfl)) (by decide) (by decide)) (g := (mkF m 77 #[.val (.int p1), .val (.long p2), .second, .val (.long p3), .second, .val (.int p4), .val (.int p5), .val (.int (1 : Int32)), .val (.ref b88), .val (.ref b90), .val (.ref b92), .val (.ref b96), .val .null, .unset, .unset] [(.ref b96), (.ref b92), (.ref b100), (.ref b100)])) rfl (by rw [hml]; rfl) (Steps.refl _) (a := b100) (argsL := [(.ref b92), (.ref b96)]) (rest := [(.ref b100)]) (lenOf own_pd118 rfl) rfl (by show 2 * 0 + _ ≤ _; exact Nat.le_of_eq rfl) (hb hby at_77) (fun _ _ => ⟨rfl, e100, (by decide : 11 + 4 ≤ _), (by decide : 72 + 48 ≤ _)⟩)
    dsimp only [Pt.U, Pt.locs, Pt.cells, Pt.slots] at X102 l102 y102 z102 st102 hQ102 hSn102 hgr102
    subst l102 y102 z102
    obtain ⟨rfl, Nq102, K102⟩ := hQ102
    have N102 := Fr.app N98 Nq102
    have hS102 : s.Since T102.vm T102.heap.size := foldS (s := s) hS98 (by rw [e100]; exact hkE100) hSn102 hgr102
    have hZ102 : Z.Warmed39 (s.setVm T102.vm).vm := State.Warmed39.trans (t := s.setVm T98.vm) hZ hSn102.1
    have hown102 : (s.setVm T102.vm).vm.findClass "com/example/mosub/mosub/model/ReachAddedPinLaw" = some m.cls := by rw [show (s.setVm T102.vm).vm = T102.vm from rfl, hSn102.1.alike.findClass]; exact hown
    replace hZ := hZ102
    replace hown := hown102
    replace X102 : Stand p l e room_1 (s.setVm T102.vm) m #[(.int p1), (.long p2), (.long p3), (.int p4), (.int p5)] below meth c T102 _ _ _ := X102
    have hkE102 : T102.heap.size ≤ T102.heap.size := Nat.le_refl _
    refine own_byW (fun _ k => st102.trans k) ?_
    have Zs102 : n0 ≤ T102.heap.size := Nat.le_trans Zs100 K102.1
    have f103_0 : Old Z n0 T102.heap := f101_0.keep K102 (allS gf100 all0)
    have f103_1 : Exa Z T102.heap b88 "java/lang/String" := f101_1.keep K102
    have f103_2 : Exa Z T102.heap b90 "java/lang/String" := f101_2.keep K102
    have f103_3 : Exa Z T102.heap b92 "com/example/mosub/mosub/model/Stamp" := f101_3.keep K102
    have f103_4 : Exa Z T102.heap b96 "com/example/mosub/mosub/model/Stamp" := f101_4.keep K102
    have f103_5 : Exa Z T102.heap b100 "com/example/mosub/mosub/model/Route" := A100.keep K102
    show own_FinW p e below s _ _ _ T102 (mkF m 80 #[.val (.int p1), .val (.long p2), .second, .val (.long p3), .second, .val (.int p4), .val (.int p5), .val (.int (1 : Int32)), .val (.ref b88), .val (.ref b90), .val (.ref b92), .val (.ref b96), .val .null, .unset, .unset] [(.ref b100)])
    refine own_byW (fun _ k => XS.astore X102.here hx rfl (hb hby at_80) rfl rfl (l' := #[.val (.int p1), .val (.long p2), .second, .val (.long p3), .second, .val (.int p4), .val (.int p5), .val (.int (1 : Int32)), .val (.ref b88), .val (.ref b90), .val (.ref b92), .val (.ref b96), .val (.ref b100), .unset, .unset]) rfl k) ?_
    show own_FinW p e below s _ _ _ T102 (mkF m 82 #[.val (.int p1), .val (.long p2), .second, .val (.long p3), .second, .val (.int p4), .val (.int p5), .val (.int (1 : Int32)), .val (.ref b88), .val (.ref b90), .val (.ref b92), .val (.ref b96), .val (.ref b100), .unset, .unset] [])
    obtain ⟨T104, h104, X104, e104, E104, A104, D104, -, st104⟩ := newO X102 hx hZ hown (hw _ (List.mem_of_getElem? (i := 45) rfl)) (hw _ (List.mem_of_getElem? (i := 46) rfl)) (hw _ (List.mem_of_getElem? (i := 47) rfl)) rfl (g := (mkF m 82 #[.val (.int p1), .val (.long p2), .second, .val (.long p3), .second, .val (.int p4), .val (.int p5), .val (.int (1 : Int32)), .val (.ref b88), .val (.ref b90), .val (.ref b92), .val (.ref b96), .val (.ref b100), .unset, .unset] [])) rfl (hb hby at_82) (by decide) (by decide)
    obtain ⟨b104, g104⟩ : ∃ z, z = T102.heap.size := ⟨_, rfl⟩
    rw [← g104] at A104 D104 st104
    refine own_byW (fun _ k => st104 _ k) ?_
    have ne104_b88 : b88 ≠ b104 := Nat.ne_of_lt (Nat.lt_of_lt_of_le f103_1.lt (Nat.le_of_eq g104.symm))
    have ne104_b90 : b90 ≠ b104 := Nat.ne_of_lt (Nat.lt_of_lt_of_le f103_2.lt (Nat.le_of_eq g104.symm))
    have ne104_b92 : b92 ≠ b104 := Nat.ne_of_lt (Nat.lt_of_lt_of_le f103_3.lt (Nat.le_of_eq g104.symm))
    have ne104_b96 : b96 ≠ b104 := Nat.ne_of_lt (Nat.lt_of_lt_of_le f103_4.lt (Nat.le_of_eq g104.symm))
    have ne104_b100 : b100 ≠ b104 := Nat.ne_of_lt (Nat.lt_of_lt_of_le f103_5.lt (Nat.le_of_eq g104.symm))
    have gf104 : n0 ≤ b104 := Nat.le_trans Zs102 (Nat.le_of_eq g104.symm)
    have Zs104 : n0 ≤ h104.size := Nat.le_trans Zs102 E104.1
    have hkE104 : _ ≤ h104.size := Nat.le_trans hkE102 E104.1
    have f105_0 : Old Z n0 h104 := f103_0.ext E104
    have f105_1 : Exa Z h104 b88 "java/lang/String" := f103_1.ext E104
    have f105_2 : Exa Z h104 b90 "java/lang/String" := f103_2.ext E104
    have f105_3 : Exa Z h104 b92 "com/example/mosub/mosub/model/Stamp" := f103_3.ext E104
    have f105_4 : Exa Z h104 b96 "com/example/mosub/mosub/model/Stamp" := f103_4.ext E104
    have f105_5 : Exa Z h104 b100 "com/example/mosub/mosub/model/Route" := f103_5.ext E104
    have F104_brokerName : Fld Z h104 b104 "com/example/mosub/mosub/model/Reach" "brokerName" "Ljava/lang/String;" .null := D104 (Or.inr (hw _ (List.mem_of_getElem? (i := 56) rfl))) (ty := (.object "java/lang/String")) (by decide)
    have F104_route : Fld Z h104 b104 "com/example/mosub/mosub/model/Reach" "route" "Lcom/example/mosub/mosub/model/Route;" .null := D104 (Or.inr (hw _ (List.mem_of_getElem? (i := 58) rfl))) (ty := (.object "com/example/mosub/mosub/model/Route")) (by decide)
    show own_FinW p e below s _ _ _ T104 (mkF m 85 #[.val (.int p1), .val (.long p2), .second, .val (.long p3), .second, .val (.int p4), .val (.int p5), .val (.int (1 : Int32)), .val (.ref b88), .val (.ref b90), .val (.ref b92), .val (.ref b96), .val (.ref b100), .unset, .unset] [(.ref b104)])
    refine own_byW (fun _ k => XS.dup X104.here hx rfl (hb hby at_85) rfl rfl (XS.aload X104.here hx rfl (hb hby at_86) rfl rfl (XS.aload X104.here hx rfl (hb hby at_88) rfl rfl k))) ?_
    show own_FinW p e below s _ _ _ T104 (mkF m 90 #[.val (.int p1), .val (.long p2), .second, .val (.long p3), .second, .val (.int p4), .val (.int p5), .val (.int (1 : Int32)), .val (.ref b88), .val (.ref b90), .val (.ref b92), .val (.ref b96), .val (.ref b100), .unset, .unset] [(.ref b100), (.ref b88), (.ref b104), (.ref b104)])
    obtain ⟨_, _, ⟨T106, L106, k106, n106⟩, -, X106, hSn106, hgr106, ⟨Lc106, hQ106, l106, y106, z106⟩, st106⟩ := X104.specialBackS hx (y := (⟨"com/example/mosub/mosub/model/Reach", "<init>", "(Ljava/lang/String;Lcom/example/mosub/mosub/model/Route;)V"⟩ : MethodName)) rfl hown (mvT hZ (hw _ (List.mem_of_getElem? (i := 48) rfl))) (mvT hZ (hw _ (List.mem_of_getElem? (i := 49) rfl))) (mvT hZ (hw _ (List.mem_of_getElem? (i := 50) rfl))) (by decide) (backOfS (W := 1) (rmE l Z a0 hw [] b104 b88 b100 _ _ h104 n0 Zs104 A104 F104_brokerName F104_route gf104 f105_1) hZ (hw _ (List.mem_of_getElem? (i := 50) rfl)) (hw _ (List.mem_of_getElem? (i := 47) rfl)) (by decide) (by decide)) (g := (mkF m 90 #[.val (.int p1), .val (.long p2), .second, .val (.long p3), .second, .val (.int p4), .val (.int p5), .val (.int (1 : Int32)), .val (.ref b88), .val (.ref b90), .val (.ref b92), .val (.ref b96), .val (.ref b100), .unset, .unset] [(.ref b100), (.ref b88), (.ref b104), (.ref b104)])) rfl (by rw [hml]; rfl) (Steps.refl _) (a := b104) (argsL := [(.ref b88), (.ref b100)]) (rest := [(.ref b104)]) (lenOf own_pd115 rfl) rfl (by show 2 * 0 + _ ≤ _; exact Nat.le_of_eq rfl) (hb hby at_90) (fun _ _ => ⟨rfl, e104, (by decide : 16 + 2 ≤ _), (by decide : 122 + 44 ≤ _)⟩)
    dsimp only [Pt.U, Pt.locs, Pt.cells, Pt.slots] at X106 l106 y106 z106 st106 hQ106 hSn106 hgr106
    subst l106 y106 z106
    obtain ⟨rfl, Nq106, K106, Fr106⟩ := hQ106
    have N106 := Fr.app N102 Nq106
    have hS106 : s.Since T106.vm T106.heap.size := foldS (s := s) hS102 (by rw [e104]; exact hkE104) hSn106 hgr106
    have hZ106 : Z.Warmed39 (s.setVm T106.vm).vm := State.Warmed39.trans (t := s.setVm T102.vm) hZ hSn106.1
    have hown106 : (s.setVm T106.vm).vm.findClass "com/example/mosub/mosub/model/ReachAddedPinLaw" = some m.cls := by rw [show (s.setVm T106.vm).vm = T106.vm from rfl, hSn106.1.alike.findClass]; exact hown
    replace hZ := hZ106
    replace hown := hown106
    replace X106 : Stand p l e room_1 (s.setVm T106.vm) m #[(.int p1), (.long p2), (.long p3), (.int p4), (.int p5)] below meth c T106 _ _ _ := X106
    have hkE106 : T106.heap.size ≤ T106.heap.size := Nat.le_refl _
    refine own_byW (fun _ k => st106.trans k) ?_
    have Zs106 : n0 ≤ T106.heap.size := Nat.le_trans Zs104 K106.1
    have f107_0 : Old Z n0 T106.heap := f105_0.keep K106 (allS gf104 all0)
    have f107_1 : Exa Z T106.heap b88 "java/lang/String" := f105_1.keep K106
    have f107_2 : Exa Z T106.heap b90 "java/lang/String" := f105_2.keep K106
    have f107_3 : Exa Z T106.heap b92 "com/example/mosub/mosub/model/Stamp" := f105_3.keep K106
    have f107_4 : Exa Z T106.heap b96 "com/example/mosub/mosub/model/Stamp" := f105_4.keep K106
    have f107_5 : Exa Z T106.heap b100 "com/example/mosub/mosub/model/Route" := f105_5.keep K106
    have f107_6 : Exa Z T106.heap b104 "com/example/mosub/mosub/model/Reach" := A104.keep K106
    show own_FinW p e below s _ _ _ T106 (mkF m 93 #[.val (.int p1), .val (.long p2), .second, .val (.long p3), .second, .val (.int p4), .val (.int p5), .val (.int (1 : Int32)), .val (.ref b88), .val (.ref b90), .val (.ref b92), .val (.ref b96), .val (.ref b100), .unset, .unset] [(.ref b104)])
    refine own_byW (fun _ k => XS.astore X106.here hx rfl (hb hby at_93) rfl rfl (l' := #[.val (.int p1), .val (.long p2), .second, .val (.long p3), .second, .val (.int p4), .val (.int p5), .val (.int (1 : Int32)), .val (.ref b88), .val (.ref b90), .val (.ref b92), .val (.ref b96), .val (.ref b100), .val (.ref b104), .unset]) rfl (XS.aload X106.here hx rfl (hb hby at_95) rfl rfl k)) ?_
    show own_FinW p e below s _ _ _ T106 (mkF m 97 #[.val (.int p1), .val (.long p2), .second, .val (.long p3), .second, .val (.int p4), .val (.int p5), .val (.int (1 : Int32)), .val (.ref b88), .val (.ref b90), .val (.ref b92), .val (.ref b96), .val (.ref b100), .val (.ref b104), .unset] [(.ref b104)])
    obtain ⟨cq108, kq108, q108a, q108b, q108c⟩ := isOf hZ rfl f107_6
    obtain ⟨_, _, ⟨T108, L108, k108, n108⟩, -, X108, ⟨Lc108, hQ108, l108, y108, z108⟩, st108⟩ := X106.virtualBack hx (y := (⟨"com/example/mosub/mosub/model/Reach", "added", "()Z"⟩ : MethodName)) (z := (⟨"com/example/mosub/mosub/model/Reach", "added", "()Z"⟩ : MethodName)) hown (mvT hZ (hw _ (List.mem_of_getElem? (i := 59) rfl))) (mvT hZ (hw _ (List.mem_of_getElem? (i := 60) rfl))) (notFace_of_selects (args := #[]) (mvT hZ (hw _ (List.mem_of_getElem? (i := 62) rfl)))) (mvT hZ (hw _ (List.mem_of_getElem? (i := 62) rfl))) (mvT hZ (hw _ (List.mem_of_getElem? (i := 61) rfl))) (by decide) (backOf (W := 0) (rm_addedR l Z a0 hw [] b104 b100 T106.heap n0 Zs106 Fr106) hZ (hw _ (List.mem_of_getElem? (i := 63) rfl)) (hw _ (List.mem_of_getElem? (i := 47) rfl)) (by decide) (by decide)) q108a q108c (g := (mkF m 97 #[.val (.int p1), .val (.long p2), .second, .val (.long p3), .second, .val (.int p4), .val (.int p5), .val (.int (1 : Int32)), .val (.ref b88), .val (.ref b90), .val (.ref b92), .val (.ref b96), .val (.ref b100), .val (.ref b104), .unset] [(.ref b104)])) rfl (by rw [hml]; rfl) (Steps.refl _) (argsL := []) (rest := []) (lenOf own_pd116 rfl) rfl (by show 2 * 0 + _ ≤ _; exact Nat.le_of_eq rfl) (hb hby at_97) (fun _ _ => ⟨rfl, rfl, (by decide : 18 + 0 ≤ _), (by decide : 166 + 0 ≤ _)⟩)
    dsimp only [Pt.U, Pt.locs, Pt.cells, Pt.slots] at X108 l108 y108 z108 st108 hQ108
    subst l108 y108 z108
    obtain ⟨rfl, Nq108, eh108⟩ := hQ108
    have N108 := Fr.app N106 Nq108
    refine own_byW (fun _ k => st108.trans k) ?_
    show own_FinW p e below s _ _ _ T108 (mkF m 100 #[.val (.int p1), .val (.long p2), .second, .val (.long p3), .second, .val (.int p4), .val (.int p5), .val (.int (1 : Int32)), .val (.ref b88), .val (.ref b90), .val (.ref b92), .val (.ref b96), .val (.ref b100), .val (.ref b104), .unset] [(.int (1 : Int32))])
    refine own_byW (fun _ k => XS.istore X108.here hx rfl (hb hby at_100) rfl (l' := #[.val (.int p1), .val (.long p2), .second, .val (.long p3), .second, .val (.int p4), .val (.int p5), .val (.int (1 : Int32)), .val (.ref b88), .val (.ref b90), .val (.ref b92), .val (.ref b96), .val (.ref b100), .val (.ref b104), .val (.int (1 : Int32))]) rfl (XS.iload X108.here hx rfl (hb hby at_102) rfl (XS.iload X108.here hx rfl (hb hby at_104) rfl k))) ?_
    show own_FinW p e below s _ _ _ T108 (mkF m 106 #[.val (.int p1), .val (.long p2), .second, .val (.long p3), .second, .val (.int p4), .val (.int p5), .val (.int (1 : Int32)), .val (.ref b88), .val (.ref b90), .val (.ref b92), .val (.ref b96), .val (.ref b100), .val (.ref b104), .val (.int (1 : Int32))] [(.int (1 : Int32)), (.int (1 : Int32))])
    refine own_byW (fun _ k => XS.icmpNo X108.here hx rfl (hb hby at_106) rfl (teq (by decide : (1 : Int32) = (1 : Int32))).2 k) ?_
    show own_FinW p e below s _ _ _ T108 (mkF m 109 #[.val (.int p1), .val (.long p2), .second, .val (.long p3), .second, .val (.int p4), .val (.int p5), .val (.int (1 : Int32)), .val (.ref b88), .val (.ref b90), .val (.ref b92), .val (.ref b96), .val (.ref b100), .val (.ref b104), .val (.int (1 : Int32))] [])
    refine own_byW (fun _ k => XS.iload X108.here hx rfl (hb hby at_109) rfl (XS.aload X108.here hx rfl (hb hby at_111) rfl rfl k)) ?_
    show own_FinW p e below s _ _ _ T108 (mkF m 113 #[.val (.int p1), .val (.long p2), .second, .val (.long p3), .second, .val (.int p4), .val (.int p5), .val (.int (1 : Int32)), .val (.ref b88), .val (.ref b90), .val (.ref b92), .val (.ref b96), .val (.ref b100), .val (.ref b104), .val (.int (1 : Int32))] [(.ref b104), (.int (1 : Int32))])
    obtain ⟨cq109, kq109, q109a, q109b, q109c⟩ := isOf hZ eh108 f107_6
    obtain ⟨_, _, ⟨T109, L109, k109, n109⟩, -, X109, ⟨Lc109, hQ109, l109, y109, z109⟩, st109⟩ := X108.virtualBack hx (y := (⟨"com/example/mosub/mosub/model/Reach", "route", "()Lcom/example/mosub/mosub/model/Route;"⟩ : MethodName)) (z := (⟨"com/example/mosub/mosub/model/Reach", "route", "()Lcom/example/mosub/mosub/model/Route;"⟩ : MethodName)) hown (mvT hZ (hw _ (List.mem_of_getElem? (i := 64) rfl))) (mvT hZ (hw _ (List.mem_of_getElem? (i := 65) rfl))) (notFace_of_selects (args := #[]) (mvT hZ (hw _ (List.mem_of_getElem? (i := 67) rfl)))) (mvT hZ (hw _ (List.mem_of_getElem? (i := 67) rfl))) (mvT hZ (hw _ (List.mem_of_getElem? (i := 66) rfl))) (by decide) (backOf (W := 1) (rm_routeR l Z a0 hw [] b104 b100 T106.heap n0 Zs106 Fr106) hZ (hw _ (List.mem_of_getElem? (i := 68) rfl)) (hw _ (List.mem_of_getElem? (i := 47) rfl)) (by decide) (by decide)) q109a q109c (g := (mkF m 113 #[.val (.int p1), .val (.long p2), .second, .val (.long p3), .second, .val (.int p4), .val (.int p5), .val (.int (1 : Int32)), .val (.ref b88), .val (.ref b90), .val (.ref b92), .val (.ref b96), .val (.ref b100), .val (.ref b104), .val (.int (1 : Int32))] [(.ref b104), (.int (1 : Int32))])) rfl (by rw [hml]; rfl) (Steps.refl _) (argsL := []) (rest := [(.int (1 : Int32))]) (lenOf own_pd117 rfl) rfl (by show 2 * 0 + _ ≤ _; exact Nat.le_of_eq rfl) (hb hby at_113) (fun _ _ => ⟨rfl, eh108, (by decide : 18 + 0 ≤ _), (by decide : 166 + 0 ≤ _)⟩)
    dsimp only [Pt.U, Pt.locs, Pt.cells, Pt.slots] at X109 l109 y109 z109 st109 hQ109
    subst l109 y109 z109
    obtain ⟨rfl, Nq109, eh109⟩ := hQ109
    have N109 := Fr.app N108 Nq109
    refine own_byW (fun _ k => st109.trans k) ?_
    show own_FinW p e below s _ _ _ T109 (mkF m 116 #[.val (.int p1), .val (.long p2), .second, .val (.long p3), .second, .val (.int p4), .val (.int p5), .val (.int (1 : Int32)), .val (.ref b88), .val (.ref b90), .val (.ref b92), .val (.ref b96), .val (.ref b100), .val (.ref b104), .val (.int (1 : Int32))] [(.ref b100), (.int (1 : Int32))])
    refine own_byW (fun _ k => XS.ifnullNo X109.here hx rfl (hb hby at_116) rfl k) ?_
    show own_FinW p e below s _ _ _ T109 (mkF m 119 #[.val (.int p1), .val (.long p2), .second, .val (.long p3), .second, .val (.int p4), .val (.int p5), .val (.int (1 : Int32)), .val (.ref b88), .val (.ref b90), .val (.ref b92), .val (.ref b96), .val (.ref b100), .val (.ref b104), .val (.int (1 : Int32))] [(.int (1 : Int32))])
    refine own_byW (fun _ k => XS.iconst X109.here hx rfl (hb hby at_119) (XS.goto X109.here hx rfl (pc0 := 120) (pc' := 124) rfl (hb hby at_120) (by decide) (by decide) k)) ?_
    show own_FinW p e below s _ _ _ T109 (mkF m 124 #[.val (.int p1), .val (.long p2), .second, .val (.long p3), .second, .val (.int p4), .val (.int p5), .val (.int (1 : Int32)), .val (.ref b88), .val (.ref b90), .val (.ref b92), .val (.ref b96), .val (.ref b100), .val (.ref b104), .val (.int (1 : Int32))] [(.int (1 : Int32)), (.int (1 : Int32))])
    refine own_byW (fun _ k => XS.icmpNo X109.here hx rfl (hb hby at_124) rfl (teq (by decide : (1 : Int32) = (1 : Int32))).2 k) ?_
    show own_FinW p e below s _ _ _ T109 (mkF m 127 #[.val (.int p1), .val (.long p2), .second, .val (.long p3), .second, .val (.int p4), .val (.int p5), .val (.int (1 : Int32)), .val (.ref b88), .val (.ref b90), .val (.ref b92), .val (.ref b96), .val (.ref b100), .val (.ref b104), .val (.int (1 : Int32))] [])
    refine own_byW (fun _ k => XS.iconst X109.here hx rfl (hb hby at_127) (XS.goto X109.here hx rfl (pc0 := 128) (pc' := 132) rfl (hb hby at_128) (by decide) (by decide) k)) ?_
    show own_FinW p e below s _ _ _ T109 (mkF m 132 #[.val (.int p1), .val (.long p2), .second, .val (.long p3), .second, .val (.int p4), .val (.int p5), .val (.int (1 : Int32)), .val (.ref b88), .val (.ref b90), .val (.ref b92), .val (.ref b96), .val (.ref b100), .val (.ref b104), .val (.int (1 : Int32))] [(.int (1 : Int32))])
    exact own_retZW X109 hS106 (by rw [eh109]; exact hkE106) hx hlk (t := .boolean) Bd.returns (by simp) (hb hby at_132) ⟨rfl, N109⟩ (by decide) (by decide)
set_option maxRecDepth 65536 in
set_option maxHeartbeats 40000000 in
theorem comes_1 {Post : Tables → Env → Array Value → State → Outcome → State → Prop} (hpost : ∀ tb e args s v u, (limb_1_1.after args s (.returned v) u = true ∧ limb_1_2.after args s (.returned v) u = true ∧ True) → ReturnedEndW s (.returned v) u (Jvm.fieldLocs frame_1_writes args s ++ Jvm.arrayLocs frame_1_arrays args s ++ Jvm.staticLocs frame_1_statics s) 32 4224 → Post tb e args s (.returned v) u) :
    ArmFor flags0 classFile x code maxLocals ret World_1 tables_1 room_1 Calls_1 rest_1 Pre_1 Post := by
  intro l hfl _ _ p e ha hc hk s m args below hf hA hF happ hP
  obtain ⟨hcalls, hrest, hpre⟩ := hP
  obtain ⟨-, -, -, hnamed, -, -, -, hat⟩ := (Spec.applies_iff hf).mp happ
  obtain ⟨hg, hn⟩ := and_e (Cond.before_iff.mp (show (Jvm.Cond.and given_1 narrow_1).before args s = true from hpre))
  obtain ⟨gc, gr0⟩ := and_e hg
  obtain ⟨ga0, gr1⟩ := and_e gr0
  obtain ⟨ga1, gr2⟩ := and_e gr1
  obtain ⟨ga2, gr3⟩ := and_e gr2
  obtain ⟨ga3, gr4⟩ := and_e gr3
  obtain ⟨w0, w1, w2, w3, w4, rfl⟩ : ∃ w0 w1 w2 w3 w4 : Value, args = #[w0, w1, w2, w3, w4] := by
    have hs : args.size = 5 := by simpa [Cond.value, given_1] using gc
    obtain ⟨L⟩ := args
    match L, hs with
    | [w0, w1, w2, w3, w4], _ => exact ⟨w0, w1, w2, w3, w4, rfl⟩
  have hw := fun d (hd : d ∈ tables_1) => atoms_spec (ws := Jvm.Cond.code x code maxLocals ret :: tables_1) hat d (List.mem_cons_of_mem _ hd)
  obtain ⟨hsets, hown0⟩ := atoms_of _ (rest_1_c_eq ▸ (show rest_1_c.before _ s = true from hrest))
  have hr0 := Cond.before_iff.mp hown0
  have hfit : Fit s := fun {y c} hc i hi => by
    obtain ⟨ha, rfl⟩ := Array.getElem?_eq_some_iff.mp hc
    have q := List.all_eq_true.mp ((Array.all_eq_true_iff_forall_mem.mp hF) _ (Array.getElem_mem ha)) i (List.mem_range.mpr hi)
    simpa [Array.getElem?_eq_getElem hi] using q
  obtain ⟨i0, ei0⟩ := is_v ga0
  obtain rfl : w0 = (.int i0) := Option.some.inj ei0
  obtain ⟨i1, ei1⟩ := isL_v ga1
  obtain rfl : w1 = (.long i1) := Option.some.inj ei1
  obtain ⟨i2, ei2⟩ := isL_v ga2
  obtain rfl : w2 = (.long i2) := Option.some.inj ei2
  obtain ⟨i3, ei3⟩ := is_v ga3
  obtain rfl : w3 = (.int i3) := Option.some.inj ei3
  obtain ⟨i4, ei4⟩ := is_v gr4
  obtain rfl : w4 = (.int i4) := Option.some.inj ei4
  have n5 := not_v (Cond.before_iff.mp (hsets _ (List.mem_of_getElem? (i := 2) rfl)))
  obtain ⟨cs, ecs⟩ := is_v (Cond.before_iff.mp (hsets _ (List.mem_of_getElem? (i := 1) rfl)))
  have S12 : Sta s s.heap "java/lang/String" "COMPACT_STRINGS" "Z" (.int cs) := Sta.start ecs (Or.inl (hsets _ (List.mem_of_getElem? (i := 0) rfl)))
  have c17 : ¬ (cs = (0 : Int32)) := gotF (Cond.eq_ints ecs (Term.int_eval (0))) n5
  obtain ⟨n, o, h1, h2, h3, _, L, rfl, ⟨rfl, N⟩, hq⟩ := rm0 l s _ hw tables_1 i0 i1 i2 i3 i4 cs s.heap s.heap.size (Nat.le_refl _) S12 c17 (Old.start s) p e ha hc hk s m _ below hf ((Spec.applies_iff_loose hf).mp happ).1 ⟨rfl, State.Warmed39.refl s, rfl⟩ trivial
  refine ⟨n, _, h1, h2, h3, hpost _ _ _ _ _ _ ⟨Cond.after_iff.mpr rfl, Cond.after_iff.mpr (eq_i res_at (Term.int_eval (1)) rfl), trivial⟩ ⟨hq.1, hq.2.1, hq.2.2.1, (hq.2.2.2.sift fun y hy => Or.inr (N y hy)).mono (by decide) (by decide)⟩⟩
theorem main_1_1 : Claimed_1_1 := comes_1 fun _ _ _ _ _ _ h hF => ⟨h.1, hF⟩
theorem main_1_2 : Claimed_1_2 := comes_1 fun _ _ _ _ _ _ h hF => ⟨h.2.1, hF⟩
end Jvm.Pilot.@@N@@
namespace Jvm.Pilot.@@N@@
open Jvm Jvm.ClassFile Sem Op Lib Jvm.Free Jvm.Stand Jvm.Pilot.@@N@@.Jvm.D
/-! MADE BY PROGRAM (witnessworld.py) out of the Statement's table words and the real class files: 21 classes; the members and pool entries that the words name. The judged class is class 1, her method 1. -/
namespace start1
open Jvm.ClassFile
def u (s : String) : CpInfo := .utf8 (stringToUtf16 s)
/-- a pool by its gaps: so many unusable entries, then the entry; so many at the end -/
def gap : Nat → List CpInfo → List CpInfo
  | 0, r => r
  | n + 1, r => .unusable :: gap n r
def poolList (es : List (Nat × CpInfo)) (last : Nat) : List CpInfo := es.foldr (fun e r => gap e.1 (e.2 :: r)) (gap last [])
def pool (es : List (Nat × CpInfo)) (last : Nat) : Array CpInfo := ⟨poolList es last⟩
def fileOf (pool : Array CpInfo) (this : Nat) (attrs : Array Attribute := #[]) (ms : Array MethodInfo := #[]) (fl : Nat := 33) (sup : Nat := 0) (ifs : Array Nat := #[]) (fds : Array FieldInfo := #[]) : ClassFile where
  minorVersion := 0
  majorVersion := 65
  constantPool := pool
  accessFlags := fl
  thisClass := this
  superClass := sup
  interfaces := ifs
  fields := fds
  methods := ms
  attributes := attrs
def plain (name : String) (sup : Option ClassId) : Class where
  name := name
  kind := .ordinary
  loader := none
  accessFlags := 33
  super := sup
  interfaces := #[]
  cf := none
  fields := #[]
  methods := #[]
  instanceTypes := #[]
  staticTypes := #[]
  resolved := #[]
  callSites := []
  init := .initialized
  statics := none
  mirror := none

def pool0 : Array CpInfo := pool [(5, u "<init>"), (0, u "()V"), (1, .class_ 10), (1, u "java/lang/Object")] 113

def k0c0 : Code := { maxStack := 0, maxLocals := 1, code := object_method_1_code, exceptionTable := #[], attributes := #[] }
def k0m0 : Method := { name := "<init>", desc := "()V", sig := { parameters := [], returnType := none }, accessFlags := 1, code := some k0c0 }
/-- java/lang/Object -/
def k0 : Class := { plain "java/lang/Object" none with
  accessFlags := 33
  interfaces := #[]
  cf := some (fileOf pool0 8 #[] #[{ accessFlags := 1, nameIndex := 5, descriptorIndex := 6, attributes := #[] }] 33 0 #[] #[])
  fields := #[]
  methods := #[k0m0]
  instanceTypes := #[]
  staticTypes := #[]
  resolved := Array.replicate 124 none
  statics := none }

def pool1 : Array CpInfo := pool [(2, .class_ 4), (1, u "java/lang/Object"), (0, u "<init>"), (0, u "()V"), (0, .methodref 8 9), (0, .class_ 10), (0, .nameAndType 11 12), (0, u "java/lang/String"), (0, u "valueOf"), (0, u "(C)Ljava/lang/String;"), (0, .class_ 14), (0, u "com/example/mosub/mosub/model/Stamp"), (0, .methodref 13 16), (0, .nameAndType 5 17), (0, u "(JLjava/lang/String;)V"), (0, .class_ 19), (0, u "com/example/mosub/mosub/model/Route"), (0, .methodref 18 21), (0, .nameAndType 5 22), (0, u "(Lcom/example/mosub/mosub/model/Stamp;Lcom/example/mosub/mosub/model/Stamp;)V"), (0, .class_ 24), (0, u "com/example/mosub/mosub/model/Reach"), (0, .methodref 23 26), (0, .nameAndType 5 27), (0, u "(Ljava/lang/String;Lcom/example/mosub/mosub/model/Route;)V"), (0, .methodref 23 29), (0, .nameAndType 30 31), (0, u "added"), (0, u "()Z"), (0, .methodref 23 33), (0, .nameAndType 34 35), (0, u "route"), (0, u "()Lcom/example/mosub/mosub/model/Route;"), (0, .class_ 37), (0, u "com/example/mosub/mosub/model/ReachAddedPinLaw"), (2, u "law"), (0, u "(IJJII)Z")] 3

def k1m0 : Method := { name := "<init>", desc := "()V", sig := { parameters := [], returnType := none }, accessFlags := 1, code := none }
def k1c1 : Code := { maxStack := 5, maxLocals := 15, code := code, exceptionTable := #[], attributes := #[] }
def k1m1 : Method := { name := "law", desc := "(IJJII)Z", sig := { parameters := [.int, .long, .long, .int, .int], returnType := some .boolean }, accessFlags := 9, code := some k1c1 }
/-- com/example/mosub/mosub/model/ReachAddedPinLaw -/
def k1 : Class := { plain "com/example/mosub/mosub/model/ReachAddedPinLaw" (some 0) with
  accessFlags := 49
  interfaces := #[]
  cf := some (fileOf pool1 36 #[] #[{ accessFlags := 1, nameIndex := 5, descriptorIndex := 6, attributes := #[] }, { accessFlags := 9, nameIndex := 40, descriptorIndex := 41, attributes := #[] }] 49 2 #[] #[])
  fields := #[]
  methods := #[k1m0, k1m1]
  instanceTypes := #[]
  staticTypes := #[]
  resolved := Array.replicate 45 none
  statics := none }

def pool2 : Array CpInfo := pool [(1, .class_ 2), (0, u "java/io/Serializable"), (0, .class_ 4), (0, u "java/lang/Object")] 2

/-- java/io/Serializable -/
def k2 : Class := { plain "java/io/Serializable" (some 0) with
  accessFlags := 1537
  interfaces := #[]
  cf := some (fileOf pool2 1 #[] #[] 1537 3 #[] #[])
  fields := #[]
  methods := #[]
  instanceTypes := #[]
  staticTypes := #[]
  resolved := Array.replicate 7 none
  statics := none }

def pool3 : Array CpInfo := pool [(1, .class_ 2), (0, u "java/lang/Comparable"), (0, .class_ 4), (0, u "java/lang/Object")] 7

/-- java/lang/Comparable -/
def k3 : Class := { plain "java/lang/Comparable" (some 0) with
  accessFlags := 1537
  interfaces := #[]
  cf := some (fileOf pool3 1 #[] #[] 1537 3 #[] #[])
  fields := #[]
  methods := #[]
  instanceTypes := #[]
  staticTypes := #[]
  resolved := Array.replicate 12 none
  statics := none }

def pool4 : Array CpInfo := pool [(2, .class_ 4), (1, u "java/lang/CharSequence"), (42, .class_ 48), (0, u "java/lang/CharSequence$1CodePointIterator"), (10, .class_ 60), (0, u "java/lang/CharSequence$1CharIterator"), (5, .class_ 67), (0, u "java/lang/Object")] 63

/-- java/lang/CharSequence -/
def k4 : Class := { plain "java/lang/CharSequence" (some 0) with
  accessFlags := 1537
  interfaces := #[]
  cf := some (fileOf pool4 2 #[.nestMembers #[47, 59]] #[] 1537 66 #[] #[])
  fields := #[]
  methods := #[]
  instanceTypes := #[]
  staticTypes := #[]
  resolved := Array.replicate 131 none
  statics := none }

def pool5 : Array CpInfo := pool [(1, .class_ 2), (0, u "java/lang/constant/Constable"), (0, .class_ 4), (0, u "java/lang/Object")] 6

/-- java/lang/constant/Constable -/
def k5 : Class := { plain "java/lang/constant/Constable" (some 0) with
  accessFlags := 1537
  interfaces := #[]
  cf := some (fileOf pool5 1 #[] #[] 1537 3 #[] #[])
  fields := #[]
  methods := #[]
  instanceTypes := #[]
  staticTypes := #[]
  resolved := Array.replicate 11 none
  statics := none }

def pool6 : Array CpInfo := pool [(1, .class_ 2), (0, u "java/lang/constant/ConstantDesc"), (0, .class_ 4), (0, u "java/lang/Object")] 32

/-- java/lang/constant/ConstantDesc -/
def k6 : Class := { plain "java/lang/constant/ConstantDesc" (some 0) with
  accessFlags := 1537
  interfaces := #[]
  cf := some (fileOf pool6 1 #[] #[] 1537 3 #[] #[])
  fields := #[]
  methods := #[]
  instanceTypes := #[]
  staticTypes := #[]
  resolved := Array.replicate 37 none
  statics := none }

def pool7 : Array CpInfo := pool [(1, .methodref 2 3), (0, .class_ 4), (0, .nameAndType 5 6), (0, u "java/lang/Object"), (0, u "<init>"), (0, u "()V"), (2, .fieldref 10 11), (0, .class_ 12), (0, .nameAndType 13 14), (0, u "java/lang/String"), (0, u "value"), (0, u "[B"), (0, .fieldref 10 16), (0, .nameAndType 17 18), (0, u "coder"), (0, u "B"), (2, u "hash"), (0, u "I"), (2, u "hashIsZero"), (0, u "Z"), (11, .fieldref 10 39), (0, .nameAndType 40 26), (0, u "COMPACT_STRINGS"), (12, u "toBytes"), (53, .class_ 109), (1, u "java/lang/StringLatin1"), (99, .methodref 10 210), (0, .nameAndType 5 211), (0, u "([BB)V"), (157, u "(C)Z"), (205, .class_ 576), (0, u "java/lang/CharSequence"), (22, u "CASE_INSENSITIVE_ORDER"), (0, u "Ljava/util/Comparator;"), (181, u "valueOf"), (0, u "(C)Ljava/lang/String;"), (231, .methodref 107 1016), (0, .nameAndType 1017 369), (0, u "canEncode"), (0, .methodref 107 1019), (0, .nameAndType 53 1020), (0, u "(C)[B"), (80, u "serialPersistentFields"), (0, u "[Ljava/io/ObjectStreamField;"), (0, .class_ 1104), (0, u "java/lang/String$CaseInsensitiveComparator"), (1, .class_ 1107), (0, u "java/io/Serializable"), (0, .class_ 1109), (0, u "java/lang/Comparable"), (0, .class_ 1111), (0, u "java/lang/constant/Constable"), (0, .class_ 1113), (0, u "java/lang/constant/ConstantDesc"), (2, u "serialVersionUID"), (0, u "J"), (3, u "REPL"), (0, u "C"), (2, u "LATIN1"), (1, u "UTF16")] 323

def k7m0 : Method := { name := "<init>", desc := "()V", sig := { parameters := [], returnType := none }, accessFlags := 1, code := none }
def k7c1 : Code := { maxStack := 4, maxLocals := 1, code := jdk_42_method_139_code, exceptionTable := #[], attributes := #[] }
def k7m1 : Method := { name := "valueOf", desc := "(C)Ljava/lang/String;", sig := { parameters := [.char], returnType := some (.object "java/lang/String") }, accessFlags := 9, code := some k7c1 }
def k7c2 : Code := { maxStack := 2, maxLocals := 3, code := jdk_42_method_151_code, exceptionTable := #[], attributes := #[] }
def k7m2 : Method := { name := "<init>", desc := "([BB)V", sig := { parameters := [(.array .byte), .byte], returnType := none }, accessFlags := 0, code := some k7c2 }
/-- java/lang/String -/
def k7 : Class := { plain "java/lang/String" (some 0) with
  accessFlags := 49
  interfaces := #[2, 3, 4, 5, 6]
  cf := some (fileOf pool7 10 #[.nestMembers #[1103]] #[{ accessFlags := 1, nameIndex := 5, descriptorIndex := 6, attributes := #[] }, { accessFlags := 9, nameIndex := 782, descriptorIndex := 783, attributes := #[] }, { accessFlags := 0, nameIndex := 5, descriptorIndex := 211, attributes := #[] }] 49 2 #[1106, 1108, 575, 1110, 1112] #[{ accessFlags := 18, nameIndex := 13, descriptorIndex := 14, attributes := #[] }, { accessFlags := 18, nameIndex := 17, descriptorIndex := 18, attributes := #[] }, { accessFlags := 2, nameIndex := 21, descriptorIndex := 22, attributes := #[] }, { accessFlags := 2, nameIndex := 25, descriptorIndex := 26, attributes := #[] }, { accessFlags := 26, nameIndex := 1116, descriptorIndex := 1117, attributes := #[] }, { accessFlags := 24, nameIndex := 40, descriptorIndex := 26, attributes := #[] }, { accessFlags := 26, nameIndex := 1101, descriptorIndex := 1102, attributes := #[] }, { accessFlags := 26, nameIndex := 1121, descriptorIndex := 1122, attributes := #[] }, { accessFlags := 25, nameIndex := 599, descriptorIndex := 600, attributes := #[] }, { accessFlags := 24, nameIndex := 1125, descriptorIndex := 18, attributes := #[] }, { accessFlags := 24, nameIndex := 1127, descriptorIndex := 18, attributes := #[] }])
  fields := #[{ name := "value", type := (.array .byte), accessFlags := 18, slot := 0, constantValue := 0 }, { name := "coder", type := .byte, accessFlags := 18, slot := 1, constantValue := 0 }, { name := "hash", type := .int, accessFlags := 2, slot := 2, constantValue := 0 }, { name := "hashIsZero", type := .boolean, accessFlags := 2, slot := 3, constantValue := 0 }, { name := "serialVersionUID", type := .long, accessFlags := 26, slot := 0, constantValue := 0 }, { name := "COMPACT_STRINGS", type := .boolean, accessFlags := 24, slot := 1, constantValue := 0 }, { name := "serialPersistentFields", type := (.array (.object "java/io/ObjectStreamField")), accessFlags := 26, slot := 2, constantValue := 0 }, { name := "REPL", type := .char, accessFlags := 26, slot := 3, constantValue := 0 }, { name := "CASE_INSENSITIVE_ORDER", type := (.object "java/util/Comparator"), accessFlags := 25, slot := 4, constantValue := 0 }, { name := "LATIN1", type := .byte, accessFlags := 24, slot := 5, constantValue := 0 }, { name := "UTF16", type := .byte, accessFlags := 24, slot := 6, constantValue := 0 }]
  methods := #[k7m0, k7m1, k7m2]
  instanceTypes := #[(.array .byte), .byte, .int, .boolean]
  staticTypes := #[.long, .boolean, (.array (.object "java/io/ObjectStreamField")), .char, (.object "java/util/Comparator"), .byte, .byte]
  resolved := Array.replicate 1451 none
  statics := some 0 }

def pool8 : Array CpInfo := pool [(4, .class_ 6), (1, u "java/lang/Object"), (0, u "<init>"), (0, u "()V"), (5, .class_ 16), (1, u "java/lang/StringLatin1"), (73, u "canEncode"), (14, u "(C)Z"), (15, u "$assertionsDisabled"), (0, u "Z"), (98, .class_ 223), (1, u "java/lang/StringLatin1$LinesSpliterator"), (156, u "toBytes"), (1, u "(C)[B"), (7, .class_ 391), (0, u "java/lang/StringLatin1$CharsSpliterator")] 3

def k8m0 : Method := { name := "<init>", desc := "()V", sig := { parameters := [], returnType := none }, accessFlags := 0, code := none }
def k8c1 : Code := { maxStack := 2, maxLocals := 1, code := jdk_43_method_3_code, exceptionTable := #[], attributes := #[] }
def k8m1 : Method := { name := "canEncode", desc := "(C)Z", sig := { parameters := [.char], returnType := some .boolean }, accessFlags := 9, code := some k8c1 }
def k8c2 : Code := { maxStack := 4, maxLocals := 1, code := jdk_43_method_46_code, exceptionTable := #[], attributes := #[] }
def k8m2 : Method := { name := "toBytes", desc := "(C)[B", sig := { parameters := [.char], returnType := some (.array .byte) }, accessFlags := 9, code := some k8c2 }
/-- java/lang/StringLatin1 -/
def k8 : Class := { plain "java/lang/StringLatin1" (some 0) with
  accessFlags := 48
  interfaces := #[]
  cf := some (fileOf pool8 14 #[.nestMembers #[390, 221]] #[{ accessFlags := 0, nameIndex := 7, descriptorIndex := 8, attributes := #[] }, { accessFlags := 9, nameIndex := 90, descriptorIndex := 105, attributes := #[] }, { accessFlags := 9, nameIndex := 380, descriptorIndex := 382, attributes := #[] }] 48 4 #[] #[{ accessFlags := 4120, nameIndex := 121, descriptorIndex := 122, attributes := #[] }])
  fields := #[{ name := "$assertionsDisabled", type := .boolean, accessFlags := 4120, slot := 0, constantValue := 0 }]
  methods := #[k8m0, k8m1, k8m2]
  instanceTypes := #[]
  staticTypes := #[.boolean]
  resolved := Array.replicate 395 none
  statics := none }

def pool9 : Array CpInfo := pool [(1, .methodref 2 3), (0, .class_ 4), (0, .nameAndType 5 6), (0, u "java/lang/Object"), (0, u "<init>"), (0, u "()V"), (0, .fieldref 8 9), (0, .class_ 10), (0, .nameAndType 11 12), (0, u "com/example/mosub/mosub/model/Stamp"), (0, u "number"), (0, u "J"), (0, .string 14), (0, u "origin"), (0, .methodref 16 17), (0, .class_ 18), (0, .nameAndType 19 20), (0, u "java/util/Objects"), (0, u "requireNonNull"), (0, u "(Ljava/lang/Object;Ljava/lang/String;)Ljava/lang/Object;"), (0, .class_ 22), (0, u "java/lang/String"), (0, .fieldref 8 24), (0, .nameAndType 14 25), (0, u "Ljava/lang/String;"), (21, u "(JLjava/lang/String;)V")] 25

def k9c0 : Code := { maxStack := 3, maxLocals := 4, code := prog_45_method_1_code, exceptionTable := #[], attributes := #[] }
def k9m0 : Method := { name := "<init>", desc := "(JLjava/lang/String;)V", sig := { parameters := [.long, (.object "java/lang/String")], returnType := none }, accessFlags := 1, code := some k9c0 }
/-- com/example/mosub/mosub/model/Stamp -/
def k9 : Class := { plain "com/example/mosub/mosub/model/Stamp" (some 0) with
  accessFlags := 49
  interfaces := #[]
  cf := some (fileOf pool9 8 #[] #[{ accessFlags := 1, nameIndex := 5, descriptorIndex := 47, attributes := #[] }] 49 2 #[] #[{ accessFlags := 18, nameIndex := 11, descriptorIndex := 12, attributes := #[] }, { accessFlags := 18, nameIndex := 14, descriptorIndex := 25, attributes := #[] }])
  fields := #[{ name := "number", type := .long, accessFlags := 18, slot := 0, constantValue := 0 }, { name := "origin", type := (.object "java/lang/String"), accessFlags := 18, slot := 1, constantValue := 0 }]
  methods := #[k9m0]
  instanceTypes := #[.long, (.object "java/lang/String")]
  staticTypes := #[]
  resolved := Array.replicate 73 none
  statics := none }

def pool10 : Array CpInfo := pool [(2, .class_ 4), (1, u "java/lang/Object"), (0, u "<init>"), (0, u "()V"), (35, .class_ 44), (1, u "java/util/Objects"), (0, u "requireNonNull"), (48, u "(Ljava/lang/Object;Ljava/lang/String;)Ljava/lang/Object;")] 89

def k10m0 : Method := { name := "<init>", desc := "()V", sig := { parameters := [], returnType := none }, accessFlags := 2, code := none }
def k10c1 : Code := { maxStack := 3, maxLocals := 2, code := jdk_31_method_11_code, exceptionTable := #[], attributes := #[] }
def k10m1 : Method := { name := "requireNonNull", desc := "(Ljava/lang/Object;Ljava/lang/String;)Ljava/lang/Object;", sig := { parameters := [(.object "java/lang/Object"), (.object "java/lang/String")], returnType := some (.object "java/lang/Object") }, accessFlags := 9, code := some k10c1 }
/-- java/util/Objects -/
def k10 : Class := { plain "java/util/Objects" (some 0) with
  accessFlags := 49
  interfaces := #[]
  cf := some (fileOf pool10 42 #[] #[{ accessFlags := 2, nameIndex := 5, descriptorIndex := 6, attributes := #[] }, { accessFlags := 9, nameIndex := 45, descriptorIndex := 94, attributes := #[] }] 49 2 #[] #[])
  fields := #[]
  methods := #[k10m0, k10m1]
  instanceTypes := #[]
  staticTypes := #[]
  resolved := Array.replicate 184 none
  statics := none }

def pool11 : Array CpInfo := pool [(1, .class_ 2), (0, u "com/example/mosub/mosub/model/OverlayMessage"), (0, .class_ 4), (0, u "java/lang/Object"), (5, .class_ 11), (0, u "com/example/mosub/mosub/model/OverlayMessage$Type")] 2

/-- com/example/mosub/mosub/model/OverlayMessage -/
def k11 : Class := { plain "com/example/mosub/mosub/model/OverlayMessage" (some 0) with
  accessFlags := 1537
  interfaces := #[]
  cf := some (fileOf pool11 1 #[.nestMembers #[10]] #[] 1537 3 #[] #[])
  fields := #[]
  methods := #[]
  instanceTypes := #[]
  staticTypes := #[]
  resolved := Array.replicate 14 none
  statics := none }

def pool12 : Array CpInfo := pool [(1, .methodref 2 3), (0, .class_ 4), (0, .nameAndType 5 6), (0, u "java/lang/Object"), (0, u "<init>"), (0, u "()V"), (0, .string 8), (0, u "brokerName"), (0, .methodref 10 11), (0, .class_ 12), (0, .nameAndType 13 14), (0, u "java/util/Objects"), (0, u "requireNonNull"), (0, u "(Ljava/lang/Object;Ljava/lang/String;)Ljava/lang/Object;"), (0, .class_ 16), (0, u "java/lang/String"), (0, .fieldref 18 19), (0, .class_ 20), (0, .nameAndType 8 21), (0, u "com/example/mosub/mosub/model/Reach"), (0, u "Ljava/lang/String;"), (0, .fieldref 18 23), (0, .nameAndType 24 25), (0, u "route"), (0, u "Lcom/example/mosub/mosub/model/Route;"), (6, .class_ 33), (0, u "com/example/mosub/mosub/model/OverlayMessage"), (0, u "(Ljava/lang/String;Lcom/example/mosub/mosub/model/Route;)V"), (5, u "added"), (0, u "()Z"), (1, u "()Lcom/example/mosub/mosub/model/Route;")] 4

def k12c0 : Code := { maxStack := 3, maxLocals := 3, code := prog_32_method_1_code, exceptionTable := #[], attributes := #[] }
def k12m0 : Method := { name := "<init>", desc := "(Ljava/lang/String;Lcom/example/mosub/mosub/model/Route;)V", sig := { parameters := [(.object "java/lang/String"), (.object "com/example/mosub/mosub/model/Route")], returnType := none }, accessFlags := 1, code := some k12c0 }
def k12c1 : Code := { maxStack := 1, maxLocals := 1, code := prog_32_method_4_code, exceptionTable := #[], attributes := #[] }
def k12m1 : Method := { name := "added", desc := "()Z", sig := { parameters := [], returnType := some .boolean }, accessFlags := 1, code := some k12c1 }
def k12c2 : Code := { maxStack := 1, maxLocals := 1, code := prog_32_method_5_code, exceptionTable := #[], attributes := #[] }
def k12m2 : Method := { name := "route", desc := "()Lcom/example/mosub/mosub/model/Route;", sig := { parameters := [], returnType := some (.object "com/example/mosub/mosub/model/Route") }, accessFlags := 1, code := some k12c2 }
/-- com/example/mosub/mosub/model/Reach -/
def k12 : Class := { plain "com/example/mosub/mosub/model/Reach" (some 0) with
  accessFlags := 49
  interfaces := #[11]
  cf := some (fileOf pool12 18 #[] #[{ accessFlags := 1, nameIndex := 5, descriptorIndex := 34, attributes := #[] }, { accessFlags := 1, nameIndex := 40, descriptorIndex := 41, attributes := #[] }, { accessFlags := 1, nameIndex := 24, descriptorIndex := 43, attributes := #[] }] 49 2 #[32] #[{ accessFlags := 18, nameIndex := 8, descriptorIndex := 21, attributes := #[] }, { accessFlags := 18, nameIndex := 24, descriptorIndex := 25, attributes := #[] }])
  fields := #[{ name := "brokerName", type := (.object "java/lang/String"), accessFlags := 18, slot := 0, constantValue := 0 }, { name := "route", type := (.object "com/example/mosub/mosub/model/Route"), accessFlags := 18, slot := 1, constantValue := 0 }]
  methods := #[k12m0, k12m1, k12m2]
  instanceTypes := #[(.object "java/lang/String"), (.object "com/example/mosub/mosub/model/Route")]
  staticTypes := #[]
  resolved := Array.replicate 48 none
  statics := none }

def pool13 : Array CpInfo := pool [(1, .methodref 2 3), (0, .class_ 4), (0, .nameAndType 5 6), (0, u "java/lang/Object"), (0, u "<init>"), (0, u "()V"), (0, .string 8), (0, u "newest"), (0, .methodref 10 11), (0, .class_ 12), (0, .nameAndType 13 14), (0, u "java/util/Objects"), (0, u "requireNonNull"), (0, u "(Ljava/lang/Object;Ljava/lang/String;)Ljava/lang/Object;"), (0, .class_ 16), (0, u "com/example/mosub/mosub/model/Stamp"), (0, .fieldref 18 19), (0, .class_ 20), (0, .nameAndType 8 21), (0, u "com/example/mosub/mosub/model/Route"), (0, u "Lcom/example/mosub/mosub/model/Stamp;"), (0, .string 23), (0, u "last"), (0, .fieldref 18 25), (0, .nameAndType 23 21), (2, u "(Lcom/example/mosub/mosub/model/Stamp;Lcom/example/mosub/mosub/model/Stamp;)V")] 50

def k13c0 : Code := { maxStack := 3, maxLocals := 3, code := prog_38_method_1_code, exceptionTable := #[], attributes := #[] }
def k13m0 : Method := { name := "<init>", desc := "(Lcom/example/mosub/mosub/model/Stamp;Lcom/example/mosub/mosub/model/Stamp;)V", sig := { parameters := [(.object "com/example/mosub/mosub/model/Stamp"), (.object "com/example/mosub/mosub/model/Stamp")], returnType := none }, accessFlags := 1, code := some k13c0 }
/-- com/example/mosub/mosub/model/Route -/
def k13 : Class := { plain "com/example/mosub/mosub/model/Route" (some 0) with
  accessFlags := 49
  interfaces := #[]
  cf := some (fileOf pool13 18 #[] #[{ accessFlags := 1, nameIndex := 5, descriptorIndex := 28, attributes := #[] }] 49 2 #[] #[{ accessFlags := 18, nameIndex := 8, descriptorIndex := 21, attributes := #[] }, { accessFlags := 18, nameIndex := 23, descriptorIndex := 21, attributes := #[] }])
  fields := #[{ name := "newest", type := (.object "com/example/mosub/mosub/model/Stamp"), accessFlags := 18, slot := 0, constantValue := 0 }, { name := "last", type := (.object "com/example/mosub/mosub/model/Stamp"), accessFlags := 18, slot := 1, constantValue := 0 }]
  methods := #[k13m0]
  instanceTypes := #[(.object "com/example/mosub/mosub/model/Stamp"), (.object "com/example/mosub/mosub/model/Stamp")]
  staticTypes := #[]
  resolved := Array.replicate 79 none
  statics := none }

def pool14 : Array CpInfo := pool [(2, .class_ 4), (1, u "java/lang/Object"), (0, u "<init>"), (0, u "()V"), (17, .class_ 26), (1, u "jdk/internal/util/Preconditions"), (28, .class_ 56), (0, u "jdk/internal/util/Preconditions$4"), (57, .class_ 115), (0, u "jdk/internal/util/Preconditions$1"), (7, u "SIOOBE_FORMATTER"), (0, u "Ljava/util/function/BiFunction;"), (0, .class_ 126), (0, u "jdk/internal/util/Preconditions$2"), (3, u "AIOOBE_FORMATTER"), (0, .class_ 132), (0, u "jdk/internal/util/Preconditions$3"), (3, u "IOOBE_FORMATTER")] 57

def k14m0 : Method := { name := "<init>", desc := "()V", sig := { parameters := [], returnType := none }, accessFlags := 1, code := none }
/-- jdk/internal/util/Preconditions -/
def k14 : Class := { plain "jdk/internal/util/Preconditions" (some 0) with
  accessFlags := 33
  interfaces := #[]
  cf := some (fileOf pool14 24 #[.nestMembers #[55, 131, 125, 114]] #[{ accessFlags := 1, nameIndex := 5, descriptorIndex := 6, attributes := #[] }] 33 2 #[] #[{ accessFlags := 25, nameIndex := 123, descriptorIndex := 124, attributes := #[] }, { accessFlags := 25, nameIndex := 130, descriptorIndex := 124, attributes := #[] }, { accessFlags := 25, nameIndex := 136, descriptorIndex := 124, attributes := #[] }])
  fields := #[{ name := "SIOOBE_FORMATTER", type := (.object "java/util/function/BiFunction"), accessFlags := 25, slot := 0, constantValue := 0 }, { name := "AIOOBE_FORMATTER", type := (.object "java/util/function/BiFunction"), accessFlags := 25, slot := 1, constantValue := 0 }, { name := "IOOBE_FORMATTER", type := (.object "java/util/function/BiFunction"), accessFlags := 25, slot := 2, constantValue := 0 }]
  methods := #[k14m0]
  instanceTypes := #[]
  staticTypes := #[(.object "java/util/function/BiFunction"), (.object "java/util/function/BiFunction"), (.object "java/util/function/BiFunction")]
  resolved := Array.replicate 194 none
  statics := some 1 }

def pool15 : Array CpInfo := pool [(9, u "<init>"), (6, .class_ 18), (1, u "java/lang/Object"), (0, u "()V"), (1, .class_ 23), (1, u "jdk/internal/util/ArraysSupport"), (0, u "LOG2_ARRAY_LONG_INDEX_SCALE"), (0, u "I"), (2, u "U"), (0, u "Ljdk/internal/misc/Unsafe;"), (8, u "BIG_ENDIAN"), (0, u "Z"), (8, u "LOG2_BYTE_BIT_SIZE"), (4, u "LOG2_ARRAY_INT_INDEX_SCALE"), (54, u "JLA"), (0, u "Ljdk/internal/access/JavaLangAccess;"), (11, u "LOG2_ARRAY_BOOLEAN_INDEX_SCALE"), (9, u "LOG2_ARRAY_BYTE_INDEX_SCALE"), (5, u "LOG2_ARRAY_CHAR_INDEX_SCALE"), (5, u "LOG2_ARRAY_SHORT_INDEX_SCALE"), (18, u "LOG2_ARRAY_FLOAT_INDEX_SCALE"), (24, u "LOG2_ARRAY_DOUBLE_INDEX_SCALE"), (89, u "T_BOOLEAN"), (2, u "T_CHAR"), (1, u "T_FLOAT"), (1, u "T_DOUBLE"), (1, u "T_BYTE"), (1, u "T_SHORT"), (1, u "T_INT"), (1, u "T_LONG"), (1, u "SOFT_MAX_ARRAY_LENGTH")] 83

def k15m0 : Method := { name := "<init>", desc := "()V", sig := { parameters := [], returnType := none }, accessFlags := 2, code := none }
/-- jdk/internal/util/ArraysSupport -/
def k15 : Class := { plain "jdk/internal/util/ArraysSupport" (some 0) with
  accessFlags := 33
  interfaces := #[]
  cf := some (fileOf pool15 21 #[] #[{ accessFlags := 2, nameIndex := 9, descriptorIndex := 19, attributes := #[] }] 33 16 #[] #[{ accessFlags := 24, nameIndex := 28, descriptorIndex := 29, attributes := #[] }, { accessFlags := 26, nameIndex := 38, descriptorIndex := 39, attributes := #[] }, { accessFlags := 25, nameIndex := 121, descriptorIndex := 25, attributes := #[] }, { accessFlags := 25, nameIndex := 131, descriptorIndex := 25, attributes := #[] }, { accessFlags := 25, nameIndex := 137, descriptorIndex := 25, attributes := #[] }, { accessFlags := 25, nameIndex := 143, descriptorIndex := 25, attributes := #[] }, { accessFlags := 25, nameIndex := 53, descriptorIndex := 25, attributes := #[] }, { accessFlags := 25, nameIndex := 24, descriptorIndex := 25, attributes := #[] }, { accessFlags := 25, nameIndex := 162, descriptorIndex := 25, attributes := #[] }, { accessFlags := 25, nameIndex := 187, descriptorIndex := 25, attributes := #[] }, { accessFlags := 26, nameIndex := 48, descriptorIndex := 25, attributes := #[] }, { accessFlags := 25, nameIndex := 277, descriptorIndex := 25, attributes := #[] }, { accessFlags := 25, nameIndex := 280, descriptorIndex := 25, attributes := #[] }, { accessFlags := 25, nameIndex := 282, descriptorIndex := 25, attributes := #[] }, { accessFlags := 25, nameIndex := 284, descriptorIndex := 25, attributes := #[] }, { accessFlags := 25, nameIndex := 286, descriptorIndex := 25, attributes := #[] }, { accessFlags := 25, nameIndex := 288, descriptorIndex := 25, attributes := #[] }, { accessFlags := 25, nameIndex := 290, descriptorIndex := 25, attributes := #[] }, { accessFlags := 25, nameIndex := 292, descriptorIndex := 25, attributes := #[] }, { accessFlags := 26, nameIndex := 108, descriptorIndex := 109, attributes := #[] }, { accessFlags := 25, nameIndex := 294, descriptorIndex := 25, attributes := #[] }])
  fields := #[{ name := "U", type := (.object "jdk/internal/misc/Unsafe"), accessFlags := 24, slot := 0, constantValue := 0 }, { name := "BIG_ENDIAN", type := .boolean, accessFlags := 26, slot := 1, constantValue := 0 }, { name := "LOG2_ARRAY_BOOLEAN_INDEX_SCALE", type := .int, accessFlags := 25, slot := 2, constantValue := 0 }, { name := "LOG2_ARRAY_BYTE_INDEX_SCALE", type := .int, accessFlags := 25, slot := 3, constantValue := 0 }, { name := "LOG2_ARRAY_CHAR_INDEX_SCALE", type := .int, accessFlags := 25, slot := 4, constantValue := 0 }, { name := "LOG2_ARRAY_SHORT_INDEX_SCALE", type := .int, accessFlags := 25, slot := 5, constantValue := 0 }, { name := "LOG2_ARRAY_INT_INDEX_SCALE", type := .int, accessFlags := 25, slot := 6, constantValue := 0 }, { name := "LOG2_ARRAY_LONG_INDEX_SCALE", type := .int, accessFlags := 25, slot := 7, constantValue := 0 }, { name := "LOG2_ARRAY_FLOAT_INDEX_SCALE", type := .int, accessFlags := 25, slot := 8, constantValue := 0 }, { name := "LOG2_ARRAY_DOUBLE_INDEX_SCALE", type := .int, accessFlags := 25, slot := 9, constantValue := 0 }, { name := "LOG2_BYTE_BIT_SIZE", type := .int, accessFlags := 26, slot := 10, constantValue := 0 }, { name := "T_BOOLEAN", type := .int, accessFlags := 25, slot := 11, constantValue := 0 }, { name := "T_CHAR", type := .int, accessFlags := 25, slot := 12, constantValue := 0 }, { name := "T_FLOAT", type := .int, accessFlags := 25, slot := 13, constantValue := 0 }, { name := "T_DOUBLE", type := .int, accessFlags := 25, slot := 14, constantValue := 0 }, { name := "T_BYTE", type := .int, accessFlags := 25, slot := 15, constantValue := 0 }, { name := "T_SHORT", type := .int, accessFlags := 25, slot := 16, constantValue := 0 }, { name := "T_INT", type := .int, accessFlags := 25, slot := 17, constantValue := 0 }, { name := "T_LONG", type := .int, accessFlags := 25, slot := 18, constantValue := 0 }, { name := "JLA", type := (.object "jdk/internal/access/JavaLangAccess"), accessFlags := 26, slot := 19, constantValue := 0 }, { name := "SOFT_MAX_ARRAY_LENGTH", type := .int, accessFlags := 25, slot := 20, constantValue := 0 }]
  methods := #[k15m0]
  instanceTypes := #[]
  staticTypes := #[(.object "jdk/internal/misc/Unsafe"), .boolean, .int, .int, .int, .int, .int, .int, .int, .int, .int, .int, .int, .int, .int, .int, .int, .int, .int, (.object "jdk/internal/access/JavaLangAccess"), .int]
  resolved := Array.replicate 378 none
  statics := none }

def pool16 : Array CpInfo := pool [(1, u "java/lang/Cloneable"), (0, .class_ 1), (0, u "java/lang/Object"), (0, .class_ 3)] 3

/-- java/lang/Cloneable -/
def k16 : Class := { plain "java/lang/Cloneable" (some 0) with
  accessFlags := 1537
  interfaces := #[]
  cf := some (fileOf pool16 2 #[] #[] 1537 4 #[] #[])
  fields := #[]
  methods := #[]
  instanceTypes := #[]
  staticTypes := #[]
  resolved := Array.replicate 8 none
  statics := none }

/-- the primitive byte -/
def k17 : Class := { plain "byte" none with kind := .primitive 'B', accessFlags := 0x411 }
/-- [B -/
def k18 : Class := { plain "[B" (some 0) with kind := .array 17 .byte, interfaces := #[16, 2], accessFlags := 1041 }

/-- the primitive int -/
def k19 : Class := { plain "int" none with kind := .primitive 'I', accessFlags := 0x411 }
/-- [I -/
def k20 : Class := { plain "[I" (some 0) with kind := .array 19 .int, interfaces := #[16, 2], accessFlags := 1041 }

def heap : Heap := #[{ cls := 7, slots := #[.long 0, .int 1, .null, .int 0, .null, .int 0, .int 0], vm := .statics 7 },
  { cls := 14, slots := #[.null, .null, .null], vm := .statics 14 }]
def classes : Array Class := #[k0, k1, k2, k3, k4, k5, k6, k7, k8, k9, k10, k11, k12, k13, k14, k15, k16, k17, k18, k19, k20]
def interned : List (Array UInt16 × Addr) := []
def slotsUsed : Nat := 10
def theMethod : MethodId := ⟨1, 1⟩
def args0 : Array Value := #[.int 5, .long 5, .long 5, .int 5, .int 5]
def aboutOver (below : List Frame) : State where
  vm := { classes := classes, interned := interned.toArray }
  heap := heap
  slotsUsed := slotsUsed
  threads := #[{ frames := .invoking theMethod args0 :: below }]
def below0 : List Frame := [.native { method := ⟨0, 0⟩, args := #[] }]
def about1 : State := aboutOver below0
def p0 : Program := .bare "" "" ""
def e0 : Env := launch0.env 0 0 0
theorem w_frames : about1.frames = Frame.invoking theMethod args0 :: below0 := rfl
set_option maxRecDepth 65536 in
theorem w_args : argsFit about1.vm theMethod args0 = true := by decide +kernel
set_option maxRecDepth 65536 in
theorem w_heap : heapFits about1 = true := by decide +kernel
set_option maxRecDepth 65536 in
theorem w_runnable : about1.curStatus? = some .runnable := by decide +kernel
set_option maxRecDepth 65536 in
theorem w_alone : about1.alone = true := by decide +kernel
set_option maxRecDepth 65536 in
theorem w_named : about1.methodNamed? x = some theMethod := by decide +kernel
set_option maxRecDepth 65536 in
theorem w_hears : about1.hears theMethod below0 = true := by decide +kernel
set_option maxRecDepth 65536 in
theorem w_ripe : about1.ripe theMethod args0 below0 = true := by decide +kernel
theorem w_running : about1.status = .running := rfl
set_option maxRecDepth 65536 in
theorem w_room : about1.hasRoom e0.platform room_1 = true :=
  launch0.hasRoom_least _ room_1 (by decide +kernel) (by decide +kernel) (by decide +kernel) (by decide +kernel) (by decide +kernel) (by decide +kernel)
theorem allAtoms_all (ts : List Jvm.Cond) (a : Array Jvm.Value) (st : Jvm.State) : (allAtoms ts).before a st = ts.all (fun c => c.before a st) := by
  induction ts with
  | nil => rfl
  | cons c t ih =>
    show (Jvm.Cond.and c (allAtoms t)).before a st = _
    rw [Jvm.Cond.before_and, ih, List.all_cons]
def words1 : List Jvm.Cond := Jvm.Cond.code x code maxLocals ret :: tables_1
/-- a 'code' word, met by the world's own term for the bytes: nothing is compared byte by byte -/
theorem code_word {y : MethodName} {bytes : ByteArray} {mx : Nat} {rt : Option FieldType} {a : Array Value} {s : State} {m : MethodId} {meth : Method} {c : Code} (h1 : s.methodNamed? y = some m) (h2 : s.vm.method? m = some meth) (h3 : meth.code = some c) (h4 : c.code = bytes)
    (h5 : (c.maxLocals == mx && c.exceptionTable.isEmpty && decide (c.maxStack ≤ mostOperands) && decide (meth.sig.returnType = rt) && !meth.locks && decide (parseMethodDescriptor y.desc = some meth.sig)) = true) : (Jvm.Cond.code y bytes mx rt).before a s = true := by
  simp only [Bool.and_eq_true, beq_iff_eq, Bool.not_eq_true', decide_eq_true_eq] at h5
  obtain ⟨⟨⟨⟨⟨g1, g2⟩, g3⟩, g4⟩, g5⟩, g6⟩ := h5
  simp [Cond.before, Cond.holds, Cond.value, h1, h2, h3, h4, g1, g2, g3, g4, g5, g6]
def isCode : Jvm.Cond → Bool
  | .code _ _ _ _ => true
  | _ => false
theorem all_split {L : List Jvm.Cond} {P : Jvm.Cond → Bool} (h1 : L.all (fun c => isCode c || P c) = true) (h2 : ∀ c ∈ L.filter isCode, P c = true) : L.all P = true := by
  refine List.all_eq_true.mpr fun c hc => ?_
  have h := List.all_eq_true.mp h1 c hc
  rcases Bool.eq_false_or_eq_true (isCode c) with hi | hi
  · exact h2 c (List.mem_filter.mpr ⟨hc, hi⟩)
  · simpa [hi] using h
set_option maxRecDepth 65536 in
theorem w_c0 : (Jvm.Cond.code x code maxLocals ret).before args0 about1 = true := code_word (m := ⟨1, 1⟩) (meth := k1m1) (c := k1c1) (by decide +kernel) rfl rfl rfl (by decide +kernel)
set_option maxRecDepth 65536 in
theorem w_c1 : (Jvm.Cond.code ({ cls := "java/lang/String", name := "valueOf", desc := "(C)Ljava/lang/String;" } : Jvm.MethodName) jdk_42_method_139_code (1 : Nat) (Option.some (Jvm.ClassFile.FieldType.object "java/lang/String"))).before args0 about1 = true := code_word (m := ⟨7, 1⟩) (meth := k7m1) (c := k7c1) (by decide +kernel) rfl rfl rfl (by decide +kernel)
set_option maxRecDepth 65536 in
theorem w_c2 : (Jvm.Cond.code ({ cls := "java/lang/StringLatin1", name := "canEncode", desc := "(C)Z" } : Jvm.MethodName) jdk_43_method_3_code (1 : Nat) (Option.some Jvm.ClassFile.FieldType.boolean)).before args0 about1 = true := code_word (m := ⟨8, 1⟩) (meth := k8m1) (c := k8c1) (by decide +kernel) rfl rfl rfl (by decide +kernel)
set_option maxRecDepth 65536 in
theorem w_c3 : (Jvm.Cond.code ({ cls := "java/lang/StringLatin1", name := "toBytes", desc := "(C)[B" } : Jvm.MethodName) jdk_43_method_46_code (1 : Nat) (Option.some (Jvm.ClassFile.FieldType.array Jvm.ClassFile.FieldType.byte))).before args0 about1 = true := code_word (m := ⟨8, 2⟩) (meth := k8m2) (c := k8c2) (by decide +kernel) rfl rfl rfl (by decide +kernel)
set_option maxRecDepth 65536 in
theorem w_c4 : (Jvm.Cond.code ({ cls := "java/lang/String", name := "<init>", desc := "([BB)V" } : Jvm.MethodName) jdk_42_method_151_code (3 : Nat) (Option.none : Option Jvm.ClassFile.FieldType)).before args0 about1 = true := code_word (m := ⟨7, 2⟩) (meth := k7m2) (c := k7c2) (by decide +kernel) rfl rfl rfl (by decide +kernel)
set_option maxRecDepth 65536 in
theorem w_c5 : (Jvm.Cond.code ({ cls := "java/lang/Object", name := "<init>", desc := "()V" } : Jvm.MethodName) object_method_1_code (1 : Nat) (Option.none : Option Jvm.ClassFile.FieldType)).before args0 about1 = true := code_word (m := ⟨0, 0⟩) (meth := k0m0) (c := k0c0) (by decide +kernel) rfl rfl rfl (by decide +kernel)
set_option maxRecDepth 65536 in
theorem w_c6 : (Jvm.Cond.code ({ cls := "com/example/mosub/mosub/model/Stamp", name := "<init>", desc := "(JLjava/lang/String;)V" } : Jvm.MethodName) prog_45_method_1_code (4 : Nat) (Option.none : Option Jvm.ClassFile.FieldType)).before args0 about1 = true := code_word (m := ⟨9, 0⟩) (meth := k9m0) (c := k9c0) (by decide +kernel) rfl rfl rfl (by decide +kernel)
set_option maxRecDepth 65536 in
theorem w_c7 : (Jvm.Cond.code ({ cls := "java/util/Objects", name := "requireNonNull", desc := "(Ljava/lang/Object;Ljava/lang/String;)Ljava/lang/Object;" } : Jvm.MethodName) jdk_31_method_11_code (2 : Nat) (Option.some (Jvm.ClassFile.FieldType.object "java/lang/Object"))).before args0 about1 = true := code_word (m := ⟨10, 1⟩) (meth := k10m1) (c := k10c1) (by decide +kernel) rfl rfl rfl (by decide +kernel)
set_option maxRecDepth 65536 in
theorem w_c8 : (Jvm.Cond.code ({ cls := "com/example/mosub/mosub/model/Reach", name := "<init>", desc := "(Ljava/lang/String;Lcom/example/mosub/mosub/model/Route;)V" } : Jvm.MethodName) prog_32_method_1_code (3 : Nat) (Option.none : Option Jvm.ClassFile.FieldType)).before args0 about1 = true := code_word (m := ⟨12, 0⟩) (meth := k12m0) (c := k12c0) (by decide +kernel) rfl rfl rfl (by decide +kernel)
set_option maxRecDepth 65536 in
theorem w_c9 : (Jvm.Cond.code ({ cls := "com/example/mosub/mosub/model/Reach", name := "added", desc := "()Z" } : Jvm.MethodName) prog_32_method_4_code (1 : Nat) (Option.some Jvm.ClassFile.FieldType.boolean)).before args0 about1 = true := code_word (m := ⟨12, 1⟩) (meth := k12m1) (c := k12c1) (by decide +kernel) rfl rfl rfl (by decide +kernel)
set_option maxRecDepth 65536 in
theorem w_c10 : (Jvm.Cond.code ({ cls := "com/example/mosub/mosub/model/Reach", name := "route", desc := "()Lcom/example/mosub/mosub/model/Route;" } : Jvm.MethodName) prog_32_method_5_code (1 : Nat) (Option.some (Jvm.ClassFile.FieldType.object "com/example/mosub/mosub/model/Route"))).before args0 about1 = true := code_word (m := ⟨12, 2⟩) (meth := k12m2) (c := k12c2) (by decide +kernel) rfl rfl rfl (by decide +kernel)
set_option maxRecDepth 65536 in
theorem w_c11 : (Jvm.Cond.code ({ cls := "com/example/mosub/mosub/model/Route", name := "<init>", desc := "(Lcom/example/mosub/mosub/model/Stamp;Lcom/example/mosub/mosub/model/Stamp;)V" } : Jvm.MethodName) prog_38_method_1_code (3 : Nat) (Option.none : Option Jvm.ClassFile.FieldType)).before args0 about1 = true := code_word (m := ⟨13, 0⟩) (meth := k13m0) (c := k13c0) (by decide +kernel) rfl rfl rfl (by decide +kernel)
def codes1 : List Jvm.Cond := [Jvm.Cond.code x code maxLocals ret, Jvm.Cond.code ({ cls := "java/lang/String", name := "valueOf", desc := "(C)Ljava/lang/String;" } : Jvm.MethodName) jdk_42_method_139_code (1 : Nat) (Option.some (Jvm.ClassFile.FieldType.object "java/lang/String")), Jvm.Cond.code ({ cls := "java/lang/StringLatin1", name := "canEncode", desc := "(C)Z" } : Jvm.MethodName) jdk_43_method_3_code (1 : Nat) (Option.some Jvm.ClassFile.FieldType.boolean), Jvm.Cond.code ({ cls := "java/lang/StringLatin1", name := "toBytes", desc := "(C)[B" } : Jvm.MethodName) jdk_43_method_46_code (1 : Nat) (Option.some (Jvm.ClassFile.FieldType.array Jvm.ClassFile.FieldType.byte)), Jvm.Cond.code ({ cls := "java/lang/String", name := "<init>", desc := "([BB)V" } : Jvm.MethodName) jdk_42_method_151_code (3 : Nat) (Option.none : Option Jvm.ClassFile.FieldType), Jvm.Cond.code ({ cls := "java/lang/Object", name := "<init>", desc := "()V" } : Jvm.MethodName) object_method_1_code (1 : Nat) (Option.none : Option Jvm.ClassFile.FieldType), Jvm.Cond.code ({ cls := "com/example/mosub/mosub/model/Stamp", name := "<init>", desc := "(JLjava/lang/String;)V" } : Jvm.MethodName) prog_45_method_1_code (4 : Nat) (Option.none : Option Jvm.ClassFile.FieldType), Jvm.Cond.code ({ cls := "java/util/Objects", name := "requireNonNull", desc := "(Ljava/lang/Object;Ljava/lang/String;)Ljava/lang/Object;" } : Jvm.MethodName) jdk_31_method_11_code (2 : Nat) (Option.some (Jvm.ClassFile.FieldType.object "java/lang/Object")), Jvm.Cond.code ({ cls := "com/example/mosub/mosub/model/Reach", name := "<init>", desc := "(Ljava/lang/String;Lcom/example/mosub/mosub/model/Route;)V" } : Jvm.MethodName) prog_32_method_1_code (3 : Nat) (Option.none : Option Jvm.ClassFile.FieldType), Jvm.Cond.code ({ cls := "com/example/mosub/mosub/model/Reach", name := "added", desc := "()Z" } : Jvm.MethodName) prog_32_method_4_code (1 : Nat) (Option.some Jvm.ClassFile.FieldType.boolean), Jvm.Cond.code ({ cls := "com/example/mosub/mosub/model/Reach", name := "route", desc := "()Lcom/example/mosub/mosub/model/Route;" } : Jvm.MethodName) prog_32_method_5_code (1 : Nat) (Option.some (Jvm.ClassFile.FieldType.object "com/example/mosub/mosub/model/Route")), Jvm.Cond.code ({ cls := "com/example/mosub/mosub/model/Route", name := "<init>", desc := "(Lcom/example/mosub/mosub/model/Stamp;Lcom/example/mosub/mosub/model/Stamp;)V" } : Jvm.MethodName) prog_38_method_1_code (3 : Nat) (Option.none : Option Jvm.ClassFile.FieldType)]
set_option maxRecDepth 65536 in
theorem codes_eq : words1.filter isCode = codes1 := rfl
theorem w_codes : ∀ c ∈ words1.filter isCode, c.before args0 about1 = true := by
  rw [codes_eq]
  intro c hc
  simp only [codes1, List.mem_cons, List.not_mem_nil, or_false] at hc
  rcases hc with rfl | rfl | rfl | rfl | rfl | rfl | rfl | rfl | rfl | rfl | rfl | rfl
  · exact w_c0
  · exact w_c1
  · exact w_c2
  · exact w_c3
  · exact w_c4
  · exact w_c5
  · exact w_c6
  · exact w_c7
  · exact w_c8
  · exact w_c9
  · exact w_c10
  · exact w_c11
set_option maxRecDepth 65536 in
theorem w_t1 : (words1.take 24).all (fun c => isCode c || c.before args0 about1) = true := by decide +kernel
set_option maxRecDepth 65536 in
theorem w_t2 : ((words1.drop 24).take 24).all (fun c => isCode c || c.before args0 about1) = true := by decide +kernel
set_option maxRecDepth 65536 in
theorem w_t3 : (((words1.drop 24).drop 24).take 24).all (fun c => isCode c || c.before args0 about1) = true := by decide +kernel
set_option maxRecDepth 65536 in
theorem w_t4 : (((words1.drop 24).drop 24).drop 24).all (fun c => isCode c || c.before args0 about1) = true := by decide +kernel
theorem w_tables : (allAtoms (Jvm.Cond.code x code maxLocals ret :: tables_1)).before args0 about1 = true := by
  rw [allAtoms_all]
  show words1.all (fun c => c.before args0 about1) = true
  refine all_split ?_ w_codes
  rw [← List.take_append_drop 24 words1, List.all_append, w_t1, ← List.take_append_drop 24 (words1.drop 24), List.all_append, w_t2, ← List.take_append_drop 24 ((words1.drop 24).drop 24), List.all_append, w_t3, w_t4]
  rfl
set_option maxRecDepth 65536 in
theorem w_rest : rest_1_c.before args0 about1 = true := by decide +kernel
set_option maxRecDepth 65536 in
theorem w_case : (Jvm.Cond.and given_1 narrow_1).before args0 about1 = true := by decide +kernel
theorem w_applies : (headSpec (Jvm.Cond.code x code maxLocals ret :: tables_1) room_1).applies x e0.platform about1 = true :=
  (Spec.applies_iff w_frames).mpr ⟨w_running, w_runnable, w_alone, w_named, w_hears, w_ripe, w_room, w_tables⟩
theorem atStart : AtStart classFile x code maxLocals ret World_1 tables_1 room_1 Calls_1 rest_1 Pre_1 launch0 p0 e0 about1 theMethod args0 below0 :=
  ⟨lists_1, trivial, launch0.admits_env _ _ _, launch0.least_env, fairChoices_fair.cas, fairChoices_fair.clock, w_frames, w_args, w_heap, w_applies, trivial, w_rest, w_case⟩
end start1
theorem witness_1 : WitnessClaimed_1 := ⟨start1.p0, start1.e0, start1.about1, start1.theMethod, start1.args0, start1.below0, start1.atStart⟩
end Jvm.Pilot.@@N@@
