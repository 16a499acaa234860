import JvmDerived
import JvmDerived.Pilot.@@N@@Statement
import JvmDerived.Pilot.@@N@@Code
set_option linter.unusedVariables false
set_option linter.unusedSimpArgs false
namespace Jvm.Pilot.@@N@@
open Jvm Jvm.ClassFile Sem Op Lib Jvm.Free Jvm.Stand Jvm.LawKit Jvm.RoadKit Bundle Jvm.Pilot.@@N@@.Jvm.D
section Own
variable {p : Program} {l : Launch} {e : Env} {R : Room} {s : State} {m : MethodId} {args : Array Value} {below : List Frame} {meth : Method} {c : Code} {T T' : State} {locs : List Loc} {cells slots : Nat}
/-- from T with the frame f on top the method comes to its end; what it returns, the heap and the places written answer Q; at most C cells and N slots are new -/
def own_Fin (p : Program) (e : Env) (below : List Frame) (s : State) (C N : Nat) (Q : Option Value → Heap → List Loc → Prop) (T : State) (f : JFrame) : Prop :=
  ∃ s₂ o, Steps p.tables e below (T.setTop f) s₂ ∧ s₂.status = .running ∧ Ended s₂ below o ∧ ∃ v L, o = .returned v ∧ Q v s₂.heap L ∧ FrameEnd s o s₂ L C N
variable {C N : Nat} {Q : Option Value → Heap → List Loc → Prop} {f f' : JFrame}
theorem own_by (h : ∀ t, Steps p.tables e below (T'.setTop f') t → Steps p.tables e below (T.setTop f) t) (k : own_Fin p e below s C N Q T' f') : own_Fin p e below s C N Q T f := by
  obtain ⟨s2, o, h1, h2⟩ := k
  exact ⟨s2, o, h _ h1, h2⟩
theorem own_start (q : f = f') (k : own_Fin p e below s C N Q T f') : ∃ s₂ o, Steps p.tables e below (T.setTop f) s₂ ∧ s₂.status = .running ∧ Ended s₂ below o ∧ ∃ v L, o = .returned v ∧ Q v s₂.heap L ∧ FrameEnd s o s₂ L C N := by
  subst q; exact k
theorem own_leaf (X : Stand p l e R s m args below meth c T locs cells slots) (hlk : meth.locks = false) {v : Option Value} (hv : meth.sig.returnType = none → v = none)
    (hs : ∀ fs, (∀ (f : JFrame) (acts : List Action), f.method = m → f.locked = none → f.entered = [] → (doReturn e (T.setTop f) acts v).1 = T.setFrames fs) → Steps p.tables e below (T.setTop f) (T.setFrames fs))
    (hQ : Q v T.heap locs) (hc : cells ≤ C) (hn : slots ≤ N) : own_Fin p e below s C N Q T f := by
  obtain ⟨fs, hr, hrun, hended, hW, hsame⟩ := X.leave (v := v) hv hlk
  exact ⟨_, _, hs fs hr, hrun, hended, _, _, rfl, hQ, ⟨_, rfl⟩, hW, hsame.mono hc hn⟩
theorem own_retV (X : Stand p l e R s m args below meth c T locs cells slots) (hx : p.tables.exec = Jvm.exec) (hlk : meth.locks = false) {pc : Nat} {Ls : Array Slot} (hret : meth.sig.returnType = none) (hd : decode c.code pc = .ok (.return_, 1))
    (hQ : Q none T.heap locs) (hc : cells ≤ C) (hn : slots ≤ N) : own_Fin p e below s C N Q T (mkF m pc Ls []) :=
  own_leaf X hlk (fun _ => rfl) (fun fs hr => X.returnOut hx hret hd hr) hQ hc hn
theorem own_retZ (X : Stand p l e R s m args below meth c T locs cells slots) (hx : p.tables.exec = Jvm.exec) (hlk : meth.locks = false) {pc : Nat} {Ls : Array Slot} {z : Int32} {t : FieldType} {rest : List Value} (hret : meth.sig.returnType = some t) (ht : t = .boolean ∨ t = .byte ∨ t = .char ∨ t = .short) (hd : decode c.code pc = .ok (.ireturn, 1))
    (hQ : Q (some (.int (nar t z))) T.heap locs) (hc : cells ≤ C) (hn : slots ≤ N) : own_Fin p e below s C N Q T (mkF m pc Ls (.int z :: rest)) :=
  own_leaf X hlk (fun h => by rw [hret] at h; cases h) (fun fs hr => retN X hx hret ht hd hr) hQ hc hn
theorem own_retO (X : Stand p l e R s m args below meth c T locs cells slots) (hx : p.tables.exec = Jvm.exec) (hlk : meth.locks = false) {pc : Nat} {Ls : Array Slot} {w : Value} {t : FieldType} {i : Instr} {rest : List Value} (hret : meth.sig.returnType = some t) (hn' : narrow t w = w)
    (hi : (i = .ireturn ∧ (t = .int ∨ t = .boolean ∨ t = .byte ∨ t = .char ∨ t = .short) ∧ ∃ z, w = .int z) ∨ (i = .lreturn ∧ t = .long ∧ ∃ z, w = .long z) ∨ (i = .dreturn ∧ t = .double ∧ ∃ z, w = .double z) ∨ (i = .freturn ∧ t = .float ∧ ∃ z, w = .float z) ∨ (i = .areturn ∧ t.isReference = true ∧ w.isRef = true))
    (hd : decode c.code pc = .ok (i, 1)) (hQ : Q (some w) T.heap locs) (hc : cells ≤ C) (hn : slots ≤ N) : own_Fin p e below s C N Q T (mkF m pc Ls (w :: rest)) :=
  own_leaf X hlk (fun h => by rw [hret] at h; cases h) (fun fs hr => retOut X hx hret hn' hi hd hr) hQ hc hn
theorem own_retI (X : Stand p l e R s m args below meth c T locs cells slots) (hx : p.tables.exec = Jvm.exec) (hlk : meth.locks = false) {pc : Nat} {Ls : Array Slot} {z : Int32} {rest : List Value} (hret : meth.sig.returnType = some .int) (hd : decode c.code pc = .ok (.ireturn, 1))
    (hQ : Q (some (.int z)) T.heap locs) (hc : cells ≤ C) (hn : slots ≤ N) : own_Fin p e below s C N Q T (mkF m pc Ls (.int z :: rest)) :=
  own_retO X hx hlk hret rfl (Or.inl ⟨rfl, Or.inl rfl, _, rfl⟩) hd hQ hc hn
theorem own_retJ (X : Stand p l e R s m args below meth c T locs cells slots) (hx : p.tables.exec = Jvm.exec) (hlk : meth.locks = false) {pc : Nat} {Ls : Array Slot} {z : Int64} {rest : List Value} (hret : meth.sig.returnType = some .long) (hd : decode c.code pc = .ok (.lreturn, 1))
    (hQ : Q (some (.long z)) T.heap locs) (hc : cells ≤ C) (hn : slots ≤ N) : own_Fin p e below s C N Q T (mkF m pc Ls (.long z :: rest)) :=
  own_retO X hx hlk hret rfl (Or.inr (Or.inl ⟨rfl, rfl, _, rfl⟩)) hd hQ hc hn
theorem own_retA (X : Stand p l e R s m args below meth c T locs cells slots) (hx : p.tables.exec = Jvm.exec) (hlk : meth.locks = false) {pc : Nat} {Ls : Array Slot} {w : Value} {t : FieldType} {rest : List Value} (hret : meth.sig.returnType = some t) (hr : t.isReference = true) (hn' : narrow t w = w) (hw : w.isRef = true) (hd : decode c.code pc = .ok (.areturn, 1))
    (hQ : Q (some w) T.heap locs) (hc : cells ≤ C) (hn : slots ≤ N) : own_Fin p e below s C N Q T (mkF m pc Ls (w :: rest)) :=
  own_retO X hx hlk hret hn' (Or.inr (Or.inr (Or.inr (Or.inr ⟨rfl, hr, hw⟩)))) hd hQ hc hn
theorem own_mvM {Z : State} {a0 : Array Value} {own host : String} {y : MethodName} {index : Nat} (hZ : Z.Warmed39 s.vm) (w : (Jvm.Cond.methodLinkNest own index y host).before a0 Z = true) : (Jvm.Cond.methodLinkNest own index y host).before args s = true := (Jvm.Cond.methodLinkNest_wide hZ w :)
/-- a room by its four numbers -/
abbrev own_R (f c s l : Nat) : Room := { frames := f, cells := c, slots := s, locals := l }
/-- the contract's form: called with A at a heap h0 it returns, and Q holds of what it returns, the heap and the places written -/
abbrev own_Met (l : Launch) (Z : State) (y : MethodName) (code : ByteArray) (ml : Nat) (ret : Option FieldType) (ws : List Jvm.Cond) (R : Room) (A : Array Value) (h0 : Heap) (Q : Option Value → Heap → List Loc → Prop) : Prop :=
  MetFree l y (head1 (Jvm.Cond.code y code ml ret :: ws) R) (fun a U => a = A ∧ Z.Warmed39 U.vm ∧ U.heap = h0) (fun _ _ _ _ _ => True) (fun _ U o U' => ∃ v L, o = .returned v ∧ Q v U'.heap L ∧ FrameEnd U o U' L R.cells R.slots)
theorem own_enter {Z : State} {y : MethodName} {code : ByteArray} {ml : Nat} {ret : Option FieldType} {ws : List Jvm.Cond} {A : Array Value} {h0 : Heap} {f0 : MethodId → JFrame} (n0 : Nat) (hpn : plainName y.cls = true) (hef : ∀ m, entryFrame m A ml = f0 m)
    (H : ∀ (p : Program) (e : Env) (s : State) (m : MethodId) (below : List Frame) (meth : Method) (c : Code) (s₁ : State), p.tables.exec = Jvm.exec → c.code = code → meth.locks = false → c.maxLocals = ml → meth.sig.returnType = ret → s.vm.findClass y.cls = some m.cls → meth.name = y.name →
      Z.Warmed39 s.vm → Stand p l e R s m A below meth c s₁ [] 0 0 → s₁.heap = h0 → Fr n0 [] → own_Fin p e below s R.cells R.slots Q s₁ (f0 m)) : own_Met l Z y code ml ret ws R A h0 Q := by
  refine MetFree.of_bodySF (plainFor_of_name hpn) hisR ?_
  intro p e s m args below meth c s₁ Bd hml hP _
  obtain ⟨rfl, hZ, hh⟩ := hP
  have q := H p e s m below meth c s₁ Bd.exec Bd.bytes Bd.notSynchronized hml Bd.returns (findClass_of_methodNamed Bd.named) (name_of_methodNamed Bd.named Bd.method).1 hZ (Stand.of_body Bd) (by rw [← hh, Bd.state]; rfl) (Fr.nil n0)
  rw [hef m]
  exact q
end Own
section OwnW
variable {p : Program} {l : Launch} {e : Env} {R : Room} {s : State} {vm0 : Vm} {k0 : Nat} {m : MethodId} {args : Array Value} {below : List Frame} {meth : Method} {c : Code} {T T' : State} {locs : List Loc} {cells slots : Nat}
/-- as own_Fin, the end said by the wide word: String constants may have been interned meanwhile -/
def own_FinW (p : Program) (e : Env) (below : List Frame) (s : State) (C N : Nat) (Q : Option Value → Heap → List Loc → Prop) (T : State) (f : JFrame) : Prop :=
  ∃ s₂ o, Steps p.tables e below (T.setTop f) s₂ ∧ s₂.status = .running ∧ Ended s₂ below o ∧ ∃ v L, o = .returned v ∧ Q v s₂.heap L ∧ ReturnedEndW s o s₂ L C N
variable {C N : Nat} {Q : Option Value → Heap → List Loc → Prop} {f f' : JFrame}
theorem own_byW (h : ∀ t, Steps p.tables e below (T'.setTop f') t → Steps p.tables e below (T.setTop f) t) (k : own_FinW p e below s C N Q T' f') : own_FinW p e below s C N Q T f := by
  obtain ⟨s2, o, h1, h2⟩ := k
  exact ⟨s2, o, h _ h1, h2⟩
theorem own_startW (q : f = f') (k : own_FinW p e below s C N Q T f') : ∃ s₂ o, Steps p.tables e below (T.setTop f) s₂ ∧ s₂.status = .running ∧ Ended s₂ below o ∧ ∃ v L, o = .returned v ∧ Q v s₂.heap L ∧ ReturnedEndW s o s₂ L C N := by
  subst q; exact k
theorem own_endW {t : State} {o : Outcome} {L : List Loc} (h : ReturnedEndW s o t L cells slots) (hc : cells ≤ C) (hn : slots ≤ N) : ReturnedEndW s o t L C N :=
  ⟨h.1, h.2.1, h.2.2.1, h.2.2.2.mono hc hn⟩
theorem own_leafW (X : Stand p l e R (s.setVm vm0) m args below meth c T locs cells slots) (hS : s.Since vm0 k0) (hk : k0 ≤ T.heap.size) (hlk : meth.locks = false) {v : Option Value} (hv : meth.sig.returnType = none → v = none)
    (hs : ∀ fs, (∀ (f : JFrame) (acts : List Action), f.method = m → f.locked = none → f.entered = [] → (doReturn e (T.setTop f) acts v).1 = T.setFrames fs) → Steps p.tables e below (T.setTop f) (T.setFrames fs))
    (hQ : Q v T.heap locs) (hc : cells ≤ C) (hn : slots ≤ N) : own_FinW p e below s C N Q T f := by
  obtain ⟨fs, hr, hrun, hended, hE⟩ := X.leaveW hS hk (v := v) hv hlk
  exact ⟨_, _, hs fs hr, hrun, hended, _, _, rfl, hQ, own_endW hE hc hn⟩
theorem own_retVW (X : Stand p l e R (s.setVm vm0) m args below meth c T locs cells slots) (hS : s.Since vm0 k0) (hk : k0 ≤ T.heap.size) (hx : p.tables.exec = Jvm.exec) (hlk : meth.locks = false) {pc : Nat} {Ls : Array Slot} (hret : meth.sig.returnType = none) (hd : decode c.code pc = .ok (.return_, 1))
    (hQ : Q none T.heap locs) (hc : cells ≤ C) (hn : slots ≤ N) : own_FinW p e below s C N Q T (mkF m pc Ls []) :=
  own_leafW X hS hk hlk (fun _ => rfl) (fun fs hr => X.returnOut hx hret hd hr) hQ hc hn
theorem own_retZW (X : Stand p l e R (s.setVm vm0) m args below meth c T locs cells slots) (hS : s.Since vm0 k0) (hk : k0 ≤ T.heap.size) (hx : p.tables.exec = Jvm.exec) (hlk : meth.locks = false) {pc : Nat} {Ls : Array Slot} {z : Int32} {t : FieldType} {rest : List Value} (hret : meth.sig.returnType = some t) (ht : t = .boolean ∨ t = .byte ∨ t = .char ∨ t = .short) (hd : decode c.code pc = .ok (.ireturn, 1))
    (hQ : Q (some (.int (nar t z))) T.heap locs) (hc : cells ≤ C) (hn : slots ≤ N) : own_FinW p e below s C N Q T (mkF m pc Ls (.int z :: rest)) :=
  own_leafW X hS hk hlk (fun h => by rw [hret] at h; cases h) (fun fs hr => retN X hx hret ht hd hr) hQ hc hn
theorem own_retOW (X : Stand p l e R (s.setVm vm0) m args below meth c T locs cells slots) (hS : s.Since vm0 k0) (hk : k0 ≤ T.heap.size) (hx : p.tables.exec = Jvm.exec) (hlk : meth.locks = false) {pc : Nat} {Ls : Array Slot} {w : Value} {t : FieldType} {i : Instr} {rest : List Value} (hret : meth.sig.returnType = some t) (hn' : narrow t w = w)
    (hi : (i = .ireturn ∧ (t = .int ∨ t = .boolean ∨ t = .byte ∨ t = .char ∨ t = .short) ∧ ∃ z, w = .int z) ∨ (i = .lreturn ∧ t = .long ∧ ∃ z, w = .long z) ∨ (i = .dreturn ∧ t = .double ∧ ∃ z, w = .double z) ∨ (i = .freturn ∧ t = .float ∧ ∃ z, w = .float z) ∨ (i = .areturn ∧ t.isReference = true ∧ w.isRef = true))
    (hd : decode c.code pc = .ok (i, 1)) (hQ : Q (some w) T.heap locs) (hc : cells ≤ C) (hn : slots ≤ N) : own_FinW p e below s C N Q T (mkF m pc Ls (w :: rest)) :=
  own_leafW X hS hk hlk (fun h => by rw [hret] at h; cases h) (fun fs hr => retOut X hx hret hn' hi hd hr) hQ hc hn
theorem own_retIW (X : Stand p l e R (s.setVm vm0) m args below meth c T locs cells slots) (hS : s.Since vm0 k0) (hk : k0 ≤ T.heap.size) (hx : p.tables.exec = Jvm.exec) (hlk : meth.locks = false) {pc : Nat} {Ls : Array Slot} {z : Int32} {rest : List Value} (hret : meth.sig.returnType = some .int) (hd : decode c.code pc = .ok (.ireturn, 1))
    (hQ : Q (some (.int z)) T.heap locs) (hc : cells ≤ C) (hn : slots ≤ N) : own_FinW p e below s C N Q T (mkF m pc Ls (.int z :: rest)) :=
  own_retOW X hS hk hx hlk hret rfl (Or.inl ⟨rfl, Or.inl rfl, _, rfl⟩) hd hQ hc hn
theorem own_retAW (X : Stand p l e R (s.setVm vm0) m args below meth c T locs cells slots) (hS : s.Since vm0 k0) (hk : k0 ≤ T.heap.size) (hx : p.tables.exec = Jvm.exec) (hlk : meth.locks = false) {pc : Nat} {Ls : Array Slot} {w : Value} {t : FieldType} {rest : List Value} (hret : meth.sig.returnType = some t) (hr : t.isReference = true) (hn' : narrow t w = w) (hw : w.isRef = true) (hd : decode c.code pc = .ok (.areturn, 1))
    (hQ : Q (some w) T.heap locs) (hc : cells ≤ C) (hn : slots ≤ N) : own_FinW p e below s C N Q T (mkF m pc Ls (w :: rest)) :=
  own_retOW X hS hk hx hlk hret hn' (Or.inr (Or.inr (Or.inr (Or.inr ⟨rfl, hr, hw⟩)))) hd hQ hc hn
end OwnW
section OwnH
variable {p : Program} {l : Launch} {e : Env} {R : Room} {s Z : State} {EL : List (String × Nat)} {h0 : Heap} {vm0 : Vm} {k0 : Nat} {m : MethodId} {args : Array Value} {below : List Frame} {meth : Method} {c : Code} {T T' : State} {locs : List Loc} {cells slots : Nat}
/-- as own_FinW; and the constants of EL are held at the end as at the start -/
def own_FinH (p : Program) (e : Env) (below : List Frame) (s Z : State) (EL : List (String × Nat)) (h0 : Heap) (C N : Nat) (Q : Option Value → Heap → List Loc → Prop) (T : State) (f : JFrame) : Prop :=
  ∃ s₂ o, Steps p.tables e below (T.setTop f) s₂ ∧ s₂.status = .running ∧ Ended s₂ below o ∧ ∃ v L, o = .returned v ∧ Q v s₂.heap L ∧ CHr Z EL s.vm h0 s₂.vm s₂.heap ∧ ReturnedEndW s o s₂ L C N
variable {C N : Nat} {Q : Option Value → Heap → List Loc → Prop} {f f' : JFrame}
theorem own_byH (h : ∀ t, Steps p.tables e below (T'.setTop f') t → Steps p.tables e below (T.setTop f) t) (k : own_FinH p e below s Z EL h0 C N Q T' f') : own_FinH p e below s Z EL h0 C N Q T f := by
  obtain ⟨s2, o, h1, h2⟩ := k
  exact ⟨s2, o, h _ h1, h2⟩
theorem own_startH (hh : s.heap = h0) (q : f = f') (k : own_FinH p e below s Z EL h0 C N Q T f') : ∃ s₂ o, Steps p.tables e below (T.setTop f) s₂ ∧ s₂.status = .running ∧ Ended s₂ below o ∧ ∃ v L, o = .returned v ∧ Q v s₂.heap L ∧ CHr Z EL s.vm s.heap s₂.vm s₂.heap ∧ ReturnedEndW s o s₂ L C N := by
  subst q hh; exact k
theorem own_leafH (X : Stand p l e R (s.setVm vm0) m args below meth c T locs cells slots) (hS : s.Since vm0 k0) (hk : k0 ≤ T.heap.size) (hC : CHr Z EL s.vm h0 T.vm T.heap) (hlk : meth.locks = false) {v : Option Value} (hv : meth.sig.returnType = none → v = none)
    (hs : ∀ fs, (∀ (f : JFrame) (acts : List Action), f.method = m → f.locked = none → f.entered = [] → (doReturn e (T.setTop f) acts v).1 = T.setFrames fs) → Steps p.tables e below (T.setTop f) (T.setFrames fs))
    (hQ : Q v T.heap locs) (hc : cells ≤ C) (hn : slots ≤ N) : own_FinH p e below s Z EL h0 C N Q T f := by
  obtain ⟨fs, hr, hrun, hended, hE⟩ := X.leaveW hS hk (v := v) hv hlk
  exact ⟨_, _, hs fs hr, hrun, hended, _, _, rfl, hQ, hC, own_endW hE hc hn⟩
theorem own_retVH (X : Stand p l e R (s.setVm vm0) m args below meth c T locs cells slots) (hS : s.Since vm0 k0) (hk : k0 ≤ T.heap.size) (hC : CHr Z EL s.vm h0 T.vm T.heap) (hx : p.tables.exec = Jvm.exec) (hlk : meth.locks = false) {pc : Nat} {Ls : Array Slot} (hret : meth.sig.returnType = none) (hd : decode c.code pc = .ok (.return_, 1))
    (hQ : Q none T.heap locs) (hc : cells ≤ C) (hn : slots ≤ N) : own_FinH p e below s Z EL h0 C N Q T (mkF m pc Ls []) :=
  own_leafH X hS hk hC hlk (fun _ => rfl) (fun fs hr => X.returnOut hx hret hd hr) hQ hc hn
theorem own_retZH (X : Stand p l e R (s.setVm vm0) m args below meth c T locs cells slots) (hS : s.Since vm0 k0) (hk : k0 ≤ T.heap.size) (hC : CHr Z EL s.vm h0 T.vm T.heap) (hx : p.tables.exec = Jvm.exec) (hlk : meth.locks = false) {pc : Nat} {Ls : Array Slot} {z : Int32} {t : FieldType} {rest : List Value} (hret : meth.sig.returnType = some t) (ht : t = .boolean ∨ t = .byte ∨ t = .char ∨ t = .short) (hd : decode c.code pc = .ok (.ireturn, 1))
    (hQ : Q (some (.int (nar t z))) T.heap locs) (hc : cells ≤ C) (hn : slots ≤ N) : own_FinH p e below s Z EL h0 C N Q T (mkF m pc Ls (.int z :: rest)) :=
  own_leafH X hS hk hC hlk (fun h => by rw [hret] at h; cases h) (fun fs hr => retN X hx hret ht hd hr) hQ hc hn
theorem own_retAH (X : Stand p l e R (s.setVm vm0) m args below meth c T locs cells slots) (hS : s.Since vm0 k0) (hk : k0 ≤ T.heap.size) (hC : CHr Z EL s.vm h0 T.vm T.heap) (hx : p.tables.exec = Jvm.exec) (hlk : meth.locks = false) {pc : Nat} {Ls : Array Slot} {w : Value} {t : FieldType} {rest : List Value} (hret : meth.sig.returnType = some t) (hr : t.isReference = true) (hn' : narrow t w = w) (hw : w.isRef = true) (hd : decode c.code pc = .ok (.areturn, 1))
    (hQ : Q (some w) T.heap locs) (hc : cells ≤ C) (hn : slots ≤ N) : own_FinH p e below s Z EL h0 C N Q T (mkF m pc Ls (w :: rest)) :=
  own_leafH X hS hk hC hlk (fun h => by rw [hret] at h; cases h) (fun fs hr' => retOut X hx hret hn' (Or.inr (Or.inr (Or.inr (Or.inr ⟨rfl, hr, hw⟩)))) hd hr') hQ hc hn
end OwnH
theorem own_vi {a b : Int32} (h : a = b) : some (Value.int a) = some (Value.int b) := h ▸ rfl
theorem own_wS {a0 : Array Value} {Z : State} (hw : ∀ d ∈ tables_1, d.before a0 Z = true) : ∀ a ∈ Bundle.stringAtoms, a.before a0 Z = true := fun d hd => hw d ((by decide +kernel : ∀ d ∈ Bundle.stringAtoms, d ∈ tables_1) d hd)
theorem own_EW {a0 : Array Value} {Z : State} (hw : ∀ d ∈ tables_1, d.before a0 Z = true) : EW Z a0 consts_1 := (EW.cons (hw _ (List.mem_of_getElem? (i := 52) rfl)) (by decide) (EW.cons (hw _ (List.mem_of_getElem? (i := 16) rfl)) (by decide) (EW.cons (hw _ (List.mem_of_getElem? (i := 84) rfl)) (by decide) EW.nil)))
theorem own_nf {s : State} {args : Array Value} {C : String} {x y y' : MethodName} (hsel : (Cond.selects C x y).before args s = true) (h : y.cls = y'.cls) : NotFace s y' := fun r0 h0 => by
  obtain ⟨c2, r2, m2, q1, q2, q3, q4, kP, hkP, hkPi⟩ := Cond.selects_spec hsel
  have e1 := findClass_of_methodNamed h0
  have e2 := findClass_of_methodNamed q3
  rw [h] at e2
  have e := Option.some.inj (e1.symm.trans e2)
  exact ⟨kP, by rw [e]; exact hkP, hkPi⟩
theorem own_len {args : Array Value} {Z : State} {t : Term} {a : Addr} {c : Cell} {ty : FieldType} {n : Int32} (et : t.eval args Z none [] Z = some (.ref a)) (A : Arr Z Z.heap a c ty) (eL : (Term.length t).eval args Z none [] Z = some (.int n)) : c.slots.size < 2 ^ 31 ∧ c.slots.size.toInt32 = n := by
  have ha := A.fin (Vm.Alike.refl _)
  by_cases hl : c.slots.size < 2 ^ 31
  · have q := (len_f et ha hl).symm.trans eL
    exact ⟨hl, Value.int.inj (Option.some.inj q)⟩
  · simp [Term.eval, et, ha, hl] at eL
theorem own_eli {args : Array Value} {Z : State} {t : Term} {a : Addr} {cl : Cell} {j x : Int32} (et : t.eval args Z none [] Z = some (.ref a)) (hc : Z.heap[a]? = some cl) (h : (Cond.eq (.elem t (.int j)) (.int x)).value args Z none Z [] = some true) : cl.slots[j.toNatClampNeg]? = some (.int x) := (elem_in (eqv_i (Term.int_eval x) h) et (Term.int_eval j) hc).2
theorem own_eqR {args : Array Value} {Z : State} {t u : Term} {x : Addr} (eu : u.eval args Z none [] Z = some (.ref x)) (h : (Cond.eq t u).value args Z none Z [] = some true) : t.eval args Z none [] Z = some (.ref x) := by
  obtain ⟨v, y, e1, e2, k1, k2⟩ := cmp_v (Or.inl h)
  cases eu.symm.trans e2
  have e : v = .ref x := gotT (eq_R e1 eu (by cases v <;> first | rfl | exact k1.1 | (obtain ⟨_, z⟩ := k1; cases z)) rfl) h
  rw [e] at e1
  exact e1
theorem own_pn1 : plainName "com/example/lithe_checker/lithechecker/task/DataModel" = true := by first | (simp [plainName, overriddenIn]; done) | decide +kernel
theorem d2_0 : decode prog_107_method_4_code 0 = .ok (.aload_n 0, 1) := by decide +kernel
theorem d2_1 : decode prog_107_method_4_code 1 = .ok (.getfield 29, 3) := by decide +kernel
theorem d2_4 : decode prog_107_method_4_code 4 = .ok (.ireturn, 1) := by decide +kernel
theorem ef_rmLB (m : MethodId) (x0 : Addr) : entryFrame m #[(.ref x0)] 1 = mkF m 0 #[.val (.ref x0)] [] := by first | (simp [entryFrame, mkF, argsToLocals, Value.category]; done) | rfl
def own_QrmLB (c1 : Int32) (h0 : Heap) (n0 : Nat) (v : Option Value) (h : Heap) (L : List Loc) : Prop := v = some (.int c1) ∧ Fr n0 L ∧ h = h0
set_option maxRecDepth 65536 in
set_option maxHeartbeats 40000000 in
theorem rmLB (l : Launch) (Z : State) (a0 : Array Value) (hw : ∀ d ∈ tables_1, d.before a0 Z = true) (ws : List Jvm.Cond) (a1 : Addr) (c1 : Int32) (h0 : Heap) (n0 : Nat) (Z0 : n0 ≤ h0.size) (F1 : Fld Z h0 a1 "com/example/lithe_checker/lithechecker/task/DataModel" "longBits" "I" (.int c1)) : own_Met l Z (⟨"com/example/lithe_checker/lithechecker/task/DataModel", "longBits", "()I"⟩ : MethodName) prog_107_method_4_code 1 (some .int) ws (own_R 0 0 0 0) #[(.ref a1)] h0 (own_QrmLB c1 h0 n0) := by
  refine own_enter n0 own_pn1 (fun m => ef_rmLB m a1 ) (fun p e s m below meth c s₁ hx hby hlk hml hret hown hnm hZ X0 e0 N0 => ?_)
  show own_Fin p e below s _ _ _ s₁ (mkF m 0 #[.val (.ref a1)] [])
  refine own_by (fun _ k => XS.aloadN X0.here hx rfl (hb hby d2_0) rfl rfl k) ?_
  show own_Fin p e below s _ _ _ s₁ (mkF m 1 #[.val (.ref a1)] [(.ref a1)])
  obtain ⟨T1, X1, e1, st1⟩ := getF X0 hx hZ hown (host := "") (Or.inl (hw _ (List.mem_of_getElem? (i := 12) rfl))) Via.refl e0 F1 (g := (mkF m 1 #[.val (.ref a1)] [(.ref a1)])) rfl rfl (hb hby d2_1)
  refine own_by (fun _ k => st1 _ k) ?_
  show own_Fin p e below s _ _ _ T1 (mkF m 4 #[.val (.ref a1)] [(.int c1)])
  exact own_retI X1 hx hlk hret (hb hby d2_4) ⟨rfl, N0, e1⟩ (by decide) (by decide)
theorem own_pn6 : plainName "com/example/lithe_checker/lithechecker/c/CType$IntegerType" = true := by first | (simp [plainName, overriddenIn]; done) | decide +kernel
theorem d3_0 : decode prog_8_method_2_code 0 = .ok (.aload_n 0, 1) := by decide +kernel
theorem d3_1 : decode prog_8_method_2_code 1 = .ok (.getfield 17, 3) := by decide +kernel
theorem d3_4 : decode prog_8_method_2_code 4 = .ok (.ireturn, 1) := by decide +kernel
theorem ef_rmB (m : MethodId) (x0 : Addr) : entryFrame m #[(.ref x0)] 1 = mkF m 0 #[.val (.ref x0)] [] := by first | (simp [entryFrame, mkF, argsToLocals, Value.category]; done) | rfl
def own_QrmB (c1 : Int32) (h0 : Heap) (n0 : Nat) (v : Option Value) (h : Heap) (L : List Loc) : Prop := v = some (.int c1) ∧ Fr n0 L ∧ h = h0
set_option maxRecDepth 65536 in
set_option maxHeartbeats 40000000 in
theorem rmB (l : Launch) (Z : State) (a0 : Array Value) (hw : ∀ d ∈ tables_1, d.before a0 Z = true) (ws : List Jvm.Cond) (a1 : Addr) (c1 : Int32) (h0 : Heap) (n0 : Nat) (Z0 : n0 ≤ h0.size) (F1 : Fld Z h0 a1 "com/example/lithe_checker/lithechecker/c/CType$IntegerType" "bits" "I" (.int c1)) : own_Met l Z (⟨"com/example/lithe_checker/lithechecker/c/CType$IntegerType", "bits", "()I"⟩ : MethodName) prog_8_method_2_code 1 (some .int) ws (own_R 0 0 0 0) #[(.ref a1)] h0 (own_QrmB c1 h0 n0) := by
  refine own_enter n0 own_pn6 (fun m => ef_rmB m a1 ) (fun p e s m below meth c s₁ hx hby hlk hml hret hown hnm hZ X0 e0 N0 => ?_)
  show own_Fin p e below s _ _ _ s₁ (mkF m 0 #[.val (.ref a1)] [])
  refine own_by (fun _ k => XS.aloadN X0.here hx rfl (hb hby d3_0) rfl rfl k) ?_
  show own_Fin p e below s _ _ _ s₁ (mkF m 1 #[.val (.ref a1)] [(.ref a1)])
  obtain ⟨T2, X2, e2, st2⟩ := getF X0 hx hZ hown (host := "") (Or.inl (hw _ (List.mem_of_getElem? (i := 30) rfl))) Via.refl e0 F1 (g := (mkF m 1 #[.val (.ref a1)] [(.ref a1)])) rfl rfl (hb hby d3_1)
  refine own_by (fun _ k => st2 _ k) ?_
  show own_Fin p e below s _ _ _ T2 (mkF m 4 #[.val (.ref a1)] [(.int c1)])
  exact own_retI X2 hx hlk hret (hb hby d3_4) ⟨rfl, N0, e2⟩ (by decide) (by decide)
theorem d5_0 : decode prog_8_method_4_code 0 = .ok (.aload_n 0, 1) := by decide +kernel
theorem d5_1 : decode prog_8_method_4_code 1 = .ok (.getfield 13, 3) := by decide +kernel
theorem d5_4 : decode prog_8_method_4_code 4 = .ok (.ireturn, 1) := by decide +kernel
theorem ef_rmR (m : MethodId) (x0 : Addr) : entryFrame m #[(.ref x0)] 1 = mkF m 0 #[.val (.ref x0)] [] := by first | (simp [entryFrame, mkF, argsToLocals, Value.category]; done) | rfl
def own_QrmR (c1 : Int32) (h0 : Heap) (n0 : Nat) (v : Option Value) (h : Heap) (L : List Loc) : Prop := v = some (.int c1) ∧ Fr n0 L ∧ h = h0
set_option maxRecDepth 65536 in
set_option maxHeartbeats 40000000 in
theorem rmR (l : Launch) (Z : State) (a0 : Array Value) (hw : ∀ d ∈ tables_1, d.before a0 Z = true) (ws : List Jvm.Cond) (a1 : Addr) (c1 : Int32) (h0 : Heap) (n0 : Nat) (Z0 : n0 ≤ h0.size) (F1 : Fld Z h0 a1 "com/example/lithe_checker/lithechecker/c/CType$IntegerType" "rank" "I" (.int c1)) : own_Met l Z (⟨"com/example/lithe_checker/lithechecker/c/CType$IntegerType", "rank", "()I"⟩ : MethodName) prog_8_method_4_code 1 (some .int) ws (own_R 0 0 0 0) #[(.ref a1)] h0 (own_QrmR c1 h0 n0) := by
  refine own_enter n0 own_pn6 (fun m => ef_rmR m a1 ) (fun p e s m below meth c s₁ hx hby hlk hml hret hown hnm hZ X0 e0 N0 => ?_)
  show own_Fin p e below s _ _ _ s₁ (mkF m 0 #[.val (.ref a1)] [])
  refine own_by (fun _ k => XS.aloadN X0.here hx rfl (hb hby d5_0) rfl rfl k) ?_
  show own_Fin p e below s _ _ _ s₁ (mkF m 1 #[.val (.ref a1)] [(.ref a1)])
  obtain ⟨T3, X3, e3, st3⟩ := getF X0 hx hZ hown (host := "") (Or.inl (hw _ (List.mem_of_getElem? (i := 44) rfl))) Via.refl e0 F1 (g := (mkF m 1 #[.val (.ref a1)] [(.ref a1)])) rfl rfl (hb hby d5_1)
  refine own_by (fun _ k => st3 _ k) ?_
  show own_Fin p e below s _ _ _ T3 (mkF m 4 #[.val (.ref a1)] [(.int c1)])
  exact own_retI X3 hx hlk hret (hb hby d5_4) ⟨rfl, N0, e3⟩ (by decide) (by decide)
theorem d4_0 : decode prog_8_method_3_code 0 = .ok (.aload_n 0, 1) := by decide +kernel
theorem d4_1 : decode prog_8_method_3_code 1 = .ok (.getfield 20, 3) := by decide +kernel
theorem d4_4 : decode prog_8_method_3_code 4 = .ok (.ireturn, 1) := by decide +kernel
theorem ef_rmS1 (m : MethodId) (x0 : Addr) : entryFrame m #[(.ref x0)] 1 = mkF m 0 #[.val (.ref x0)] [] := by first | (simp [entryFrame, mkF, argsToLocals, Value.category]; done) | rfl
def own_QrmS1 (h0 : Heap) (n0 : Nat) (v : Option Value) (h : Heap) (L : List Loc) : Prop := v = some (.int (1 : Int32)) ∧ Fr n0 L ∧ h = h0
set_option maxRecDepth 65536 in
set_option maxHeartbeats 40000000 in
theorem rmS1 (l : Launch) (Z : State) (a0 : Array Value) (hw : ∀ d ∈ tables_1, d.before a0 Z = true) (ws : List Jvm.Cond) (a1 : Addr) (h0 : Heap) (n0 : Nat) (Z0 : n0 ≤ h0.size) (F1 : Fld Z h0 a1 "com/example/lithe_checker/lithechecker/c/CType$IntegerType" "signed" "Z" (.int (1 : Int32))) : own_Met l Z (⟨"com/example/lithe_checker/lithechecker/c/CType$IntegerType", "signed", "()Z"⟩ : MethodName) prog_8_method_3_code 1 (some .boolean) ws (own_R 0 0 0 0) #[(.ref a1)] h0 (own_QrmS1 h0 n0) := by
  refine own_enter n0 own_pn6 (fun m => ef_rmS1 m a1 ) (fun p e s m below meth c s₁ hx hby hlk hml hret hown hnm hZ X0 e0 N0 => ?_)
  show own_Fin p e below s _ _ _ s₁ (mkF m 0 #[.val (.ref a1)] [])
  refine own_by (fun _ k => XS.aloadN X0.here hx rfl (hb hby d4_0) rfl rfl k) ?_
  show own_Fin p e below s _ _ _ s₁ (mkF m 1 #[.val (.ref a1)] [(.ref a1)])
  obtain ⟨T4, X4, e4, st4⟩ := getF X0 hx hZ hown (host := "") (Or.inl (hw _ (List.mem_of_getElem? (i := 37) rfl))) Via.refl e0 F1 (g := (mkF m 1 #[.val (.ref a1)] [(.ref a1)])) rfl rfl (hb hby d4_1)
  refine own_by (fun _ k => st4 _ k) ?_
  show own_Fin p e below s _ _ _ T4 (mkF m 4 #[.val (.ref a1)] [(.int (1 : Int32))])
  exact own_retZ X4 hx hlk (t := .boolean) hret (by simp) (hb hby d4_4) ⟨rfl, N0, e4⟩ (by decide) (by decide)
theorem ef_rmS0 (m : MethodId) (x0 : Addr) : entryFrame m #[(.ref x0)] 1 = mkF m 0 #[.val (.ref x0)] [] := by first | (simp [entryFrame, mkF, argsToLocals, Value.category]; done) | rfl
def own_QrmS0 (h0 : Heap) (n0 : Nat) (v : Option Value) (h : Heap) (L : List Loc) : Prop := v = some (.int (0 : Int32)) ∧ Fr n0 L ∧ h = h0
set_option maxRecDepth 65536 in
set_option maxHeartbeats 40000000 in
theorem rmS0 (l : Launch) (Z : State) (a0 : Array Value) (hw : ∀ d ∈ tables_1, d.before a0 Z = true) (ws : List Jvm.Cond) (a1 : Addr) (h0 : Heap) (n0 : Nat) (Z0 : n0 ≤ h0.size) (F1 : Fld Z h0 a1 "com/example/lithe_checker/lithechecker/c/CType$IntegerType" "signed" "Z" (.int (0 : Int32))) : own_Met l Z (⟨"com/example/lithe_checker/lithechecker/c/CType$IntegerType", "signed", "()Z"⟩ : MethodName) prog_8_method_3_code 1 (some .boolean) ws (own_R 0 0 0 0) #[(.ref a1)] h0 (own_QrmS0 h0 n0) := by
  refine own_enter n0 own_pn6 (fun m => ef_rmS0 m a1 ) (fun p e s m below meth c s₁ hx hby hlk hml hret hown hnm hZ X0 e0 N0 => ?_)
  show own_Fin p e below s _ _ _ s₁ (mkF m 0 #[.val (.ref a1)] [])
  refine own_by (fun _ k => XS.aloadN X0.here hx rfl (hb hby d4_0) rfl rfl k) ?_
  show own_Fin p e below s _ _ _ s₁ (mkF m 1 #[.val (.ref a1)] [(.ref a1)])
  obtain ⟨T5, X5, e5, st5⟩ := getF X0 hx hZ hown (host := "") (Or.inl (hw _ (List.mem_of_getElem? (i := 37) rfl))) Via.refl e0 F1 (g := (mkF m 1 #[.val (.ref a1)] [(.ref a1)])) rfl rfl (hb hby d4_1)
  refine own_by (fun _ k => st5 _ k) ?_
  show own_Fin p e below s _ _ _ T5 (mkF m 4 #[.val (.ref a1)] [(.int (0 : Int32))])
  exact own_retZ X5 hx hlk (t := .boolean) hret (by simp) (hb hby d4_4) ⟨rfl, N0, e5⟩ (by decide) (by decide)
theorem own_pn20 : plainName "com/example/lithe_checker/lithechecker/c/CType" = true := by first | (simp [plainName, overriddenIn]; done) | decide +kernel
theorem d1_0 : decode prog_5_method_2_code 0 = .ok (.aload_n 0, 1) := by decide +kernel
theorem d1_1 : decode prog_5_method_2_code 1 = .ok (.invokevirtual 7, 3) := by decide +kernel
theorem own_pd23 : parseMethodDescriptor "()I" = some ⟨[], some .int⟩ := by decide +kernel
theorem d1_4 : decode prog_5_method_2_code 4 = .ok (.bipush 64, 2) := by decide +kernel
theorem d1_6 : decode prog_5_method_2_code 6 = .ok (.if_icmp .ne 7, 3) := by decide +kernel
theorem d1_9 : decode prog_5_method_2_code 9 = .ok (.iconst 1, 1) := by decide +kernel
theorem d1_10 : decode prog_5_method_2_code 10 = .ok (.goto 4, 3) := by decide +kernel
theorem d1_14 : decode prog_5_method_2_code 14 = .ok (.istore_n 2, 1) := by decide +kernel
theorem d1_15 : decode prog_5_method_2_code 15 = .ok (.iload_n 1, 1) := by decide +kernel
theorem d1_16 : decode prog_5_method_2_code 16 = .ok (.ifCond .eq 17, 3) := by decide +kernel
theorem d1_19 : decode prog_5_method_2_code 19 = .ok (.iload_n 2, 1) := by decide +kernel
theorem d1_20 : decode prog_5_method_2_code 20 = .ok (.ifCond .eq 9, 3) := by decide +kernel
theorem d1_23 : decode prog_5_method_2_code 23 = .ok (.getstatic 13, 3) := by decide +kernel
theorem d1_26 : decode prog_5_method_2_code 26 = .ok (.goto 6, 3) := by decide +kernel
theorem d1_32 : decode prog_5_method_2_code 32 = .ok (.areturn, 1) := by decide +kernel
theorem ef_rmL11 (m : MethodId) (x0 : Addr) (x1 : Int32) : entryFrame m #[(.ref x0), (.int x1)] 3 = mkF m 0 #[.val (.ref x0), .val (.int x1), .unset] [] := by first | (simp [entryFrame, mkF, argsToLocals, Value.category]; done) | rfl
def own_QrmL11 (t1 : Addr) (h0 : Heap) (n0 : Nat) (v : Option Value) (h : Heap) (L : List Loc) : Prop := v = some (.ref t1) ∧ Fr n0 L ∧ h = h0
set_option maxRecDepth 65536 in
set_option maxHeartbeats 40000000 in
theorem rmL11 (l : Launch) (Z : State) (a0 : Array Value) (hw : ∀ d ∈ tables_1, d.before a0 Z = true) (ws : List Jvm.Cond) (a1 t1 : Addr) (h0 : Heap) (n0 : Nat) (Z0 : n0 ≤ h0.size) (E_a1 : Exa Z h0 a1 "com/example/lithe_checker/lithechecker/task/DataModel") (F_lb : Fld Z h0 a1 "com/example/lithe_checker/lithechecker/task/DataModel" "longBits" "I" (.int (64 : Int32))) (S_t : Sta Z h0 "com/example/lithe_checker/lithechecker/c/CType" "LONG_64" "Lcom/example/lithe_checker/lithechecker/c/CType$IntegerType;" (.ref t1)) : own_Met l Z (⟨"com/example/lithe_checker/lithechecker/c/CType", "longType", "(Lcom/example/lithe_checker/lithechecker/task/DataModel;Z)Lcom/example/lithe_checker/lithechecker/c/CType$IntegerType;"⟩ : MethodName) prog_5_method_2_code 3 (some (.object "com/example/lithe_checker/lithechecker/c/CType$IntegerType")) ws (own_R 1 0 0 12) #[(.ref a1), (.int (1 : Int32))] h0 (own_QrmL11 t1 h0 n0) := by
  refine own_enter n0 own_pn20 (fun m => ef_rmL11 m a1 (1 : Int32) ) (fun p e s m below meth c s₁ hx hby hlk hml hret hown hnm hZ X0 e0 N0 => ?_)
  show own_Fin p e below s _ _ _ s₁ (mkF m 0 #[.val (.ref a1), .val (.int (1 : Int32)), .unset] [])
  refine own_by (fun _ k => XS.aloadN X0.here hx rfl (hb hby d1_0) rfl rfl k) ?_
  show own_Fin p e below s _ _ _ s₁ (mkF m 1 #[.val (.ref a1), .val (.int (1 : Int32)), .unset] [(.ref a1)])
  obtain ⟨cq6, kq6, q6a, q6b, q6c⟩ := isOf hZ e0 E_a1
  obtain ⟨_, _, ⟨T6, L6, k6, n6⟩, -, X6, ⟨Lc6, hQ6, l6, y6, z6⟩, st6⟩ := X0.virtualBack hx (y := (⟨"com/example/lithe_checker/lithechecker/task/DataModel", "longBits", "()I"⟩ : MethodName)) (z := (⟨"com/example/lithe_checker/lithechecker/task/DataModel", "longBits", "()I"⟩ : MethodName)) hown (mvT hZ (hw _ (List.mem_of_getElem? (i := 7) rfl))) (mvT hZ (hw _ (List.mem_of_getElem? (i := 8) rfl))) (notFace_of_selects (args := #[]) (mvT hZ (hw _ (List.mem_of_getElem? (i := 10) rfl)))) (mvT hZ (hw _ (List.mem_of_getElem? (i := 10) rfl))) (mvT hZ (hw _ (List.mem_of_getElem? (i := 9) rfl))) (by decide) (backOf (W := 0) (rmLB l Z a0 hw [] a1 (64 : Int32) h0 n0 Z0 F_lb) hZ (hw _ (List.mem_of_getElem? (i := 11) rfl)) (hw _ (List.mem_of_getElem? (i := 1) rfl)) (by decide) (by decide)) q6a q6c (g := (mkF m 1 #[.val (.ref a1), .val (.int (1 : Int32)), .unset] [(.ref a1)])) rfl (by rw [hml]; rfl) (Steps.refl _) (argsL := []) (rest := []) (lenOf own_pd23 rfl) rfl (by show 2 * 0 + _ ≤ _; exact Nat.le_of_eq rfl) (hb hby d1_1) (fun _ _ => ⟨rfl, e0, (by decide : 0 + 0 ≤ _), (by decide : 0 + 0 ≤ _)⟩)
  dsimp only [Pt.U, Pt.locs, Pt.cells, Pt.slots] at X6 l6 y6 z6 st6 hQ6
  subst l6 y6 z6
  obtain ⟨rfl, Nq6, eh6⟩ := hQ6
  have N6 := Fr.app N0 Nq6
  refine own_by (fun _ k => st6.trans k) ?_
  show own_Fin p e below s _ _ _ T6 (mkF m 4 #[.val (.ref a1), .val (.int (1 : Int32)), .unset] [(.int (64 : Int32))])
  refine own_by (fun _ k => XS.bipush X6.here hx rfl (hb hby d1_4) k) ?_
  show own_Fin p e below s _ _ _ T6 (mkF m 6 #[.val (.ref a1), .val (.int (1 : Int32)), .unset] [(.int (64 : Int32)), (.int (64 : Int32))])
  refine own_by (fun _ k => XS.icmpNo X6.here hx rfl (hb hby d1_6) rfl (teq (by decide : (64 : Int32) = (64 : Int32))).2 k) ?_
  show own_Fin p e below s _ _ _ T6 (mkF m 9 #[.val (.ref a1), .val (.int (1 : Int32)), .unset] [])
  refine own_by (fun _ k => XS.iconst X6.here hx rfl (hb hby d1_9) (XS.goto X6.here hx rfl (pc0 := 10) (pc' := 14) rfl (hb hby d1_10) (by decide) (by decide) (XS.istoreN X6.here hx rfl (hb hby d1_14) rfl (l' := #[.val (.ref a1), .val (.int (1 : Int32)), .val (.int (1 : Int32))]) rfl (XS.iloadN X6.here hx rfl (hb hby d1_15) rfl k)))) ?_
  show own_Fin p e below s _ _ _ T6 (mkF m 16 #[.val (.ref a1), .val (.int (1 : Int32)), .val (.int (1 : Int32))] [(.int (1 : Int32))])
  refine own_by (fun _ k => XS.ifNo X6.here hx rfl (hb hby d1_16) rfl ((if0 _ _).trans (feq (by decide : ¬ ((1 : Int32) = (0 : Int32)))).1) k) ?_
  show own_Fin p e below s _ _ _ T6 (mkF m 19 #[.val (.ref a1), .val (.int (1 : Int32)), .val (.int (1 : Int32))] [])
  refine own_by (fun _ k => XS.iloadN X6.here hx rfl (hb hby d1_19) rfl k) ?_
  show own_Fin p e below s _ _ _ T6 (mkF m 20 #[.val (.ref a1), .val (.int (1 : Int32)), .val (.int (1 : Int32))] [(.int (1 : Int32))])
  refine own_by (fun _ k => XS.ifNo X6.here hx rfl (hb hby d1_20) rfl ((if0 _ _).trans (feq (by decide : ¬ ((1 : Int32) = (0 : Int32)))).1) k) ?_
  show own_Fin p e below s _ _ _ T6 (mkF m 23 #[.val (.ref a1), .val (.int (1 : Int32)), .val (.int (1 : Int32))] [])
  obtain ⟨T7, X7, e7, st7⟩ := getS2 X6 hx hZ hown (host := "") (Or.inl (hw _ (List.mem_of_getElem? (i := 87) rfl))) Via.refl eh6 S_t (g := (mkF m 23 #[.val (.ref a1), .val (.int (1 : Int32)), .val (.int (1 : Int32))] [])) rfl (hb hby d1_23)
  refine own_by (fun _ k => st7 _ k) ?_
  show own_Fin p e below s _ _ _ T7 (mkF m 26 #[.val (.ref a1), .val (.int (1 : Int32)), .val (.int (1 : Int32))] [(.ref t1)])
  refine own_by (fun _ k => XS.goto X7.here hx rfl (pc0 := 26) (pc' := 32) rfl (hb hby d1_26) (by decide) (by decide) k) ?_
  show own_Fin p e below s _ _ _ T7 (mkF m 32 #[.val (.ref a1), .val (.int (1 : Int32)), .val (.int (1 : Int32))] [(.ref t1)])
  exact own_retA X7 hx hlk (t := (.object "com/example/lithe_checker/lithechecker/c/CType$IntegerType")) hret rfl rfl rfl (hb hby d1_32) ⟨rfl, N6, e7⟩ (by decide) (by decide)
theorem d1_13 : decode prog_5_method_2_code 13 = .ok (.iconst 0, 1) := by decide +kernel
theorem d1_29 : decode prog_5_method_2_code 29 = .ok (.getstatic 19, 3) := by decide +kernel
theorem ef_rmL01 (m : MethodId) (x0 : Addr) (x1 : Int32) : entryFrame m #[(.ref x0), (.int x1)] 3 = mkF m 0 #[.val (.ref x0), .val (.int x1), .unset] [] := by first | (simp [entryFrame, mkF, argsToLocals, Value.category]; done) | rfl
def own_QrmL01 (t1 : Addr) (h0 : Heap) (n0 : Nat) (v : Option Value) (h : Heap) (L : List Loc) : Prop := v = some (.ref t1) ∧ Fr n0 L ∧ h = h0
set_option maxRecDepth 65536 in
set_option maxHeartbeats 40000000 in
theorem rmL01 (l : Launch) (Z : State) (a0 : Array Value) (hw : ∀ d ∈ tables_1, d.before a0 Z = true) (ws : List Jvm.Cond) (a1 t1 : Addr) (h0 : Heap) (n0 : Nat) (Z0 : n0 ≤ h0.size) (E_a1 : Exa Z h0 a1 "com/example/lithe_checker/lithechecker/task/DataModel") (F_lb : Fld Z h0 a1 "com/example/lithe_checker/lithechecker/task/DataModel" "longBits" "I" (.int (32 : Int32))) (S_t : Sta Z h0 "com/example/lithe_checker/lithechecker/c/CType" "LONG_32" "Lcom/example/lithe_checker/lithechecker/c/CType$IntegerType;" (.ref t1)) : own_Met l Z (⟨"com/example/lithe_checker/lithechecker/c/CType", "longType", "(Lcom/example/lithe_checker/lithechecker/task/DataModel;Z)Lcom/example/lithe_checker/lithechecker/c/CType$IntegerType;"⟩ : MethodName) prog_5_method_2_code 3 (some (.object "com/example/lithe_checker/lithechecker/c/CType$IntegerType")) ws (own_R 1 0 0 12) #[(.ref a1), (.int (1 : Int32))] h0 (own_QrmL01 t1 h0 n0) := by
  refine own_enter n0 own_pn20 (fun m => ef_rmL01 m a1 (1 : Int32) ) (fun p e s m below meth c s₁ hx hby hlk hml hret hown hnm hZ X0 e0 N0 => ?_)
  show own_Fin p e below s _ _ _ s₁ (mkF m 0 #[.val (.ref a1), .val (.int (1 : Int32)), .unset] [])
  refine own_by (fun _ k => XS.aloadN X0.here hx rfl (hb hby d1_0) rfl rfl k) ?_
  show own_Fin p e below s _ _ _ s₁ (mkF m 1 #[.val (.ref a1), .val (.int (1 : Int32)), .unset] [(.ref a1)])
  obtain ⟨cq8, kq8, q8a, q8b, q8c⟩ := isOf hZ e0 E_a1
  obtain ⟨_, _, ⟨T8, L8, k8, n8⟩, -, X8, ⟨Lc8, hQ8, l8, y8, z8⟩, st8⟩ := X0.virtualBack hx (y := (⟨"com/example/lithe_checker/lithechecker/task/DataModel", "longBits", "()I"⟩ : MethodName)) (z := (⟨"com/example/lithe_checker/lithechecker/task/DataModel", "longBits", "()I"⟩ : MethodName)) hown (mvT hZ (hw _ (List.mem_of_getElem? (i := 7) rfl))) (mvT hZ (hw _ (List.mem_of_getElem? (i := 8) rfl))) (notFace_of_selects (args := #[]) (mvT hZ (hw _ (List.mem_of_getElem? (i := 10) rfl)))) (mvT hZ (hw _ (List.mem_of_getElem? (i := 10) rfl))) (mvT hZ (hw _ (List.mem_of_getElem? (i := 9) rfl))) (by decide) (backOf (W := 0) (rmLB l Z a0 hw [] a1 (32 : Int32) h0 n0 Z0 F_lb) hZ (hw _ (List.mem_of_getElem? (i := 11) rfl)) (hw _ (List.mem_of_getElem? (i := 1) rfl)) (by decide) (by decide)) q8a q8c (g := (mkF m 1 #[.val (.ref a1), .val (.int (1 : Int32)), .unset] [(.ref a1)])) rfl (by rw [hml]; rfl) (Steps.refl _) (argsL := []) (rest := []) (lenOf own_pd23 rfl) rfl (by show 2 * 0 + _ ≤ _; exact Nat.le_of_eq rfl) (hb hby d1_1) (fun _ _ => ⟨rfl, e0, (by decide : 0 + 0 ≤ _), (by decide : 0 + 0 ≤ _)⟩)
  dsimp only [Pt.U, Pt.locs, Pt.cells, Pt.slots] at X8 l8 y8 z8 st8 hQ8
  subst l8 y8 z8
  obtain ⟨rfl, Nq8, eh8⟩ := hQ8
  have N8 := Fr.app N0 Nq8
  refine own_by (fun _ k => st8.trans k) ?_
  show own_Fin p e below s _ _ _ T8 (mkF m 4 #[.val (.ref a1), .val (.int (1 : Int32)), .unset] [(.int (32 : Int32))])
  refine own_by (fun _ k => XS.bipush X8.here hx rfl (hb hby d1_4) k) ?_
  show own_Fin p e below s _ _ _ T8 (mkF m 6 #[.val (.ref a1), .val (.int (1 : Int32)), .unset] [(.int (64 : Int32)), (.int (32 : Int32))])
  refine own_by (fun _ k => XS.icmpYes X8.here hx rfl (pc0 := 6) (pc' := 13) rfl (hb hby d1_6) rfl (feq (by decide : ¬ ((32 : Int32) = (64 : Int32)))).2 (by decide) (by decide) k) ?_
  show own_Fin p e below s _ _ _ T8 (mkF m 13 #[.val (.ref a1), .val (.int (1 : Int32)), .unset] [])
  refine own_by (fun _ k => XS.iconst X8.here hx rfl (hb hby d1_13) (XS.istoreN X8.here hx rfl (hb hby d1_14) rfl (l' := #[.val (.ref a1), .val (.int (1 : Int32)), .val (.int (0 : Int32))]) rfl (XS.iloadN X8.here hx rfl (hb hby d1_15) rfl k))) ?_
  show own_Fin p e below s _ _ _ T8 (mkF m 16 #[.val (.ref a1), .val (.int (1 : Int32)), .val (.int (0 : Int32))] [(.int (1 : Int32))])
  refine own_by (fun _ k => XS.ifNo X8.here hx rfl (hb hby d1_16) rfl ((if0 _ _).trans (feq (by decide : ¬ ((1 : Int32) = (0 : Int32)))).1) k) ?_
  show own_Fin p e below s _ _ _ T8 (mkF m 19 #[.val (.ref a1), .val (.int (1 : Int32)), .val (.int (0 : Int32))] [])
  refine own_by (fun _ k => XS.iloadN X8.here hx rfl (hb hby d1_19) rfl k) ?_
  show own_Fin p e below s _ _ _ T8 (mkF m 20 #[.val (.ref a1), .val (.int (1 : Int32)), .val (.int (0 : Int32))] [(.int (0 : Int32))])
  refine own_by (fun _ k => XS.ifYes X8.here hx rfl (pc0 := 20) (pc' := 29) rfl (hb hby d1_20) rfl ((if0 _ _).trans (teq (by decide : (0 : Int32) = (0 : Int32))).1) (by decide) (by decide) k) ?_
  show own_Fin p e below s _ _ _ T8 (mkF m 29 #[.val (.ref a1), .val (.int (1 : Int32)), .val (.int (0 : Int32))] [])
  obtain ⟨T9, X9, e9, st9⟩ := getS2 X8 hx hZ hown (host := "") (Or.inl (hw _ (List.mem_of_getElem? (i := 14) rfl))) Via.refl eh8 S_t (g := (mkF m 29 #[.val (.ref a1), .val (.int (1 : Int32)), .val (.int (0 : Int32))] [])) rfl (hb hby d1_29)
  refine own_by (fun _ k => st9 _ k) ?_
  show own_Fin p e below s _ _ _ T9 (mkF m 32 #[.val (.ref a1), .val (.int (1 : Int32)), .val (.int (0 : Int32))] [(.ref t1)])
  exact own_retA X9 hx hlk (t := (.object "com/example/lithe_checker/lithechecker/c/CType$IntegerType")) hret rfl rfl rfl (hb hby d1_32) ⟨rfl, N8, e9⟩ (by decide) (by decide)
theorem d1_33 : decode prog_5_method_2_code 33 = .ok (.iload_n 2, 1) := by decide +kernel
theorem d1_34 : decode prog_5_method_2_code 34 = .ok (.ifCond .eq 9, 3) := by decide +kernel
theorem d1_37 : decode prog_5_method_2_code 37 = .ok (.getstatic 22, 3) := by decide +kernel
theorem d1_40 : decode prog_5_method_2_code 40 = .ok (.goto 6, 3) := by decide +kernel
theorem d1_46 : decode prog_5_method_2_code 46 = .ok (.areturn, 1) := by decide +kernel
theorem ef_rmL10 (m : MethodId) (x0 : Addr) (x1 : Int32) : entryFrame m #[(.ref x0), (.int x1)] 3 = mkF m 0 #[.val (.ref x0), .val (.int x1), .unset] [] := by first | (simp [entryFrame, mkF, argsToLocals, Value.category]; done) | rfl
def own_QrmL10 (t1 : Addr) (h0 : Heap) (n0 : Nat) (v : Option Value) (h : Heap) (L : List Loc) : Prop := v = some (.ref t1) ∧ Fr n0 L ∧ h = h0
set_option maxRecDepth 65536 in
set_option maxHeartbeats 40000000 in
theorem rmL10 (l : Launch) (Z : State) (a0 : Array Value) (hw : ∀ d ∈ tables_1, d.before a0 Z = true) (ws : List Jvm.Cond) (a1 t1 : Addr) (h0 : Heap) (n0 : Nat) (Z0 : n0 ≤ h0.size) (E_a1 : Exa Z h0 a1 "com/example/lithe_checker/lithechecker/task/DataModel") (F_lb : Fld Z h0 a1 "com/example/lithe_checker/lithechecker/task/DataModel" "longBits" "I" (.int (64 : Int32))) (S_t : Sta Z h0 "com/example/lithe_checker/lithechecker/c/CType" "UNSIGNED_LONG_64" "Lcom/example/lithe_checker/lithechecker/c/CType$IntegerType;" (.ref t1)) : own_Met l Z (⟨"com/example/lithe_checker/lithechecker/c/CType", "longType", "(Lcom/example/lithe_checker/lithechecker/task/DataModel;Z)Lcom/example/lithe_checker/lithechecker/c/CType$IntegerType;"⟩ : MethodName) prog_5_method_2_code 3 (some (.object "com/example/lithe_checker/lithechecker/c/CType$IntegerType")) ws (own_R 1 0 0 12) #[(.ref a1), (.int (0 : Int32))] h0 (own_QrmL10 t1 h0 n0) := by
  refine own_enter n0 own_pn20 (fun m => ef_rmL10 m a1 (0 : Int32) ) (fun p e s m below meth c s₁ hx hby hlk hml hret hown hnm hZ X0 e0 N0 => ?_)
  show own_Fin p e below s _ _ _ s₁ (mkF m 0 #[.val (.ref a1), .val (.int (0 : Int32)), .unset] [])
  refine own_by (fun _ k => XS.aloadN X0.here hx rfl (hb hby d1_0) rfl rfl k) ?_
  show own_Fin p e below s _ _ _ s₁ (mkF m 1 #[.val (.ref a1), .val (.int (0 : Int32)), .unset] [(.ref a1)])
  obtain ⟨cq10, kq10, q10a, q10b, q10c⟩ := isOf hZ e0 E_a1
  obtain ⟨_, _, ⟨T10, L10, k10, n10⟩, -, X10, ⟨Lc10, hQ10, l10, y10, z10⟩, st10⟩ := X0.virtualBack hx (y := (⟨"com/example/lithe_checker/lithechecker/task/DataModel", "longBits", "()I"⟩ : MethodName)) (z := (⟨"com/example/lithe_checker/lithechecker/task/DataModel", "longBits", "()I"⟩ : MethodName)) hown (mvT hZ (hw _ (List.mem_of_getElem? (i := 7) rfl))) (mvT hZ (hw _ (List.mem_of_getElem? (i := 8) rfl))) (notFace_of_selects (args := #[]) (mvT hZ (hw _ (List.mem_of_getElem? (i := 10) rfl)))) (mvT hZ (hw _ (List.mem_of_getElem? (i := 10) rfl))) (mvT hZ (hw _ (List.mem_of_getElem? (i := 9) rfl))) (by decide) (backOf (W := 0) (rmLB l Z a0 hw [] a1 (64 : Int32) h0 n0 Z0 F_lb) hZ (hw _ (List.mem_of_getElem? (i := 11) rfl)) (hw _ (List.mem_of_getElem? (i := 1) rfl)) (by decide) (by decide)) q10a q10c (g := (mkF m 1 #[.val (.ref a1), .val (.int (0 : Int32)), .unset] [(.ref a1)])) rfl (by rw [hml]; rfl) (Steps.refl _) (argsL := []) (rest := []) (lenOf own_pd23 rfl) rfl (by show 2 * 0 + _ ≤ _; exact Nat.le_of_eq rfl) (hb hby d1_1) (fun _ _ => ⟨rfl, e0, (by decide : 0 + 0 ≤ _), (by decide : 0 + 0 ≤ _)⟩)
  dsimp only [Pt.U, Pt.locs, Pt.cells, Pt.slots] at X10 l10 y10 z10 st10 hQ10
  subst l10 y10 z10
  obtain ⟨rfl, Nq10, eh10⟩ := hQ10
  have N10 := Fr.app N0 Nq10
  refine own_by (fun _ k => st10.trans k) ?_
  show own_Fin p e below s _ _ _ T10 (mkF m 4 #[.val (.ref a1), .val (.int (0 : Int32)), .unset] [(.int (64 : Int32))])
  refine own_by (fun _ k => XS.bipush X10.here hx rfl (hb hby d1_4) k) ?_
  show own_Fin p e below s _ _ _ T10 (mkF m 6 #[.val (.ref a1), .val (.int (0 : Int32)), .unset] [(.int (64 : Int32)), (.int (64 : Int32))])
  refine own_by (fun _ k => XS.icmpNo X10.here hx rfl (hb hby d1_6) rfl (teq (by decide : (64 : Int32) = (64 : Int32))).2 k) ?_
  show own_Fin p e below s _ _ _ T10 (mkF m 9 #[.val (.ref a1), .val (.int (0 : Int32)), .unset] [])
  refine own_by (fun _ k => XS.iconst X10.here hx rfl (hb hby d1_9) (XS.goto X10.here hx rfl (pc0 := 10) (pc' := 14) rfl (hb hby d1_10) (by decide) (by decide) (XS.istoreN X10.here hx rfl (hb hby d1_14) rfl (l' := #[.val (.ref a1), .val (.int (0 : Int32)), .val (.int (1 : Int32))]) rfl (XS.iloadN X10.here hx rfl (hb hby d1_15) rfl k)))) ?_
  show own_Fin p e below s _ _ _ T10 (mkF m 16 #[.val (.ref a1), .val (.int (0 : Int32)), .val (.int (1 : Int32))] [(.int (0 : Int32))])
  refine own_by (fun _ k => XS.ifYes X10.here hx rfl (pc0 := 16) (pc' := 33) rfl (hb hby d1_16) rfl ((if0 _ _).trans (teq (by decide : (0 : Int32) = (0 : Int32))).1) (by decide) (by decide) k) ?_
  show own_Fin p e below s _ _ _ T10 (mkF m 33 #[.val (.ref a1), .val (.int (0 : Int32)), .val (.int (1 : Int32))] [])
  refine own_by (fun _ k => XS.iloadN X10.here hx rfl (hb hby d1_33) rfl k) ?_
  show own_Fin p e below s _ _ _ T10 (mkF m 34 #[.val (.ref a1), .val (.int (0 : Int32)), .val (.int (1 : Int32))] [(.int (1 : Int32))])
  refine own_by (fun _ k => XS.ifNo X10.here hx rfl (hb hby d1_34) rfl ((if0 _ _).trans (feq (by decide : ¬ ((1 : Int32) = (0 : Int32)))).1) k) ?_
  show own_Fin p e below s _ _ _ T10 (mkF m 37 #[.val (.ref a1), .val (.int (0 : Int32)), .val (.int (1 : Int32))] [])
  obtain ⟨T11, X11, e11, st11⟩ := getS2 X10 hx hZ hown (host := "") (Or.inl (hw _ (List.mem_of_getElem? (i := 89) rfl))) Via.refl eh10 S_t (g := (mkF m 37 #[.val (.ref a1), .val (.int (0 : Int32)), .val (.int (1 : Int32))] [])) rfl (hb hby d1_37)
  refine own_by (fun _ k => st11 _ k) ?_
  show own_Fin p e below s _ _ _ T11 (mkF m 40 #[.val (.ref a1), .val (.int (0 : Int32)), .val (.int (1 : Int32))] [(.ref t1)])
  refine own_by (fun _ k => XS.goto X11.here hx rfl (pc0 := 40) (pc' := 46) rfl (hb hby d1_40) (by decide) (by decide) k) ?_
  show own_Fin p e below s _ _ _ T11 (mkF m 46 #[.val (.ref a1), .val (.int (0 : Int32)), .val (.int (1 : Int32))] [(.ref t1)])
  exact own_retA X11 hx hlk (t := (.object "com/example/lithe_checker/lithechecker/c/CType$IntegerType")) hret rfl rfl rfl (hb hby d1_46) ⟨rfl, N10, e11⟩ (by decide) (by decide)
theorem d1_43 : decode prog_5_method_2_code 43 = .ok (.getstatic 25, 3) := by decide +kernel
theorem ef_rmL00 (m : MethodId) (x0 : Addr) (x1 : Int32) : entryFrame m #[(.ref x0), (.int x1)] 3 = mkF m 0 #[.val (.ref x0), .val (.int x1), .unset] [] := by first | (simp [entryFrame, mkF, argsToLocals, Value.category]; done) | rfl
def own_QrmL00 (t1 : Addr) (h0 : Heap) (n0 : Nat) (v : Option Value) (h : Heap) (L : List Loc) : Prop := v = some (.ref t1) ∧ Fr n0 L ∧ h = h0
set_option maxRecDepth 65536 in
set_option maxHeartbeats 40000000 in
theorem rmL00 (l : Launch) (Z : State) (a0 : Array Value) (hw : ∀ d ∈ tables_1, d.before a0 Z = true) (ws : List Jvm.Cond) (a1 t1 : Addr) (h0 : Heap) (n0 : Nat) (Z0 : n0 ≤ h0.size) (E_a1 : Exa Z h0 a1 "com/example/lithe_checker/lithechecker/task/DataModel") (F_lb : Fld Z h0 a1 "com/example/lithe_checker/lithechecker/task/DataModel" "longBits" "I" (.int (32 : Int32))) (S_t : Sta Z h0 "com/example/lithe_checker/lithechecker/c/CType" "UNSIGNED_LONG_32" "Lcom/example/lithe_checker/lithechecker/c/CType$IntegerType;" (.ref t1)) : own_Met l Z (⟨"com/example/lithe_checker/lithechecker/c/CType", "longType", "(Lcom/example/lithe_checker/lithechecker/task/DataModel;Z)Lcom/example/lithe_checker/lithechecker/c/CType$IntegerType;"⟩ : MethodName) prog_5_method_2_code 3 (some (.object "com/example/lithe_checker/lithechecker/c/CType$IntegerType")) ws (own_R 1 0 0 12) #[(.ref a1), (.int (0 : Int32))] h0 (own_QrmL00 t1 h0 n0) := by
  refine own_enter n0 own_pn20 (fun m => ef_rmL00 m a1 (0 : Int32) ) (fun p e s m below meth c s₁ hx hby hlk hml hret hown hnm hZ X0 e0 N0 => ?_)
  show own_Fin p e below s _ _ _ s₁ (mkF m 0 #[.val (.ref a1), .val (.int (0 : Int32)), .unset] [])
  refine own_by (fun _ k => XS.aloadN X0.here hx rfl (hb hby d1_0) rfl rfl k) ?_
  show own_Fin p e below s _ _ _ s₁ (mkF m 1 #[.val (.ref a1), .val (.int (0 : Int32)), .unset] [(.ref a1)])
  obtain ⟨cq12, kq12, q12a, q12b, q12c⟩ := isOf hZ e0 E_a1
  obtain ⟨_, _, ⟨T12, L12, k12, n12⟩, -, X12, ⟨Lc12, hQ12, l12, y12, z12⟩, st12⟩ := X0.virtualBack hx (y := (⟨"com/example/lithe_checker/lithechecker/task/DataModel", "longBits", "()I"⟩ : MethodName)) (z := (⟨"com/example/lithe_checker/lithechecker/task/DataModel", "longBits", "()I"⟩ : MethodName)) hown (mvT hZ (hw _ (List.mem_of_getElem? (i := 7) rfl))) (mvT hZ (hw _ (List.mem_of_getElem? (i := 8) rfl))) (notFace_of_selects (args := #[]) (mvT hZ (hw _ (List.mem_of_getElem? (i := 10) rfl)))) (mvT hZ (hw _ (List.mem_of_getElem? (i := 10) rfl))) (mvT hZ (hw _ (List.mem_of_getElem? (i := 9) rfl))) (by decide) (backOf (W := 0) (rmLB l Z a0 hw [] a1 (32 : Int32) h0 n0 Z0 F_lb) hZ (hw _ (List.mem_of_getElem? (i := 11) rfl)) (hw _ (List.mem_of_getElem? (i := 1) rfl)) (by decide) (by decide)) q12a q12c (g := (mkF m 1 #[.val (.ref a1), .val (.int (0 : Int32)), .unset] [(.ref a1)])) rfl (by rw [hml]; rfl) (Steps.refl _) (argsL := []) (rest := []) (lenOf own_pd23 rfl) rfl (by show 2 * 0 + _ ≤ _; exact Nat.le_of_eq rfl) (hb hby d1_1) (fun _ _ => ⟨rfl, e0, (by decide : 0 + 0 ≤ _), (by decide : 0 + 0 ≤ _)⟩)
  dsimp only [Pt.U, Pt.locs, Pt.cells, Pt.slots] at X12 l12 y12 z12 st12 hQ12
  subst l12 y12 z12
  obtain ⟨rfl, Nq12, eh12⟩ := hQ12
  have N12 := Fr.app N0 Nq12
  refine own_by (fun _ k => st12.trans k) ?_
  show own_Fin p e below s _ _ _ T12 (mkF m 4 #[.val (.ref a1), .val (.int (0 : Int32)), .unset] [(.int (32 : Int32))])
  refine own_by (fun _ k => XS.bipush X12.here hx rfl (hb hby d1_4) k) ?_
  show own_Fin p e below s _ _ _ T12 (mkF m 6 #[.val (.ref a1), .val (.int (0 : Int32)), .unset] [(.int (64 : Int32)), (.int (32 : Int32))])
  refine own_by (fun _ k => XS.icmpYes X12.here hx rfl (pc0 := 6) (pc' := 13) rfl (hb hby d1_6) rfl (feq (by decide : ¬ ((32 : Int32) = (64 : Int32)))).2 (by decide) (by decide) k) ?_
  show own_Fin p e below s _ _ _ T12 (mkF m 13 #[.val (.ref a1), .val (.int (0 : Int32)), .unset] [])
  refine own_by (fun _ k => XS.iconst X12.here hx rfl (hb hby d1_13) (XS.istoreN X12.here hx rfl (hb hby d1_14) rfl (l' := #[.val (.ref a1), .val (.int (0 : Int32)), .val (.int (0 : Int32))]) rfl (XS.iloadN X12.here hx rfl (hb hby d1_15) rfl k))) ?_
  show own_Fin p e below s _ _ _ T12 (mkF m 16 #[.val (.ref a1), .val (.int (0 : Int32)), .val (.int (0 : Int32))] [(.int (0 : Int32))])
  refine own_by (fun _ k => XS.ifYes X12.here hx rfl (pc0 := 16) (pc' := 33) rfl (hb hby d1_16) rfl ((if0 _ _).trans (teq (by decide : (0 : Int32) = (0 : Int32))).1) (by decide) (by decide) k) ?_
  show own_Fin p e below s _ _ _ T12 (mkF m 33 #[.val (.ref a1), .val (.int (0 : Int32)), .val (.int (0 : Int32))] [])
  refine own_by (fun _ k => XS.iloadN X12.here hx rfl (hb hby d1_33) rfl k) ?_
  show own_Fin p e below s _ _ _ T12 (mkF m 34 #[.val (.ref a1), .val (.int (0 : Int32)), .val (.int (0 : Int32))] [(.int (0 : Int32))])
  refine own_by (fun _ k => XS.ifYes X12.here hx rfl (pc0 := 34) (pc' := 43) rfl (hb hby d1_34) rfl ((if0 _ _).trans (teq (by decide : (0 : Int32) = (0 : Int32))).1) (by decide) (by decide) k) ?_
  show own_Fin p e below s _ _ _ T12 (mkF m 43 #[.val (.ref a1), .val (.int (0 : Int32)), .val (.int (0 : Int32))] [])
  obtain ⟨T13, X13, e13, st13⟩ := getS2 X12 hx hZ hown (host := "") (Or.inl (hw _ (List.mem_of_getElem? (i := 82) rfl))) Via.refl eh12 S_t (g := (mkF m 43 #[.val (.ref a1), .val (.int (0 : Int32)), .val (.int (0 : Int32))] [])) rfl (hb hby d1_43)
  refine own_by (fun _ k => st13 _ k) ?_
  show own_Fin p e below s _ _ _ T13 (mkF m 46 #[.val (.ref a1), .val (.int (0 : Int32)), .val (.int (0 : Int32))] [(.ref t1)])
  exact own_retA X13 hx hlk (t := (.object "com/example/lithe_checker/lithechecker/c/CType$IntegerType")) hret rfl rfl rfl (hb hby d1_46) ⟨rfl, N12, e13⟩ (by decide) (by decide)
theorem own_pn48 : plainName "java/lang/String" = true := by first | (simp [plainName, overriddenIn]; done) | decide +kernel
theorem d9_0 : decode jdk_42_method_55_code 0 = .ok (.aload_n 0, 1) := by decide +kernel
theorem d9_1 : decode jdk_42_method_55_code 1 = .ok (.getfield 9, 3) := by decide +kernel
theorem d9_4 : decode jdk_42_method_55_code 4 = .ok (.arraylength, 1) := by decide +kernel
theorem d9_5 : decode jdk_42_method_55_code 5 = .ok (.ifCond .ne 7, 3) := by decide +kernel
theorem d9_8 : decode jdk_42_method_55_code 8 = .ok (.iconst 1, 1) := by decide +kernel
theorem d9_9 : decode jdk_42_method_55_code 9 = .ok (.goto 4, 3) := by decide +kernel
theorem d9_13 : decode jdk_42_method_55_code 13 = .ok (.ireturn, 1) := by decide +kernel
theorem ef_rmE (m : MethodId) (x0 : Addr) : entryFrame m #[(.ref x0)] 1 = mkF m 0 #[.val (.ref x0)] [] := by first | (simp [entryFrame, mkF, argsToLocals, Value.category]; done) | rfl
def own_QrmE (h0 : Heap) (n0 : Nat) (v : Option Value) (h : Heap) (L : List Loc) : Prop := v = some (.int (1 : Int32)) ∧ Fr n0 L ∧ h = h0
set_option maxRecDepth 65536 in
set_option maxHeartbeats 40000000 in
theorem rmE (l : Launch) (Z : State) (a0 : Array Value) (hw : ∀ d ∈ tables_1, d.before a0 Z = true) (ws : List Jvm.Cond) (a1 v1 : Addr) (k1 : ClassId) (h0 : Heap) (n0 : Nat) (Z0 : n0 ≤ h0.size) (F1 : Fld Z h0 a1 "java/lang/String" "value" "[B" (.ref v1)) (V1 : Arv Z h0 v1 k1 .byte (0 : Int32) [] (.int (0 : Int32))) : own_Met l Z (⟨"java/lang/String", "isEmpty", "()Z"⟩ : MethodName) jdk_42_method_55_code 1 (some .boolean) ws (own_R 0 0 0 0) #[(.ref a1)] h0 (own_QrmE h0 n0) := by
  refine own_enter n0 own_pn48 (fun m => ef_rmE m a1 ) (fun p e s m below meth c s₁ hx hby hlk hml hret hown hnm hZ X0 e0 N0 => ?_)
  show own_Fin p e below s _ _ _ s₁ (mkF m 0 #[.val (.ref a1)] [])
  refine own_by (fun _ k => XS.aloadN X0.here hx rfl (hb hby d9_0) rfl rfl k) ?_
  show own_Fin p e below s _ _ _ s₁ (mkF m 1 #[.val (.ref a1)] [(.ref a1)])
  obtain ⟨T14, X14, e14, st14⟩ := getF X0 hx hZ hown (host := "") (Or.inl (hw _ (List.mem_of_getElem? (i := 68) rfl))) Via.refl e0 F1 (g := (mkF m 1 #[.val (.ref a1)] [(.ref a1)])) rfl rfl (hb hby d9_1)
  refine own_by (fun _ k => st14 _ k) ?_
  show own_Fin p e below s _ _ _ T14 (mkF m 4 #[.val (.ref a1)] [(.ref v1)])
  obtain ⟨cl15, Ar15, -, S15, M15, -, -⟩ := id V1
  refine own_by (fun _ k => X14.arraylength hx (by rw [e14]; exact Ar15.1) (State.isArrayOf_alike hZ.alike Ar15.2.1) (g := (mkF m 4 #[.val (.ref a1)] [(.ref v1)])) rfl rfl (hb hby d9_4) _ k) ?_
  rw [len_of S15 M15]
  show own_Fin p e below s _ _ _ T14 (mkF m 5 #[.val (.ref a1)] [(.int (0 : Int32))])
  refine own_by (fun _ k => XS.ifNo X14.here hx rfl (hb hby d9_5) rfl ((if0 _ _).trans (teq (by decide : (0 : Int32) = (0 : Int32))).2) k) ?_
  show own_Fin p e below s _ _ _ T14 (mkF m 8 #[.val (.ref a1)] [])
  refine own_by (fun _ k => XS.iconst X14.here hx rfl (hb hby d9_8) (XS.goto X14.here hx rfl (pc0 := 9) (pc' := 13) rfl (hb hby d9_9) (by decide) (by decide) k)) ?_
  show own_Fin p e below s _ _ _ T14 (mkF m 13 #[.val (.ref a1)] [(.int (1 : Int32))])
  exact own_retZ X14 hx hlk (t := .boolean) hret (by simp) (hb hby d9_13) ⟨rfl, N0, e14⟩ (by decide) (by decide)
theorem d8_0 : decode prog_5_method_7_code 0 = .ok (.aload_n 1, 1) := by decide +kernel
theorem d8_1 : decode prog_5_method_7_code 1 = .ok (.invokevirtual 44, 3) := by decide +kernel
theorem own_pd59 : parseMethodDescriptor "()Z" = some ⟨[], some .boolean⟩ := by decide +kernel
theorem d8_4 : decode prog_5_method_7_code 4 = .ok (.ifCond .eq 7, 3) := by decide +kernel
theorem d8_7 : decode prog_5_method_7_code 7 = .ok (.aload_n 0, 1) := by decide +kernel
theorem d8_8 : decode prog_5_method_7_code 8 = .ok (.goto 10, 3) := by decide +kernel
theorem d8_18 : decode prog_5_method_7_code 18 = .ok (.areturn, 1) := by decide +kernel
theorem ef_rmN (m : MethodId) (x0 : Addr) (x1 : Addr) : entryFrame m #[(.ref x0), (.ref x1)] 2 = mkF m 0 #[.val (.ref x0), .val (.ref x1)] [] := by first | (simp [entryFrame, mkF, argsToLocals, Value.category]; done) | rfl
def own_QrmN (nm : Addr) (h0 : Heap) (n0 : Nat) (v : Option Value) (h : Heap) (L : List Loc) : Prop := v = some (.ref nm) ∧ Fr n0 L ∧ h = h0
set_option maxRecDepth 65536 in
set_option maxHeartbeats 40000000 in
theorem rmN (l : Launch) (Z : State) (a0 : Array Value) (hw : ∀ d ∈ tables_1, d.before a0 Z = true) (ws : List Jvm.Cond) (nm a2 v1 : Addr) (k1 : ClassId) (h0 : Heap) (n0 : Nat) (Z0 : n0 ≤ h0.size) (E_a2 : Exa Z h0 a2 "java/lang/String") (F1 : Fld Z h0 a2 "java/lang/String" "value" "[B" (.ref v1)) (V1 : Arv Z h0 v1 k1 .byte (0 : Int32) [] (.int (0 : Int32))) : own_Met l Z (⟨"com/example/lithe_checker/lithechecker/c/CType", "named", "(Ljava/lang/String;Ljava/lang/String;)Ljava/lang/String;"⟩ : MethodName) prog_5_method_7_code 2 (some (.object "java/lang/String")) ws (own_R 1 0 0 12) #[(.ref nm), (.ref a2)] h0 (own_QrmN nm h0 n0) := by
  refine own_enter n0 own_pn20 (fun m => ef_rmN m nm a2 ) (fun p e s m below meth c s₁ hx hby hlk hml hret hown hnm hZ X0 e0 N0 => ?_)
  show own_Fin p e below s _ _ _ s₁ (mkF m 0 #[.val (.ref nm), .val (.ref a2)] [])
  refine own_by (fun _ k => XS.aloadN X0.here hx rfl (hb hby d8_0) rfl rfl k) ?_
  show own_Fin p e below s _ _ _ s₁ (mkF m 1 #[.val (.ref nm), .val (.ref a2)] [(.ref a2)])
  obtain ⟨cq16, kq16, q16a, q16b, q16c⟩ := isOf hZ e0 E_a2
  obtain ⟨_, _, ⟨T16, L16, k16, n16⟩, -, X16, ⟨Lc16, hQ16, l16, y16, z16⟩, st16⟩ := X0.virtualBack hx (y := (⟨"java/lang/String", "isEmpty", "()Z"⟩ : MethodName)) (z := (⟨"java/lang/String", "isEmpty", "()Z"⟩ : MethodName)) hown (mvT hZ (hw _ (List.mem_of_getElem? (i := 63) rfl))) (mvT hZ (hw _ (List.mem_of_getElem? (i := 64) rfl))) (notFace_of_selects (args := #[]) (mvT hZ (hw _ (List.mem_of_getElem? (i := 66) rfl)))) (mvT hZ (hw _ (List.mem_of_getElem? (i := 66) rfl))) (mvT hZ (hw _ (List.mem_of_getElem? (i := 65) rfl))) (by decide) (backOf (W := 0) (rmE l Z a0 hw [] a2 v1 k1 h0 n0 Z0 F1 V1) hZ (hw _ (List.mem_of_getElem? (i := 67) rfl)) (hw _ (List.mem_of_getElem? (i := 17) rfl)) (by decide) (by decide)) q16a q16c (g := (mkF m 1 #[.val (.ref nm), .val (.ref a2)] [(.ref a2)])) rfl (by rw [hml]; rfl) (Steps.refl _) (argsL := []) (rest := []) (lenOf own_pd59 rfl) rfl (by show 2 * 0 + _ ≤ _; exact Nat.le_of_eq rfl) (hb hby d8_1) (fun _ _ => ⟨rfl, e0, (by decide : 0 + 0 ≤ _), (by decide : 0 + 0 ≤ _)⟩)
  dsimp only [Pt.U, Pt.locs, Pt.cells, Pt.slots] at X16 l16 y16 z16 st16 hQ16
  subst l16 y16 z16
  obtain ⟨rfl, Nq16, eh16⟩ := hQ16
  have N16 := Fr.app N0 Nq16
  refine own_by (fun _ k => st16.trans k) ?_
  show own_Fin p e below s _ _ _ T16 (mkF m 4 #[.val (.ref nm), .val (.ref a2)] [(.int (1 : Int32))])
  refine own_by (fun _ k => XS.ifNo X16.here hx rfl (hb hby d8_4) rfl ((if0 _ _).trans (feq (by decide : ¬ ((1 : Int32) = (0 : Int32)))).1) k) ?_
  show own_Fin p e below s _ _ _ T16 (mkF m 7 #[.val (.ref nm), .val (.ref a2)] [])
  refine own_by (fun _ k => XS.aloadN X16.here hx rfl (hb hby d8_7) rfl rfl (XS.goto X16.here hx rfl (pc0 := 8) (pc' := 18) rfl (hb hby d8_8) (by decide) (by decide) k)) ?_
  show own_Fin p e below s _ _ _ T16 (mkF m 18 #[.val (.ref nm), .val (.ref a2)] [(.ref nm)])
  exact own_retA X16 hx hlk (t := (.object "java/lang/String")) hret rfl rfl rfl (hb hby d8_18) ⟨rfl, N16, eh16⟩ (by decide) (by decide)
theorem d7_0 : decode prog_8_method_11_code 0 = .ok (.aload_n 0, 1) := by decide +kernel
theorem d7_1 : decode prog_8_method_11_code 1 = .ok (.getfield 7, 3) := by decide +kernel
theorem d7_4 : decode prog_8_method_11_code 4 = .ok (.aload_n 1, 1) := by decide +kernel
theorem d7_5 : decode prog_8_method_11_code 5 = .ok (.invokestatic 71, 3) := by decide +kernel
theorem own_pd69 : parseMethodDescriptor "(Ljava/lang/String;Ljava/lang/String;)Ljava/lang/String;" = some ⟨[(.object "java/lang/String"), (.object "java/lang/String")], some (.object "java/lang/String")⟩ := by decide +kernel
theorem d7_8 : decode prog_8_method_11_code 8 = .ok (.areturn, 1) := by decide +kernel
theorem ef_rmD (m : MethodId) (x0 : Addr) (x1 : Addr) : entryFrame m #[(.ref x0), (.ref x1)] 2 = mkF m 0 #[.val (.ref x0), .val (.ref x1)] [] := by first | (simp [entryFrame, mkF, argsToLocals, Value.category]; done) | rfl
set_option maxRecDepth 65536 in
set_option maxHeartbeats 40000000 in
theorem rmD (l : Launch) (Z : State) (a0 : Array Value) (hw : ∀ d ∈ tables_1, d.before a0 Z = true) (ws : List Jvm.Cond) (a1 nm a2 v1 : Addr) (k1 : ClassId) (h0 : Heap) (n0 : Nat) (Z0 : n0 ≤ h0.size) (F_n : Fld Z h0 a1 "com/example/lithe_checker/lithechecker/c/CType$IntegerType" "name" "Ljava/lang/String;" (.ref nm)) (E_a2 : Exa Z h0 a2 "java/lang/String") (F1 : Fld Z h0 a2 "java/lang/String" "value" "[B" (.ref v1)) (V1 : Arv Z h0 v1 k1 .byte (0 : Int32) [] (.int (0 : Int32))) : own_Met l Z (⟨"com/example/lithe_checker/lithechecker/c/CType$IntegerType", "declaration", "(Ljava/lang/String;)Ljava/lang/String;"⟩ : MethodName) prog_8_method_11_code 2 (some (.object "java/lang/String")) ws (own_R 2 0 0 40) #[(.ref a1), (.ref a2)] h0 (own_QrmN nm h0 n0) := by
  refine own_enter n0 own_pn6 (fun m => ef_rmD m a1 a2 ) (fun p e s m below meth c s₁ hx hby hlk hml hret hown hnm hZ X0 e0 N0 => ?_)
  show own_Fin p e below s _ _ _ s₁ (mkF m 0 #[.val (.ref a1), .val (.ref a2)] [])
  refine own_by (fun _ k => XS.aloadN X0.here hx rfl (hb hby d7_0) rfl rfl k) ?_
  show own_Fin p e below s _ _ _ s₁ (mkF m 1 #[.val (.ref a1), .val (.ref a2)] [(.ref a1)])
  obtain ⟨T17, X17, e17, st17⟩ := getF X0 hx hZ hown (host := "") (Or.inl (hw _ (List.mem_of_getElem? (i := 58) rfl))) Via.refl e0 F_n (g := (mkF m 1 #[.val (.ref a1), .val (.ref a2)] [(.ref a1)])) rfl rfl (hb hby d7_1)
  refine own_by (fun _ k => st17 _ k) ?_
  show own_Fin p e below s _ _ _ T17 (mkF m 4 #[.val (.ref a1), .val (.ref a2)] [(.ref nm)])
  refine own_by (fun _ k => XS.aloadN X17.here hx rfl (hb hby d7_4) rfl rfl k) ?_
  show own_Fin p e below s _ _ _ T17 (mkF m 5 #[.val (.ref a1), .val (.ref a2)] [(.ref a2), (.ref nm)])
  obtain ⟨_, _, ⟨T18, L18, k18, n18⟩, -, X18, ⟨Lc18, hQ18, l18, y18, z18⟩, st18⟩ := callSN X17 hx (y := (⟨"com/example/lithe_checker/lithechecker/c/CType", "named", "(Ljava/lang/String;Ljava/lang/String;)Ljava/lang/String;"⟩ : MethodName)) hown (own_mvM hZ (hw _ (List.mem_of_getElem? (i := 60) rfl))) (mvT hZ (hw _ (List.mem_of_getElem? (i := 61) rfl))) (mvT hZ (hw _ (List.mem_of_getElem? (i := 5) rfl))) (mvT hZ (hw _ (List.mem_of_getElem? (i := 62) rfl))) (by decide) (backOf (W := 0) (rmN l Z a0 hw [] nm a2 v1 k1 h0 n0 Z0 E_a2 F1 V1) hZ (hw _ (List.mem_of_getElem? (i := 62) rfl)) (hw _ (List.mem_of_getElem? (i := 5) rfl)) (by decide) (by decide)) (g := (mkF m 5 #[.val (.ref a1), .val (.ref a2)] [(.ref a2), (.ref nm)])) rfl (by rw [hml]; rfl) (argsL := [(.ref nm), (.ref a2)]) (rest := []) (lenOf own_pd69 rfl) rfl (by show 2 * 0 + _ ≤ _; exact Nat.le_of_eq rfl) (hb hby d7_5) (fun _ _ => ⟨rfl, e17, (by decide : 0 + 0 ≤ _), (by decide : 0 + 0 ≤ _)⟩)
  dsimp only [Pt.U, Pt.locs, Pt.cells, Pt.slots] at X18 l18 y18 z18 st18 hQ18
  subst l18 y18 z18
  obtain ⟨rfl, Nq18, eh18⟩ := hQ18
  have N18 := Fr.app N0 Nq18
  refine own_by (fun _ k => st18.trans k) ?_
  show own_Fin p e below s _ _ _ T18 (mkF m 8 #[.val (.ref a1), .val (.ref a2)] [(.ref nm)])
  exact own_retA X18 hx hlk (t := (.object "java/lang/String")) hret rfl rfl rfl (hb hby d7_8) ⟨rfl, N18, eh18⟩ (by decide) (by decide)
theorem d6_0 : decode prog_5_method_6_code 0 = .ok (.aload_n 0, 1) := by decide +kernel
theorem d6_1 : decode prog_5_method_6_code 1 = .ok (.ldc 38, 2) := by decide +kernel
theorem d6_3 : decode prog_5_method_6_code 3 = .ok (.invokevirtual 40, 3) := by decide +kernel
theorem own_pd75 : parseMethodDescriptor "(Ljava/lang/String;)Ljava/lang/String;" = some ⟨[(.object "java/lang/String")], some (.object "java/lang/String")⟩ := by decide +kernel
theorem d6_6 : decode prog_5_method_6_code 6 = .ok (.areturn, 1) := by decide +kernel
theorem ef_rmT (m : MethodId) (x0 : Addr) : entryFrame m #[(.ref x0)] 1 = mkF m 0 #[.val (.ref x0)] [] := by first | (simp [entryFrame, mkF, argsToLocals, Value.category]; done) | rfl
def own_QrmT (nm : Addr) (h0 : Heap) (n0 : Nat) (v : Option Value) (h : Heap) (L : List Loc) : Prop := v = some (.ref nm) ∧ Fr n0 L ∧ Keep h0 h []
set_option maxRecDepth 65536 in
set_option maxHeartbeats 40000000 in
theorem rmT (l : Launch) (Z : State) (a0 : Array Value) (hw : ∀ d ∈ tables_1, d.before a0 Z = true) (ws : List Jvm.Cond) (a1 nm : Addr) (h0 : Heap) (n0 : Nat) (Z0 : n0 ≤ h0.size) (E_a1 : Exa Z h0 a1 "com/example/lithe_checker/lithechecker/c/CType$IntegerType") (F_n : Fld Z h0 a1 "com/example/lithe_checker/lithechecker/c/CType$IntegerType" "name" "Ljava/lang/String;" (.ref nm)) :
    MetFree l (⟨"com/example/lithe_checker/lithechecker/c/CType", "toString", "()Ljava/lang/String;"⟩ : MethodName) (head1 (Jvm.Cond.code (⟨"com/example/lithe_checker/lithechecker/c/CType", "toString", "()Ljava/lang/String;"⟩ : MethodName) prog_5_method_6_code 1 (some (.object "java/lang/String")) :: ws) (own_R 3 2 4 70)) (fun a U => a = #[(.ref a1)] ∧ Z.Warmed39 U.vm ∧ U.heap = h0 ∧ CHv Z consts_1 U.vm h0) (fun _ _ _ _ _ => True) (fun _ U o U' => ∃ v L, o = .returned v ∧ own_QrmT nm h0 n0 v U'.heap L ∧ CHr Z consts_1 U.vm U.heap U'.vm U'.heap ∧ ReturnedEndW U o U' L (own_R 3 2 4 70).cells (own_R 3 2 4 70).slots) := by
  refine MetFree.of_bodySF (plainFor_of_name own_pn20) hisR ?_
  intro p e s m args below meth c s₁ Bd hml0 hP hK
  obtain ⟨rfl, hZ, hh, hCH0⟩ := hP
  have hx := Bd.exec
  have hby := Bd.bytes
  have hlk := Bd.notSynchronized
  have hml : c.maxLocals = 1 := hml0
  have hown : s.vm.findClass "com/example/lithe_checker/lithechecker/c/CType" = some m.cls := findClass_of_methodNamed Bd.named
  have hnm := (name_of_methodNamed Bd.named Bd.method).1
  have X0 : Stand p l e (own_R 3 2 4 70) (s.setVm s.vm) m #[(.ref a1)] below meth c s₁ [] 0 0 := Stand.of_body Bd
  have e0 : s₁.heap = h0 := by rw [← hh, Bd.state]; rfl
  have N0 := Fr.nil n0
  refine own_startH (Q := own_QrmT nm h0 n0) (C := (own_R 3 2 4 70).cells) (N := (own_R 3 2 4 70).slots) hh (ef_rmT m a1 ) ?_
  have hS0 : s.Since s.vm h0.size := (State.WarmedH.refl s).since _
  have hk0 : h0.size ≤ h0.size := Nat.le_refl _
  replace hown : (s.setVm s.vm).vm.findClass "com/example/lithe_checker/lithechecker/c/CType" = some m.cls := hown
  replace hZ : Z.Warmed39 (s.setVm s.vm).vm := hZ
  have CH0 : CHr Z consts_1 s.vm h0 s.vm h0 := CHr.refl hCH0
  show own_FinH p e below s Z consts_1 h0 _ _ _ s₁ (mkF m 0 #[.val (.ref a1)] [])
  have Kp19 : Keep h0 h0 [] := Keep.refl h0 _
  refine own_byH (fun _ k => XS.aloadN X0.here hx rfl (hb hby d6_0) rfl rfl k) ?_
  show own_FinH p e below s Z consts_1 h0 _ _ _ s₁ (mkF m 1 #[.val (.ref a1)] [(.ref a1)])
  obtain ⟨b20, T20, h20, k20, v20, kk20, X20, e20, E20, hS20, hkE20, hZ20, hown20, Eb20, Cb20, Vb20, Ab20, -, -, hCr20, -, Sn20, st20⟩ := ldcCH (s := s) (vm0 := s.vm) X0 hx hZ hown (hw _ (List.mem_of_getElem? (i := 52) rfl)) (own_wS hw) e0 hS0 hk0 (own_EW hw) (by decide) CH0.1 (vs := []) (z := (0 : Int32)) (by decide) (by decide) (by decide) (g := (mkF m 1 #[.val (.ref a1)] [(.ref a1)])) rfl (hb hby d6_1) (n := 0) (by decide) (by decide) (by decide) (by decide)
  have CHs21 : CHr Z consts_1 s.vm h0 T20.vm h20 := CH0.trans (hCr20)
  replace hZ := hZ20
  replace hown := hown20
  refine own_byH (fun _ k => st20 _ k) ?_
  have Zs20 : n0 ≤ h20.size := Nat.le_trans Z0 E20.1
  have Kp20 : Keep h0 h20 [] := Kp19.ext E20
  have f22_0 : Exa Z h20 a1 "com/example/lithe_checker/lithechecker/c/CType$IntegerType" := E_a1.ext E20
  have f22_1 : Fld Z h20 a1 "com/example/lithe_checker/lithechecker/c/CType$IntegerType" "name" "Ljava/lang/String;" (.ref nm) := F_n.ext E20
  show own_FinH p e below s Z consts_1 h0 _ _ _ T20 (mkF m 3 #[.val (.ref a1)] [(.ref b20), (.ref a1)])
  obtain ⟨cq23, kq23, q23a, q23b, q23c⟩ := isOf hZ e20 f22_0
  obtain ⟨_, _, ⟨T23, L23, k23, n23⟩, -, X23, ⟨Lc23, hQ23, l23, y23, z23⟩, st23⟩ := X20.virtualBack hx (y := (⟨"com/example/lithe_checker/lithechecker/c/CType", "declaration", "(Ljava/lang/String;)Ljava/lang/String;"⟩ : MethodName)) (z := (⟨"com/example/lithe_checker/lithechecker/c/CType$IntegerType", "declaration", "(Ljava/lang/String;)Ljava/lang/String;"⟩ : MethodName)) hown (mvT hZ (hw _ (List.mem_of_getElem? (i := 53) rfl))) (mvT hZ (hw _ (List.mem_of_getElem? (i := 54) rfl))) (own_nf (args := #[]) (mvT hZ (hw _ (List.mem_of_getElem? (i := 50) rfl))) rfl) (mvT hZ (hw _ (List.mem_of_getElem? (i := 55) rfl))) (mvT hZ (hw _ (List.mem_of_getElem? (i := 56) rfl))) (by decide) (backOf (W := 0) (rmD l Z a0 hw [] a1 nm b20 v20 kk20 h20 n0 Zs20 f22_1 Eb20 Vb20 Ab20) hZ (hw _ (List.mem_of_getElem? (i := 57) rfl)) (hw _ (List.mem_of_getElem? (i := 28) rfl)) (by decide) (by decide)) q23a q23c (g := (mkF m 3 #[.val (.ref a1)] [(.ref b20), (.ref a1)])) rfl (by rw [hml]; rfl) (Steps.refl _) (argsL := [(.ref b20)]) (rest := []) (lenOf own_pd75 rfl) rfl (by show 2 * 0 + _ ≤ _; exact Nat.le_of_eq rfl) (hb hby d6_3) (fun _ _ => ⟨rfl, e20, (by decide : 2 + 0 ≤ _), (by decide : 4 + 0 ≤ _)⟩)
  dsimp only [Pt.U, Pt.locs, Pt.cells, Pt.slots] at X23 l23 y23 z23 st23 hQ23
  subst l23 y23 z23
  obtain ⟨rfl, Nq23, eh23⟩ := hQ23
  have N23 := Fr.app N0 Nq23
  refine own_byH (fun _ k => st23.trans k) ?_
  show own_FinH p e below s Z consts_1 h0 _ _ _ T23 (mkF m 6 #[.val (.ref a1)] [(.ref nm)])
  have CHe24 : CHr Z consts_1 s.vm h0 T23.vm h20 := CHs21.trans (CHv.at X23 hZ (own_EW hw) CHs21.1)
  exact own_retAH X23 hS20 (by rw [eh23]; exact hkE20) (by rw [eh23]; exact CHe24) hx hlk (t := (.object "java/lang/String")) Bd.returns rfl rfl rfl (hb hby d6_6) (by rw [eh23]; exact ⟨rfl, N23, Kp20⟩) (by decide) (by decide)
theorem own_pn78 : plainName "java/lang/StringLatin1" = true := by first | (simp [plainName, overriddenIn]; done) | decide +kernel
theorem d11_0 : decode jdk_43_method_13_code 0 = .ok (.aload_n 0, 1) := by decide +kernel
theorem d11_1 : decode jdk_43_method_13_code 1 = .ok (.arraylength, 1) := by decide +kernel
theorem d11_2 : decode jdk_43_method_13_code 2 = .ok (.aload_n 1, 1) := by decide +kernel
theorem d11_3 : decode jdk_43_method_13_code 3 = .ok (.arraylength, 1) := by decide +kernel
theorem d11_4 : decode jdk_43_method_13_code 4 = .ok (.if_icmp .ne 30, 3) := by decide +kernel
theorem d11_7 : decode jdk_43_method_13_code 7 = .ok (.iconst 0, 1) := by decide +kernel
theorem d11_8 : decode jdk_43_method_13_code 8 = .ok (.istore_n 2, 1) := by decide +kernel
theorem d11_9 : decode jdk_43_method_13_code 9 = .ok (.iload_n 2, 1) := by decide +kernel
theorem d11_10 : decode jdk_43_method_13_code 10 = .ok (.aload_n 0, 1) := by decide +kernel
theorem d11_11 : decode jdk_43_method_13_code 11 = .ok (.arraylength, 1) := by decide +kernel
theorem d11_12 : decode jdk_43_method_13_code 12 = .ok (.if_icmp .ge 20, 3) := by decide +kernel
theorem d11_15 : decode jdk_43_method_13_code 15 = .ok (.aload_n 0, 1) := by decide +kernel
theorem d11_16 : decode jdk_43_method_13_code 16 = .ok (.iload_n 2, 1) := by decide +kernel
theorem d11_17 : decode jdk_43_method_13_code 17 = .ok (.baload, 1) := by decide +kernel
theorem d11_18 : decode jdk_43_method_13_code 18 = .ok (.aload_n 1, 1) := by decide +kernel
theorem d11_19 : decode jdk_43_method_13_code 19 = .ok (.iload_n 2, 1) := by decide +kernel
theorem d11_20 : decode jdk_43_method_13_code 20 = .ok (.baload, 1) := by decide +kernel
theorem d11_21 : decode jdk_43_method_13_code 21 = .ok (.if_icmp .eq 5, 3) := by decide +kernel
theorem d11_26 : decode jdk_43_method_13_code 26 = .ok (.iinc 2 1, 3) := by decide +kernel
theorem d11_29 : decode jdk_43_method_13_code 29 = .ok (.goto (-20), 3) := by decide +kernel
theorem d11_32 : decode jdk_43_method_13_code 32 = .ok (.iconst 1, 1) := by decide +kernel
theorem d11_33 : decode jdk_43_method_13_code 33 = .ok (.ireturn, 1) := by decide +kernel
theorem ef_rmA1 (m : MethodId) (x0 : Addr) (x1 : Addr) : entryFrame m #[(.ref x0), (.ref x1)] 3 = mkF m 0 #[.val (.ref x0), .val (.ref x1), .unset] [] := by first | (simp [entryFrame, mkF, argsToLocals, Value.category]; done) | rfl
def own_QrmQ1 (h0 : Heap) (n0 : Nat) (v : Option Value) (h : Heap) (L : List Loc) : Prop := v = some (.int (1 : Int32)) ∧ Fr n0 L ∧ h = h0
set_option maxRecDepth 65536 in
set_option maxHeartbeats 40000000 in
theorem rmA1 (l : Launch) (Z : State) (a0 : Array Value) (hw : ∀ d ∈ tables_1, d.before a0 Z = true) (ws : List Jvm.Cond) (v1 v2 : Addr) (k1 k2 : ClassId) (h0 : Heap) (n0 : Nat) (Z0 : n0 ≤ h0.size) (V1 : Arv Z h0 v1 k1 .byte (4 : Int32) [(.int (108 : Int32)), (.int (111 : Int32)), (.int (110 : Int32)), (.int (103 : Int32))] (.int (0 : Int32))) (V2 : Arv Z h0 v2 k2 .byte (4 : Int32) [(.int (108 : Int32)), (.int (111 : Int32)), (.int (110 : Int32)), (.int (103 : Int32))] (.int (0 : Int32))) : own_Met l Z (⟨"java/lang/StringLatin1", "equals", "([B[B)Z"⟩ : MethodName) jdk_43_method_13_code 3 (some .boolean) ws (own_R 0 0 0 0) #[(.ref v1), (.ref v2)] h0 (own_QrmQ1 h0 n0) := by
  refine own_enter n0 own_pn78 (fun m => ef_rmA1 m v1 v2 ) (fun p e s m below meth c s₁ hx hby hlk hml hret hown hnm hZ X0 e0 N0 => ?_)
  show own_Fin p e below s _ _ _ s₁ (mkF m 0 #[.val (.ref v1), .val (.ref v2), .unset] [])
  refine own_by (fun _ k => XS.aloadN X0.here hx rfl (hb hby d11_0) rfl rfl k) ?_
  show own_Fin p e below s _ _ _ s₁ (mkF m 1 #[.val (.ref v1), .val (.ref v2), .unset] [(.ref v1)])
  obtain ⟨cl25, Ar25, -, S25, M25, -, -⟩ := id V1
  refine own_by (fun _ k => X0.arraylength hx (by rw [e0]; exact Ar25.1) (State.isArrayOf_alike hZ.alike Ar25.2.1) (g := (mkF m 1 #[.val (.ref v1), .val (.ref v2), .unset] [(.ref v1)])) rfl rfl (hb hby d11_1) _ k) ?_
  rw [len_of S25 M25]
  show own_Fin p e below s _ _ _ s₁ (mkF m 2 #[.val (.ref v1), .val (.ref v2), .unset] [(.int (4 : Int32))])
  refine own_by (fun _ k => XS.aloadN X0.here hx rfl (hb hby d11_2) rfl rfl k) ?_
  show own_Fin p e below s _ _ _ s₁ (mkF m 3 #[.val (.ref v1), .val (.ref v2), .unset] [(.ref v2), (.int (4 : Int32))])
  obtain ⟨cl26, Ar26, -, S26, M26, -, -⟩ := id V2
  refine own_by (fun _ k => X0.arraylength hx (by rw [e0]; exact Ar26.1) (State.isArrayOf_alike hZ.alike Ar26.2.1) (g := (mkF m 3 #[.val (.ref v1), .val (.ref v2), .unset] [(.ref v2), (.int (4 : Int32))])) rfl rfl (hb hby d11_3) _ k) ?_
  rw [len_of S26 M26]
  show own_Fin p e below s _ _ _ s₁ (mkF m 4 #[.val (.ref v1), .val (.ref v2), .unset] [(.int (4 : Int32)), (.int (4 : Int32))])
  refine own_by (fun _ k => XS.icmpNo X0.here hx rfl (hb hby d11_4) rfl (teq (by decide : (4 : Int32) = (4 : Int32))).2 k) ?_
  show own_Fin p e below s _ _ _ s₁ (mkF m 7 #[.val (.ref v1), .val (.ref v2), .unset] [])
  refine own_by (fun _ k => XS.iconst X0.here hx rfl (hb hby d11_7) (XS.istoreN X0.here hx rfl (hb hby d11_8) rfl (l' := #[.val (.ref v1), .val (.ref v2), .val (.int (0 : Int32))]) rfl (XS.iloadN X0.here hx rfl (hb hby d11_9) rfl (XS.aloadN X0.here hx rfl (hb hby d11_10) rfl rfl k)))) ?_
  show own_Fin p e below s _ _ _ s₁ (mkF m 11 #[.val (.ref v1), .val (.ref v2), .val (.int (0 : Int32))] [(.ref v1), (.int (0 : Int32))])
  obtain ⟨cl27, Ar27, -, S27, M27, -, -⟩ := id V1
  refine own_by (fun _ k => X0.arraylength hx (by rw [e0]; exact Ar27.1) (State.isArrayOf_alike hZ.alike Ar27.2.1) (g := (mkF m 11 #[.val (.ref v1), .val (.ref v2), .val (.int (0 : Int32))] [(.ref v1), (.int (0 : Int32))])) rfl rfl (hb hby d11_11) _ k) ?_
  rw [len_of S27 M27]
  show own_Fin p e below s _ _ _ s₁ (mkF m 12 #[.val (.ref v1), .val (.ref v2), .val (.int (0 : Int32))] [(.int (4 : Int32)), (.int (0 : Int32))])
  refine own_by (fun _ k => XS.icmpNo X0.here hx rfl (hb hby d11_12) rfl (tlt (by decide : (0 : Int32) < (4 : Int32))).2.1 k) ?_
  show own_Fin p e below s _ _ _ s₁ (mkF m 15 #[.val (.ref v1), .val (.ref v2), .val (.int (0 : Int32))] [])
  refine own_by (fun _ k => XS.aloadN X0.here hx rfl (hb hby d11_15) rfl rfl (XS.iloadN X0.here hx rfl (hb hby d11_16) rfl k)) ?_
  show own_Fin p e below s _ _ _ s₁ (mkF m 17 #[.val (.ref v1), .val (.ref v2), .val (.int (0 : Int32))] [(.int (0 : Int32)), (.ref v1)])
  obtain ⟨cl28, Ar28, -, S28, M28, H28, -⟩ := id V1
  have hin28 : ¬ ((0 : Int32) < 0 ∨ cl28.slots.size ≤ ((0 : Int32)).toNatClampNeg) := inb_of S28 ⟨by decide, by decide⟩
  have hat28 : cl28.slots[((0 : Int32)).toNatClampNeg]? = some (.int (108 : Int32)) := Has.at H28 hin28 rfl
  refine own_by (fun _ k => X0.baloadBytes hx (j := (0 : Int32)) (v := (.int (108 : Int32))) (by rw [e0]; exact Ar28.1) (State.isArrayOf_alike hZ.alike Ar28.2.1) Ar28.2.2 hin28 hat28 (g := (mkF m 17 #[.val (.ref v1), .val (.ref v2), .val (.int (0 : Int32))] [(.int (0 : Int32)), (.ref v1)])) rfl rfl (hb hby d11_17) _ k) ?_
  show own_Fin p e below s _ _ _ s₁ (mkF m 18 #[.val (.ref v1), .val (.ref v2), .val (.int (0 : Int32))] [(.int (108 : Int32))])
  refine own_by (fun _ k => XS.aloadN X0.here hx rfl (hb hby d11_18) rfl rfl (XS.iloadN X0.here hx rfl (hb hby d11_19) rfl k)) ?_
  show own_Fin p e below s _ _ _ s₁ (mkF m 20 #[.val (.ref v1), .val (.ref v2), .val (.int (0 : Int32))] [(.int (0 : Int32)), (.ref v2), (.int (108 : Int32))])
  obtain ⟨cl29, Ar29, -, S29, M29, H29, -⟩ := id V2
  have hin29 : ¬ ((0 : Int32) < 0 ∨ cl29.slots.size ≤ ((0 : Int32)).toNatClampNeg) := inb_of S29 ⟨by decide, by decide⟩
  have hat29 : cl29.slots[((0 : Int32)).toNatClampNeg]? = some (.int (108 : Int32)) := Has.at H29 hin29 rfl
  refine own_by (fun _ k => X0.baloadBytes hx (j := (0 : Int32)) (v := (.int (108 : Int32))) (by rw [e0]; exact Ar29.1) (State.isArrayOf_alike hZ.alike Ar29.2.1) Ar29.2.2 hin29 hat29 (g := (mkF m 20 #[.val (.ref v1), .val (.ref v2), .val (.int (0 : Int32))] [(.int (0 : Int32)), (.ref v2), (.int (108 : Int32))])) rfl rfl (hb hby d11_20) _ k) ?_
  show own_Fin p e below s _ _ _ s₁ (mkF m 21 #[.val (.ref v1), .val (.ref v2), .val (.int (0 : Int32))] [(.int (108 : Int32)), (.int (108 : Int32))])
  refine own_by (fun _ k => XS.icmpYes X0.here hx rfl (pc0 := 21) (pc' := 26) rfl (hb hby d11_21) rfl (teq (by decide : (108 : Int32) = (108 : Int32))).1 (by decide) (by decide) k) ?_
  show own_Fin p e below s _ _ _ s₁ (mkF m 26 #[.val (.ref v1), .val (.ref v2), .val (.int (0 : Int32))] [])
  refine own_by (fun _ k => XS.iinc X0.here hx rfl (hb hby d11_26) rfl (l' := #[.val (.ref v1), .val (.ref v2), .val (.int ((0 : Int32) + (1 : Int32)))]) rfl k) ?_
  show own_Fin p e below s _ _ _ s₁ (mkF m 29 #[.val (.ref v1), .val (.ref v2), .val (.int ((0 : Int32) + (1 : Int32)))] [])
  rw [(by decide : ((0 : Int32) + (1 : Int32)) = (1 : Int32))]
  show own_Fin p e below s _ _ _ s₁ (mkF m 29 #[.val (.ref v1), .val (.ref v2), .val (.int (1 : Int32))] [])
  refine own_by (fun _ k => XS.goto X0.here hx rfl (pc0 := 29) (pc' := 9) rfl (hb hby d11_29) (by decide) (by decide) (XS.iloadN X0.here hx rfl (hb hby d11_9) rfl (XS.aloadN X0.here hx rfl (hb hby d11_10) rfl rfl k))) ?_
  show own_Fin p e below s _ _ _ s₁ (mkF m 11 #[.val (.ref v1), .val (.ref v2), .val (.int (1 : Int32))] [(.ref v1), (.int (1 : Int32))])
  obtain ⟨cl30, Ar30, -, S30, M30, -, -⟩ := id V1
  refine own_by (fun _ k => X0.arraylength hx (by rw [e0]; exact Ar30.1) (State.isArrayOf_alike hZ.alike Ar30.2.1) (g := (mkF m 11 #[.val (.ref v1), .val (.ref v2), .val (.int (1 : Int32))] [(.ref v1), (.int (1 : Int32))])) rfl rfl (hb hby d11_11) _ k) ?_
  rw [len_of S30 M30]
  show own_Fin p e below s _ _ _ s₁ (mkF m 12 #[.val (.ref v1), .val (.ref v2), .val (.int (1 : Int32))] [(.int (4 : Int32)), (.int (1 : Int32))])
  refine own_by (fun _ k => XS.icmpNo X0.here hx rfl (hb hby d11_12) rfl (tlt (by decide : (1 : Int32) < (4 : Int32))).2.1 k) ?_
  show own_Fin p e below s _ _ _ s₁ (mkF m 15 #[.val (.ref v1), .val (.ref v2), .val (.int (1 : Int32))] [])
  refine own_by (fun _ k => XS.aloadN X0.here hx rfl (hb hby d11_15) rfl rfl (XS.iloadN X0.here hx rfl (hb hby d11_16) rfl k)) ?_
  show own_Fin p e below s _ _ _ s₁ (mkF m 17 #[.val (.ref v1), .val (.ref v2), .val (.int (1 : Int32))] [(.int (1 : Int32)), (.ref v1)])
  obtain ⟨cl31, Ar31, -, S31, M31, H31, -⟩ := id V1
  have hin31 : ¬ ((1 : Int32) < 0 ∨ cl31.slots.size ≤ ((1 : Int32)).toNatClampNeg) := inb_of S31 ⟨by decide, by decide⟩
  have hat31 : cl31.slots[((1 : Int32)).toNatClampNeg]? = some (.int (111 : Int32)) := Has.at H31 hin31 rfl
  refine own_by (fun _ k => X0.baloadBytes hx (j := (1 : Int32)) (v := (.int (111 : Int32))) (by rw [e0]; exact Ar31.1) (State.isArrayOf_alike hZ.alike Ar31.2.1) Ar31.2.2 hin31 hat31 (g := (mkF m 17 #[.val (.ref v1), .val (.ref v2), .val (.int (1 : Int32))] [(.int (1 : Int32)), (.ref v1)])) rfl rfl (hb hby d11_17) _ k) ?_
  show own_Fin p e below s _ _ _ s₁ (mkF m 18 #[.val (.ref v1), .val (.ref v2), .val (.int (1 : Int32))] [(.int (111 : Int32))])
  refine own_by (fun _ k => XS.aloadN X0.here hx rfl (hb hby d11_18) rfl rfl (XS.iloadN X0.here hx rfl (hb hby d11_19) rfl k)) ?_
  show own_Fin p e below s _ _ _ s₁ (mkF m 20 #[.val (.ref v1), .val (.ref v2), .val (.int (1 : Int32))] [(.int (1 : Int32)), (.ref v2), (.int (111 : Int32))])
  obtain ⟨cl32, Ar32, -, S32, M32, H32, -⟩ := id V2
  have hin32 : ¬ ((1 : Int32) < 0 ∨ cl32.slots.size ≤ ((1 : Int32)).toNatClampNeg) := inb_of S32 ⟨by decide, by decide⟩
  have hat32 : cl32.slots[((1 : Int32)).toNatClampNeg]? = some (.int (111 : Int32)) := Has.at H32 hin32 rfl
  refine own_by (fun _ k => X0.baloadBytes hx (j := (1 : Int32)) (v := (.int (111 : Int32))) (by rw [e0]; exact Ar32.1) (State.isArrayOf_alike hZ.alike Ar32.2.1) Ar32.2.2 hin32 hat32 (g := (mkF m 20 #[.val (.ref v1), .val (.ref v2), .val (.int (1 : Int32))] [(.int (1 : Int32)), (.ref v2), (.int (111 : Int32))])) rfl rfl (hb hby d11_20) _ k) ?_
  show own_Fin p e below s _ _ _ s₁ (mkF m 21 #[.val (.ref v1), .val (.ref v2), .val (.int (1 : Int32))] [(.int (111 : Int32)), (.int (111 : Int32))])
  refine own_by (fun _ k => XS.icmpYes X0.here hx rfl (pc0 := 21) (pc' := 26) rfl (hb hby d11_21) rfl (teq (by decide : (111 : Int32) = (111 : Int32))).1 (by decide) (by decide) k) ?_
  show own_Fin p e below s _ _ _ s₁ (mkF m 26 #[.val (.ref v1), .val (.ref v2), .val (.int (1 : Int32))] [])
  refine own_by (fun _ k => XS.iinc X0.here hx rfl (hb hby d11_26) rfl (l' := #[.val (.ref v1), .val (.ref v2), .val (.int ((1 : Int32) + (1 : Int32)))]) rfl k) ?_
  show own_Fin p e below s _ _ _ s₁ (mkF m 29 #[.val (.ref v1), .val (.ref v2), .val (.int ((1 : Int32) + (1 : Int32)))] [])
  rw [(by decide : ((1 : Int32) + (1 : Int32)) = (2 : Int32))]
  show own_Fin p e below s _ _ _ s₁ (mkF m 29 #[.val (.ref v1), .val (.ref v2), .val (.int (2 : Int32))] [])
  refine own_by (fun _ k => XS.goto X0.here hx rfl (pc0 := 29) (pc' := 9) rfl (hb hby d11_29) (by decide) (by decide) (XS.iloadN X0.here hx rfl (hb hby d11_9) rfl (XS.aloadN X0.here hx rfl (hb hby d11_10) rfl rfl k))) ?_
  show own_Fin p e below s _ _ _ s₁ (mkF m 11 #[.val (.ref v1), .val (.ref v2), .val (.int (2 : Int32))] [(.ref v1), (.int (2 : Int32))])
  obtain ⟨cl33, Ar33, -, S33, M33, -, -⟩ := id V1
  refine own_by (fun _ k => X0.arraylength hx (by rw [e0]; exact Ar33.1) (State.isArrayOf_alike hZ.alike Ar33.2.1) (g := (mkF m 11 #[.val (.ref v1), .val (.ref v2), .val (.int (2 : Int32))] [(.ref v1), (.int (2 : Int32))])) rfl rfl (hb hby d11_11) _ k) ?_
  rw [len_of S33 M33]
  show own_Fin p e below s _ _ _ s₁ (mkF m 12 #[.val (.ref v1), .val (.ref v2), .val (.int (2 : Int32))] [(.int (4 : Int32)), (.int (2 : Int32))])
  refine own_by (fun _ k => XS.icmpNo X0.here hx rfl (hb hby d11_12) rfl (tlt (by decide : (2 : Int32) < (4 : Int32))).2.1 k) ?_
  show own_Fin p e below s _ _ _ s₁ (mkF m 15 #[.val (.ref v1), .val (.ref v2), .val (.int (2 : Int32))] [])
  refine own_by (fun _ k => XS.aloadN X0.here hx rfl (hb hby d11_15) rfl rfl (XS.iloadN X0.here hx rfl (hb hby d11_16) rfl k)) ?_
  show own_Fin p e below s _ _ _ s₁ (mkF m 17 #[.val (.ref v1), .val (.ref v2), .val (.int (2 : Int32))] [(.int (2 : Int32)), (.ref v1)])
  obtain ⟨cl34, Ar34, -, S34, M34, H34, -⟩ := id V1
  have hin34 : ¬ ((2 : Int32) < 0 ∨ cl34.slots.size ≤ ((2 : Int32)).toNatClampNeg) := inb_of S34 ⟨by decide, by decide⟩
  have hat34 : cl34.slots[((2 : Int32)).toNatClampNeg]? = some (.int (110 : Int32)) := Has.at H34 hin34 rfl
  refine own_by (fun _ k => X0.baloadBytes hx (j := (2 : Int32)) (v := (.int (110 : Int32))) (by rw [e0]; exact Ar34.1) (State.isArrayOf_alike hZ.alike Ar34.2.1) Ar34.2.2 hin34 hat34 (g := (mkF m 17 #[.val (.ref v1), .val (.ref v2), .val (.int (2 : Int32))] [(.int (2 : Int32)), (.ref v1)])) rfl rfl (hb hby d11_17) _ k) ?_
  show own_Fin p e below s _ _ _ s₁ (mkF m 18 #[.val (.ref v1), .val (.ref v2), .val (.int (2 : Int32))] [(.int (110 : Int32))])
  refine own_by (fun _ k => XS.aloadN X0.here hx rfl (hb hby d11_18) rfl rfl (XS.iloadN X0.here hx rfl (hb hby d11_19) rfl k)) ?_
  show own_Fin p e below s _ _ _ s₁ (mkF m 20 #[.val (.ref v1), .val (.ref v2), .val (.int (2 : Int32))] [(.int (2 : Int32)), (.ref v2), (.int (110 : Int32))])
  obtain ⟨cl35, Ar35, -, S35, M35, H35, -⟩ := id V2
  have hin35 : ¬ ((2 : Int32) < 0 ∨ cl35.slots.size ≤ ((2 : Int32)).toNatClampNeg) := inb_of S35 ⟨by decide, by decide⟩
  have hat35 : cl35.slots[((2 : Int32)).toNatClampNeg]? = some (.int (110 : Int32)) := Has.at H35 hin35 rfl
  refine own_by (fun _ k => X0.baloadBytes hx (j := (2 : Int32)) (v := (.int (110 : Int32))) (by rw [e0]; exact Ar35.1) (State.isArrayOf_alike hZ.alike Ar35.2.1) Ar35.2.2 hin35 hat35 (g := (mkF m 20 #[.val (.ref v1), .val (.ref v2), .val (.int (2 : Int32))] [(.int (2 : Int32)), (.ref v2), (.int (110 : Int32))])) rfl rfl (hb hby d11_20) _ k) ?_
  show own_Fin p e below s _ _ _ s₁ (mkF m 21 #[.val (.ref v1), .val (.ref v2), .val (.int (2 : Int32))] [(.int (110 : Int32)), (.int (110 : Int32))])
  refine own_by (fun _ k => XS.icmpYes X0.here hx rfl (pc0 := 21) (pc' := 26) rfl (hb hby d11_21) rfl (teq (by decide : (110 : Int32) = (110 : Int32))).1 (by decide) (by decide) k) ?_
  show own_Fin p e below s _ _ _ s₁ (mkF m 26 #[.val (.ref v1), .val (.ref v2), .val (.int (2 : Int32))] [])
  refine own_by (fun _ k => XS.iinc X0.here hx rfl (hb hby d11_26) rfl (l' := #[.val (.ref v1), .val (.ref v2), .val (.int ((2 : Int32) + (1 : Int32)))]) rfl k) ?_
  show own_Fin p e below s _ _ _ s₁ (mkF m 29 #[.val (.ref v1), .val (.ref v2), .val (.int ((2 : Int32) + (1 : Int32)))] [])
  rw [(by decide : ((2 : Int32) + (1 : Int32)) = (3 : Int32))]
  show own_Fin p e below s _ _ _ s₁ (mkF m 29 #[.val (.ref v1), .val (.ref v2), .val (.int (3 : Int32))] [])
  refine own_by (fun _ k => XS.goto X0.here hx rfl (pc0 := 29) (pc' := 9) rfl (hb hby d11_29) (by decide) (by decide) (XS.iloadN X0.here hx rfl (hb hby d11_9) rfl (XS.aloadN X0.here hx rfl (hb hby d11_10) rfl rfl k))) ?_
  show own_Fin p e below s _ _ _ s₁ (mkF m 11 #[.val (.ref v1), .val (.ref v2), .val (.int (3 : Int32))] [(.ref v1), (.int (3 : Int32))])
  obtain ⟨cl36, Ar36, -, S36, M36, -, -⟩ := id V1
  refine own_by (fun _ k => X0.arraylength hx (by rw [e0]; exact Ar36.1) (State.isArrayOf_alike hZ.alike Ar36.2.1) (g := (mkF m 11 #[.val (.ref v1), .val (.ref v2), .val (.int (3 : Int32))] [(.ref v1), (.int (3 : Int32))])) rfl rfl (hb hby d11_11) _ k) ?_
  rw [len_of S36 M36]
  show own_Fin p e below s _ _ _ s₁ (mkF m 12 #[.val (.ref v1), .val (.ref v2), .val (.int (3 : Int32))] [(.int (4 : Int32)), (.int (3 : Int32))])
  refine own_by (fun _ k => XS.icmpNo X0.here hx rfl (hb hby d11_12) rfl (tlt (by decide : (3 : Int32) < (4 : Int32))).2.1 k) ?_
  show own_Fin p e below s _ _ _ s₁ (mkF m 15 #[.val (.ref v1), .val (.ref v2), .val (.int (3 : Int32))] [])
  refine own_by (fun _ k => XS.aloadN X0.here hx rfl (hb hby d11_15) rfl rfl (XS.iloadN X0.here hx rfl (hb hby d11_16) rfl k)) ?_
  show own_Fin p e below s _ _ _ s₁ (mkF m 17 #[.val (.ref v1), .val (.ref v2), .val (.int (3 : Int32))] [(.int (3 : Int32)), (.ref v1)])
  obtain ⟨cl37, Ar37, -, S37, M37, H37, -⟩ := id V1
  have hin37 : ¬ ((3 : Int32) < 0 ∨ cl37.slots.size ≤ ((3 : Int32)).toNatClampNeg) := inb_of S37 ⟨by decide, by decide⟩
  have hat37 : cl37.slots[((3 : Int32)).toNatClampNeg]? = some (.int (103 : Int32)) := Has.at H37 hin37 rfl
  refine own_by (fun _ k => X0.baloadBytes hx (j := (3 : Int32)) (v := (.int (103 : Int32))) (by rw [e0]; exact Ar37.1) (State.isArrayOf_alike hZ.alike Ar37.2.1) Ar37.2.2 hin37 hat37 (g := (mkF m 17 #[.val (.ref v1), .val (.ref v2), .val (.int (3 : Int32))] [(.int (3 : Int32)), (.ref v1)])) rfl rfl (hb hby d11_17) _ k) ?_
  show own_Fin p e below s _ _ _ s₁ (mkF m 18 #[.val (.ref v1), .val (.ref v2), .val (.int (3 : Int32))] [(.int (103 : Int32))])
  refine own_by (fun _ k => XS.aloadN X0.here hx rfl (hb hby d11_18) rfl rfl (XS.iloadN X0.here hx rfl (hb hby d11_19) rfl k)) ?_
  show own_Fin p e below s _ _ _ s₁ (mkF m 20 #[.val (.ref v1), .val (.ref v2), .val (.int (3 : Int32))] [(.int (3 : Int32)), (.ref v2), (.int (103 : Int32))])
  obtain ⟨cl38, Ar38, -, S38, M38, H38, -⟩ := id V2
  have hin38 : ¬ ((3 : Int32) < 0 ∨ cl38.slots.size ≤ ((3 : Int32)).toNatClampNeg) := inb_of S38 ⟨by decide, by decide⟩
  have hat38 : cl38.slots[((3 : Int32)).toNatClampNeg]? = some (.int (103 : Int32)) := Has.at H38 hin38 rfl
  refine own_by (fun _ k => X0.baloadBytes hx (j := (3 : Int32)) (v := (.int (103 : Int32))) (by rw [e0]; exact Ar38.1) (State.isArrayOf_alike hZ.alike Ar38.2.1) Ar38.2.2 hin38 hat38 (g := (mkF m 20 #[.val (.ref v1), .val (.ref v2), .val (.int (3 : Int32))] [(.int (3 : Int32)), (.ref v2), (.int (103 : Int32))])) rfl rfl (hb hby d11_20) _ k) ?_
  show own_Fin p e below s _ _ _ s₁ (mkF m 21 #[.val (.ref v1), .val (.ref v2), .val (.int (3 : Int32))] [(.int (103 : Int32)), (.int (103 : Int32))])
  refine own_by (fun _ k => XS.icmpYes X0.here hx rfl (pc0 := 21) (pc' := 26) rfl (hb hby d11_21) rfl (teq (by decide : (103 : Int32) = (103 : Int32))).1 (by decide) (by decide) k) ?_
  show own_Fin p e below s _ _ _ s₁ (mkF m 26 #[.val (.ref v1), .val (.ref v2), .val (.int (3 : Int32))] [])
  refine own_by (fun _ k => XS.iinc X0.here hx rfl (hb hby d11_26) rfl (l' := #[.val (.ref v1), .val (.ref v2), .val (.int ((3 : Int32) + (1 : Int32)))]) rfl k) ?_
  show own_Fin p e below s _ _ _ s₁ (mkF m 29 #[.val (.ref v1), .val (.ref v2), .val (.int ((3 : Int32) + (1 : Int32)))] [])
  rw [(by decide : ((3 : Int32) + (1 : Int32)) = (4 : Int32))]
  show own_Fin p e below s _ _ _ s₁ (mkF m 29 #[.val (.ref v1), .val (.ref v2), .val (.int (4 : Int32))] [])
  refine own_by (fun _ k => XS.goto X0.here hx rfl (pc0 := 29) (pc' := 9) rfl (hb hby d11_29) (by decide) (by decide) (XS.iloadN X0.here hx rfl (hb hby d11_9) rfl (XS.aloadN X0.here hx rfl (hb hby d11_10) rfl rfl k))) ?_
  show own_Fin p e below s _ _ _ s₁ (mkF m 11 #[.val (.ref v1), .val (.ref v2), .val (.int (4 : Int32))] [(.ref v1), (.int (4 : Int32))])
  obtain ⟨cl39, Ar39, -, S39, M39, -, -⟩ := id V1
  refine own_by (fun _ k => X0.arraylength hx (by rw [e0]; exact Ar39.1) (State.isArrayOf_alike hZ.alike Ar39.2.1) (g := (mkF m 11 #[.val (.ref v1), .val (.ref v2), .val (.int (4 : Int32))] [(.ref v1), (.int (4 : Int32))])) rfl rfl (hb hby d11_11) _ k) ?_
  rw [len_of S39 M39]
  show own_Fin p e below s _ _ _ s₁ (mkF m 12 #[.val (.ref v1), .val (.ref v2), .val (.int (4 : Int32))] [(.int (4 : Int32)), (.int (4 : Int32))])
  refine own_by (fun _ k => XS.icmpYes X0.here hx rfl (pc0 := 12) (pc' := 32) rfl (hb hby d11_12) rfl (flt (by decide : ¬ ((4 : Int32) < (4 : Int32)))).2.1 (by decide) (by decide) k) ?_
  show own_Fin p e below s _ _ _ s₁ (mkF m 32 #[.val (.ref v1), .val (.ref v2), .val (.int (4 : Int32))] [])
  refine own_by (fun _ k => XS.iconst X0.here hx rfl (hb hby d11_32) k) ?_
  show own_Fin p e below s _ _ _ s₁ (mkF m 33 #[.val (.ref v1), .val (.ref v2), .val (.int (4 : Int32))] [(.int (1 : Int32))])
  exact own_retZ X0 hx hlk (t := .boolean) hret (by simp) (hb hby d11_33) ⟨rfl, N0, e0⟩ (by decide) (by decide)
theorem d10_0 : decode jdk_42_method_66_code 0 = .ok (.aload_n 0, 1) := by decide +kernel
theorem d10_1 : decode jdk_42_method_66_code 1 = .ok (.aload_n 1, 1) := by decide +kernel
theorem d10_2 : decode jdk_42_method_66_code 2 = .ok (.if_acmp .ne 5, 3) := by decide +kernel
theorem d10_5 : decode jdk_42_method_66_code 5 = .ok (.iconst 1, 1) := by decide +kernel
theorem d10_6 : decode jdk_42_method_66_code 6 = .ok (.ireturn, 1) := by decide +kernel
theorem d10_7 : decode jdk_42_method_66_code 7 = .ok (.aload_n 1, 1) := by decide +kernel
theorem d10_8 : decode jdk_42_method_66_code 8 = .ok (.instanceof 10, 3) := by decide +kernel
theorem d10_11 : decode jdk_42_method_66_code 11 = .ok (.ifCond .eq 43, 3) := by decide +kernel
theorem d10_14 : decode jdk_42_method_66_code 14 = .ok (.aload_n 1, 1) := by decide +kernel
theorem d10_15 : decode jdk_42_method_66_code 15 = .ok (.checkcast 10, 3) := by decide +kernel
theorem d10_18 : decode jdk_42_method_66_code 18 = .ok (.astore_n 2, 1) := by decide +kernel
theorem d10_19 : decode jdk_42_method_66_code 19 = .ok (.getstatic 38, 3) := by decide +kernel
theorem d10_22 : decode jdk_42_method_66_code 22 = .ok (.ifCond .eq 14, 3) := by decide +kernel
theorem d10_25 : decode jdk_42_method_66_code 25 = .ok (.aload_n 0, 1) := by decide +kernel
theorem d10_26 : decode jdk_42_method_66_code 26 = .ok (.getfield 15, 3) := by decide +kernel
theorem d10_29 : decode jdk_42_method_66_code 29 = .ok (.aload_n 2, 1) := by decide +kernel
theorem d10_30 : decode jdk_42_method_66_code 30 = .ok (.getfield 15, 3) := by decide +kernel
theorem d10_33 : decode jdk_42_method_66_code 33 = .ok (.if_icmp .ne 21, 3) := by decide +kernel
theorem d10_36 : decode jdk_42_method_66_code 36 = .ok (.aload_n 0, 1) := by decide +kernel
theorem d10_37 : decode jdk_42_method_66_code 37 = .ok (.getfield 9, 3) := by decide +kernel
theorem d10_40 : decode jdk_42_method_66_code 40 = .ok (.aload_n 2, 1) := by decide +kernel
theorem d10_41 : decode jdk_42_method_66_code 41 = .ok (.getfield 9, 3) := by decide +kernel
theorem d10_44 : decode jdk_42_method_66_code 44 = .ok (.invokestatic 541, 3) := by decide +kernel
theorem own_pd125 : parseMethodDescriptor "([B[B)Z" = some ⟨[(.array .byte), (.array .byte)], some .boolean⟩ := by decide +kernel
theorem d10_47 : decode jdk_42_method_66_code 47 = .ok (.ifCond .eq 7, 3) := by decide +kernel
theorem d10_50 : decode jdk_42_method_66_code 50 = .ok (.iconst 1, 1) := by decide +kernel
theorem d10_51 : decode jdk_42_method_66_code 51 = .ok (.goto 4, 3) := by decide +kernel
theorem d10_55 : decode jdk_42_method_66_code 55 = .ok (.ireturn, 1) := by decide +kernel
theorem ef_rmQ1 (m : MethodId) (x0 : Addr) (x1 : Addr) : entryFrame m #[(.ref x0), (.ref x1)] 3 = mkF m 0 #[.val (.ref x0), .val (.ref x1), .unset] [] := by first | (simp [entryFrame, mkF, argsToLocals, Value.category]; done) | rfl
set_option maxRecDepth 65536 in
set_option maxHeartbeats 40000000 in
theorem rmQ1 (l : Launch) (Z : State) (a0 : Array Value) (hw : ∀ d ∈ tables_1, d.before a0 Z = true) (ws : List Jvm.Cond) (a1 a2 v1 v2 : Addr) (k1 k2 : ClassId) (cs : Int32) (h0 : Heap) (n0 : Nat) (Z0 : n0 ≤ h0.size) (E_a2 : Exa Z h0 a2 "java/lang/String") (F_c1 : Fld Z h0 a1 "java/lang/String" "coder" "B" (.int (0 : Int32))) (F_v1 : Fld Z h0 a1 "java/lang/String" "value" "[B" (.ref v1)) (F_c2 : Fld Z h0 a2 "java/lang/String" "coder" "B" (.int (0 : Int32))) (F_v2 : Fld Z h0 a2 "java/lang/String" "value" "[B" (.ref v2)) (V1 : Arv Z h0 v1 k1 .byte (4 : Int32) [(.int (108 : Int32)), (.int (111 : Int32)), (.int (110 : Int32)), (.int (103 : Int32))] (.int (0 : Int32))) (V2 : Arv Z h0 v2 k2 .byte (4 : Int32) [(.int (108 : Int32)), (.int (111 : Int32)), (.int (110 : Int32)), (.int (103 : Int32))] (.int (0 : Int32))) (S_cs : Sta Z h0 "java/lang/String" "COMPACT_STRINGS" "Z" (.int cs)) (hcs : ¬ cs = (0 : Int32)) : own_Met l Z (⟨"java/lang/String", "equals", "(Ljava/lang/Object;)Z"⟩ : MethodName) jdk_42_method_66_code 3 (some .boolean) ws (own_R 1 0 0 14) #[(.ref a1), (.ref a2)] h0 (own_QrmQ1 h0 n0) := by
  refine own_enter n0 own_pn48 (fun m => ef_rmQ1 m a1 a2 ) (fun p e s m below meth c s₁ hx hby hlk hml hret hown hnm hZ X0 e0 N0 => ?_)
  show own_Fin p e below s _ _ _ s₁ (mkF m 0 #[.val (.ref a1), .val (.ref a2), .unset] [])
  refine own_by (fun _ k => XS.aloadN X0.here hx rfl (hb hby d10_0) rfl rfl (XS.aloadN X0.here hx rfl (hb hby d10_1) rfl rfl k)) ?_
  show own_Fin p e below s _ _ _ s₁ (mkF m 2 #[.val (.ref a1), .val (.ref a2), .unset] [(.ref a2), (.ref a1)])
  by_cases ha2_40 : a1 = a2
  · show own_Fin p e below s _ _ _ s₁ (mkF m 2 #[.val (.ref a1), .val (.ref a2), .unset] [(.ref a2), (.ref a1)])
    refine own_by (fun _ k => Jvm.RoadKit.acmp (g := (mkF m 2 #[.val (.ref a1), .val (.ref a2), .unset] [(.ref a2), (.ref a1)])) X0 hx rfl rfl rfl (pc0 := 2) (pc' := 5) (same := true) rfl (hb hby d10_2) rfl (decide_eq_true (congrArg Value.ref ha2_40)) (by decide) (by decide) k) ?_
    show own_Fin p e below s _ _ _ s₁ (mkF m 5 #[.val (.ref a1), .val (.ref a2), .unset] [])
    refine own_by (fun _ k => XS.iconst X0.here hx rfl (hb hby d10_5) k) ?_
    show own_Fin p e below s _ _ _ s₁ (mkF m 6 #[.val (.ref a1), .val (.ref a2), .unset] [(.int (1 : Int32))])
    exact own_retZ X0 hx hlk (t := .boolean) hret (by simp) (hb hby d10_6) ⟨rfl, N0, e0⟩ (by decide) (by decide)
  · show own_Fin p e below s _ _ _ s₁ (mkF m 2 #[.val (.ref a1), .val (.ref a2), .unset] [(.ref a2), (.ref a1)])
    refine own_by (fun _ k => Jvm.RoadKit.acmp (g := (mkF m 2 #[.val (.ref a1), .val (.ref a2), .unset] [(.ref a2), (.ref a1)])) X0 hx rfl rfl rfl (pc0 := 2) (pc' := 7) (same := false) rfl (hb hby d10_2) rfl (decide_eq_false fun q => ha2_40 (Value.ref.inj q)) (by decide) (by decide) k) ?_
    show own_Fin p e below s _ _ _ s₁ (mkF m 7 #[.val (.ref a1), .val (.ref a2), .unset] [])
    refine own_by (fun _ k => XS.aloadN X0.here hx rfl (hb hby d10_7) rfl rfl k) ?_
    show own_Fin p e below s _ _ _ s₁ (mkF m 8 #[.val (.ref a1), .val (.ref a2), .unset] [(.ref a2)])
    obtain ⟨T41, X41, e41, st41⟩ := instY X0 hx hZ hown (hw _ (List.mem_of_getElem? (i := 74) rfl)) e0 (Ins.self E_a2) (g := (mkF m 8 #[.val (.ref a1), .val (.ref a2), .unset] [(.ref a2)])) rfl rfl (hb hby d10_8)
    refine own_by (fun _ k => st41 _ k) ?_
    show own_Fin p e below s _ _ _ T41 (mkF m 11 #[.val (.ref a1), .val (.ref a2), .unset] [(.int (1 : Int32))])
    refine own_by (fun _ k => XS.ifNo X41.here hx rfl (hb hby d10_11) rfl ((if0 _ _).trans (feq (by decide : ¬ ((1 : Int32) = (0 : Int32)))).1) k) ?_
    show own_Fin p e below s _ _ _ T41 (mkF m 14 #[.val (.ref a1), .val (.ref a2), .unset] [])
    refine own_by (fun _ k => XS.aloadN X41.here hx rfl (hb hby d10_14) rfl rfl k) ?_
    show own_Fin p e below s _ _ _ T41 (mkF m 15 #[.val (.ref a1), .val (.ref a2), .unset] [(.ref a2)])
    obtain ⟨T42, X42, e42, st42⟩ := castY X41 hx hZ hown (hw _ (List.mem_of_getElem? (i := 74) rfl)) e41 (Ins.self E_a2) (g := (mkF m 15 #[.val (.ref a1), .val (.ref a2), .unset] [(.ref a2)])) rfl rfl (hb hby d10_15)
    refine own_by (fun _ k => st42 _ k) ?_
    show own_Fin p e below s _ _ _ T42 (mkF m 18 #[.val (.ref a1), .val (.ref a2), .unset] [(.ref a2)])
    refine own_by (fun _ k => XS.astoreN X42.here hx rfl (hb hby d10_18) rfl rfl (l' := #[.val (.ref a1), .val (.ref a2), .val (.ref a2)]) rfl k) ?_
    show own_Fin p e below s _ _ _ T42 (mkF m 19 #[.val (.ref a1), .val (.ref a2), .val (.ref a2)] [])
    obtain ⟨T43, X43, e43, st43⟩ := getS2 X42 hx hZ hown (host := "") (Or.inl (hw _ (List.mem_of_getElem? (i := 76) rfl))) Via.refl e42 S_cs (g := (mkF m 19 #[.val (.ref a1), .val (.ref a2), .val (.ref a2)] [])) rfl (hb hby d10_19)
    refine own_by (fun _ k => st43 _ k) ?_
    show own_Fin p e below s _ _ _ T43 (mkF m 22 #[.val (.ref a1), .val (.ref a2), .val (.ref a2)] [(.int cs)])
    refine own_by (fun _ k => XS.ifNo X43.here hx rfl (hb hby d10_22) rfl ((if0 _ _).trans (feq hcs).1) k) ?_
    show own_Fin p e below s _ _ _ T43 (mkF m 25 #[.val (.ref a1), .val (.ref a2), .val (.ref a2)] [])
    refine own_by (fun _ k => XS.aloadN X43.here hx rfl (hb hby d10_25) rfl rfl k) ?_
    show own_Fin p e below s _ _ _ T43 (mkF m 26 #[.val (.ref a1), .val (.ref a2), .val (.ref a2)] [(.ref a1)])
    obtain ⟨T44, X44, e44, st44⟩ := getF X43 hx hZ hown (host := "") (Or.inl (hw _ (List.mem_of_getElem? (i := 77) rfl))) Via.refl e43 F_c1 (g := (mkF m 26 #[.val (.ref a1), .val (.ref a2), .val (.ref a2)] [(.ref a1)])) rfl rfl (hb hby d10_26)
    refine own_by (fun _ k => st44 _ k) ?_
    show own_Fin p e below s _ _ _ T44 (mkF m 29 #[.val (.ref a1), .val (.ref a2), .val (.ref a2)] [(.int (0 : Int32))])
    refine own_by (fun _ k => XS.aloadN X44.here hx rfl (hb hby d10_29) rfl rfl k) ?_
    show own_Fin p e below s _ _ _ T44 (mkF m 30 #[.val (.ref a1), .val (.ref a2), .val (.ref a2)] [(.ref a2), (.int (0 : Int32))])
    obtain ⟨T45, X45, e45, st45⟩ := getF X44 hx hZ hown (host := "") (Or.inl (hw _ (List.mem_of_getElem? (i := 77) rfl))) Via.refl e44 F_c2 (g := (mkF m 30 #[.val (.ref a1), .val (.ref a2), .val (.ref a2)] [(.ref a2), (.int (0 : Int32))])) rfl rfl (hb hby d10_30)
    refine own_by (fun _ k => st45 _ k) ?_
    show own_Fin p e below s _ _ _ T45 (mkF m 33 #[.val (.ref a1), .val (.ref a2), .val (.ref a2)] [(.int (0 : Int32)), (.int (0 : Int32))])
    refine own_by (fun _ k => XS.icmpNo X45.here hx rfl (hb hby d10_33) rfl (teq (by decide : (0 : Int32) = (0 : Int32))).2 k) ?_
    show own_Fin p e below s _ _ _ T45 (mkF m 36 #[.val (.ref a1), .val (.ref a2), .val (.ref a2)] [])
    refine own_by (fun _ k => XS.aloadN X45.here hx rfl (hb hby d10_36) rfl rfl k) ?_
    show own_Fin p e below s _ _ _ T45 (mkF m 37 #[.val (.ref a1), .val (.ref a2), .val (.ref a2)] [(.ref a1)])
    obtain ⟨T46, X46, e46, st46⟩ := getF X45 hx hZ hown (host := "") (Or.inl (hw _ (List.mem_of_getElem? (i := 68) rfl))) Via.refl e45 F_v1 (g := (mkF m 37 #[.val (.ref a1), .val (.ref a2), .val (.ref a2)] [(.ref a1)])) rfl rfl (hb hby d10_37)
    refine own_by (fun _ k => st46 _ k) ?_
    show own_Fin p e below s _ _ _ T46 (mkF m 40 #[.val (.ref a1), .val (.ref a2), .val (.ref a2)] [(.ref v1)])
    refine own_by (fun _ k => XS.aloadN X46.here hx rfl (hb hby d10_40) rfl rfl k) ?_
    show own_Fin p e below s _ _ _ T46 (mkF m 41 #[.val (.ref a1), .val (.ref a2), .val (.ref a2)] [(.ref a2), (.ref v1)])
    obtain ⟨T47, X47, e47, st47⟩ := getF X46 hx hZ hown (host := "") (Or.inl (hw _ (List.mem_of_getElem? (i := 68) rfl))) Via.refl e46 F_v2 (g := (mkF m 41 #[.val (.ref a1), .val (.ref a2), .val (.ref a2)] [(.ref a2), (.ref v1)])) rfl rfl (hb hby d10_41)
    refine own_by (fun _ k => st47 _ k) ?_
    show own_Fin p e below s _ _ _ T47 (mkF m 44 #[.val (.ref a1), .val (.ref a2), .val (.ref a2)] [(.ref v2), (.ref v1)])
    obtain ⟨_, _, ⟨T48, L48, k48, n48⟩, -, X48, ⟨Lc48, hQ48, l48, y48, z48⟩, st48⟩ := Jvm.LawKit.callS X47 hx (y := (⟨"java/lang/StringLatin1", "equals", "([B[B)Z"⟩ : MethodName)) hown (mvT hZ (hw _ (List.mem_of_getElem? (i := 78) rfl))) (mvT hZ (hw _ (List.mem_of_getElem? (i := 79) rfl))) (mvT hZ (hw _ (List.mem_of_getElem? (i := 80) rfl))) (mvT hZ (hw _ (List.mem_of_getElem? (i := 81) rfl))) (by decide) (backOf (W := 0) (rmA1 l Z a0 hw [] v1 v2 k1 k2 h0 n0 Z0 V1 V2) hZ (hw _ (List.mem_of_getElem? (i := 81) rfl)) (hw _ (List.mem_of_getElem? (i := 80) rfl)) (by decide) (by decide)) (g := (mkF m 44 #[.val (.ref a1), .val (.ref a2), .val (.ref a2)] [(.ref v2), (.ref v1)])) rfl (by rw [hml]; rfl) (argsL := [(.ref v1), (.ref v2)]) (rest := []) (lenOf own_pd125 rfl) rfl (by show 2 * 0 + _ ≤ _; exact Nat.le_of_eq rfl) (hb hby d10_44) (fun _ _ => ⟨rfl, e47, (by decide : 0 + 0 ≤ _), (by decide : 0 + 0 ≤ _)⟩)
    dsimp only [Pt.U, Pt.locs, Pt.cells, Pt.slots] at X48 l48 y48 z48 st48 hQ48
    subst l48 y48 z48
    obtain ⟨rfl, Nq48, eh48⟩ := hQ48
    have N48 := Fr.app N0 Nq48
    refine own_by (fun _ k => st48 _ k) ?_
    show own_Fin p e below s _ _ _ T48 (mkF m 47 #[.val (.ref a1), .val (.ref a2), .val (.ref a2)] [(.int (1 : Int32))])
    refine own_by (fun _ k => XS.ifNo X48.here hx rfl (hb hby d10_47) rfl ((if0 _ _).trans (feq (by decide : ¬ ((1 : Int32) = (0 : Int32)))).1) k) ?_
    show own_Fin p e below s _ _ _ T48 (mkF m 50 #[.val (.ref a1), .val (.ref a2), .val (.ref a2)] [])
    refine own_by (fun _ k => XS.iconst X48.here hx rfl (hb hby d10_50) (XS.goto X48.here hx rfl (pc0 := 51) (pc' := 55) rfl (hb hby d10_51) (by decide) (by decide) k)) ?_
    show own_Fin p e below s _ _ _ T48 (mkF m 55 #[.val (.ref a1), .val (.ref a2), .val (.ref a2)] [(.int (1 : Int32))])
    exact own_retZ X48 hx hlk (t := .boolean) hret (by simp) (hb hby d10_55) ⟨rfl, N48, eh48⟩ (by decide) (by decide)
theorem ef_rmA0 (m : MethodId) (x0 : Addr) (x1 : Addr) : entryFrame m #[(.ref x0), (.ref x1)] 3 = mkF m 0 #[.val (.ref x0), .val (.ref x1), .unset] [] := by first | (simp [entryFrame, mkF, argsToLocals, Value.category]; done) | rfl
def own_QrmQ0 (h0 : Heap) (n0 : Nat) (v : Option Value) (h : Heap) (L : List Loc) : Prop := v = some (.int (1 : Int32)) ∧ Fr n0 L ∧ h = h0
set_option maxRecDepth 65536 in
set_option maxHeartbeats 40000000 in
theorem rmA0 (l : Launch) (Z : State) (a0 : Array Value) (hw : ∀ d ∈ tables_1, d.before a0 Z = true) (ws : List Jvm.Cond) (v1 v2 : Addr) (k1 k2 : ClassId) (h0 : Heap) (n0 : Nat) (Z0 : n0 ≤ h0.size) (V1 : Arv Z h0 v1 k1 .byte (13 : Int32) [(.int (117 : Int32)), (.int (110 : Int32)), (.int (115 : Int32)), (.int (105 : Int32)), (.int (103 : Int32)), (.int (110 : Int32)), (.int (101 : Int32)), (.int (100 : Int32)), (.int (32 : Int32)), (.int (108 : Int32)), (.int (111 : Int32)), (.int (110 : Int32)), (.int (103 : Int32))] (.int (0 : Int32))) (V2 : Arv Z h0 v2 k2 .byte (13 : Int32) [(.int (117 : Int32)), (.int (110 : Int32)), (.int (115 : Int32)), (.int (105 : Int32)), (.int (103 : Int32)), (.int (110 : Int32)), (.int (101 : Int32)), (.int (100 : Int32)), (.int (32 : Int32)), (.int (108 : Int32)), (.int (111 : Int32)), (.int (110 : Int32)), (.int (103 : Int32))] (.int (0 : Int32))) : own_Met l Z (⟨"java/lang/StringLatin1", "equals", "([B[B)Z"⟩ : MethodName) jdk_43_method_13_code 3 (some .boolean) ws (own_R 0 0 0 0) #[(.ref v1), (.ref v2)] h0 (own_QrmQ0 h0 n0) := by
  refine own_enter n0 own_pn78 (fun m => ef_rmA0 m v1 v2 ) (fun p e s m below meth c s₁ hx hby hlk hml hret hown hnm hZ X0 e0 N0 => ?_)
  show own_Fin p e below s _ _ _ s₁ (mkF m 0 #[.val (.ref v1), .val (.ref v2), .unset] [])
  refine own_by (fun _ k => XS.aloadN X0.here hx rfl (hb hby d11_0) rfl rfl k) ?_
  show own_Fin p e below s _ _ _ s₁ (mkF m 1 #[.val (.ref v1), .val (.ref v2), .unset] [(.ref v1)])
  obtain ⟨cl49, Ar49, -, S49, M49, -, -⟩ := id V1
  refine own_by (fun _ k => X0.arraylength hx (by rw [e0]; exact Ar49.1) (State.isArrayOf_alike hZ.alike Ar49.2.1) (g := (mkF m 1 #[.val (.ref v1), .val (.ref v2), .unset] [(.ref v1)])) rfl rfl (hb hby d11_1) _ k) ?_
  rw [len_of S49 M49]
  show own_Fin p e below s _ _ _ s₁ (mkF m 2 #[.val (.ref v1), .val (.ref v2), .unset] [(.int (13 : Int32))])
  refine own_by (fun _ k => XS.aloadN X0.here hx rfl (hb hby d11_2) rfl rfl k) ?_
  show own_Fin p e below s _ _ _ s₁ (mkF m 3 #[.val (.ref v1), .val (.ref v2), .unset] [(.ref v2), (.int (13 : Int32))])
  obtain ⟨cl50, Ar50, -, S50, M50, -, -⟩ := id V2
  refine own_by (fun _ k => X0.arraylength hx (by rw [e0]; exact Ar50.1) (State.isArrayOf_alike hZ.alike Ar50.2.1) (g := (mkF m 3 #[.val (.ref v1), .val (.ref v2), .unset] [(.ref v2), (.int (13 : Int32))])) rfl rfl (hb hby d11_3) _ k) ?_
  rw [len_of S50 M50]
  show own_Fin p e below s _ _ _ s₁ (mkF m 4 #[.val (.ref v1), .val (.ref v2), .unset] [(.int (13 : Int32)), (.int (13 : Int32))])
  refine own_by (fun _ k => XS.icmpNo X0.here hx rfl (hb hby d11_4) rfl (teq (by decide : (13 : Int32) = (13 : Int32))).2 k) ?_
  show own_Fin p e below s _ _ _ s₁ (mkF m 7 #[.val (.ref v1), .val (.ref v2), .unset] [])
  refine own_by (fun _ k => XS.iconst X0.here hx rfl (hb hby d11_7) (XS.istoreN X0.here hx rfl (hb hby d11_8) rfl (l' := #[.val (.ref v1), .val (.ref v2), .val (.int (0 : Int32))]) rfl (XS.iloadN X0.here hx rfl (hb hby d11_9) rfl (XS.aloadN X0.here hx rfl (hb hby d11_10) rfl rfl k)))) ?_
  show own_Fin p e below s _ _ _ s₁ (mkF m 11 #[.val (.ref v1), .val (.ref v2), .val (.int (0 : Int32))] [(.ref v1), (.int (0 : Int32))])
  obtain ⟨cl51, Ar51, -, S51, M51, -, -⟩ := id V1
  refine own_by (fun _ k => X0.arraylength hx (by rw [e0]; exact Ar51.1) (State.isArrayOf_alike hZ.alike Ar51.2.1) (g := (mkF m 11 #[.val (.ref v1), .val (.ref v2), .val (.int (0 : Int32))] [(.ref v1), (.int (0 : Int32))])) rfl rfl (hb hby d11_11) _ k) ?_
  rw [len_of S51 M51]
  show own_Fin p e below s _ _ _ s₁ (mkF m 12 #[.val (.ref v1), .val (.ref v2), .val (.int (0 : Int32))] [(.int (13 : Int32)), (.int (0 : Int32))])
  refine own_by (fun _ k => XS.icmpNo X0.here hx rfl (hb hby d11_12) rfl (tlt (by decide : (0 : Int32) < (13 : Int32))).2.1 k) ?_
  show own_Fin p e below s _ _ _ s₁ (mkF m 15 #[.val (.ref v1), .val (.ref v2), .val (.int (0 : Int32))] [])
  refine own_by (fun _ k => XS.aloadN X0.here hx rfl (hb hby d11_15) rfl rfl (XS.iloadN X0.here hx rfl (hb hby d11_16) rfl k)) ?_
  show own_Fin p e below s _ _ _ s₁ (mkF m 17 #[.val (.ref v1), .val (.ref v2), .val (.int (0 : Int32))] [(.int (0 : Int32)), (.ref v1)])
  obtain ⟨cl52, Ar52, -, S52, M52, H52, -⟩ := id V1
  have hin52 : ¬ ((0 : Int32) < 0 ∨ cl52.slots.size ≤ ((0 : Int32)).toNatClampNeg) := inb_of S52 ⟨by decide, by decide⟩
  have hat52 : cl52.slots[((0 : Int32)).toNatClampNeg]? = some (.int (117 : Int32)) := Has.at H52 hin52 rfl
  refine own_by (fun _ k => X0.baloadBytes hx (j := (0 : Int32)) (v := (.int (117 : Int32))) (by rw [e0]; exact Ar52.1) (State.isArrayOf_alike hZ.alike Ar52.2.1) Ar52.2.2 hin52 hat52 (g := (mkF m 17 #[.val (.ref v1), .val (.ref v2), .val (.int (0 : Int32))] [(.int (0 : Int32)), (.ref v1)])) rfl rfl (hb hby d11_17) _ k) ?_
  show own_Fin p e below s _ _ _ s₁ (mkF m 18 #[.val (.ref v1), .val (.ref v2), .val (.int (0 : Int32))] [(.int (117 : Int32))])
  refine own_by (fun _ k => XS.aloadN X0.here hx rfl (hb hby d11_18) rfl rfl (XS.iloadN X0.here hx rfl (hb hby d11_19) rfl k)) ?_
  show own_Fin p e below s _ _ _ s₁ (mkF m 20 #[.val (.ref v1), .val (.ref v2), .val (.int (0 : Int32))] [(.int (0 : Int32)), (.ref v2), (.int (117 : Int32))])
  obtain ⟨cl53, Ar53, -, S53, M53, H53, -⟩ := id V2
  have hin53 : ¬ ((0 : Int32) < 0 ∨ cl53.slots.size ≤ ((0 : Int32)).toNatClampNeg) := inb_of S53 ⟨by decide, by decide⟩
  have hat53 : cl53.slots[((0 : Int32)).toNatClampNeg]? = some (.int (117 : Int32)) := Has.at H53 hin53 rfl
  refine own_by (fun _ k => X0.baloadBytes hx (j := (0 : Int32)) (v := (.int (117 : Int32))) (by rw [e0]; exact Ar53.1) (State.isArrayOf_alike hZ.alike Ar53.2.1) Ar53.2.2 hin53 hat53 (g := (mkF m 20 #[.val (.ref v1), .val (.ref v2), .val (.int (0 : Int32))] [(.int (0 : Int32)), (.ref v2), (.int (117 : Int32))])) rfl rfl (hb hby d11_20) _ k) ?_
  show own_Fin p e below s _ _ _ s₁ (mkF m 21 #[.val (.ref v1), .val (.ref v2), .val (.int (0 : Int32))] [(.int (117 : Int32)), (.int (117 : Int32))])
  refine own_by (fun _ k => XS.icmpYes X0.here hx rfl (pc0 := 21) (pc' := 26) rfl (hb hby d11_21) rfl (teq (by decide : (117 : Int32) = (117 : Int32))).1 (by decide) (by decide) k) ?_
  show own_Fin p e below s _ _ _ s₁ (mkF m 26 #[.val (.ref v1), .val (.ref v2), .val (.int (0 : Int32))] [])
  refine own_by (fun _ k => XS.iinc X0.here hx rfl (hb hby d11_26) rfl (l' := #[.val (.ref v1), .val (.ref v2), .val (.int ((0 : Int32) + (1 : Int32)))]) rfl k) ?_
  show own_Fin p e below s _ _ _ s₁ (mkF m 29 #[.val (.ref v1), .val (.ref v2), .val (.int ((0 : Int32) + (1 : Int32)))] [])
  rw [(by decide : ((0 : Int32) + (1 : Int32)) = (1 : Int32))]
  show own_Fin p e below s _ _ _ s₁ (mkF m 29 #[.val (.ref v1), .val (.ref v2), .val (.int (1 : Int32))] [])
  refine own_by (fun _ k => XS.goto X0.here hx rfl (pc0 := 29) (pc' := 9) rfl (hb hby d11_29) (by decide) (by decide) (XS.iloadN X0.here hx rfl (hb hby d11_9) rfl (XS.aloadN X0.here hx rfl (hb hby d11_10) rfl rfl k))) ?_
  show own_Fin p e below s _ _ _ s₁ (mkF m 11 #[.val (.ref v1), .val (.ref v2), .val (.int (1 : Int32))] [(.ref v1), (.int (1 : Int32))])
  obtain ⟨cl54, Ar54, -, S54, M54, -, -⟩ := id V1
  refine own_by (fun _ k => X0.arraylength hx (by rw [e0]; exact Ar54.1) (State.isArrayOf_alike hZ.alike Ar54.2.1) (g := (mkF m 11 #[.val (.ref v1), .val (.ref v2), .val (.int (1 : Int32))] [(.ref v1), (.int (1 : Int32))])) rfl rfl (hb hby d11_11) _ k) ?_
  rw [len_of S54 M54]
  show own_Fin p e below s _ _ _ s₁ (mkF m 12 #[.val (.ref v1), .val (.ref v2), .val (.int (1 : Int32))] [(.int (13 : Int32)), (.int (1 : Int32))])
  refine own_by (fun _ k => XS.icmpNo X0.here hx rfl (hb hby d11_12) rfl (tlt (by decide : (1 : Int32) < (13 : Int32))).2.1 k) ?_
  show own_Fin p e below s _ _ _ s₁ (mkF m 15 #[.val (.ref v1), .val (.ref v2), .val (.int (1 : Int32))] [])
  refine own_by (fun _ k => XS.aloadN X0.here hx rfl (hb hby d11_15) rfl rfl (XS.iloadN X0.here hx rfl (hb hby d11_16) rfl k)) ?_
  show own_Fin p e below s _ _ _ s₁ (mkF m 17 #[.val (.ref v1), .val (.ref v2), .val (.int (1 : Int32))] [(.int (1 : Int32)), (.ref v1)])
  obtain ⟨cl55, Ar55, -, S55, M55, H55, -⟩ := id V1
  have hin55 : ¬ ((1 : Int32) < 0 ∨ cl55.slots.size ≤ ((1 : Int32)).toNatClampNeg) := inb_of S55 ⟨by decide, by decide⟩
  have hat55 : cl55.slots[((1 : Int32)).toNatClampNeg]? = some (.int (110 : Int32)) := Has.at H55 hin55 rfl
  refine own_by (fun _ k => X0.baloadBytes hx (j := (1 : Int32)) (v := (.int (110 : Int32))) (by rw [e0]; exact Ar55.1) (State.isArrayOf_alike hZ.alike Ar55.2.1) Ar55.2.2 hin55 hat55 (g := (mkF m 17 #[.val (.ref v1), .val (.ref v2), .val (.int (1 : Int32))] [(.int (1 : Int32)), (.ref v1)])) rfl rfl (hb hby d11_17) _ k) ?_
  show own_Fin p e below s _ _ _ s₁ (mkF m 18 #[.val (.ref v1), .val (.ref v2), .val (.int (1 : Int32))] [(.int (110 : Int32))])
  refine own_by (fun _ k => XS.aloadN X0.here hx rfl (hb hby d11_18) rfl rfl (XS.iloadN X0.here hx rfl (hb hby d11_19) rfl k)) ?_
  show own_Fin p e below s _ _ _ s₁ (mkF m 20 #[.val (.ref v1), .val (.ref v2), .val (.int (1 : Int32))] [(.int (1 : Int32)), (.ref v2), (.int (110 : Int32))])
  obtain ⟨cl56, Ar56, -, S56, M56, H56, -⟩ := id V2
  have hin56 : ¬ ((1 : Int32) < 0 ∨ cl56.slots.size ≤ ((1 : Int32)).toNatClampNeg) := inb_of S56 ⟨by decide, by decide⟩
  have hat56 : cl56.slots[((1 : Int32)).toNatClampNeg]? = some (.int (110 : Int32)) := Has.at H56 hin56 rfl
  refine own_by (fun _ k => X0.baloadBytes hx (j := (1 : Int32)) (v := (.int (110 : Int32))) (by rw [e0]; exact Ar56.1) (State.isArrayOf_alike hZ.alike Ar56.2.1) Ar56.2.2 hin56 hat56 (g := (mkF m 20 #[.val (.ref v1), .val (.ref v2), .val (.int (1 : Int32))] [(.int (1 : Int32)), (.ref v2), (.int (110 : Int32))])) rfl rfl (hb hby d11_20) _ k) ?_
  show own_Fin p e below s _ _ _ s₁ (mkF m 21 #[.val (.ref v1), .val (.ref v2), .val (.int (1 : Int32))] [(.int (110 : Int32)), (.int (110 : Int32))])
  refine own_by (fun _ k => XS.icmpYes X0.here hx rfl (pc0 := 21) (pc' := 26) rfl (hb hby d11_21) rfl (teq (by decide : (110 : Int32) = (110 : Int32))).1 (by decide) (by decide) k) ?_
  show own_Fin p e below s _ _ _ s₁ (mkF m 26 #[.val (.ref v1), .val (.ref v2), .val (.int (1 : Int32))] [])
  refine own_by (fun _ k => XS.iinc X0.here hx rfl (hb hby d11_26) rfl (l' := #[.val (.ref v1), .val (.ref v2), .val (.int ((1 : Int32) + (1 : Int32)))]) rfl k) ?_
  show own_Fin p e below s _ _ _ s₁ (mkF m 29 #[.val (.ref v1), .val (.ref v2), .val (.int ((1 : Int32) + (1 : Int32)))] [])
  rw [(by decide : ((1 : Int32) + (1 : Int32)) = (2 : Int32))]
  show own_Fin p e below s _ _ _ s₁ (mkF m 29 #[.val (.ref v1), .val (.ref v2), .val (.int (2 : Int32))] [])
  refine own_by (fun _ k => XS.goto X0.here hx rfl (pc0 := 29) (pc' := 9) rfl (hb hby d11_29) (by decide) (by decide) (XS.iloadN X0.here hx rfl (hb hby d11_9) rfl (XS.aloadN X0.here hx rfl (hb hby d11_10) rfl rfl k))) ?_
  show own_Fin p e below s _ _ _ s₁ (mkF m 11 #[.val (.ref v1), .val (.ref v2), .val (.int (2 : Int32))] [(.ref v1), (.int (2 : Int32))])
  obtain ⟨cl57, Ar57, -, S57, M57, -, -⟩ := id V1
  refine own_by (fun _ k => X0.arraylength hx (by rw [e0]; exact Ar57.1) (State.isArrayOf_alike hZ.alike Ar57.2.1) (g := (mkF m 11 #[.val (.ref v1), .val (.ref v2), .val (.int (2 : Int32))] [(.ref v1), (.int (2 : Int32))])) rfl rfl (hb hby d11_11) _ k) ?_
  rw [len_of S57 M57]
  show own_Fin p e below s _ _ _ s₁ (mkF m 12 #[.val (.ref v1), .val (.ref v2), .val (.int (2 : Int32))] [(.int (13 : Int32)), (.int (2 : Int32))])
  refine own_by (fun _ k => XS.icmpNo X0.here hx rfl (hb hby d11_12) rfl (tlt (by decide : (2 : Int32) < (13 : Int32))).2.1 k) ?_
  show own_Fin p e below s _ _ _ s₁ (mkF m 15 #[.val (.ref v1), .val (.ref v2), .val (.int (2 : Int32))] [])
  refine own_by (fun _ k => XS.aloadN X0.here hx rfl (hb hby d11_15) rfl rfl (XS.iloadN X0.here hx rfl (hb hby d11_16) rfl k)) ?_
  show own_Fin p e below s _ _ _ s₁ (mkF m 17 #[.val (.ref v1), .val (.ref v2), .val (.int (2 : Int32))] [(.int (2 : Int32)), (.ref v1)])
  obtain ⟨cl58, Ar58, -, S58, M58, H58, -⟩ := id V1
  have hin58 : ¬ ((2 : Int32) < 0 ∨ cl58.slots.size ≤ ((2 : Int32)).toNatClampNeg) := inb_of S58 ⟨by decide, by decide⟩
  have hat58 : cl58.slots[((2 : Int32)).toNatClampNeg]? = some (.int (115 : Int32)) := Has.at H58 hin58 rfl
  refine own_by (fun _ k => X0.baloadBytes hx (j := (2 : Int32)) (v := (.int (115 : Int32))) (by rw [e0]; exact Ar58.1) (State.isArrayOf_alike hZ.alike Ar58.2.1) Ar58.2.2 hin58 hat58 (g := (mkF m 17 #[.val (.ref v1), .val (.ref v2), .val (.int (2 : Int32))] [(.int (2 : Int32)), (.ref v1)])) rfl rfl (hb hby d11_17) _ k) ?_
  show own_Fin p e below s _ _ _ s₁ (mkF m 18 #[.val (.ref v1), .val (.ref v2), .val (.int (2 : Int32))] [(.int (115 : Int32))])
  refine own_by (fun _ k => XS.aloadN X0.here hx rfl (hb hby d11_18) rfl rfl (XS.iloadN X0.here hx rfl (hb hby d11_19) rfl k)) ?_
  show own_Fin p e below s _ _ _ s₁ (mkF m 20 #[.val (.ref v1), .val (.ref v2), .val (.int (2 : Int32))] [(.int (2 : Int32)), (.ref v2), (.int (115 : Int32))])
  obtain ⟨cl59, Ar59, -, S59, M59, H59, -⟩ := id V2
  have hin59 : ¬ ((2 : Int32) < 0 ∨ cl59.slots.size ≤ ((2 : Int32)).toNatClampNeg) := inb_of S59 ⟨by decide, by decide⟩
  have hat59 : cl59.slots[((2 : Int32)).toNatClampNeg]? = some (.int (115 : Int32)) := Has.at H59 hin59 rfl
  refine own_by (fun _ k => X0.baloadBytes hx (j := (2 : Int32)) (v := (.int (115 : Int32))) (by rw [e0]; exact Ar59.1) (State.isArrayOf_alike hZ.alike Ar59.2.1) Ar59.2.2 hin59 hat59 (g := (mkF m 20 #[.val (.ref v1), .val (.ref v2), .val (.int (2 : Int32))] [(.int (2 : Int32)), (.ref v2), (.int (115 : Int32))])) rfl rfl (hb hby d11_20) _ k) ?_
  show own_Fin p e below s _ _ _ s₁ (mkF m 21 #[.val (.ref v1), .val (.ref v2), .val (.int (2 : Int32))] [(.int (115 : Int32)), (.int (115 : Int32))])
  refine own_by (fun _ k => XS.icmpYes X0.here hx rfl (pc0 := 21) (pc' := 26) rfl (hb hby d11_21) rfl (teq (by decide : (115 : Int32) = (115 : Int32))).1 (by decide) (by decide) k) ?_
  show own_Fin p e below s _ _ _ s₁ (mkF m 26 #[.val (.ref v1), .val (.ref v2), .val (.int (2 : Int32))] [])
  refine own_by (fun _ k => XS.iinc X0.here hx rfl (hb hby d11_26) rfl (l' := #[.val (.ref v1), .val (.ref v2), .val (.int ((2 : Int32) + (1 : Int32)))]) rfl k) ?_
  show own_Fin p e below s _ _ _ s₁ (mkF m 29 #[.val (.ref v1), .val (.ref v2), .val (.int ((2 : Int32) + (1 : Int32)))] [])
  rw [(by decide : ((2 : Int32) + (1 : Int32)) = (3 : Int32))]
  show own_Fin p e below s _ _ _ s₁ (mkF m 29 #[.val (.ref v1), .val (.ref v2), .val (.int (3 : Int32))] [])
  refine own_by (fun _ k => XS.goto X0.here hx rfl (pc0 := 29) (pc' := 9) rfl (hb hby d11_29) (by decide) (by decide) (XS.iloadN X0.here hx rfl (hb hby d11_9) rfl (XS.aloadN X0.here hx rfl (hb hby d11_10) rfl rfl k))) ?_
  show own_Fin p e below s _ _ _ s₁ (mkF m 11 #[.val (.ref v1), .val (.ref v2), .val (.int (3 : Int32))] [(.ref v1), (.int (3 : Int32))])
  obtain ⟨cl60, Ar60, -, S60, M60, -, -⟩ := id V1
  refine own_by (fun _ k => X0.arraylength hx (by rw [e0]; exact Ar60.1) (State.isArrayOf_alike hZ.alike Ar60.2.1) (g := (mkF m 11 #[.val (.ref v1), .val (.ref v2), .val (.int (3 : Int32))] [(.ref v1), (.int (3 : Int32))])) rfl rfl (hb hby d11_11) _ k) ?_
  rw [len_of S60 M60]
  show own_Fin p e below s _ _ _ s₁ (mkF m 12 #[.val (.ref v1), .val (.ref v2), .val (.int (3 : Int32))] [(.int (13 : Int32)), (.int (3 : Int32))])
  refine own_by (fun _ k => XS.icmpNo X0.here hx rfl (hb hby d11_12) rfl (tlt (by decide : (3 : Int32) < (13 : Int32))).2.1 k) ?_
  show own_Fin p e below s _ _ _ s₁ (mkF m 15 #[.val (.ref v1), .val (.ref v2), .val (.int (3 : Int32))] [])
  refine own_by (fun _ k => XS.aloadN X0.here hx rfl (hb hby d11_15) rfl rfl (XS.iloadN X0.here hx rfl (hb hby d11_16) rfl k)) ?_
  show own_Fin p e below s _ _ _ s₁ (mkF m 17 #[.val (.ref v1), .val (.ref v2), .val (.int (3 : Int32))] [(.int (3 : Int32)), (.ref v1)])
  obtain ⟨cl61, Ar61, -, S61, M61, H61, -⟩ := id V1
  have hin61 : ¬ ((3 : Int32) < 0 ∨ cl61.slots.size ≤ ((3 : Int32)).toNatClampNeg) := inb_of S61 ⟨by decide, by decide⟩
  have hat61 : cl61.slots[((3 : Int32)).toNatClampNeg]? = some (.int (105 : Int32)) := Has.at H61 hin61 rfl
  refine own_by (fun _ k => X0.baloadBytes hx (j := (3 : Int32)) (v := (.int (105 : Int32))) (by rw [e0]; exact Ar61.1) (State.isArrayOf_alike hZ.alike Ar61.2.1) Ar61.2.2 hin61 hat61 (g := (mkF m 17 #[.val (.ref v1), .val (.ref v2), .val (.int (3 : Int32))] [(.int (3 : Int32)), (.ref v1)])) rfl rfl (hb hby d11_17) _ k) ?_
  show own_Fin p e below s _ _ _ s₁ (mkF m 18 #[.val (.ref v1), .val (.ref v2), .val (.int (3 : Int32))] [(.int (105 : Int32))])
  refine own_by (fun _ k => XS.aloadN X0.here hx rfl (hb hby d11_18) rfl rfl (XS.iloadN X0.here hx rfl (hb hby d11_19) rfl k)) ?_
  show own_Fin p e below s _ _ _ s₁ (mkF m 20 #[.val (.ref v1), .val (.ref v2), .val (.int (3 : Int32))] [(.int (3 : Int32)), (.ref v2), (.int (105 : Int32))])
  obtain ⟨cl62, Ar62, -, S62, M62, H62, -⟩ := id V2
  have hin62 : ¬ ((3 : Int32) < 0 ∨ cl62.slots.size ≤ ((3 : Int32)).toNatClampNeg) := inb_of S62 ⟨by decide, by decide⟩
  have hat62 : cl62.slots[((3 : Int32)).toNatClampNeg]? = some (.int (105 : Int32)) := Has.at H62 hin62 rfl
  refine own_by (fun _ k => X0.baloadBytes hx (j := (3 : Int32)) (v := (.int (105 : Int32))) (by rw [e0]; exact Ar62.1) (State.isArrayOf_alike hZ.alike Ar62.2.1) Ar62.2.2 hin62 hat62 (g := (mkF m 20 #[.val (.ref v1), .val (.ref v2), .val (.int (3 : Int32))] [(.int (3 : Int32)), (.ref v2), (.int (105 : Int32))])) rfl rfl (hb hby d11_20) _ k) ?_
  show own_Fin p e below s _ _ _ s₁ (mkF m 21 #[.val (.ref v1), .val (.ref v2), .val (.int (3 : Int32))] [(.int (105 : Int32)), (.int (105 : Int32))])
  refine own_by (fun _ k => XS.icmpYes X0.here hx rfl (pc0 := 21) (pc' := 26) rfl (hb hby d11_21) rfl (teq (by decide : (105 : Int32) = (105 : Int32))).1 (by decide) (by decide) k) ?_
  show own_Fin p e below s _ _ _ s₁ (mkF m 26 #[.val (.ref v1), .val (.ref v2), .val (.int (3 : Int32))] [])
  refine own_by (fun _ k => XS.iinc X0.here hx rfl (hb hby d11_26) rfl (l' := #[.val (.ref v1), .val (.ref v2), .val (.int ((3 : Int32) + (1 : Int32)))]) rfl k) ?_
  show own_Fin p e below s _ _ _ s₁ (mkF m 29 #[.val (.ref v1), .val (.ref v2), .val (.int ((3 : Int32) + (1 : Int32)))] [])
  rw [(by decide : ((3 : Int32) + (1 : Int32)) = (4 : Int32))]
  show own_Fin p e below s _ _ _ s₁ (mkF m 29 #[.val (.ref v1), .val (.ref v2), .val (.int (4 : Int32))] [])
  refine own_by (fun _ k => XS.goto X0.here hx rfl (pc0 := 29) (pc' := 9) rfl (hb hby d11_29) (by decide) (by decide) (XS.iloadN X0.here hx rfl (hb hby d11_9) rfl (XS.aloadN X0.here hx rfl (hb hby d11_10) rfl rfl k))) ?_
  show own_Fin p e below s _ _ _ s₁ (mkF m 11 #[.val (.ref v1), .val (.ref v2), .val (.int (4 : Int32))] [(.ref v1), (.int (4 : Int32))])
  obtain ⟨cl63, Ar63, -, S63, M63, -, -⟩ := id V1
  refine own_by (fun _ k => X0.arraylength hx (by rw [e0]; exact Ar63.1) (State.isArrayOf_alike hZ.alike Ar63.2.1) (g := (mkF m 11 #[.val (.ref v1), .val (.ref v2), .val (.int (4 : Int32))] [(.ref v1), (.int (4 : Int32))])) rfl rfl (hb hby d11_11) _ k) ?_
  rw [len_of S63 M63]
  show own_Fin p e below s _ _ _ s₁ (mkF m 12 #[.val (.ref v1), .val (.ref v2), .val (.int (4 : Int32))] [(.int (13 : Int32)), (.int (4 : Int32))])
  refine own_by (fun _ k => XS.icmpNo X0.here hx rfl (hb hby d11_12) rfl (tlt (by decide : (4 : Int32) < (13 : Int32))).2.1 k) ?_
  show own_Fin p e below s _ _ _ s₁ (mkF m 15 #[.val (.ref v1), .val (.ref v2), .val (.int (4 : Int32))] [])
  refine own_by (fun _ k => XS.aloadN X0.here hx rfl (hb hby d11_15) rfl rfl (XS.iloadN X0.here hx rfl (hb hby d11_16) rfl k)) ?_
  show own_Fin p e below s _ _ _ s₁ (mkF m 17 #[.val (.ref v1), .val (.ref v2), .val (.int (4 : Int32))] [(.int (4 : Int32)), (.ref v1)])
  obtain ⟨cl64, Ar64, -, S64, M64, H64, -⟩ := id V1
  have hin64 : ¬ ((4 : Int32) < 0 ∨ cl64.slots.size ≤ ((4 : Int32)).toNatClampNeg) := inb_of S64 ⟨by decide, by decide⟩
  have hat64 : cl64.slots[((4 : Int32)).toNatClampNeg]? = some (.int (103 : Int32)) := Has.at H64 hin64 rfl
  refine own_by (fun _ k => X0.baloadBytes hx (j := (4 : Int32)) (v := (.int (103 : Int32))) (by rw [e0]; exact Ar64.1) (State.isArrayOf_alike hZ.alike Ar64.2.1) Ar64.2.2 hin64 hat64 (g := (mkF m 17 #[.val (.ref v1), .val (.ref v2), .val (.int (4 : Int32))] [(.int (4 : Int32)), (.ref v1)])) rfl rfl (hb hby d11_17) _ k) ?_
  show own_Fin p e below s _ _ _ s₁ (mkF m 18 #[.val (.ref v1), .val (.ref v2), .val (.int (4 : Int32))] [(.int (103 : Int32))])
  refine own_by (fun _ k => XS.aloadN X0.here hx rfl (hb hby d11_18) rfl rfl (XS.iloadN X0.here hx rfl (hb hby d11_19) rfl k)) ?_
  show own_Fin p e below s _ _ _ s₁ (mkF m 20 #[.val (.ref v1), .val (.ref v2), .val (.int (4 : Int32))] [(.int (4 : Int32)), (.ref v2), (.int (103 : Int32))])
  obtain ⟨cl65, Ar65, -, S65, M65, H65, -⟩ := id V2
  have hin65 : ¬ ((4 : Int32) < 0 ∨ cl65.slots.size ≤ ((4 : Int32)).toNatClampNeg) := inb_of S65 ⟨by decide, by decide⟩
  have hat65 : cl65.slots[((4 : Int32)).toNatClampNeg]? = some (.int (103 : Int32)) := Has.at H65 hin65 rfl
  refine own_by (fun _ k => X0.baloadBytes hx (j := (4 : Int32)) (v := (.int (103 : Int32))) (by rw [e0]; exact Ar65.1) (State.isArrayOf_alike hZ.alike Ar65.2.1) Ar65.2.2 hin65 hat65 (g := (mkF m 20 #[.val (.ref v1), .val (.ref v2), .val (.int (4 : Int32))] [(.int (4 : Int32)), (.ref v2), (.int (103 : Int32))])) rfl rfl (hb hby d11_20) _ k) ?_
  show own_Fin p e below s _ _ _ s₁ (mkF m 21 #[.val (.ref v1), .val (.ref v2), .val (.int (4 : Int32))] [(.int (103 : Int32)), (.int (103 : Int32))])
  refine own_by (fun _ k => XS.icmpYes X0.here hx rfl (pc0 := 21) (pc' := 26) rfl (hb hby d11_21) rfl (teq (by decide : (103 : Int32) = (103 : Int32))).1 (by decide) (by decide) k) ?_
  show own_Fin p e below s _ _ _ s₁ (mkF m 26 #[.val (.ref v1), .val (.ref v2), .val (.int (4 : Int32))] [])
  refine own_by (fun _ k => XS.iinc X0.here hx rfl (hb hby d11_26) rfl (l' := #[.val (.ref v1), .val (.ref v2), .val (.int ((4 : Int32) + (1 : Int32)))]) rfl k) ?_
  show own_Fin p e below s _ _ _ s₁ (mkF m 29 #[.val (.ref v1), .val (.ref v2), .val (.int ((4 : Int32) + (1 : Int32)))] [])
  rw [(by decide : ((4 : Int32) + (1 : Int32)) = (5 : Int32))]
  show own_Fin p e below s _ _ _ s₁ (mkF m 29 #[.val (.ref v1), .val (.ref v2), .val (.int (5 : Int32))] [])
  refine own_by (fun _ k => XS.goto X0.here hx rfl (pc0 := 29) (pc' := 9) rfl (hb hby d11_29) (by decide) (by decide) (XS.iloadN X0.here hx rfl (hb hby d11_9) rfl (XS.aloadN X0.here hx rfl (hb hby d11_10) rfl rfl k))) ?_
  show own_Fin p e below s _ _ _ s₁ (mkF m 11 #[.val (.ref v1), .val (.ref v2), .val (.int (5 : Int32))] [(.ref v1), (.int (5 : Int32))])
  obtain ⟨cl66, Ar66, -, S66, M66, -, -⟩ := id V1
  refine own_by (fun _ k => X0.arraylength hx (by rw [e0]; exact Ar66.1) (State.isArrayOf_alike hZ.alike Ar66.2.1) (g := (mkF m 11 #[.val (.ref v1), .val (.ref v2), .val (.int (5 : Int32))] [(.ref v1), (.int (5 : Int32))])) rfl rfl (hb hby d11_11) _ k) ?_
  rw [len_of S66 M66]
  show own_Fin p e below s _ _ _ s₁ (mkF m 12 #[.val (.ref v1), .val (.ref v2), .val (.int (5 : Int32))] [(.int (13 : Int32)), (.int (5 : Int32))])
  refine own_by (fun _ k => XS.icmpNo X0.here hx rfl (hb hby d11_12) rfl (tlt (by decide : (5 : Int32) < (13 : Int32))).2.1 k) ?_
  show own_Fin p e below s _ _ _ s₁ (mkF m 15 #[.val (.ref v1), .val (.ref v2), .val (.int (5 : Int32))] [])
  refine own_by (fun _ k => XS.aloadN X0.here hx rfl (hb hby d11_15) rfl rfl (XS.iloadN X0.here hx rfl (hb hby d11_16) rfl k)) ?_
  show own_Fin p e below s _ _ _ s₁ (mkF m 17 #[.val (.ref v1), .val (.ref v2), .val (.int (5 : Int32))] [(.int (5 : Int32)), (.ref v1)])
  obtain ⟨cl67, Ar67, -, S67, M67, H67, -⟩ := id V1
  have hin67 : ¬ ((5 : Int32) < 0 ∨ cl67.slots.size ≤ ((5 : Int32)).toNatClampNeg) := inb_of S67 ⟨by decide, by decide⟩
  have hat67 : cl67.slots[((5 : Int32)).toNatClampNeg]? = some (.int (110 : Int32)) := Has.at H67 hin67 rfl
  refine own_by (fun _ k => X0.baloadBytes hx (j := (5 : Int32)) (v := (.int (110 : Int32))) (by rw [e0]; exact Ar67.1) (State.isArrayOf_alike hZ.alike Ar67.2.1) Ar67.2.2 hin67 hat67 (g := (mkF m 17 #[.val (.ref v1), .val (.ref v2), .val (.int (5 : Int32))] [(.int (5 : Int32)), (.ref v1)])) rfl rfl (hb hby d11_17) _ k) ?_
  show own_Fin p e below s _ _ _ s₁ (mkF m 18 #[.val (.ref v1), .val (.ref v2), .val (.int (5 : Int32))] [(.int (110 : Int32))])
  refine own_by (fun _ k => XS.aloadN X0.here hx rfl (hb hby d11_18) rfl rfl (XS.iloadN X0.here hx rfl (hb hby d11_19) rfl k)) ?_
  show own_Fin p e below s _ _ _ s₁ (mkF m 20 #[.val (.ref v1), .val (.ref v2), .val (.int (5 : Int32))] [(.int (5 : Int32)), (.ref v2), (.int (110 : Int32))])
  obtain ⟨cl68, Ar68, -, S68, M68, H68, -⟩ := id V2
  have hin68 : ¬ ((5 : Int32) < 0 ∨ cl68.slots.size ≤ ((5 : Int32)).toNatClampNeg) := inb_of S68 ⟨by decide, by decide⟩
  have hat68 : cl68.slots[((5 : Int32)).toNatClampNeg]? = some (.int (110 : Int32)) := Has.at H68 hin68 rfl
  refine own_by (fun _ k => X0.baloadBytes hx (j := (5 : Int32)) (v := (.int (110 : Int32))) (by rw [e0]; exact Ar68.1) (State.isArrayOf_alike hZ.alike Ar68.2.1) Ar68.2.2 hin68 hat68 (g := (mkF m 20 #[.val (.ref v1), .val (.ref v2), .val (.int (5 : Int32))] [(.int (5 : Int32)), (.ref v2), (.int (110 : Int32))])) rfl rfl (hb hby d11_20) _ k) ?_
  show own_Fin p e below s _ _ _ s₁ (mkF m 21 #[.val (.ref v1), .val (.ref v2), .val (.int (5 : Int32))] [(.int (110 : Int32)), (.int (110 : Int32))])
  refine own_by (fun _ k => XS.icmpYes X0.here hx rfl (pc0 := 21) (pc' := 26) rfl (hb hby d11_21) rfl (teq (by decide : (110 : Int32) = (110 : Int32))).1 (by decide) (by decide) k) ?_
  show own_Fin p e below s _ _ _ s₁ (mkF m 26 #[.val (.ref v1), .val (.ref v2), .val (.int (5 : Int32))] [])
  refine own_by (fun _ k => XS.iinc X0.here hx rfl (hb hby d11_26) rfl (l' := #[.val (.ref v1), .val (.ref v2), .val (.int ((5 : Int32) + (1 : Int32)))]) rfl k) ?_
  show own_Fin p e below s _ _ _ s₁ (mkF m 29 #[.val (.ref v1), .val (.ref v2), .val (.int ((5 : Int32) + (1 : Int32)))] [])
  rw [(by decide : ((5 : Int32) + (1 : Int32)) = (6 : Int32))]
  show own_Fin p e below s _ _ _ s₁ (mkF m 29 #[.val (.ref v1), .val (.ref v2), .val (.int (6 : Int32))] [])
  refine own_by (fun _ k => XS.goto X0.here hx rfl (pc0 := 29) (pc' := 9) rfl (hb hby d11_29) (by decide) (by decide) (XS.iloadN X0.here hx rfl (hb hby d11_9) rfl (XS.aloadN X0.here hx rfl (hb hby d11_10) rfl rfl k))) ?_
  show own_Fin p e below s _ _ _ s₁ (mkF m 11 #[.val (.ref v1), .val (.ref v2), .val (.int (6 : Int32))] [(.ref v1), (.int (6 : Int32))])
  obtain ⟨cl69, Ar69, -, S69, M69, -, -⟩ := id V1
  refine own_by (fun _ k => X0.arraylength hx (by rw [e0]; exact Ar69.1) (State.isArrayOf_alike hZ.alike Ar69.2.1) (g := (mkF m 11 #[.val (.ref v1), .val (.ref v2), .val (.int (6 : Int32))] [(.ref v1), (.int (6 : Int32))])) rfl rfl (hb hby d11_11) _ k) ?_
  rw [len_of S69 M69]
  show own_Fin p e below s _ _ _ s₁ (mkF m 12 #[.val (.ref v1), .val (.ref v2), .val (.int (6 : Int32))] [(.int (13 : Int32)), (.int (6 : Int32))])
  refine own_by (fun _ k => XS.icmpNo X0.here hx rfl (hb hby d11_12) rfl (tlt (by decide : (6 : Int32) < (13 : Int32))).2.1 k) ?_
  show own_Fin p e below s _ _ _ s₁ (mkF m 15 #[.val (.ref v1), .val (.ref v2), .val (.int (6 : Int32))] [])
  refine own_by (fun _ k => XS.aloadN X0.here hx rfl (hb hby d11_15) rfl rfl (XS.iloadN X0.here hx rfl (hb hby d11_16) rfl k)) ?_
  show own_Fin p e below s _ _ _ s₁ (mkF m 17 #[.val (.ref v1), .val (.ref v2), .val (.int (6 : Int32))] [(.int (6 : Int32)), (.ref v1)])
  obtain ⟨cl70, Ar70, -, S70, M70, H70, -⟩ := id V1
  have hin70 : ¬ ((6 : Int32) < 0 ∨ cl70.slots.size ≤ ((6 : Int32)).toNatClampNeg) := inb_of S70 ⟨by decide, by decide⟩
  have hat70 : cl70.slots[((6 : Int32)).toNatClampNeg]? = some (.int (101 : Int32)) := Has.at H70 hin70 rfl
  refine own_by (fun _ k => X0.baloadBytes hx (j := (6 : Int32)) (v := (.int (101 : Int32))) (by rw [e0]; exact Ar70.1) (State.isArrayOf_alike hZ.alike Ar70.2.1) Ar70.2.2 hin70 hat70 (g := (mkF m 17 #[.val (.ref v1), .val (.ref v2), .val (.int (6 : Int32))] [(.int (6 : Int32)), (.ref v1)])) rfl rfl (hb hby d11_17) _ k) ?_
  show own_Fin p e below s _ _ _ s₁ (mkF m 18 #[.val (.ref v1), .val (.ref v2), .val (.int (6 : Int32))] [(.int (101 : Int32))])
  refine own_by (fun _ k => XS.aloadN X0.here hx rfl (hb hby d11_18) rfl rfl (XS.iloadN X0.here hx rfl (hb hby d11_19) rfl k)) ?_
  show own_Fin p e below s _ _ _ s₁ (mkF m 20 #[.val (.ref v1), .val (.ref v2), .val (.int (6 : Int32))] [(.int (6 : Int32)), (.ref v2), (.int (101 : Int32))])
  obtain ⟨cl71, Ar71, -, S71, M71, H71, -⟩ := id V2
  have hin71 : ¬ ((6 : Int32) < 0 ∨ cl71.slots.size ≤ ((6 : Int32)).toNatClampNeg) := inb_of S71 ⟨by decide, by decide⟩
  have hat71 : cl71.slots[((6 : Int32)).toNatClampNeg]? = some (.int (101 : Int32)) := Has.at H71 hin71 rfl
  refine own_by (fun _ k => X0.baloadBytes hx (j := (6 : Int32)) (v := (.int (101 : Int32))) (by rw [e0]; exact Ar71.1) (State.isArrayOf_alike hZ.alike Ar71.2.1) Ar71.2.2 hin71 hat71 (g := (mkF m 20 #[.val (.ref v1), .val (.ref v2), .val (.int (6 : Int32))] [(.int (6 : Int32)), (.ref v2), (.int (101 : Int32))])) rfl rfl (hb hby d11_20) _ k) ?_
  show own_Fin p e below s _ _ _ s₁ (mkF m 21 #[.val (.ref v1), .val (.ref v2), .val (.int (6 : Int32))] [(.int (101 : Int32)), (.int (101 : Int32))])
  refine own_by (fun _ k => XS.icmpYes X0.here hx rfl (pc0 := 21) (pc' := 26) rfl (hb hby d11_21) rfl (teq (by decide : (101 : Int32) = (101 : Int32))).1 (by decide) (by decide) k) ?_
  show own_Fin p e below s _ _ _ s₁ (mkF m 26 #[.val (.ref v1), .val (.ref v2), .val (.int (6 : Int32))] [])
  refine own_by (fun _ k => XS.iinc X0.here hx rfl (hb hby d11_26) rfl (l' := #[.val (.ref v1), .val (.ref v2), .val (.int ((6 : Int32) + (1 : Int32)))]) rfl k) ?_
  show own_Fin p e below s _ _ _ s₁ (mkF m 29 #[.val (.ref v1), .val (.ref v2), .val (.int ((6 : Int32) + (1 : Int32)))] [])
  rw [(by decide : ((6 : Int32) + (1 : Int32)) = (7 : Int32))]
  show own_Fin p e below s _ _ _ s₁ (mkF m 29 #[.val (.ref v1), .val (.ref v2), .val (.int (7 : Int32))] [])
  refine own_by (fun _ k => XS.goto X0.here hx rfl (pc0 := 29) (pc' := 9) rfl (hb hby d11_29) (by decide) (by decide) (XS.iloadN X0.here hx rfl (hb hby d11_9) rfl (XS.aloadN X0.here hx rfl (hb hby d11_10) rfl rfl k))) ?_
  show own_Fin p e below s _ _ _ s₁ (mkF m 11 #[.val (.ref v1), .val (.ref v2), .val (.int (7 : Int32))] [(.ref v1), (.int (7 : Int32))])
  obtain ⟨cl72, Ar72, -, S72, M72, -, -⟩ := id V1
  refine own_by (fun _ k => X0.arraylength hx (by rw [e0]; exact Ar72.1) (State.isArrayOf_alike hZ.alike Ar72.2.1) (g := (mkF m 11 #[.val (.ref v1), .val (.ref v2), .val (.int (7 : Int32))] [(.ref v1), (.int (7 : Int32))])) rfl rfl (hb hby d11_11) _ k) ?_
  rw [len_of S72 M72]
  show own_Fin p e below s _ _ _ s₁ (mkF m 12 #[.val (.ref v1), .val (.ref v2), .val (.int (7 : Int32))] [(.int (13 : Int32)), (.int (7 : Int32))])
  refine own_by (fun _ k => XS.icmpNo X0.here hx rfl (hb hby d11_12) rfl (tlt (by decide : (7 : Int32) < (13 : Int32))).2.1 k) ?_
  show own_Fin p e below s _ _ _ s₁ (mkF m 15 #[.val (.ref v1), .val (.ref v2), .val (.int (7 : Int32))] [])
  refine own_by (fun _ k => XS.aloadN X0.here hx rfl (hb hby d11_15) rfl rfl (XS.iloadN X0.here hx rfl (hb hby d11_16) rfl k)) ?_
  show own_Fin p e below s _ _ _ s₁ (mkF m 17 #[.val (.ref v1), .val (.ref v2), .val (.int (7 : Int32))] [(.int (7 : Int32)), (.ref v1)])
  obtain ⟨cl73, Ar73, -, S73, M73, H73, -⟩ := id V1
  have hin73 : ¬ ((7 : Int32) < 0 ∨ cl73.slots.size ≤ ((7 : Int32)).toNatClampNeg) := inb_of S73 ⟨by decide, by decide⟩
  have hat73 : cl73.slots[((7 : Int32)).toNatClampNeg]? = some (.int (100 : Int32)) := Has.at H73 hin73 rfl
  refine own_by (fun _ k => X0.baloadBytes hx (j := (7 : Int32)) (v := (.int (100 : Int32))) (by rw [e0]; exact Ar73.1) (State.isArrayOf_alike hZ.alike Ar73.2.1) Ar73.2.2 hin73 hat73 (g := (mkF m 17 #[.val (.ref v1), .val (.ref v2), .val (.int (7 : Int32))] [(.int (7 : Int32)), (.ref v1)])) rfl rfl (hb hby d11_17) _ k) ?_
  show own_Fin p e below s _ _ _ s₁ (mkF m 18 #[.val (.ref v1), .val (.ref v2), .val (.int (7 : Int32))] [(.int (100 : Int32))])
  refine own_by (fun _ k => XS.aloadN X0.here hx rfl (hb hby d11_18) rfl rfl (XS.iloadN X0.here hx rfl (hb hby d11_19) rfl k)) ?_
  show own_Fin p e below s _ _ _ s₁ (mkF m 20 #[.val (.ref v1), .val (.ref v2), .val (.int (7 : Int32))] [(.int (7 : Int32)), (.ref v2), (.int (100 : Int32))])
  obtain ⟨cl74, Ar74, -, S74, M74, H74, -⟩ := id V2
  have hin74 : ¬ ((7 : Int32) < 0 ∨ cl74.slots.size ≤ ((7 : Int32)).toNatClampNeg) := inb_of S74 ⟨by decide, by decide⟩
  have hat74 : cl74.slots[((7 : Int32)).toNatClampNeg]? = some (.int (100 : Int32)) := Has.at H74 hin74 rfl
  refine own_by (fun _ k => X0.baloadBytes hx (j := (7 : Int32)) (v := (.int (100 : Int32))) (by rw [e0]; exact Ar74.1) (State.isArrayOf_alike hZ.alike Ar74.2.1) Ar74.2.2 hin74 hat74 (g := (mkF m 20 #[.val (.ref v1), .val (.ref v2), .val (.int (7 : Int32))] [(.int (7 : Int32)), (.ref v2), (.int (100 : Int32))])) rfl rfl (hb hby d11_20) _ k) ?_
  show own_Fin p e below s _ _ _ s₁ (mkF m 21 #[.val (.ref v1), .val (.ref v2), .val (.int (7 : Int32))] [(.int (100 : Int32)), (.int (100 : Int32))])
  refine own_by (fun _ k => XS.icmpYes X0.here hx rfl (pc0 := 21) (pc' := 26) rfl (hb hby d11_21) rfl (teq (by decide : (100 : Int32) = (100 : Int32))).1 (by decide) (by decide) k) ?_
  show own_Fin p e below s _ _ _ s₁ (mkF m 26 #[.val (.ref v1), .val (.ref v2), .val (.int (7 : Int32))] [])
  refine own_by (fun _ k => XS.iinc X0.here hx rfl (hb hby d11_26) rfl (l' := #[.val (.ref v1), .val (.ref v2), .val (.int ((7 : Int32) + (1 : Int32)))]) rfl k) ?_
  show own_Fin p e below s _ _ _ s₁ (mkF m 29 #[.val (.ref v1), .val (.ref v2), .val (.int ((7 : Int32) + (1 : Int32)))] [])
  rw [(by decide : ((7 : Int32) + (1 : Int32)) = (8 : Int32))]
  show own_Fin p e below s _ _ _ s₁ (mkF m 29 #[.val (.ref v1), .val (.ref v2), .val (.int (8 : Int32))] [])
  refine own_by (fun _ k => XS.goto X0.here hx rfl (pc0 := 29) (pc' := 9) rfl (hb hby d11_29) (by decide) (by decide) (XS.iloadN X0.here hx rfl (hb hby d11_9) rfl (XS.aloadN X0.here hx rfl (hb hby d11_10) rfl rfl k))) ?_
  show own_Fin p e below s _ _ _ s₁ (mkF m 11 #[.val (.ref v1), .val (.ref v2), .val (.int (8 : Int32))] [(.ref v1), (.int (8 : Int32))])
  obtain ⟨cl75, Ar75, -, S75, M75, -, -⟩ := id V1
  refine own_by (fun _ k => X0.arraylength hx (by rw [e0]; exact Ar75.1) (State.isArrayOf_alike hZ.alike Ar75.2.1) (g := (mkF m 11 #[.val (.ref v1), .val (.ref v2), .val (.int (8 : Int32))] [(.ref v1), (.int (8 : Int32))])) rfl rfl (hb hby d11_11) _ k) ?_
  rw [len_of S75 M75]
  show own_Fin p e below s _ _ _ s₁ (mkF m 12 #[.val (.ref v1), .val (.ref v2), .val (.int (8 : Int32))] [(.int (13 : Int32)), (.int (8 : Int32))])
  refine own_by (fun _ k => XS.icmpNo X0.here hx rfl (hb hby d11_12) rfl (tlt (by decide : (8 : Int32) < (13 : Int32))).2.1 k) ?_
  show own_Fin p e below s _ _ _ s₁ (mkF m 15 #[.val (.ref v1), .val (.ref v2), .val (.int (8 : Int32))] [])
  refine own_by (fun _ k => XS.aloadN X0.here hx rfl (hb hby d11_15) rfl rfl (XS.iloadN X0.here hx rfl (hb hby d11_16) rfl k)) ?_
  show own_Fin p e below s _ _ _ s₁ (mkF m 17 #[.val (.ref v1), .val (.ref v2), .val (.int (8 : Int32))] [(.int (8 : Int32)), (.ref v1)])
  obtain ⟨cl76, Ar76, -, S76, M76, H76, -⟩ := id V1
  have hin76 : ¬ ((8 : Int32) < 0 ∨ cl76.slots.size ≤ ((8 : Int32)).toNatClampNeg) := inb_of S76 ⟨by decide, by decide⟩
  have hat76 : cl76.slots[((8 : Int32)).toNatClampNeg]? = some (.int (32 : Int32)) := Has.at H76 hin76 rfl
  refine own_by (fun _ k => X0.baloadBytes hx (j := (8 : Int32)) (v := (.int (32 : Int32))) (by rw [e0]; exact Ar76.1) (State.isArrayOf_alike hZ.alike Ar76.2.1) Ar76.2.2 hin76 hat76 (g := (mkF m 17 #[.val (.ref v1), .val (.ref v2), .val (.int (8 : Int32))] [(.int (8 : Int32)), (.ref v1)])) rfl rfl (hb hby d11_17) _ k) ?_
  show own_Fin p e below s _ _ _ s₁ (mkF m 18 #[.val (.ref v1), .val (.ref v2), .val (.int (8 : Int32))] [(.int (32 : Int32))])
  refine own_by (fun _ k => XS.aloadN X0.here hx rfl (hb hby d11_18) rfl rfl (XS.iloadN X0.here hx rfl (hb hby d11_19) rfl k)) ?_
  show own_Fin p e below s _ _ _ s₁ (mkF m 20 #[.val (.ref v1), .val (.ref v2), .val (.int (8 : Int32))] [(.int (8 : Int32)), (.ref v2), (.int (32 : Int32))])
  obtain ⟨cl77, Ar77, -, S77, M77, H77, -⟩ := id V2
  have hin77 : ¬ ((8 : Int32) < 0 ∨ cl77.slots.size ≤ ((8 : Int32)).toNatClampNeg) := inb_of S77 ⟨by decide, by decide⟩
  have hat77 : cl77.slots[((8 : Int32)).toNatClampNeg]? = some (.int (32 : Int32)) := Has.at H77 hin77 rfl
  refine own_by (fun _ k => X0.baloadBytes hx (j := (8 : Int32)) (v := (.int (32 : Int32))) (by rw [e0]; exact Ar77.1) (State.isArrayOf_alike hZ.alike Ar77.2.1) Ar77.2.2 hin77 hat77 (g := (mkF m 20 #[.val (.ref v1), .val (.ref v2), .val (.int (8 : Int32))] [(.int (8 : Int32)), (.ref v2), (.int (32 : Int32))])) rfl rfl (hb hby d11_20) _ k) ?_
  show own_Fin p e below s _ _ _ s₁ (mkF m 21 #[.val (.ref v1), .val (.ref v2), .val (.int (8 : Int32))] [(.int (32 : Int32)), (.int (32 : Int32))])
  refine own_by (fun _ k => XS.icmpYes X0.here hx rfl (pc0 := 21) (pc' := 26) rfl (hb hby d11_21) rfl (teq (by decide : (32 : Int32) = (32 : Int32))).1 (by decide) (by decide) k) ?_
  show own_Fin p e below s _ _ _ s₁ (mkF m 26 #[.val (.ref v1), .val (.ref v2), .val (.int (8 : Int32))] [])
  refine own_by (fun _ k => XS.iinc X0.here hx rfl (hb hby d11_26) rfl (l' := #[.val (.ref v1), .val (.ref v2), .val (.int ((8 : Int32) + (1 : Int32)))]) rfl k) ?_
  show own_Fin p e below s _ _ _ s₁ (mkF m 29 #[.val (.ref v1), .val (.ref v2), .val (.int ((8 : Int32) + (1 : Int32)))] [])
  rw [(by decide : ((8 : Int32) + (1 : Int32)) = (9 : Int32))]
  show own_Fin p e below s _ _ _ s₁ (mkF m 29 #[.val (.ref v1), .val (.ref v2), .val (.int (9 : Int32))] [])
  refine own_by (fun _ k => XS.goto X0.here hx rfl (pc0 := 29) (pc' := 9) rfl (hb hby d11_29) (by decide) (by decide) (XS.iloadN X0.here hx rfl (hb hby d11_9) rfl (XS.aloadN X0.here hx rfl (hb hby d11_10) rfl rfl k))) ?_
  show own_Fin p e below s _ _ _ s₁ (mkF m 11 #[.val (.ref v1), .val (.ref v2), .val (.int (9 : Int32))] [(.ref v1), (.int (9 : Int32))])
  obtain ⟨cl78, Ar78, -, S78, M78, -, -⟩ := id V1
  refine own_by (fun _ k => X0.arraylength hx (by rw [e0]; exact Ar78.1) (State.isArrayOf_alike hZ.alike Ar78.2.1) (g := (mkF m 11 #[.val (.ref v1), .val (.ref v2), .val (.int (9 : Int32))] [(.ref v1), (.int (9 : Int32))])) rfl rfl (hb hby d11_11) _ k) ?_
  rw [len_of S78 M78]
  show own_Fin p e below s _ _ _ s₁ (mkF m 12 #[.val (.ref v1), .val (.ref v2), .val (.int (9 : Int32))] [(.int (13 : Int32)), (.int (9 : Int32))])
  refine own_by (fun _ k => XS.icmpNo X0.here hx rfl (hb hby d11_12) rfl (tlt (by decide : (9 : Int32) < (13 : Int32))).2.1 k) ?_
  show own_Fin p e below s _ _ _ s₁ (mkF m 15 #[.val (.ref v1), .val (.ref v2), .val (.int (9 : Int32))] [])
  refine own_by (fun _ k => XS.aloadN X0.here hx rfl (hb hby d11_15) rfl rfl (XS.iloadN X0.here hx rfl (hb hby d11_16) rfl k)) ?_
  show own_Fin p e below s _ _ _ s₁ (mkF m 17 #[.val (.ref v1), .val (.ref v2), .val (.int (9 : Int32))] [(.int (9 : Int32)), (.ref v1)])
  obtain ⟨cl79, Ar79, -, S79, M79, H79, -⟩ := id V1
  have hin79 : ¬ ((9 : Int32) < 0 ∨ cl79.slots.size ≤ ((9 : Int32)).toNatClampNeg) := inb_of S79 ⟨by decide, by decide⟩
  have hat79 : cl79.slots[((9 : Int32)).toNatClampNeg]? = some (.int (108 : Int32)) := Has.at H79 hin79 rfl
  refine own_by (fun _ k => X0.baloadBytes hx (j := (9 : Int32)) (v := (.int (108 : Int32))) (by rw [e0]; exact Ar79.1) (State.isArrayOf_alike hZ.alike Ar79.2.1) Ar79.2.2 hin79 hat79 (g := (mkF m 17 #[.val (.ref v1), .val (.ref v2), .val (.int (9 : Int32))] [(.int (9 : Int32)), (.ref v1)])) rfl rfl (hb hby d11_17) _ k) ?_
  show own_Fin p e below s _ _ _ s₁ (mkF m 18 #[.val (.ref v1), .val (.ref v2), .val (.int (9 : Int32))] [(.int (108 : Int32))])
  refine own_by (fun _ k => XS.aloadN X0.here hx rfl (hb hby d11_18) rfl rfl (XS.iloadN X0.here hx rfl (hb hby d11_19) rfl k)) ?_
  show own_Fin p e below s _ _ _ s₁ (mkF m 20 #[.val (.ref v1), .val (.ref v2), .val (.int (9 : Int32))] [(.int (9 : Int32)), (.ref v2), (.int (108 : Int32))])
  obtain ⟨cl80, Ar80, -, S80, M80, H80, -⟩ := id V2
  have hin80 : ¬ ((9 : Int32) < 0 ∨ cl80.slots.size ≤ ((9 : Int32)).toNatClampNeg) := inb_of S80 ⟨by decide, by decide⟩
  have hat80 : cl80.slots[((9 : Int32)).toNatClampNeg]? = some (.int (108 : Int32)) := Has.at H80 hin80 rfl
  refine own_by (fun _ k => X0.baloadBytes hx (j := (9 : Int32)) (v := (.int (108 : Int32))) (by rw [e0]; exact Ar80.1) (State.isArrayOf_alike hZ.alike Ar80.2.1) Ar80.2.2 hin80 hat80 (g := (mkF m 20 #[.val (.ref v1), .val (.ref v2), .val (.int (9 : Int32))] [(.int (9 : Int32)), (.ref v2), (.int (108 : Int32))])) rfl rfl (hb hby d11_20) _ k) ?_
  show own_Fin p e below s _ _ _ s₁ (mkF m 21 #[.val (.ref v1), .val (.ref v2), .val (.int (9 : Int32))] [(.int (108 : Int32)), (.int (108 : Int32))])
  refine own_by (fun _ k => XS.icmpYes X0.here hx rfl (pc0 := 21) (pc' := 26) rfl (hb hby d11_21) rfl (teq (by decide : (108 : Int32) = (108 : Int32))).1 (by decide) (by decide) k) ?_
  show own_Fin p e below s _ _ _ s₁ (mkF m 26 #[.val (.ref v1), .val (.ref v2), .val (.int (9 : Int32))] [])
  refine own_by (fun _ k => XS.iinc X0.here hx rfl (hb hby d11_26) rfl (l' := #[.val (.ref v1), .val (.ref v2), .val (.int ((9 : Int32) + (1 : Int32)))]) rfl k) ?_
  show own_Fin p e below s _ _ _ s₁ (mkF m 29 #[.val (.ref v1), .val (.ref v2), .val (.int ((9 : Int32) + (1 : Int32)))] [])
  rw [(by decide : ((9 : Int32) + (1 : Int32)) = (10 : Int32))]
  show own_Fin p e below s _ _ _ s₁ (mkF m 29 #[.val (.ref v1), .val (.ref v2), .val (.int (10 : Int32))] [])
  refine own_by (fun _ k => XS.goto X0.here hx rfl (pc0 := 29) (pc' := 9) rfl (hb hby d11_29) (by decide) (by decide) (XS.iloadN X0.here hx rfl (hb hby d11_9) rfl (XS.aloadN X0.here hx rfl (hb hby d11_10) rfl rfl k))) ?_
  show own_Fin p e below s _ _ _ s₁ (mkF m 11 #[.val (.ref v1), .val (.ref v2), .val (.int (10 : Int32))] [(.ref v1), (.int (10 : Int32))])
  obtain ⟨cl81, Ar81, -, S81, M81, -, -⟩ := id V1
  refine own_by (fun _ k => X0.arraylength hx (by rw [e0]; exact Ar81.1) (State.isArrayOf_alike hZ.alike Ar81.2.1) (g := (mkF m 11 #[.val (.ref v1), .val (.ref v2), .val (.int (10 : Int32))] [(.ref v1), (.int (10 : Int32))])) rfl rfl (hb hby d11_11) _ k) ?_
  rw [len_of S81 M81]
  show own_Fin p e below s _ _ _ s₁ (mkF m 12 #[.val (.ref v1), .val (.ref v2), .val (.int (10 : Int32))] [(.int (13 : Int32)), (.int (10 : Int32))])
  refine own_by (fun _ k => XS.icmpNo X0.here hx rfl (hb hby d11_12) rfl (tlt (by decide : (10 : Int32) < (13 : Int32))).2.1 k) ?_
  show own_Fin p e below s _ _ _ s₁ (mkF m 15 #[.val (.ref v1), .val (.ref v2), .val (.int (10 : Int32))] [])
  refine own_by (fun _ k => XS.aloadN X0.here hx rfl (hb hby d11_15) rfl rfl (XS.iloadN X0.here hx rfl (hb hby d11_16) rfl k)) ?_
  show own_Fin p e below s _ _ _ s₁ (mkF m 17 #[.val (.ref v1), .val (.ref v2), .val (.int (10 : Int32))] [(.int (10 : Int32)), (.ref v1)])
  obtain ⟨cl82, Ar82, -, S82, M82, H82, -⟩ := id V1
  have hin82 : ¬ ((10 : Int32) < 0 ∨ cl82.slots.size ≤ ((10 : Int32)).toNatClampNeg) := inb_of S82 ⟨by decide, by decide⟩
  have hat82 : cl82.slots[((10 : Int32)).toNatClampNeg]? = some (.int (111 : Int32)) := Has.at H82 hin82 rfl
  refine own_by (fun _ k => X0.baloadBytes hx (j := (10 : Int32)) (v := (.int (111 : Int32))) (by rw [e0]; exact Ar82.1) (State.isArrayOf_alike hZ.alike Ar82.2.1) Ar82.2.2 hin82 hat82 (g := (mkF m 17 #[.val (.ref v1), .val (.ref v2), .val (.int (10 : Int32))] [(.int (10 : Int32)), (.ref v1)])) rfl rfl (hb hby d11_17) _ k) ?_
  show own_Fin p e below s _ _ _ s₁ (mkF m 18 #[.val (.ref v1), .val (.ref v2), .val (.int (10 : Int32))] [(.int (111 : Int32))])
  refine own_by (fun _ k => XS.aloadN X0.here hx rfl (hb hby d11_18) rfl rfl (XS.iloadN X0.here hx rfl (hb hby d11_19) rfl k)) ?_
  show own_Fin p e below s _ _ _ s₁ (mkF m 20 #[.val (.ref v1), .val (.ref v2), .val (.int (10 : Int32))] [(.int (10 : Int32)), (.ref v2), (.int (111 : Int32))])
  obtain ⟨cl83, Ar83, -, S83, M83, H83, -⟩ := id V2
  have hin83 : ¬ ((10 : Int32) < 0 ∨ cl83.slots.size ≤ ((10 : Int32)).toNatClampNeg) := inb_of S83 ⟨by decide, by decide⟩
  have hat83 : cl83.slots[((10 : Int32)).toNatClampNeg]? = some (.int (111 : Int32)) := Has.at H83 hin83 rfl
  refine own_by (fun _ k => X0.baloadBytes hx (j := (10 : Int32)) (v := (.int (111 : Int32))) (by rw [e0]; exact Ar83.1) (State.isArrayOf_alike hZ.alike Ar83.2.1) Ar83.2.2 hin83 hat83 (g := (mkF m 20 #[.val (.ref v1), .val (.ref v2), .val (.int (10 : Int32))] [(.int (10 : Int32)), (.ref v2), (.int (111 : Int32))])) rfl rfl (hb hby d11_20) _ k) ?_
  show own_Fin p e below s _ _ _ s₁ (mkF m 21 #[.val (.ref v1), .val (.ref v2), .val (.int (10 : Int32))] [(.int (111 : Int32)), (.int (111 : Int32))])
  refine own_by (fun _ k => XS.icmpYes X0.here hx rfl (pc0 := 21) (pc' := 26) rfl (hb hby d11_21) rfl (teq (by decide : (111 : Int32) = (111 : Int32))).1 (by decide) (by decide) k) ?_
  show own_Fin p e below s _ _ _ s₁ (mkF m 26 #[.val (.ref v1), .val (.ref v2), .val (.int (10 : Int32))] [])
  refine own_by (fun _ k => XS.iinc X0.here hx rfl (hb hby d11_26) rfl (l' := #[.val (.ref v1), .val (.ref v2), .val (.int ((10 : Int32) + (1 : Int32)))]) rfl k) ?_
  show own_Fin p e below s _ _ _ s₁ (mkF m 29 #[.val (.ref v1), .val (.ref v2), .val (.int ((10 : Int32) + (1 : Int32)))] [])
  rw [(by decide : ((10 : Int32) + (1 : Int32)) = (11 : Int32))]
  show own_Fin p e below s _ _ _ s₁ (mkF m 29 #[.val (.ref v1), .val (.ref v2), .val (.int (11 : Int32))] [])
  refine own_by (fun _ k => XS.goto X0.here hx rfl (pc0 := 29) (pc' := 9) rfl (hb hby d11_29) (by decide) (by decide) (XS.iloadN X0.here hx rfl (hb hby d11_9) rfl (XS.aloadN X0.here hx rfl (hb hby d11_10) rfl rfl k))) ?_
  show own_Fin p e below s _ _ _ s₁ (mkF m 11 #[.val (.ref v1), .val (.ref v2), .val (.int (11 : Int32))] [(.ref v1), (.int (11 : Int32))])
  obtain ⟨cl84, Ar84, -, S84, M84, -, -⟩ := id V1
  refine own_by (fun _ k => X0.arraylength hx (by rw [e0]; exact Ar84.1) (State.isArrayOf_alike hZ.alike Ar84.2.1) (g := (mkF m 11 #[.val (.ref v1), .val (.ref v2), .val (.int (11 : Int32))] [(.ref v1), (.int (11 : Int32))])) rfl rfl (hb hby d11_11) _ k) ?_
  rw [len_of S84 M84]
  show own_Fin p e below s _ _ _ s₁ (mkF m 12 #[.val (.ref v1), .val (.ref v2), .val (.int (11 : Int32))] [(.int (13 : Int32)), (.int (11 : Int32))])
  refine own_by (fun _ k => XS.icmpNo X0.here hx rfl (hb hby d11_12) rfl (tlt (by decide : (11 : Int32) < (13 : Int32))).2.1 k) ?_
  show own_Fin p e below s _ _ _ s₁ (mkF m 15 #[.val (.ref v1), .val (.ref v2), .val (.int (11 : Int32))] [])
  refine own_by (fun _ k => XS.aloadN X0.here hx rfl (hb hby d11_15) rfl rfl (XS.iloadN X0.here hx rfl (hb hby d11_16) rfl k)) ?_
  show own_Fin p e below s _ _ _ s₁ (mkF m 17 #[.val (.ref v1), .val (.ref v2), .val (.int (11 : Int32))] [(.int (11 : Int32)), (.ref v1)])
  obtain ⟨cl85, Ar85, -, S85, M85, H85, -⟩ := id V1
  have hin85 : ¬ ((11 : Int32) < 0 ∨ cl85.slots.size ≤ ((11 : Int32)).toNatClampNeg) := inb_of S85 ⟨by decide, by decide⟩
  have hat85 : cl85.slots[((11 : Int32)).toNatClampNeg]? = some (.int (110 : Int32)) := Has.at H85 hin85 rfl
  refine own_by (fun _ k => X0.baloadBytes hx (j := (11 : Int32)) (v := (.int (110 : Int32))) (by rw [e0]; exact Ar85.1) (State.isArrayOf_alike hZ.alike Ar85.2.1) Ar85.2.2 hin85 hat85 (g := (mkF m 17 #[.val (.ref v1), .val (.ref v2), .val (.int (11 : Int32))] [(.int (11 : Int32)), (.ref v1)])) rfl rfl (hb hby d11_17) _ k) ?_
  show own_Fin p e below s _ _ _ s₁ (mkF m 18 #[.val (.ref v1), .val (.ref v2), .val (.int (11 : Int32))] [(.int (110 : Int32))])
  refine own_by (fun _ k => XS.aloadN X0.here hx rfl (hb hby d11_18) rfl rfl (XS.iloadN X0.here hx rfl (hb hby d11_19) rfl k)) ?_
  show own_Fin p e below s _ _ _ s₁ (mkF m 20 #[.val (.ref v1), .val (.ref v2), .val (.int (11 : Int32))] [(.int (11 : Int32)), (.ref v2), (.int (110 : Int32))])
  obtain ⟨cl86, Ar86, -, S86, M86, H86, -⟩ := id V2
  have hin86 : ¬ ((11 : Int32) < 0 ∨ cl86.slots.size ≤ ((11 : Int32)).toNatClampNeg) := inb_of S86 ⟨by decide, by decide⟩
  have hat86 : cl86.slots[((11 : Int32)).toNatClampNeg]? = some (.int (110 : Int32)) := Has.at H86 hin86 rfl
  refine own_by (fun _ k => X0.baloadBytes hx (j := (11 : Int32)) (v := (.int (110 : Int32))) (by rw [e0]; exact Ar86.1) (State.isArrayOf_alike hZ.alike Ar86.2.1) Ar86.2.2 hin86 hat86 (g := (mkF m 20 #[.val (.ref v1), .val (.ref v2), .val (.int (11 : Int32))] [(.int (11 : Int32)), (.ref v2), (.int (110 : Int32))])) rfl rfl (hb hby d11_20) _ k) ?_
  show own_Fin p e below s _ _ _ s₁ (mkF m 21 #[.val (.ref v1), .val (.ref v2), .val (.int (11 : Int32))] [(.int (110 : Int32)), (.int (110 : Int32))])
  refine own_by (fun _ k => XS.icmpYes X0.here hx rfl (pc0 := 21) (pc' := 26) rfl (hb hby d11_21) rfl (teq (by decide : (110 : Int32) = (110 : Int32))).1 (by decide) (by decide) k) ?_
  show own_Fin p e below s _ _ _ s₁ (mkF m 26 #[.val (.ref v1), .val (.ref v2), .val (.int (11 : Int32))] [])
  refine own_by (fun _ k => XS.iinc X0.here hx rfl (hb hby d11_26) rfl (l' := #[.val (.ref v1), .val (.ref v2), .val (.int ((11 : Int32) + (1 : Int32)))]) rfl k) ?_
  show own_Fin p e below s _ _ _ s₁ (mkF m 29 #[.val (.ref v1), .val (.ref v2), .val (.int ((11 : Int32) + (1 : Int32)))] [])
  rw [(by decide : ((11 : Int32) + (1 : Int32)) = (12 : Int32))]
  show own_Fin p e below s _ _ _ s₁ (mkF m 29 #[.val (.ref v1), .val (.ref v2), .val (.int (12 : Int32))] [])
  refine own_by (fun _ k => XS.goto X0.here hx rfl (pc0 := 29) (pc' := 9) rfl (hb hby d11_29) (by decide) (by decide) (XS.iloadN X0.here hx rfl (hb hby d11_9) rfl (XS.aloadN X0.here hx rfl (hb hby d11_10) rfl rfl k))) ?_
  show own_Fin p e below s _ _ _ s₁ (mkF m 11 #[.val (.ref v1), .val (.ref v2), .val (.int (12 : Int32))] [(.ref v1), (.int (12 : Int32))])
  obtain ⟨cl87, Ar87, -, S87, M87, -, -⟩ := id V1
  refine own_by (fun _ k => X0.arraylength hx (by rw [e0]; exact Ar87.1) (State.isArrayOf_alike hZ.alike Ar87.2.1) (g := (mkF m 11 #[.val (.ref v1), .val (.ref v2), .val (.int (12 : Int32))] [(.ref v1), (.int (12 : Int32))])) rfl rfl (hb hby d11_11) _ k) ?_
  rw [len_of S87 M87]
  show own_Fin p e below s _ _ _ s₁ (mkF m 12 #[.val (.ref v1), .val (.ref v2), .val (.int (12 : Int32))] [(.int (13 : Int32)), (.int (12 : Int32))])
  refine own_by (fun _ k => XS.icmpNo X0.here hx rfl (hb hby d11_12) rfl (tlt (by decide : (12 : Int32) < (13 : Int32))).2.1 k) ?_
  show own_Fin p e below s _ _ _ s₁ (mkF m 15 #[.val (.ref v1), .val (.ref v2), .val (.int (12 : Int32))] [])
  refine own_by (fun _ k => XS.aloadN X0.here hx rfl (hb hby d11_15) rfl rfl (XS.iloadN X0.here hx rfl (hb hby d11_16) rfl k)) ?_
  show own_Fin p e below s _ _ _ s₁ (mkF m 17 #[.val (.ref v1), .val (.ref v2), .val (.int (12 : Int32))] [(.int (12 : Int32)), (.ref v1)])
  obtain ⟨cl88, Ar88, -, S88, M88, H88, -⟩ := id V1
  have hin88 : ¬ ((12 : Int32) < 0 ∨ cl88.slots.size ≤ ((12 : Int32)).toNatClampNeg) := inb_of S88 ⟨by decide, by decide⟩
  have hat88 : cl88.slots[((12 : Int32)).toNatClampNeg]? = some (.int (103 : Int32)) := Has.at H88 hin88 rfl
  refine own_by (fun _ k => X0.baloadBytes hx (j := (12 : Int32)) (v := (.int (103 : Int32))) (by rw [e0]; exact Ar88.1) (State.isArrayOf_alike hZ.alike Ar88.2.1) Ar88.2.2 hin88 hat88 (g := (mkF m 17 #[.val (.ref v1), .val (.ref v2), .val (.int (12 : Int32))] [(.int (12 : Int32)), (.ref v1)])) rfl rfl (hb hby d11_17) _ k) ?_
  show own_Fin p e below s _ _ _ s₁ (mkF m 18 #[.val (.ref v1), .val (.ref v2), .val (.int (12 : Int32))] [(.int (103 : Int32))])
  refine own_by (fun _ k => XS.aloadN X0.here hx rfl (hb hby d11_18) rfl rfl (XS.iloadN X0.here hx rfl (hb hby d11_19) rfl k)) ?_
  show own_Fin p e below s _ _ _ s₁ (mkF m 20 #[.val (.ref v1), .val (.ref v2), .val (.int (12 : Int32))] [(.int (12 : Int32)), (.ref v2), (.int (103 : Int32))])
  obtain ⟨cl89, Ar89, -, S89, M89, H89, -⟩ := id V2
  have hin89 : ¬ ((12 : Int32) < 0 ∨ cl89.slots.size ≤ ((12 : Int32)).toNatClampNeg) := inb_of S89 ⟨by decide, by decide⟩
  have hat89 : cl89.slots[((12 : Int32)).toNatClampNeg]? = some (.int (103 : Int32)) := Has.at H89 hin89 rfl
  refine own_by (fun _ k => X0.baloadBytes hx (j := (12 : Int32)) (v := (.int (103 : Int32))) (by rw [e0]; exact Ar89.1) (State.isArrayOf_alike hZ.alike Ar89.2.1) Ar89.2.2 hin89 hat89 (g := (mkF m 20 #[.val (.ref v1), .val (.ref v2), .val (.int (12 : Int32))] [(.int (12 : Int32)), (.ref v2), (.int (103 : Int32))])) rfl rfl (hb hby d11_20) _ k) ?_
  show own_Fin p e below s _ _ _ s₁ (mkF m 21 #[.val (.ref v1), .val (.ref v2), .val (.int (12 : Int32))] [(.int (103 : Int32)), (.int (103 : Int32))])
  refine own_by (fun _ k => XS.icmpYes X0.here hx rfl (pc0 := 21) (pc' := 26) rfl (hb hby d11_21) rfl (teq (by decide : (103 : Int32) = (103 : Int32))).1 (by decide) (by decide) k) ?_
  show own_Fin p e below s _ _ _ s₁ (mkF m 26 #[.val (.ref v1), .val (.ref v2), .val (.int (12 : Int32))] [])
  refine own_by (fun _ k => XS.iinc X0.here hx rfl (hb hby d11_26) rfl (l' := #[.val (.ref v1), .val (.ref v2), .val (.int ((12 : Int32) + (1 : Int32)))]) rfl k) ?_
  show own_Fin p e below s _ _ _ s₁ (mkF m 29 #[.val (.ref v1), .val (.ref v2), .val (.int ((12 : Int32) + (1 : Int32)))] [])
  rw [(by decide : ((12 : Int32) + (1 : Int32)) = (13 : Int32))]
  show own_Fin p e below s _ _ _ s₁ (mkF m 29 #[.val (.ref v1), .val (.ref v2), .val (.int (13 : Int32))] [])
  refine own_by (fun _ k => XS.goto X0.here hx rfl (pc0 := 29) (pc' := 9) rfl (hb hby d11_29) (by decide) (by decide) (XS.iloadN X0.here hx rfl (hb hby d11_9) rfl (XS.aloadN X0.here hx rfl (hb hby d11_10) rfl rfl k))) ?_
  show own_Fin p e below s _ _ _ s₁ (mkF m 11 #[.val (.ref v1), .val (.ref v2), .val (.int (13 : Int32))] [(.ref v1), (.int (13 : Int32))])
  obtain ⟨cl90, Ar90, -, S90, M90, -, -⟩ := id V1
  refine own_by (fun _ k => X0.arraylength hx (by rw [e0]; exact Ar90.1) (State.isArrayOf_alike hZ.alike Ar90.2.1) (g := (mkF m 11 #[.val (.ref v1), .val (.ref v2), .val (.int (13 : Int32))] [(.ref v1), (.int (13 : Int32))])) rfl rfl (hb hby d11_11) _ k) ?_
  rw [len_of S90 M90]
  show own_Fin p e below s _ _ _ s₁ (mkF m 12 #[.val (.ref v1), .val (.ref v2), .val (.int (13 : Int32))] [(.int (13 : Int32)), (.int (13 : Int32))])
  refine own_by (fun _ k => XS.icmpYes X0.here hx rfl (pc0 := 12) (pc' := 32) rfl (hb hby d11_12) rfl (flt (by decide : ¬ ((13 : Int32) < (13 : Int32)))).2.1 (by decide) (by decide) k) ?_
  show own_Fin p e below s _ _ _ s₁ (mkF m 32 #[.val (.ref v1), .val (.ref v2), .val (.int (13 : Int32))] [])
  refine own_by (fun _ k => XS.iconst X0.here hx rfl (hb hby d11_32) k) ?_
  show own_Fin p e below s _ _ _ s₁ (mkF m 33 #[.val (.ref v1), .val (.ref v2), .val (.int (13 : Int32))] [(.int (1 : Int32))])
  exact own_retZ X0 hx hlk (t := .boolean) hret (by simp) (hb hby d11_33) ⟨rfl, N0, e0⟩ (by decide) (by decide)
theorem ef_rmQ0 (m : MethodId) (x0 : Addr) (x1 : Addr) : entryFrame m #[(.ref x0), (.ref x1)] 3 = mkF m 0 #[.val (.ref x0), .val (.ref x1), .unset] [] := by first | (simp [entryFrame, mkF, argsToLocals, Value.category]; done) | rfl
set_option maxRecDepth 65536 in
set_option maxHeartbeats 40000000 in
theorem rmQ0 (l : Launch) (Z : State) (a0 : Array Value) (hw : ∀ d ∈ tables_1, d.before a0 Z = true) (ws : List Jvm.Cond) (a1 a2 v1 v2 : Addr) (k1 k2 : ClassId) (cs : Int32) (h0 : Heap) (n0 : Nat) (Z0 : n0 ≤ h0.size) (E_a2 : Exa Z h0 a2 "java/lang/String") (F_c1 : Fld Z h0 a1 "java/lang/String" "coder" "B" (.int (0 : Int32))) (F_v1 : Fld Z h0 a1 "java/lang/String" "value" "[B" (.ref v1)) (F_c2 : Fld Z h0 a2 "java/lang/String" "coder" "B" (.int (0 : Int32))) (F_v2 : Fld Z h0 a2 "java/lang/String" "value" "[B" (.ref v2)) (V1 : Arv Z h0 v1 k1 .byte (13 : Int32) [(.int (117 : Int32)), (.int (110 : Int32)), (.int (115 : Int32)), (.int (105 : Int32)), (.int (103 : Int32)), (.int (110 : Int32)), (.int (101 : Int32)), (.int (100 : Int32)), (.int (32 : Int32)), (.int (108 : Int32)), (.int (111 : Int32)), (.int (110 : Int32)), (.int (103 : Int32))] (.int (0 : Int32))) (V2 : Arv Z h0 v2 k2 .byte (13 : Int32) [(.int (117 : Int32)), (.int (110 : Int32)), (.int (115 : Int32)), (.int (105 : Int32)), (.int (103 : Int32)), (.int (110 : Int32)), (.int (101 : Int32)), (.int (100 : Int32)), (.int (32 : Int32)), (.int (108 : Int32)), (.int (111 : Int32)), (.int (110 : Int32)), (.int (103 : Int32))] (.int (0 : Int32))) (S_cs : Sta Z h0 "java/lang/String" "COMPACT_STRINGS" "Z" (.int cs)) (hcs : ¬ cs = (0 : Int32)) : own_Met l Z (⟨"java/lang/String", "equals", "(Ljava/lang/Object;)Z"⟩ : MethodName) jdk_42_method_66_code 3 (some .boolean) ws (own_R 1 0 0 14) #[(.ref a1), (.ref a2)] h0 (own_QrmQ0 h0 n0) := by
  refine own_enter n0 own_pn48 (fun m => ef_rmQ0 m a1 a2 ) (fun p e s m below meth c s₁ hx hby hlk hml hret hown hnm hZ X0 e0 N0 => ?_)
  show own_Fin p e below s _ _ _ s₁ (mkF m 0 #[.val (.ref a1), .val (.ref a2), .unset] [])
  refine own_by (fun _ k => XS.aloadN X0.here hx rfl (hb hby d10_0) rfl rfl (XS.aloadN X0.here hx rfl (hb hby d10_1) rfl rfl k)) ?_
  show own_Fin p e below s _ _ _ s₁ (mkF m 2 #[.val (.ref a1), .val (.ref a2), .unset] [(.ref a2), (.ref a1)])
  by_cases ha2_91 : a1 = a2
  · show own_Fin p e below s _ _ _ s₁ (mkF m 2 #[.val (.ref a1), .val (.ref a2), .unset] [(.ref a2), (.ref a1)])
    refine own_by (fun _ k => Jvm.RoadKit.acmp (g := (mkF m 2 #[.val (.ref a1), .val (.ref a2), .unset] [(.ref a2), (.ref a1)])) X0 hx rfl rfl rfl (pc0 := 2) (pc' := 5) (same := true) rfl (hb hby d10_2) rfl (decide_eq_true (congrArg Value.ref ha2_91)) (by decide) (by decide) k) ?_
    show own_Fin p e below s _ _ _ s₁ (mkF m 5 #[.val (.ref a1), .val (.ref a2), .unset] [])
    refine own_by (fun _ k => XS.iconst X0.here hx rfl (hb hby d10_5) k) ?_
    show own_Fin p e below s _ _ _ s₁ (mkF m 6 #[.val (.ref a1), .val (.ref a2), .unset] [(.int (1 : Int32))])
    exact own_retZ X0 hx hlk (t := .boolean) hret (by simp) (hb hby d10_6) ⟨rfl, N0, e0⟩ (by decide) (by decide)
  · show own_Fin p e below s _ _ _ s₁ (mkF m 2 #[.val (.ref a1), .val (.ref a2), .unset] [(.ref a2), (.ref a1)])
    refine own_by (fun _ k => Jvm.RoadKit.acmp (g := (mkF m 2 #[.val (.ref a1), .val (.ref a2), .unset] [(.ref a2), (.ref a1)])) X0 hx rfl rfl rfl (pc0 := 2) (pc' := 7) (same := false) rfl (hb hby d10_2) rfl (decide_eq_false fun q => ha2_91 (Value.ref.inj q)) (by decide) (by decide) k) ?_
    show own_Fin p e below s _ _ _ s₁ (mkF m 7 #[.val (.ref a1), .val (.ref a2), .unset] [])
    refine own_by (fun _ k => XS.aloadN X0.here hx rfl (hb hby d10_7) rfl rfl k) ?_
    show own_Fin p e below s _ _ _ s₁ (mkF m 8 #[.val (.ref a1), .val (.ref a2), .unset] [(.ref a2)])
    obtain ⟨T92, X92, e92, st92⟩ := instY X0 hx hZ hown (hw _ (List.mem_of_getElem? (i := 74) rfl)) e0 (Ins.self E_a2) (g := (mkF m 8 #[.val (.ref a1), .val (.ref a2), .unset] [(.ref a2)])) rfl rfl (hb hby d10_8)
    refine own_by (fun _ k => st92 _ k) ?_
    show own_Fin p e below s _ _ _ T92 (mkF m 11 #[.val (.ref a1), .val (.ref a2), .unset] [(.int (1 : Int32))])
    refine own_by (fun _ k => XS.ifNo X92.here hx rfl (hb hby d10_11) rfl ((if0 _ _).trans (feq (by decide : ¬ ((1 : Int32) = (0 : Int32)))).1) k) ?_
    show own_Fin p e below s _ _ _ T92 (mkF m 14 #[.val (.ref a1), .val (.ref a2), .unset] [])
    refine own_by (fun _ k => XS.aloadN X92.here hx rfl (hb hby d10_14) rfl rfl k) ?_
    show own_Fin p e below s _ _ _ T92 (mkF m 15 #[.val (.ref a1), .val (.ref a2), .unset] [(.ref a2)])
    obtain ⟨T93, X93, e93, st93⟩ := castY X92 hx hZ hown (hw _ (List.mem_of_getElem? (i := 74) rfl)) e92 (Ins.self E_a2) (g := (mkF m 15 #[.val (.ref a1), .val (.ref a2), .unset] [(.ref a2)])) rfl rfl (hb hby d10_15)
    refine own_by (fun _ k => st93 _ k) ?_
    show own_Fin p e below s _ _ _ T93 (mkF m 18 #[.val (.ref a1), .val (.ref a2), .unset] [(.ref a2)])
    refine own_by (fun _ k => XS.astoreN X93.here hx rfl (hb hby d10_18) rfl rfl (l' := #[.val (.ref a1), .val (.ref a2), .val (.ref a2)]) rfl k) ?_
    show own_Fin p e below s _ _ _ T93 (mkF m 19 #[.val (.ref a1), .val (.ref a2), .val (.ref a2)] [])
    obtain ⟨T94, X94, e94, st94⟩ := getS2 X93 hx hZ hown (host := "") (Or.inl (hw _ (List.mem_of_getElem? (i := 76) rfl))) Via.refl e93 S_cs (g := (mkF m 19 #[.val (.ref a1), .val (.ref a2), .val (.ref a2)] [])) rfl (hb hby d10_19)
    refine own_by (fun _ k => st94 _ k) ?_
    show own_Fin p e below s _ _ _ T94 (mkF m 22 #[.val (.ref a1), .val (.ref a2), .val (.ref a2)] [(.int cs)])
    refine own_by (fun _ k => XS.ifNo X94.here hx rfl (hb hby d10_22) rfl ((if0 _ _).trans (feq hcs).1) k) ?_
    show own_Fin p e below s _ _ _ T94 (mkF m 25 #[.val (.ref a1), .val (.ref a2), .val (.ref a2)] [])
    refine own_by (fun _ k => XS.aloadN X94.here hx rfl (hb hby d10_25) rfl rfl k) ?_
    show own_Fin p e below s _ _ _ T94 (mkF m 26 #[.val (.ref a1), .val (.ref a2), .val (.ref a2)] [(.ref a1)])
    obtain ⟨T95, X95, e95, st95⟩ := getF X94 hx hZ hown (host := "") (Or.inl (hw _ (List.mem_of_getElem? (i := 77) rfl))) Via.refl e94 F_c1 (g := (mkF m 26 #[.val (.ref a1), .val (.ref a2), .val (.ref a2)] [(.ref a1)])) rfl rfl (hb hby d10_26)
    refine own_by (fun _ k => st95 _ k) ?_
    show own_Fin p e below s _ _ _ T95 (mkF m 29 #[.val (.ref a1), .val (.ref a2), .val (.ref a2)] [(.int (0 : Int32))])
    refine own_by (fun _ k => XS.aloadN X95.here hx rfl (hb hby d10_29) rfl rfl k) ?_
    show own_Fin p e below s _ _ _ T95 (mkF m 30 #[.val (.ref a1), .val (.ref a2), .val (.ref a2)] [(.ref a2), (.int (0 : Int32))])
    obtain ⟨T96, X96, e96, st96⟩ := getF X95 hx hZ hown (host := "") (Or.inl (hw _ (List.mem_of_getElem? (i := 77) rfl))) Via.refl e95 F_c2 (g := (mkF m 30 #[.val (.ref a1), .val (.ref a2), .val (.ref a2)] [(.ref a2), (.int (0 : Int32))])) rfl rfl (hb hby d10_30)
    refine own_by (fun _ k => st96 _ k) ?_
    show own_Fin p e below s _ _ _ T96 (mkF m 33 #[.val (.ref a1), .val (.ref a2), .val (.ref a2)] [(.int (0 : Int32)), (.int (0 : Int32))])
    refine own_by (fun _ k => XS.icmpNo X96.here hx rfl (hb hby d10_33) rfl (teq (by decide : (0 : Int32) = (0 : Int32))).2 k) ?_
    show own_Fin p e below s _ _ _ T96 (mkF m 36 #[.val (.ref a1), .val (.ref a2), .val (.ref a2)] [])
    refine own_by (fun _ k => XS.aloadN X96.here hx rfl (hb hby d10_36) rfl rfl k) ?_
    show own_Fin p e below s _ _ _ T96 (mkF m 37 #[.val (.ref a1), .val (.ref a2), .val (.ref a2)] [(.ref a1)])
    obtain ⟨T97, X97, e97, st97⟩ := getF X96 hx hZ hown (host := "") (Or.inl (hw _ (List.mem_of_getElem? (i := 68) rfl))) Via.refl e96 F_v1 (g := (mkF m 37 #[.val (.ref a1), .val (.ref a2), .val (.ref a2)] [(.ref a1)])) rfl rfl (hb hby d10_37)
    refine own_by (fun _ k => st97 _ k) ?_
    show own_Fin p e below s _ _ _ T97 (mkF m 40 #[.val (.ref a1), .val (.ref a2), .val (.ref a2)] [(.ref v1)])
    refine own_by (fun _ k => XS.aloadN X97.here hx rfl (hb hby d10_40) rfl rfl k) ?_
    show own_Fin p e below s _ _ _ T97 (mkF m 41 #[.val (.ref a1), .val (.ref a2), .val (.ref a2)] [(.ref a2), (.ref v1)])
    obtain ⟨T98, X98, e98, st98⟩ := getF X97 hx hZ hown (host := "") (Or.inl (hw _ (List.mem_of_getElem? (i := 68) rfl))) Via.refl e97 F_v2 (g := (mkF m 41 #[.val (.ref a1), .val (.ref a2), .val (.ref a2)] [(.ref a2), (.ref v1)])) rfl rfl (hb hby d10_41)
    refine own_by (fun _ k => st98 _ k) ?_
    show own_Fin p e below s _ _ _ T98 (mkF m 44 #[.val (.ref a1), .val (.ref a2), .val (.ref a2)] [(.ref v2), (.ref v1)])
    obtain ⟨_, _, ⟨T99, L99, k99, n99⟩, -, X99, ⟨Lc99, hQ99, l99, y99, z99⟩, st99⟩ := Jvm.LawKit.callS X98 hx (y := (⟨"java/lang/StringLatin1", "equals", "([B[B)Z"⟩ : MethodName)) hown (mvT hZ (hw _ (List.mem_of_getElem? (i := 78) rfl))) (mvT hZ (hw _ (List.mem_of_getElem? (i := 79) rfl))) (mvT hZ (hw _ (List.mem_of_getElem? (i := 80) rfl))) (mvT hZ (hw _ (List.mem_of_getElem? (i := 81) rfl))) (by decide) (backOf (W := 0) (rmA0 l Z a0 hw [] v1 v2 k1 k2 h0 n0 Z0 V1 V2) hZ (hw _ (List.mem_of_getElem? (i := 81) rfl)) (hw _ (List.mem_of_getElem? (i := 80) rfl)) (by decide) (by decide)) (g := (mkF m 44 #[.val (.ref a1), .val (.ref a2), .val (.ref a2)] [(.ref v2), (.ref v1)])) rfl (by rw [hml]; rfl) (argsL := [(.ref v1), (.ref v2)]) (rest := []) (lenOf own_pd125 rfl) rfl (by show 2 * 0 + _ ≤ _; exact Nat.le_of_eq rfl) (hb hby d10_44) (fun _ _ => ⟨rfl, e98, (by decide : 0 + 0 ≤ _), (by decide : 0 + 0 ≤ _)⟩)
    dsimp only [Pt.U, Pt.locs, Pt.cells, Pt.slots] at X99 l99 y99 z99 st99 hQ99
    subst l99 y99 z99
    obtain ⟨rfl, Nq99, eh99⟩ := hQ99
    have N99 := Fr.app N0 Nq99
    refine own_by (fun _ k => st99 _ k) ?_
    show own_Fin p e below s _ _ _ T99 (mkF m 47 #[.val (.ref a1), .val (.ref a2), .val (.ref a2)] [(.int (1 : Int32))])
    refine own_by (fun _ k => XS.ifNo X99.here hx rfl (hb hby d10_47) rfl ((if0 _ _).trans (feq (by decide : ¬ ((1 : Int32) = (0 : Int32)))).1) k) ?_
    show own_Fin p e below s _ _ _ T99 (mkF m 50 #[.val (.ref a1), .val (.ref a2), .val (.ref a2)] [])
    refine own_by (fun _ k => XS.iconst X99.here hx rfl (hb hby d10_50) (XS.goto X99.here hx rfl (pc0 := 51) (pc' := 55) rfl (hb hby d10_51) (by decide) (by decide) k)) ?_
    show own_Fin p e below s _ _ _ T99 (mkF m 55 #[.val (.ref a1), .val (.ref a2), .val (.ref a2)] [(.int (1 : Int32))])
    exact own_retZ X99 hx hlk (t := .boolean) hret (by simp) (hb hby d10_55) ⟨rfl, N99, eh99⟩ (by decide) (by decide)
def own_Mod (Z : State) (f : String) (d : Addr) (b : Int32) : Prop := Sta Z Z.heap "com/example/lithe_checker/lithechecker/task/DataModel" f "Lcom/example/lithe_checker/lithechecker/task/DataModel;" (.ref d) ∧ Exa Z Z.heap d "com/example/lithe_checker/lithechecker/task/DataModel" ∧ Fld Z Z.heap d "com/example/lithe_checker/lithechecker/task/DataModel" "longBits" "I" (.int b)
def own_Typ (Z : State) (f : String) (t : Addr) (b g : Int32) (nm : Addr) : Prop := Sta Z Z.heap "com/example/lithe_checker/lithechecker/c/CType" f "Lcom/example/lithe_checker/lithechecker/c/CType$IntegerType;" (.ref t) ∧ Exa Z Z.heap t "com/example/lithe_checker/lithechecker/c/CType$IntegerType" ∧ Fld Z Z.heap t "com/example/lithe_checker/lithechecker/c/CType$IntegerType" "bits" "I" (.int b) ∧ Fld Z Z.heap t "com/example/lithe_checker/lithechecker/c/CType$IntegerType" "signed" "Z" (.int g) ∧ Fld Z Z.heap t "com/example/lithe_checker/lithechecker/c/CType$IntegerType" "rank" "I" (.int (4 : Int32)) ∧ Fld Z Z.heap t "com/example/lithe_checker/lithechecker/c/CType$IntegerType" "name" "Ljava/lang/String;" (.ref nm)
def own_Str (Z : State) (a v : Addr) (k : ClassId) (z : Int32) (vs : List Value) : Prop := Exa Z Z.heap a "java/lang/String" ∧ Fld Z Z.heap a "java/lang/String" "coder" "B" (.int (0 : Int32)) ∧ Fld Z Z.heap a "java/lang/String" "value" "[B" (.ref v) ∧ Arv Z Z.heap v k .byte z vs (.int (0 : Int32))
theorem own_pn133 : plainName "com/example/lithe_checker/lithechecker/c/CTypeLongTypePinLaw" = true := by first | (simp [plainName, overriddenIn]; done) | decide +kernel
theorem own_pd134 : parseMethodDescriptor "(Lcom/example/lithe_checker/lithechecker/task/DataModel;Z)Lcom/example/lithe_checker/lithechecker/c/CType$IntegerType;" = some ⟨[(.object "com/example/lithe_checker/lithechecker/task/DataModel"), .boolean], some (.object "com/example/lithe_checker/lithechecker/c/CType$IntegerType")⟩ := by decide +kernel
theorem own_pd135 : parseMethodDescriptor "()Ljava/lang/String;" = some ⟨[], some (.object "java/lang/String")⟩ := by decide +kernel
theorem own_pd136 : parseMethodDescriptor "(Ljava/lang/Object;)Z" = some ⟨[(.object "java/lang/Object")], some .boolean⟩ := by decide +kernel
theorem ef_rm0 (m : MethodId) (x0 : Int32) (x1 : Int32) : entryFrame m #[(.int x0), (.int x1)] maxLocals = mkF m 0 #[.val (.int x0), .val (.int x1), .unset, .unset, .unset, .unset, .unset, .unset] [] := by first | (simp [entryFrame, mkF, argsToLocals, Value.category, maxLocals]; done) | rfl
def own_Q0 (n0 : Nat) (v : Option Value) (h : Heap) (L : List Loc) : Prop := v = some (.int (1 : Int32)) ∧ Fr n0 L
set_option maxRecDepth 65536 in
set_option maxHeartbeats 40000000 in
theorem rm0 (l : Launch) (Z : State) (a0 : Array Value) (hw : ∀ d ∈ tables_1, d.before a0 Z = true) (ws : List Jvm.Cond) (p1 p2 cs : Int32) (d1 d0 t11 t01 t10 t00 s1 s0 u1 u0 : Addr) (j1 j0 : ClassId) (h0 : Heap) (n0 : Nat) (Z0 : n0 ≤ h0.size) (M1 : own_Mod Z "LP64" d1 (64 : Int32)) (M0 : own_Mod Z "ILP32" d0 (32 : Int32)) (Y11 : own_Typ Z "LONG_64" t11 (64 : Int32) (1 : Int32) s1) (Y01 : own_Typ Z "LONG_32" t01 (32 : Int32) (1 : Int32) s1) (Y10 : own_Typ Z "UNSIGNED_LONG_64" t10 (64 : Int32) (0 : Int32) s0) (Y00 : own_Typ Z "UNSIGNED_LONG_32" t00 (32 : Int32) (0 : Int32) s0) (ZS1 : own_Str Z s1 u1 j1 (4 : Int32) [(.int (108 : Int32)), (.int (111 : Int32)), (.int (110 : Int32)), (.int (103 : Int32))]) (ZS0 : own_Str Z s0 u0 j0 (13 : Int32) [(.int (117 : Int32)), (.int (110 : Int32)), (.int (115 : Int32)), (.int (105 : Int32)), (.int (103 : Int32)), (.int (110 : Int32)), (.int (101 : Int32)), (.int (100 : Int32)), (.int (32 : Int32)), (.int (108 : Int32)), (.int (111 : Int32)), (.int (110 : Int32)), (.int (103 : Int32))]) (S_cs : Sta Z Z.heap "java/lang/String" "COMPACT_STRINGS" "Z" (.int cs)) (hcs : ¬ cs = (0 : Int32)) (Od : Old Z n0 h0) :
    MetFree l x (head1 (Jvm.Cond.code x code maxLocals ret :: ws) room_1) (fun a U => a = #[(.int p1), (.int p2)] ∧ Z.Warmed39 U.vm ∧ U.heap = h0 ∧ CHv Z consts_1 U.vm h0) (fun _ _ _ _ _ => True) (fun _ U o U' => ∃ v L, o = .returned v ∧ own_Q0 n0 v U'.heap L ∧ CHr Z consts_1 U.vm U.heap U'.vm U'.heap ∧ ReturnedEndW U o U' L room_1.cells room_1.slots) := by
  refine MetFree.of_bodySF (plainFor_of_name own_pn133) hisR ?_
  intro p e s m args below meth c s₁ Bd hml0 hP hK
  obtain ⟨rfl, hZ, hh, hCH0⟩ := hP
  have hx := Bd.exec
  have hby := Bd.bytes
  have hlk := Bd.notSynchronized
  have hml : c.maxLocals = 8 := hml0
  have hown : s.vm.findClass "com/example/lithe_checker/lithechecker/c/CTypeLongTypePinLaw" = some m.cls := findClass_of_methodNamed Bd.named
  have hnm := (name_of_methodNamed Bd.named Bd.method).1
  have X0 : Stand p l e room_1 (s.setVm s.vm) m #[(.int p1), (.int p2)] below meth c s₁ [] 0 0 := Stand.of_body Bd
  have e0 : s₁.heap = h0 := by rw [← hh, Bd.state]; rfl
  have N0 := Fr.nil n0
  refine own_startH (Q := own_Q0 n0) (C := room_1.cells) (N := room_1.slots) hh (ef_rm0 m p1 p2 ) ?_
  have hS0 : s.Since s.vm h0.size := (State.WarmedH.refl s).since _
  have hk0 : h0.size ≤ h0.size := Nat.le_refl _
  replace hown : (s.setVm s.vm).vm.findClass "com/example/lithe_checker/lithechecker/c/CTypeLongTypePinLaw" = some m.cls := hown
  replace hZ : Z.Warmed39 (s.setVm s.vm).vm := hZ
  have CH0 : CHr Z consts_1 s.vm h0 s.vm h0 := CHr.refl hCH0
  show own_FinH p e below s Z consts_1 h0 _ _ _ s₁ (mkF m 0 #[.val (.int p1), .val (.int p2), .unset, .unset, .unset, .unset, .unset, .unset] [])
  refine own_byH (fun _ k => XS.iloadN X0.here hx rfl (hb hby at_0) rfl (XS.iconst X0.here hx rfl (hb hby at_1) (XS.iand X0.here hx rfl (hb hby at_2) rfl k))) ?_
  show own_FinH p e below s Z consts_1 h0 _ _ _ s₁ (mkF m 3 #[.val (.int p1), .val (.int p2), .unset, .unset, .unset, .unset, .unset, .unset] [(.int (p1 &&& (1 : Int32)))])
  by_cases hc3_100 : (p1 &&& (1 : Int32)) = (0 : Int32)
  · show own_FinH p e below s Z consts_1 h0 _ _ _ s₁ (mkF m 3 #[.val (.int p1), .val (.int p2), .unset, .unset, .unset, .unset, .unset, .unset] [(.int (p1 &&& (1 : Int32)))])
    refine own_byH (fun _ k => XS.ifYes X0.here hx rfl (pc0 := 3) (pc' := 10) rfl (hb hby at_3) rfl ((if0 _ _).trans (teq hc3_100).1) (by decide) (by decide) k) ?_
    show own_FinH p e below s Z consts_1 h0 _ _ _ s₁ (mkF m 10 #[.val (.int p1), .val (.int p2), .unset, .unset, .unset, .unset, .unset, .unset] [])
    refine own_byH (fun _ k => XS.iconst X0.here hx rfl (hb hby at_10) (XS.istoreN X0.here hx rfl (hb hby at_11) rfl (l' := #[.val (.int p1), .val (.int p2), .val (.int (0 : Int32)), .unset, .unset, .unset, .unset, .unset]) rfl (XS.iloadN X0.here hx rfl (hb hby at_12) rfl (XS.iconst X0.here hx rfl (hb hby at_13) (XS.iand X0.here hx rfl (hb hby at_14) rfl k))))) ?_
    show own_FinH p e below s Z consts_1 h0 _ _ _ s₁ (mkF m 15 #[.val (.int p1), .val (.int p2), .val (.int (0 : Int32)), .unset, .unset, .unset, .unset, .unset] [(.int (p2 &&& (1 : Int32)))])
    by_cases hc15_101 : (p2 &&& (1 : Int32)) = (0 : Int32)
    · show own_FinH p e below s Z consts_1 h0 _ _ _ s₁ (mkF m 15 #[.val (.int p1), .val (.int p2), .val (.int (0 : Int32)), .unset, .unset, .unset, .unset, .unset] [(.int (p2 &&& (1 : Int32)))])
      refine own_byH (fun _ k => XS.ifYes X0.here hx rfl (pc0 := 15) (pc' := 22) rfl (hb hby at_15) rfl ((if0 _ _).trans (teq hc15_101).1) (by decide) (by decide) k) ?_
      show own_FinH p e below s Z consts_1 h0 _ _ _ s₁ (mkF m 22 #[.val (.int p1), .val (.int p2), .val (.int (0 : Int32)), .unset, .unset, .unset, .unset, .unset] [])
      refine own_byH (fun _ k => XS.iconst X0.here hx rfl (hb hby at_22) (XS.istoreN X0.here hx rfl (hb hby at_23) rfl (l' := #[.val (.int p1), .val (.int p2), .val (.int (0 : Int32)), .val (.int (0 : Int32)), .unset, .unset, .unset, .unset]) rfl (XS.iloadN X0.here hx rfl (hb hby at_24) rfl k))) ?_
      show own_FinH p e below s Z consts_1 h0 _ _ _ s₁ (mkF m 25 #[.val (.int p1), .val (.int p2), .val (.int (0 : Int32)), .val (.int (0 : Int32)), .unset, .unset, .unset, .unset] [(.int (0 : Int32))])
      refine own_byH (fun _ k => XS.ifYes X0.here hx rfl (pc0 := 25) (pc' := 34) rfl (hb hby at_25) rfl ((if0 _ _).trans (teq (by decide : (0 : Int32) = (0 : Int32))).1) (by decide) (by decide) k) ?_
      show own_FinH p e below s Z consts_1 h0 _ _ _ s₁ (mkF m 34 #[.val (.int p1), .val (.int p2), .val (.int (0 : Int32)), .val (.int (0 : Int32)), .unset, .unset, .unset, .unset] [])
      obtain ⟨T102, X102, e102, st102⟩ := getS2 X0 hx hZ hown (host := "") (Or.inl (hw _ (List.mem_of_getElem? (i := 0) rfl))) Via.refl e0 (M0.1.ext Od.2) (g := (mkF m 34 #[.val (.int p1), .val (.int p2), .val (.int (0 : Int32)), .val (.int (0 : Int32)), .unset, .unset, .unset, .unset] [])) rfl (hb hby at_34)
      refine own_byH (fun _ k => st102 _ k) ?_
      show own_FinH p e below s Z consts_1 h0 _ _ _ T102 (mkF m 37 #[.val (.int p1), .val (.int p2), .val (.int (0 : Int32)), .val (.int (0 : Int32)), .unset, .unset, .unset, .unset] [(.ref d0)])
      refine own_byH (fun _ k => XS.astore X102.here hx rfl (hb hby at_37) rfl rfl (l' := #[.val (.int p1), .val (.int p2), .val (.int (0 : Int32)), .val (.int (0 : Int32)), .val (.ref d0), .unset, .unset, .unset]) rfl (XS.aload X102.here hx rfl (hb hby at_39) rfl rfl (XS.iloadN X102.here hx rfl (hb hby at_41) rfl k))) ?_
      show own_FinH p e below s Z consts_1 h0 _ _ _ T102 (mkF m 42 #[.val (.int p1), .val (.int p2), .val (.int (0 : Int32)), .val (.int (0 : Int32)), .val (.ref d0), .unset, .unset, .unset] [(.int (0 : Int32)), (.ref d0)])
      obtain ⟨_, _, ⟨T103, L103, k103, n103⟩, -, X103, ⟨Lc103, hQ103, l103, y103, z103⟩, st103⟩ := Jvm.LawKit.callS X102 hx (y := (⟨"com/example/lithe_checker/lithechecker/c/CType", "longType", "(Lcom/example/lithe_checker/lithechecker/task/DataModel;Z)Lcom/example/lithe_checker/lithechecker/c/CType$IntegerType;"⟩ : MethodName)) hown (mvT hZ (hw _ (List.mem_of_getElem? (i := 3) rfl))) (mvT hZ (hw _ (List.mem_of_getElem? (i := 4) rfl))) (mvT hZ (hw _ (List.mem_of_getElem? (i := 5) rfl))) (mvT hZ (hw _ (List.mem_of_getElem? (i := 6) rfl))) (by decide) (backOf (W := 0) (rmL00 l Z a0 hw [] d0 t00 h0 n0 Z0 (M0.2.1.ext Od.2) (M0.2.2.ext Od.2) (Y00.1.ext Od.2)) hZ (hw _ (List.mem_of_getElem? (i := 6) rfl)) (hw _ (List.mem_of_getElem? (i := 5) rfl)) (by decide) (by decide)) (g := (mkF m 42 #[.val (.int p1), .val (.int p2), .val (.int (0 : Int32)), .val (.int (0 : Int32)), .val (.ref d0), .unset, .unset, .unset] [(.int (0 : Int32)), (.ref d0)])) rfl (by rw [hml]; rfl) (argsL := [(.ref d0), (.int (0 : Int32))]) (rest := []) (lenOf own_pd134 rfl) rfl (by show 2 * 0 + _ ≤ _; exact Nat.le_of_eq rfl) (hb hby at_42) (fun _ _ => ⟨rfl, e102, (by decide : 0 + 0 ≤ _), (by decide : 0 + 0 ≤ _)⟩)
      dsimp only [Pt.U, Pt.locs, Pt.cells, Pt.slots] at X103 l103 y103 z103 st103 hQ103
      subst l103 y103 z103
      obtain ⟨rfl, Nq103, eh103⟩ := hQ103
      have N103 := Fr.app N0 Nq103
      refine own_byH (fun _ k => st103 _ k) ?_
      show own_FinH p e below s Z consts_1 h0 _ _ _ T103 (mkF m 45 #[.val (.int p1), .val (.int p2), .val (.int (0 : Int32)), .val (.int (0 : Int32)), .val (.ref d0), .unset, .unset, .unset] [(.ref t00)])
      refine own_byH (fun _ k => XS.astore X103.here hx rfl (hb hby at_45) rfl rfl (l' := #[.val (.int p1), .val (.int p2), .val (.int (0 : Int32)), .val (.int (0 : Int32)), .val (.ref d0), .val (.ref t00), .unset, .unset]) rfl (XS.aload X103.here hx rfl (hb hby at_47) rfl rfl k)) ?_
      show own_FinH p e below s Z consts_1 h0 _ _ _ T103 (mkF m 49 #[.val (.int p1), .val (.int p2), .val (.int (0 : Int32)), .val (.int (0 : Int32)), .val (.ref d0), .val (.ref t00), .unset, .unset] [(.ref t00)])
      refine own_byH (fun _ k => XS.ifnonnullYes X103.here hx rfl (pc0 := 49) (pc' := 54) rfl (hb hby at_49) rfl (by decide) (by decide) k) ?_
      show own_FinH p e below s Z consts_1 h0 _ _ _ T103 (mkF m 54 #[.val (.int p1), .val (.int p2), .val (.int (0 : Int32)), .val (.int (0 : Int32)), .val (.ref d0), .val (.ref t00), .unset, .unset] [])
      refine own_byH (fun _ k => XS.iloadN X103.here hx rfl (hb hby at_54) rfl k) ?_
      show own_FinH p e below s Z consts_1 h0 _ _ _ T103 (mkF m 55 #[.val (.int p1), .val (.int p2), .val (.int (0 : Int32)), .val (.int (0 : Int32)), .val (.ref d0), .val (.ref t00), .unset, .unset] [(.int (0 : Int32))])
      refine own_byH (fun _ k => XS.ifYes X103.here hx rfl (pc0 := 55) (pc' := 63) rfl (hb hby at_55) rfl ((if0 _ _).trans (teq (by decide : (0 : Int32) = (0 : Int32))).1) (by decide) (by decide) k) ?_
      show own_FinH p e below s Z consts_1 h0 _ _ _ T103 (mkF m 63 #[.val (.int p1), .val (.int p2), .val (.int (0 : Int32)), .val (.int (0 : Int32)), .val (.ref d0), .val (.ref t00), .unset, .unset] [])
      refine own_byH (fun _ k => XS.bipush X103.here hx rfl (hb hby at_63) (XS.istore X103.here hx rfl (hb hby at_65) rfl (l' := #[.val (.int p1), .val (.int p2), .val (.int (0 : Int32)), .val (.int (0 : Int32)), .val (.ref d0), .val (.ref t00), .val (.int (32 : Int32)), .unset]) rfl (XS.iloadN X103.here hx rfl (hb hby at_67) rfl k))) ?_
      show own_FinH p e below s Z consts_1 h0 _ _ _ T103 (mkF m 68 #[.val (.int p1), .val (.int p2), .val (.int (0 : Int32)), .val (.int (0 : Int32)), .val (.ref d0), .val (.ref t00), .val (.int (32 : Int32)), .unset] [(.int (0 : Int32))])
      refine own_byH (fun _ k => XS.ifYes X103.here hx rfl (pc0 := 68) (pc' := 76) rfl (hb hby at_68) rfl ((if0 _ _).trans (teq (by decide : (0 : Int32) = (0 : Int32))).1) (by decide) (by decide) k) ?_
      show own_FinH p e below s Z consts_1 h0 _ _ _ T103 (mkF m 76 #[.val (.int p1), .val (.int p2), .val (.int (0 : Int32)), .val (.int (0 : Int32)), .val (.ref d0), .val (.ref t00), .val (.int (32 : Int32)), .unset] [])
      obtain ⟨b104, T104, h104, k104, v104, kk104, X104, e104, E104, hS104, hkE104, hZ104, hown104, Eb104, Cb104, Vb104, Ab104, -, -, hCr104, -, Sn104, st104⟩ := ldcCH (s := s) (vm0 := s.vm) X103 hx hZ hown (hw _ (List.mem_of_getElem? (i := 84) rfl)) (own_wS hw) eh103 hS0 hk0 (own_EW hw) (by decide) CH0.1 (vs := [(.int (117 : Int32)), (.int (110 : Int32)), (.int (115 : Int32)), (.int (105 : Int32)), (.int (103 : Int32)), (.int (110 : Int32)), (.int (101 : Int32)), (.int (100 : Int32)), (.int (32 : Int32)), (.int (108 : Int32)), (.int (111 : Int32)), (.int (110 : Int32)), (.int (103 : Int32))]) (z := (13 : Int32)) (by decide) (by decide) (by decide) (g := (mkF m 76 #[.val (.int p1), .val (.int p2), .val (.int (0 : Int32)), .val (.int (0 : Int32)), .val (.ref d0), .val (.ref t00), .val (.int (32 : Int32)), .unset] [])) rfl (hb hby at_76) (n := 52) (by decide) (by decide) (by decide) (by decide)
      have CHs105 : CHr Z consts_1 s.vm h0 T104.vm h104 := CH0.trans (hCr104)
      replace hZ := hZ104
      replace hown := hown104
      refine own_byH (fun _ k => st104 _ k) ?_
      have Zs104 : n0 ≤ h104.size := Nat.le_trans Z0 E104.1
      have f106_0 : Old Z n0 h104 := Od.ext E104
      have f106_1 : Exa Z h104 t00 "com/example/lithe_checker/lithechecker/c/CType$IntegerType" := (Y00.2.1.ext Od.2).ext E104
      have f106_2 : Fld Z h104 t00 "com/example/lithe_checker/lithechecker/c/CType$IntegerType" "bits" "I" (.int (32 : Int32)) := (Y00.2.2.1.ext Od.2).ext E104
      have f106_3 : Fld Z h104 t00 "com/example/lithe_checker/lithechecker/c/CType$IntegerType" "signed" "Z" (.int (0 : Int32)) := (Y00.2.2.2.1.ext Od.2).ext E104
      have f106_4 : Fld Z h104 t00 "com/example/lithe_checker/lithechecker/c/CType$IntegerType" "rank" "I" (.int (4 : Int32)) := (Y00.2.2.2.2.1.ext Od.2).ext E104
      have f106_5 : Fld Z h104 t00 "com/example/lithe_checker/lithechecker/c/CType$IntegerType" "name" "Ljava/lang/String;" (.ref s0) := (Y00.2.2.2.2.2.ext Od.2).ext E104
      show own_FinH p e below s Z consts_1 h0 _ _ _ T104 (mkF m 78 #[.val (.int p1), .val (.int p2), .val (.int (0 : Int32)), .val (.int (0 : Int32)), .val (.ref d0), .val (.ref t00), .val (.int (32 : Int32)), .unset] [(.ref b104)])
      refine own_byH (fun _ k => XS.astore X104.here hx rfl (hb hby at_78) rfl rfl (l' := #[.val (.int p1), .val (.int p2), .val (.int (0 : Int32)), .val (.int (0 : Int32)), .val (.ref d0), .val (.ref t00), .val (.int (32 : Int32)), .val (.ref b104)]) rfl (XS.aload X104.here hx rfl (hb hby at_80) rfl rfl k)) ?_
      show own_FinH p e below s Z consts_1 h0 _ _ _ T104 (mkF m 82 #[.val (.int p1), .val (.int p2), .val (.int (0 : Int32)), .val (.int (0 : Int32)), .val (.ref d0), .val (.ref t00), .val (.int (32 : Int32)), .val (.ref b104)] [(.ref t00)])
      obtain ⟨cq107, kq107, q107a, q107b, q107c⟩ := isOf hZ e104 f106_1
      obtain ⟨_, _, ⟨T107, L107, k107, n107⟩, -, X107, ⟨Lc107, hQ107, l107, y107, z107⟩, st107⟩ := X104.virtualBack hx (y := (⟨"com/example/lithe_checker/lithechecker/c/CType$IntegerType", "bits", "()I"⟩ : MethodName)) (z := (⟨"com/example/lithe_checker/lithechecker/c/CType$IntegerType", "bits", "()I"⟩ : MethodName)) hown (mvT hZ (hw _ (List.mem_of_getElem? (i := 24) rfl))) (mvT hZ (hw _ (List.mem_of_getElem? (i := 25) rfl))) (notFace_of_selects (args := #[]) (mvT hZ (hw _ (List.mem_of_getElem? (i := 27) rfl)))) (mvT hZ (hw _ (List.mem_of_getElem? (i := 27) rfl))) (mvT hZ (hw _ (List.mem_of_getElem? (i := 26) rfl))) (by decide) (backOf (W := 0) (rmB l Z a0 hw [] t00 (32 : Int32) h104 n0 Zs104 f106_2) hZ (hw _ (List.mem_of_getElem? (i := 29) rfl)) (hw _ (List.mem_of_getElem? (i := 28) rfl)) (by decide) (by decide)) q107a q107c (g := (mkF m 82 #[.val (.int p1), .val (.int p2), .val (.int (0 : Int32)), .val (.int (0 : Int32)), .val (.ref d0), .val (.ref t00), .val (.int (32 : Int32)), .val (.ref b104)] [(.ref t00)])) rfl (by rw [hml]; rfl) (Steps.refl _) (argsL := []) (rest := []) (lenOf own_pd23 rfl) rfl (by show 2 * 0 + _ ≤ _; exact Nat.le_of_eq rfl) (hb hby at_82) (fun _ _ => ⟨rfl, e104, (by decide : 2 + 0 ≤ _), (by decide : 56 + 0 ≤ _)⟩)
      dsimp only [Pt.U, Pt.locs, Pt.cells, Pt.slots] at X107 l107 y107 z107 st107 hQ107
      subst l107 y107 z107
      obtain ⟨rfl, Nq107, eh107⟩ := hQ107
      have N107 := Fr.app N103 Nq107
      refine own_byH (fun _ k => st107.trans k) ?_
      show own_FinH p e below s Z consts_1 h0 _ _ _ T107 (mkF m 85 #[.val (.int p1), .val (.int p2), .val (.int (0 : Int32)), .val (.int (0 : Int32)), .val (.ref d0), .val (.ref t00), .val (.int (32 : Int32)), .val (.ref b104)] [(.int (32 : Int32))])
      refine own_byH (fun _ k => XS.iload X107.here hx rfl (hb hby at_85) rfl k) ?_
      show own_FinH p e below s Z consts_1 h0 _ _ _ T107 (mkF m 87 #[.val (.int p1), .val (.int p2), .val (.int (0 : Int32)), .val (.int (0 : Int32)), .val (.ref d0), .val (.ref t00), .val (.int (32 : Int32)), .val (.ref b104)] [(.int (32 : Int32)), (.int (32 : Int32))])
      refine own_byH (fun _ k => XS.icmpNo X107.here hx rfl (hb hby at_87) rfl (teq (by decide : (32 : Int32) = (32 : Int32))).2 k) ?_
      show own_FinH p e below s Z consts_1 h0 _ _ _ T107 (mkF m 90 #[.val (.int p1), .val (.int p2), .val (.int (0 : Int32)), .val (.int (0 : Int32)), .val (.ref d0), .val (.ref t00), .val (.int (32 : Int32)), .val (.ref b104)] [])
      refine own_byH (fun _ k => XS.aload X107.here hx rfl (hb hby at_90) rfl rfl k) ?_
      show own_FinH p e below s Z consts_1 h0 _ _ _ T107 (mkF m 92 #[.val (.int p1), .val (.int p2), .val (.int (0 : Int32)), .val (.int (0 : Int32)), .val (.ref d0), .val (.ref t00), .val (.int (32 : Int32)), .val (.ref b104)] [(.ref t00)])
      obtain ⟨cq108, kq108, q108a, q108b, q108c⟩ := isOf hZ eh107 f106_1
      obtain ⟨_, _, ⟨T108, L108, k108, n108⟩, -, X108, ⟨Lc108, hQ108, l108, y108, z108⟩, st108⟩ := X107.virtualBack hx (y := (⟨"com/example/lithe_checker/lithechecker/c/CType$IntegerType", "signed", "()Z"⟩ : MethodName)) (z := (⟨"com/example/lithe_checker/lithechecker/c/CType$IntegerType", "signed", "()Z"⟩ : MethodName)) hown (mvT hZ (hw _ (List.mem_of_getElem? (i := 32) rfl))) (mvT hZ (hw _ (List.mem_of_getElem? (i := 33) rfl))) (notFace_of_selects (args := #[]) (mvT hZ (hw _ (List.mem_of_getElem? (i := 35) rfl)))) (mvT hZ (hw _ (List.mem_of_getElem? (i := 35) rfl))) (mvT hZ (hw _ (List.mem_of_getElem? (i := 34) rfl))) (by decide) (backOf (W := 0) (rmS0 l Z a0 hw [] t00 h104 n0 Zs104 f106_3) hZ (hw _ (List.mem_of_getElem? (i := 36) rfl)) (hw _ (List.mem_of_getElem? (i := 28) rfl)) (by decide) (by decide)) q108a q108c (g := (mkF m 92 #[.val (.int p1), .val (.int p2), .val (.int (0 : Int32)), .val (.int (0 : Int32)), .val (.ref d0), .val (.ref t00), .val (.int (32 : Int32)), .val (.ref b104)] [(.ref t00)])) rfl (by rw [hml]; rfl) (Steps.refl _) (argsL := []) (rest := []) (lenOf own_pd59 rfl) rfl (by show 2 * 0 + _ ≤ _; exact Nat.le_of_eq rfl) (hb hby at_92) (fun _ _ => ⟨rfl, eh107, (by decide : 2 + 0 ≤ _), (by decide : 56 + 0 ≤ _)⟩)
      dsimp only [Pt.U, Pt.locs, Pt.cells, Pt.slots] at X108 l108 y108 z108 st108 hQ108
      subst l108 y108 z108
      obtain ⟨rfl, Nq108, eh108⟩ := hQ108
      have N108 := Fr.app N107 Nq108
      refine own_byH (fun _ k => st108.trans k) ?_
      show own_FinH p e below s Z consts_1 h0 _ _ _ T108 (mkF m 95 #[.val (.int p1), .val (.int p2), .val (.int (0 : Int32)), .val (.int (0 : Int32)), .val (.ref d0), .val (.ref t00), .val (.int (32 : Int32)), .val (.ref b104)] [(.int (0 : Int32))])
      refine own_byH (fun _ k => XS.iloadN X108.here hx rfl (hb hby at_95) rfl k) ?_
      show own_FinH p e below s Z consts_1 h0 _ _ _ T108 (mkF m 96 #[.val (.int p1), .val (.int p2), .val (.int (0 : Int32)), .val (.int (0 : Int32)), .val (.ref d0), .val (.ref t00), .val (.int (32 : Int32)), .val (.ref b104)] [(.int (0 : Int32)), (.int (0 : Int32))])
      refine own_byH (fun _ k => XS.icmpNo X108.here hx rfl (hb hby at_96) rfl (teq (by decide : (0 : Int32) = (0 : Int32))).2 k) ?_
      show own_FinH p e below s Z consts_1 h0 _ _ _ T108 (mkF m 99 #[.val (.int p1), .val (.int p2), .val (.int (0 : Int32)), .val (.int (0 : Int32)), .val (.ref d0), .val (.ref t00), .val (.int (32 : Int32)), .val (.ref b104)] [])
      refine own_byH (fun _ k => XS.aload X108.here hx rfl (hb hby at_99) rfl rfl k) ?_
      show own_FinH p e below s Z consts_1 h0 _ _ _ T108 (mkF m 101 #[.val (.int p1), .val (.int p2), .val (.int (0 : Int32)), .val (.int (0 : Int32)), .val (.ref d0), .val (.ref t00), .val (.int (32 : Int32)), .val (.ref b104)] [(.ref t00)])
      obtain ⟨cq109, kq109, q109a, q109b, q109c⟩ := isOf hZ eh108 f106_1
      obtain ⟨_, _, ⟨T109, L109, k109, n109⟩, -, X109, ⟨Lc109, hQ109, l109, y109, z109⟩, st109⟩ := X108.virtualBack hx (y := (⟨"com/example/lithe_checker/lithechecker/c/CType$IntegerType", "rank", "()I"⟩ : MethodName)) (z := (⟨"com/example/lithe_checker/lithechecker/c/CType$IntegerType", "rank", "()I"⟩ : MethodName)) hown (mvT hZ (hw _ (List.mem_of_getElem? (i := 39) rfl))) (mvT hZ (hw _ (List.mem_of_getElem? (i := 40) rfl))) (notFace_of_selects (args := #[]) (mvT hZ (hw _ (List.mem_of_getElem? (i := 42) rfl)))) (mvT hZ (hw _ (List.mem_of_getElem? (i := 42) rfl))) (mvT hZ (hw _ (List.mem_of_getElem? (i := 41) rfl))) (by decide) (backOf (W := 0) (rmR l Z a0 hw [] t00 (4 : Int32) h104 n0 Zs104 f106_4) hZ (hw _ (List.mem_of_getElem? (i := 43) rfl)) (hw _ (List.mem_of_getElem? (i := 28) rfl)) (by decide) (by decide)) q109a q109c (g := (mkF m 101 #[.val (.int p1), .val (.int p2), .val (.int (0 : Int32)), .val (.int (0 : Int32)), .val (.ref d0), .val (.ref t00), .val (.int (32 : Int32)), .val (.ref b104)] [(.ref t00)])) rfl (by rw [hml]; rfl) (Steps.refl _) (argsL := []) (rest := []) (lenOf own_pd23 rfl) rfl (by show 2 * 0 + _ ≤ _; exact Nat.le_of_eq rfl) (hb hby at_101) (fun _ _ => ⟨rfl, eh108, (by decide : 2 + 0 ≤ _), (by decide : 56 + 0 ≤ _)⟩)
      dsimp only [Pt.U, Pt.locs, Pt.cells, Pt.slots] at X109 l109 y109 z109 st109 hQ109
      subst l109 y109 z109
      obtain ⟨rfl, Nq109, eh109⟩ := hQ109
      have N109 := Fr.app N108 Nq109
      refine own_byH (fun _ k => st109.trans k) ?_
      show own_FinH p e below s Z consts_1 h0 _ _ _ T109 (mkF m 104 #[.val (.int p1), .val (.int p2), .val (.int (0 : Int32)), .val (.int (0 : Int32)), .val (.ref d0), .val (.ref t00), .val (.int (32 : Int32)), .val (.ref b104)] [(.int (4 : Int32))])
      refine own_byH (fun _ k => XS.iconst X109.here hx rfl (hb hby at_104) k) ?_
      show own_FinH p e below s Z consts_1 h0 _ _ _ T109 (mkF m 105 #[.val (.int p1), .val (.int p2), .val (.int (0 : Int32)), .val (.int (0 : Int32)), .val (.ref d0), .val (.ref t00), .val (.int (32 : Int32)), .val (.ref b104)] [(.int (4 : Int32)), (.int (4 : Int32))])
      refine own_byH (fun _ k => XS.icmpNo X109.here hx rfl (hb hby at_105) rfl (teq (by decide : (4 : Int32) = (4 : Int32))).2 k) ?_
      show own_FinH p e below s Z consts_1 h0 _ _ _ T109 (mkF m 108 #[.val (.int p1), .val (.int p2), .val (.int (0 : Int32)), .val (.int (0 : Int32)), .val (.ref d0), .val (.ref t00), .val (.int (32 : Int32)), .val (.ref b104)] [])
      refine own_byH (fun _ k => XS.aload X109.here hx rfl (hb hby at_108) rfl rfl (XS.aload X109.here hx rfl (hb hby at_110) rfl rfl k)) ?_
      show own_FinH p e below s Z consts_1 h0 _ _ _ T109 (mkF m 112 #[.val (.int p1), .val (.int p2), .val (.int (0 : Int32)), .val (.int (0 : Int32)), .val (.ref d0), .val (.ref t00), .val (.int (32 : Int32)), .val (.ref b104)] [(.ref t00), (.ref b104)])
      obtain ⟨cq110, kq110, q110a, q110b, q110c⟩ := isOf hZ eh109 f106_1
      obtain ⟨_, _, ⟨T110, L110, k110, n110⟩, -, X110, hSn110, hgr110, ⟨Lc110, hQ110, l110, y110, z110, hCr110⟩, st110⟩ := X109.virtualBackUpS hx (owner := "com/example/lithe_checker/lithechecker/c/CType") (x := (⟨"com/example/lithe_checker/lithechecker/c/CType$IntegerType", "toString", "()Ljava/lang/String;"⟩ : MethodName)) (y := (⟨"com/example/lithe_checker/lithechecker/c/CType", "toString", "()Ljava/lang/String;"⟩ : MethodName)) hown (mvT hZ (hw _ (List.mem_of_getElem? (i := 46) rfl))) (mvT hZ (hw _ (List.mem_of_getElem? (i := 47) rfl))) (mvT hZ (hw _ (List.mem_of_getElem? (i := 48) rfl))) (by decide) (mvT hZ (hw _ (List.mem_of_getElem? (i := 50) rfl))) (mvT hZ (hw _ (List.mem_of_getElem? (i := 49) rfl))) (backOfSH (W := 1) (s := s) (vm0 := T104.vm) (rmT l Z a0 hw [] t00 s0 h104 n0 Zs104 f106_1 f106_5) hZ (hw _ (List.mem_of_getElem? (i := 51) rfl)) (hw _ (List.mem_of_getElem? (i := 5) rfl)) (by decide) (by decide) (own_EW hw) CHs105.1) q110a q110c (g := (mkF m 112 #[.val (.int p1), .val (.int p2), .val (.int (0 : Int32)), .val (.int (0 : Int32)), .val (.ref d0), .val (.ref t00), .val (.int (32 : Int32)), .val (.ref b104)] [(.ref t00), (.ref b104)])) rfl (by rw [hml]; rfl) (Steps.refl _) (argsL := []) (rest := [(.ref b104)]) (lenOf own_pd135 rfl) rfl (by show 2 * 0 + _ ≤ _; exact Nat.le_of_eq rfl) (hb hby at_112) (fun _ _ => ⟨rfl, eh109, (by decide : 2 + 2 ≤ _), (by decide : 56 + 4 ≤ _)⟩)
      dsimp only [Pt.U, Pt.locs, Pt.cells, Pt.slots] at X110 l110 y110 z110 st110 hQ110 hSn110 hgr110
      subst l110 y110 z110
      obtain ⟨rfl, Nq110, K110⟩ := hQ110
      have N110 := Fr.app N109 Nq110
      have hS110 : s.Since T110.vm T110.heap.size := foldS (s := s) hS104 (by rw [eh109]; exact hkE104) hSn110 hgr110
      have hZ110 : Z.Warmed39 (s.setVm T110.vm).vm := State.Warmed39.trans (t := s.setVm T104.vm) hZ hSn110.1
      have hown110 : (s.setVm T110.vm).vm.findClass "com/example/lithe_checker/lithechecker/c/CTypeLongTypePinLaw" = some m.cls := by rw [show (s.setVm T110.vm).vm = T110.vm from rfl, hSn110.1.alike.findClass]; exact hown
      replace hCr110 : CHr Z consts_1 T104.vm h104 T110.vm T110.heap := hCr110
      have CHs111 : CHr Z consts_1 s.vm h0 T110.vm T110.heap := CHs105.trans (hCr110)
      replace hZ := hZ110
      replace hown := hown110
      replace X110 : Stand p l e room_1 (s.setVm T110.vm) m #[(.int p1), (.int p2)] below meth c T110 _ _ _ := X110
      have hkE110 : T110.heap.size ≤ T110.heap.size := Nat.le_refl _
      refine own_byH (fun _ k => st110.trans k) ?_
      have Zs110 : n0 ≤ T110.heap.size := Nat.le_trans Zs104 K110.1
      have f112_0 : Old Z n0 T110.heap := f106_0.keep K110 all0
      have f112_1 : Exa Z T110.heap t00 "com/example/lithe_checker/lithechecker/c/CType$IntegerType" := f106_1.keep K110
      have f112_2 : Fld Z T110.heap t00 "com/example/lithe_checker/lithechecker/c/CType$IntegerType" "bits" "I" (.int (32 : Int32)) := f106_2.keep K110 nin0
      have f112_3 : Fld Z T110.heap t00 "com/example/lithe_checker/lithechecker/c/CType$IntegerType" "signed" "Z" (.int (0 : Int32)) := f106_3.keep K110 nin0
      have f112_4 : Fld Z T110.heap t00 "com/example/lithe_checker/lithechecker/c/CType$IntegerType" "rank" "I" (.int (4 : Int32)) := f106_4.keep K110 nin0
      have f112_5 : Fld Z T110.heap t00 "com/example/lithe_checker/lithechecker/c/CType$IntegerType" "name" "Ljava/lang/String;" (.ref s0) := f106_5.keep K110 nin0
      have f112_6 : Exa Z T110.heap b104 "java/lang/String" := Eb104.keep K110
      have f112_7 : Fld Z T110.heap b104 "java/lang/String" "coder" "B" (.int (0 : Int32)) := Cb104.keep K110 nin0
      have f112_8 : Fld Z T110.heap b104 "java/lang/String" "value" "[B" (.ref v104) := Vb104.keep K110 nin0
      have f112_9 : Arv Z T110.heap v104 kk104 .byte (13 : Int32) [(.int (117 : Int32)), (.int (110 : Int32)), (.int (115 : Int32)), (.int (105 : Int32)), (.int (103 : Int32)), (.int (110 : Int32)), (.int (101 : Int32)), (.int (100 : Int32)), (.int (32 : Int32)), (.int (108 : Int32)), (.int (111 : Int32)), (.int (110 : Int32)), (.int (103 : Int32))] (.int (0 : Int32)) := Ab104.keep K110 nin0
      show own_FinH p e below s Z consts_1 h0 _ _ _ T110 (mkF m 115 #[.val (.int p1), .val (.int p2), .val (.int (0 : Int32)), .val (.int (0 : Int32)), .val (.ref d0), .val (.ref t00), .val (.int (32 : Int32)), .val (.ref b104)] [(.ref s0), (.ref b104)])
      obtain ⟨cq113, kq113, q113a, q113b, q113c⟩ := isOf hZ rfl f112_6
      obtain ⟨_, _, ⟨T113, L113, k113, n113⟩, -, X113, ⟨Lc113, hQ113, l113, y113, z113⟩, st113⟩ := X110.virtualBack hx (y := (⟨"java/lang/String", "equals", "(Ljava/lang/Object;)Z"⟩ : MethodName)) (z := (⟨"java/lang/String", "equals", "(Ljava/lang/Object;)Z"⟩ : MethodName)) hown (mvT hZ (hw _ (List.mem_of_getElem? (i := 69) rfl))) (mvT hZ (hw _ (List.mem_of_getElem? (i := 70) rfl))) (notFace_of_selects (args := #[]) (mvT hZ (hw _ (List.mem_of_getElem? (i := 72) rfl)))) (mvT hZ (hw _ (List.mem_of_getElem? (i := 72) rfl))) (mvT hZ (hw _ (List.mem_of_getElem? (i := 71) rfl))) (by decide) (backOf (W := 0) (rmQ0 l Z a0 hw [] b104 s0 v104 u0 kk104 j0 cs T110.heap n0 Zs110 (ZS0.1.ext f112_0.2) f112_7 f112_8 (ZS0.2.1.ext f112_0.2) (ZS0.2.2.1.ext f112_0.2) f112_9 (ZS0.2.2.2.ext f112_0.2) (S_cs.ext f112_0.2) hcs) hZ (hw _ (List.mem_of_getElem? (i := 73) rfl)) (hw _ (List.mem_of_getElem? (i := 17) rfl)) (by decide) (by decide)) q113a q113c (g := (mkF m 115 #[.val (.int p1), .val (.int p2), .val (.int (0 : Int32)), .val (.int (0 : Int32)), .val (.ref d0), .val (.ref t00), .val (.int (32 : Int32)), .val (.ref b104)] [(.ref s0), (.ref b104)])) rfl (by rw [hml]; rfl) (Steps.refl _) (argsL := [(.ref s0)]) (rest := []) (lenOf own_pd136 rfl) rfl (by show 2 * 0 + _ ≤ _; exact Nat.le_of_eq rfl) (hb hby at_115) (fun _ _ => ⟨rfl, rfl, (by decide : 4 + 0 ≤ _), (by decide : 60 + 0 ≤ _)⟩)
      dsimp only [Pt.U, Pt.locs, Pt.cells, Pt.slots] at X113 l113 y113 z113 st113 hQ113
      subst l113 y113 z113
      obtain ⟨rfl, Nq113, eh113⟩ := hQ113
      have N113 := Fr.app N110 Nq113
      refine own_byH (fun _ k => st113.trans k) ?_
      show own_FinH p e below s Z consts_1 h0 _ _ _ T113 (mkF m 118 #[.val (.int p1), .val (.int p2), .val (.int (0 : Int32)), .val (.int (0 : Int32)), .val (.ref d0), .val (.ref t00), .val (.int (32 : Int32)), .val (.ref b104)] [(.int (1 : Int32))])
      refine own_byH (fun _ k => XS.ifNo X113.here hx rfl (hb hby at_118) rfl ((if0 _ _).trans (feq (by decide : ¬ ((1 : Int32) = (0 : Int32)))).1) k) ?_
      show own_FinH p e below s Z consts_1 h0 _ _ _ T113 (mkF m 121 #[.val (.int p1), .val (.int p2), .val (.int (0 : Int32)), .val (.int (0 : Int32)), .val (.ref d0), .val (.ref t00), .val (.int (32 : Int32)), .val (.ref b104)] [])
      refine own_byH (fun _ k => XS.iconst X113.here hx rfl (hb hby at_121) (XS.goto X113.here hx rfl (pc0 := 122) (pc' := 126) rfl (hb hby at_122) (by decide) (by decide) k)) ?_
      show own_FinH p e below s Z consts_1 h0 _ _ _ T113 (mkF m 126 #[.val (.int p1), .val (.int p2), .val (.int (0 : Int32)), .val (.int (0 : Int32)), .val (.ref d0), .val (.ref t00), .val (.int (32 : Int32)), .val (.ref b104)] [(.int (1 : Int32))])
      have CHe114 : CHr Z consts_1 s.vm h0 T113.vm T110.heap := CHs111.trans (CHv.at X113 hZ (own_EW hw) CHs111.1)
      exact own_retZH X113 hS110 (by rw [eh113]; exact hkE110) (by rw [eh113]; exact CHe114) hx hlk (t := .boolean) Bd.returns (by simp) (hb hby at_126) ⟨rfl, N113⟩ (by decide) (by decide)
    · show own_FinH p e below s Z consts_1 h0 _ _ _ s₁ (mkF m 15 #[.val (.int p1), .val (.int p2), .val (.int (0 : Int32)), .unset, .unset, .unset, .unset, .unset] [(.int (p2 &&& (1 : Int32)))])
      refine own_byH (fun _ k => XS.ifNo X0.here hx rfl (hb hby at_15) rfl ((if0 _ _).trans (feq hc15_101).1) k) ?_
      show own_FinH p e below s Z consts_1 h0 _ _ _ s₁ (mkF m 18 #[.val (.int p1), .val (.int p2), .val (.int (0 : Int32)), .unset, .unset, .unset, .unset, .unset] [])
      refine own_byH (fun _ k => XS.iconst X0.here hx rfl (hb hby at_18) (XS.goto X0.here hx rfl (pc0 := 19) (pc' := 23) rfl (hb hby at_19) (by decide) (by decide) (XS.istoreN X0.here hx rfl (hb hby at_23) rfl (l' := #[.val (.int p1), .val (.int p2), .val (.int (0 : Int32)), .val (.int (1 : Int32)), .unset, .unset, .unset, .unset]) rfl (XS.iloadN X0.here hx rfl (hb hby at_24) rfl k)))) ?_
      show own_FinH p e below s Z consts_1 h0 _ _ _ s₁ (mkF m 25 #[.val (.int p1), .val (.int p2), .val (.int (0 : Int32)), .val (.int (1 : Int32)), .unset, .unset, .unset, .unset] [(.int (0 : Int32))])
      refine own_byH (fun _ k => XS.ifYes X0.here hx rfl (pc0 := 25) (pc' := 34) rfl (hb hby at_25) rfl ((if0 _ _).trans (teq (by decide : (0 : Int32) = (0 : Int32))).1) (by decide) (by decide) k) ?_
      show own_FinH p e below s Z consts_1 h0 _ _ _ s₁ (mkF m 34 #[.val (.int p1), .val (.int p2), .val (.int (0 : Int32)), .val (.int (1 : Int32)), .unset, .unset, .unset, .unset] [])
      obtain ⟨T115, X115, e115, st115⟩ := getS2 X0 hx hZ hown (host := "") (Or.inl (hw _ (List.mem_of_getElem? (i := 0) rfl))) Via.refl e0 (M0.1.ext Od.2) (g := (mkF m 34 #[.val (.int p1), .val (.int p2), .val (.int (0 : Int32)), .val (.int (1 : Int32)), .unset, .unset, .unset, .unset] [])) rfl (hb hby at_34)
      refine own_byH (fun _ k => st115 _ k) ?_
      show own_FinH p e below s Z consts_1 h0 _ _ _ T115 (mkF m 37 #[.val (.int p1), .val (.int p2), .val (.int (0 : Int32)), .val (.int (1 : Int32)), .unset, .unset, .unset, .unset] [(.ref d0)])
      refine own_byH (fun _ k => XS.astore X115.here hx rfl (hb hby at_37) rfl rfl (l' := #[.val (.int p1), .val (.int p2), .val (.int (0 : Int32)), .val (.int (1 : Int32)), .val (.ref d0), .unset, .unset, .unset]) rfl (XS.aload X115.here hx rfl (hb hby at_39) rfl rfl (XS.iloadN X115.here hx rfl (hb hby at_41) rfl k))) ?_
      show own_FinH p e below s Z consts_1 h0 _ _ _ T115 (mkF m 42 #[.val (.int p1), .val (.int p2), .val (.int (0 : Int32)), .val (.int (1 : Int32)), .val (.ref d0), .unset, .unset, .unset] [(.int (1 : Int32)), (.ref d0)])
      obtain ⟨_, _, ⟨T116, L116, k116, n116⟩, -, X116, ⟨Lc116, hQ116, l116, y116, z116⟩, st116⟩ := Jvm.LawKit.callS X115 hx (y := (⟨"com/example/lithe_checker/lithechecker/c/CType", "longType", "(Lcom/example/lithe_checker/lithechecker/task/DataModel;Z)Lcom/example/lithe_checker/lithechecker/c/CType$IntegerType;"⟩ : MethodName)) hown (mvT hZ (hw _ (List.mem_of_getElem? (i := 3) rfl))) (mvT hZ (hw _ (List.mem_of_getElem? (i := 4) rfl))) (mvT hZ (hw _ (List.mem_of_getElem? (i := 5) rfl))) (mvT hZ (hw _ (List.mem_of_getElem? (i := 6) rfl))) (by decide) (backOf (W := 0) (rmL01 l Z a0 hw [] d0 t01 h0 n0 Z0 (M0.2.1.ext Od.2) (M0.2.2.ext Od.2) (Y01.1.ext Od.2)) hZ (hw _ (List.mem_of_getElem? (i := 6) rfl)) (hw _ (List.mem_of_getElem? (i := 5) rfl)) (by decide) (by decide)) (g := (mkF m 42 #[.val (.int p1), .val (.int p2), .val (.int (0 : Int32)), .val (.int (1 : Int32)), .val (.ref d0), .unset, .unset, .unset] [(.int (1 : Int32)), (.ref d0)])) rfl (by rw [hml]; rfl) (argsL := [(.ref d0), (.int (1 : Int32))]) (rest := []) (lenOf own_pd134 rfl) rfl (by show 2 * 0 + _ ≤ _; exact Nat.le_of_eq rfl) (hb hby at_42) (fun _ _ => ⟨rfl, e115, (by decide : 0 + 0 ≤ _), (by decide : 0 + 0 ≤ _)⟩)
      dsimp only [Pt.U, Pt.locs, Pt.cells, Pt.slots] at X116 l116 y116 z116 st116 hQ116
      subst l116 y116 z116
      obtain ⟨rfl, Nq116, eh116⟩ := hQ116
      have N116 := Fr.app N0 Nq116
      refine own_byH (fun _ k => st116 _ k) ?_
      show own_FinH p e below s Z consts_1 h0 _ _ _ T116 (mkF m 45 #[.val (.int p1), .val (.int p2), .val (.int (0 : Int32)), .val (.int (1 : Int32)), .val (.ref d0), .unset, .unset, .unset] [(.ref t01)])
      refine own_byH (fun _ k => XS.astore X116.here hx rfl (hb hby at_45) rfl rfl (l' := #[.val (.int p1), .val (.int p2), .val (.int (0 : Int32)), .val (.int (1 : Int32)), .val (.ref d0), .val (.ref t01), .unset, .unset]) rfl (XS.aload X116.here hx rfl (hb hby at_47) rfl rfl k)) ?_
      show own_FinH p e below s Z consts_1 h0 _ _ _ T116 (mkF m 49 #[.val (.int p1), .val (.int p2), .val (.int (0 : Int32)), .val (.int (1 : Int32)), .val (.ref d0), .val (.ref t01), .unset, .unset] [(.ref t01)])
      refine own_byH (fun _ k => XS.ifnonnullYes X116.here hx rfl (pc0 := 49) (pc' := 54) rfl (hb hby at_49) rfl (by decide) (by decide) k) ?_
      show own_FinH p e below s Z consts_1 h0 _ _ _ T116 (mkF m 54 #[.val (.int p1), .val (.int p2), .val (.int (0 : Int32)), .val (.int (1 : Int32)), .val (.ref d0), .val (.ref t01), .unset, .unset] [])
      refine own_byH (fun _ k => XS.iloadN X116.here hx rfl (hb hby at_54) rfl k) ?_
      show own_FinH p e below s Z consts_1 h0 _ _ _ T116 (mkF m 55 #[.val (.int p1), .val (.int p2), .val (.int (0 : Int32)), .val (.int (1 : Int32)), .val (.ref d0), .val (.ref t01), .unset, .unset] [(.int (0 : Int32))])
      refine own_byH (fun _ k => XS.ifYes X116.here hx rfl (pc0 := 55) (pc' := 63) rfl (hb hby at_55) rfl ((if0 _ _).trans (teq (by decide : (0 : Int32) = (0 : Int32))).1) (by decide) (by decide) k) ?_
      show own_FinH p e below s Z consts_1 h0 _ _ _ T116 (mkF m 63 #[.val (.int p1), .val (.int p2), .val (.int (0 : Int32)), .val (.int (1 : Int32)), .val (.ref d0), .val (.ref t01), .unset, .unset] [])
      refine own_byH (fun _ k => XS.bipush X116.here hx rfl (hb hby at_63) (XS.istore X116.here hx rfl (hb hby at_65) rfl (l' := #[.val (.int p1), .val (.int p2), .val (.int (0 : Int32)), .val (.int (1 : Int32)), .val (.ref d0), .val (.ref t01), .val (.int (32 : Int32)), .unset]) rfl (XS.iloadN X116.here hx rfl (hb hby at_67) rfl k))) ?_
      show own_FinH p e below s Z consts_1 h0 _ _ _ T116 (mkF m 68 #[.val (.int p1), .val (.int p2), .val (.int (0 : Int32)), .val (.int (1 : Int32)), .val (.ref d0), .val (.ref t01), .val (.int (32 : Int32)), .unset] [(.int (1 : Int32))])
      refine own_byH (fun _ k => XS.ifNo X116.here hx rfl (hb hby at_68) rfl ((if0 _ _).trans (feq (by decide : ¬ ((1 : Int32) = (0 : Int32)))).1) k) ?_
      show own_FinH p e below s Z consts_1 h0 _ _ _ T116 (mkF m 71 #[.val (.int p1), .val (.int p2), .val (.int (0 : Int32)), .val (.int (1 : Int32)), .val (.ref d0), .val (.ref t01), .val (.int (32 : Int32)), .unset] [])
      obtain ⟨b117, T117, h117, k117, v117, kk117, X117, e117, E117, hS117, hkE117, hZ117, hown117, Eb117, Cb117, Vb117, Ab117, -, -, hCr117, -, Sn117, st117⟩ := ldcCH (s := s) (vm0 := s.vm) X116 hx hZ hown (hw _ (List.mem_of_getElem? (i := 16) rfl)) (own_wS hw) eh116 hS0 hk0 (own_EW hw) (by decide) CH0.1 (vs := [(.int (108 : Int32)), (.int (111 : Int32)), (.int (110 : Int32)), (.int (103 : Int32))]) (z := (4 : Int32)) (by decide) (by decide) (by decide) (g := (mkF m 71 #[.val (.int p1), .val (.int p2), .val (.int (0 : Int32)), .val (.int (1 : Int32)), .val (.ref d0), .val (.ref t01), .val (.int (32 : Int32)), .unset] [])) rfl (hb hby at_71) (n := 16) (by decide) (by decide) (by decide) (by decide)
      have CHs118 : CHr Z consts_1 s.vm h0 T117.vm h117 := CH0.trans (hCr117)
      replace hZ := hZ117
      replace hown := hown117
      refine own_byH (fun _ k => st117 _ k) ?_
      have Zs117 : n0 ≤ h117.size := Nat.le_trans Z0 E117.1
      have f119_0 : Old Z n0 h117 := Od.ext E117
      have f119_1 : Exa Z h117 t01 "com/example/lithe_checker/lithechecker/c/CType$IntegerType" := (Y01.2.1.ext Od.2).ext E117
      have f119_2 : Fld Z h117 t01 "com/example/lithe_checker/lithechecker/c/CType$IntegerType" "bits" "I" (.int (32 : Int32)) := (Y01.2.2.1.ext Od.2).ext E117
      have f119_3 : Fld Z h117 t01 "com/example/lithe_checker/lithechecker/c/CType$IntegerType" "signed" "Z" (.int (1 : Int32)) := (Y01.2.2.2.1.ext Od.2).ext E117
      have f119_4 : Fld Z h117 t01 "com/example/lithe_checker/lithechecker/c/CType$IntegerType" "rank" "I" (.int (4 : Int32)) := (Y01.2.2.2.2.1.ext Od.2).ext E117
      have f119_5 : Fld Z h117 t01 "com/example/lithe_checker/lithechecker/c/CType$IntegerType" "name" "Ljava/lang/String;" (.ref s1) := (Y01.2.2.2.2.2.ext Od.2).ext E117
      show own_FinH p e below s Z consts_1 h0 _ _ _ T117 (mkF m 73 #[.val (.int p1), .val (.int p2), .val (.int (0 : Int32)), .val (.int (1 : Int32)), .val (.ref d0), .val (.ref t01), .val (.int (32 : Int32)), .unset] [(.ref b117)])
      refine own_byH (fun _ k => XS.goto X117.here hx rfl (pc0 := 73) (pc' := 78) rfl (hb hby at_73) (by decide) (by decide) (XS.astore X117.here hx rfl (hb hby at_78) rfl rfl (l' := #[.val (.int p1), .val (.int p2), .val (.int (0 : Int32)), .val (.int (1 : Int32)), .val (.ref d0), .val (.ref t01), .val (.int (32 : Int32)), .val (.ref b117)]) rfl (XS.aload X117.here hx rfl (hb hby at_80) rfl rfl k))) ?_
      show own_FinH p e below s Z consts_1 h0 _ _ _ T117 (mkF m 82 #[.val (.int p1), .val (.int p2), .val (.int (0 : Int32)), .val (.int (1 : Int32)), .val (.ref d0), .val (.ref t01), .val (.int (32 : Int32)), .val (.ref b117)] [(.ref t01)])
      obtain ⟨cq120, kq120, q120a, q120b, q120c⟩ := isOf hZ e117 f119_1
      obtain ⟨_, _, ⟨T120, L120, k120, n120⟩, -, X120, ⟨Lc120, hQ120, l120, y120, z120⟩, st120⟩ := X117.virtualBack hx (y := (⟨"com/example/lithe_checker/lithechecker/c/CType$IntegerType", "bits", "()I"⟩ : MethodName)) (z := (⟨"com/example/lithe_checker/lithechecker/c/CType$IntegerType", "bits", "()I"⟩ : MethodName)) hown (mvT hZ (hw _ (List.mem_of_getElem? (i := 24) rfl))) (mvT hZ (hw _ (List.mem_of_getElem? (i := 25) rfl))) (notFace_of_selects (args := #[]) (mvT hZ (hw _ (List.mem_of_getElem? (i := 27) rfl)))) (mvT hZ (hw _ (List.mem_of_getElem? (i := 27) rfl))) (mvT hZ (hw _ (List.mem_of_getElem? (i := 26) rfl))) (by decide) (backOf (W := 0) (rmB l Z a0 hw [] t01 (32 : Int32) h117 n0 Zs117 f119_2) hZ (hw _ (List.mem_of_getElem? (i := 29) rfl)) (hw _ (List.mem_of_getElem? (i := 28) rfl)) (by decide) (by decide)) q120a q120c (g := (mkF m 82 #[.val (.int p1), .val (.int p2), .val (.int (0 : Int32)), .val (.int (1 : Int32)), .val (.ref d0), .val (.ref t01), .val (.int (32 : Int32)), .val (.ref b117)] [(.ref t01)])) rfl (by rw [hml]; rfl) (Steps.refl _) (argsL := []) (rest := []) (lenOf own_pd23 rfl) rfl (by show 2 * 0 + _ ≤ _; exact Nat.le_of_eq rfl) (hb hby at_82) (fun _ _ => ⟨rfl, e117, (by decide : 2 + 0 ≤ _), (by decide : 20 + 0 ≤ _)⟩)
      dsimp only [Pt.U, Pt.locs, Pt.cells, Pt.slots] at X120 l120 y120 z120 st120 hQ120
      subst l120 y120 z120
      obtain ⟨rfl, Nq120, eh120⟩ := hQ120
      have N120 := Fr.app N116 Nq120
      refine own_byH (fun _ k => st120.trans k) ?_
      show own_FinH p e below s Z consts_1 h0 _ _ _ T120 (mkF m 85 #[.val (.int p1), .val (.int p2), .val (.int (0 : Int32)), .val (.int (1 : Int32)), .val (.ref d0), .val (.ref t01), .val (.int (32 : Int32)), .val (.ref b117)] [(.int (32 : Int32))])
      refine own_byH (fun _ k => XS.iload X120.here hx rfl (hb hby at_85) rfl k) ?_
      show own_FinH p e below s Z consts_1 h0 _ _ _ T120 (mkF m 87 #[.val (.int p1), .val (.int p2), .val (.int (0 : Int32)), .val (.int (1 : Int32)), .val (.ref d0), .val (.ref t01), .val (.int (32 : Int32)), .val (.ref b117)] [(.int (32 : Int32)), (.int (32 : Int32))])
      refine own_byH (fun _ k => XS.icmpNo X120.here hx rfl (hb hby at_87) rfl (teq (by decide : (32 : Int32) = (32 : Int32))).2 k) ?_
      show own_FinH p e below s Z consts_1 h0 _ _ _ T120 (mkF m 90 #[.val (.int p1), .val (.int p2), .val (.int (0 : Int32)), .val (.int (1 : Int32)), .val (.ref d0), .val (.ref t01), .val (.int (32 : Int32)), .val (.ref b117)] [])
      refine own_byH (fun _ k => XS.aload X120.here hx rfl (hb hby at_90) rfl rfl k) ?_
      show own_FinH p e below s Z consts_1 h0 _ _ _ T120 (mkF m 92 #[.val (.int p1), .val (.int p2), .val (.int (0 : Int32)), .val (.int (1 : Int32)), .val (.ref d0), .val (.ref t01), .val (.int (32 : Int32)), .val (.ref b117)] [(.ref t01)])
      obtain ⟨cq121, kq121, q121a, q121b, q121c⟩ := isOf hZ eh120 f119_1
      obtain ⟨_, _, ⟨T121, L121, k121, n121⟩, -, X121, ⟨Lc121, hQ121, l121, y121, z121⟩, st121⟩ := X120.virtualBack hx (y := (⟨"com/example/lithe_checker/lithechecker/c/CType$IntegerType", "signed", "()Z"⟩ : MethodName)) (z := (⟨"com/example/lithe_checker/lithechecker/c/CType$IntegerType", "signed", "()Z"⟩ : MethodName)) hown (mvT hZ (hw _ (List.mem_of_getElem? (i := 32) rfl))) (mvT hZ (hw _ (List.mem_of_getElem? (i := 33) rfl))) (notFace_of_selects (args := #[]) (mvT hZ (hw _ (List.mem_of_getElem? (i := 35) rfl)))) (mvT hZ (hw _ (List.mem_of_getElem? (i := 35) rfl))) (mvT hZ (hw _ (List.mem_of_getElem? (i := 34) rfl))) (by decide) (backOf (W := 0) (rmS1 l Z a0 hw [] t01 h117 n0 Zs117 f119_3) hZ (hw _ (List.mem_of_getElem? (i := 36) rfl)) (hw _ (List.mem_of_getElem? (i := 28) rfl)) (by decide) (by decide)) q121a q121c (g := (mkF m 92 #[.val (.int p1), .val (.int p2), .val (.int (0 : Int32)), .val (.int (1 : Int32)), .val (.ref d0), .val (.ref t01), .val (.int (32 : Int32)), .val (.ref b117)] [(.ref t01)])) rfl (by rw [hml]; rfl) (Steps.refl _) (argsL := []) (rest := []) (lenOf own_pd59 rfl) rfl (by show 2 * 0 + _ ≤ _; exact Nat.le_of_eq rfl) (hb hby at_92) (fun _ _ => ⟨rfl, eh120, (by decide : 2 + 0 ≤ _), (by decide : 20 + 0 ≤ _)⟩)
      dsimp only [Pt.U, Pt.locs, Pt.cells, Pt.slots] at X121 l121 y121 z121 st121 hQ121
      subst l121 y121 z121
      obtain ⟨rfl, Nq121, eh121⟩ := hQ121
      have N121 := Fr.app N120 Nq121
      refine own_byH (fun _ k => st121.trans k) ?_
      show own_FinH p e below s Z consts_1 h0 _ _ _ T121 (mkF m 95 #[.val (.int p1), .val (.int p2), .val (.int (0 : Int32)), .val (.int (1 : Int32)), .val (.ref d0), .val (.ref t01), .val (.int (32 : Int32)), .val (.ref b117)] [(.int (1 : Int32))])
      refine own_byH (fun _ k => XS.iloadN X121.here hx rfl (hb hby at_95) rfl k) ?_
      show own_FinH p e below s Z consts_1 h0 _ _ _ T121 (mkF m 96 #[.val (.int p1), .val (.int p2), .val (.int (0 : Int32)), .val (.int (1 : Int32)), .val (.ref d0), .val (.ref t01), .val (.int (32 : Int32)), .val (.ref b117)] [(.int (1 : Int32)), (.int (1 : Int32))])
      refine own_byH (fun _ k => XS.icmpNo X121.here hx rfl (hb hby at_96) rfl (teq (by decide : (1 : Int32) = (1 : Int32))).2 k) ?_
      show own_FinH p e below s Z consts_1 h0 _ _ _ T121 (mkF m 99 #[.val (.int p1), .val (.int p2), .val (.int (0 : Int32)), .val (.int (1 : Int32)), .val (.ref d0), .val (.ref t01), .val (.int (32 : Int32)), .val (.ref b117)] [])
      refine own_byH (fun _ k => XS.aload X121.here hx rfl (hb hby at_99) rfl rfl k) ?_
      show own_FinH p e below s Z consts_1 h0 _ _ _ T121 (mkF m 101 #[.val (.int p1), .val (.int p2), .val (.int (0 : Int32)), .val (.int (1 : Int32)), .val (.ref d0), .val (.ref t01), .val (.int (32 : Int32)), .val (.ref b117)] [(.ref t01)])
      obtain ⟨cq122, kq122, q122a, q122b, q122c⟩ := isOf hZ eh121 f119_1
      obtain ⟨_, _, ⟨T122, L122, k122, n122⟩, -, X122, ⟨Lc122, hQ122, l122, y122, z122⟩, st122⟩ := X121.virtualBack hx (y := (⟨"com/example/lithe_checker/lithechecker/c/CType$IntegerType", "rank", "()I"⟩ : MethodName)) (z := (⟨"com/example/lithe_checker/lithechecker/c/CType$IntegerType", "rank", "()I"⟩ : MethodName)) hown (mvT hZ (hw _ (List.mem_of_getElem? (i := 39) rfl))) (mvT hZ (hw _ (List.mem_of_getElem? (i := 40) rfl))) (notFace_of_selects (args := #[]) (mvT hZ (hw _ (List.mem_of_getElem? (i := 42) rfl)))) (mvT hZ (hw _ (List.mem_of_getElem? (i := 42) rfl))) (mvT hZ (hw _ (List.mem_of_getElem? (i := 41) rfl))) (by decide) (backOf (W := 0) (rmR l Z a0 hw [] t01 (4 : Int32) h117 n0 Zs117 f119_4) hZ (hw _ (List.mem_of_getElem? (i := 43) rfl)) (hw _ (List.mem_of_getElem? (i := 28) rfl)) (by decide) (by decide)) q122a q122c (g := (mkF m 101 #[.val (.int p1), .val (.int p2), .val (.int (0 : Int32)), .val (.int (1 : Int32)), .val (.ref d0), .val (.ref t01), .val (.int (32 : Int32)), .val (.ref b117)] [(.ref t01)])) rfl (by rw [hml]; rfl) (Steps.refl _) (argsL := []) (rest := []) (lenOf own_pd23 rfl) rfl (by show 2 * 0 + _ ≤ _; exact Nat.le_of_eq rfl) (hb hby at_101) (fun _ _ => ⟨rfl, eh121, (by decide : 2 + 0 ≤ _), (by decide : 20 + 0 ≤ _)⟩)
      dsimp only [Pt.U, Pt.locs, Pt.cells, Pt.slots] at X122 l122 y122 z122 st122 hQ122
      subst l122 y122 z122
      obtain ⟨rfl, Nq122, eh122⟩ := hQ122
      have N122 := Fr.app N121 Nq122
      refine own_byH (fun _ k => st122.trans k) ?_
      show own_FinH p e below s Z consts_1 h0 _ _ _ T122 (mkF m 104 #[.val (.int p1), .val (.int p2), .val (.int (0 : Int32)), .val (.int (1 : Int32)), .val (.ref d0), .val (.ref t01), .val (.int (32 : Int32)), .val (.ref b117)] [(.int (4 : Int32))])
      refine own_byH (fun _ k => XS.iconst X122.here hx rfl (hb hby at_104) k) ?_
      show own_FinH p e below s Z consts_1 h0 _ _ _ T122 (mkF m 105 #[.val (.int p1), .val (.int p2), .val (.int (0 : Int32)), .val (.int (1 : Int32)), .val (.ref d0), .val (.ref t01), .val (.int (32 : Int32)), .val (.ref b117)] [(.int (4 : Int32)), (.int (4 : Int32))])
      refine own_byH (fun _ k => XS.icmpNo X122.here hx rfl (hb hby at_105) rfl (teq (by decide : (4 : Int32) = (4 : Int32))).2 k) ?_
      show own_FinH p e below s Z consts_1 h0 _ _ _ T122 (mkF m 108 #[.val (.int p1), .val (.int p2), .val (.int (0 : Int32)), .val (.int (1 : Int32)), .val (.ref d0), .val (.ref t01), .val (.int (32 : Int32)), .val (.ref b117)] [])
      refine own_byH (fun _ k => XS.aload X122.here hx rfl (hb hby at_108) rfl rfl (XS.aload X122.here hx rfl (hb hby at_110) rfl rfl k)) ?_
      show own_FinH p e below s Z consts_1 h0 _ _ _ T122 (mkF m 112 #[.val (.int p1), .val (.int p2), .val (.int (0 : Int32)), .val (.int (1 : Int32)), .val (.ref d0), .val (.ref t01), .val (.int (32 : Int32)), .val (.ref b117)] [(.ref t01), (.ref b117)])
      obtain ⟨cq123, kq123, q123a, q123b, q123c⟩ := isOf hZ eh122 f119_1
      obtain ⟨_, _, ⟨T123, L123, k123, n123⟩, -, X123, hSn123, hgr123, ⟨Lc123, hQ123, l123, y123, z123, hCr123⟩, st123⟩ := X122.virtualBackUpS hx (owner := "com/example/lithe_checker/lithechecker/c/CType") (x := (⟨"com/example/lithe_checker/lithechecker/c/CType$IntegerType", "toString", "()Ljava/lang/String;"⟩ : MethodName)) (y := (⟨"com/example/lithe_checker/lithechecker/c/CType", "toString", "()Ljava/lang/String;"⟩ : MethodName)) hown (mvT hZ (hw _ (List.mem_of_getElem? (i := 46) rfl))) (mvT hZ (hw _ (List.mem_of_getElem? (i := 47) rfl))) (mvT hZ (hw _ (List.mem_of_getElem? (i := 48) rfl))) (by decide) (mvT hZ (hw _ (List.mem_of_getElem? (i := 50) rfl))) (mvT hZ (hw _ (List.mem_of_getElem? (i := 49) rfl))) (backOfSH (W := 1) (s := s) (vm0 := T117.vm) (rmT l Z a0 hw [] t01 s1 h117 n0 Zs117 f119_1 f119_5) hZ (hw _ (List.mem_of_getElem? (i := 51) rfl)) (hw _ (List.mem_of_getElem? (i := 5) rfl)) (by decide) (by decide) (own_EW hw) CHs118.1) q123a q123c (g := (mkF m 112 #[.val (.int p1), .val (.int p2), .val (.int (0 : Int32)), .val (.int (1 : Int32)), .val (.ref d0), .val (.ref t01), .val (.int (32 : Int32)), .val (.ref b117)] [(.ref t01), (.ref b117)])) rfl (by rw [hml]; rfl) (Steps.refl _) (argsL := []) (rest := [(.ref b117)]) (lenOf own_pd135 rfl) rfl (by show 2 * 0 + _ ≤ _; exact Nat.le_of_eq rfl) (hb hby at_112) (fun _ _ => ⟨rfl, eh122, (by decide : 2 + 2 ≤ _), (by decide : 20 + 4 ≤ _)⟩)
      dsimp only [Pt.U, Pt.locs, Pt.cells, Pt.slots] at X123 l123 y123 z123 st123 hQ123 hSn123 hgr123
      subst l123 y123 z123
      obtain ⟨rfl, Nq123, K123⟩ := hQ123
      have N123 := Fr.app N122 Nq123
      have hS123 : s.Since T123.vm T123.heap.size := foldS (s := s) hS117 (by rw [eh122]; exact hkE117) hSn123 hgr123
      have hZ123 : Z.Warmed39 (s.setVm T123.vm).vm := State.Warmed39.trans (t := s.setVm T117.vm) hZ hSn123.1
      have hown123 : (s.setVm T123.vm).vm.findClass "com/example/lithe_checker/lithechecker/c/CTypeLongTypePinLaw" = some m.cls := by rw [show (s.setVm T123.vm).vm = T123.vm from rfl, hSn123.1.alike.findClass]; exact hown
      replace hCr123 : CHr Z consts_1 T117.vm h117 T123.vm T123.heap := hCr123
      have CHs124 : CHr Z consts_1 s.vm h0 T123.vm T123.heap := CHs118.trans (hCr123)
      replace hZ := hZ123
      replace hown := hown123
      replace X123 : Stand p l e room_1 (s.setVm T123.vm) m #[(.int p1), (.int p2)] below meth c T123 _ _ _ := X123
      have hkE123 : T123.heap.size ≤ T123.heap.size := Nat.le_refl _
      refine own_byH (fun _ k => st123.trans k) ?_
      have Zs123 : n0 ≤ T123.heap.size := Nat.le_trans Zs117 K123.1
      have f125_0 : Old Z n0 T123.heap := f119_0.keep K123 all0
      have f125_1 : Exa Z T123.heap t01 "com/example/lithe_checker/lithechecker/c/CType$IntegerType" := f119_1.keep K123
      have f125_2 : Fld Z T123.heap t01 "com/example/lithe_checker/lithechecker/c/CType$IntegerType" "bits" "I" (.int (32 : Int32)) := f119_2.keep K123 nin0
      have f125_3 : Fld Z T123.heap t01 "com/example/lithe_checker/lithechecker/c/CType$IntegerType" "signed" "Z" (.int (1 : Int32)) := f119_3.keep K123 nin0
      have f125_4 : Fld Z T123.heap t01 "com/example/lithe_checker/lithechecker/c/CType$IntegerType" "rank" "I" (.int (4 : Int32)) := f119_4.keep K123 nin0
      have f125_5 : Fld Z T123.heap t01 "com/example/lithe_checker/lithechecker/c/CType$IntegerType" "name" "Ljava/lang/String;" (.ref s1) := f119_5.keep K123 nin0
      have f125_6 : Exa Z T123.heap b117 "java/lang/String" := Eb117.keep K123
      have f125_7 : Fld Z T123.heap b117 "java/lang/String" "coder" "B" (.int (0 : Int32)) := Cb117.keep K123 nin0
      have f125_8 : Fld Z T123.heap b117 "java/lang/String" "value" "[B" (.ref v117) := Vb117.keep K123 nin0
      have f125_9 : Arv Z T123.heap v117 kk117 .byte (4 : Int32) [(.int (108 : Int32)), (.int (111 : Int32)), (.int (110 : Int32)), (.int (103 : Int32))] (.int (0 : Int32)) := Ab117.keep K123 nin0
      show own_FinH p e below s Z consts_1 h0 _ _ _ T123 (mkF m 115 #[.val (.int p1), .val (.int p2), .val (.int (0 : Int32)), .val (.int (1 : Int32)), .val (.ref d0), .val (.ref t01), .val (.int (32 : Int32)), .val (.ref b117)] [(.ref s1), (.ref b117)])
      obtain ⟨cq126, kq126, q126a, q126b, q126c⟩ := isOf hZ rfl f125_6
      obtain ⟨_, _, ⟨T126, L126, k126, n126⟩, -, X126, ⟨Lc126, hQ126, l126, y126, z126⟩, st126⟩ := X123.virtualBack hx (y := (⟨"java/lang/String", "equals", "(Ljava/lang/Object;)Z"⟩ : MethodName)) (z := (⟨"java/lang/String", "equals", "(Ljava/lang/Object;)Z"⟩ : MethodName)) hown (mvT hZ (hw _ (List.mem_of_getElem? (i := 69) rfl))) (mvT hZ (hw _ (List.mem_of_getElem? (i := 70) rfl))) (notFace_of_selects (args := #[]) (mvT hZ (hw _ (List.mem_of_getElem? (i := 72) rfl)))) (mvT hZ (hw _ (List.mem_of_getElem? (i := 72) rfl))) (mvT hZ (hw _ (List.mem_of_getElem? (i := 71) rfl))) (by decide) (backOf (W := 0) (rmQ1 l Z a0 hw [] b117 s1 v117 u1 kk117 j1 cs T123.heap n0 Zs123 (ZS1.1.ext f125_0.2) f125_7 f125_8 (ZS1.2.1.ext f125_0.2) (ZS1.2.2.1.ext f125_0.2) f125_9 (ZS1.2.2.2.ext f125_0.2) (S_cs.ext f125_0.2) hcs) hZ (hw _ (List.mem_of_getElem? (i := 73) rfl)) (hw _ (List.mem_of_getElem? (i := 17) rfl)) (by decide) (by decide)) q126a q126c (g := (mkF m 115 #[.val (.int p1), .val (.int p2), .val (.int (0 : Int32)), .val (.int (1 : Int32)), .val (.ref d0), .val (.ref t01), .val (.int (32 : Int32)), .val (.ref b117)] [(.ref s1), (.ref b117)])) rfl (by rw [hml]; rfl) (Steps.refl _) (argsL := [(.ref s1)]) (rest := []) (lenOf own_pd136 rfl) rfl (by show 2 * 0 + _ ≤ _; exact Nat.le_of_eq rfl) (hb hby at_115) (fun _ _ => ⟨rfl, rfl, (by decide : 4 + 0 ≤ _), (by decide : 24 + 0 ≤ _)⟩)
      dsimp only [Pt.U, Pt.locs, Pt.cells, Pt.slots] at X126 l126 y126 z126 st126 hQ126
      subst l126 y126 z126
      obtain ⟨rfl, Nq126, eh126⟩ := hQ126
      have N126 := Fr.app N123 Nq126
      refine own_byH (fun _ k => st126.trans k) ?_
      show own_FinH p e below s Z consts_1 h0 _ _ _ T126 (mkF m 118 #[.val (.int p1), .val (.int p2), .val (.int (0 : Int32)), .val (.int (1 : Int32)), .val (.ref d0), .val (.ref t01), .val (.int (32 : Int32)), .val (.ref b117)] [(.int (1 : Int32))])
      refine own_byH (fun _ k => XS.ifNo X126.here hx rfl (hb hby at_118) rfl ((if0 _ _).trans (feq (by decide : ¬ ((1 : Int32) = (0 : Int32)))).1) k) ?_
      show own_FinH p e below s Z consts_1 h0 _ _ _ T126 (mkF m 121 #[.val (.int p1), .val (.int p2), .val (.int (0 : Int32)), .val (.int (1 : Int32)), .val (.ref d0), .val (.ref t01), .val (.int (32 : Int32)), .val (.ref b117)] [])
      refine own_byH (fun _ k => XS.iconst X126.here hx rfl (hb hby at_121) (XS.goto X126.here hx rfl (pc0 := 122) (pc' := 126) rfl (hb hby at_122) (by decide) (by decide) k)) ?_
      show own_FinH p e below s Z consts_1 h0 _ _ _ T126 (mkF m 126 #[.val (.int p1), .val (.int p2), .val (.int (0 : Int32)), .val (.int (1 : Int32)), .val (.ref d0), .val (.ref t01), .val (.int (32 : Int32)), .val (.ref b117)] [(.int (1 : Int32))])
      have CHe127 : CHr Z consts_1 s.vm h0 T126.vm T123.heap := CHs124.trans (CHv.at X126 hZ (own_EW hw) CHs124.1)
      exact own_retZH X126 hS123 (by rw [eh126]; exact hkE123) (by rw [eh126]; exact CHe127) hx hlk (t := .boolean) Bd.returns (by simp) (hb hby at_126) ⟨rfl, N126⟩ (by decide) (by decide)
  · show own_FinH p e below s Z consts_1 h0 _ _ _ s₁ (mkF m 3 #[.val (.int p1), .val (.int p2), .unset, .unset, .unset, .unset, .unset, .unset] [(.int (p1 &&& (1 : Int32)))])
    refine own_byH (fun _ k => XS.ifNo X0.here hx rfl (hb hby at_3) rfl ((if0 _ _).trans (feq hc3_100).1) k) ?_
    show own_FinH p e below s Z consts_1 h0 _ _ _ s₁ (mkF m 6 #[.val (.int p1), .val (.int p2), .unset, .unset, .unset, .unset, .unset, .unset] [])
    refine own_byH (fun _ k => XS.iconst X0.here hx rfl (hb hby at_6) (XS.goto X0.here hx rfl (pc0 := 7) (pc' := 11) rfl (hb hby at_7) (by decide) (by decide) (XS.istoreN X0.here hx rfl (hb hby at_11) rfl (l' := #[.val (.int p1), .val (.int p2), .val (.int (1 : Int32)), .unset, .unset, .unset, .unset, .unset]) rfl (XS.iloadN X0.here hx rfl (hb hby at_12) rfl (XS.iconst X0.here hx rfl (hb hby at_13) (XS.iand X0.here hx rfl (hb hby at_14) rfl k)))))) ?_
    show own_FinH p e below s Z consts_1 h0 _ _ _ s₁ (mkF m 15 #[.val (.int p1), .val (.int p2), .val (.int (1 : Int32)), .unset, .unset, .unset, .unset, .unset] [(.int (p2 &&& (1 : Int32)))])
    by_cases hc15_128 : (p2 &&& (1 : Int32)) = (0 : Int32)
    · show own_FinH p e below s Z consts_1 h0 _ _ _ s₁ (mkF m 15 #[.val (.int p1), .val (.int p2), .val (.int (1 : Int32)), .unset, .unset, .unset, .unset, .unset] [(.int (p2 &&& (1 : Int32)))])
      refine own_byH (fun _ k => XS.ifYes X0.here hx rfl (pc0 := 15) (pc' := 22) rfl (hb hby at_15) rfl ((if0 _ _).trans (teq hc15_128).1) (by decide) (by decide) k) ?_
      show own_FinH p e below s Z consts_1 h0 _ _ _ s₁ (mkF m 22 #[.val (.int p1), .val (.int p2), .val (.int (1 : Int32)), .unset, .unset, .unset, .unset, .unset] [])
      refine own_byH (fun _ k => XS.iconst X0.here hx rfl (hb hby at_22) (XS.istoreN X0.here hx rfl (hb hby at_23) rfl (l' := #[.val (.int p1), .val (.int p2), .val (.int (1 : Int32)), .val (.int (0 : Int32)), .unset, .unset, .unset, .unset]) rfl (XS.iloadN X0.here hx rfl (hb hby at_24) rfl k))) ?_
      show own_FinH p e below s Z consts_1 h0 _ _ _ s₁ (mkF m 25 #[.val (.int p1), .val (.int p2), .val (.int (1 : Int32)), .val (.int (0 : Int32)), .unset, .unset, .unset, .unset] [(.int (1 : Int32))])
      refine own_byH (fun _ k => XS.ifNo X0.here hx rfl (hb hby at_25) rfl ((if0 _ _).trans (feq (by decide : ¬ ((1 : Int32) = (0 : Int32)))).1) k) ?_
      show own_FinH p e below s Z consts_1 h0 _ _ _ s₁ (mkF m 28 #[.val (.int p1), .val (.int p2), .val (.int (1 : Int32)), .val (.int (0 : Int32)), .unset, .unset, .unset, .unset] [])
      obtain ⟨T129, X129, e129, st129⟩ := getS2 X0 hx hZ hown (host := "") (Or.inl (hw _ (List.mem_of_getElem? (i := 85) rfl))) Via.refl e0 (M1.1.ext Od.2) (g := (mkF m 28 #[.val (.int p1), .val (.int p2), .val (.int (1 : Int32)), .val (.int (0 : Int32)), .unset, .unset, .unset, .unset] [])) rfl (hb hby at_28)
      refine own_byH (fun _ k => st129 _ k) ?_
      show own_FinH p e below s Z consts_1 h0 _ _ _ T129 (mkF m 31 #[.val (.int p1), .val (.int p2), .val (.int (1 : Int32)), .val (.int (0 : Int32)), .unset, .unset, .unset, .unset] [(.ref d1)])
      refine own_byH (fun _ k => XS.goto X129.here hx rfl (pc0 := 31) (pc' := 37) rfl (hb hby at_31) (by decide) (by decide) (XS.astore X129.here hx rfl (hb hby at_37) rfl rfl (l' := #[.val (.int p1), .val (.int p2), .val (.int (1 : Int32)), .val (.int (0 : Int32)), .val (.ref d1), .unset, .unset, .unset]) rfl (XS.aload X129.here hx rfl (hb hby at_39) rfl rfl (XS.iloadN X129.here hx rfl (hb hby at_41) rfl k)))) ?_
      show own_FinH p e below s Z consts_1 h0 _ _ _ T129 (mkF m 42 #[.val (.int p1), .val (.int p2), .val (.int (1 : Int32)), .val (.int (0 : Int32)), .val (.ref d1), .unset, .unset, .unset] [(.int (0 : Int32)), (.ref d1)])
      obtain ⟨_, _, ⟨T130, L130, k130, n130⟩, -, X130, ⟨Lc130, hQ130, l130, y130, z130⟩, st130⟩ := Jvm.LawKit.callS X129 hx (y := (⟨"com/example/lithe_checker/lithechecker/c/CType", "longType", "(Lcom/example/lithe_checker/lithechecker/task/DataModel;Z)Lcom/example/lithe_checker/lithechecker/c/CType$IntegerType;"⟩ : MethodName)) hown (mvT hZ (hw _ (List.mem_of_getElem? (i := 3) rfl))) (mvT hZ (hw _ (List.mem_of_getElem? (i := 4) rfl))) (mvT hZ (hw _ (List.mem_of_getElem? (i := 5) rfl))) (mvT hZ (hw _ (List.mem_of_getElem? (i := 6) rfl))) (by decide) (backOf (W := 0) (rmL10 l Z a0 hw [] d1 t10 h0 n0 Z0 (M1.2.1.ext Od.2) (M1.2.2.ext Od.2) (Y10.1.ext Od.2)) hZ (hw _ (List.mem_of_getElem? (i := 6) rfl)) (hw _ (List.mem_of_getElem? (i := 5) rfl)) (by decide) (by decide)) (g := (mkF m 42 #[.val (.int p1), .val (.int p2), .val (.int (1 : Int32)), .val (.int (0 : Int32)), .val (.ref d1), .unset, .unset, .unset] [(.int (0 : Int32)), (.ref d1)])) rfl (by rw [hml]; rfl) (argsL := [(.ref d1), (.int (0 : Int32))]) (rest := []) (lenOf own_pd134 rfl) rfl (by show 2 * 0 + _ ≤ _; exact Nat.le_of_eq rfl) (hb hby at_42) (fun _ _ => ⟨rfl, e129, (by decide : 0 + 0 ≤ _), (by decide : 0 + 0 ≤ _)⟩)
      dsimp only [Pt.U, Pt.locs, Pt.cells, Pt.slots] at X130 l130 y130 z130 st130 hQ130
      subst l130 y130 z130
      obtain ⟨rfl, Nq130, eh130⟩ := hQ130
      have N130 := Fr.app N0 Nq130
      refine own_byH (fun _ k => st130 _ k) ?_
      show own_FinH p e below s Z consts_1 h0 _ _ _ T130 (mkF m 45 #[.val (.int p1), .val (.int p2), .val (.int (1 : Int32)), .val (.int (0 : Int32)), .val (.ref d1), .unset, .unset, .unset] [(.ref t10)])
      refine own_byH (fun _ k => XS.astore X130.here hx rfl (hb hby at_45) rfl rfl (l' := #[.val (.int p1), .val (.int p2), .val (.int (1 : Int32)), .val (.int (0 : Int32)), .val (.ref d1), .val (.ref t10), .unset, .unset]) rfl (XS.aload X130.here hx rfl (hb hby at_47) rfl rfl k)) ?_
      show own_FinH p e below s Z consts_1 h0 _ _ _ T130 (mkF m 49 #[.val (.int p1), .val (.int p2), .val (.int (1 : Int32)), .val (.int (0 : Int32)), .val (.ref d1), .val (.ref t10), .unset, .unset] [(.ref t10)])
      refine own_byH (fun _ k => XS.ifnonnullYes X130.here hx rfl (pc0 := 49) (pc' := 54) rfl (hb hby at_49) rfl (by decide) (by decide) k) ?_
      show own_FinH p e below s Z consts_1 h0 _ _ _ T130 (mkF m 54 #[.val (.int p1), .val (.int p2), .val (.int (1 : Int32)), .val (.int (0 : Int32)), .val (.ref d1), .val (.ref t10), .unset, .unset] [])
      refine own_byH (fun _ k => XS.iloadN X130.here hx rfl (hb hby at_54) rfl k) ?_
      show own_FinH p e below s Z consts_1 h0 _ _ _ T130 (mkF m 55 #[.val (.int p1), .val (.int p2), .val (.int (1 : Int32)), .val (.int (0 : Int32)), .val (.ref d1), .val (.ref t10), .unset, .unset] [(.int (1 : Int32))])
      refine own_byH (fun _ k => XS.ifNo X130.here hx rfl (hb hby at_55) rfl ((if0 _ _).trans (feq (by decide : ¬ ((1 : Int32) = (0 : Int32)))).1) k) ?_
      show own_FinH p e below s Z consts_1 h0 _ _ _ T130 (mkF m 58 #[.val (.int p1), .val (.int p2), .val (.int (1 : Int32)), .val (.int (0 : Int32)), .val (.ref d1), .val (.ref t10), .unset, .unset] [])
      refine own_byH (fun _ k => XS.bipush X130.here hx rfl (hb hby at_58) (XS.goto X130.here hx rfl (pc0 := 60) (pc' := 65) rfl (hb hby at_60) (by decide) (by decide) (XS.istore X130.here hx rfl (hb hby at_65) rfl (l' := #[.val (.int p1), .val (.int p2), .val (.int (1 : Int32)), .val (.int (0 : Int32)), .val (.ref d1), .val (.ref t10), .val (.int (64 : Int32)), .unset]) rfl (XS.iloadN X130.here hx rfl (hb hby at_67) rfl k)))) ?_
      show own_FinH p e below s Z consts_1 h0 _ _ _ T130 (mkF m 68 #[.val (.int p1), .val (.int p2), .val (.int (1 : Int32)), .val (.int (0 : Int32)), .val (.ref d1), .val (.ref t10), .val (.int (64 : Int32)), .unset] [(.int (0 : Int32))])
      refine own_byH (fun _ k => XS.ifYes X130.here hx rfl (pc0 := 68) (pc' := 76) rfl (hb hby at_68) rfl ((if0 _ _).trans (teq (by decide : (0 : Int32) = (0 : Int32))).1) (by decide) (by decide) k) ?_
      show own_FinH p e below s Z consts_1 h0 _ _ _ T130 (mkF m 76 #[.val (.int p1), .val (.int p2), .val (.int (1 : Int32)), .val (.int (0 : Int32)), .val (.ref d1), .val (.ref t10), .val (.int (64 : Int32)), .unset] [])
      obtain ⟨b131, T131, h131, k131, v131, kk131, X131, e131, E131, hS131, hkE131, hZ131, hown131, Eb131, Cb131, Vb131, Ab131, -, -, hCr131, -, Sn131, st131⟩ := ldcCH (s := s) (vm0 := s.vm) X130 hx hZ hown (hw _ (List.mem_of_getElem? (i := 84) rfl)) (own_wS hw) eh130 hS0 hk0 (own_EW hw) (by decide) CH0.1 (vs := [(.int (117 : Int32)), (.int (110 : Int32)), (.int (115 : Int32)), (.int (105 : Int32)), (.int (103 : Int32)), (.int (110 : Int32)), (.int (101 : Int32)), (.int (100 : Int32)), (.int (32 : Int32)), (.int (108 : Int32)), (.int (111 : Int32)), (.int (110 : Int32)), (.int (103 : Int32))]) (z := (13 : Int32)) (by decide) (by decide) (by decide) (g := (mkF m 76 #[.val (.int p1), .val (.int p2), .val (.int (1 : Int32)), .val (.int (0 : Int32)), .val (.ref d1), .val (.ref t10), .val (.int (64 : Int32)), .unset] [])) rfl (hb hby at_76) (n := 52) (by decide) (by decide) (by decide) (by decide)
      have CHs132 : CHr Z consts_1 s.vm h0 T131.vm h131 := CH0.trans (hCr131)
      replace hZ := hZ131
      replace hown := hown131
      refine own_byH (fun _ k => st131 _ k) ?_
      have Zs131 : n0 ≤ h131.size := Nat.le_trans Z0 E131.1
      have f133_0 : Old Z n0 h131 := Od.ext E131
      have f133_1 : Exa Z h131 t10 "com/example/lithe_checker/lithechecker/c/CType$IntegerType" := (Y10.2.1.ext Od.2).ext E131
      have f133_2 : Fld Z h131 t10 "com/example/lithe_checker/lithechecker/c/CType$IntegerType" "bits" "I" (.int (64 : Int32)) := (Y10.2.2.1.ext Od.2).ext E131
      have f133_3 : Fld Z h131 t10 "com/example/lithe_checker/lithechecker/c/CType$IntegerType" "signed" "Z" (.int (0 : Int32)) := (Y10.2.2.2.1.ext Od.2).ext E131
      have f133_4 : Fld Z h131 t10 "com/example/lithe_checker/lithechecker/c/CType$IntegerType" "rank" "I" (.int (4 : Int32)) := (Y10.2.2.2.2.1.ext Od.2).ext E131
      have f133_5 : Fld Z h131 t10 "com/example/lithe_checker/lithechecker/c/CType$IntegerType" "name" "Ljava/lang/String;" (.ref s0) := (Y10.2.2.2.2.2.ext Od.2).ext E131
      show own_FinH p e below s Z consts_1 h0 _ _ _ T131 (mkF m 78 #[.val (.int p1), .val (.int p2), .val (.int (1 : Int32)), .val (.int (0 : Int32)), .val (.ref d1), .val (.ref t10), .val (.int (64 : Int32)), .unset] [(.ref b131)])
      refine own_byH (fun _ k => XS.astore X131.here hx rfl (hb hby at_78) rfl rfl (l' := #[.val (.int p1), .val (.int p2), .val (.int (1 : Int32)), .val (.int (0 : Int32)), .val (.ref d1), .val (.ref t10), .val (.int (64 : Int32)), .val (.ref b131)]) rfl (XS.aload X131.here hx rfl (hb hby at_80) rfl rfl k)) ?_
      show own_FinH p e below s Z consts_1 h0 _ _ _ T131 (mkF m 82 #[.val (.int p1), .val (.int p2), .val (.int (1 : Int32)), .val (.int (0 : Int32)), .val (.ref d1), .val (.ref t10), .val (.int (64 : Int32)), .val (.ref b131)] [(.ref t10)])
      obtain ⟨cq134, kq134, q134a, q134b, q134c⟩ := isOf hZ e131 f133_1
      obtain ⟨_, _, ⟨T134, L134, k134, n134⟩, -, X134, ⟨Lc134, hQ134, l134, y134, z134⟩, st134⟩ := X131.virtualBack hx (y := (⟨"com/example/lithe_checker/lithechecker/c/CType$IntegerType", "bits", "()I"⟩ : MethodName)) (z := (⟨"com/example/lithe_checker/lithechecker/c/CType$IntegerType", "bits", "()I"⟩ : MethodName)) hown (mvT hZ (hw _ (List.mem_of_getElem? (i := 24) rfl))) (mvT hZ (hw _ (List.mem_of_getElem? (i := 25) rfl))) (notFace_of_selects (args := #[]) (mvT hZ (hw _ (List.mem_of_getElem? (i := 27) rfl)))) (mvT hZ (hw _ (List.mem_of_getElem? (i := 27) rfl))) (mvT hZ (hw _ (List.mem_of_getElem? (i := 26) rfl))) (by decide) (backOf (W := 0) (rmB l Z a0 hw [] t10 (64 : Int32) h131 n0 Zs131 f133_2) hZ (hw _ (List.mem_of_getElem? (i := 29) rfl)) (hw _ (List.mem_of_getElem? (i := 28) rfl)) (by decide) (by decide)) q134a q134c (g := (mkF m 82 #[.val (.int p1), .val (.int p2), .val (.int (1 : Int32)), .val (.int (0 : Int32)), .val (.ref d1), .val (.ref t10), .val (.int (64 : Int32)), .val (.ref b131)] [(.ref t10)])) rfl (by rw [hml]; rfl) (Steps.refl _) (argsL := []) (rest := []) (lenOf own_pd23 rfl) rfl (by show 2 * 0 + _ ≤ _; exact Nat.le_of_eq rfl) (hb hby at_82) (fun _ _ => ⟨rfl, e131, (by decide : 2 + 0 ≤ _), (by decide : 56 + 0 ≤ _)⟩)
      dsimp only [Pt.U, Pt.locs, Pt.cells, Pt.slots] at X134 l134 y134 z134 st134 hQ134
      subst l134 y134 z134
      obtain ⟨rfl, Nq134, eh134⟩ := hQ134
      have N134 := Fr.app N130 Nq134
      refine own_byH (fun _ k => st134.trans k) ?_
      show own_FinH p e below s Z consts_1 h0 _ _ _ T134 (mkF m 85 #[.val (.int p1), .val (.int p2), .val (.int (1 : Int32)), .val (.int (0 : Int32)), .val (.ref d1), .val (.ref t10), .val (.int (64 : Int32)), .val (.ref b131)] [(.int (64 : Int32))])
      refine own_byH (fun _ k => XS.iload X134.here hx rfl (hb hby at_85) rfl k) ?_
      show own_FinH p e below s Z consts_1 h0 _ _ _ T134 (mkF m 87 #[.val (.int p1), .val (.int p2), .val (.int (1 : Int32)), .val (.int (0 : Int32)), .val (.ref d1), .val (.ref t10), .val (.int (64 : Int32)), .val (.ref b131)] [(.int (64 : Int32)), (.int (64 : Int32))])
      refine own_byH (fun _ k => XS.icmpNo X134.here hx rfl (hb hby at_87) rfl (teq (by decide : (64 : Int32) = (64 : Int32))).2 k) ?_
      show own_FinH p e below s Z consts_1 h0 _ _ _ T134 (mkF m 90 #[.val (.int p1), .val (.int p2), .val (.int (1 : Int32)), .val (.int (0 : Int32)), .val (.ref d1), .val (.ref t10), .val (.int (64 : Int32)), .val (.ref b131)] [])
      refine own_byH (fun _ k => XS.aload X134.here hx rfl (hb hby at_90) rfl rfl k) ?_
      show own_FinH p e below s Z consts_1 h0 _ _ _ T134 (mkF m 92 #[.val (.int p1), .val (.int p2), .val (.int (1 : Int32)), .val (.int (0 : Int32)), .val (.ref d1), .val (.ref t10), .val (.int (64 : Int32)), .val (.ref b131)] [(.ref t10)])
      obtain ⟨cq135, kq135, q135a, q135b, q135c⟩ := isOf hZ eh134 f133_1
      obtain ⟨_, _, ⟨T135, L135, k135, n135⟩, -, X135, ⟨Lc135, hQ135, l135, y135, z135⟩, st135⟩ := X134.virtualBack hx (y := (⟨"com/example/lithe_checker/lithechecker/c/CType$IntegerType", "signed", "()Z"⟩ : MethodName)) (z := (⟨"com/example/lithe_checker/lithechecker/c/CType$IntegerType", "signed", "()Z"⟩ : MethodName)) hown (mvT hZ (hw _ (List.mem_of_getElem? (i := 32) rfl))) (mvT hZ (hw _ (List.mem_of_getElem? (i := 33) rfl))) (notFace_of_selects (args := #[]) (mvT hZ (hw _ (List.mem_of_getElem? (i := 35) rfl)))) (mvT hZ (hw _ (List.mem_of_getElem? (i := 35) rfl))) (mvT hZ (hw _ (List.mem_of_getElem? (i := 34) rfl))) (by decide) (backOf (W := 0) (rmS0 l Z a0 hw [] t10 h131 n0 Zs131 f133_3) hZ (hw _ (List.mem_of_getElem? (i := 36) rfl)) (hw _ (List.mem_of_getElem? (i := 28) rfl)) (by decide) (by decide)) q135a q135c (g := (mkF m 92 #[.val (.int p1), .val (.int p2), .val (.int (1 : Int32)), .val (.int (0 : Int32)), .val (.ref d1), .val (.ref t10), .val (.int (64 : Int32)), .val (.ref b131)] [(.ref t10)])) rfl (by rw [hml]; rfl) (Steps.refl _) (argsL := []) (rest := []) (lenOf own_pd59 rfl) rfl (by show 2 * 0 + _ ≤ _; exact Nat.le_of_eq rfl) (hb hby at_92) (fun _ _ => ⟨rfl, eh134, (by decide : 2 + 0 ≤ _), (by decide : 56 + 0 ≤ _)⟩)
      dsimp only [Pt.U, Pt.locs, Pt.cells, Pt.slots] at X135 l135 y135 z135 st135 hQ135
      subst l135 y135 z135
      obtain ⟨rfl, Nq135, eh135⟩ := hQ135
      have N135 := Fr.app N134 Nq135
      refine own_byH (fun _ k => st135.trans k) ?_
      show own_FinH p e below s Z consts_1 h0 _ _ _ T135 (mkF m 95 #[.val (.int p1), .val (.int p2), .val (.int (1 : Int32)), .val (.int (0 : Int32)), .val (.ref d1), .val (.ref t10), .val (.int (64 : Int32)), .val (.ref b131)] [(.int (0 : Int32))])
      refine own_byH (fun _ k => XS.iloadN X135.here hx rfl (hb hby at_95) rfl k) ?_
      show own_FinH p e below s Z consts_1 h0 _ _ _ T135 (mkF m 96 #[.val (.int p1), .val (.int p2), .val (.int (1 : Int32)), .val (.int (0 : Int32)), .val (.ref d1), .val (.ref t10), .val (.int (64 : Int32)), .val (.ref b131)] [(.int (0 : Int32)), (.int (0 : Int32))])
      refine own_byH (fun _ k => XS.icmpNo X135.here hx rfl (hb hby at_96) rfl (teq (by decide : (0 : Int32) = (0 : Int32))).2 k) ?_
      show own_FinH p e below s Z consts_1 h0 _ _ _ T135 (mkF m 99 #[.val (.int p1), .val (.int p2), .val (.int (1 : Int32)), .val (.int (0 : Int32)), .val (.ref d1), .val (.ref t10), .val (.int (64 : Int32)), .val (.ref b131)] [])
      refine own_byH (fun _ k => XS.aload X135.here hx rfl (hb hby at_99) rfl rfl k) ?_
      show own_FinH p e below s Z consts_1 h0 _ _ _ T135 (mkF m 101 #[.val (.int p1), .val (.int p2), .val (.int (1 : Int32)), .val (.int (0 : Int32)), .val (.ref d1), .val (.ref t10), .val (.int (64 : Int32)), .val (.ref b131)] [(.ref t10)])
      obtain ⟨cq136, kq136, q136a, q136b, q136c⟩ := isOf hZ eh135 f133_1
      obtain ⟨_, _, ⟨T136, L136, k136, n136⟩, -, X136, ⟨Lc136, hQ136, l136, y136, z136⟩, st136⟩ := X135.virtualBack hx (y := (⟨"com/example/lithe_checker/lithechecker/c/CType$IntegerType", "rank", "()I"⟩ : MethodName)) (z := (⟨"com/example/lithe_checker/lithechecker/c/CType$IntegerType", "rank", "()I"⟩ : MethodName)) hown (mvT hZ (hw _ (List.mem_of_getElem? (i := 39) rfl))) (mvT hZ (hw _ (List.mem_of_getElem? (i := 40) rfl))) (notFace_of_selects (args := #[]) (mvT hZ (hw _ (List.mem_of_getElem? (i := 42) rfl)))) (mvT hZ (hw _ (List.mem_of_getElem? (i := 42) rfl))) (mvT hZ (hw _ (List.mem_of_getElem? (i := 41) rfl))) (by decide) (backOf (W := 0) (rmR l Z a0 hw [] t10 (4 : Int32) h131 n0 Zs131 f133_4) hZ (hw _ (List.mem_of_getElem? (i := 43) rfl)) (hw _ (List.mem_of_getElem? (i := 28) rfl)) (by decide) (by decide)) q136a q136c (g := (mkF m 101 #[.val (.int p1), .val (.int p2), .val (.int (1 : Int32)), .val (.int (0 : Int32)), .val (.ref d1), .val (.ref t10), .val (.int (64 : Int32)), .val (.ref b131)] [(.ref t10)])) rfl (by rw [hml]; rfl) (Steps.refl _) (argsL := []) (rest := []) (lenOf own_pd23 rfl) rfl (by show 2 * 0 + _ ≤ _; exact Nat.le_of_eq rfl) (hb hby at_101) (fun _ _ => ⟨rfl, eh135, (by decide : 2 + 0 ≤ _), (by decide : 56 + 0 ≤ _)⟩)
      dsimp only [Pt.U, Pt.locs, Pt.cells, Pt.slots] at X136 l136 y136 z136 st136 hQ136
      subst l136 y136 z136
      obtain ⟨rfl, Nq136, eh136⟩ := hQ136
      have N136 := Fr.app N135 Nq136
      refine own_byH (fun _ k => st136.trans k) ?_
      show own_FinH p e below s Z consts_1 h0 _ _ _ T136 (mkF m 104 #[.val (.int p1), .val (.int p2), .val (.int (1 : Int32)), .val (.int (0 : Int32)), .val (.ref d1), .val (.ref t10), .val (.int (64 : Int32)), .val (.ref b131)] [(.int (4 : Int32))])
      refine own_byH (fun _ k => XS.iconst X136.here hx rfl (hb hby at_104) k) ?_
      show own_FinH p e below s Z consts_1 h0 _ _ _ T136 (mkF m 105 #[.val (.int p1), .val (.int p2), .val (.int (1 : Int32)), .val (.int (0 : Int32)), .val (.ref d1), .val (.ref t10), .val (.int (64 : Int32)), .val (.ref b131)] [(.int (4 : Int32)), (.int (4 : Int32))])
      refine own_byH (fun _ k => XS.icmpNo X136.here hx rfl (hb hby at_105) rfl (teq (by decide : (4 : Int32) = (4 : Int32))).2 k) ?_
      show own_FinH p e below s Z consts_1 h0 _ _ _ T136 (mkF m 108 #[.val (.int p1), .val (.int p2), .val (.int (1 : Int32)), .val (.int (0 : Int32)), .val (.ref d1), .val (.ref t10), .val (.int (64 : Int32)), .val (.ref b131)] [])
      refine own_byH (fun _ k => XS.aload X136.here hx rfl (hb hby at_108) rfl rfl (XS.aload X136.here hx rfl (hb hby at_110) rfl rfl k)) ?_
      show own_FinH p e below s Z consts_1 h0 _ _ _ T136 (mkF m 112 #[.val (.int p1), .val (.int p2), .val (.int (1 : Int32)), .val (.int (0 : Int32)), .val (.ref d1), .val (.ref t10), .val (.int (64 : Int32)), .val (.ref b131)] [(.ref t10), (.ref b131)])
      obtain ⟨cq137, kq137, q137a, q137b, q137c⟩ := isOf hZ eh136 f133_1
      obtain ⟨_, _, ⟨T137, L137, k137, n137⟩, -, X137, hSn137, hgr137, ⟨Lc137, hQ137, l137, y137, z137, hCr137⟩, st137⟩ := X136.virtualBackUpS hx (owner := "com/example/lithe_checker/lithechecker/c/CType") (x := (⟨"com/example/lithe_checker/lithechecker/c/CType$IntegerType", "toString", "()Ljava/lang/String;"⟩ : MethodName)) (y := (⟨"com/example/lithe_checker/lithechecker/c/CType", "toString", "()Ljava/lang/String;"⟩ : MethodName)) hown (mvT hZ (hw _ (List.mem_of_getElem? (i := 46) rfl))) (mvT hZ (hw _ (List.mem_of_getElem? (i := 47) rfl))) (mvT hZ (hw _ (List.mem_of_getElem? (i := 48) rfl))) (by decide) (mvT hZ (hw _ (List.mem_of_getElem? (i := 50) rfl))) (mvT hZ (hw _ (List.mem_of_getElem? (i := 49) rfl))) (backOfSH (W := 1) (s := s) (vm0 := T131.vm) (rmT l Z a0 hw [] t10 s0 h131 n0 Zs131 f133_1 f133_5) hZ (hw _ (List.mem_of_getElem? (i := 51) rfl)) (hw _ (List.mem_of_getElem? (i := 5) rfl)) (by decide) (by decide) (own_EW hw) CHs132.1) q137a q137c (g := (mkF m 112 #[.val (.int p1), .val (.int p2), .val (.int (1 : Int32)), .val (.int (0 : Int32)), .val (.ref d1), .val (.ref t10), .val (.int (64 : Int32)), .val (.ref b131)] [(.ref t10), (.ref b131)])) rfl (by rw [hml]; rfl) (Steps.refl _) (argsL := []) (rest := [(.ref b131)]) (lenOf own_pd135 rfl) rfl (by show 2 * 0 + _ ≤ _; exact Nat.le_of_eq rfl) (hb hby at_112) (fun _ _ => ⟨rfl, eh136, (by decide : 2 + 2 ≤ _), (by decide : 56 + 4 ≤ _)⟩)
      dsimp only [Pt.U, Pt.locs, Pt.cells, Pt.slots] at X137 l137 y137 z137 st137 hQ137 hSn137 hgr137
      subst l137 y137 z137
      obtain ⟨rfl, Nq137, K137⟩ := hQ137
      have N137 := Fr.app N136 Nq137
      have hS137 : s.Since T137.vm T137.heap.size := foldS (s := s) hS131 (by rw [eh136]; exact hkE131) hSn137 hgr137
      have hZ137 : Z.Warmed39 (s.setVm T137.vm).vm := State.Warmed39.trans (t := s.setVm T131.vm) hZ hSn137.1
      have hown137 : (s.setVm T137.vm).vm.findClass "com/example/lithe_checker/lithechecker/c/CTypeLongTypePinLaw" = some m.cls := by rw [show (s.setVm T137.vm).vm = T137.vm from rfl, hSn137.1.alike.findClass]; exact hown
      replace hCr137 : CHr Z consts_1 T131.vm h131 T137.vm T137.heap := hCr137
      have CHs138 : CHr Z consts_1 s.vm h0 T137.vm T137.heap := CHs132.trans (hCr137)
      replace hZ := hZ137
      replace hown := hown137
      replace X137 : Stand p l e room_1 (s.setVm T137.vm) m #[(.int p1), (.int p2)] below meth c T137 _ _ _ := X137
      have hkE137 : T137.heap.size ≤ T137.heap.size := Nat.le_refl _
      refine own_byH (fun _ k => st137.trans k) ?_
      have Zs137 : n0 ≤ T137.heap.size := Nat.le_trans Zs131 K137.1
      have f139_0 : Old Z n0 T137.heap := f133_0.keep K137 all0
      have f139_1 : Exa Z T137.heap t10 "com/example/lithe_checker/lithechecker/c/CType$IntegerType" := f133_1.keep K137
      have f139_2 : Fld Z T137.heap t10 "com/example/lithe_checker/lithechecker/c/CType$IntegerType" "bits" "I" (.int (64 : Int32)) := f133_2.keep K137 nin0
      have f139_3 : Fld Z T137.heap t10 "com/example/lithe_checker/lithechecker/c/CType$IntegerType" "signed" "Z" (.int (0 : Int32)) := f133_3.keep K137 nin0
      have f139_4 : Fld Z T137.heap t10 "com/example/lithe_checker/lithechecker/c/CType$IntegerType" "rank" "I" (.int (4 : Int32)) := f133_4.keep K137 nin0
      have f139_5 : Fld Z T137.heap t10 "com/example/lithe_checker/lithechecker/c/CType$IntegerType" "name" "Ljava/lang/String;" (.ref s0) := f133_5.keep K137 nin0
      have f139_6 : Exa Z T137.heap b131 "java/lang/String" := Eb131.keep K137
      have f139_7 : Fld Z T137.heap b131 "java/lang/String" "coder" "B" (.int (0 : Int32)) := Cb131.keep K137 nin0
      have f139_8 : Fld Z T137.heap b131 "java/lang/String" "value" "[B" (.ref v131) := Vb131.keep K137 nin0
      have f139_9 : Arv Z T137.heap v131 kk131 .byte (13 : Int32) [(.int (117 : Int32)), (.int (110 : Int32)), (.int (115 : Int32)), (.int (105 : Int32)), (.int (103 : Int32)), (.int (110 : Int32)), (.int (101 : Int32)), (.int (100 : Int32)), (.int (32 : Int32)), (.int (108 : Int32)), (.int (111 : Int32)), (.int (110 : Int32)), (.int (103 : Int32))] (.int (0 : Int32)) := Ab131.keep K137 nin0
      show own_FinH p e below s Z consts_1 h0 _ _ _ T137 (mkF m 115 #[.val (.int p1), .val (.int p2), .val (.int (1 : Int32)), .val (.int (0 : Int32)), .val (.ref d1), .val (.ref t10), .val (.int (64 : Int32)), .val (.ref b131)] [(.ref s0), (.ref b131)])
      obtain ⟨cq140, kq140, q140a, q140b, q140c⟩ := isOf hZ rfl f139_6
      obtain ⟨_, _, ⟨T140, L140, k140, n140⟩, -, X140, ⟨Lc140, hQ140, l140, y140, z140⟩, st140⟩ := X137.virtualBack hx (y := (⟨"java/lang/String", "equals", "(Ljava/lang/Object;)Z"⟩ : MethodName)) (z := (⟨"java/lang/String", "equals", "(Ljava/lang/Object;)Z"⟩ : MethodName)) hown (mvT hZ (hw _ (List.mem_of_getElem? (i := 69) rfl))) (mvT hZ (hw _ (List.mem_of_getElem? (i := 70) rfl))) (notFace_of_selects (args := #[]) (mvT hZ (hw _ (List.mem_of_getElem? (i := 72) rfl)))) (mvT hZ (hw _ (List.mem_of_getElem? (i := 72) rfl))) (mvT hZ (hw _ (List.mem_of_getElem? (i := 71) rfl))) (by decide) (backOf (W := 0) (rmQ0 l Z a0 hw [] b131 s0 v131 u0 kk131 j0 cs T137.heap n0 Zs137 (ZS0.1.ext f139_0.2) f139_7 f139_8 (ZS0.2.1.ext f139_0.2) (ZS0.2.2.1.ext f139_0.2) f139_9 (ZS0.2.2.2.ext f139_0.2) (S_cs.ext f139_0.2) hcs) hZ (hw _ (List.mem_of_getElem? (i := 73) rfl)) (hw _ (List.mem_of_getElem? (i := 17) rfl)) (by decide) (by decide)) q140a q140c (g := (mkF m 115 #[.val (.int p1), .val (.int p2), .val (.int (1 : Int32)), .val (.int (0 : Int32)), .val (.ref d1), .val (.ref t10), .val (.int (64 : Int32)), .val (.ref b131)] [(.ref s0), (.ref b131)])) rfl (by rw [hml]; rfl) (Steps.refl _) (argsL := [(.ref s0)]) (rest := []) (lenOf own_pd136 rfl) rfl (by show 2 * 0 + _ ≤ _; exact Nat.le_of_eq rfl) (hb hby at_115) (fun _ _ => ⟨rfl, rfl, (by decide : 4 + 0 ≤ _), (by decide : 60 + 0 ≤ _)⟩)
      dsimp only [Pt.U, Pt.locs, Pt.cells, Pt.slots] at X140 l140 y140 z140 st140 hQ140
      subst l140 y140 z140
      obtain ⟨rfl, Nq140, eh140⟩ := hQ140
      have N140 := Fr.app N137 Nq140
      refine own_byH (fun _ k => st140.trans k) ?_
      show own_FinH p e below s Z consts_1 h0 _ _ _ T140 (mkF m 118 #[.val (.int p1), .val (.int p2), .val (.int (1 : Int32)), .val (.int (0 : Int32)), .val (.ref d1), .val (.ref t10), .val (.int (64 : Int32)), .val (.ref b131)] [(.int (1 : Int32))])
      refine own_byH (fun _ k => XS.ifNo X140.here hx rfl (hb hby at_118) rfl ((if0 _ _).trans (feq (by decide : ¬ ((1 : Int32) = (0 : Int32)))).1) k) ?_
      show own_FinH p e below s Z consts_1 h0 _ _ _ T140 (mkF m 121 #[.val (.int p1), .val (.int p2), .val (.int (1 : Int32)), .val (.int (0 : Int32)), .val (.ref d1), .val (.ref t10), .val (.int (64 : Int32)), .val (.ref b131)] [])
      refine own_byH (fun _ k => XS.iconst X140.here hx rfl (hb hby at_121) (XS.goto X140.here hx rfl (pc0 := 122) (pc' := 126) rfl (hb hby at_122) (by decide) (by decide) k)) ?_
      show own_FinH p e below s Z consts_1 h0 _ _ _ T140 (mkF m 126 #[.val (.int p1), .val (.int p2), .val (.int (1 : Int32)), .val (.int (0 : Int32)), .val (.ref d1), .val (.ref t10), .val (.int (64 : Int32)), .val (.ref b131)] [(.int (1 : Int32))])
      have CHe141 : CHr Z consts_1 s.vm h0 T140.vm T137.heap := CHs138.trans (CHv.at X140 hZ (own_EW hw) CHs138.1)
      exact own_retZH X140 hS137 (by rw [eh140]; exact hkE137) (by rw [eh140]; exact CHe141) hx hlk (t := .boolean) Bd.returns (by simp) (hb hby at_126) ⟨rfl, N140⟩ (by decide) (by decide)
    · show own_FinH p e below s Z consts_1 h0 _ _ _ s₁ (mkF m 15 #[.val (.int p1), .val (.int p2), .val (.int (1 : Int32)), .unset, .unset, .unset, .unset, .unset] [(.int (p2 &&& (1 : Int32)))])
      refine own_byH (fun _ k => XS.ifNo X0.here hx rfl (hb hby at_15) rfl ((if0 _ _).trans (feq hc15_128).1) k) ?_
      show own_FinH p e below s Z consts_1 h0 _ _ _ s₁ (mkF m 18 #[.val (.int p1), .val (.int p2), .val (.int (1 : Int32)), .unset, .unset, .unset, .unset, .unset] [])
      refine own_byH (fun _ k => XS.iconst X0.here hx rfl (hb hby at_18) (XS.goto X0.here hx rfl (pc0 := 19) (pc' := 23) rfl (hb hby at_19) (by decide) (by decide) (XS.istoreN X0.here hx rfl (hb hby at_23) rfl (l' := #[.val (.int p1), .val (.int p2), .val (.int (1 : Int32)), .val (.int (1 : Int32)), .unset, .unset, .unset, .unset]) rfl (XS.iloadN X0.here hx rfl (hb hby at_24) rfl k)))) ?_
      show own_FinH p e below s Z consts_1 h0 _ _ _ s₁ (mkF m 25 #[.val (.int p1), .val (.int p2), .val (.int (1 : Int32)), .val (.int (1 : Int32)), .unset, .unset, .unset, .unset] [(.int (1 : Int32))])
      refine own_byH (fun _ k => XS.ifNo X0.here hx rfl (hb hby at_25) rfl ((if0 _ _).trans (feq (by decide : ¬ ((1 : Int32) = (0 : Int32)))).1) k) ?_
      show own_FinH p e below s Z consts_1 h0 _ _ _ s₁ (mkF m 28 #[.val (.int p1), .val (.int p2), .val (.int (1 : Int32)), .val (.int (1 : Int32)), .unset, .unset, .unset, .unset] [])
      obtain ⟨T142, X142, e142, st142⟩ := getS2 X0 hx hZ hown (host := "") (Or.inl (hw _ (List.mem_of_getElem? (i := 85) rfl))) Via.refl e0 (M1.1.ext Od.2) (g := (mkF m 28 #[.val (.int p1), .val (.int p2), .val (.int (1 : Int32)), .val (.int (1 : Int32)), .unset, .unset, .unset, .unset] [])) rfl (hb hby at_28)
      refine own_byH (fun _ k => st142 _ k) ?_
      show own_FinH p e below s Z consts_1 h0 _ _ _ T142 (mkF m 31 #[.val (.int p1), .val (.int p2), .val (.int (1 : Int32)), .val (.int (1 : Int32)), .unset, .unset, .unset, .unset] [(.ref d1)])
      refine own_byH (fun _ k => XS.goto X142.here hx rfl (pc0 := 31) (pc' := 37) rfl (hb hby at_31) (by decide) (by decide) (XS.astore X142.here hx rfl (hb hby at_37) rfl rfl (l' := #[.val (.int p1), .val (.int p2), .val (.int (1 : Int32)), .val (.int (1 : Int32)), .val (.ref d1), .unset, .unset, .unset]) rfl (XS.aload X142.here hx rfl (hb hby at_39) rfl rfl (XS.iloadN X142.here hx rfl (hb hby at_41) rfl k)))) ?_
      show own_FinH p e below s Z consts_1 h0 _ _ _ T142 (mkF m 42 #[.val (.int p1), .val (.int p2), .val (.int (1 : Int32)), .val (.int (1 : Int32)), .val (.ref d1), .unset, .unset, .unset] [(.int (1 : Int32)), (.ref d1)])
      obtain ⟨_, _, ⟨T143, L143, k143, n143⟩, -, X143, ⟨Lc143, hQ143, l143, y143, z143⟩, st143⟩ := Jvm.LawKit.callS X142 hx (y := (⟨"com/example/lithe_checker/lithechecker/c/CType", "longType", "(Lcom/example/lithe_checker/lithechecker/task/DataModel;Z)Lcom/example/lithe_checker/lithechecker/c/CType$IntegerType;"⟩ : MethodName)) hown (mvT hZ (hw _ (List.mem_of_getElem? (i := 3) rfl))) (mvT hZ (hw _ (List.mem_of_getElem? (i := 4) rfl))) (mvT hZ (hw _ (List.mem_of_getElem? (i := 5) rfl))) (mvT hZ (hw _ (List.mem_of_getElem? (i := 6) rfl))) (by decide) (backOf (W := 0) (rmL11 l Z a0 hw [] d1 t11 h0 n0 Z0 (M1.2.1.ext Od.2) (M1.2.2.ext Od.2) (Y11.1.ext Od.2)) hZ (hw _ (List.mem_of_getElem? (i := 6) rfl)) (hw _ (List.mem_of_getElem? (i := 5) rfl)) (by decide) (by decide)) (g := (mkF m 42 #[.val (.int p1), .val (.int p2), .val (.int (1 : Int32)), .val (.int (1 : Int32)), .val (.ref d1), .unset, .unset, .unset] [(.int (1 : Int32)), (.ref d1)])) rfl (by rw [hml]; rfl) (argsL := [(.ref d1), (.int (1 : Int32))]) (rest := []) (lenOf own_pd134 rfl) rfl (by show 2 * 0 + _ ≤ _; exact Nat.le_of_eq rfl) (hb hby at_42) (fun _ _ => ⟨rfl, e142, (by decide : 0 + 0 ≤ _), (by decide : 0 + 0 ≤ _)⟩)
      dsimp only [Pt.U, Pt.locs, Pt.cells, Pt.slots] at X143 l143 y143 z143 st143 hQ143
      subst l143 y143 z143
      obtain ⟨rfl, Nq143, eh143⟩ := hQ143
      have N143 := Fr.app N0 Nq143
      refine own_byH (fun _ k => st143 _ k) ?_
      show own_FinH p e below s Z consts_1 h0 _ _ _ T143 (mkF m 45 #[.val (.int p1), .val (.int p2), .val (.int (1 : Int32)), .val (.int (1 : Int32)), .val (.ref d1), .unset, .unset, .unset] [(.ref t11)])
      refine own_byH (fun _ k => XS.astore X143.here hx rfl (hb hby at_45) rfl rfl (l' := #[.val (.int p1), .val (.int p2), .val (.int (1 : Int32)), .val (.int (1 : Int32)), .val (.ref d1), .val (.ref t11), .unset, .unset]) rfl (XS.aload X143.here hx rfl (hb hby at_47) rfl rfl k)) ?_
      show own_FinH p e below s Z consts_1 h0 _ _ _ T143 (mkF m 49 #[.val (.int p1), .val (.int p2), .val (.int (1 : Int32)), .val (.int (1 : Int32)), .val (.ref d1), .val (.ref t11), .unset, .unset] [(.ref t11)])
      refine own_byH (fun _ k => XS.ifnonnullYes X143.here hx rfl (pc0 := 49) (pc' := 54) rfl (hb hby at_49) rfl (by decide) (by decide) k) ?_
      show own_FinH p e below s Z consts_1 h0 _ _ _ T143 (mkF m 54 #[.val (.int p1), .val (.int p2), .val (.int (1 : Int32)), .val (.int (1 : Int32)), .val (.ref d1), .val (.ref t11), .unset, .unset] [])
      refine own_byH (fun _ k => XS.iloadN X143.here hx rfl (hb hby at_54) rfl k) ?_
      show own_FinH p e below s Z consts_1 h0 _ _ _ T143 (mkF m 55 #[.val (.int p1), .val (.int p2), .val (.int (1 : Int32)), .val (.int (1 : Int32)), .val (.ref d1), .val (.ref t11), .unset, .unset] [(.int (1 : Int32))])
      refine own_byH (fun _ k => XS.ifNo X143.here hx rfl (hb hby at_55) rfl ((if0 _ _).trans (feq (by decide : ¬ ((1 : Int32) = (0 : Int32)))).1) k) ?_
      show own_FinH p e below s Z consts_1 h0 _ _ _ T143 (mkF m 58 #[.val (.int p1), .val (.int p2), .val (.int (1 : Int32)), .val (.int (1 : Int32)), .val (.ref d1), .val (.ref t11), .unset, .unset] [])
      refine own_byH (fun _ k => XS.bipush X143.here hx rfl (hb hby at_58) (XS.goto X143.here hx rfl (pc0 := 60) (pc' := 65) rfl (hb hby at_60) (by decide) (by decide) (XS.istore X143.here hx rfl (hb hby at_65) rfl (l' := #[.val (.int p1), .val (.int p2), .val (.int (1 : Int32)), .val (.int (1 : Int32)), .val (.ref d1), .val (.ref t11), .val (.int (64 : Int32)), .unset]) rfl (XS.iloadN X143.here hx rfl (hb hby at_67) rfl k)))) ?_
      show own_FinH p e below s Z consts_1 h0 _ _ _ T143 (mkF m 68 #[.val (.int p1), .val (.int p2), .val (.int (1 : Int32)), .val (.int (1 : Int32)), .val (.ref d1), .val (.ref t11), .val (.int (64 : Int32)), .unset] [(.int (1 : Int32))])
      refine own_byH (fun _ k => XS.ifNo X143.here hx rfl (hb hby at_68) rfl ((if0 _ _).trans (feq (by decide : ¬ ((1 : Int32) = (0 : Int32)))).1) k) ?_
      show own_FinH p e below s Z consts_1 h0 _ _ _ T143 (mkF m 71 #[.val (.int p1), .val (.int p2), .val (.int (1 : Int32)), .val (.int (1 : Int32)), .val (.ref d1), .val (.ref t11), .val (.int (64 : Int32)), .unset] [])
      obtain ⟨b144, T144, h144, k144, v144, kk144, X144, e144, E144, hS144, hkE144, hZ144, hown144, Eb144, Cb144, Vb144, Ab144, -, -, hCr144, -, Sn144, st144⟩ := ldcCH (s := s) (vm0 := s.vm) X143 hx hZ hown (hw _ (List.mem_of_getElem? (i := 16) rfl)) (own_wS hw) eh143 hS0 hk0 (own_EW hw) (by decide) CH0.1 (vs := [(.int (108 : Int32)), (.int (111 : Int32)), (.int (110 : Int32)), (.int (103 : Int32))]) (z := (4 : Int32)) (by decide) (by decide) (by decide) (g := (mkF m 71 #[.val (.int p1), .val (.int p2), .val (.int (1 : Int32)), .val (.int (1 : Int32)), .val (.ref d1), .val (.ref t11), .val (.int (64 : Int32)), .unset] [])) rfl (hb hby at_71) (n := 16) (by decide) (by decide) (by decide) (by decide)
      have CHs145 : CHr Z consts_1 s.vm h0 T144.vm h144 := CH0.trans (hCr144)
      replace hZ := hZ144
      replace hown := hown144
      refine own_byH (fun _ k => st144 _ k) ?_
      have Zs144 : n0 ≤ h144.size := Nat.le_trans Z0 E144.1
      have f146_0 : Old Z n0 h144 := Od.ext E144
      have f146_1 : Exa Z h144 t11 "com/example/lithe_checker/lithechecker/c/CType$IntegerType" := (Y11.2.1.ext Od.2).ext E144
      have f146_2 : Fld Z h144 t11 "com/example/lithe_checker/lithechecker/c/CType$IntegerType" "bits" "I" (.int (64 : Int32)) := (Y11.2.2.1.ext Od.2).ext E144
      have f146_3 : Fld Z h144 t11 "com/example/lithe_checker/lithechecker/c/CType$IntegerType" "signed" "Z" (.int (1 : Int32)) := (Y11.2.2.2.1.ext Od.2).ext E144
      have f146_4 : Fld Z h144 t11 "com/example/lithe_checker/lithechecker/c/CType$IntegerType" "rank" "I" (.int (4 : Int32)) := (Y11.2.2.2.2.1.ext Od.2).ext E144
      have f146_5 : Fld Z h144 t11 "com/example/lithe_checker/lithechecker/c/CType$IntegerType" "name" "Ljava/lang/String;" (.ref s1) := (Y11.2.2.2.2.2.ext Od.2).ext E144
      show own_FinH p e below s Z consts_1 h0 _ _ _ T144 (mkF m 73 #[.val (.int p1), .val (.int p2), .val (.int (1 : Int32)), .val (.int (1 : Int32)), .val (.ref d1), .val (.ref t11), .val (.int (64 : Int32)), .unset] [(.ref b144)])
      refine own_byH (fun _ k => XS.goto X144.here hx rfl (pc0 := 73) (pc' := 78) rfl (hb hby at_73) (by decide) (by decide) (XS.astore X144.here hx rfl (hb hby at_78) rfl rfl (l' := #[.val (.int p1), .val (.int p2), .val (.int (1 : Int32)), .val (.int (1 : Int32)), .val (.ref d1), .val (.ref t11), .val (.int (64 : Int32)), .val (.ref b144)]) rfl (XS.aload X144.here hx rfl (hb hby at_80) rfl rfl k))) ?_
      show own_FinH p e below s Z consts_1 h0 _ _ _ T144 (mkF m 82 #[.val (.int p1), .val (.int p2), .val (.int (1 : Int32)), .val (.int (1 : Int32)), .val (.ref d1), .val (.ref t11), .val (.int (64 : Int32)), .val (.ref b144)] [(.ref t11)])
      obtain ⟨cq147, kq147, q147a, q147b, q147c⟩ := isOf hZ e144 f146_1
      obtain ⟨_, _, ⟨T147, L147, k147, n147⟩, -, X147, ⟨Lc147, hQ147, l147, y147, z147⟩, st147⟩ := X144.virtualBack hx (y := (⟨"com/example/lithe_checker/lithechecker/c/CType$IntegerType", "bits", "()I"⟩ : MethodName)) (z := (⟨"com/example/lithe_checker/lithechecker/c/CType$IntegerType", "bits", "()I"⟩ : MethodName)) hown (mvT hZ (hw _ (List.mem_of_getElem? (i := 24) rfl))) (mvT hZ (hw _ (List.mem_of_getElem? (i := 25) rfl))) (notFace_of_selects (args := #[]) (mvT hZ (hw _ (List.mem_of_getElem? (i := 27) rfl)))) (mvT hZ (hw _ (List.mem_of_getElem? (i := 27) rfl))) (mvT hZ (hw _ (List.mem_of_getElem? (i := 26) rfl))) (by decide) (backOf (W := 0) (rmB l Z a0 hw [] t11 (64 : Int32) h144 n0 Zs144 f146_2) hZ (hw _ (List.mem_of_getElem? (i := 29) rfl)) (hw _ (List.mem_of_getElem? (i := 28) rfl)) (by decide) (by decide)) q147a q147c (g := (mkF m 82 #[.val (.int p1), .val (.int p2), .val (.int (1 : Int32)), .val (.int (1 : Int32)), .val (.ref d1), .val (.ref t11), .val (.int (64 : Int32)), .val (.ref b144)] [(.ref t11)])) rfl (by rw [hml]; rfl) (Steps.refl _) (argsL := []) (rest := []) (lenOf own_pd23 rfl) rfl (by show 2 * 0 + _ ≤ _; exact Nat.le_of_eq rfl) (hb hby at_82) (fun _ _ => ⟨rfl, e144, (by decide : 2 + 0 ≤ _), (by decide : 20 + 0 ≤ _)⟩)
      dsimp only [Pt.U, Pt.locs, Pt.cells, Pt.slots] at X147 l147 y147 z147 st147 hQ147
      subst l147 y147 z147
      obtain ⟨rfl, Nq147, eh147⟩ := hQ147
      have N147 := Fr.app N143 Nq147
      refine own_byH (fun _ k => st147.trans k) ?_
      show own_FinH p e below s Z consts_1 h0 _ _ _ T147 (mkF m 85 #[.val (.int p1), .val (.int p2), .val (.int (1 : Int32)), .val (.int (1 : Int32)), .val (.ref d1), .val (.ref t11), .val (.int (64 : Int32)), .val (.ref b144)] [(.int (64 : Int32))])
      refine own_byH (fun _ k => XS.iload X147.here hx rfl (hb hby at_85) rfl k) ?_
      show own_FinH p e below s Z consts_1 h0 _ _ _ T147 (mkF m 87 #[.val (.int p1), .val (.int p2), .val (.int (1 : Int32)), .val (.int (1 : Int32)), .val (.ref d1), .val (.ref t11), .val (.int (64 : Int32)), .val (.ref b144)] [(.int (64 : Int32)), (.int (64 : Int32))])
      refine own_byH (fun _ k => XS.icmpNo X147.here hx rfl (hb hby at_87) rfl (teq (by decide : (64 : Int32) = (64 : Int32))).2 k) ?_
      show own_FinH p e below s Z consts_1 h0 _ _ _ T147 (mkF m 90 #[.val (.int p1), .val (.int p2), .val (.int (1 : Int32)), .val (.int (1 : Int32)), .val (.ref d1), .val (.ref t11), .val (.int (64 : Int32)), .val (.ref b144)] [])
      refine own_byH (fun _ k => XS.aload X147.here hx rfl (hb hby at_90) rfl rfl k) ?_
      show own_FinH p e below s Z consts_1 h0 _ _ _ T147 (mkF m 92 #[.val (.int p1), .val (.int p2), .val (.int (1 : Int32)), .val (.int (1 : Int32)), .val (.ref d1), .val (.ref t11), .val (.int (64 : Int32)), .val (.ref b144)] [(.ref t11)])
      obtain ⟨cq148, kq148, q148a, q148b, q148c⟩ := isOf hZ eh147 f146_1
      obtain ⟨_, _, ⟨T148, L148, k148, n148⟩, -, X148, ⟨Lc148, hQ148, l148, y148, z148⟩, st148⟩ := X147.virtualBack hx (y := (⟨"com/example/lithe_checker/lithechecker/c/CType$IntegerType", "signed", "()Z"⟩ : MethodName)) (z := (⟨"com/example/lithe_checker/lithechecker/c/CType$IntegerType", "signed", "()Z"⟩ : MethodName)) hown (mvT hZ (hw _ (List.mem_of_getElem? (i := 32) rfl))) (mvT hZ (hw _ (List.mem_of_getElem? (i := 33) rfl))) (notFace_of_selects (args := #[]) (mvT hZ (hw _ (List.mem_of_getElem? (i := 35) rfl)))) (mvT hZ (hw _ (List.mem_of_getElem? (i := 35) rfl))) (mvT hZ (hw _ (List.mem_of_getElem? (i := 34) rfl))) (by decide) (backOf (W := 0) (rmS1 l Z a0 hw [] t11 h144 n0 Zs144 f146_3) hZ (hw _ (List.mem_of_getElem? (i := 36) rfl)) (hw _ (List.mem_of_getElem? (i := 28) rfl)) (by decide) (by decide)) q148a q148c (g := (mkF m 92 #[.val (.int p1), .val (.int p2), .val (.int (1 : Int32)), .val (.int (1 : Int32)), .val (.ref d1), .val (.ref t11), .val (.int (64 : Int32)), .val (.ref b144)] [(.ref t11)])) rfl (by rw [hml]; rfl) (Steps.refl _) (argsL := []) (rest := []) (lenOf own_pd59 rfl) rfl (by show 2 * 0 + _ ≤ _; exact Nat.le_of_eq rfl) (hb hby at_92) (fun _ _ => ⟨rfl, eh147, (by decide : 2 + 0 ≤ _), (by decide : 20 + 0 ≤ _)⟩)
      dsimp only [Pt.U, Pt.locs, Pt.cells, Pt.slots] at X148 l148 y148 z148 st148 hQ148
      subst l148 y148 z148
      obtain ⟨rfl, Nq148, eh148⟩ := hQ148
      have N148 := Fr.app N147 Nq148
      refine own_byH (fun _ k => st148.trans k) ?_
      show own_FinH p e below s Z consts_1 h0 _ _ _ T148 (mkF m 95 #[.val (.int p1), .val (.int p2), .val (.int (1 : Int32)), .val (.int (1 : Int32)), .val (.ref d1), .val (.ref t11), .val (.int (64 : Int32)), .val (.ref b144)] [(.int (1 : Int32))])
      refine own_byH (fun _ k => XS.iloadN X148.here hx rfl (hb hby at_95) rfl k) ?_
      show own_FinH p e below s Z consts_1 h0 _ _ _ T148 (mkF m 96 #[.val (.int p1), .val (.int p2), .val (.int (1 : Int32)), .val (.int (1 : Int32)), .val (.ref d1), .val (.ref t11), .val (.int (64 : Int32)), .val (.ref b144)] [(.int (1 : Int32)), (.int (1 : Int32))])
      refine own_byH (fun _ k => XS.icmpNo X148.here hx rfl (hb hby at_96) rfl (teq (by decide : (1 : Int32) = (1 : Int32))).2 k) ?_
      show own_FinH p e below s Z consts_1 h0 _ _ _ T148 (mkF m 99 #[.val (.int p1), .val (.int p2), .val (.int (1 : Int32)), .val (.int (1 : Int32)), .val (.ref d1), .val (.ref t11), .val (.int (64 : Int32)), .val (.ref b144)] [])
      refine own_byH (fun _ k => XS.aload X148.here hx rfl (hb hby at_99) rfl rfl k) ?_
      show own_FinH p e below s Z consts_1 h0 _ _ _ T148 (mkF m 101 #[.val (.int p1), .val (.int p2), .val (.int (1 : Int32)), .val (.int (1 : Int32)), .val (.ref d1), .val (.ref t11), .val (.int (64 : Int32)), .val (.ref b144)] [(.ref t11)])
      obtain ⟨cq149, kq149, q149a, q149b, q149c⟩ := isOf hZ eh148 f146_1
      obtain ⟨_, _, ⟨T149, L149, k149, n149⟩, -, X149, ⟨Lc149, hQ149, l149, y149, z149⟩, st149⟩ := X148.virtualBack hx (y := (⟨"com/example/lithe_checker/lithechecker/c/CType$IntegerType", "rank", "()I"⟩ : MethodName)) (z := (⟨"com/example/lithe_checker/lithechecker/c/CType$IntegerType", "rank", "()I"⟩ : MethodName)) hown (mvT hZ (hw _ (List.mem_of_getElem? (i := 39) rfl))) (mvT hZ (hw _ (List.mem_of_getElem? (i := 40) rfl))) (notFace_of_selects (args := #[]) (mvT hZ (hw _ (List.mem_of_getElem? (i := 42) rfl)))) (mvT hZ (hw _ (List.mem_of_getElem? (i := 42) rfl))) (mvT hZ (hw _ (List.mem_of_getElem? (i := 41) rfl))) (by decide) (backOf (W := 0) (rmR l Z a0 hw [] t11 (4 : Int32) h144 n0 Zs144 f146_4) hZ (hw _ (List.mem_of_getElem? (i := 43) rfl)) (hw _ (List.mem_of_getElem? (i := 28) rfl)) (by decide) (by decide)) q149a q149c (g := (mkF m 101 #[.val (.int p1), .val (.int p2), .val (.int (1 : Int32)), .val (.int (1 : Int32)), .val (.ref d1), .val (.ref t11), .val (.int (64 : Int32)), .val (.ref b144)] [(.ref t11)])) rfl (by rw [hml]; rfl) (Steps.refl _) (argsL := []) (rest := []) (lenOf own_pd23 rfl) rfl (by show 2 * 0 + _ ≤ _; exact Nat.le_of_eq rfl) (hb hby at_101) (fun _ _ => ⟨rfl, eh148, (by decide : 2 + 0 ≤ _), (by decide : 20 + 0 ≤ _)⟩)
      dsimp only [Pt.U, Pt.locs, Pt.cells, Pt.slots] at X149 l149 y149 z149 st149 hQ149
      subst l149 y149 z149
      obtain ⟨rfl, Nq149, eh149⟩ := hQ149
      have N149 := Fr.app N148 Nq149
      refine own_byH (fun _ k => st149.trans k) ?_
      show own_FinH p e below s Z consts_1 h0 _ _ _ T149 (mkF m 104 #[.val (.int p1), .val (.int p2), .val (.int (1 : Int32)), .val (.int (1 : Int32)), .val (.ref d1), .val (.ref t11), .val (.int (64 : Int32)), .val (.ref b144)] [(.int (4 : Int32))])
      refine own_byH (fun _ k => XS.iconst X149.here hx rfl (hb hby at_104) k) ?_
      show own_FinH p e below s Z consts_1 h0 _ _ _ T149 (mkF m 105 #[.val (.int p1), .val (.int p2), .val (.int (1 : Int32)), .val (.int (1 : Int32)), .val (.ref d1), .val (.ref t11), .val (.int (64 : Int32)), .val (.ref b144)] [(.int (4 : Int32)), (.int (4 : Int32))])
      refine own_byH (fun _ k => XS.icmpNo X149.here hx rfl (hb hby at_105) rfl (teq (by decide : (4 : Int32) = (4 : Int32))).2 k) ?_
      show own_FinH p e below s Z consts_1 h0 _ _ _ T149 (mkF m 108 #[.val (.int p1), .val (.int p2), .val (.int (1 : Int32)), .val (.int (1 : Int32)), .val (.ref d1), .val (.ref t11), .val (.int (64 : Int32)), .val (.ref b144)] [])
      refine own_byH (fun _ k => XS.aload X149.here hx rfl (hb hby at_108) rfl rfl (XS.aload X149.here hx rfl (hb hby at_110) rfl rfl k)) ?_
      show own_FinH p e below s Z consts_1 h0 _ _ _ T149 (mkF m 112 #[.val (.int p1), .val (.int p2), .val (.int (1 : Int32)), .val (.int (1 : Int32)), .val (.ref d1), .val (.ref t11), .val (.int (64 : Int32)), .val (.ref b144)] [(.ref t11), (.ref b144)])
      obtain ⟨cq150, kq150, q150a, q150b, q150c⟩ := isOf hZ eh149 f146_1
      obtain ⟨_, _, ⟨T150, L150, k150, n150⟩, -, X150, hSn150, hgr150, ⟨Lc150, hQ150, l150, y150, z150, hCr150⟩, st150⟩ := X149.virtualBackUpS hx (owner := "com/example/lithe_checker/lithechecker/c/CType") (x := (⟨"com/example/lithe_checker/lithechecker/c/CType$IntegerType", "toString", "()Ljava/lang/String;"⟩ : MethodName)) (y := (⟨"com/example/lithe_checker/lithechecker/c/CType", "toString", "()Ljava/lang/String;"⟩ : MethodName)) hown (mvT hZ (hw _ (List.mem_of_getElem? (i := 46) rfl))) (mvT hZ (hw _ (List.mem_of_getElem? (i := 47) rfl))) (mvT hZ (hw _ (List.mem_of_getElem? (i := 48) rfl))) (by decide) (mvT hZ (hw _ (List.mem_of_getElem? (i := 50) rfl))) (mvT hZ (hw _ (List.mem_of_getElem? (i := 49) rfl))) (backOfSH (W := 1) (s := s) (vm0 := T144.vm) (rmT l Z a0 hw [] t11 s1 h144 n0 Zs144 f146_1 f146_5) hZ (hw _ (List.mem_of_getElem? (i := 51) rfl)) (hw _ (List.mem_of_getElem? (i := 5) rfl)) (by decide) (by decide) (own_EW hw) CHs145.1) q150a q150c (g := (mkF m 112 #[.val (.int p1), .val (.int p2), .val (.int (1 : Int32)), .val (.int (1 : Int32)), .val (.ref d1), .val (.ref t11), .val (.int (64 : Int32)), .val (.ref b144)] [(.ref t11), (.ref b144)])) rfl (by rw [hml]; rfl) (Steps.refl _) (argsL := []) (rest := [(.ref b144)]) (lenOf own_pd135 rfl) rfl (by show 2 * 0 + _ ≤ _; exact Nat.le_of_eq rfl) (hb hby at_112) (fun _ _ => ⟨rfl, eh149, (by decide : 2 + 2 ≤ _), (by decide : 20 + 4 ≤ _)⟩)
      dsimp only [Pt.U, Pt.locs, Pt.cells, Pt.slots] at X150 l150 y150 z150 st150 hQ150 hSn150 hgr150
      subst l150 y150 z150
      obtain ⟨rfl, Nq150, K150⟩ := hQ150
      have N150 := Fr.app N149 Nq150
      have hS150 : s.Since T150.vm T150.heap.size := foldS (s := s) hS144 (by rw [eh149]; exact hkE144) hSn150 hgr150
      have hZ150 : Z.Warmed39 (s.setVm T150.vm).vm := State.Warmed39.trans (t := s.setVm T144.vm) hZ hSn150.1
      have hown150 : (s.setVm T150.vm).vm.findClass "com/example/lithe_checker/lithechecker/c/CTypeLongTypePinLaw" = some m.cls := by rw [show (s.setVm T150.vm).vm = T150.vm from rfl, hSn150.1.alike.findClass]; exact hown
      replace hCr150 : CHr Z consts_1 T144.vm h144 T150.vm T150.heap := hCr150
      have CHs151 : CHr Z consts_1 s.vm h0 T150.vm T150.heap := CHs145.trans (hCr150)
      replace hZ := hZ150
      replace hown := hown150
      replace X150 : Stand p l e room_1 (s.setVm T150.vm) m #[(.int p1), (.int p2)] below meth c T150 _ _ _ := X150
      have hkE150 : T150.heap.size ≤ T150.heap.size := Nat.le_refl _
      refine own_byH (fun _ k => st150.trans k) ?_
      have Zs150 : n0 ≤ T150.heap.size := Nat.le_trans Zs144 K150.1
      have f152_0 : Old Z n0 T150.heap := f146_0.keep K150 all0
      have f152_1 : Exa Z T150.heap t11 "com/example/lithe_checker/lithechecker/c/CType$IntegerType" := f146_1.keep K150
      have f152_2 : Fld Z T150.heap t11 "com/example/lithe_checker/lithechecker/c/CType$IntegerType" "bits" "I" (.int (64 : Int32)) := f146_2.keep K150 nin0
      have f152_3 : Fld Z T150.heap t11 "com/example/lithe_checker/lithechecker/c/CType$IntegerType" "signed" "Z" (.int (1 : Int32)) := f146_3.keep K150 nin0
      have f152_4 : Fld Z T150.heap t11 "com/example/lithe_checker/lithechecker/c/CType$IntegerType" "rank" "I" (.int (4 : Int32)) := f146_4.keep K150 nin0
      have f152_5 : Fld Z T150.heap t11 "com/example/lithe_checker/lithechecker/c/CType$IntegerType" "name" "Ljava/lang/String;" (.ref s1) := f146_5.keep K150 nin0
      have f152_6 : Exa Z T150.heap b144 "java/lang/String" := Eb144.keep K150
      have f152_7 : Fld Z T150.heap b144 "java/lang/String" "coder" "B" (.int (0 : Int32)) := Cb144.keep K150 nin0
      have f152_8 : Fld Z T150.heap b144 "java/lang/String" "value" "[B" (.ref v144) := Vb144.keep K150 nin0
      have f152_9 : Arv Z T150.heap v144 kk144 .byte (4 : Int32) [(.int (108 : Int32)), (.int (111 : Int32)), (.int (110 : Int32)), (.int (103 : Int32))] (.int (0 : Int32)) := Ab144.keep K150 nin0
      show own_FinH p e below s Z consts_1 h0 _ _ _ T150 (mkF m 115 #[.val (.int p1), .val (.int p2), .val (.int (1 : Int32)), .val (.int (1 : Int32)), .val (.ref d1), .val (.ref t11), .val (.int (64 : Int32)), .val (.ref b144)] [(.ref s1), (.ref b144)])
      obtain ⟨cq153, kq153, q153a, q153b, q153c⟩ := isOf hZ rfl f152_6
      obtain ⟨_, _, ⟨T153, L153, k153, n153⟩, -, X153, ⟨Lc153, hQ153, l153, y153, z153⟩, st153⟩ := X150.virtualBack hx (y := (⟨"java/lang/String", "equals", "(Ljava/lang/Object;)Z"⟩ : MethodName)) (z := (⟨"java/lang/String", "equals", "(Ljava/lang/Object;)Z"⟩ : MethodName)) hown (mvT hZ (hw _ (List.mem_of_getElem? (i := 69) rfl))) (mvT hZ (hw _ (List.mem_of_getElem? (i := 70) rfl))) (notFace_of_selects (args := #[]) (mvT hZ (hw _ (List.mem_of_getElem? (i := 72) rfl)))) (mvT hZ (hw _ (List.mem_of_getElem? (i := 72) rfl))) (mvT hZ (hw _ (List.mem_of_getElem? (i := 71) rfl))) (by decide) (backOf (W := 0) (rmQ1 l Z a0 hw [] b144 s1 v144 u1 kk144 j1 cs T150.heap n0 Zs150 (ZS1.1.ext f152_0.2) f152_7 f152_8 (ZS1.2.1.ext f152_0.2) (ZS1.2.2.1.ext f152_0.2) f152_9 (ZS1.2.2.2.ext f152_0.2) (S_cs.ext f152_0.2) hcs) hZ (hw _ (List.mem_of_getElem? (i := 73) rfl)) (hw _ (List.mem_of_getElem? (i := 17) rfl)) (by decide) (by decide)) q153a q153c (g := (mkF m 115 #[.val (.int p1), .val (.int p2), .val (.int (1 : Int32)), .val (.int (1 : Int32)), .val (.ref d1), .val (.ref t11), .val (.int (64 : Int32)), .val (.ref b144)] [(.ref s1), (.ref b144)])) rfl (by rw [hml]; rfl) (Steps.refl _) (argsL := [(.ref s1)]) (rest := []) (lenOf own_pd136 rfl) rfl (by show 2 * 0 + _ ≤ _; exact Nat.le_of_eq rfl) (hb hby at_115) (fun _ _ => ⟨rfl, rfl, (by decide : 4 + 0 ≤ _), (by decide : 24 + 0 ≤ _)⟩)
      dsimp only [Pt.U, Pt.locs, Pt.cells, Pt.slots] at X153 l153 y153 z153 st153 hQ153
      subst l153 y153 z153
      obtain ⟨rfl, Nq153, eh153⟩ := hQ153
      have N153 := Fr.app N150 Nq153
      refine own_byH (fun _ k => st153.trans k) ?_
      show own_FinH p e below s Z consts_1 h0 _ _ _ T153 (mkF m 118 #[.val (.int p1), .val (.int p2), .val (.int (1 : Int32)), .val (.int (1 : Int32)), .val (.ref d1), .val (.ref t11), .val (.int (64 : Int32)), .val (.ref b144)] [(.int (1 : Int32))])
      refine own_byH (fun _ k => XS.ifNo X153.here hx rfl (hb hby at_118) rfl ((if0 _ _).trans (feq (by decide : ¬ ((1 : Int32) = (0 : Int32)))).1) k) ?_
      show own_FinH p e below s Z consts_1 h0 _ _ _ T153 (mkF m 121 #[.val (.int p1), .val (.int p2), .val (.int (1 : Int32)), .val (.int (1 : Int32)), .val (.ref d1), .val (.ref t11), .val (.int (64 : Int32)), .val (.ref b144)] [])
      refine own_byH (fun _ k => XS.iconst X153.here hx rfl (hb hby at_121) (XS.goto X153.here hx rfl (pc0 := 122) (pc' := 126) rfl (hb hby at_122) (by decide) (by decide) k)) ?_
      show own_FinH p e below s Z consts_1 h0 _ _ _ T153 (mkF m 126 #[.val (.int p1), .val (.int p2), .val (.int (1 : Int32)), .val (.int (1 : Int32)), .val (.ref d1), .val (.ref t11), .val (.int (64 : Int32)), .val (.ref b144)] [(.int (1 : Int32))])
      have CHe154 : CHr Z consts_1 s.vm h0 T153.vm T150.heap := CHs151.trans (CHv.at X153 hZ (own_EW hw) CHs151.1)
      exact own_retZH X153 hS150 (by rw [eh153]; exact hkE150) (by rw [eh153]; exact CHe154) hx hlk (t := .boolean) Bd.returns (by simp) (hb hby at_126) ⟨rfl, N153⟩ (by decide) (by decide)
set_option maxRecDepth 65536 in
set_option maxHeartbeats 40000000 in
theorem comes_1 {Post : Tables → Env → Array Value → State → Outcome → State → Prop} (hpost : ∀ tb e args s v u, (limb_1_1.after args s (.returned v) u = true ∧ limb_1_2.after args s (.returned v) u = true ∧ True) → ReturnedEndW s (.returned v) u (Jvm.fieldLocs frame_1_writes args s ++ Jvm.arrayLocs frame_1_arrays args s ++ Jvm.staticLocs frame_1_statics s) 8 3136 → Post tb e args s (.returned v) u) :
    ArmFor flags0 classFile x code maxLocals ret World_1 tables_1 room_1 Calls_1 rest_1 Pre_1 Post := by
  intro l hfl _ _ p e ha hc hk s m args below hf hA hF happ hP
  obtain ⟨hcalls, hrest, hpre⟩ := hP
  obtain ⟨-, -, -, hnamed, -, -, -, hat⟩ := (Spec.applies_iff hf).mp happ
  obtain ⟨hg, hn⟩ := and_e (Cond.before_iff.mp (show (Jvm.Cond.and given_1 narrow_1).before args s = true from hpre))
  obtain ⟨gc, gr0⟩ := and_e hg
  obtain ⟨ga0, gr1⟩ := and_e gr0
  obtain ⟨w0, w1, rfl⟩ : ∃ w0 w1 : Value, args = #[w0, w1] := by
    have hs : args.size = 2 := by simpa [Cond.value, given_1] using gc
    obtain ⟨L⟩ := args
    match L, hs with
    | [w0, w1], _ => exact ⟨w0, w1, rfl⟩
  have hw := fun d (hd : d ∈ tables_1) => atoms_spec (ws := Jvm.Cond.code x code maxLocals ret :: tables_1) hat d (List.mem_cons_of_mem _ hd)
  obtain ⟨hsets, hown0⟩ := atoms_of _ (rest_1_c_eq ▸ (show rest_1_c.before _ s = true from hrest))
  have hr0 := Cond.before_iff.mp hown0
  have hfit : Fit s := fun {y c} hc i hi => by
    obtain ⟨ha, rfl⟩ := Array.getElem?_eq_some_iff.mp hc
    have q := List.all_eq_true.mp ((Array.all_eq_true_iff_forall_mem.mp hF) _ (Array.getElem_mem ha)) i (List.mem_range.mpr hi)
    simpa [Array.getElem?_eq_getElem hi] using q
  obtain ⟨i0, ei0⟩ := is_v ga0
  obtain rfl : w0 = (.int i0) := Option.some.inj ei0
  obtain ⟨i1, ei1⟩ := is_v gr1
  obtain rfl : w1 = (.int i1) := Option.some.inj ei1
  obtain ⟨q0, r0⟩ := and_e hn
  obtain ⟨q1, r1⟩ := and_e r0
  obtain ⟨q2, r2⟩ := and_e r1
  obtain ⟨q3, r3⟩ := and_e r2
  obtain ⟨q4, r4⟩ := and_e r3
  obtain ⟨q5, r5⟩ := and_e r4
  obtain ⟨q6, r6⟩ := and_e r5
  obtain ⟨q7, r7⟩ := and_e r6
  obtain ⟨q8, r8⟩ := and_e r7
  obtain ⟨q9, r9⟩ := and_e r8
  obtain ⟨q10, r10⟩ := and_e r9
  obtain ⟨q11, r11⟩ := and_e r10
  obtain ⟨q12, r12⟩ := and_e r11
  obtain ⟨q13, r13⟩ := and_e r12
  obtain ⟨q14, r14⟩ := and_e r13
  obtain ⟨q15, r15⟩ := and_e r14
  obtain ⟨q16, r16⟩ := and_e r15
  obtain ⟨q17, r17⟩ := and_e r16
  obtain ⟨q18, r18⟩ := and_e r17
  obtain ⟨q19, r19⟩ := and_e r18
  obtain ⟨q20, r20⟩ := and_e r19
  obtain ⟨q21, r21⟩ := and_e r20
  obtain ⟨q22, r22⟩ := and_e r21
  obtain ⟨q23, r23⟩ := and_e r22
  obtain ⟨q24, r24⟩ := and_e r23
  obtain ⟨q25, r25⟩ := and_e r24
  obtain ⟨q26, r26⟩ := and_e r25
  obtain ⟨q27, r27⟩ := and_e r26
  obtain ⟨q28, r28⟩ := and_e r27
  obtain ⟨q29, r29⟩ := and_e r28
  obtain ⟨q30, r30⟩ := and_e r29
  obtain ⟨q31, r31⟩ := and_e r30
  obtain ⟨q32, r32⟩ := and_e r31
  obtain ⟨q33, r33⟩ := and_e r32
  obtain ⟨q34, r34⟩ := and_e r33
  obtain ⟨q35, r35⟩ := and_e r34
  obtain ⟨q36, r36⟩ := and_e r35
  obtain ⟨q37, r37⟩ := and_e r36
  obtain ⟨q38, r38⟩ := and_e r37
  obtain ⟨q39, r39⟩ := and_e r38
  obtain ⟨q40, r40⟩ := and_e r39
  obtain ⟨q41, r41⟩ := and_e r40
  obtain ⟨q42, r42⟩ := and_e r41
  obtain ⟨q43, r43⟩ := and_e r42
  obtain ⟨q44, r44⟩ := and_e r43
  obtain ⟨q45, r45⟩ := and_e r44
  have q46 := r45
  obtain ⟨d1, ed1⟩ := exa_v q22
  have m1 : own_Mod s "LP64" d1 (64 : Int32) := ⟨Sta.start ed1 (Or.inr ⟨(hw _ (List.mem_of_getElem? (i := 1) rfl)), (hw _ (List.mem_of_getElem? (i := 86) rfl))⟩), Exa.start ed1 q22, Fld.start ((fld_at ed1).symm.trans (eqv_i (Term.int_eval (64)) q23))⟩
  obtain ⟨d0, ed0⟩ := exa_v q0
  have m0 : own_Mod s "ILP32" d0 (32 : Int32) := ⟨Sta.start ed0 (Or.inr ⟨(hw _ (List.mem_of_getElem? (i := 1) rfl)), (hw _ (List.mem_of_getElem? (i := 2) rfl))⟩), Exa.start ed0 q0, Fld.start ((fld_at ed0).symm.trans (eqv_i (Term.int_eval (32)) q1))⟩
  obtain ⟨t11, et11⟩ := exa_v q24
  obtain ⟨t01, et01⟩ := exa_v q2
  obtain ⟨t10, et10⟩ := exa_v q29
  obtain ⟨t00, et00⟩ := exa_v q14
  obtain ⟨s1, es1⟩ := exa_v q6
  obtain ⟨u1, eu1⟩ := arr_v q8
  obtain ⟨c1, Ac1⟩ := Arr.start eu1 q8
  obtain ⟨hl1a, hl1b⟩ := own_len eu1 Ac1 (eqv_i (Term.int_eval (4)) q9)
  have zs1 : own_Str s s1 u1 c1.cls (4 : Int32) [(.int (108 : Int32)), (.int (111 : Int32)), (.int (110 : Int32)), (.int (103 : Int32))] := ⟨Exa.start es1 q6, Fld.start ((fld_at es1).symm.trans (eqv_i (Term.int_eval (0)) q7)), Fld.start ((fld_at es1).symm.trans eu1), Arv.start hfit Ac1 hl1a hl1b (by decide) (by decide) ⟨own_eli eu1 Ac1.1 q10, own_eli eu1 Ac1.1 q11, own_eli eu1 Ac1.1 q12, own_eli eu1 Ac1.1 q13, trivial⟩⟩
  obtain ⟨s0, es0⟩ := exa_v q18
  obtain ⟨u0, eu0⟩ := arr_v q20
  obtain ⟨c0, Ac0⟩ := Arr.start eu0 q20
  obtain ⟨hl0a, hl0b⟩ := own_len eu0 Ac0 (eqv_i (Term.int_eval (13)) q21)
  have zs0 : own_Str s s0 u0 c0.cls (13 : Int32) [(.int (117 : Int32)), (.int (110 : Int32)), (.int (115 : Int32)), (.int (105 : Int32)), (.int (103 : Int32)), (.int (110 : Int32)), (.int (101 : Int32)), (.int (100 : Int32)), (.int (32 : Int32)), (.int (108 : Int32)), (.int (111 : Int32)), (.int (110 : Int32)), (.int (103 : Int32))] := ⟨Exa.start es0 q18, Fld.start ((fld_at es0).symm.trans (eqv_i (Term.int_eval (0)) q19)), Fld.start ((fld_at es0).symm.trans eu0), Arv.start hfit Ac0 hl0a hl0b (by decide) (by decide) ⟨own_eli eu0 Ac0.1 q34, own_eli eu0 Ac0.1 q35, own_eli eu0 Ac0.1 q36, own_eli eu0 Ac0.1 q37, own_eli eu0 Ac0.1 q38, own_eli eu0 Ac0.1 q39, own_eli eu0 Ac0.1 q40, own_eli eu0 Ac0.1 q41, own_eli eu0 Ac0.1 q42, own_eli eu0 Ac0.1 q43, own_eli eu0 Ac0.1 q44, own_eli eu0 Ac0.1 q45, own_eli eu0 Ac0.1 q46, trivial⟩⟩
  have y11 : own_Typ s "LONG_64" t11 (64 : Int32) (1 : Int32) s1 := ⟨Sta.start et11 (Or.inr ⟨(hw _ (List.mem_of_getElem? (i := 5) rfl)), (hw _ (List.mem_of_getElem? (i := 88) rfl))⟩), Exa.start et11 q24, Fld.start ((fld_at et11).symm.trans (eqv_i (Term.int_eval (64)) q25)), Fld.start ((fld_at et11).symm.trans (eqv_i (Term.int_eval (1)) q26)), Fld.start ((fld_at et11).symm.trans (eqv_i (Term.int_eval (4)) q27)), Fld.start ((fld_at et11).symm.trans (own_eqR es1 q28))⟩
  have y01 : own_Typ s "LONG_32" t01 (32 : Int32) (1 : Int32) s1 := ⟨Sta.start et01 (Or.inr ⟨(hw _ (List.mem_of_getElem? (i := 5) rfl)), (hw _ (List.mem_of_getElem? (i := 15) rfl))⟩), Exa.start et01 q2, Fld.start ((fld_at et01).symm.trans (eqv_i (Term.int_eval (32)) q3)), Fld.start ((fld_at et01).symm.trans (eqv_i (Term.int_eval (1)) q4)), Fld.start ((fld_at et01).symm.trans (eqv_i (Term.int_eval (4)) q5)), Fld.start ((fld_at et01).symm.trans es1)⟩
  have y10 : own_Typ s "UNSIGNED_LONG_64" t10 (64 : Int32) (0 : Int32) s0 := ⟨Sta.start et10 (Or.inr ⟨(hw _ (List.mem_of_getElem? (i := 5) rfl)), (hw _ (List.mem_of_getElem? (i := 90) rfl))⟩), Exa.start et10 q29, Fld.start ((fld_at et10).symm.trans (eqv_i (Term.int_eval (64)) q30)), Fld.start ((fld_at et10).symm.trans (eqv_i (Term.int_eval (0)) q31)), Fld.start ((fld_at et10).symm.trans (eqv_i (Term.int_eval (4)) q32)), Fld.start ((fld_at et10).symm.trans (own_eqR es0 q33))⟩
  have y00 : own_Typ s "UNSIGNED_LONG_32" t00 (32 : Int32) (0 : Int32) s0 := ⟨Sta.start et00 (Or.inr ⟨(hw _ (List.mem_of_getElem? (i := 5) rfl)), (hw _ (List.mem_of_getElem? (i := 83) rfl))⟩), Exa.start et00 q14, Fld.start ((fld_at et00).symm.trans (eqv_i (Term.int_eval (32)) q15)), Fld.start ((fld_at et00).symm.trans (eqv_i (Term.int_eval (0)) q16)), Fld.start ((fld_at et00).symm.trans (eqv_i (Term.int_eval (4)) q17)), Fld.start ((fld_at et00).symm.trans es0)⟩
  have n5 := not_v (Cond.before_iff.mp (hsets _ (List.mem_of_getElem? (i := 2) rfl)))
  obtain ⟨cs, ecs⟩ := is_v (Cond.before_iff.mp (hsets _ (List.mem_of_getElem? (i := 1) rfl)))
  have S12 : Sta s s.heap "java/lang/String" "COMPACT_STRINGS" "Z" (.int cs) := Sta.start ecs (Or.inl (hsets _ (List.mem_of_getElem? (i := 0) rfl)))
  have c17 : ¬ (cs = (0 : Int32)) := gotF (Cond.eq_ints ecs (Term.int_eval (0))) n5
  have hCH : CHv s consts_1 s.vm s.heap := CHv.start (own_EW hw) (fun p hp => hcalls.1 p hp) (hsets _ (List.mem_of_getElem? (i := 2) rfl)) (hw _ (List.mem_of_getElem? (i := 19) rfl)) (hw _ (List.mem_of_getElem? (i := 18) rfl))
  obtain ⟨n, o, h1, h2, h3, _, L, rfl, ⟨rfl, N⟩, -, hq⟩ := rm0 l s _ hw tables_1 i0 i1 cs d1 d0 t11 t01 t10 t00 s1 s0 u1 u0 c1.cls c0.cls s.heap s.heap.size (Nat.le_refl _) m1 m0 y11 y01 y10 y00 zs1 zs0 S12 c17 (Old.start s) p e ha hc hk s m _ below hf ((Spec.applies_iff_loose hf).mp happ).1 ⟨rfl, State.Warmed39.refl s, rfl, hCH⟩ trivial
  refine ⟨n, _, h1, h2, h3, hpost _ _ _ _ _ _ ⟨Cond.after_iff.mpr rfl, Cond.after_iff.mpr (eq_i res_at (Term.int_eval (1)) rfl), trivial⟩ ⟨hq.1, hq.2.1, hq.2.2.1, (hq.2.2.2.sift fun y hy => Or.inr (N y hy)).mono (by decide) (by decide)⟩⟩
theorem main_1_1 : Claimed_1_1 := comes_1 fun _ _ _ _ _ _ h hF => ⟨h.1, hF⟩
theorem main_1_2 : Claimed_1_2 := comes_1 fun _ _ _ _ _ _ h hF => ⟨h.2.1, hF⟩
end Jvm.Pilot.@@N@@
namespace Jvm.Pilot.@@N@@
open Jvm Jvm.ClassFile Sem Op Lib Jvm.Free Jvm.Stand Jvm.Pilot.@@N@@.Jvm.D
/-! MADE BY PROGRAM (witnessworld.py) out of the Statement's table words and the real class files: 20 classes; the members and pool entries that the words name. The judged class is class 1, her method 1. -/
namespace start1
open Jvm.ClassFile
def u (s : String) : CpInfo := .utf8 (stringToUtf16 s)
/-- a pool by its gaps: so many unusable entries, then the entry; so many at the end -/
def gap : Nat → List CpInfo → List CpInfo
  | 0, r => r
  | n + 1, r => .unusable :: gap n r
def poolList (es : List (Nat × CpInfo)) (last : Nat) : List CpInfo := es.foldr (fun e r => gap e.1 (e.2 :: r)) (gap last [])
def pool (es : List (Nat × CpInfo)) (last : Nat) : Array CpInfo := ⟨poolList es last⟩
def fileOf (pool : Array CpInfo) (this : Nat) (attrs : Array Attribute := #[]) (ms : Array MethodInfo := #[]) (fl : Nat := 33) (sup : Nat := 0) (ifs : Array Nat := #[]) (fds : Array FieldInfo := #[]) : ClassFile where
  minorVersion := 0
  majorVersion := 65
  constantPool := pool
  accessFlags := fl
  thisClass := this
  superClass := sup
  interfaces := ifs
  fields := fds
  methods := ms
  attributes := attrs
def plain (name : String) (sup : Option ClassId) : Class where
  name := name
  kind := .ordinary
  loader := none
  accessFlags := 33
  super := sup
  interfaces := #[]
  cf := none
  fields := #[]
  methods := #[]
  instanceTypes := #[]
  staticTypes := #[]
  resolved := #[]
  callSites := []
  init := .initialized
  statics := none
  mirror := none

def pool0 : Array CpInfo := pool [(5, u "<init>"), (0, u "()V"), (1, .class_ 10), (1, u "java/lang/Object")] 113

def k0m0 : Method := { name := "<init>", desc := "()V", sig := { parameters := [], returnType := none }, accessFlags := 1, code := none }
/-- java/lang/Object -/
def k0 : Class := { plain "java/lang/Object" none with
  accessFlags := 33
  interfaces := #[]
  cf := some (fileOf pool0 8 #[] #[{ accessFlags := 1, nameIndex := 5, descriptorIndex := 6, attributes := #[] }] 33 0 #[] #[])
  fields := #[]
  methods := #[k0m0]
  instanceTypes := #[]
  staticTypes := #[]
  resolved := Array.replicate 124 none
  statics := none }

def pool1 : Array CpInfo := pool [(2, .class_ 4), (1, u "java/lang/Object"), (0, u "<init>"), (0, u "()V"), (0, .fieldref 8 9), (0, .class_ 10), (0, .nameAndType 11 12), (0, u "com/example/lithe_checker/lithechecker/task/DataModel"), (0, u "LP64"), (0, u "Lcom/example/lithe_checker/lithechecker/task/DataModel;"), (0, .fieldref 8 14), (0, .nameAndType 15 12), (0, u "ILP32"), (0, .methodref 17 18), (0, .class_ 19), (0, .nameAndType 20 21), (0, u "com/example/lithe_checker/lithechecker/c/CType"), (0, u "longType"), (0, u "(Lcom/example/lithe_checker/lithechecker/task/DataModel;Z)Lcom/example/lithe_checker/lithechecker/c/CType$IntegerType;"), (0, .string 23), (0, u "long"), (0, .string 25), (0, u "unsigned long"), (0, .methodref 27 28), (0, .class_ 29), (0, .nameAndType 30 31), (0, u "com/example/lithe_checker/lithechecker/c/CType$IntegerType"), (0, u "bits"), (0, u "()I"), (0, .methodref 27 33), (0, .nameAndType 34 35), (0, u "signed"), (0, u "()Z"), (0, .methodref 27 37), (0, .nameAndType 38 31), (0, u "rank"), (0, .methodref 27 40), (0, .nameAndType 41 42), (0, u "toString"), (0, u "()Ljava/lang/String;"), (0, .methodref 44 45), (0, .class_ 46), (0, .nameAndType 47 48), (0, u "java/lang/String"), (0, u "equals"), (0, u "(Ljava/lang/Object;)Z"), (0, .class_ 50), (0, u "com/example/lithe_checker/lithechecker/c/CTypeLongTypePinLaw"), (2, u "law"), (0, u "(II)Z")] 5

def k1m0 : Method := { name := "<init>", desc := "()V", sig := { parameters := [], returnType := none }, accessFlags := 2, code := none }
def k1c1 : Code := { maxStack := 2, maxLocals := 8, code := code, exceptionTable := #[], attributes := #[] }
def k1m1 : Method := { name := "law", desc := "(II)Z", sig := { parameters := [.int, .int], returnType := some .boolean }, accessFlags := 9, code := some k1c1 }
/-- com/example/lithe_checker/lithechecker/c/CTypeLongTypePinLaw -/
def k1 : Class := { plain "com/example/lithe_checker/lithechecker/c/CTypeLongTypePinLaw" (some 0) with
  accessFlags := 49
  interfaces := #[]
  cf := some (fileOf pool1 49 #[] #[{ accessFlags := 2, nameIndex := 5, descriptorIndex := 6, attributes := #[] }, { accessFlags := 9, nameIndex := 53, descriptorIndex := 54, attributes := #[] }] 49 2 #[] #[])
  fields := #[]
  methods := #[k1m0, k1m1]
  instanceTypes := #[]
  staticTypes := #[]
  resolved := Array.replicate 60 none
  statics := none }

def pool2 : Array CpInfo := pool [(1, .class_ 2), (0, u "java/lang/constant/Constable"), (0, .class_ 4), (0, u "java/lang/Object")] 6

/-- java/lang/constant/Constable -/
def k2 : Class := { plain "java/lang/constant/Constable" (some 0) with
  accessFlags := 1537
  interfaces := #[]
  cf := some (fileOf pool2 1 #[] #[] 1537 3 #[] #[])
  fields := #[]
  methods := #[]
  instanceTypes := #[]
  staticTypes := #[]
  resolved := Array.replicate 11 none
  statics := none }

def pool3 : Array CpInfo := pool [(1, .class_ 2), (0, u "java/lang/Comparable"), (0, .class_ 4), (0, u "java/lang/Object")] 7

/-- java/lang/Comparable -/
def k3 : Class := { plain "java/lang/Comparable" (some 0) with
  accessFlags := 1537
  interfaces := #[]
  cf := some (fileOf pool3 1 #[] #[] 1537 3 #[] #[])
  fields := #[]
  methods := #[]
  instanceTypes := #[]
  staticTypes := #[]
  resolved := Array.replicate 12 none
  statics := none }

def pool4 : Array CpInfo := pool [(1, .class_ 2), (0, u "java/io/Serializable"), (0, .class_ 4), (0, u "java/lang/Object")] 2

/-- java/io/Serializable -/
def k4 : Class := { plain "java/io/Serializable" (some 0) with
  accessFlags := 1537
  interfaces := #[]
  cf := some (fileOf pool4 1 #[] #[] 1537 3 #[] #[])
  fields := #[]
  methods := #[]
  instanceTypes := #[]
  staticTypes := #[]
  resolved := Array.replicate 7 none
  statics := none }

def pool5 : Array CpInfo := pool [(2, .class_ 4), (1, u "java/lang/Enum"), (0, u "name"), (0, u "Ljava/lang/String;"), (2, u "ordinal"), (0, u "I"), (1, .class_ 14), (1, u "java/lang/Object"), (4, u "hash"), (86, .class_ 108), (1, u "java/lang/Enum$EnumDesc"), (2, .class_ 112), (0, u "java/lang/constant/Constable"), (0, .class_ 114), (0, u "java/lang/Comparable"), (0, .class_ 116), (0, u "java/io/Serializable")] 87

/-- java/lang/Enum -/
def k5 : Class := { plain "java/lang/Enum" (some 0) with
  accessFlags := 1057
  interfaces := #[2, 3, 4]
  cf := some (fileOf pool5 2 #[.nestMembers #[106]] #[] 1057 12 #[111, 113, 115] #[{ accessFlags := 18, nameIndex := 5, descriptorIndex := 6, attributes := #[] }, { accessFlags := 18, nameIndex := 9, descriptorIndex := 10, attributes := #[] }, { accessFlags := 2, nameIndex := 19, descriptorIndex := 10, attributes := #[] }])
  fields := #[{ name := "name", type := (.object "java/lang/String"), accessFlags := 18, slot := 0, constantValue := 0 }, { name := "ordinal", type := .int, accessFlags := 18, slot := 1, constantValue := 0 }, { name := "hash", type := .int, accessFlags := 2, slot := 2, constantValue := 0 }]
  methods := #[]
  instanceTypes := #[(.object "java/lang/String"), .int, .int]
  staticTypes := #[]
  resolved := Array.replicate 204 none
  statics := none }

def pool6 : Array CpInfo := pool [(1, .class_ 2), (0, u "com/example/lithe_checker/lithechecker/task/DataModel"), (2, u "ILP32"), (0, u "Lcom/example/lithe_checker/lithechecker/task/DataModel;"), (2, u "LP64"), (2, u "$VALUES"), (0, u "[Lcom/example/lithe_checker/lithechecker/task/DataModel;"), (6, .class_ 22), (1, u "java/lang/Enum"), (6, .fieldref 1 30), (0, .nameAndType 31 32), (0, u "longBits"), (0, u "I"), (16, u "()I")] 6

def k6c0 : Code := { maxStack := 1, maxLocals := 1, code := prog_107_method_4_code, exceptionTable := #[], attributes := #[] }
def k6m0 : Method := { name := "longBits", desc := "()I", sig := { parameters := [], returnType := some .int }, accessFlags := 1, code := some k6c0 }
/-- com/example/lithe_checker/lithechecker/task/DataModel -/
def k6 : Class := { plain "com/example/lithe_checker/lithechecker/task/DataModel" (some 5) with
  accessFlags := 16433
  interfaces := #[]
  cf := some (fileOf pool6 1 #[] #[{ accessFlags := 1, nameIndex := 31, descriptorIndex := 49, attributes := #[] }] 16433 20 #[] #[{ accessFlags := 16409, nameIndex := 5, descriptorIndex := 6, attributes := #[] }, { accessFlags := 16409, nameIndex := 9, descriptorIndex := 6, attributes := #[] }, { accessFlags := 18, nameIndex := 31, descriptorIndex := 32, attributes := #[] }, { accessFlags := 4122, nameIndex := 12, descriptorIndex := 13, attributes := #[] }])
  fields := #[{ name := "ILP32", type := (.object "com/example/lithe_checker/lithechecker/task/DataModel"), accessFlags := 16409, slot := 0, constantValue := 0 }, { name := "LP64", type := (.object "com/example/lithe_checker/lithechecker/task/DataModel"), accessFlags := 16409, slot := 1, constantValue := 0 }, { name := "longBits", type := .int, accessFlags := 18, slot := 3, constantValue := 0 }, { name := "$VALUES", type := (.array (.object "com/example/lithe_checker/lithechecker/task/DataModel")), accessFlags := 4122, slot := 2, constantValue := 0 }]
  methods := #[k6m0]
  instanceTypes := #[(.object "java/lang/String"), .int, .int, .int]
  staticTypes := #[(.object "com/example/lithe_checker/lithechecker/task/DataModel"), (.object "com/example/lithe_checker/lithechecker/task/DataModel"), (.array (.object "com/example/lithe_checker/lithechecker/task/DataModel"))]
  resolved := Array.replicate 56 none
  statics := some 13 }

def pool7 : Array CpInfo := pool [(2, .class_ 4), (1, u "java/lang/Object"), (0, u "<init>"), (0, u "()V"), (0, .methodref 8 9), (0, .class_ 10), (0, .nameAndType 11 12), (0, u "com/example/lithe_checker/lithechecker/task/DataModel"), (0, u "longBits"), (0, u "()I"), (0, .fieldref 14 15), (0, .class_ 16), (0, .nameAndType 17 18), (0, u "com/example/lithe_checker/lithechecker/c/CType"), (0, u "LONG_64"), (0, u "Lcom/example/lithe_checker/lithechecker/c/CType$IntegerType;"), (0, .fieldref 14 20), (0, .nameAndType 21 18), (0, u "LONG_32"), (0, .fieldref 14 23), (0, .nameAndType 24 18), (0, u "UNSIGNED_LONG_64"), (0, .fieldref 14 26), (0, .nameAndType 27 18), (0, u "UNSIGNED_LONG_32"), (5, u "INT"), (0, .class_ 35), (0, u "com/example/lithe_checker/lithechecker/c/CType$IntegerType"), (0, .class_ 37), (0, u "com/example/lithe_checker/lithechecker/c/CType$PointerType"), (0, .string 39), (0, u ""), (0, .methodref 14 41), (0, .nameAndType 42 43), (0, u "declaration"), (0, u "(Ljava/lang/String;)Ljava/lang/String;"), (0, .methodref 45 46), (0, .class_ 47), (0, .nameAndType 48 49), (0, u "java/lang/String"), (0, u "isEmpty"), (0, u "()Z"), (3, u "(Ljava/lang/String;Ljava/lang/String;)Ljava/lang/String;"), (7, u "CHAR"), (4, u "SIGNED_CHAR"), (4, u "UNSIGNED_CHAR"), (4, u "SHORT"), (4, u "UNSIGNED_SHORT"), (6, u "UNSIGNED_INT"), (4, u "LONG_LONG"), (4, u "UNSIGNED_LONG_LONG"), (12, u "SIGNED"), (0, u "Ljava/util/List;"), (2, u "UNSIGNED"), (0, .class_ 117), (0, u "com/example/lithe_checker/lithechecker/c/CType$VoidType"), (3, u "VOID"), (0, u "Lcom/example/lithe_checker/lithechecker/c/CType$VoidType;"), (4, u "longType"), (0, u "(Lcom/example/lithe_checker/lithechecker/task/DataModel;Z)Lcom/example/lithe_checker/lithechecker/c/CType$IntegerType;"), (4, u "toString"), (0, u "()Ljava/lang/String;"), (0, u "named"), (4, .class_ 141), (0, u "com/example/lithe_checker/lithechecker/c/CType$FunctionType"), (0, .class_ 143), (0, u "com/example/lithe_checker/lithechecker/c/CType$ArrayType"), (0, .class_ 145), (0, u "com/example/lithe_checker/lithechecker/c/CType$Member"), (0, .class_ 147), (0, u "com/example/lithe_checker/lithechecker/c/CType$StructType")] 23

def k7m0 : Method := { name := "<init>", desc := "()V", sig := { parameters := [], returnType := none }, accessFlags := 2, code := none }
def k7c1 : Code := { maxStack := 2, maxLocals := 3, code := prog_5_method_2_code, exceptionTable := #[], attributes := #[] }
def k7m1 : Method := { name := "longType", desc := "(Lcom/example/lithe_checker/lithechecker/task/DataModel;Z)Lcom/example/lithe_checker/lithechecker/c/CType$IntegerType;", sig := { parameters := [(.object "com/example/lithe_checker/lithechecker/task/DataModel"), .boolean], returnType := some (.object "com/example/lithe_checker/lithechecker/c/CType$IntegerType") }, accessFlags := 9, code := some k7c1 }
def k7m2 : Method := { name := "declaration", desc := "(Ljava/lang/String;)Ljava/lang/String;", sig := { parameters := [(.object "java/lang/String")], returnType := some (.object "java/lang/String") }, accessFlags := 1025, code := none }
def k7c3 : Code := { maxStack := 2, maxLocals := 1, code := prog_5_method_6_code, exceptionTable := #[], attributes := #[] }
def k7m3 : Method := { name := "toString", desc := "()Ljava/lang/String;", sig := { parameters := [], returnType := some (.object "java/lang/String") }, accessFlags := 1, code := some k7c3 }
def k7c4 : Code := { maxStack := 2, maxLocals := 2, code := prog_5_method_7_code, exceptionTable := #[], attributes := #[] }
def k7m4 : Method := { name := "named", desc := "(Ljava/lang/String;Ljava/lang/String;)Ljava/lang/String;", sig := { parameters := [(.object "java/lang/String"), (.object "java/lang/String")], returnType := some (.object "java/lang/String") }, accessFlags := 10, code := some k7c4 }
/-- com/example/lithe_checker/lithechecker/c/CType -/
def k7 : Class := { plain "com/example/lithe_checker/lithechecker/c/CType" (some 0) with
  accessFlags := 1057
  interfaces := #[]
  cf := some (fileOf pool7 14 #[.nestMembers #[140, 142, 144, 146, 36, 116, 34]] #[{ accessFlags := 2, nameIndex := 5, descriptorIndex := 6, attributes := #[] }, { accessFlags := 9, nameIndex := 127, descriptorIndex := 128, attributes := #[] }, { accessFlags := 1025, nameIndex := 42, descriptorIndex := 43, attributes := #[] }, { accessFlags := 1, nameIndex := 133, descriptorIndex := 134, attributes := #[] }, { accessFlags := 10, nameIndex := 135, descriptorIndex := 53, attributes := #[] }] 1057 2 #[] #[{ accessFlags := 25, nameIndex := 61, descriptorIndex := 18, attributes := #[] }, { accessFlags := 25, nameIndex := 66, descriptorIndex := 18, attributes := #[] }, { accessFlags := 25, nameIndex := 71, descriptorIndex := 18, attributes := #[] }, { accessFlags := 25, nameIndex := 76, descriptorIndex := 18, attributes := #[] }, { accessFlags := 25, nameIndex := 81, descriptorIndex := 18, attributes := #[] }, { accessFlags := 25, nameIndex := 33, descriptorIndex := 18, attributes := #[] }, { accessFlags := 25, nameIndex := 88, descriptorIndex := 18, attributes := #[] }, { accessFlags := 25, nameIndex := 93, descriptorIndex := 18, attributes := #[] }, { accessFlags := 25, nameIndex := 98, descriptorIndex := 18, attributes := #[] }, { accessFlags := 26, nameIndex := 21, descriptorIndex := 18, attributes := #[] }, { accessFlags := 26, nameIndex := 17, descriptorIndex := 18, attributes := #[] }, { accessFlags := 26, nameIndex := 27, descriptorIndex := 18, attributes := #[] }, { accessFlags := 26, nameIndex := 24, descriptorIndex := 18, attributes := #[] }, { accessFlags := 26, nameIndex := 111, descriptorIndex := 112, attributes := #[] }, { accessFlags := 26, nameIndex := 115, descriptorIndex := 112, attributes := #[] }, { accessFlags := 25, nameIndex := 121, descriptorIndex := 122, attributes := #[] }])
  fields := #[{ name := "CHAR", type := (.object "com/example/lithe_checker/lithechecker/c/CType$IntegerType"), accessFlags := 25, slot := 0, constantValue := 0 }, { name := "SIGNED_CHAR", type := (.object "com/example/lithe_checker/lithechecker/c/CType$IntegerType"), accessFlags := 25, slot := 1, constantValue := 0 }, { name := "UNSIGNED_CHAR", type := (.object "com/example/lithe_checker/lithechecker/c/CType$IntegerType"), accessFlags := 25, slot := 2, constantValue := 0 }, { name := "SHORT", type := (.object "com/example/lithe_checker/lithechecker/c/CType$IntegerType"), accessFlags := 25, slot := 3, constantValue := 0 }, { name := "UNSIGNED_SHORT", type := (.object "com/example/lithe_checker/lithechecker/c/CType$IntegerType"), accessFlags := 25, slot := 4, constantValue := 0 }, { name := "INT", type := (.object "com/example/lithe_checker/lithechecker/c/CType$IntegerType"), accessFlags := 25, slot := 5, constantValue := 0 }, { name := "UNSIGNED_INT", type := (.object "com/example/lithe_checker/lithechecker/c/CType$IntegerType"), accessFlags := 25, slot := 6, constantValue := 0 }, { name := "LONG_LONG", type := (.object "com/example/lithe_checker/lithechecker/c/CType$IntegerType"), accessFlags := 25, slot := 7, constantValue := 0 }, { name := "UNSIGNED_LONG_LONG", type := (.object "com/example/lithe_checker/lithechecker/c/CType$IntegerType"), accessFlags := 25, slot := 8, constantValue := 0 }, { name := "LONG_32", type := (.object "com/example/lithe_checker/lithechecker/c/CType$IntegerType"), accessFlags := 26, slot := 9, constantValue := 0 }, { name := "LONG_64", type := (.object "com/example/lithe_checker/lithechecker/c/CType$IntegerType"), accessFlags := 26, slot := 10, constantValue := 0 }, { name := "UNSIGNED_LONG_32", type := (.object "com/example/lithe_checker/lithechecker/c/CType$IntegerType"), accessFlags := 26, slot := 11, constantValue := 0 }, { name := "UNSIGNED_LONG_64", type := (.object "com/example/lithe_checker/lithechecker/c/CType$IntegerType"), accessFlags := 26, slot := 12, constantValue := 0 }, { name := "SIGNED", type := (.object "java/util/List"), accessFlags := 26, slot := 13, constantValue := 0 }, { name := "UNSIGNED", type := (.object "java/util/List"), accessFlags := 26, slot := 14, constantValue := 0 }, { name := "VOID", type := (.object "com/example/lithe_checker/lithechecker/c/CType$VoidType"), accessFlags := 25, slot := 15, constantValue := 0 }]
  methods := #[k7m0, k7m1, k7m2, k7m3, k7m4]
  instanceTypes := #[]
  staticTypes := #[(.object "com/example/lithe_checker/lithechecker/c/CType$IntegerType"), (.object "com/example/lithe_checker/lithechecker/c/CType$IntegerType"), (.object "com/example/lithe_checker/lithechecker/c/CType$IntegerType"), (.object "com/example/lithe_checker/lithechecker/c/CType$IntegerType"), (.object "com/example/lithe_checker/lithechecker/c/CType$IntegerType"), (.object "com/example/lithe_checker/lithechecker/c/CType$IntegerType"), (.object "com/example/lithe_checker/lithechecker/c/CType$IntegerType"), (.object "com/example/lithe_checker/lithechecker/c/CType$IntegerType"), (.object "com/example/lithe_checker/lithechecker/c/CType$IntegerType"), (.object "com/example/lithe_checker/lithechecker/c/CType$IntegerType"), (.object "com/example/lithe_checker/lithechecker/c/CType$IntegerType"), (.object "com/example/lithe_checker/lithechecker/c/CType$IntegerType"), (.object "com/example/lithe_checker/lithechecker/c/CType$IntegerType"), (.object "java/util/List"), (.object "java/util/List"), (.object "com/example/lithe_checker/lithechecker/c/CType$VoidType")]
  resolved := Array.replicate 171 none
  statics := some 10 }

def pool8 : Array CpInfo := pool [(2, .class_ 4), (1, u "java/lang/CharSequence"), (42, .class_ 48), (0, u "java/lang/CharSequence$1CodePointIterator"), (10, .class_ 60), (0, u "java/lang/CharSequence$1CharIterator"), (5, .class_ 67), (0, u "java/lang/Object")] 63

/-- java/lang/CharSequence -/
def k8 : Class := { plain "java/lang/CharSequence" (some 0) with
  accessFlags := 1537
  interfaces := #[]
  cf := some (fileOf pool8 2 #[.nestMembers #[47, 59]] #[] 1537 66 #[] #[])
  fields := #[]
  methods := #[]
  instanceTypes := #[]
  staticTypes := #[]
  resolved := Array.replicate 131 none
  statics := none }

def pool9 : Array CpInfo := pool [(1, .class_ 2), (0, u "java/lang/constant/ConstantDesc"), (0, .class_ 4), (0, u "java/lang/Object")] 32

/-- java/lang/constant/ConstantDesc -/
def k9 : Class := { plain "java/lang/constant/ConstantDesc" (some 0) with
  accessFlags := 1537
  interfaces := #[]
  cf := some (fileOf pool9 1 #[] #[] 1537 3 #[] #[])
  fields := #[]
  methods := #[]
  instanceTypes := #[]
  staticTypes := #[]
  resolved := Array.replicate 37 none
  statics := none }

def pool10 : Array CpInfo := pool [(2, .class_ 4), (1, u "java/lang/Object"), (0, u "<init>"), (0, u "()V"), (2, .fieldref 10 11), (0, .class_ 12), (0, .nameAndType 13 14), (0, u "java/lang/String"), (0, u "value"), (0, u "[B"), (0, .fieldref 10 16), (0, .nameAndType 17 18), (0, u "coder"), (0, u "B"), (2, u "hash"), (0, u "I"), (2, u "hashIsZero"), (0, u "Z"), (11, .fieldref 10 39), (0, .nameAndType 40 26), (0, u "COMPACT_STRINGS"), (66, .class_ 109), (1, u "java/lang/StringLatin1"), (32, u "()Z"), (398, .methodref 107 542), (0, .nameAndType 543 544), (0, u "equals"), (0, u "([B[B)Z"), (28, u "(Ljava/lang/Object;)Z"), (1, .class_ 576), (0, u "java/lang/CharSequence"), (22, u "CASE_INSENSITIVE_ORDER"), (0, u "Ljava/util/Comparator;"), (91, u "isEmpty"), (408, u "serialPersistentFields"), (0, u "[Ljava/io/ObjectStreamField;"), (0, .class_ 1104), (0, u "java/lang/String$CaseInsensitiveComparator"), (1, .class_ 1107), (0, u "java/io/Serializable"), (0, .class_ 1109), (0, u "java/lang/Comparable"), (0, .class_ 1111), (0, u "java/lang/constant/Constable"), (0, .class_ 1113), (0, u "java/lang/constant/ConstantDesc"), (2, u "serialVersionUID"), (0, u "J"), (3, u "REPL"), (0, u "C"), (2, u "LATIN1"), (1, u "UTF16")] 323

def k10m0 : Method := { name := "<init>", desc := "()V", sig := { parameters := [], returnType := none }, accessFlags := 1, code := none }
def k10c1 : Code := { maxStack := 1, maxLocals := 1, code := jdk_42_method_55_code, exceptionTable := #[], attributes := #[] }
def k10m1 : Method := { name := "isEmpty", desc := "()Z", sig := { parameters := [], returnType := some .boolean }, accessFlags := 1, code := some k10c1 }
def k10c2 : Code := { maxStack := 2, maxLocals := 3, code := jdk_42_method_66_code, exceptionTable := #[], attributes := #[] }
def k10m2 : Method := { name := "equals", desc := "(Ljava/lang/Object;)Z", sig := { parameters := [(.object "java/lang/Object")], returnType := some .boolean }, accessFlags := 1, code := some k10c2 }
/-- java/lang/String -/
def k10 : Class := { plain "java/lang/String" (some 0) with
  accessFlags := 49
  interfaces := #[4, 3, 8, 2, 9]
  cf := some (fileOf pool10 10 #[.nestMembers #[1103]] #[{ accessFlags := 1, nameIndex := 5, descriptorIndex := 6, attributes := #[] }, { accessFlags := 1, nameIndex := 692, descriptorIndex := 142, attributes := #[] }, { accessFlags := 1, nameIndex := 543, descriptorIndex := 573, attributes := #[] }] 49 2 #[1106, 1108, 575, 1110, 1112] #[{ accessFlags := 18, nameIndex := 13, descriptorIndex := 14, attributes := #[] }, { accessFlags := 18, nameIndex := 17, descriptorIndex := 18, attributes := #[] }, { accessFlags := 2, nameIndex := 21, descriptorIndex := 22, attributes := #[] }, { accessFlags := 2, nameIndex := 25, descriptorIndex := 26, attributes := #[] }, { accessFlags := 26, nameIndex := 1116, descriptorIndex := 1117, attributes := #[] }, { accessFlags := 24, nameIndex := 40, descriptorIndex := 26, attributes := #[] }, { accessFlags := 26, nameIndex := 1101, descriptorIndex := 1102, attributes := #[] }, { accessFlags := 26, nameIndex := 1121, descriptorIndex := 1122, attributes := #[] }, { accessFlags := 25, nameIndex := 599, descriptorIndex := 600, attributes := #[] }, { accessFlags := 24, nameIndex := 1125, descriptorIndex := 18, attributes := #[] }, { accessFlags := 24, nameIndex := 1127, descriptorIndex := 18, attributes := #[] }])
  fields := #[{ name := "value", type := (.array .byte), accessFlags := 18, slot := 0, constantValue := 0 }, { name := "coder", type := .byte, accessFlags := 18, slot := 1, constantValue := 0 }, { name := "hash", type := .int, accessFlags := 2, slot := 2, constantValue := 0 }, { name := "hashIsZero", type := .boolean, accessFlags := 2, slot := 3, constantValue := 0 }, { name := "serialVersionUID", type := .long, accessFlags := 26, slot := 0, constantValue := 0 }, { name := "COMPACT_STRINGS", type := .boolean, accessFlags := 24, slot := 1, constantValue := 0 }, { name := "serialPersistentFields", type := (.array (.object "java/io/ObjectStreamField")), accessFlags := 26, slot := 2, constantValue := 0 }, { name := "REPL", type := .char, accessFlags := 26, slot := 3, constantValue := 0 }, { name := "CASE_INSENSITIVE_ORDER", type := (.object "java/util/Comparator"), accessFlags := 25, slot := 4, constantValue := 0 }, { name := "LATIN1", type := .byte, accessFlags := 24, slot := 5, constantValue := 0 }, { name := "UTF16", type := .byte, accessFlags := 24, slot := 6, constantValue := 0 }]
  methods := #[k10m0, k10m1, k10m2]
  instanceTypes := #[(.array .byte), .byte, .int, .boolean]
  staticTypes := #[.long, .boolean, (.array (.object "java/io/ObjectStreamField")), .char, (.object "java/util/Comparator"), .byte, .byte]
  resolved := Array.replicate 1451 none
  statics := some 0 }

def pool11 : Array CpInfo := pool [(2, .class_ 4), (1, u "com/example/lithe_checker/lithechecker/c/CType"), (2, .fieldref 8 9), (0, .class_ 10), (0, .nameAndType 11 12), (0, u "com/example/lithe_checker/lithechecker/c/CType$IntegerType"), (0, u "name"), (0, u "Ljava/lang/String;"), (0, .fieldref 8 14), (0, .nameAndType 15 16), (0, u "rank"), (0, u "I"), (0, .fieldref 8 18), (0, .nameAndType 19 16), (0, u "bits"), (0, .fieldref 8 21), (0, .nameAndType 22 23), (0, u "signed"), (0, u "Z"), (47, .methodref 2 72), (0, .nameAndType 73 74), (0, u "named"), (0, u "(Ljava/lang/String;Ljava/lang/String;)Ljava/lang/String;"), (3, u "()I"), (0, u "()Z"), (11, u "declaration"), (0, u "(Ljava/lang/String;)Ljava/lang/String;")] 5

def k11c0 : Code := { maxStack := 1, maxLocals := 1, code := prog_8_method_2_code, exceptionTable := #[], attributes := #[] }
def k11m0 : Method := { name := "bits", desc := "()I", sig := { parameters := [], returnType := some .int }, accessFlags := 1, code := some k11c0 }
def k11c1 : Code := { maxStack := 1, maxLocals := 1, code := prog_8_method_3_code, exceptionTable := #[], attributes := #[] }
def k11m1 : Method := { name := "signed", desc := "()Z", sig := { parameters := [], returnType := some .boolean }, accessFlags := 1, code := some k11c1 }
def k11c2 : Code := { maxStack := 1, maxLocals := 1, code := prog_8_method_4_code, exceptionTable := #[], attributes := #[] }
def k11m2 : Method := { name := "rank", desc := "()I", sig := { parameters := [], returnType := some .int }, accessFlags := 0, code := some k11c2 }
def k11c3 : Code := { maxStack := 2, maxLocals := 2, code := prog_8_method_11_code, exceptionTable := #[], attributes := #[] }
def k11m3 : Method := { name := "declaration", desc := "(Ljava/lang/String;)Ljava/lang/String;", sig := { parameters := [(.object "java/lang/String")], returnType := some (.object "java/lang/String") }, accessFlags := 1, code := some k11c3 }
/-- com/example/lithe_checker/lithechecker/c/CType$IntegerType -/
def k11 : Class := { plain "com/example/lithe_checker/lithechecker/c/CType$IntegerType" (some 7) with
  accessFlags := 49
  interfaces := #[]
  cf := some (fileOf pool11 8 #[.nestHost 2] #[{ accessFlags := 1, nameIndex := 19, descriptorIndex := 78, attributes := #[] }, { accessFlags := 1, nameIndex := 22, descriptorIndex := 79, attributes := #[] }, { accessFlags := 0, nameIndex := 15, descriptorIndex := 78, attributes := #[] }, { accessFlags := 1, nameIndex := 91, descriptorIndex := 92, attributes := #[] }] 49 2 #[] #[{ accessFlags := 18, nameIndex := 11, descriptorIndex := 12, attributes := #[] }, { accessFlags := 18, nameIndex := 15, descriptorIndex := 16, attributes := #[] }, { accessFlags := 18, nameIndex := 19, descriptorIndex := 16, attributes := #[] }, { accessFlags := 18, nameIndex := 22, descriptorIndex := 23, attributes := #[] }])
  fields := #[{ name := "name", type := (.object "java/lang/String"), accessFlags := 18, slot := 0, constantValue := 0 }, { name := "rank", type := .int, accessFlags := 18, slot := 1, constantValue := 0 }, { name := "bits", type := .int, accessFlags := 18, slot := 2, constantValue := 0 }, { name := "signed", type := .boolean, accessFlags := 18, slot := 3, constantValue := 0 }]
  methods := #[k11m0, k11m1, k11m2, k11m3]
  instanceTypes := #[(.object "java/lang/String"), .int, .int, .boolean]
  staticTypes := #[]
  resolved := Array.replicate 98 none
  statics := none }

def pool12 : Array CpInfo := pool [(4, .class_ 6), (1, u "java/lang/Object"), (0, u "<init>"), (0, u "()V"), (5, .class_ 16), (1, u "java/lang/StringLatin1"), (104, u "$assertionsDisabled"), (0, u "Z"), (98, .class_ 223), (1, u "java/lang/StringLatin1$LinesSpliterator"), (57, u "equals"), (0, u "([B[B)Z"), (107, .class_ 391), (0, u "java/lang/StringLatin1$CharsSpliterator")] 3

def k12m0 : Method := { name := "<init>", desc := "()V", sig := { parameters := [], returnType := none }, accessFlags := 0, code := none }
def k12c1 : Code := { maxStack := 3, maxLocals := 3, code := jdk_43_method_13_code, exceptionTable := #[], attributes := #[] }
def k12m1 : Method := { name := "equals", desc := "([B[B)Z", sig := { parameters := [(.array .byte), (.array .byte)], returnType := some .boolean }, accessFlags := 9, code := some k12c1 }
/-- java/lang/StringLatin1 -/
def k12 : Class := { plain "java/lang/StringLatin1" (some 0) with
  accessFlags := 48
  interfaces := #[]
  cf := some (fileOf pool12 14 #[.nestMembers #[390, 221]] #[{ accessFlags := 0, nameIndex := 7, descriptorIndex := 8, attributes := #[] }, { accessFlags := 9, nameIndex := 281, descriptorIndex := 282, attributes := #[] }] 48 4 #[] #[{ accessFlags := 4120, nameIndex := 121, descriptorIndex := 122, attributes := #[] }])
  fields := #[{ name := "$assertionsDisabled", type := .boolean, accessFlags := 4120, slot := 0, constantValue := 0 }]
  methods := #[k12m0, k12m1]
  instanceTypes := #[]
  staticTypes := #[.boolean]
  resolved := Array.replicate 395 none
  statics := none }

def pool13 : Array CpInfo := pool [(2, .class_ 4), (1, u "java/lang/Object"), (0, u "<init>"), (0, u "()V"), (17, .class_ 26), (1, u "jdk/internal/util/Preconditions"), (28, .class_ 56), (0, u "jdk/internal/util/Preconditions$4"), (57, .class_ 115), (0, u "jdk/internal/util/Preconditions$1"), (7, u "SIOOBE_FORMATTER"), (0, u "Ljava/util/function/BiFunction;"), (0, .class_ 126), (0, u "jdk/internal/util/Preconditions$2"), (3, u "AIOOBE_FORMATTER"), (0, .class_ 132), (0, u "jdk/internal/util/Preconditions$3"), (3, u "IOOBE_FORMATTER")] 57

def k13m0 : Method := { name := "<init>", desc := "()V", sig := { parameters := [], returnType := none }, accessFlags := 1, code := none }
/-- jdk/internal/util/Preconditions -/
def k13 : Class := { plain "jdk/internal/util/Preconditions" (some 0) with
  accessFlags := 33
  interfaces := #[]
  cf := some (fileOf pool13 24 #[.nestMembers #[55, 131, 125, 114]] #[{ accessFlags := 1, nameIndex := 5, descriptorIndex := 6, attributes := #[] }] 33 2 #[] #[{ accessFlags := 25, nameIndex := 123, descriptorIndex := 124, attributes := #[] }, { accessFlags := 25, nameIndex := 130, descriptorIndex := 124, attributes := #[] }, { accessFlags := 25, nameIndex := 136, descriptorIndex := 124, attributes := #[] }])
  fields := #[{ name := "SIOOBE_FORMATTER", type := (.object "java/util/function/BiFunction"), accessFlags := 25, slot := 0, constantValue := 0 }, { name := "AIOOBE_FORMATTER", type := (.object "java/util/function/BiFunction"), accessFlags := 25, slot := 1, constantValue := 0 }, { name := "IOOBE_FORMATTER", type := (.object "java/util/function/BiFunction"), accessFlags := 25, slot := 2, constantValue := 0 }]
  methods := #[k13m0]
  instanceTypes := #[]
  staticTypes := #[(.object "java/util/function/BiFunction"), (.object "java/util/function/BiFunction"), (.object "java/util/function/BiFunction")]
  resolved := Array.replicate 194 none
  statics := some 1 }

def pool14 : Array CpInfo := pool [(9, u "<init>"), (6, .class_ 18), (1, u "java/lang/Object"), (0, u "()V"), (1, .class_ 23), (1, u "jdk/internal/util/ArraysSupport"), (0, u "LOG2_ARRAY_LONG_INDEX_SCALE"), (0, u "I"), (2, u "U"), (0, u "Ljdk/internal/misc/Unsafe;"), (8, u "BIG_ENDIAN"), (0, u "Z"), (8, u "LOG2_BYTE_BIT_SIZE"), (4, u "LOG2_ARRAY_INT_INDEX_SCALE"), (54, u "JLA"), (0, u "Ljdk/internal/access/JavaLangAccess;"), (11, u "LOG2_ARRAY_BOOLEAN_INDEX_SCALE"), (9, u "LOG2_ARRAY_BYTE_INDEX_SCALE"), (5, u "LOG2_ARRAY_CHAR_INDEX_SCALE"), (5, u "LOG2_ARRAY_SHORT_INDEX_SCALE"), (18, u "LOG2_ARRAY_FLOAT_INDEX_SCALE"), (24, u "LOG2_ARRAY_DOUBLE_INDEX_SCALE"), (89, u "T_BOOLEAN"), (2, u "T_CHAR"), (1, u "T_FLOAT"), (1, u "T_DOUBLE"), (1, u "T_BYTE"), (1, u "T_SHORT"), (1, u "T_INT"), (1, u "T_LONG"), (1, u "SOFT_MAX_ARRAY_LENGTH")] 83

def k14m0 : Method := { name := "<init>", desc := "()V", sig := { parameters := [], returnType := none }, accessFlags := 2, code := none }
/-- jdk/internal/util/ArraysSupport -/
def k14 : Class := { plain "jdk/internal/util/ArraysSupport" (some 0) with
  accessFlags := 33
  interfaces := #[]
  cf := some (fileOf pool14 21 #[] #[{ accessFlags := 2, nameIndex := 9, descriptorIndex := 19, attributes := #[] }] 33 16 #[] #[{ accessFlags := 24, nameIndex := 28, descriptorIndex := 29, attributes := #[] }, { accessFlags := 26, nameIndex := 38, descriptorIndex := 39, attributes := #[] }, { accessFlags := 25, nameIndex := 121, descriptorIndex := 25, attributes := #[] }, { accessFlags := 25, nameIndex := 131, descriptorIndex := 25, attributes := #[] }, { accessFlags := 25, nameIndex := 137, descriptorIndex := 25, attributes := #[] }, { accessFlags := 25, nameIndex := 143, descriptorIndex := 25, attributes := #[] }, { accessFlags := 25, nameIndex := 53, descriptorIndex := 25, attributes := #[] }, { accessFlags := 25, nameIndex := 24, descriptorIndex := 25, attributes := #[] }, { accessFlags := 25, nameIndex := 162, descriptorIndex := 25, attributes := #[] }, { accessFlags := 25, nameIndex := 187, descriptorIndex := 25, attributes := #[] }, { accessFlags := 26, nameIndex := 48, descriptorIndex := 25, attributes := #[] }, { accessFlags := 25, nameIndex := 277, descriptorIndex := 25, attributes := #[] }, { accessFlags := 25, nameIndex := 280, descriptorIndex := 25, attributes := #[] }, { accessFlags := 25, nameIndex := 282, descriptorIndex := 25, attributes := #[] }, { accessFlags := 25, nameIndex := 284, descriptorIndex := 25, attributes := #[] }, { accessFlags := 25, nameIndex := 286, descriptorIndex := 25, attributes := #[] }, { accessFlags := 25, nameIndex := 288, descriptorIndex := 25, attributes := #[] }, { accessFlags := 25, nameIndex := 290, descriptorIndex := 25, attributes := #[] }, { accessFlags := 25, nameIndex := 292, descriptorIndex := 25, attributes := #[] }, { accessFlags := 26, nameIndex := 108, descriptorIndex := 109, attributes := #[] }, { accessFlags := 25, nameIndex := 294, descriptorIndex := 25, attributes := #[] }])
  fields := #[{ name := "U", type := (.object "jdk/internal/misc/Unsafe"), accessFlags := 24, slot := 0, constantValue := 0 }, { name := "BIG_ENDIAN", type := .boolean, accessFlags := 26, slot := 1, constantValue := 0 }, { name := "LOG2_ARRAY_BOOLEAN_INDEX_SCALE", type := .int, accessFlags := 25, slot := 2, constantValue := 0 }, { name := "LOG2_ARRAY_BYTE_INDEX_SCALE", type := .int, accessFlags := 25, slot := 3, constantValue := 0 }, { name := "LOG2_ARRAY_CHAR_INDEX_SCALE", type := .int, accessFlags := 25, slot := 4, constantValue := 0 }, { name := "LOG2_ARRAY_SHORT_INDEX_SCALE", type := .int, accessFlags := 25, slot := 5, constantValue := 0 }, { name := "LOG2_ARRAY_INT_INDEX_SCALE", type := .int, accessFlags := 25, slot := 6, constantValue := 0 }, { name := "LOG2_ARRAY_LONG_INDEX_SCALE", type := .int, accessFlags := 25, slot := 7, constantValue := 0 }, { name := "LOG2_ARRAY_FLOAT_INDEX_SCALE", type := .int, accessFlags := 25, slot := 8, constantValue := 0 }, { name := "LOG2_ARRAY_DOUBLE_INDEX_SCALE", type := .int, accessFlags := 25, slot := 9, constantValue := 0 }, { name := "LOG2_BYTE_BIT_SIZE", type := .int, accessFlags := 26, slot := 10, constantValue := 0 }, { name := "T_BOOLEAN", type := .int, accessFlags := 25, slot := 11, constantValue := 0 }, { name := "T_CHAR", type := .int, accessFlags := 25, slot := 12, constantValue := 0 }, { name := "T_FLOAT", type := .int, accessFlags := 25, slot := 13, constantValue := 0 }, { name := "T_DOUBLE", type := .int, accessFlags := 25, slot := 14, constantValue := 0 }, { name := "T_BYTE", type := .int, accessFlags := 25, slot := 15, constantValue := 0 }, { name := "T_SHORT", type := .int, accessFlags := 25, slot := 16, constantValue := 0 }, { name := "T_INT", type := .int, accessFlags := 25, slot := 17, constantValue := 0 }, { name := "T_LONG", type := .int, accessFlags := 25, slot := 18, constantValue := 0 }, { name := "JLA", type := (.object "jdk/internal/access/JavaLangAccess"), accessFlags := 26, slot := 19, constantValue := 0 }, { name := "SOFT_MAX_ARRAY_LENGTH", type := .int, accessFlags := 25, slot := 20, constantValue := 0 }]
  methods := #[k14m0]
  instanceTypes := #[]
  staticTypes := #[(.object "jdk/internal/misc/Unsafe"), .boolean, .int, .int, .int, .int, .int, .int, .int, .int, .int, .int, .int, .int, .int, .int, .int, .int, .int, (.object "jdk/internal/access/JavaLangAccess"), .int]
  resolved := Array.replicate 378 none
  statics := none }

def pool15 : Array CpInfo := pool [(1, u "java/lang/Cloneable"), (0, .class_ 1), (0, u "java/lang/Object"), (0, .class_ 3)] 3

/-- java/lang/Cloneable -/
def k15 : Class := { plain "java/lang/Cloneable" (some 0) with
  accessFlags := 1537
  interfaces := #[]
  cf := some (fileOf pool15 2 #[] #[] 1537 4 #[] #[])
  fields := #[]
  methods := #[]
  instanceTypes := #[]
  staticTypes := #[]
  resolved := Array.replicate 8 none
  statics := none }

/-- the primitive byte -/
def k16 : Class := { plain "byte" none with kind := .primitive 'B', accessFlags := 0x411 }
/-- [B -/
def k17 : Class := { plain "[B" (some 0) with kind := .array 16 .byte, interfaces := #[15, 4], accessFlags := 1041 }

/-- the primitive int -/
def k18 : Class := { plain "int" none with kind := .primitive 'I', accessFlags := 0x411 }
/-- [I -/
def k19 : Class := { plain "[I" (some 0) with kind := .array 18 .int, interfaces := #[15, 4], accessFlags := 1041 }

def heap : Heap := #[{ cls := 10, slots := #[.long 0, .int 1, .null, .int 0, .null, .int 0, .int 0], vm := .statics 10 },
  { cls := 13, slots := #[.null, .null, .null], vm := .statics 13 },
  { cls := 17, slots := #[.int 108, .int 111, .int 110, .int 103], vm := .none },
  { cls := 10, slots := #[.ref 2, .int 0, .int 0, .int 0], vm := .none },
  { cls := 17, slots := #[.int 117, .int 110, .int 115, .int 105, .int 103, .int 110, .int 101, .int 100, .int 32, .int 108, .int 111, .int 110, .int 103], vm := .none },
  { cls := 10, slots := #[.ref 4, .int 0, .int 0, .int 0], vm := .none },
  { cls := 11, slots := #[.ref 3, .int 4, .int 32, .int 1], vm := .none },
  { cls := 11, slots := #[.ref 5, .int 4, .int 32, .int 0], vm := .none },
  { cls := 11, slots := #[.ref 3, .int 4, .int 64, .int 1], vm := .none },
  { cls := 11, slots := #[.ref 5, .int 4, .int 64, .int 0], vm := .none },
  { cls := 7, slots := #[.null, .null, .null, .null, .null, .null, .null, .null, .null, .ref 6, .ref 8, .ref 7, .ref 9, .null, .null, .null], vm := .statics 7 },
  { cls := 6, slots := #[.null, .int 0, .int 0, .int 32], vm := .none },
  { cls := 6, slots := #[.null, .int 0, .int 0, .int 64], vm := .none },
  { cls := 6, slots := #[.ref 11, .ref 12, .null], vm := .statics 6 }]
def classes : Array Class := #[k0, k1, k2, k3, k4, k5, k6, k7, k8, k9, k10, k11, k12, k13, k14, k15, k16, k17, k18, k19]
def interned : List (Array UInt16 × Addr) := []
def slotsUsed : Nat := 78
def theMethod : MethodId := ⟨1, 1⟩
def args0 : Array Value := #[.int 5, .int 5]
def aboutOver (below : List Frame) : State where
  vm := { classes := classes, interned := interned.toArray }
  heap := heap
  slotsUsed := slotsUsed
  threads := #[{ frames := .invoking theMethod args0 :: below }]
def below0 : List Frame := [.native { method := ⟨0, 0⟩, args := #[] }]
def about1 : State := aboutOver below0
def p0 : Program := .bare "" "" ""
def e0 : Env := launch0.env 0 0 0
theorem w_frames : about1.frames = Frame.invoking theMethod args0 :: below0 := rfl
set_option maxRecDepth 65536 in
theorem w_args : argsFit about1.vm theMethod args0 = true := by decide +kernel
set_option maxRecDepth 65536 in
theorem w_heap : heapFits about1 = true := by decide +kernel
set_option maxRecDepth 65536 in
theorem w_runnable : about1.curStatus? = some .runnable := by decide +kernel
set_option maxRecDepth 65536 in
theorem w_alone : about1.alone = true := by decide +kernel
set_option maxRecDepth 65536 in
theorem w_named : about1.methodNamed? x = some theMethod := by decide +kernel
set_option maxRecDepth 65536 in
theorem w_hears : about1.hears theMethod below0 = true := by decide +kernel
set_option maxRecDepth 65536 in
theorem w_ripe : about1.ripe theMethod args0 below0 = true := by decide +kernel
theorem w_running : about1.status = .running := rfl
set_option maxRecDepth 65536 in
theorem w_room : about1.hasRoom e0.platform room_1 = true :=
  launch0.hasRoom_least _ room_1 (by decide +kernel) (by decide +kernel) (by decide +kernel) (by decide +kernel) (by decide +kernel) (by decide +kernel)
theorem allAtoms_all (ts : List Jvm.Cond) (a : Array Jvm.Value) (st : Jvm.State) : (allAtoms ts).before a st = ts.all (fun c => c.before a st) := by
  induction ts with
  | nil => rfl
  | cons c t ih =>
    show (Jvm.Cond.and c (allAtoms t)).before a st = _
    rw [Jvm.Cond.before_and, ih, List.all_cons]
def words1 : List Jvm.Cond := Jvm.Cond.code x code maxLocals ret :: tables_1
/-- a 'code' word, met by the world's own term for the bytes: nothing is compared byte by byte -/
theorem code_word {y : MethodName} {bytes : ByteArray} {mx : Nat} {rt : Option FieldType} {a : Array Value} {s : State} {m : MethodId} {meth : Method} {c : Code} (h1 : s.methodNamed? y = some m) (h2 : s.vm.method? m = some meth) (h3 : meth.code = some c) (h4 : c.code = bytes)
    (h5 : (c.maxLocals == mx && c.exceptionTable.isEmpty && decide (c.maxStack ≤ mostOperands) && decide (meth.sig.returnType = rt) && !meth.locks && decide (parseMethodDescriptor y.desc = some meth.sig)) = true) : (Jvm.Cond.code y bytes mx rt).before a s = true := by
  simp only [Bool.and_eq_true, beq_iff_eq, Bool.not_eq_true', decide_eq_true_eq] at h5
  obtain ⟨⟨⟨⟨⟨g1, g2⟩, g3⟩, g4⟩, g5⟩, g6⟩ := h5
  simp [Cond.before, Cond.holds, Cond.value, h1, h2, h3, h4, g1, g2, g3, g4, g5, g6]
def isCode : Jvm.Cond → Bool
  | .code _ _ _ _ => true
  | _ => false
theorem all_split {L : List Jvm.Cond} {P : Jvm.Cond → Bool} (h1 : L.all (fun c => isCode c || P c) = true) (h2 : ∀ c ∈ L.filter isCode, P c = true) : L.all P = true := by
  refine List.all_eq_true.mpr fun c hc => ?_
  have h := List.all_eq_true.mp h1 c hc
  rcases Bool.eq_false_or_eq_true (isCode c) with hi | hi
  · exact h2 c (List.mem_filter.mpr ⟨hc, hi⟩)
  · simpa [hi] using h
set_option maxRecDepth 65536 in
theorem w_c0 : (Jvm.Cond.code x code maxLocals ret).before args0 about1 = true := code_word (m := ⟨1, 1⟩) (meth := k1m1) (c := k1c1) (by decide +kernel) rfl rfl rfl (by decide +kernel)
set_option maxRecDepth 65536 in
theorem w_c1 : (Jvm.Cond.code ({ cls := "com/example/lithe_checker/lithechecker/c/CType", name := "longType", desc := "(Lcom/example/lithe_checker/lithechecker/task/DataModel;Z)Lcom/example/lithe_checker/lithechecker/c/CType$IntegerType;" } : Jvm.MethodName) prog_5_method_2_code (3 : Nat) (Option.some (Jvm.ClassFile.FieldType.object "com/example/lithe_checker/lithechecker/c/CType$IntegerType"))).before args0 about1 = true := code_word (m := ⟨7, 1⟩) (meth := k7m1) (c := k7c1) (by decide +kernel) rfl rfl rfl (by decide +kernel)
set_option maxRecDepth 65536 in
theorem w_c2 : (Jvm.Cond.code ({ cls := "com/example/lithe_checker/lithechecker/task/DataModel", name := "longBits", desc := "()I" } : Jvm.MethodName) prog_107_method_4_code (1 : Nat) (Option.some Jvm.ClassFile.FieldType.int)).before args0 about1 = true := code_word (m := ⟨6, 0⟩) (meth := k6m0) (c := k6c0) (by decide +kernel) rfl rfl rfl (by decide +kernel)
set_option maxRecDepth 65536 in
theorem w_c3 : (Jvm.Cond.code ({ cls := "com/example/lithe_checker/lithechecker/c/CType$IntegerType", name := "bits", desc := "()I" } : Jvm.MethodName) prog_8_method_2_code (1 : Nat) (Option.some Jvm.ClassFile.FieldType.int)).before args0 about1 = true := code_word (m := ⟨11, 0⟩) (meth := k11m0) (c := k11c0) (by decide +kernel) rfl rfl rfl (by decide +kernel)
set_option maxRecDepth 65536 in
theorem w_c4 : (Jvm.Cond.code ({ cls := "com/example/lithe_checker/lithechecker/c/CType$IntegerType", name := "signed", desc := "()Z" } : Jvm.MethodName) prog_8_method_3_code (1 : Nat) (Option.some Jvm.ClassFile.FieldType.boolean)).before args0 about1 = true := code_word (m := ⟨11, 1⟩) (meth := k11m1) (c := k11c1) (by decide +kernel) rfl rfl rfl (by decide +kernel)
set_option maxRecDepth 65536 in
theorem w_c5 : (Jvm.Cond.code ({ cls := "com/example/lithe_checker/lithechecker/c/CType$IntegerType", name := "rank", desc := "()I" } : Jvm.MethodName) prog_8_method_4_code (1 : Nat) (Option.some Jvm.ClassFile.FieldType.int)).before args0 about1 = true := code_word (m := ⟨11, 2⟩) (meth := k11m2) (c := k11c2) (by decide +kernel) rfl rfl rfl (by decide +kernel)
set_option maxRecDepth 65536 in
theorem w_c6 : (Jvm.Cond.code ({ cls := "com/example/lithe_checker/lithechecker/c/CType", name := "toString", desc := "()Ljava/lang/String;" } : Jvm.MethodName) prog_5_method_6_code (1 : Nat) (Option.some (Jvm.ClassFile.FieldType.object "java/lang/String"))).before args0 about1 = true := code_word (m := ⟨7, 3⟩) (meth := k7m3) (c := k7c3) (by decide +kernel) rfl rfl rfl (by decide +kernel)
set_option maxRecDepth 65536 in
theorem w_c7 : (Jvm.Cond.code ({ cls := "com/example/lithe_checker/lithechecker/c/CType$IntegerType", name := "declaration", desc := "(Ljava/lang/String;)Ljava/lang/String;" } : Jvm.MethodName) prog_8_method_11_code (2 : Nat) (Option.some (Jvm.ClassFile.FieldType.object "java/lang/String"))).before args0 about1 = true := code_word (m := ⟨11, 3⟩) (meth := k11m3) (c := k11c3) (by decide +kernel) rfl rfl rfl (by decide +kernel)
set_option maxRecDepth 65536 in
theorem w_c8 : (Jvm.Cond.code ({ cls := "com/example/lithe_checker/lithechecker/c/CType", name := "named", desc := "(Ljava/lang/String;Ljava/lang/String;)Ljava/lang/String;" } : Jvm.MethodName) prog_5_method_7_code (2 : Nat) (Option.some (Jvm.ClassFile.FieldType.object "java/lang/String"))).before args0 about1 = true := code_word (m := ⟨7, 4⟩) (meth := k7m4) (c := k7c4) (by decide +kernel) rfl rfl rfl (by decide +kernel)
set_option maxRecDepth 65536 in
theorem w_c9 : (Jvm.Cond.code ({ cls := "java/lang/String", name := "isEmpty", desc := "()Z" } : Jvm.MethodName) jdk_42_method_55_code (1 : Nat) (Option.some Jvm.ClassFile.FieldType.boolean)).before args0 about1 = true := code_word (m := ⟨10, 1⟩) (meth := k10m1) (c := k10c1) (by decide +kernel) rfl rfl rfl (by decide +kernel)
set_option maxRecDepth 65536 in
theorem w_c10 : (Jvm.Cond.code ({ cls := "java/lang/String", name := "equals", desc := "(Ljava/lang/Object;)Z" } : Jvm.MethodName) jdk_42_method_66_code (3 : Nat) (Option.some Jvm.ClassFile.FieldType.boolean)).before args0 about1 = true := code_word (m := ⟨10, 2⟩) (meth := k10m2) (c := k10c2) (by decide +kernel) rfl rfl rfl (by decide +kernel)
set_option maxRecDepth 65536 in
theorem w_c11 : (Jvm.Cond.code ({ cls := "java/lang/StringLatin1", name := "equals", desc := "([B[B)Z" } : Jvm.MethodName) jdk_43_method_13_code (3 : Nat) (Option.some Jvm.ClassFile.FieldType.boolean)).before args0 about1 = true := code_word (m := ⟨12, 1⟩) (meth := k12m1) (c := k12c1) (by decide +kernel) rfl rfl rfl (by decide +kernel)
def codes1 : List Jvm.Cond := [Jvm.Cond.code x code maxLocals ret, Jvm.Cond.code ({ cls := "com/example/lithe_checker/lithechecker/c/CType", name := "longType", desc := "(Lcom/example/lithe_checker/lithechecker/task/DataModel;Z)Lcom/example/lithe_checker/lithechecker/c/CType$IntegerType;" } : Jvm.MethodName) prog_5_method_2_code (3 : Nat) (Option.some (Jvm.ClassFile.FieldType.object "com/example/lithe_checker/lithechecker/c/CType$IntegerType")), Jvm.Cond.code ({ cls := "com/example/lithe_checker/lithechecker/task/DataModel", name := "longBits", desc := "()I" } : Jvm.MethodName) prog_107_method_4_code (1 : Nat) (Option.some Jvm.ClassFile.FieldType.int), Jvm.Cond.code ({ cls := "com/example/lithe_checker/lithechecker/c/CType$IntegerType", name := "bits", desc := "()I" } : Jvm.MethodName) prog_8_method_2_code (1 : Nat) (Option.some Jvm.ClassFile.FieldType.int), Jvm.Cond.code ({ cls := "com/example/lithe_checker/lithechecker/c/CType$IntegerType", name := "signed", desc := "()Z" } : Jvm.MethodName) prog_8_method_3_code (1 : Nat) (Option.some Jvm.ClassFile.FieldType.boolean), Jvm.Cond.code ({ cls := "com/example/lithe_checker/lithechecker/c/CType$IntegerType", name := "rank", desc := "()I" } : Jvm.MethodName) prog_8_method_4_code (1 : Nat) (Option.some Jvm.ClassFile.FieldType.int), Jvm.Cond.code ({ cls := "com/example/lithe_checker/lithechecker/c/CType", name := "toString", desc := "()Ljava/lang/String;" } : Jvm.MethodName) prog_5_method_6_code (1 : Nat) (Option.some (Jvm.ClassFile.FieldType.object "java/lang/String")), Jvm.Cond.code ({ cls := "com/example/lithe_checker/lithechecker/c/CType$IntegerType", name := "declaration", desc := "(Ljava/lang/String;)Ljava/lang/String;" } : Jvm.MethodName) prog_8_method_11_code (2 : Nat) (Option.some (Jvm.ClassFile.FieldType.object "java/lang/String")), Jvm.Cond.code ({ cls := "com/example/lithe_checker/lithechecker/c/CType", name := "named", desc := "(Ljava/lang/String;Ljava/lang/String;)Ljava/lang/String;" } : Jvm.MethodName) prog_5_method_7_code (2 : Nat) (Option.some (Jvm.ClassFile.FieldType.object "java/lang/String")), Jvm.Cond.code ({ cls := "java/lang/String", name := "isEmpty", desc := "()Z" } : Jvm.MethodName) jdk_42_method_55_code (1 : Nat) (Option.some Jvm.ClassFile.FieldType.boolean), Jvm.Cond.code ({ cls := "java/lang/String", name := "equals", desc := "(Ljava/lang/Object;)Z" } : Jvm.MethodName) jdk_42_method_66_code (3 : Nat) (Option.some Jvm.ClassFile.FieldType.boolean), Jvm.Cond.code ({ cls := "java/lang/StringLatin1", name := "equals", desc := "([B[B)Z" } : Jvm.MethodName) jdk_43_method_13_code (3 : Nat) (Option.some Jvm.ClassFile.FieldType.boolean)]
set_option maxRecDepth 65536 in
theorem codes_eq : words1.filter isCode = codes1 := rfl
theorem w_codes : ∀ c ∈ words1.filter isCode, c.before args0 about1 = true := by
  rw [codes_eq]
  intro c hc
  simp only [codes1, List.mem_cons, List.not_mem_nil, or_false] at hc
  rcases hc with rfl | rfl | rfl | rfl | rfl | rfl | rfl | rfl | rfl | rfl | rfl | rfl
  · exact w_c0
  · exact w_c1
  · exact w_c2
  · exact w_c3
  · exact w_c4
  · exact w_c5
  · exact w_c6
  · exact w_c7
  · exact w_c8
  · exact w_c9
  · exact w_c10
  · exact w_c11
set_option maxRecDepth 65536 in
theorem w_t1 : (words1.take 24).all (fun c => isCode c || c.before args0 about1) = true := by decide +kernel
set_option maxRecDepth 65536 in
theorem w_t2 : ((words1.drop 24).take 24).all (fun c => isCode c || c.before args0 about1) = true := by decide +kernel
set_option maxRecDepth 65536 in
theorem w_t3 : (((words1.drop 24).drop 24).take 24).all (fun c => isCode c || c.before args0 about1) = true := by decide +kernel
set_option maxRecDepth 65536 in
theorem w_t4 : (((words1.drop 24).drop 24).drop 24).all (fun c => isCode c || c.before args0 about1) = true := by decide +kernel
theorem w_tables : (allAtoms (Jvm.Cond.code x code maxLocals ret :: tables_1)).before args0 about1 = true := by
  rw [allAtoms_all]
  show words1.all (fun c => c.before args0 about1) = true
  refine all_split ?_ w_codes
  rw [← List.take_append_drop 24 words1, List.all_append, w_t1, ← List.take_append_drop 24 (words1.drop 24), List.all_append, w_t2, ← List.take_append_drop 24 ((words1.drop 24).drop 24), List.all_append, w_t3, w_t4]
  rfl
set_option maxRecDepth 65536 in
theorem w_rest : rest_1_c.before args0 about1 = true := by decide +kernel
set_option maxRecDepth 65536 in
theorem w_case : (Jvm.Cond.and given_1 narrow_1).before args0 about1 = true := by decide +kernel
set_option maxRecDepth 65536 in
theorem w_consts : constsHeld consts_1 about1 := Jvm.Lit.constsHeldB_iff.mp (by decide +kernel)
theorem w_applies : (headSpec (Jvm.Cond.code x code maxLocals ret :: tables_1) room_1).applies x e0.platform about1 = true :=
  (Spec.applies_iff w_frames).mpr ⟨w_running, w_runnable, w_alone, w_named, w_hears, w_ripe, w_room, w_tables⟩
theorem atStart : AtStart classFile x code maxLocals ret World_1 tables_1 room_1 Calls_1 rest_1 Pre_1 launch0 p0 e0 about1 theMethod args0 below0 :=
  ⟨lists_1, trivial, launch0.admits_env _ _ _, launch0.least_env, fairChoices_fair.cas, fairChoices_fair.clock, w_frames, w_args, w_heap, w_applies, ⟨w_consts, trivial⟩, w_rest, w_case⟩
end start1
theorem witness_1 : WitnessClaimed_1 := ⟨start1.p0, start1.e0, start1.about1, start1.theMethod, start1.args0, start1.below0, start1.atStart⟩
end Jvm.Pilot.@@N@@
