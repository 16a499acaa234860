import JvmDerived
import JvmDerived.Pilot.@@N@@Statement
import JvmDerived.Pilot.@@N@@Code
set_option linter.unusedVariables false
set_option linter.unusedSimpArgs false
namespace Jvm.Pilot.@@N@@
open Jvm Jvm.ClassFile Sem Op Lib Jvm.Free Jvm.Stand Jvm.LawKit Jvm.RoadKit Bundle Jvm.Pilot.@@N@@.Jvm.D
section Own
variable {p : Program} {l : Launch} {e : Env} {R : Room} {s : State} {m : MethodId} {args : Array Value} {below : List Frame} {meth : Method} {c : Code} {T T' : State} {locs : List Loc} {cells slots : Nat}
/-- from T with the frame f on top the method comes to its end; what it returns, the heap and the places written answer Q; at most C cells and N slots are new -/
def own_Fin (p : Program) (e : Env) (below : List Frame) (s : State) (C N : Nat) (Q : Option Value → Heap → List Loc → Prop) (T : State) (f : JFrame) : Prop :=
  ∃ s₂ o, Steps p.tables e below (T.setTop f) s₂ ∧ s₂.status = .running ∧ Ended s₂ below o ∧ ∃ v L, o = .returned v ∧ Q v s₂.heap L ∧ FrameEnd s o s₂ L C N
variable {C N : Nat} {Q : Option Value → Heap → List Loc → Prop} {f f' : JFrame}
theorem own_by (h : ∀ t, Steps p.tables e below (T'.setTop f') t → Steps p.tables e below (T.setTop f) t) (k : own_Fin p e below s C N Q T' f') : own_Fin p e below s C N Q T f := by
  obtain ⟨s2, o, h1, h2⟩ := k
  exact ⟨s2, o, h _ h1, h2⟩
theorem own_start (q : f = f') (k : own_Fin p e below s C N Q T f') : ∃ s₂ o, Steps p.tables e below (T.setTop f) s₂ ∧ s₂.status = .running ∧ Ended s₂ below o ∧ ∃ v L, o = .returned v ∧ Q v s₂.heap L ∧ FrameEnd s o s₂ L C N := by
  subst q; exact k
theorem own_leaf (X : Stand p l e R s m args below meth c T locs cells slots) (hlk : meth.locks = false) {v : Option Value} (hv : meth.sig.returnType = none → v = none)
    (hs : ∀ fs, (∀ (f : JFrame) (acts : List Action), f.method = m → f.locked = none → f.entered = [] → (doReturn e (T.setTop f) acts v).1 = T.setFrames fs) → Steps p.tables e below (T.setTop f) (T.setFrames fs))
    (hQ : Q v T.heap locs) (hc : cells ≤ C) (hn : slots ≤ N) : own_Fin p e below s C N Q T f := by
  obtain ⟨fs, hr, hrun, hended, hW, hsame⟩ := X.leave (v := v) hv hlk
  exact ⟨_, _, hs fs hr, hrun, hended, _, _, rfl, hQ, ⟨_, rfl⟩, hW, hsame.mono hc hn⟩
theorem own_retV (X : Stand p l e R s m args below meth c T locs cells slots) (hx : p.tables.exec = Jvm.exec) (hlk : meth.locks = false) {pc : Nat} {Ls : Array Slot} (hret : meth.sig.returnType = none) (hd : decode c.code pc = .ok (.return_, 1))
    (hQ : Q none T.heap locs) (hc : cells ≤ C) (hn : slots ≤ N) : own_Fin p e below s C N Q T (mkF m pc Ls []) :=
  own_leaf X hlk (fun _ => rfl) (fun fs hr => X.returnOut hx hret hd hr) hQ hc hn
theorem own_retZ (X : Stand p l e R s m args below meth c T locs cells slots) (hx : p.tables.exec = Jvm.exec) (hlk : meth.locks = false) {pc : Nat} {Ls : Array Slot} {z : Int32} {t : FieldType} {rest : List Value} (hret : meth.sig.returnType = some t) (ht : t = .boolean ∨ t = .byte ∨ t = .char ∨ t = .short) (hd : decode c.code pc = .ok (.ireturn, 1))
    (hQ : Q (some (.int (nar t z))) T.heap locs) (hc : cells ≤ C) (hn : slots ≤ N) : own_Fin p e below s C N Q T (mkF m pc Ls (.int z :: rest)) :=
  own_leaf X hlk (fun h => by rw [hret] at h; cases h) (fun fs hr => retN X hx hret ht hd hr) hQ hc hn
theorem own_retO (X : Stand p l e R s m args below meth c T locs cells slots) (hx : p.tables.exec = Jvm.exec) (hlk : meth.locks = false) {pc : Nat} {Ls : Array Slot} {w : Value} {t : FieldType} {i : Instr} {rest : List Value} (hret : meth.sig.returnType = some t) (hn' : narrow t w = w)
    (hi : (i = .ireturn ∧ (t = .int ∨ t = .boolean ∨ t = .byte ∨ t = .char ∨ t = .short) ∧ ∃ z, w = .int z) ∨ (i = .lreturn ∧ t = .long ∧ ∃ z, w = .long z) ∨ (i = .dreturn ∧ t = .double ∧ ∃ z, w = .double z) ∨ (i = .freturn ∧ t = .float ∧ ∃ z, w = .float z) ∨ (i = .areturn ∧ t.isReference = true ∧ w.isRef = true))
    (hd : decode c.code pc = .ok (i, 1)) (hQ : Q (some w) T.heap locs) (hc : cells ≤ C) (hn : slots ≤ N) : own_Fin p e below s C N Q T (mkF m pc Ls (w :: rest)) :=
  own_leaf X hlk (fun h => by rw [hret] at h; cases h) (fun fs hr => retOut X hx hret hn' hi hd hr) hQ hc hn
theorem own_retI (X : Stand p l e R s m args below meth c T locs cells slots) (hx : p.tables.exec = Jvm.exec) (hlk : meth.locks = false) {pc : Nat} {Ls : Array Slot} {z : Int32} {rest : List Value} (hret : meth.sig.returnType = some .int) (hd : decode c.code pc = .ok (.ireturn, 1))
    (hQ : Q (some (.int z)) T.heap locs) (hc : cells ≤ C) (hn : slots ≤ N) : own_Fin p e below s C N Q T (mkF m pc Ls (.int z :: rest)) :=
  own_retO X hx hlk hret rfl (Or.inl ⟨rfl, Or.inl rfl, _, rfl⟩) hd hQ hc hn
theorem own_retJ (X : Stand p l e R s m args below meth c T locs cells slots) (hx : p.tables.exec = Jvm.exec) (hlk : meth.locks = false) {pc : Nat} {Ls : Array Slot} {z : Int64} {rest : List Value} (hret : meth.sig.returnType = some .long) (hd : decode c.code pc = .ok (.lreturn, 1))
    (hQ : Q (some (.long z)) T.heap locs) (hc : cells ≤ C) (hn : slots ≤ N) : own_Fin p e below s C N Q T (mkF m pc Ls (.long z :: rest)) :=
  own_retO X hx hlk hret rfl (Or.inr (Or.inl ⟨rfl, rfl, _, rfl⟩)) hd hQ hc hn
theorem own_retA (X : Stand p l e R s m args below meth c T locs cells slots) (hx : p.tables.exec = Jvm.exec) (hlk : meth.locks = false) {pc : Nat} {Ls : Array Slot} {w : Value} {t : FieldType} {rest : List Value} (hret : meth.sig.returnType = some t) (hr : t.isReference = true) (hn' : narrow t w = w) (hw : w.isRef = true) (hd : decode c.code pc = .ok (.areturn, 1))
    (hQ : Q (some w) T.heap locs) (hc : cells ≤ C) (hn : slots ≤ N) : own_Fin p e below s C N Q T (mkF m pc Ls (w :: rest)) :=
  own_retO X hx hlk hret hn' (Or.inr (Or.inr (Or.inr (Or.inr ⟨rfl, hr, hw⟩)))) hd hQ hc hn
theorem own_mvM {Z : State} {a0 : Array Value} {own host : String} {y : MethodName} {index : Nat} (hZ : Z.Warmed39 s.vm) (w : (Jvm.Cond.methodLinkNest own index y host).before a0 Z = true) : (Jvm.Cond.methodLinkNest own index y host).before args s = true := (Jvm.Cond.methodLinkNest_wide hZ w :)
/-- a room by its four numbers -/
abbrev own_R (f c s l : Nat) : Room := { frames := f, cells := c, slots := s, locals := l }
/-- the contract's form: called with A at a heap h0 it returns, and Q holds of what it returns, the heap and the places written -/
abbrev own_Met (l : Launch) (Z : State) (y : MethodName) (code : ByteArray) (ml : Nat) (ret : Option FieldType) (ws : List Jvm.Cond) (R : Room) (A : Array Value) (h0 : Heap) (Q : Option Value → Heap → List Loc → Prop) : Prop :=
  MetFree l y (head1 (Jvm.Cond.code y code ml ret :: ws) R) (fun a U => a = A ∧ Z.Warmed39 U.vm ∧ U.heap = h0) (fun _ _ _ _ _ => True) (fun _ U o U' => ∃ v L, o = .returned v ∧ Q v U'.heap L ∧ FrameEnd U o U' L R.cells R.slots)
theorem own_enter {Z : State} {y : MethodName} {code : ByteArray} {ml : Nat} {ret : Option FieldType} {ws : List Jvm.Cond} {A : Array Value} {h0 : Heap} {f0 : MethodId → JFrame} (n0 : Nat) (hpn : plainName y.cls = true) (hef : ∀ m, entryFrame m A ml = f0 m)
    (H : ∀ (p : Program) (e : Env) (s : State) (m : MethodId) (below : List Frame) (meth : Method) (c : Code) (s₁ : State), p.tables.exec = Jvm.exec → c.code = code → meth.locks = false → c.maxLocals = ml → meth.sig.returnType = ret → s.vm.findClass y.cls = some m.cls → meth.name = y.name →
      Z.Warmed39 s.vm → Stand p l e R s m A below meth c s₁ [] 0 0 → s₁.heap = h0 → Fr n0 [] → own_Fin p e below s R.cells R.slots Q s₁ (f0 m)) : own_Met l Z y code ml ret ws R A h0 Q := by
  refine MetFree.of_bodySF (plainFor_of_name hpn) hisR ?_
  intro p e s m args below meth c s₁ Bd hml hP _
  obtain ⟨rfl, hZ, hh⟩ := hP
  have q := H p e s m below meth c s₁ Bd.exec Bd.bytes Bd.notSynchronized hml Bd.returns (findClass_of_methodNamed Bd.named) (name_of_methodNamed Bd.named Bd.method).1 hZ (Stand.of_body Bd) (by rw [← hh, Bd.state]; rfl) (Fr.nil n0)
  rw [hef m]
  exact q
end Own
section OwnW
variable {p : Program} {l : Launch} {e : Env} {R : Room} {s : State} {vm0 : Vm} {k0 : Nat} {m : MethodId} {args : Array Value} {below : List Frame} {meth : Method} {c : Code} {T T' : State} {locs : List Loc} {cells slots : Nat}
/-- as own_Fin, the end said by the wide word: String constants may have been interned meanwhile -/
def own_FinW (p : Program) (e : Env) (below : List Frame) (s : State) (C N : Nat) (Q : Option Value → Heap → List Loc → Prop) (T : State) (f : JFrame) : Prop :=
  ∃ s₂ o, Steps p.tables e below (T.setTop f) s₂ ∧ s₂.status = .running ∧ Ended s₂ below o ∧ ∃ v L, o = .returned v ∧ Q v s₂.heap L ∧ ReturnedEndW s o s₂ L C N
variable {C N : Nat} {Q : Option Value → Heap → List Loc → Prop} {f f' : JFrame}
theorem own_byW (h : ∀ t, Steps p.tables e below (T'.setTop f') t → Steps p.tables e below (T.setTop f) t) (k : own_FinW p e below s C N Q T' f') : own_FinW p e below s C N Q T f := by
  obtain ⟨s2, o, h1, h2⟩ := k
  exact ⟨s2, o, h _ h1, h2⟩
theorem own_startW (q : f = f') (k : own_FinW p e below s C N Q T f') : ∃ s₂ o, Steps p.tables e below (T.setTop f) s₂ ∧ s₂.status = .running ∧ Ended s₂ below o ∧ ∃ v L, o = .returned v ∧ Q v s₂.heap L ∧ ReturnedEndW s o s₂ L C N := by
  subst q; exact k
theorem own_endW {t : State} {o : Outcome} {L : List Loc} (h : ReturnedEndW s o t L cells slots) (hc : cells ≤ C) (hn : slots ≤ N) : ReturnedEndW s o t L C N :=
  ⟨h.1, h.2.1, h.2.2.1, h.2.2.2.mono hc hn⟩
theorem own_leafW (X : Stand p l e R (s.setVm vm0) m args below meth c T locs cells slots) (hS : s.Since vm0 k0) (hk : k0 ≤ T.heap.size) (hlk : meth.locks = false) {v : Option Value} (hv : meth.sig.returnType = none → v = none)
    (hs : ∀ fs, (∀ (f : JFrame) (acts : List Action), f.method = m → f.locked = none → f.entered = [] → (doReturn e (T.setTop f) acts v).1 = T.setFrames fs) → Steps p.tables e below (T.setTop f) (T.setFrames fs))
    (hQ : Q v T.heap locs) (hc : cells ≤ C) (hn : slots ≤ N) : own_FinW p e below s C N Q T f := by
  obtain ⟨fs, hr, hrun, hended, hE⟩ := X.leaveW hS hk (v := v) hv hlk
  exact ⟨_, _, hs fs hr, hrun, hended, _, _, rfl, hQ, own_endW hE hc hn⟩
theorem own_retVW (X : Stand p l e R (s.setVm vm0) m args below meth c T locs cells slots) (hS : s.Since vm0 k0) (hk : k0 ≤ T.heap.size) (hx : p.tables.exec = Jvm.exec) (hlk : meth.locks = false) {pc : Nat} {Ls : Array Slot} (hret : meth.sig.returnType = none) (hd : decode c.code pc = .ok (.return_, 1))
    (hQ : Q none T.heap locs) (hc : cells ≤ C) (hn : slots ≤ N) : own_FinW p e below s C N Q T (mkF m pc Ls []) :=
  own_leafW X hS hk hlk (fun _ => rfl) (fun fs hr => X.returnOut hx hret hd hr) hQ hc hn
theorem own_retZW (X : Stand p l e R (s.setVm vm0) m args below meth c T locs cells slots) (hS : s.Since vm0 k0) (hk : k0 ≤ T.heap.size) (hx : p.tables.exec = Jvm.exec) (hlk : meth.locks = false) {pc : Nat} {Ls : Array Slot} {z : Int32} {t : FieldType} {rest : List Value} (hret : meth.sig.returnType = some t) (ht : t = .boolean ∨ t = .byte ∨ t = .char ∨ t = .short) (hd : decode c.code pc = .ok (.ireturn, 1))
    (hQ : Q (some (.int (nar t z))) T.heap locs) (hc : cells ≤ C) (hn : slots ≤ N) : own_FinW p e below s C N Q T (mkF m pc Ls (.int z :: rest)) :=
  own_leafW X hS hk hlk (fun h => by rw [hret] at h; cases h) (fun fs hr => retN X hx hret ht hd hr) hQ hc hn
theorem own_retOW (X : Stand p l e R (s.setVm vm0) m args below meth c T locs cells slots) (hS : s.Since vm0 k0) (hk : k0 ≤ T.heap.size) (hx : p.tables.exec = Jvm.exec) (hlk : meth.locks = false) {pc : Nat} {Ls : Array Slot} {w : Value} {t : FieldType} {i : Instr} {rest : List Value} (hret : meth.sig.returnType = some t) (hn' : narrow t w = w)
    (hi : (i = .ireturn ∧ (t = .int ∨ t = .boolean ∨ t = .byte ∨ t = .char ∨ t = .short) ∧ ∃ z, w = .int z) ∨ (i = .lreturn ∧ t = .long ∧ ∃ z, w = .long z) ∨ (i = .dreturn ∧ t = .double ∧ ∃ z, w = .double z) ∨ (i = .freturn ∧ t = .float ∧ ∃ z, w = .float z) ∨ (i = .areturn ∧ t.isReference = true ∧ w.isRef = true))
    (hd : decode c.code pc = .ok (i, 1)) (hQ : Q (some w) T.heap locs) (hc : cells ≤ C) (hn : slots ≤ N) : own_FinW p e below s C N Q T (mkF m pc Ls (w :: rest)) :=
  own_leafW X hS hk hlk (fun h => by rw [hret] at h; cases h) (fun fs hr => retOut X hx hret hn' hi hd hr) hQ hc hn
theorem own_retIW (X : Stand p l e R (s.setVm vm0) m args below meth c T locs cells slots) (hS : s.Since vm0 k0) (hk : k0 ≤ T.heap.size) (hx : p.tables.exec = Jvm.exec) (hlk : meth.locks = false) {pc : Nat} {Ls : Array Slot} {z : Int32} {rest : List Value} (hret : meth.sig.returnType = some .int) (hd : decode c.code pc = .ok (.ireturn, 1))
    (hQ : Q (some (.int z)) T.heap locs) (hc : cells ≤ C) (hn : slots ≤ N) : own_FinW p e below s C N Q T (mkF m pc Ls (.int z :: rest)) :=
  own_retOW X hS hk hx hlk hret rfl (Or.inl ⟨rfl, Or.inl rfl, _, rfl⟩) hd hQ hc hn
theorem own_retAW (X : Stand p l e R (s.setVm vm0) m args below meth c T locs cells slots) (hS : s.Since vm0 k0) (hk : k0 ≤ T.heap.size) (hx : p.tables.exec = Jvm.exec) (hlk : meth.locks = false) {pc : Nat} {Ls : Array Slot} {w : Value} {t : FieldType} {rest : List Value} (hret : meth.sig.returnType = some t) (hr : t.isReference = true) (hn' : narrow t w = w) (hw : w.isRef = true) (hd : decode c.code pc = .ok (.areturn, 1))
    (hQ : Q (some w) T.heap locs) (hc : cells ≤ C) (hn : slots ≤ N) : own_FinW p e below s C N Q T (mkF m pc Ls (w :: rest)) :=
  own_retOW X hS hk hx hlk hret hn' (Or.inr (Or.inr (Or.inr (Or.inr ⟨rfl, hr, hw⟩)))) hd hQ hc hn
end OwnW
section OwnH
variable {p : Program} {l : Launch} {e : Env} {R : Room} {s Z : State} {EL : List (String × Nat)} {h0 : Heap} {vm0 : Vm} {k0 : Nat} {m : MethodId} {args : Array Value} {below : List Frame} {meth : Method} {c : Code} {T T' : State} {locs : List Loc} {cells slots : Nat}
/-- as own_FinW; and the constants of EL are held at the end as at the start -/
def own_FinH (p : Program) (e : Env) (below : List Frame) (s Z : State) (EL : List (String × Nat)) (h0 : Heap) (C N : Nat) (Q : Option Value → Heap → List Loc → Prop) (T : State) (f : JFrame) : Prop :=
  ∃ s₂ o, Steps p.tables e below (T.setTop f) s₂ ∧ s₂.status = .running ∧ Ended s₂ below o ∧ ∃ v L, o = .returned v ∧ Q v s₂.heap L ∧ CHr Z EL s.vm h0 s₂.vm s₂.heap ∧ ReturnedEndW s o s₂ L C N
variable {C N : Nat} {Q : Option Value → Heap → List Loc → Prop} {f f' : JFrame}
theorem own_byH (h : ∀ t, Steps p.tables e below (T'.setTop f') t → Steps p.tables e below (T.setTop f) t) (k : own_FinH p e below s Z EL h0 C N Q T' f') : own_FinH p e below s Z EL h0 C N Q T f := by
  obtain ⟨s2, o, h1, h2⟩ := k
  exact ⟨s2, o, h _ h1, h2⟩
theorem own_startH (hh : s.heap = h0) (q : f = f') (k : own_FinH p e below s Z EL h0 C N Q T f') : ∃ s₂ o, Steps p.tables e below (T.setTop f) s₂ ∧ s₂.status = .running ∧ Ended s₂ below o ∧ ∃ v L, o = .returned v ∧ Q v s₂.heap L ∧ CHr Z EL s.vm s.heap s₂.vm s₂.heap ∧ ReturnedEndW s o s₂ L C N := by
  subst q hh; exact k
theorem own_leafH (X : Stand p l e R (s.setVm vm0) m args below meth c T locs cells slots) (hS : s.Since vm0 k0) (hk : k0 ≤ T.heap.size) (hC : CHr Z EL s.vm h0 T.vm T.heap) (hlk : meth.locks = false) {v : Option Value} (hv : meth.sig.returnType = none → v = none)
    (hs : ∀ fs, (∀ (f : JFrame) (acts : List Action), f.method = m → f.locked = none → f.entered = [] → (doReturn e (T.setTop f) acts v).1 = T.setFrames fs) → Steps p.tables e below (T.setTop f) (T.setFrames fs))
    (hQ : Q v T.heap locs) (hc : cells ≤ C) (hn : slots ≤ N) : own_FinH p e below s Z EL h0 C N Q T f := by
  obtain ⟨fs, hr, hrun, hended, hE⟩ := X.leaveW hS hk (v := v) hv hlk
  exact ⟨_, _, hs fs hr, hrun, hended, _, _, rfl, hQ, hC, own_endW hE hc hn⟩
theorem own_retVH (X : Stand p l e R (s.setVm vm0) m args below meth c T locs cells slots) (hS : s.Since vm0 k0) (hk : k0 ≤ T.heap.size) (hC : CHr Z EL s.vm h0 T.vm T.heap) (hx : p.tables.exec = Jvm.exec) (hlk : meth.locks = false) {pc : Nat} {Ls : Array Slot} (hret : meth.sig.returnType = none) (hd : decode c.code pc = .ok (.return_, 1))
    (hQ : Q none T.heap locs) (hc : cells ≤ C) (hn : slots ≤ N) : own_FinH p e below s Z EL h0 C N Q T (mkF m pc Ls []) :=
  own_leafH X hS hk hC hlk (fun _ => rfl) (fun fs hr => X.returnOut hx hret hd hr) hQ hc hn
theorem own_retZH (X : Stand p l e R (s.setVm vm0) m args below meth c T locs cells slots) (hS : s.Since vm0 k0) (hk : k0 ≤ T.heap.size) (hC : CHr Z EL s.vm h0 T.vm T.heap) (hx : p.tables.exec = Jvm.exec) (hlk : meth.locks = false) {pc : Nat} {Ls : Array Slot} {z : Int32} {t : FieldType} {rest : List Value} (hret : meth.sig.returnType = some t) (ht : t = .boolean ∨ t = .byte ∨ t = .char ∨ t = .short) (hd : decode c.code pc = .ok (.ireturn, 1))
    (hQ : Q (some (.int (nar t z))) T.heap locs) (hc : cells ≤ C) (hn : slots ≤ N) : own_FinH p e below s Z EL h0 C N Q T (mkF m pc Ls (.int z :: rest)) :=
  own_leafH X hS hk hC hlk (fun h => by rw [hret] at h; cases h) (fun fs hr => retN X hx hret ht hd hr) hQ hc hn
theorem own_retAH (X : Stand p l e R (s.setVm vm0) m args below meth c T locs cells slots) (hS : s.Since vm0 k0) (hk : k0 ≤ T.heap.size) (hC : CHr Z EL s.vm h0 T.vm T.heap) (hx : p.tables.exec = Jvm.exec) (hlk : meth.locks = false) {pc : Nat} {Ls : Array Slot} {w : Value} {t : FieldType} {rest : List Value} (hret : meth.sig.returnType = some t) (hr : t.isReference = true) (hn' : narrow t w = w) (hw : w.isRef = true) (hd : decode c.code pc = .ok (.areturn, 1))
    (hQ : Q (some w) T.heap locs) (hc : cells ≤ C) (hn : slots ≤ N) : own_FinH p e below s Z EL h0 C N Q T (mkF m pc Ls (w :: rest)) :=
  own_leafH X hS hk hC hlk (fun h => by rw [hret] at h; cases h) (fun fs hr' => retOut X hx hret hn' (Or.inr (Or.inr (Or.inr (Or.inr ⟨rfl, hr, hw⟩)))) hd hr') hQ hc hn
end OwnH
theorem own_vi {a b : Int32} (h : a = b) : some (Value.int a) = some (Value.int b) := h ▸ rfl
theorem own_wS {a0 : Array Value} {Z : State} (hw : ∀ d ∈ tables_1, d.before a0 Z = true) : ∀ a ∈ Bundle.stringAtoms, a.before a0 Z = true := fun d hd => hw d ((by decide +kernel : ∀ d ∈ Bundle.stringAtoms, d ∈ tables_1) d hd)
theorem own_EW {a0 : Array Value} {Z : State} (hw : ∀ d ∈ tables_1, d.before a0 Z = true) : EW Z a0 consts_1 := (EW.cons (hw _ (List.mem_of_getElem? (i := 26) rfl)) (by decide) EW.nil)
theorem own_b8 (x : Int32) : x.toInt8.toInt32.toInt8.toInt32 = x.toInt8.toInt32 := by
  apply Int32.toInt_inj.mp
  have a := c_i2b x
  have b := c_i2b x.toInt8.toInt32
  omega
theorem own_safe {Z : State} {EL : List (String × Nat)} {vm : Vm} {h : Heap} {x : Addr} (hal : Z.vm.Alike vm) (E : Exa Z h x "java/lang/String") (F : Fld Z h x "java/lang/String" "value" "[B" .null) : Safe Z EL vm h x := fun B => by
  obtain ⟨cell, k, e1, e2, e3, -, -⟩ := E
  obtain ⟨cell', cf, k', i, f, f1, f2, f3, f4, f5, f6, f7⟩ := F
  cases e1.symm.trans f1
  obtain ⟨p, -, u, a, -, q, -, G, rfl | rfl⟩ := B
  · cases (show h[q.sa]? = some q.sC from G.ha).symm.trans e1
    obtain ⟨cS, ⟨⟨-, -, -, ⟨c1, k1, i1, g1, -⟩, -, -, -, v1, -⟩, -⟩, -⟩ := G
    obtain ⟨k3, e3, -⟩ := State.fieldFound?_setVm (s := Z) hal f2
    have e4 := (show (Wst Z vm h).fieldFound? _ _ _ = _ from e3).symm.trans g1
    simp only [Option.some.injEq, Prod.mk.injEq] at e4
    rw [← e4.2.2.2, f7] at v1
    cases v1
  · cases (show h[q.sd]? = some q.SA from G.hd).symm.trans e1
    obtain ⟨cS, -, -, f, -⟩ := G
    have f' : vm.findClass "[B" = some q.SA.cls := f
    rw [hal.findClass] at f'
    obtain ⟨k1, q1, q2⟩ := Vm.findClass_spec f'
    obtain ⟨k2, q3, q4⟩ := Vm.findClass_spec e2
    cases q1.symm.trans q3
    exact absurd (q2.symm.trans q4) (by decide)
def own_chr (c : Int32) : Prop := c.toUInt32.toUInt16.toUInt32.toInt32 = c ∧ ¬ (255 : Int32) < c ∧ ¬ c < (0 : Int32)
theorem own_isch (x : Int32) : own_chr ((x &&& (255 : Int32)).toUInt32.toUInt16.toUInt32.toInt32) := by
  have m := c_and x 255 (by decide)
  have q := c_i2c (x &&& 255)
  have k : (255 : Int32).toInt = 255 := by decide
  have k0 : (0 : Int32).toInt = 0 := by decide
  have e : (x &&& (255 : Int32)).toUInt32.toUInt16.toUInt32.toInt32 = (x &&& 255) := Int32.toInt_inj.mp (by omega)
  rw [e]
  refine ⟨e, ?_, ?_⟩ <;> rw [Int32.lt_iff_toInt_lt] <;> omega
theorem own_b8inj {a b : Int32} (ha : own_chr a) (hb : own_chr b) (h : a.toInt8.toInt32 = b.toInt8.toInt32) : a = b := by
  have p := c_i2b a
  have q := c_i2b b
  have h' := congrArg Int32.toInt h
  obtain ⟨-, a1, a2⟩ := ha
  obtain ⟨-, b1, b2⟩ := hb
  have k : (255 : Int32).toInt = 255 := by decide
  have k0 : (0 : Int32).toInt = 0 := by decide
  rw [Int32.lt_iff_toInt_lt] at a1 a2 b1 b2
  exact Int32.toInt_inj.mp (by omega)
def own_n3 (n : Int32) : Prop := n = 0 ∨ n = 1 ∨ n = 2
theorem own_rem3 (x : Int32) : own_n3 ((x &&& (3 : Int32)) % (3 : Int32)) := by
  have m := c_and x 3 (by decide)
  have r := (c_irem (x &&& 3) 3 3 (by decide)).1 m.1
  generalize (x &&& (3 : Int32)) % (3 : Int32) = z at r ⊢
  unfold own_n3
  simp only [← Int32.toInt_inj]
  have k0 : (0 : Int32).toInt = 0 := by decide
  have k1 : (1 : Int32).toInt = 1 := by decide
  have k2 : (2 : Int32).toInt = 2 := by decide
  omega
def own_lst (n c d : Int32) : List Int32 := if n = (0 : Int32) then [] else if n = (1 : Int32) then [c.toInt8.toInt32] else [c.toInt8.toInt32, d.toInt8.toInt32]
def own_leq (xs ys : List Int32) : Int32 := if xs = ys then 1 else 0
def own_same (n a b m c d : Int32) : Int32 := if n = m then (if n < (1 : Int32) then (if n < (2 : Int32) then 1 else if b = d then 1 else 0) else if a = c then (if n < (2 : Int32) then 1 else if b = d then 1 else 0) else 0) else 0
theorem own_same_eq {n a b m c d : Int32} (hn : own_n3 n) (hm : own_n3 m) (ha : own_chr a) (hb : own_chr b) (hc : own_chr c) (hd : own_chr d) : own_same n a b m c d = own_leq (own_lst n a b) (own_lst m c d) := by
  unfold own_same own_leq own_lst
  have E : ∀ {x y : Int32}, own_chr x → own_chr y → (x.toInt8.toInt32 = y.toInt8.toInt32 ↔ x = y) := fun hx hy => ⟨own_b8inj hx hy, fun h => h ▸ rfl⟩
  rcases hn with rfl | rfl | rfl <;> rcases hm with rfl | rfl | rfl <;> simp [E ha hc, E hb hd] <;> by_cases h1 : a = c <;> by_cases h2 : b = d <;> simp [h1, h2]
theorem own_leq_symm (xs ys : List Int32) : own_leq xs ys = own_leq ys xs := by unfold own_leq; by_cases h : xs = ys <;> simp [h, eq_comm]
def own_req (xs ys : List Int32) (k t : Addr) : Int32 := if own_leq xs ys = (0 : Int32) then 0 else if k = t then 1 else 0
theorem own_req_symm (xs ys : List Int32) (k t : Addr) : own_req xs ys k t = own_req ys xs t k := by
  unfold own_req; rw [own_leq_symm]; by_cases h : k = t <;> simp [h, eq_comm]
theorem own_getD (cs : List Int32) (j : Nat) : (cs.map Value.int).getD j (.int 0) = .int (cs.getD j 0) := by
  simp only [List.getD_eq_getElem?_getD, List.getElem?_map]
  cases cs[j]? <;> rfl
theorem own_lt {i z : Int32} {j k : Nat} (h1 : i.toInt = j) (h2 : z.toInt = j + (k + 1 : Nat)) : i < z := by rw [Int32.lt_iff_toInt_lt]; omega
theorem own_nlt {i z : Int32} {j : Nat} (h1 : i.toInt = j) (h2 : z.toInt = j + (0 : Nat)) : ¬ i < z := by rw [Int32.lt_iff_toInt_lt]; omega
theorem own_inc {i : Int32} {j : Nat} (h1 : i.toInt = j) (h2 : j < 100) : (i + (1 : Int32)).toInt = (j + 1 : Nat) := by
  have a := c_iadd i 1
  have k1 : (1 : Int32).toInt = 1 := by decide
  have al := Int32.toInt_lt (i + 1)
  have ag := Int32.le_toInt (i + 1)
  omega
theorem own_nc {i : Int32} {j : Nat} (h1 : i.toInt = j) : i.toNatClampNeg = j := by unfold Int32.toNatClampNeg; rw [h1]; rfl
theorem own_in {i z : Int32} {j k : Nat} (h1 : i.toInt = j) (h2 : z.toInt = j + (k + 1 : Nat)) : ¬ i < 0 ∧ i < z := by
  have k0 : (0 : Int32).toInt = 0 := by decide
  constructor <;> rw [Int32.lt_iff_toInt_lt] <;> omega
theorem own_lists {xs ys : List Int32} (hl : xs.length = ys.length) (h : ∀ i, i < xs.length → xs.getD i 0 = ys.getD i 0) : xs = ys := by
  apply List.ext_getElem hl
  intro i h1 h2
  have q := h i h1
  simpa [List.getD_eq_getElem?_getD, h1, h2] using q
theorem own_step {xs ys : List Int32} {j : Nat} (h : ∀ i, i < j → xs.getD i 0 = ys.getD i 0) (q : xs.getD j 0 = ys.getD j 0) : ∀ i, i < j + 1 → xs.getD i 0 = ys.getD i 0 := fun i hi => by
  rcases Nat.lt_succ_iff_lt_or_eq.mp hi with h1 | h1
  · exact h i h1
  · subst h1; exact q
theorem own_len2 (n c d : Int32) : (own_lst n c d).length ≤ 2 := by
  unfold own_lst
  split
  · simp
  · split <;> simp
theorem own_notRw {Z : State} {a0 : Array Value} {A O K : String} {n : Nat} (w1 : (Cond.superclass A O).before a0 Z = true) (w3 : (Cond.noSuperclass O).before a0 Z = true) (wi : (Cond.instantiable K n).before a0 Z = true)
    (hA : A ≠ K) (hO : O ≠ K) : ∃ c t, Z.vm.findClass A = some c ∧ Z.vm.findClass K = some t ∧ Z.vm.assignable c t = false := by
  obtain ⟨t, kt, t1, t2, t3, t4, -⟩ := Cond.instantiable_spec wi
  have nO : NS Z O K := by
    obtain ⟨c, k, h1, h2, h3, -, -⟩ := Cond.noSuperclass_spec w3
    have ne := ids_ne h1 t1 hO
    refine ⟨c, t, h1, t1, fun fuel => ?_⟩
    cases fuel with
    | zero => rfl
    | succ f => simp [Vm.isSubclassAux, ne, h2, h3]
  have nA : NS Z A K := NS.step w1 nO hA
  obtain ⟨c, t', h0, g0, n3⟩ := nA
  cases t1.symm.trans g0
  obtain ⟨p, k, kp, h1, h2, h3, h4, h5, -, h7⟩ := Cond.superclass_spec h0 w1
  have ne := ids_ne h0 t1 hA
  have t5 : kt.isInterface = false := by
    cases hi : kt.isInterface with
    | false => rfl
    | true => rw [hi] at t4; simp at t4
  refine ⟨c, t, h0, t1, ?_⟩
  show Z.vm.assignableAux (255 + 1) c t = false
  simp [Vm.assignableAux, ne, h2, t2, h5, t3, t5, Vm.isSubclass, n3]
theorem own_pn1 : plainName "com/example/hinta/hinta/ctmc/RewardEqualsPinLaw" = true := by first | (simp [plainName, overriddenIn]; done) | decide +kernel
theorem d1_0 : decode method_2_code 0 = .ok (.iload_n 0, 1) := by decide +kernel
theorem d1_1 : decode method_2_code 1 = .ok (.ifCond .ne 7, 3) := by decide +kernel
theorem d1_4 : decode method_2_code 4 = .ok (.getstatic 7, 3) := by decide +kernel
theorem d1_7 : decode method_2_code 7 = .ok (.areturn, 1) := by decide +kernel
theorem d1_8 : decode method_2_code 8 = .ok (.iload_n 0, 1) := by decide +kernel
theorem d1_9 : decode method_2_code 9 = .ok (.iconst 1, 1) := by decide +kernel
theorem d1_10 : decode method_2_code 10 = .ok (.if_icmp .ne 7, 3) := by decide +kernel
theorem d1_13 : decode method_2_code 13 = .ok (.getstatic 13, 3) := by decide +kernel
theorem d1_16 : decode method_2_code 16 = .ok (.areturn, 1) := by decide +kernel
theorem d1_17 : decode method_2_code 17 = .ok (.iload_n 0, 1) := by decide +kernel
theorem d1_18 : decode method_2_code 18 = .ok (.iconst 2, 1) := by decide +kernel
theorem d1_19 : decode method_2_code 19 = .ok (.if_icmp .ne 7, 3) := by decide +kernel
theorem d1_22 : decode method_2_code 22 = .ok (.getstatic 16, 3) := by decide +kernel
theorem d1_25 : decode method_2_code 25 = .ok (.areturn, 1) := by decide +kernel
theorem d1_26 : decode method_2_code 26 = .ok (.iload_n 0, 1) := by decide +kernel
theorem d1_27 : decode method_2_code 27 = .ok (.iconst 3, 1) := by decide +kernel
theorem d1_28 : decode method_2_code 28 = .ok (.if_icmp .ne 7, 3) := by decide +kernel
theorem d1_31 : decode method_2_code 31 = .ok (.getstatic 19, 3) := by decide +kernel
theorem d1_34 : decode method_2_code 34 = .ok (.areturn, 1) := by decide +kernel
theorem d1_35 : decode method_2_code 35 = .ok (.iload_n 0, 1) := by decide +kernel
theorem d1_36 : decode method_2_code 36 = .ok (.iconst 4, 1) := by decide +kernel
theorem d1_37 : decode method_2_code 37 = .ok (.if_icmp .ne 7, 3) := by decide +kernel
theorem d1_40 : decode method_2_code 40 = .ok (.getstatic 22, 3) := by decide +kernel
theorem d1_43 : decode method_2_code 43 = .ok (.areturn, 1) := by decide +kernel
theorem d1_44 : decode method_2_code 44 = .ok (.iload_n 0, 1) := by decide +kernel
theorem d1_45 : decode method_2_code 45 = .ok (.iconst 5, 1) := by decide +kernel
theorem d1_46 : decode method_2_code 46 = .ok (.if_icmp .ne 7, 3) := by decide +kernel
theorem d1_49 : decode method_2_code 49 = .ok (.getstatic 25, 3) := by decide +kernel
theorem d1_52 : decode method_2_code 52 = .ok (.areturn, 1) := by decide +kernel
theorem d1_53 : decode method_2_code 53 = .ok (.iload_n 0, 1) := by decide +kernel
theorem d1_54 : decode method_2_code 54 = .ok (.bipush 6, 2) := by decide +kernel
theorem d1_56 : decode method_2_code 56 = .ok (.if_icmp .ne 7, 3) := by decide +kernel
theorem d1_59 : decode method_2_code 59 = .ok (.getstatic 28, 3) := by decide +kernel
theorem d1_62 : decode method_2_code 62 = .ok (.areturn, 1) := by decide +kernel
theorem d1_63 : decode method_2_code 63 = .ok (.iload_n 0, 1) := by decide +kernel
theorem d1_64 : decode method_2_code 64 = .ok (.bipush 7, 2) := by decide +kernel
theorem d1_66 : decode method_2_code 66 = .ok (.if_icmp .ne 7, 3) := by decide +kernel
theorem d1_69 : decode method_2_code 69 = .ok (.getstatic 31, 3) := by decide +kernel
theorem d1_72 : decode method_2_code 72 = .ok (.areturn, 1) := by decide +kernel
theorem d1_73 : decode method_2_code 73 = .ok (.getstatic 34, 3) := by decide +kernel
theorem d1_76 : decode method_2_code 76 = .ok (.areturn, 1) := by decide +kernel
theorem ef_rmK (m : MethodId) (x0 : Int32) : entryFrame m #[(.int x0)] 1 = mkF m 0 #[.val (.int x0)] [] := by first | (simp [entryFrame, mkF, argsToLocals, Value.category]; done) | rfl
def own_Qk (h0 : Heap) (n0 : Nat) (v : Option Value) (h : Heap) (L : List Loc) : Prop := ∃ t : Addr, v = some (.ref t) ∧ Fr n0 L ∧ h = h0
set_option maxRecDepth 65536 in
set_option maxHeartbeats 40000000 in
theorem rmK (l : Launch) (Z : State) (a0 : Array Value) (hw : ∀ d ∈ tables_1, d.before a0 Z = true) (ws : List Jvm.Cond) (p1 : Int32) (k0 k1 k2 k3 k4 k5 k6 k7 k8 : Addr) (h0 : Heap) (n0 : Nat) (Z0 : n0 ≤ h0.size) (S_SEND : Sta Z h0 "com/example/hinta/hinta/lts/Kind" "SEND" "Lcom/example/hinta/hinta/lts/Kind;" (.ref k0)) (S_RECEIVE : Sta Z h0 "com/example/hinta/hinta/lts/Kind" "RECEIVE" "Lcom/example/hinta/hinta/lts/Kind;" (.ref k1)) (S_STORE : Sta Z h0 "com/example/hinta/hinta/lts/Kind" "STORE" "Lcom/example/hinta/hinta/lts/Kind;" (.ref k2)) (S_DECRYPT : Sta Z h0 "com/example/hinta/hinta/lts/Kind" "DECRYPT" "Lcom/example/hinta/hinta/lts/Kind;" (.ref k3)) (S_TEST : Sta Z h0 "com/example/hinta/hinta/lts/Kind" "TEST" "Lcom/example/hinta/hinta/lts/Kind;" (.ref k4)) (S_TRIGGER : Sta Z h0 "com/example/hinta/hinta/lts/Kind" "TRIGGER" "Lcom/example/hinta/hinta/lts/Kind;" (.ref k5)) (S_ACT : Sta Z h0 "com/example/hinta/hinta/lts/Kind" "ACT" "Lcom/example/hinta/hinta/lts/Kind;" (.ref k6)) (S_SENSE : Sta Z h0 "com/example/hinta/hinta/lts/Kind" "SENSE" "Lcom/example/hinta/hinta/lts/Kind;" (.ref k7)) (S_INTERNAL : Sta Z h0 "com/example/hinta/hinta/lts/Kind" "INTERNAL" "Lcom/example/hinta/hinta/lts/Kind;" (.ref k8)) : own_Met l Z (⟨"com/example/hinta/hinta/ctmc/RewardEqualsPinLaw", "kindOf", "(I)Lcom/example/hinta/hinta/lts/Kind;"⟩ : MethodName) method_2_code 1 (some (.object "com/example/hinta/hinta/lts/Kind")) ws (own_R 0 0 0 0) #[(.int p1)] h0 (own_Qk h0 n0) := by
  refine own_enter n0 own_pn1 (fun m => ef_rmK m p1 ) (fun p e s m below meth c s₁ hx hby hlk hml hret hown hnm hZ X0 e0 N0 => ?_)
  show own_Fin p e below s _ _ _ s₁ (mkF m 0 #[.val (.int p1)] [])
  refine own_by (fun _ k => XS.iloadN X0.here hx rfl (hb hby d1_0) rfl k) ?_
  show own_Fin p e below s _ _ _ s₁ (mkF m 1 #[.val (.int p1)] [(.int p1)])
  by_cases hc1_1 : p1 = (0 : Int32)
  · show own_Fin p e below s _ _ _ s₁ (mkF m 1 #[.val (.int p1)] [(.int p1)])
    refine own_by (fun _ k => XS.ifNo X0.here hx rfl (hb hby d1_1) rfl ((if0 _ _).trans (teq hc1_1).2) k) ?_
    show own_Fin p e below s _ _ _ s₁ (mkF m 4 #[.val (.int p1)] [])
    obtain ⟨T2, X2, e2, st2⟩ := getS2 X0 hx hZ hown (host := "") (Or.inl (hw _ (List.mem_of_getElem? (i := 7) rfl))) Via.refl e0 S_SEND (g := (mkF m 4 #[.val (.int p1)] [])) rfl (hb hby d1_4)
    refine own_by (fun _ k => st2 _ k) ?_
    show own_Fin p e below s _ _ _ T2 (mkF m 7 #[.val (.int p1)] [(.ref k0)])
    exact own_retA X2 hx hlk (t := (.object "com/example/hinta/hinta/lts/Kind")) hret rfl rfl rfl (hb hby d1_7) ⟨_, rfl, N0, e2⟩ (by decide) (by decide)
  · show own_Fin p e below s _ _ _ s₁ (mkF m 1 #[.val (.int p1)] [(.int p1)])
    refine own_by (fun _ k => XS.ifYes X0.here hx rfl (pc0 := 1) (pc' := 8) rfl (hb hby d1_1) rfl ((if0 _ _).trans (feq hc1_1).2) (by decide) (by decide) k) ?_
    show own_Fin p e below s _ _ _ s₁ (mkF m 8 #[.val (.int p1)] [])
    refine own_by (fun _ k => XS.iloadN X0.here hx rfl (hb hby d1_8) rfl (XS.iconst X0.here hx rfl (hb hby d1_9) k)) ?_
    show own_Fin p e below s _ _ _ s₁ (mkF m 10 #[.val (.int p1)] [(.int (1 : Int32)), (.int p1)])
    by_cases hc10_3 : p1 = (1 : Int32)
    · show own_Fin p e below s _ _ _ s₁ (mkF m 10 #[.val (.int p1)] [(.int (1 : Int32)), (.int p1)])
      refine own_by (fun _ k => XS.icmpNo X0.here hx rfl (hb hby d1_10) rfl (teq hc10_3).2 k) ?_
      show own_Fin p e below s _ _ _ s₁ (mkF m 13 #[.val (.int p1)] [])
      obtain ⟨T4, X4, e4, st4⟩ := getS2 X0 hx hZ hown (host := "") (Or.inl (hw _ (List.mem_of_getElem? (i := 86) rfl))) Via.refl e0 S_RECEIVE (g := (mkF m 13 #[.val (.int p1)] [])) rfl (hb hby d1_13)
      refine own_by (fun _ k => st4 _ k) ?_
      show own_Fin p e below s _ _ _ T4 (mkF m 16 #[.val (.int p1)] [(.ref k1)])
      exact own_retA X4 hx hlk (t := (.object "com/example/hinta/hinta/lts/Kind")) hret rfl rfl rfl (hb hby d1_16) ⟨_, rfl, N0, e4⟩ (by decide) (by decide)
    · show own_Fin p e below s _ _ _ s₁ (mkF m 10 #[.val (.int p1)] [(.int (1 : Int32)), (.int p1)])
      refine own_by (fun _ k => XS.icmpYes X0.here hx rfl (pc0 := 10) (pc' := 17) rfl (hb hby d1_10) rfl (feq hc10_3).2 (by decide) (by decide) k) ?_
      show own_Fin p e below s _ _ _ s₁ (mkF m 17 #[.val (.int p1)] [])
      refine own_by (fun _ k => XS.iloadN X0.here hx rfl (hb hby d1_17) rfl (XS.iconst X0.here hx rfl (hb hby d1_18) k)) ?_
      show own_Fin p e below s _ _ _ s₁ (mkF m 19 #[.val (.int p1)] [(.int (2 : Int32)), (.int p1)])
      by_cases hc19_5 : p1 = (2 : Int32)
      · show own_Fin p e below s _ _ _ s₁ (mkF m 19 #[.val (.int p1)] [(.int (2 : Int32)), (.int p1)])
        refine own_by (fun _ k => XS.icmpNo X0.here hx rfl (hb hby d1_19) rfl (teq hc19_5).2 k) ?_
        show own_Fin p e below s _ _ _ s₁ (mkF m 22 #[.val (.int p1)] [])
        obtain ⟨T6, X6, e6, st6⟩ := getS2 X0 hx hZ hown (host := "") (Or.inl (hw _ (List.mem_of_getElem? (i := 4) rfl))) Via.refl e0 S_STORE (g := (mkF m 22 #[.val (.int p1)] [])) rfl (hb hby d1_22)
        refine own_by (fun _ k => st6 _ k) ?_
        show own_Fin p e below s _ _ _ T6 (mkF m 25 #[.val (.int p1)] [(.ref k2)])
        exact own_retA X6 hx hlk (t := (.object "com/example/hinta/hinta/lts/Kind")) hret rfl rfl rfl (hb hby d1_25) ⟨_, rfl, N0, e6⟩ (by decide) (by decide)
      · show own_Fin p e below s _ _ _ s₁ (mkF m 19 #[.val (.int p1)] [(.int (2 : Int32)), (.int p1)])
        refine own_by (fun _ k => XS.icmpYes X0.here hx rfl (pc0 := 19) (pc' := 26) rfl (hb hby d1_19) rfl (feq hc19_5).2 (by decide) (by decide) k) ?_
        show own_Fin p e below s _ _ _ s₁ (mkF m 26 #[.val (.int p1)] [])
        refine own_by (fun _ k => XS.iloadN X0.here hx rfl (hb hby d1_26) rfl (XS.iconst X0.here hx rfl (hb hby d1_27) k)) ?_
        show own_Fin p e below s _ _ _ s₁ (mkF m 28 #[.val (.int p1)] [(.int (3 : Int32)), (.int p1)])
        by_cases hc28_7 : p1 = (3 : Int32)
        · show own_Fin p e below s _ _ _ s₁ (mkF m 28 #[.val (.int p1)] [(.int (3 : Int32)), (.int p1)])
          refine own_by (fun _ k => XS.icmpNo X0.here hx rfl (hb hby d1_28) rfl (teq hc28_7).2 k) ?_
          show own_Fin p e below s _ _ _ s₁ (mkF m 31 #[.val (.int p1)] [])
          obtain ⟨T8, X8, e8, st8⟩ := getS2 X0 hx hZ hown (host := "") (Or.inl (hw _ (List.mem_of_getElem? (i := 70) rfl))) Via.refl e0 S_DECRYPT (g := (mkF m 31 #[.val (.int p1)] [])) rfl (hb hby d1_31)
          refine own_by (fun _ k => st8 _ k) ?_
          show own_Fin p e below s _ _ _ T8 (mkF m 34 #[.val (.int p1)] [(.ref k3)])
          exact own_retA X8 hx hlk (t := (.object "com/example/hinta/hinta/lts/Kind")) hret rfl rfl rfl (hb hby d1_34) ⟨_, rfl, N0, e8⟩ (by decide) (by decide)
        · show own_Fin p e below s _ _ _ s₁ (mkF m 28 #[.val (.int p1)] [(.int (3 : Int32)), (.int p1)])
          refine own_by (fun _ k => XS.icmpYes X0.here hx rfl (pc0 := 28) (pc' := 35) rfl (hb hby d1_28) rfl (feq hc28_7).2 (by decide) (by decide) k) ?_
          show own_Fin p e below s _ _ _ s₁ (mkF m 35 #[.val (.int p1)] [])
          refine own_by (fun _ k => XS.iloadN X0.here hx rfl (hb hby d1_35) rfl (XS.iconst X0.here hx rfl (hb hby d1_36) k)) ?_
          show own_Fin p e below s _ _ _ s₁ (mkF m 37 #[.val (.int p1)] [(.int (4 : Int32)), (.int p1)])
          by_cases hc37_9 : p1 = (4 : Int32)
          · show own_Fin p e below s _ _ _ s₁ (mkF m 37 #[.val (.int p1)] [(.int (4 : Int32)), (.int p1)])
            refine own_by (fun _ k => XS.icmpNo X0.here hx rfl (hb hby d1_37) rfl (teq hc37_9).2 k) ?_
            show own_Fin p e below s _ _ _ s₁ (mkF m 40 #[.val (.int p1)] [])
            obtain ⟨T10, X10, e10, st10⟩ := getS2 X0 hx hZ hown (host := "") (Or.inl (hw _ (List.mem_of_getElem? (i := 66) rfl))) Via.refl e0 S_TEST (g := (mkF m 40 #[.val (.int p1)] [])) rfl (hb hby d1_40)
            refine own_by (fun _ k => st10 _ k) ?_
            show own_Fin p e below s _ _ _ T10 (mkF m 43 #[.val (.int p1)] [(.ref k4)])
            exact own_retA X10 hx hlk (t := (.object "com/example/hinta/hinta/lts/Kind")) hret rfl rfl rfl (hb hby d1_43) ⟨_, rfl, N0, e10⟩ (by decide) (by decide)
          · show own_Fin p e below s _ _ _ s₁ (mkF m 37 #[.val (.int p1)] [(.int (4 : Int32)), (.int p1)])
            refine own_by (fun _ k => XS.icmpYes X0.here hx rfl (pc0 := 37) (pc' := 44) rfl (hb hby d1_37) rfl (feq hc37_9).2 (by decide) (by decide) k) ?_
            show own_Fin p e below s _ _ _ s₁ (mkF m 44 #[.val (.int p1)] [])
            refine own_by (fun _ k => XS.iloadN X0.here hx rfl (hb hby d1_44) rfl (XS.iconst X0.here hx rfl (hb hby d1_45) k)) ?_
            show own_Fin p e below s _ _ _ s₁ (mkF m 46 #[.val (.int p1)] [(.int (5 : Int32)), (.int p1)])
            by_cases hc46_11 : p1 = (5 : Int32)
            · show own_Fin p e below s _ _ _ s₁ (mkF m 46 #[.val (.int p1)] [(.int (5 : Int32)), (.int p1)])
              refine own_by (fun _ k => XS.icmpNo X0.here hx rfl (hb hby d1_46) rfl (teq hc46_11).2 k) ?_
              show own_Fin p e below s _ _ _ s₁ (mkF m 49 #[.val (.int p1)] [])
              obtain ⟨T12, X12, e12, st12⟩ := getS2 X0 hx hZ hown (host := "") (Or.inl (hw _ (List.mem_of_getElem? (i := 72) rfl))) Via.refl e0 S_TRIGGER (g := (mkF m 49 #[.val (.int p1)] [])) rfl (hb hby d1_49)
              refine own_by (fun _ k => st12 _ k) ?_
              show own_Fin p e below s _ _ _ T12 (mkF m 52 #[.val (.int p1)] [(.ref k5)])
              exact own_retA X12 hx hlk (t := (.object "com/example/hinta/hinta/lts/Kind")) hret rfl rfl rfl (hb hby d1_52) ⟨_, rfl, N0, e12⟩ (by decide) (by decide)
            · show own_Fin p e below s _ _ _ s₁ (mkF m 46 #[.val (.int p1)] [(.int (5 : Int32)), (.int p1)])
              refine own_by (fun _ k => XS.icmpYes X0.here hx rfl (pc0 := 46) (pc' := 53) rfl (hb hby d1_46) rfl (feq hc46_11).2 (by decide) (by decide) k) ?_
              show own_Fin p e below s _ _ _ s₁ (mkF m 53 #[.val (.int p1)] [])
              refine own_by (fun _ k => XS.iloadN X0.here hx rfl (hb hby d1_53) rfl (XS.bipush X0.here hx rfl (hb hby d1_54) k)) ?_
              show own_Fin p e below s _ _ _ s₁ (mkF m 56 #[.val (.int p1)] [(.int (6 : Int32)), (.int p1)])
              by_cases hc56_13 : p1 = (6 : Int32)
              · show own_Fin p e below s _ _ _ s₁ (mkF m 56 #[.val (.int p1)] [(.int (6 : Int32)), (.int p1)])
                refine own_by (fun _ k => XS.icmpNo X0.here hx rfl (hb hby d1_56) rfl (teq hc56_13).2 k) ?_
                show own_Fin p e below s _ _ _ s₁ (mkF m 59 #[.val (.int p1)] [])
                obtain ⟨T14, X14, e14, st14⟩ := getS2 X0 hx hZ hown (host := "") (Or.inl (hw _ (List.mem_of_getElem? (i := 84) rfl))) Via.refl e0 S_ACT (g := (mkF m 59 #[.val (.int p1)] [])) rfl (hb hby d1_59)
                refine own_by (fun _ k => st14 _ k) ?_
                show own_Fin p e below s _ _ _ T14 (mkF m 62 #[.val (.int p1)] [(.ref k6)])
                exact own_retA X14 hx hlk (t := (.object "com/example/hinta/hinta/lts/Kind")) hret rfl rfl rfl (hb hby d1_62) ⟨_, rfl, N0, e14⟩ (by decide) (by decide)
              · show own_Fin p e below s _ _ _ s₁ (mkF m 56 #[.val (.int p1)] [(.int (6 : Int32)), (.int p1)])
                refine own_by (fun _ k => XS.icmpYes X0.here hx rfl (pc0 := 56) (pc' := 63) rfl (hb hby d1_56) rfl (feq hc56_13).2 (by decide) (by decide) k) ?_
                show own_Fin p e below s _ _ _ s₁ (mkF m 63 #[.val (.int p1)] [])
                refine own_by (fun _ k => XS.iloadN X0.here hx rfl (hb hby d1_63) rfl (XS.bipush X0.here hx rfl (hb hby d1_64) k)) ?_
                show own_Fin p e below s _ _ _ s₁ (mkF m 66 #[.val (.int p1)] [(.int (7 : Int32)), (.int p1)])
                by_cases hc66_15 : p1 = (7 : Int32)
                · show own_Fin p e below s _ _ _ s₁ (mkF m 66 #[.val (.int p1)] [(.int (7 : Int32)), (.int p1)])
                  refine own_by (fun _ k => XS.icmpNo X0.here hx rfl (hb hby d1_66) rfl (teq hc66_15).2 k) ?_
                  show own_Fin p e below s _ _ _ s₁ (mkF m 69 #[.val (.int p1)] [])
                  obtain ⟨T16, X16, e16, st16⟩ := getS2 X0 hx hZ hown (host := "") (Or.inl (hw _ (List.mem_of_getElem? (i := 90) rfl))) Via.refl e0 S_SENSE (g := (mkF m 69 #[.val (.int p1)] [])) rfl (hb hby d1_69)
                  refine own_by (fun _ k => st16 _ k) ?_
                  show own_Fin p e below s _ _ _ T16 (mkF m 72 #[.val (.int p1)] [(.ref k7)])
                  exact own_retA X16 hx hlk (t := (.object "com/example/hinta/hinta/lts/Kind")) hret rfl rfl rfl (hb hby d1_72) ⟨_, rfl, N0, e16⟩ (by decide) (by decide)
                · show own_Fin p e below s _ _ _ s₁ (mkF m 66 #[.val (.int p1)] [(.int (7 : Int32)), (.int p1)])
                  refine own_by (fun _ k => XS.icmpYes X0.here hx rfl (pc0 := 66) (pc' := 73) rfl (hb hby d1_66) rfl (feq hc66_15).2 (by decide) (by decide) k) ?_
                  show own_Fin p e below s _ _ _ s₁ (mkF m 73 #[.val (.int p1)] [])
                  obtain ⟨T17, X17, e17, st17⟩ := getS2 X0 hx hZ hown (host := "") (Or.inl (hw _ (List.mem_of_getElem? (i := 68) rfl))) Via.refl e0 S_INTERNAL (g := (mkF m 73 #[.val (.int p1)] [])) rfl (hb hby d1_73)
                  refine own_by (fun _ k => st17 _ k) ?_
                  show own_Fin p e below s _ _ _ T17 (mkF m 76 #[.val (.int p1)] [(.ref k8)])
                  exact own_retA X17 hx hlk (t := (.object "com/example/hinta/hinta/lts/Kind")) hret rfl rfl rfl (hb hby d1_76) ⟨_, rfl, N0, e17⟩ (by decide) (by decide)
theorem d7_0 : decode method_4_code 0 = .ok (.iload_n 0, 1) := by decide +kernel
theorem d7_1 : decode method_4_code 1 = .ok (.iload_n 3, 1) := by decide +kernel
theorem d7_2 : decode method_4_code 2 = .ok (.if_icmp .eq 5, 3) := by decide +kernel
theorem d7_7 : decode method_4_code 7 = .ok (.iload_n 0, 1) := by decide +kernel
theorem d7_8 : decode method_4_code 8 = .ok (.iconst 1, 1) := by decide +kernel
theorem d7_9 : decode method_4_code 9 = .ok (.if_icmp .lt 11, 3) := by decide +kernel
theorem d7_20 : decode method_4_code 20 = .ok (.iload_n 0, 1) := by decide +kernel
theorem d7_21 : decode method_4_code 21 = .ok (.iconst 2, 1) := by decide +kernel
theorem d7_22 : decode method_4_code 22 = .ok (.if_icmp .lt 11, 3) := by decide +kernel
theorem d7_33 : decode method_4_code 33 = .ok (.iconst 1, 1) := by decide +kernel
theorem d7_34 : decode method_4_code 34 = .ok (.ireturn, 1) := by decide +kernel
theorem d7_25 : decode method_4_code 25 = .ok (.iload_n 2, 1) := by decide +kernel
theorem d7_26 : decode method_4_code 26 = .ok (.iload 5, 2) := by decide +kernel
theorem d7_28 : decode method_4_code 28 = .ok (.if_icmp .eq 5, 3) := by decide +kernel
theorem d7_31 : decode method_4_code 31 = .ok (.iconst 0, 1) := by decide +kernel
theorem d7_32 : decode method_4_code 32 = .ok (.ireturn, 1) := by decide +kernel
theorem d7_12 : decode method_4_code 12 = .ok (.iload_n 1, 1) := by decide +kernel
theorem d7_13 : decode method_4_code 13 = .ok (.iload 4, 2) := by decide +kernel
theorem d7_15 : decode method_4_code 15 = .ok (.if_icmp .eq 5, 3) := by decide +kernel
theorem d7_18 : decode method_4_code 18 = .ok (.iconst 0, 1) := by decide +kernel
theorem d7_19 : decode method_4_code 19 = .ok (.ireturn, 1) := by decide +kernel
theorem d7_5 : decode method_4_code 5 = .ok (.iconst 0, 1) := by decide +kernel
theorem d7_6 : decode method_4_code 6 = .ok (.ireturn, 1) := by decide +kernel
theorem ef_rmSame (m : MethodId) (x0 : Int32) (x1 : Int32) (x2 : Int32) (x3 : Int32) (x4 : Int32) (x5 : Int32) : entryFrame m #[(.int x0), (.int x1), (.int x2), (.int x3), (.int x4), (.int x5)] 6 = mkF m 0 #[.val (.int x0), .val (.int x1), .val (.int x2), .val (.int x3), .val (.int x4), .val (.int x5)] [] := by first | (simp [entryFrame, mkF, argsToLocals, Value.category]; done) | rfl
def own_Qst (n a b m2 c2 d : Int32) (h0 : Heap) (n0 : Nat) (v : Option Value) (h : Heap) (L : List Loc) : Prop := v = some (.int (own_same n a b m2 c2 d)) ∧ Fr n0 L ∧ h = h0
set_option maxRecDepth 65536 in
set_option maxHeartbeats 40000000 in
theorem rmSame (l : Launch) (Z : State) (a0 : Array Value) (hw : ∀ d ∈ tables_1, d.before a0 Z = true) (ws : List Jvm.Cond) (n a b m2 c2 d : Int32) (h0 : Heap) (n0 : Nat) (Z0 : n0 ≤ h0.size)  : own_Met l Z (⟨"com/example/hinta/hinta/ctmc/RewardEqualsPinLaw", "sameText", "(ICCICC)Z"⟩ : MethodName) method_4_code 6 (some .boolean) ws (own_R 0 0 0 0) #[(.int n), (.int a), (.int b), (.int m2), (.int c2), (.int d)] h0 (own_Qst n a b m2 c2 d h0 n0) := by
  refine own_enter n0 own_pn1 (fun m => ef_rmSame m n a b m2 c2 d ) (fun p e s m below meth c s₁ hx hby hlk hml hret hown hnm hZ X0 e0 N0 => ?_)
  show own_Fin p e below s _ _ _ s₁ (mkF m 0 #[.val (.int n), .val (.int a), .val (.int b), .val (.int m2), .val (.int c2), .val (.int d)] [])
  refine own_by (fun _ k => XS.iloadN X0.here hx rfl (hb hby d7_0) rfl (XS.iloadN X0.here hx rfl (hb hby d7_1) rfl k)) ?_
  show own_Fin p e below s _ _ _ s₁ (mkF m 2 #[.val (.int n), .val (.int a), .val (.int b), .val (.int m2), .val (.int c2), .val (.int d)] [(.int m2), (.int n)])
  by_cases hc2_18 : n = m2
  · show own_Fin p e below s _ _ _ s₁ (mkF m 2 #[.val (.int n), .val (.int a), .val (.int b), .val (.int m2), .val (.int c2), .val (.int d)] [(.int m2), (.int n)])
    refine own_by (fun _ k => XS.icmpYes X0.here hx rfl (pc0 := 2) (pc' := 7) rfl (hb hby d7_2) rfl (teq hc2_18).1 (by decide) (by decide) k) ?_
    show own_Fin p e below s _ _ _ s₁ (mkF m 7 #[.val (.int n), .val (.int a), .val (.int b), .val (.int m2), .val (.int c2), .val (.int d)] [])
    refine own_by (fun _ k => XS.iloadN X0.here hx rfl (hb hby d7_7) rfl (XS.iconst X0.here hx rfl (hb hby d7_8) k)) ?_
    show own_Fin p e below s _ _ _ s₁ (mkF m 9 #[.val (.int n), .val (.int a), .val (.int b), .val (.int m2), .val (.int c2), .val (.int d)] [(.int (1 : Int32)), (.int n)])
    by_cases hc9_19 : n < (1 : Int32)
    · show own_Fin p e below s _ _ _ s₁ (mkF m 9 #[.val (.int n), .val (.int a), .val (.int b), .val (.int m2), .val (.int c2), .val (.int d)] [(.int (1 : Int32)), (.int n)])
      refine own_by (fun _ k => XS.icmpYes X0.here hx rfl (pc0 := 9) (pc' := 20) rfl (hb hby d7_9) rfl (tlt hc9_19).1 (by decide) (by decide) k) ?_
      show own_Fin p e below s _ _ _ s₁ (mkF m 20 #[.val (.int n), .val (.int a), .val (.int b), .val (.int m2), .val (.int c2), .val (.int d)] [])
      refine own_by (fun _ k => XS.iloadN X0.here hx rfl (hb hby d7_20) rfl (XS.iconst X0.here hx rfl (hb hby d7_21) k)) ?_
      show own_Fin p e below s _ _ _ s₁ (mkF m 22 #[.val (.int n), .val (.int a), .val (.int b), .val (.int m2), .val (.int c2), .val (.int d)] [(.int (2 : Int32)), (.int n)])
      by_cases hc22_20 : n < (2 : Int32)
      · show own_Fin p e below s _ _ _ s₁ (mkF m 22 #[.val (.int n), .val (.int a), .val (.int b), .val (.int m2), .val (.int c2), .val (.int d)] [(.int (2 : Int32)), (.int n)])
        refine own_by (fun _ k => XS.icmpYes X0.here hx rfl (pc0 := 22) (pc' := 33) rfl (hb hby d7_22) rfl (tlt hc22_20).1 (by decide) (by decide) k) ?_
        show own_Fin p e below s _ _ _ s₁ (mkF m 33 #[.val (.int n), .val (.int a), .val (.int b), .val (.int m2), .val (.int c2), .val (.int d)] [])
        refine own_by (fun _ k => XS.iconst X0.here hx rfl (hb hby d7_33) k) ?_
        show own_Fin p e below s _ _ _ s₁ (mkF m 34 #[.val (.int n), .val (.int a), .val (.int b), .val (.int m2), .val (.int c2), .val (.int d)] [(.int (1 : Int32))])
        exact own_retZ X0 hx hlk (t := .boolean) hret (by simp) (hb hby d7_34) ⟨own_vi (by show (1 : Int32) = _; first | (simp only [own_same, if_pos hc2_18, if_pos hc9_19, if_pos hc22_20]; done) | (simp only [own_same, if_pos hc2_18, if_pos hc9_19, if_pos hc22_20]; decide) | simp [own_same, hc2_18, hc9_19, hc22_20]), N0, e0⟩ (by decide) (by decide)
      · show own_Fin p e below s _ _ _ s₁ (mkF m 22 #[.val (.int n), .val (.int a), .val (.int b), .val (.int m2), .val (.int c2), .val (.int d)] [(.int (2 : Int32)), (.int n)])
        refine own_by (fun _ k => XS.icmpNo X0.here hx rfl (hb hby d7_22) rfl (flt hc22_20).1 k) ?_
        show own_Fin p e below s _ _ _ s₁ (mkF m 25 #[.val (.int n), .val (.int a), .val (.int b), .val (.int m2), .val (.int c2), .val (.int d)] [])
        refine own_by (fun _ k => XS.iloadN X0.here hx rfl (hb hby d7_25) rfl (XS.iload X0.here hx rfl (hb hby d7_26) rfl k)) ?_
        show own_Fin p e below s _ _ _ s₁ (mkF m 28 #[.val (.int n), .val (.int a), .val (.int b), .val (.int m2), .val (.int c2), .val (.int d)] [(.int d), (.int b)])
        by_cases hc28_21 : b = d
        · show own_Fin p e below s _ _ _ s₁ (mkF m 28 #[.val (.int n), .val (.int a), .val (.int b), .val (.int m2), .val (.int c2), .val (.int d)] [(.int d), (.int b)])
          refine own_by (fun _ k => XS.icmpYes X0.here hx rfl (pc0 := 28) (pc' := 33) rfl (hb hby d7_28) rfl (teq hc28_21).1 (by decide) (by decide) k) ?_
          show own_Fin p e below s _ _ _ s₁ (mkF m 33 #[.val (.int n), .val (.int a), .val (.int b), .val (.int m2), .val (.int c2), .val (.int d)] [])
          refine own_by (fun _ k => XS.iconst X0.here hx rfl (hb hby d7_33) k) ?_
          show own_Fin p e below s _ _ _ s₁ (mkF m 34 #[.val (.int n), .val (.int a), .val (.int b), .val (.int m2), .val (.int c2), .val (.int d)] [(.int (1 : Int32))])
          exact own_retZ X0 hx hlk (t := .boolean) hret (by simp) (hb hby d7_34) ⟨own_vi (by show (1 : Int32) = _; first | (simp only [own_same, if_pos hc2_18, if_pos hc9_19, if_neg hc22_20, if_pos hc28_21]; done) | (simp only [own_same, if_pos hc2_18, if_pos hc9_19, if_neg hc22_20, if_pos hc28_21]; decide) | simp [own_same, hc2_18, hc9_19, hc22_20, hc28_21]), N0, e0⟩ (by decide) (by decide)
        · show own_Fin p e below s _ _ _ s₁ (mkF m 28 #[.val (.int n), .val (.int a), .val (.int b), .val (.int m2), .val (.int c2), .val (.int d)] [(.int d), (.int b)])
          refine own_by (fun _ k => XS.icmpNo X0.here hx rfl (hb hby d7_28) rfl (feq hc28_21).1 k) ?_
          show own_Fin p e below s _ _ _ s₁ (mkF m 31 #[.val (.int n), .val (.int a), .val (.int b), .val (.int m2), .val (.int c2), .val (.int d)] [])
          refine own_by (fun _ k => XS.iconst X0.here hx rfl (hb hby d7_31) k) ?_
          show own_Fin p e below s _ _ _ s₁ (mkF m 32 #[.val (.int n), .val (.int a), .val (.int b), .val (.int m2), .val (.int c2), .val (.int d)] [(.int (0 : Int32))])
          exact own_retZ X0 hx hlk (t := .boolean) hret (by simp) (hb hby d7_32) ⟨own_vi (by show (0 : Int32) = _; first | (simp only [own_same, if_pos hc2_18, if_pos hc9_19, if_neg hc22_20, if_neg hc28_21]; done) | (simp only [own_same, if_pos hc2_18, if_pos hc9_19, if_neg hc22_20, if_neg hc28_21]; decide) | simp [own_same, hc2_18, hc9_19, hc22_20, hc28_21]), N0, e0⟩ (by decide) (by decide)
    · show own_Fin p e below s _ _ _ s₁ (mkF m 9 #[.val (.int n), .val (.int a), .val (.int b), .val (.int m2), .val (.int c2), .val (.int d)] [(.int (1 : Int32)), (.int n)])
      refine own_by (fun _ k => XS.icmpNo X0.here hx rfl (hb hby d7_9) rfl (flt hc9_19).1 k) ?_
      show own_Fin p e below s _ _ _ s₁ (mkF m 12 #[.val (.int n), .val (.int a), .val (.int b), .val (.int m2), .val (.int c2), .val (.int d)] [])
      refine own_by (fun _ k => XS.iloadN X0.here hx rfl (hb hby d7_12) rfl (XS.iload X0.here hx rfl (hb hby d7_13) rfl k)) ?_
      show own_Fin p e below s _ _ _ s₁ (mkF m 15 #[.val (.int n), .val (.int a), .val (.int b), .val (.int m2), .val (.int c2), .val (.int d)] [(.int c2), (.int a)])
      by_cases hc15_22 : a = c2
      · show own_Fin p e below s _ _ _ s₁ (mkF m 15 #[.val (.int n), .val (.int a), .val (.int b), .val (.int m2), .val (.int c2), .val (.int d)] [(.int c2), (.int a)])
        refine own_by (fun _ k => XS.icmpYes X0.here hx rfl (pc0 := 15) (pc' := 20) rfl (hb hby d7_15) rfl (teq hc15_22).1 (by decide) (by decide) k) ?_
        show own_Fin p e below s _ _ _ s₁ (mkF m 20 #[.val (.int n), .val (.int a), .val (.int b), .val (.int m2), .val (.int c2), .val (.int d)] [])
        refine own_by (fun _ k => XS.iloadN X0.here hx rfl (hb hby d7_20) rfl (XS.iconst X0.here hx rfl (hb hby d7_21) k)) ?_
        show own_Fin p e below s _ _ _ s₁ (mkF m 22 #[.val (.int n), .val (.int a), .val (.int b), .val (.int m2), .val (.int c2), .val (.int d)] [(.int (2 : Int32)), (.int n)])
        by_cases hc22_23 : n < (2 : Int32)
        · show own_Fin p e below s _ _ _ s₁ (mkF m 22 #[.val (.int n), .val (.int a), .val (.int b), .val (.int m2), .val (.int c2), .val (.int d)] [(.int (2 : Int32)), (.int n)])
          refine own_by (fun _ k => XS.icmpYes X0.here hx rfl (pc0 := 22) (pc' := 33) rfl (hb hby d7_22) rfl (tlt hc22_23).1 (by decide) (by decide) k) ?_
          show own_Fin p e below s _ _ _ s₁ (mkF m 33 #[.val (.int n), .val (.int a), .val (.int b), .val (.int m2), .val (.int c2), .val (.int d)] [])
          refine own_by (fun _ k => XS.iconst X0.here hx rfl (hb hby d7_33) k) ?_
          show own_Fin p e below s _ _ _ s₁ (mkF m 34 #[.val (.int n), .val (.int a), .val (.int b), .val (.int m2), .val (.int c2), .val (.int d)] [(.int (1 : Int32))])
          exact own_retZ X0 hx hlk (t := .boolean) hret (by simp) (hb hby d7_34) ⟨own_vi (by show (1 : Int32) = _; first | (simp only [own_same, if_pos hc2_18, if_neg hc9_19, if_pos hc15_22, if_pos hc22_23]; done) | (simp only [own_same, if_pos hc2_18, if_neg hc9_19, if_pos hc15_22, if_pos hc22_23]; decide) | simp [own_same, hc2_18, hc9_19, hc15_22, hc22_23]), N0, e0⟩ (by decide) (by decide)
        · show own_Fin p e below s _ _ _ s₁ (mkF m 22 #[.val (.int n), .val (.int a), .val (.int b), .val (.int m2), .val (.int c2), .val (.int d)] [(.int (2 : Int32)), (.int n)])
          refine own_by (fun _ k => XS.icmpNo X0.here hx rfl (hb hby d7_22) rfl (flt hc22_23).1 k) ?_
          show own_Fin p e below s _ _ _ s₁ (mkF m 25 #[.val (.int n), .val (.int a), .val (.int b), .val (.int m2), .val (.int c2), .val (.int d)] [])
          refine own_by (fun _ k => XS.iloadN X0.here hx rfl (hb hby d7_25) rfl (XS.iload X0.here hx rfl (hb hby d7_26) rfl k)) ?_
          show own_Fin p e below s _ _ _ s₁ (mkF m 28 #[.val (.int n), .val (.int a), .val (.int b), .val (.int m2), .val (.int c2), .val (.int d)] [(.int d), (.int b)])
          by_cases hc28_24 : b = d
          · show own_Fin p e below s _ _ _ s₁ (mkF m 28 #[.val (.int n), .val (.int a), .val (.int b), .val (.int m2), .val (.int c2), .val (.int d)] [(.int d), (.int b)])
            refine own_by (fun _ k => XS.icmpYes X0.here hx rfl (pc0 := 28) (pc' := 33) rfl (hb hby d7_28) rfl (teq hc28_24).1 (by decide) (by decide) k) ?_
            show own_Fin p e below s _ _ _ s₁ (mkF m 33 #[.val (.int n), .val (.int a), .val (.int b), .val (.int m2), .val (.int c2), .val (.int d)] [])
            refine own_by (fun _ k => XS.iconst X0.here hx rfl (hb hby d7_33) k) ?_
            show own_Fin p e below s _ _ _ s₁ (mkF m 34 #[.val (.int n), .val (.int a), .val (.int b), .val (.int m2), .val (.int c2), .val (.int d)] [(.int (1 : Int32))])
            exact own_retZ X0 hx hlk (t := .boolean) hret (by simp) (hb hby d7_34) ⟨own_vi (by show (1 : Int32) = _; first | (simp only [own_same, if_pos hc2_18, if_neg hc9_19, if_pos hc15_22, if_neg hc22_23, if_pos hc28_24]; done) | (simp only [own_same, if_pos hc2_18, if_neg hc9_19, if_pos hc15_22, if_neg hc22_23, if_pos hc28_24]; decide) | simp [own_same, hc2_18, hc9_19, hc15_22, hc22_23, hc28_24]), N0, e0⟩ (by decide) (by decide)
          · show own_Fin p e below s _ _ _ s₁ (mkF m 28 #[.val (.int n), .val (.int a), .val (.int b), .val (.int m2), .val (.int c2), .val (.int d)] [(.int d), (.int b)])
            refine own_by (fun _ k => XS.icmpNo X0.here hx rfl (hb hby d7_28) rfl (feq hc28_24).1 k) ?_
            show own_Fin p e below s _ _ _ s₁ (mkF m 31 #[.val (.int n), .val (.int a), .val (.int b), .val (.int m2), .val (.int c2), .val (.int d)] [])
            refine own_by (fun _ k => XS.iconst X0.here hx rfl (hb hby d7_31) k) ?_
            show own_Fin p e below s _ _ _ s₁ (mkF m 32 #[.val (.int n), .val (.int a), .val (.int b), .val (.int m2), .val (.int c2), .val (.int d)] [(.int (0 : Int32))])
            exact own_retZ X0 hx hlk (t := .boolean) hret (by simp) (hb hby d7_32) ⟨own_vi (by show (0 : Int32) = _; first | (simp only [own_same, if_pos hc2_18, if_neg hc9_19, if_pos hc15_22, if_neg hc22_23, if_neg hc28_24]; done) | (simp only [own_same, if_pos hc2_18, if_neg hc9_19, if_pos hc15_22, if_neg hc22_23, if_neg hc28_24]; decide) | simp [own_same, hc2_18, hc9_19, hc15_22, hc22_23, hc28_24]), N0, e0⟩ (by decide) (by decide)
      · show own_Fin p e below s _ _ _ s₁ (mkF m 15 #[.val (.int n), .val (.int a), .val (.int b), .val (.int m2), .val (.int c2), .val (.int d)] [(.int c2), (.int a)])
        refine own_by (fun _ k => XS.icmpNo X0.here hx rfl (hb hby d7_15) rfl (feq hc15_22).1 k) ?_
        show own_Fin p e below s _ _ _ s₁ (mkF m 18 #[.val (.int n), .val (.int a), .val (.int b), .val (.int m2), .val (.int c2), .val (.int d)] [])
        refine own_by (fun _ k => XS.iconst X0.here hx rfl (hb hby d7_18) k) ?_
        show own_Fin p e below s _ _ _ s₁ (mkF m 19 #[.val (.int n), .val (.int a), .val (.int b), .val (.int m2), .val (.int c2), .val (.int d)] [(.int (0 : Int32))])
        exact own_retZ X0 hx hlk (t := .boolean) hret (by simp) (hb hby d7_19) ⟨own_vi (by show (0 : Int32) = _; first | (simp only [own_same, if_pos hc2_18, if_neg hc9_19, if_neg hc15_22]; done) | (simp only [own_same, if_pos hc2_18, if_neg hc9_19, if_neg hc15_22]; decide) | simp [own_same, hc2_18, hc9_19, hc15_22]), N0, e0⟩ (by decide) (by decide)
  · show own_Fin p e below s _ _ _ s₁ (mkF m 2 #[.val (.int n), .val (.int a), .val (.int b), .val (.int m2), .val (.int c2), .val (.int d)] [(.int m2), (.int n)])
    refine own_by (fun _ k => XS.icmpNo X0.here hx rfl (hb hby d7_2) rfl (feq hc2_18).1 k) ?_
    show own_Fin p e below s _ _ _ s₁ (mkF m 5 #[.val (.int n), .val (.int a), .val (.int b), .val (.int m2), .val (.int c2), .val (.int d)] [])
    refine own_by (fun _ k => XS.iconst X0.here hx rfl (hb hby d7_5) k) ?_
    show own_Fin p e below s _ _ _ s₁ (mkF m 6 #[.val (.int n), .val (.int a), .val (.int b), .val (.int m2), .val (.int c2), .val (.int d)] [(.int (0 : Int32))])
    exact own_retZ X0 hx hlk (t := .boolean) hret (by simp) (hb hby d7_6) ⟨own_vi (by show (0 : Int32) = _; first | (simp only [own_same, if_neg hc2_18]; done) | (simp only [own_same, if_neg hc2_18]; decide) | simp [own_same, hc2_18]), N0, e0⟩ (by decide) (by decide)
theorem own_pn68 : plainName "java/lang/StringUTF16" = true := by first | (simp [plainName, overriddenIn]; done) | decide +kernel
theorem d12_0 : decode jdk_52_method_21_code 0 = .ok (.iconst 0, 1) := by decide +kernel
theorem d12_1 : decode jdk_52_method_21_code 1 = .ok (.istore 5, 2) := by decide +kernel
theorem d12_3 : decode jdk_52_method_21_code 3 = .ok (.iload 5, 2) := by decide +kernel
theorem d12_5 : decode jdk_52_method_21_code 5 = .ok (.iload 4, 2) := by decide +kernel
theorem d12_7 : decode jdk_52_method_21_code 7 = .ok (.if_icmp .ge 37, 3) := by decide +kernel
theorem d12_10 : decode jdk_52_method_21_code 10 = .ok (.aload_n 0, 1) := by decide +kernel
theorem d12_11 : decode jdk_52_method_21_code 11 = .ok (.iload_n 1, 1) := by decide +kernel
theorem d12_12 : decode jdk_52_method_21_code 12 = .ok (.caload, 1) := by decide +kernel
theorem d12_13 : decode jdk_52_method_21_code 13 = .ok (.istore 6, 2) := by decide +kernel
theorem d12_15 : decode jdk_52_method_21_code 15 = .ok (.iload 6, 2) := by decide +kernel
theorem d12_17 : decode jdk_52_method_21_code 17 = .ok (.sipush 255, 3) := by decide +kernel
theorem d12_20 : decode jdk_52_method_21_code 20 = .ok (.if_icmp .le 6, 3) := by decide +kernel
theorem d12_26 : decode jdk_52_method_21_code 26 = .ok (.aload_n 2, 1) := by decide +kernel
theorem d12_27 : decode jdk_52_method_21_code 27 = .ok (.iload_n 3, 1) := by decide +kernel
theorem d12_28 : decode jdk_52_method_21_code 28 = .ok (.iload 6, 2) := by decide +kernel
theorem d12_30 : decode jdk_52_method_21_code 30 = .ok (.i2b, 1) := by decide +kernel
theorem d12_31 : decode jdk_52_method_21_code 31 = .ok (.bastore, 1) := by decide +kernel
theorem d12_32 : decode jdk_52_method_21_code 32 = .ok (.iinc 1 1, 3) := by decide +kernel
theorem d12_35 : decode jdk_52_method_21_code 35 = .ok (.iinc 3 1, 3) := by decide +kernel
theorem d12_38 : decode jdk_52_method_21_code 38 = .ok (.iinc 5 1, 3) := by decide +kernel
theorem d12_41 : decode jdk_52_method_21_code 41 = .ok (.goto (-38), 3) := by decide +kernel
theorem d12_44 : decode jdk_52_method_21_code 44 = .ok (.iload 4, 2) := by decide +kernel
theorem d12_46 : decode jdk_52_method_21_code 46 = .ok (.ireturn, 1) := by decide +kernel
theorem ef_rmCI1 (m : MethodId) (x0 : Addr) (x1 : Int32) (x2 : Addr) (x3 : Int32) (x4 : Int32) : entryFrame m #[(.ref x0), (.int x1), (.ref x2), (.int x3), (.int x4)] 7 = mkF m 0 #[.val (.ref x0), .val (.int x1), .val (.ref x2), .val (.int x3), .val (.int x4), .unset, .unset] [] := by first | (simp [entryFrame, mkF, argsToLocals, Value.category]; done) | rfl
def own_Qci1 (Z : State) (a3 : Addr) (kb : ClassId) (x0 : Int32) (h0 : Heap) (n0 : Nat) (v : Option Value) (h : Heap) (L : List Loc) : Prop := v = some (.int (1 : Int32)) ∧ Fr n0 L ∧ Keep h0 h [a3] ∧ Arv Z h a3 kb .byte (1 : Int32) [(.int x0.toInt8.toInt32)] (.int (0 : Int32))
set_option maxRecDepth 65536 in
set_option maxHeartbeats 40000000 in
theorem rmCI1 (l : Launch) (Z : State) (a0 : Array Value) (hw : ∀ d ∈ tables_1, d.before a0 Z = true) (ws : List Jvm.Cond) (a1 a3 : Addr) (kc kb : ClassId) (x0 : Int32) (h0 : Heap) (n0 : Nat) (Z0 : n0 ≤ h0.size) (V1 : Arv Z h0 a1 kc .char (1 : Int32) [(.int x0)] (.int (0 : Int32))) (V3 : Arv Z h0 a3 kb .byte (1 : Int32) [(.int (0 : Int32))] (.int (0 : Int32))) (ne13 : a1 ≠ a3) (g_3 : n0 ≤ a3) (hx0 : ¬ (255 : Int32) < x0) : own_Met l Z (⟨"java/lang/StringUTF16", "compress", "([CI[BII)I"⟩ : MethodName) jdk_52_method_21_code 7 (some .int) ws (own_R 0 0 0 0) #[(.ref a1), (.int (0 : Int32)), (.ref a3), (.int (0 : Int32)), (.int (1 : Int32))] h0 (own_Qci1 Z a3 kb x0 h0 n0) := by
  refine own_enter n0 own_pn68 (fun m => ef_rmCI1 m a1 (0 : Int32) a3 (0 : Int32) (1 : Int32) ) (fun p e s m below meth c s₁ hx hby hlk hml hret hown hnm hZ X0 e0 N0 => ?_)
  show own_Fin p e below s _ _ _ s₁ (mkF m 0 #[.val (.ref a1), .val (.int (0 : Int32)), .val (.ref a3), .val (.int (0 : Int32)), .val (.int (1 : Int32)), .unset, .unset] [])
  have Kp25 : Keep h0 h0 [a3] := Keep.refl h0 _
  refine own_by (fun _ k => XS.iconst X0.here hx rfl (hb hby d12_0) (XS.istore X0.here hx rfl (hb hby d12_1) rfl (l' := #[.val (.ref a1), .val (.int (0 : Int32)), .val (.ref a3), .val (.int (0 : Int32)), .val (.int (1 : Int32)), .val (.int (0 : Int32)), .unset]) rfl (XS.iload X0.here hx rfl (hb hby d12_3) rfl (XS.iload X0.here hx rfl (hb hby d12_5) rfl k)))) ?_
  show own_Fin p e below s _ _ _ s₁ (mkF m 7 #[.val (.ref a1), .val (.int (0 : Int32)), .val (.ref a3), .val (.int (0 : Int32)), .val (.int (1 : Int32)), .val (.int (0 : Int32)), .unset] [(.int (1 : Int32)), (.int (0 : Int32))])
  refine own_by (fun _ k => XS.icmpNo X0.here hx rfl (hb hby d12_7) rfl (tlt (by decide : (0 : Int32) < (1 : Int32))).2.1 k) ?_
  show own_Fin p e below s _ _ _ s₁ (mkF m 10 #[.val (.ref a1), .val (.int (0 : Int32)), .val (.ref a3), .val (.int (0 : Int32)), .val (.int (1 : Int32)), .val (.int (0 : Int32)), .unset] [])
  refine own_by (fun _ k => XS.aloadN X0.here hx rfl (hb hby d12_10) rfl rfl (XS.iloadN X0.here hx rfl (hb hby d12_11) rfl k)) ?_
  show own_Fin p e below s _ _ _ s₁ (mkF m 12 #[.val (.ref a1), .val (.int (0 : Int32)), .val (.ref a3), .val (.int (0 : Int32)), .val (.int (1 : Int32)), .val (.int (0 : Int32)), .unset] [(.int (0 : Int32)), (.ref a1)])
  obtain ⟨cl26, Ar26, -, S26, M26, H26, -⟩ := id V1
  have hin26 : ¬ ((0 : Int32) < 0 ∨ cl26.slots.size ≤ ((0 : Int32)).toNatClampNeg) := inb_of S26 ⟨by decide, by decide⟩
  have hat26 : cl26.slots[((0 : Int32)).toNatClampNeg]? = some (.int x0) := Has.at H26 hin26 rfl
  refine own_by (fun _ k => X0.caload hx (j := (0 : Int32)) (v := (.int x0)) (by rw [e0]; exact Ar26.1) (State.isArrayOf_alike hZ.alike Ar26.2.1) Ar26.2.2 hin26 hat26 (g := (mkF m 12 #[.val (.ref a1), .val (.int (0 : Int32)), .val (.ref a3), .val (.int (0 : Int32)), .val (.int (1 : Int32)), .val (.int (0 : Int32)), .unset] [(.int (0 : Int32)), (.ref a1)])) rfl rfl (hb hby d12_12) _ k) ?_
  show own_Fin p e below s _ _ _ s₁ (mkF m 13 #[.val (.ref a1), .val (.int (0 : Int32)), .val (.ref a3), .val (.int (0 : Int32)), .val (.int (1 : Int32)), .val (.int (0 : Int32)), .unset] [(.int x0)])
  refine own_by (fun _ k => XS.istore X0.here hx rfl (hb hby d12_13) rfl (l' := #[.val (.ref a1), .val (.int (0 : Int32)), .val (.ref a3), .val (.int (0 : Int32)), .val (.int (1 : Int32)), .val (.int (0 : Int32)), .val (.int x0)]) rfl (XS.iload X0.here hx rfl (hb hby d12_15) rfl (XS.sipush X0.here hx rfl (hb hby d12_17) k))) ?_
  show own_Fin p e below s _ _ _ s₁ (mkF m 20 #[.val (.ref a1), .val (.int (0 : Int32)), .val (.ref a3), .val (.int (0 : Int32)), .val (.int (1 : Int32)), .val (.int (0 : Int32)), .val (.int x0)] [(.int (255 : Int32)), (.int x0)])
  refine own_by (fun _ k => XS.icmpYes X0.here hx rfl (pc0 := 20) (pc' := 26) rfl (hb hby d12_20) rfl (flt hx0).2.2.2 (by decide) (by decide) k) ?_
  show own_Fin p e below s _ _ _ s₁ (mkF m 26 #[.val (.ref a1), .val (.int (0 : Int32)), .val (.ref a3), .val (.int (0 : Int32)), .val (.int (1 : Int32)), .val (.int (0 : Int32)), .val (.int x0)] [])
  refine own_by (fun _ k => XS.aloadN X0.here hx rfl (hb hby d12_26) rfl rfl (XS.iloadN X0.here hx rfl (hb hby d12_27) rfl (XS.iload X0.here hx rfl (hb hby d12_28) rfl (XS.i2b X0.here hx rfl (hb hby d12_30) rfl k)))) ?_
  show own_Fin p e below s _ _ _ s₁ (mkF m 31 #[.val (.ref a1), .val (.int (0 : Int32)), .val (.ref a3), .val (.int (0 : Int32)), .val (.int (1 : Int32)), .val (.int (0 : Int32)), .val (.int x0)] [(.int (x0.toInt8.toInt32)), (.int (0 : Int32)), (.ref a3)])
  obtain ⟨cl27, Ar27, q27, S27, M27, H27, G27⟩ := id V3
  have hin27 : ¬ ((0 : Int32) < 0 ∨ cl27.slots.size ≤ ((0 : Int32)).toNatClampNeg) := inb_of S27 ⟨by decide, by decide⟩
  obtain ⟨T27, h27, X27, e27, W27, st27⟩ := stB X0 hx hZ e0 Ar27 (j := (0 : Int32)) hin27 (g := (mkF m 31 #[.val (.ref a1), .val (.int (0 : Int32)), .val (.ref a3), .val (.int (0 : Int32)), .val (.int (1 : Int32)), .val (.int (0 : Int32)), .val (.int x0)] [(.int (x0.toInt8.toInt32)), (.int (0 : Int32)), (.ref a3)])) rfl rfl (hb hby d12_31)
  refine own_by (fun _ k => st27 _ k) ?_
  have V27 : Arv Z h27 a3 kb .byte (1 : Int32) [(.int (x0.toInt8.toInt32).toInt8.toInt32)] (.int (0 : Int32)) := Arv.set Ar27 q27 S27 M27 H27 G27 (fits_nar_byte _) W27 0 rfl (Nat.le_of_ble_eq_true rfl)
  have Kp27 : Keep h0 h27 [a3] := Kp25.wr W27 (Or.inl (List.mem_of_getElem? (i := 0) rfl))
  have Zs27 : n0 ≤ h27.size := Nat.le_trans Z0 (Keep.of_wr W27).1
  have N27 := Fr.snoc X27 N0 g_3
  have f28_0 : Arv Z h27 a1 kc .char (1 : Int32) [(.int x0)] (.int (0 : Int32)) := V1.other W27 ne13
  show own_Fin p e below s _ _ _ T27 (mkF m 32 #[.val (.ref a1), .val (.int (0 : Int32)), .val (.ref a3), .val (.int (0 : Int32)), .val (.int (1 : Int32)), .val (.int (0 : Int32)), .val (.int x0)] [])
  refine own_by (fun _ k => XS.iinc X27.here hx rfl (hb hby d12_32) rfl (l' := #[.val (.ref a1), .val (.int ((0 : Int32) + (1 : Int32))), .val (.ref a3), .val (.int (0 : Int32)), .val (.int (1 : Int32)), .val (.int (0 : Int32)), .val (.int x0)]) rfl k) ?_
  show own_Fin p e below s _ _ _ T27 (mkF m 35 #[.val (.ref a1), .val (.int ((0 : Int32) + (1 : Int32))), .val (.ref a3), .val (.int (0 : Int32)), .val (.int (1 : Int32)), .val (.int (0 : Int32)), .val (.int x0)] [])
  rw [(by decide : ((0 : Int32) + (1 : Int32)) = (1 : Int32))]
  show own_Fin p e below s _ _ _ T27 (mkF m 35 #[.val (.ref a1), .val (.int (1 : Int32)), .val (.ref a3), .val (.int (0 : Int32)), .val (.int (1 : Int32)), .val (.int (0 : Int32)), .val (.int x0)] [])
  refine own_by (fun _ k => XS.iinc X27.here hx rfl (hb hby d12_35) rfl (l' := #[.val (.ref a1), .val (.int (1 : Int32)), .val (.ref a3), .val (.int ((0 : Int32) + (1 : Int32))), .val (.int (1 : Int32)), .val (.int (0 : Int32)), .val (.int x0)]) rfl k) ?_
  show own_Fin p e below s _ _ _ T27 (mkF m 38 #[.val (.ref a1), .val (.int (1 : Int32)), .val (.ref a3), .val (.int ((0 : Int32) + (1 : Int32))), .val (.int (1 : Int32)), .val (.int (0 : Int32)), .val (.int x0)] [])
  rw [(by decide : ((0 : Int32) + (1 : Int32)) = (1 : Int32))]
  show own_Fin p e below s _ _ _ T27 (mkF m 38 #[.val (.ref a1), .val (.int (1 : Int32)), .val (.ref a3), .val (.int (1 : Int32)), .val (.int (1 : Int32)), .val (.int (0 : Int32)), .val (.int x0)] [])
  refine own_by (fun _ k => XS.iinc X27.here hx rfl (hb hby d12_38) rfl (l' := #[.val (.ref a1), .val (.int (1 : Int32)), .val (.ref a3), .val (.int (1 : Int32)), .val (.int (1 : Int32)), .val (.int ((0 : Int32) + (1 : Int32))), .val (.int x0)]) rfl k) ?_
  show own_Fin p e below s _ _ _ T27 (mkF m 41 #[.val (.ref a1), .val (.int (1 : Int32)), .val (.ref a3), .val (.int (1 : Int32)), .val (.int (1 : Int32)), .val (.int ((0 : Int32) + (1 : Int32))), .val (.int x0)] [])
  rw [(by decide : ((0 : Int32) + (1 : Int32)) = (1 : Int32))]
  show own_Fin p e below s _ _ _ T27 (mkF m 41 #[.val (.ref a1), .val (.int (1 : Int32)), .val (.ref a3), .val (.int (1 : Int32)), .val (.int (1 : Int32)), .val (.int (1 : Int32)), .val (.int x0)] [])
  refine own_by (fun _ k => XS.goto X27.here hx rfl (pc0 := 41) (pc' := 3) rfl (hb hby d12_41) (by decide) (by decide) (XS.iload X27.here hx rfl (hb hby d12_3) rfl (XS.iload X27.here hx rfl (hb hby d12_5) rfl k))) ?_
  show own_Fin p e below s _ _ _ T27 (mkF m 7 #[.val (.ref a1), .val (.int (1 : Int32)), .val (.ref a3), .val (.int (1 : Int32)), .val (.int (1 : Int32)), .val (.int (1 : Int32)), .val (.int x0)] [(.int (1 : Int32)), (.int (1 : Int32))])
  refine own_by (fun _ k => XS.icmpYes X27.here hx rfl (pc0 := 7) (pc' := 44) rfl (hb hby d12_7) rfl (flt (by decide : ¬ ((1 : Int32) < (1 : Int32)))).2.1 (by decide) (by decide) k) ?_
  show own_Fin p e below s _ _ _ T27 (mkF m 44 #[.val (.ref a1), .val (.int (1 : Int32)), .val (.ref a3), .val (.int (1 : Int32)), .val (.int (1 : Int32)), .val (.int (1 : Int32)), .val (.int x0)] [])
  refine own_by (fun _ k => XS.iload X27.here hx rfl (hb hby d12_44) rfl k) ?_
  show own_Fin p e below s _ _ _ T27 (mkF m 46 #[.val (.ref a1), .val (.int (1 : Int32)), .val (.ref a3), .val (.int (1 : Int32)), .val (.int (1 : Int32)), .val (.int (1 : Int32)), .val (.int x0)] [(.int (1 : Int32))])
  exact own_retI X27 hx hlk hret (hb hby d12_46) (by rw [e27]; exact ⟨rfl, N27, Kp27, (by have q := V27; simp only [own_b8] at q; exact q)⟩) (by decide) (by decide)
theorem d11_0 : decode jdk_52_method_16_code 0 = .ok (.iload_n 2, 1) := by decide +kernel
theorem d11_1 : decode jdk_52_method_16_code 1 = .ok (.newarray .byte, 2) := by decide +kernel
theorem d11_3 : decode jdk_52_method_16_code 3 = .ok (.astore_n 3, 1) := by decide +kernel
theorem d11_4 : decode jdk_52_method_16_code 4 = .ok (.aload_n 0, 1) := by decide +kernel
theorem d11_5 : decode jdk_52_method_16_code 5 = .ok (.iload_n 1, 1) := by decide +kernel
theorem d11_6 : decode jdk_52_method_16_code 6 = .ok (.aload_n 3, 1) := by decide +kernel
theorem d11_7 : decode jdk_52_method_16_code 7 = .ok (.iconst 0, 1) := by decide +kernel
theorem d11_8 : decode jdk_52_method_16_code 8 = .ok (.iload_n 2, 1) := by decide +kernel
theorem d11_9 : decode jdk_52_method_16_code 9 = .ok (.invokestatic 115, 3) := by decide +kernel
theorem own_pd102 : parseMethodDescriptor "([CI[BII)I" = some ⟨[(.array .char), .int, (.array .byte), .int, .int], some .int⟩ := by decide +kernel
theorem d11_12 : decode jdk_52_method_16_code 12 = .ok (.istore 4, 2) := by decide +kernel
theorem d11_14 : decode jdk_52_method_16_code 14 = .ok (.iload 4, 2) := by decide +kernel
theorem d11_16 : decode jdk_52_method_16_code 16 = .ok (.iload_n 2, 1) := by decide +kernel
theorem d11_17 : decode jdk_52_method_16_code 17 = .ok (.if_icmp .eq 40, 3) := by decide +kernel
theorem d11_57 : decode jdk_52_method_16_code 57 = .ok (.aload_n 3, 1) := by decide +kernel
theorem d11_58 : decode jdk_52_method_16_code 58 = .ok (.areturn, 1) := by decide +kernel
theorem ef_rmCO1 (m : MethodId) (x0 : Addr) (x1 : Int32) (x2 : Int32) : entryFrame m #[(.ref x0), (.int x1), (.int x2)] 6 = mkF m 0 #[.val (.ref x0), .val (.int x1), .val (.int x2), .unset, .unset, .unset] [] := by first | (simp [entryFrame, mkF, argsToLocals, Value.category]; done) | rfl
def own_Qco1 (Z : State) (x0 : Int32) (h0 : Heap) (n0 : Nat) (v : Option Value) (h : Heap) (L : List Loc) : Prop := ∃ (a : Addr) (k : ClassId), v = some (.ref a) ∧ Fr n0 L ∧ Keep h0 h [] ∧ h0.size ≤ a ∧ Arv Z h a k .byte (1 : Int32) [(.int x0.toInt8.toInt32)] (.int (0 : Int32))
set_option maxRecDepth 65536 in
set_option maxHeartbeats 40000000 in
theorem rmCO1 (l : Launch) (Z : State) (a0 : Array Value) (hw : ∀ d ∈ tables_1, d.before a0 Z = true) (ws : List Jvm.Cond) (a1 : Addr) (kc : ClassId) (x0 : Int32) (h0 : Heap) (n0 : Nat) (Z0 : n0 ≤ h0.size) (V1 : Arv Z h0 a1 kc .char (1 : Int32) [(.int x0)] (.int (0 : Int32))) (hx0 : ¬ (255 : Int32) < x0) : own_Met l Z (⟨"java/lang/StringUTF16", "compress", "([CII)[B"⟩ : MethodName) jdk_52_method_16_code 6 (some (.array .byte)) ws (own_R 1 1 1 20) #[(.ref a1), (.int (0 : Int32)), (.int (1 : Int32))] h0 (own_Qco1 Z x0 h0 n0) := by
  refine own_enter n0 own_pn68 (fun m => ef_rmCO1 m a1 (0 : Int32) (1 : Int32) ) (fun p e s m below meth c s₁ hx hby hlk hml hret hown hnm hZ X0 e0 N0 => ?_)
  show own_Fin p e below s _ _ _ s₁ (mkF m 0 #[.val (.ref a1), .val (.int (0 : Int32)), .val (.int (1 : Int32)), .unset, .unset, .unset] [])
  have Kp29 : Keep h0 h0 [] := Keep.refl h0 _
  refine own_by (fun _ k => XS.iloadN X0.here hx rfl (hb hby d11_0) rfl k) ?_
  show own_Fin p e below s _ _ _ s₁ (mkF m 1 #[.val (.ref a1), .val (.int (0 : Int32)), .val (.int (1 : Int32)), .unset, .unset, .unset] [(.int (1 : Int32))])
  obtain ⟨T30, h30, k30, X30, e30, E30, A30, st30⟩ := newP X0 hx hZ (hw _ (List.mem_of_getElem? (i := 27) rfl)) e0 (g := (mkF m 1 #[.val (.ref a1), .val (.int (0 : Int32)), .val (.int (1 : Int32)), .unset, .unset, .unset] [(.int (1 : Int32))])) rfl (hb hby d11_1) rfl (by decide) (cap := 1) (by decide) (by decide) (by decide) (by decide)
  obtain ⟨b30, g30⟩ : ∃ z, z = h0.size := ⟨_, rfl⟩
  rw [← g30] at A30 st30
  refine own_by (fun _ k => st30 _ k) ?_
  have V30 : Arv Z h30 b30 k30 .byte (1 : Int32) [(.int (0 : Int32))] (.int (0 : Int32)) := (Arv.new A30 (by decide)).pad (pad_rep [] (.int (0 : Int32)) 1)
  have ne30_a1 : a1 ≠ b30 := Nat.ne_of_lt (Nat.lt_of_lt_of_le V1.lt (Nat.le_of_eq g30.symm))
  have gf30 : n0 ≤ b30 := Nat.le_trans Z0 (Nat.le_of_eq g30.symm)
  have Zs30 : n0 ≤ h30.size := Nat.le_trans Z0 E30.1
  have Kp30 : Keep h0 h30 [] := Kp29.ext E30
  have sz_b30 : h0.size ≤ b30 := Nat.le_trans Kp29.1 (Nat.le_of_eq g30.symm)
  have f31_0 : Arv Z h30 a1 kc .char (1 : Int32) [(.int x0)] (.int (0 : Int32)) := V1.ext E30
  show own_Fin p e below s _ _ _ T30 (mkF m 3 #[.val (.ref a1), .val (.int (0 : Int32)), .val (.int (1 : Int32)), .unset, .unset, .unset] [(.ref b30)])
  refine own_by (fun _ k => XS.astoreN X30.here hx rfl (hb hby d11_3) rfl rfl (l' := #[.val (.ref a1), .val (.int (0 : Int32)), .val (.int (1 : Int32)), .val (.ref b30), .unset, .unset]) rfl (XS.aloadN X30.here hx rfl (hb hby d11_4) rfl rfl (XS.iloadN X30.here hx rfl (hb hby d11_5) rfl (XS.aloadN X30.here hx rfl (hb hby d11_6) rfl rfl (XS.iconst X30.here hx rfl (hb hby d11_7) (XS.iloadN X30.here hx rfl (hb hby d11_8) rfl k)))))) ?_
  show own_Fin p e below s _ _ _ T30 (mkF m 9 #[.val (.ref a1), .val (.int (0 : Int32)), .val (.int (1 : Int32)), .val (.ref b30), .unset, .unset] [(.int (1 : Int32)), (.int (0 : Int32)), (.ref b30), (.int (0 : Int32)), (.ref a1)])
  obtain ⟨_, _, ⟨T32, L32, k32, n32⟩, -, X32, ⟨Lc32, hQ32, l32, y32, z32⟩, st32⟩ := Jvm.LawKit.callS X30 hx (y := (⟨"java/lang/StringUTF16", "compress", "([CI[BII)I"⟩ : MethodName)) hown (mvT hZ (hw _ (List.mem_of_getElem? (i := 78) rfl))) (mvT hZ (hw _ (List.mem_of_getElem? (i := 79) rfl))) (mvT hZ (hw _ (List.mem_of_getElem? (i := 76) rfl))) (mvT hZ (hw _ (List.mem_of_getElem? (i := 80) rfl))) (by decide) (backOf (W := 0) (rmCI1 l Z a0 hw [] a1 b30 kc k30 x0 h30 n0 Zs30 f31_0 V30 ne30_a1 gf30 hx0) hZ (hw _ (List.mem_of_getElem? (i := 80) rfl)) (hw _ (List.mem_of_getElem? (i := 76) rfl)) (by decide) (by decide)) (g := (mkF m 9 #[.val (.ref a1), .val (.int (0 : Int32)), .val (.int (1 : Int32)), .val (.ref b30), .unset, .unset] [(.int (1 : Int32)), (.int (0 : Int32)), (.ref b30), (.int (0 : Int32)), (.ref a1)])) rfl (by rw [hml]; rfl) (argsL := [(.ref a1), (.int (0 : Int32)), (.ref b30), (.int (0 : Int32)), (.int (1 : Int32))]) (rest := []) (lenOf own_pd102 rfl) rfl (by show 2 * 0 + _ ≤ _; exact Nat.le_of_eq rfl) (hb hby d11_9) (fun _ _ => ⟨rfl, e30, (by decide : 1 + 0 ≤ _), (by decide : 1 + 0 ≤ _)⟩)
  dsimp only [Pt.U, Pt.locs, Pt.cells, Pt.slots] at X32 l32 y32 z32 st32 hQ32
  subst l32 y32 z32
  obtain ⟨rfl, Nq32, K32, Vr32⟩ := hQ32
  have N32 := Fr.app N0 Nq32
  refine own_by (fun _ k => st32 _ k) ?_
  have Zs32 : n0 ≤ T32.heap.size := Nat.le_trans Zs30 K32.1
  have Kp32 : Keep h0 T32.heap [] := Kp30.trans K32 (allS (Or.inr sz_b30) all0)
  have f33_0 : Arv Z T32.heap a1 kc .char (1 : Int32) [(.int x0)] (.int (0 : Int32)) := f31_0.keep K32 (ninS ne30_a1 nin0)
  show own_Fin p e below s _ _ _ T32 (mkF m 12 #[.val (.ref a1), .val (.int (0 : Int32)), .val (.int (1 : Int32)), .val (.ref b30), .unset, .unset] [(.int (1 : Int32))])
  refine own_by (fun _ k => XS.istore X32.here hx rfl (hb hby d11_12) rfl (l' := #[.val (.ref a1), .val (.int (0 : Int32)), .val (.int (1 : Int32)), .val (.ref b30), .val (.int (1 : Int32)), .unset]) rfl (XS.iload X32.here hx rfl (hb hby d11_14) rfl (XS.iloadN X32.here hx rfl (hb hby d11_16) rfl k))) ?_
  show own_Fin p e below s _ _ _ T32 (mkF m 17 #[.val (.ref a1), .val (.int (0 : Int32)), .val (.int (1 : Int32)), .val (.ref b30), .val (.int (1 : Int32)), .unset] [(.int (1 : Int32)), (.int (1 : Int32))])
  refine own_by (fun _ k => XS.icmpYes X32.here hx rfl (pc0 := 17) (pc' := 57) rfl (hb hby d11_17) rfl (teq (by decide : (1 : Int32) = (1 : Int32))).1 (by decide) (by decide) k) ?_
  show own_Fin p e below s _ _ _ T32 (mkF m 57 #[.val (.ref a1), .val (.int (0 : Int32)), .val (.int (1 : Int32)), .val (.ref b30), .val (.int (1 : Int32)), .unset] [])
  refine own_by (fun _ k => XS.aloadN X32.here hx rfl (hb hby d11_57) rfl rfl k) ?_
  show own_Fin p e below s _ _ _ T32 (mkF m 58 #[.val (.ref a1), .val (.int (0 : Int32)), .val (.int (1 : Int32)), .val (.ref b30), .val (.int (1 : Int32)), .unset] [(.ref b30)])
  exact own_retA X32 hx hlk (t := (.array .byte)) hret rfl rfl rfl (hb hby d11_58) ⟨_, _, rfl, N32, Kp32, sz_b30, Vr32⟩ (by decide) (by decide)
theorem d13_0 : decode jdk_52_method_15_code 0 = .ok (.iload_n 1, 1) := by decide +kernel
theorem d13_1 : decode jdk_52_method_15_code 1 = .ok (.aload_n 0, 1) := by decide +kernel
theorem d13_2 : decode jdk_52_method_15_code 2 = .ok (.arraylength, 1) := by decide +kernel
theorem d13_3 : decode jdk_52_method_15_code 3 = .ok (.isub, 1) := by decide +kernel
theorem d13_4 : decode jdk_52_method_15_code 4 = .ok (.bipush 31, 2) := by decide +kernel
theorem d13_6 : decode jdk_52_method_15_code 6 = .ok (.iushr, 1) := by decide +kernel
theorem d13_7 : decode jdk_52_method_15_code 7 = .ok (.i2b, 1) := by decide +kernel
theorem d13_8 : decode jdk_52_method_15_code 8 = .ok (.ireturn, 1) := by decide +kernel
theorem ef_rmCL1_1 (m : MethodId) (x0 : Addr) (x1 : Int32) : entryFrame m #[(.ref x0), (.int x1)] 2 = mkF m 0 #[.val (.ref x0), .val (.int x1)] [] := by first | (simp [entryFrame, mkF, argsToLocals, Value.category]; done) | rfl
def own_Qcl1_1 (h0 : Heap) (n0 : Nat) (v : Option Value) (h : Heap) (L : List Loc) : Prop := v = some (.int (0 : Int32)) ∧ Fr n0 L ∧ h = h0
set_option maxRecDepth 65536 in
set_option maxHeartbeats 40000000 in
theorem rmCL1_1 (l : Launch) (Z : State) (a0 : Array Value) (hw : ∀ d ∈ tables_1, d.before a0 Z = true) (ws : List Jvm.Cond) (a1 : Addr) (k1 : ClassId) (vs : List Value) (h0 : Heap) (n0 : Nat) (Z0 : n0 ≤ h0.size) (V1 : Arv Z h0 a1 k1 .byte (1 : Int32) vs (.int (0 : Int32))) : own_Met l Z (⟨"java/lang/StringUTF16", "coderFromArrayLen", "([BI)B"⟩ : MethodName) jdk_52_method_15_code 2 (some .byte) ws (own_R 0 0 0 0) #[(.ref a1), (.int (1 : Int32))] h0 (own_Qcl1_1 h0 n0) := by
  refine own_enter n0 own_pn68 (fun m => ef_rmCL1_1 m a1 (1 : Int32) ) (fun p e s m below meth c s₁ hx hby hlk hml hret hown hnm hZ X0 e0 N0 => ?_)
  show own_Fin p e below s _ _ _ s₁ (mkF m 0 #[.val (.ref a1), .val (.int (1 : Int32))] [])
  refine own_by (fun _ k => XS.iloadN X0.here hx rfl (hb hby d13_0) rfl (XS.aloadN X0.here hx rfl (hb hby d13_1) rfl rfl k)) ?_
  show own_Fin p e below s _ _ _ s₁ (mkF m 2 #[.val (.ref a1), .val (.int (1 : Int32))] [(.ref a1), (.int (1 : Int32))])
  obtain ⟨cl34, Ar34, -, S34, M34, -, -⟩ := id V1
  refine own_by (fun _ k => X0.arraylength hx (by rw [e0]; exact Ar34.1) (State.isArrayOf_alike hZ.alike Ar34.2.1) (g := (mkF m 2 #[.val (.ref a1), .val (.int (1 : Int32))] [(.ref a1), (.int (1 : Int32))])) rfl rfl (hb hby d13_2) _ k) ?_
  rw [len_of S34 M34]
  show own_Fin p e below s _ _ _ s₁ (mkF m 3 #[.val (.ref a1), .val (.int (1 : Int32))] [(.int (1 : Int32)), (.int (1 : Int32))])
  refine own_by (fun _ k => XS.isub X0.here hx rfl (hb hby d13_3) rfl k) ?_
  show own_Fin p e below s _ _ _ s₁ (mkF m 4 #[.val (.ref a1), .val (.int (1 : Int32))] [(.int ((1 : Int32) - (1 : Int32)))])
  rw [(by decide : ((1 : Int32) - (1 : Int32)) = (0 : Int32))]
  show own_Fin p e below s _ _ _ s₁ (mkF m 4 #[.val (.ref a1), .val (.int (1 : Int32))] [(.int (0 : Int32))])
  refine own_by (fun _ k => XS.bipush X0.here hx rfl (hb hby d13_4) (XS.iushr X0.here hx rfl (hb hby d13_6) rfl k)) ?_
  show own_Fin p e below s _ _ _ s₁ (mkF m 7 #[.val (.ref a1), .val (.int (1 : Int32))] [(.int (((0 : Int32).toUInt32 >>> ((31 : Int32) &&& 31).toUInt32).toInt32))])
  rw [(by decide : (((0 : Int32).toUInt32 >>> ((31 : Int32) &&& 31).toUInt32).toInt32) = (0 : Int32))]
  show own_Fin p e below s _ _ _ s₁ (mkF m 7 #[.val (.ref a1), .val (.int (1 : Int32))] [(.int (0 : Int32))])
  refine own_by (fun _ k => XS.i2b X0.here hx rfl (hb hby d13_7) rfl k) ?_
  show own_Fin p e below s _ _ _ s₁ (mkF m 8 #[.val (.ref a1), .val (.int (1 : Int32))] [(.int ((0 : Int32).toInt8.toInt32))])
  rw [(by decide : ((0 : Int32).toInt8.toInt32) = (0 : Int32))]
  show own_Fin p e below s _ _ _ s₁ (mkF m 8 #[.val (.ref a1), .val (.int (1 : Int32))] [(.int (0 : Int32))])
  exact own_retZ X0 hx hlk (t := .byte) hret (by simp) (hb hby d13_8) ⟨rfl, N0, e0⟩ (by decide) (by decide)
theorem own_pn119 : plainName "java/lang/String" = true := by first | (simp [plainName, overriddenIn]; done) | decide +kernel
theorem d4_0 : decode jdk_42_method_149_code 0 = .ok (.aload_n 0, 1) := by decide +kernel
theorem d4_1 : decode jdk_42_method_149_code 1 = .ok (.invokespecial 1, 3) := by decide +kernel
theorem d4_4 : decode jdk_42_method_149_code 4 = .ok (.iload_n 3, 1) := by decide +kernel
theorem d4_5 : decode jdk_42_method_149_code 5 = .ok (.ifCond .ne 22, 3) := by decide +kernel
theorem d4_27 : decode jdk_42_method_149_code 27 = .ok (.getstatic 38, 3) := by decide +kernel
theorem d4_30 : decode jdk_42_method_149_code 30 = .ok (.ifCond .eq 28, 3) := by decide +kernel
theorem d4_33 : decode jdk_42_method_149_code 33 = .ok (.aload_n 1, 1) := by decide +kernel
theorem d4_34 : decode jdk_42_method_149_code 34 = .ok (.iload_n 2, 1) := by decide +kernel
theorem d4_35 : decode jdk_42_method_149_code 35 = .ok (.iload_n 3, 1) := by decide +kernel
theorem d4_36 : decode jdk_42_method_149_code 36 = .ok (.invokestatic 177, 3) := by decide +kernel
theorem own_pd130 : parseMethodDescriptor "([CII)[B" = some ⟨[(.array .char), .int, .int], some (.array .byte)⟩ := by decide +kernel
theorem d4_39 : decode jdk_42_method_149_code 39 = .ok (.astore 5, 2) := by decide +kernel
theorem d4_41 : decode jdk_42_method_149_code 41 = .ok (.aload_n 0, 1) := by decide +kernel
theorem d4_42 : decode jdk_42_method_149_code 42 = .ok (.aload 5, 2) := by decide +kernel
theorem d4_44 : decode jdk_42_method_149_code 44 = .ok (.iload_n 3, 1) := by decide +kernel
theorem d4_45 : decode jdk_42_method_149_code 45 = .ok (.invokestatic 47, 3) := by decide +kernel
theorem own_pd136 : parseMethodDescriptor "([BI)B" = some ⟨[(.array .byte), .int], some .byte⟩ := by decide +kernel
theorem d4_48 : decode jdk_42_method_149_code 48 = .ok (.putfield 15, 3) := by decide +kernel
theorem d4_51 : decode jdk_42_method_149_code 51 = .ok (.aload_n 0, 1) := by decide +kernel
theorem d4_52 : decode jdk_42_method_149_code 52 = .ok (.aload 5, 2) := by decide +kernel
theorem d4_54 : decode jdk_42_method_149_code 54 = .ok (.putfield 9, 3) := by decide +kernel
theorem d4_57 : decode jdk_42_method_149_code 57 = .ok (.return_, 1) := by decide +kernel
theorem ef_rmSI1 (m : MethodId) (x0 : Addr) (x1 : Addr) (x2 : Int32) (x3 : Int32) : entryFrame m #[(.ref x0), (.ref x1), (.int x2), (.int x3), .null] 6 = mkF m 0 #[.val (.ref x0), .val (.ref x1), .val (.int x2), .val (.int x3), .val .null, .unset] [] := by first | (simp [entryFrame, mkF, argsToLocals, Value.category]; done) | rfl
def own_Qsi1 (Z : State) (a1 : Addr) (x0 : Int32) (h0 : Heap) (n0 : Nat) (v : Option Value) (h : Heap) (L : List Loc) : Prop := ∃ (b : Addr) (k : ClassId), v = none ∧ Fr n0 L ∧ Keep h0 h [a1] ∧ Fld Z h a1 "java/lang/String" "coder" "B" (.int (0 : Int32)) ∧ Fld Z h a1 "java/lang/String" "value" "[B" (.ref b) ∧ Arv Z h b k .byte (1 : Int32) [(.int x0.toInt8.toInt32)] (.int (0 : Int32))
set_option maxRecDepth 65536 in
set_option maxHeartbeats 40000000 in
theorem rmSI1 (l : Launch) (Z : State) (a0 : Array Value) (hw : ∀ d ∈ tables_1, d.before a0 Z = true) (ws : List Jvm.Cond) (a1 a2 : Addr) (kc : ClassId) (cs : Int32) (x0 : Int32) (h0 : Heap) (n0 : Nat) (Z0 : n0 ≤ h0.size) (E_a1 : Exa Z h0 a1 "java/lang/String") (F_v : Fld Z h0 a1 "java/lang/String" "value" "[B" .null) (F_c : Fld Z h0 a1 "java/lang/String" "coder" "B" (.int (0 : Int32))) (g_a1 : n0 ≤ a1) (V2 : Arv Z h0 a2 kc .char (1 : Int32) [(.int x0)] (.int (0 : Int32))) (ne12 : a2 ≠ a1) (hx0 : ¬ (255 : Int32) < x0) (S_cs : Sta Z h0 "java/lang/String" "COMPACT_STRINGS" "Z" (.int cs)) (hcs : ¬ cs = (0 : Int32)) : own_Met l Z (⟨"java/lang/String", "<init>", "([CIILjava/lang/Void;)V"⟩ : MethodName) jdk_42_method_149_code 6 none ws (own_R 2 1 1 45) #[(.ref a1), (.ref a2), (.int (0 : Int32)), (.int (1 : Int32)), .null] h0 (own_Qsi1 Z a1 x0 h0 n0) := by
  refine own_enter n0 own_pn119 (fun m => ef_rmSI1 m a1 a2 (0 : Int32) (1 : Int32) ) (fun p e s m below meth c s₁ hx hby hlk hml hret hown hnm hZ X0 e0 N0 => ?_)
  show own_Fin p e below s _ _ _ s₁ (mkF m 0 #[.val (.ref a1), .val (.ref a2), .val (.int (0 : Int32)), .val (.int (1 : Int32)), .val .null, .unset] [])
  have Kp35 : Keep h0 h0 [a1] := Keep.refl h0 _
  refine own_by (fun _ k => XS.aloadN X0.here hx rfl (hb hby d4_0) rfl rfl k) ?_
  show own_Fin p e below s _ _ _ s₁ (mkF m 1 #[.val (.ref a1), .val (.ref a2), .val (.int (0 : Int32)), .val (.int (1 : Int32)), .val .null, .unset] [(.ref a1)])
  obtain ⟨T36, X36, e36, st36⟩ := initO X0 hx hZ hown (hw _ (List.mem_of_getElem? (i := 23) rfl)) (hw _ (List.mem_of_getElem? (i := 24) rfl)) (hw _ (List.mem_of_getElem? (i := 25) rfl)) e0 (g := (mkF m 1 #[.val (.ref a1), .val (.ref a2), .val (.int (0 : Int32)), .val (.int (1 : Int32)), .val .null, .unset] [(.ref a1)])) rfl (by rw [hml]; rfl) rfl (hb hby d4_1) (by decide) (W := 0) (by show 2 * 0 + _ ≤ _; exact Nat.le_of_eq rfl) (by decide)
  refine own_by (fun _ k => st36 _ k) ?_
  show own_Fin p e below s _ _ _ T36 (mkF m 4 #[.val (.ref a1), .val (.ref a2), .val (.int (0 : Int32)), .val (.int (1 : Int32)), .val .null, .unset] [])
  refine own_by (fun _ k => XS.iloadN X36.here hx rfl (hb hby d4_4) rfl k) ?_
  show own_Fin p e below s _ _ _ T36 (mkF m 5 #[.val (.ref a1), .val (.ref a2), .val (.int (0 : Int32)), .val (.int (1 : Int32)), .val .null, .unset] [(.int (1 : Int32))])
  refine own_by (fun _ k => XS.ifYes X36.here hx rfl (pc0 := 5) (pc' := 27) rfl (hb hby d4_5) rfl ((if0 _ _).trans (feq (by decide : ¬ ((1 : Int32) = (0 : Int32)))).2) (by decide) (by decide) k) ?_
  show own_Fin p e below s _ _ _ T36 (mkF m 27 #[.val (.ref a1), .val (.ref a2), .val (.int (0 : Int32)), .val (.int (1 : Int32)), .val .null, .unset] [])
  obtain ⟨T37, X37, e37, st37⟩ := getS2 X36 hx hZ hown (host := "") (Or.inl (hw _ (List.mem_of_getElem? (i := 61) rfl))) Via.refl e36 S_cs (g := (mkF m 27 #[.val (.ref a1), .val (.ref a2), .val (.int (0 : Int32)), .val (.int (1 : Int32)), .val .null, .unset] [])) rfl (hb hby d4_27)
  refine own_by (fun _ k => st37 _ k) ?_
  show own_Fin p e below s _ _ _ T37 (mkF m 30 #[.val (.ref a1), .val (.ref a2), .val (.int (0 : Int32)), .val (.int (1 : Int32)), .val .null, .unset] [(.int cs)])
  refine own_by (fun _ k => XS.ifNo X37.here hx rfl (hb hby d4_30) rfl ((if0 _ _).trans (feq hcs).1) k) ?_
  show own_Fin p e below s _ _ _ T37 (mkF m 33 #[.val (.ref a1), .val (.ref a2), .val (.int (0 : Int32)), .val (.int (1 : Int32)), .val .null, .unset] [])
  refine own_by (fun _ k => XS.aloadN X37.here hx rfl (hb hby d4_33) rfl rfl (XS.iloadN X37.here hx rfl (hb hby d4_34) rfl (XS.iloadN X37.here hx rfl (hb hby d4_35) rfl k))) ?_
  show own_Fin p e below s _ _ _ T37 (mkF m 36 #[.val (.ref a1), .val (.ref a2), .val (.int (0 : Int32)), .val (.int (1 : Int32)), .val .null, .unset] [(.int (1 : Int32)), (.int (0 : Int32)), (.ref a2)])
  obtain ⟨_, _, ⟨T38, L38, k38, n38⟩, -, X38, ⟨Lc38, hQ38, l38, y38, z38⟩, st38⟩ := Jvm.LawKit.callS X37 hx (y := (⟨"java/lang/StringUTF16", "compress", "([CII)[B"⟩ : MethodName)) hown (mvT hZ (hw _ (List.mem_of_getElem? (i := 74) rfl))) (mvT hZ (hw _ (List.mem_of_getElem? (i := 75) rfl))) (mvT hZ (hw _ (List.mem_of_getElem? (i := 76) rfl))) (mvT hZ (hw _ (List.mem_of_getElem? (i := 77) rfl))) (by decide) (backOf (W := 0) (rmCO1 l Z a0 hw [] a2 kc x0 h0 n0 Z0 V2 hx0) hZ (hw _ (List.mem_of_getElem? (i := 77) rfl)) (hw _ (List.mem_of_getElem? (i := 76) rfl)) (by decide) (by decide)) (g := (mkF m 36 #[.val (.ref a1), .val (.ref a2), .val (.int (0 : Int32)), .val (.int (1 : Int32)), .val .null, .unset] [(.int (1 : Int32)), (.int (0 : Int32)), (.ref a2)])) rfl (by rw [hml]; rfl) (argsL := [(.ref a2), (.int (0 : Int32)), (.int (1 : Int32))]) (rest := []) (lenOf own_pd130 rfl) rfl (by show 2 * 0 + _ ≤ _; exact Nat.le_of_eq rfl) (hb hby d4_36) (fun _ _ => ⟨rfl, e37, (by decide : 0 + 1 ≤ _), (by decide : 0 + 1 ≤ _)⟩)
  dsimp only [Pt.U, Pt.locs, Pt.cells, Pt.slots] at X38 l38 y38 z38 st38 hQ38
  subst l38 y38 z38
  obtain ⟨b38, k38, rfl, Nq38, K38, ge38, V38⟩ := hQ38
  have N38 := Fr.app N0 Nq38
  refine own_by (fun _ k => st38 _ k) ?_
  have Zs38 : n0 ≤ T38.heap.size := Nat.le_trans Z0 K38.1
  have Kp38 : Keep h0 T38.heap [a1] := Kp35.trans K38 all0
  have f39_0 : Exa Z T38.heap a1 "java/lang/String" := E_a1.keep K38
  have f39_1 : Fld Z T38.heap a1 "java/lang/String" "value" "[B" .null := F_v.keep K38 nin0
  have f39_2 : Fld Z T38.heap a1 "java/lang/String" "coder" "B" (.int (0 : Int32)) := F_c.keep K38 nin0
  have f39_3 : Arv Z T38.heap a2 kc .char (1 : Int32) [(.int x0)] (.int (0 : Int32)) := V2.keep K38 nin0
  have ne38_a1 : a1 ≠ b38 := Nat.ne_of_lt (Nat.lt_of_lt_of_le E_a1.lt ge38)
  have ne38_a2 : a2 ≠ b38 := Nat.ne_of_lt (Nat.lt_of_lt_of_le V2.lt ge38)
  show own_Fin p e below s _ _ _ T38 (mkF m 39 #[.val (.ref a1), .val (.ref a2), .val (.int (0 : Int32)), .val (.int (1 : Int32)), .val .null, .unset] [(.ref b38)])
  refine own_by (fun _ k => XS.astore X38.here hx rfl (hb hby d4_39) rfl rfl (l' := #[.val (.ref a1), .val (.ref a2), .val (.int (0 : Int32)), .val (.int (1 : Int32)), .val .null, .val (.ref b38)]) rfl (XS.aloadN X38.here hx rfl (hb hby d4_41) rfl rfl (XS.aload X38.here hx rfl (hb hby d4_42) rfl rfl (XS.iloadN X38.here hx rfl (hb hby d4_44) rfl k)))) ?_
  show own_Fin p e below s _ _ _ T38 (mkF m 45 #[.val (.ref a1), .val (.ref a2), .val (.int (0 : Int32)), .val (.int (1 : Int32)), .val .null, .val (.ref b38)] [(.int (1 : Int32)), (.ref b38), (.ref a1)])
  obtain ⟨_, _, ⟨T40, L40, k40, n40⟩, -, X40, ⟨Lc40, hQ40, l40, y40, z40⟩, st40⟩ := Jvm.LawKit.callS X38 hx (y := (⟨"java/lang/StringUTF16", "coderFromArrayLen", "([BI)B"⟩ : MethodName)) hown (mvT hZ (hw _ (List.mem_of_getElem? (i := 81) rfl))) (mvT hZ (hw _ (List.mem_of_getElem? (i := 82) rfl))) (mvT hZ (hw _ (List.mem_of_getElem? (i := 76) rfl))) (mvT hZ (hw _ (List.mem_of_getElem? (i := 83) rfl))) (by decide) (backOf (W := 1) (rmCL1_1 l Z a0 hw [] b38 k38 [(.int x0.toInt8.toInt32)] T38.heap n0 Zs38 V38) hZ (hw _ (List.mem_of_getElem? (i := 83) rfl)) (hw _ (List.mem_of_getElem? (i := 76) rfl)) (by decide) (by decide)) (g := (mkF m 45 #[.val (.ref a1), .val (.ref a2), .val (.int (0 : Int32)), .val (.int (1 : Int32)), .val .null, .val (.ref b38)] [(.int (1 : Int32)), (.ref b38), (.ref a1)])) rfl (by rw [hml]; rfl) (argsL := [(.ref b38), (.int (1 : Int32))]) (rest := [(.ref a1)]) (lenOf own_pd136 rfl) rfl (by show 2 * 0 + _ ≤ _; exact Nat.le_of_eq rfl) (hb hby d4_45) (fun _ _ => ⟨rfl, rfl, (by decide : 1 + 0 ≤ _), (by decide : 1 + 0 ≤ _)⟩)
  dsimp only [Pt.U, Pt.locs, Pt.cells, Pt.slots] at X40 l40 y40 z40 st40 hQ40
  subst l40 y40 z40
  obtain ⟨rfl, Nq40, eh40⟩ := hQ40
  have N40 := Fr.app N38 Nq40
  refine own_by (fun _ k => st40 _ k) ?_
  show own_Fin p e below s _ _ _ T40 (mkF m 48 #[.val (.ref a1), .val (.ref a2), .val (.int (0 : Int32)), .val (.int (1 : Int32)), .val .null, .val (.ref b38)] [(.int (0 : Int32)), (.ref a1)])
  obtain ⟨T41, h41, X41, e41, W41, st41⟩ := putFN X40 hx hZ hown (hw _ (List.mem_of_getElem? (i := 33) rfl)) Via.refl eh40 f39_2 f39_0 (Or.inr ⟨(hw _ (List.mem_of_getElem? (i := 29) rfl)), rfl, hnm⟩) (hw _ (List.mem_of_getElem? (i := 13) rfl)) (ty := .byte) (v' := (.int (0 : Int32))) (by decide) rfl (by decide) (g := (mkF m 48 #[.val (.ref a1), .val (.ref a2), .val (.int (0 : Int32)), .val (.int (1 : Int32)), .val .null, .val (.ref b38)] [(.int (0 : Int32)), (.ref a1)])) rfl rfl (hb hby d4_48)
  refine own_by (fun _ k => st41 _ k) ?_
  have Fw41 : Fld Z h41 a1 "java/lang/String" "coder" "B" (.int (0 : Int32)) := f39_2.same W41
  have Kp41 : Keep h0 h41 [a1] := Kp38.wr W41 (Or.inl (List.mem_of_getElem? (i := 0) rfl))
  have Zs41 : n0 ≤ h41.size := Nat.le_trans Zs38 (Keep.of_wr W41).1
  have N41 := Fr.snoc X41 N40 g_a1
  have f42_0 : Exa Z h41 a1 "java/lang/String" := f39_0.wr W41
  have f42_1 : Fld Z h41 a1 "java/lang/String" "value" "[B" .null := f39_1.other W41 (Or.inr (slot_ne (Or.inr (hw _ (List.mem_of_getElem? (i := 28) rfl))) (Or.inr (hw _ (List.mem_of_getElem? (i := 29) rfl))) (by decide) (t := (.array .byte)) (t' := .byte) (by decide) (by decide)))
  have f42_3 : Arv Z h41 a2 kc .char (1 : Int32) [(.int x0)] (.int (0 : Int32)) := f39_3.other W41 ne12
  have f42_4 : Arv Z h41 b38 k38 .byte (1 : Int32) [(.int x0.toInt8.toInt32)] (.int (0 : Int32)) := V38.other W41 (Ne.symm ne38_a1)
  show own_Fin p e below s _ _ _ T41 (mkF m 51 #[.val (.ref a1), .val (.ref a2), .val (.int (0 : Int32)), .val (.int (1 : Int32)), .val .null, .val (.ref b38)] [])
  refine own_by (fun _ k => XS.aloadN X41.here hx rfl (hb hby d4_51) rfl rfl (XS.aload X41.here hx rfl (hb hby d4_52) rfl rfl k)) ?_
  show own_Fin p e below s _ _ _ T41 (mkF m 54 #[.val (.ref a1), .val (.ref a2), .val (.int (0 : Int32)), .val (.int (1 : Int32)), .val .null, .val (.ref b38)] [(.ref b38), (.ref a1)])
  obtain ⟨T43, h43, X43, e43, W43, st43⟩ := putF X41 hx hZ hown (host := "") (Or.inl (hw _ (List.mem_of_getElem? (i := 32) rfl))) Via.refl e41 f42_1 f42_0 (Or.inr ⟨(hw _ (List.mem_of_getElem? (i := 28) rfl)), rfl, hnm⟩) (hw _ (List.mem_of_getElem? (i := 13) rfl)) (ty := (.array .byte)) (by decide) rfl rfl (g := (mkF m 54 #[.val (.ref a1), .val (.ref a2), .val (.int (0 : Int32)), .val (.int (1 : Int32)), .val .null, .val (.ref b38)] [(.ref b38), (.ref a1)])) rfl rfl (hb hby d4_54)
  refine own_by (fun _ k => st43 _ k) ?_
  have Fw43 : Fld Z h43 a1 "java/lang/String" "value" "[B" (.ref b38) := f42_1.same W43
  have Kp43 : Keep h0 h43 [a1] := Kp41.wr W43 (Or.inl (List.mem_of_getElem? (i := 0) rfl))
  have Zs43 : n0 ≤ h43.size := Nat.le_trans Zs41 (Keep.of_wr W43).1
  have N43 := Fr.snoc X43 N41 g_a1
  have f44_0 : Exa Z h43 a1 "java/lang/String" := f42_0.wr W43
  have f44_2 : Arv Z h43 a2 kc .char (1 : Int32) [(.int x0)] (.int (0 : Int32)) := f42_3.other W43 ne12
  have f44_3 : Arv Z h43 b38 k38 .byte (1 : Int32) [(.int x0.toInt8.toInt32)] (.int (0 : Int32)) := f42_4.other W43 (Ne.symm ne38_a1)
  have f44_4 : Fld Z h43 a1 "java/lang/String" "coder" "B" (.int (0 : Int32)) := Fw41.other W43 (Or.inr (slot_ne (Or.inr (hw _ (List.mem_of_getElem? (i := 29) rfl))) (Or.inr (hw _ (List.mem_of_getElem? (i := 28) rfl))) (by decide) (t := .byte) (t' := (.array .byte)) (by decide) (by decide)))
  show own_Fin p e below s _ _ _ T43 (mkF m 57 #[.val (.ref a1), .val (.ref a2), .val (.int (0 : Int32)), .val (.int (1 : Int32)), .val .null, .val (.ref b38)] [])
  exact own_retV X43 hx hlk hret (hb hby d4_57) (by rw [e43]; exact ⟨_, _, rfl, N43, Kp43, f44_4, Fw43, f44_3⟩) (by decide) (by decide)
theorem d3_0 : decode jdk_42_method_3_code 0 = .ok (.aload_n 0, 1) := by decide +kernel
theorem d3_1 : decode jdk_42_method_3_code 1 = .ok (.aload_n 1, 1) := by decide +kernel
theorem d3_2 : decode jdk_42_method_3_code 2 = .ok (.iconst 0, 1) := by decide +kernel
theorem d3_3 : decode jdk_42_method_3_code 3 = .ok (.aload_n 1, 1) := by decide +kernel
theorem d3_4 : decode jdk_42_method_3_code 4 = .ok (.arraylength, 1) := by decide +kernel
theorem d3_5 : decode jdk_42_method_3_code 5 = .ok (.aconst_null, 1) := by decide +kernel
theorem d3_6 : decode jdk_42_method_3_code 6 = .ok (.invokespecial 27, 3) := by decide +kernel
theorem own_pd150 : parseMethodDescriptor "([CIILjava/lang/Void;)V" = some ⟨[(.array .char), .int, .int, (.object "java/lang/Void")], none⟩ := by decide +kernel
theorem d3_9 : decode jdk_42_method_3_code 9 = .ok (.return_, 1) := by decide +kernel
theorem ef_rmSC1 (m : MethodId) (x0 : Addr) (x1 : Addr) : entryFrame m #[(.ref x0), (.ref x1)] 2 = mkF m 0 #[.val (.ref x0), .val (.ref x1)] [] := by first | (simp [entryFrame, mkF, argsToLocals, Value.category]; done) | rfl
set_option maxRecDepth 65536 in
set_option maxHeartbeats 40000000 in
theorem rmSC1 (l : Launch) (Z : State) (a0 : Array Value) (hw : ∀ d ∈ tables_1, d.before a0 Z = true) (ws : List Jvm.Cond) (a1 a2 : Addr) (kc : ClassId) (cs : Int32) (x0 : Int32) (h0 : Heap) (n0 : Nat) (Z0 : n0 ≤ h0.size) (E_a1 : Exa Z h0 a1 "java/lang/String") (F_v : Fld Z h0 a1 "java/lang/String" "value" "[B" .null) (F_c : Fld Z h0 a1 "java/lang/String" "coder" "B" (.int (0 : Int32))) (g_a1 : n0 ≤ a1) (V2 : Arv Z h0 a2 kc .char (1 : Int32) [(.int x0)] (.int (0 : Int32))) (ne12 : a2 ≠ a1) (hx0 : ¬ (255 : Int32) < x0) (S_cs : Sta Z h0 "java/lang/String" "COMPACT_STRINGS" "Z" (.int cs)) (hcs : ¬ cs = (0 : Int32)) : own_Met l Z (⟨"java/lang/String", "<init>", "([C)V"⟩ : MethodName) jdk_42_method_3_code 2 none ws (own_R 3 1 1 64) #[(.ref a1), (.ref a2)] h0 (own_Qsi1 Z a1 x0 h0 n0) := by
  refine own_enter n0 own_pn119 (fun m => ef_rmSC1 m a1 a2 ) (fun p e s m below meth c s₁ hx hby hlk hml hret hown hnm hZ X0 e0 N0 => ?_)
  show own_Fin p e below s _ _ _ s₁ (mkF m 0 #[.val (.ref a1), .val (.ref a2)] [])
  have Kp45 : Keep h0 h0 [a1] := Keep.refl h0 _
  refine own_by (fun _ k => XS.aloadN X0.here hx rfl (hb hby d3_0) rfl rfl (XS.aloadN X0.here hx rfl (hb hby d3_1) rfl rfl (XS.iconst X0.here hx rfl (hb hby d3_2) (XS.aloadN X0.here hx rfl (hb hby d3_3) rfl rfl k)))) ?_
  show own_Fin p e below s _ _ _ s₁ (mkF m 4 #[.val (.ref a1), .val (.ref a2)] [(.ref a2), (.int (0 : Int32)), (.ref a2), (.ref a1)])
  obtain ⟨cl46, Ar46, -, S46, M46, -, -⟩ := id V2
  refine own_by (fun _ k => X0.arraylength hx (by rw [e0]; exact Ar46.1) (State.isArrayOf_alike hZ.alike Ar46.2.1) (g := (mkF m 4 #[.val (.ref a1), .val (.ref a2)] [(.ref a2), (.int (0 : Int32)), (.ref a2), (.ref a1)])) rfl rfl (hb hby d3_4) _ k) ?_
  rw [len_of S46 M46]
  show own_Fin p e below s _ _ _ s₁ (mkF m 5 #[.val (.ref a1), .val (.ref a2)] [(.int (1 : Int32)), (.int (0 : Int32)), (.ref a2), (.ref a1)])
  refine own_by (fun _ k => XS.aconstNull X0.here hx rfl (hb hby d3_5) k) ?_
  show own_Fin p e below s _ _ _ s₁ (mkF m 6 #[.val (.ref a1), .val (.ref a2)] [.null, (.int (1 : Int32)), (.int (0 : Int32)), (.ref a2), (.ref a1)])
  obtain ⟨_, _, ⟨T47, L47, k47, n47⟩, -, X47, ⟨Lc47, hQ47, l47, y47, z47⟩, st47⟩ := X0.specialBack hx (y := (⟨"java/lang/String", "<init>", "([CIILjava/lang/Void;)V"⟩ : MethodName)) rfl hown (mvT hZ (hw _ (List.mem_of_getElem? (i := 19) rfl))) (mvT hZ (hw _ (List.mem_of_getElem? (i := 20) rfl))) (mvT hZ (hw _ (List.mem_of_getElem? (i := 22) rfl))) (by decide) (backOf (W := 0) (rmSI1 l Z a0 hw [] a1 a2 kc cs x0 h0 n0 Z0 E_a1 F_v F_c g_a1 V2 ne12 hx0 S_cs hcs) hZ (hw _ (List.mem_of_getElem? (i := 22) rfl)) (hw _ (List.mem_of_getElem? (i := 14) rfl)) (by decide) (by decide)) (g := (mkF m 6 #[.val (.ref a1), .val (.ref a2)] [.null, (.int (1 : Int32)), (.int (0 : Int32)), (.ref a2), (.ref a1)])) rfl (by rw [hml]; rfl) (Steps.refl _) (a := a1) (argsL := [(.ref a2), (.int (0 : Int32)), (.int (1 : Int32)), .null]) (rest := []) (lenOf own_pd150 rfl) rfl (by show 2 * 0 + _ ≤ _; exact Nat.le_of_eq rfl) (hb hby d3_6) (fun _ _ => ⟨rfl, e0, (by decide : 0 + 1 ≤ _), (by decide : 0 + 1 ≤ _)⟩)
  dsimp only [Pt.U, Pt.locs, Pt.cells, Pt.slots] at X47 l47 y47 z47 st47 hQ47
  subst l47 y47 z47
  obtain ⟨b47, k47, rfl, Nq47, K47, Gc47, Gv47, V47⟩ := hQ47
  have N47 := Fr.app N0 Nq47
  refine own_by (fun _ k => st47.trans k) ?_
  have Zs47 : n0 ≤ T47.heap.size := Nat.le_trans Z0 K47.1
  have Kp47 : Keep h0 T47.heap [a1] := Kp45.trans K47 (allS (Or.inl (List.mem_of_getElem? (i := 0) rfl)) all0)
  have f48_0 : Exa Z T47.heap a1 "java/lang/String" := E_a1.keep K47
  have f48_3 : Arv Z T47.heap a2 kc .char (1 : Int32) [(.int x0)] (.int (0 : Int32)) := V2.keep K47 (ninS ne12 nin0)
  show own_Fin p e below s _ _ _ T47 (mkF m 9 #[.val (.ref a1), .val (.ref a2)] [])
  exact own_retV X47 hx hlk hret (hb hby d3_9) ⟨_, _, rfl, N47, Kp47, Gc47, Gv47, V47⟩ (by decide) (by decide)
theorem ef_rmCI2 (m : MethodId) (x0 : Addr) (x1 : Int32) (x2 : Addr) (x3 : Int32) (x4 : Int32) : entryFrame m #[(.ref x0), (.int x1), (.ref x2), (.int x3), (.int x4)] 7 = mkF m 0 #[.val (.ref x0), .val (.int x1), .val (.ref x2), .val (.int x3), .val (.int x4), .unset, .unset] [] := by first | (simp [entryFrame, mkF, argsToLocals, Value.category]; done) | rfl
def own_Qci2 (Z : State) (a3 : Addr) (kb : ClassId) (x0 x1 : Int32) (h0 : Heap) (n0 : Nat) (v : Option Value) (h : Heap) (L : List Loc) : Prop := v = some (.int (2 : Int32)) ∧ Fr n0 L ∧ Keep h0 h [a3] ∧ Arv Z h a3 kb .byte (2 : Int32) [(.int x0.toInt8.toInt32), (.int x1.toInt8.toInt32)] (.int (0 : Int32))
set_option maxRecDepth 65536 in
set_option maxHeartbeats 40000000 in
theorem rmCI2 (l : Launch) (Z : State) (a0 : Array Value) (hw : ∀ d ∈ tables_1, d.before a0 Z = true) (ws : List Jvm.Cond) (a1 a3 : Addr) (kc kb : ClassId) (x0 x1 : Int32) (h0 : Heap) (n0 : Nat) (Z0 : n0 ≤ h0.size) (V1 : Arv Z h0 a1 kc .char (2 : Int32) [(.int x0), (.int x1)] (.int (0 : Int32))) (V3 : Arv Z h0 a3 kb .byte (2 : Int32) [(.int (0 : Int32)), (.int (0 : Int32))] (.int (0 : Int32))) (ne13 : a1 ≠ a3) (g_3 : n0 ≤ a3) (hx0 : ¬ (255 : Int32) < x0) (hx1 : ¬ (255 : Int32) < x1) : own_Met l Z (⟨"java/lang/StringUTF16", "compress", "([CI[BII)I"⟩ : MethodName) jdk_52_method_21_code 7 (some .int) ws (own_R 0 0 0 0) #[(.ref a1), (.int (0 : Int32)), (.ref a3), (.int (0 : Int32)), (.int (2 : Int32))] h0 (own_Qci2 Z a3 kb x0 x1 h0 n0) := by
  refine own_enter n0 own_pn68 (fun m => ef_rmCI2 m a1 (0 : Int32) a3 (0 : Int32) (2 : Int32) ) (fun p e s m below meth c s₁ hx hby hlk hml hret hown hnm hZ X0 e0 N0 => ?_)
  show own_Fin p e below s _ _ _ s₁ (mkF m 0 #[.val (.ref a1), .val (.int (0 : Int32)), .val (.ref a3), .val (.int (0 : Int32)), .val (.int (2 : Int32)), .unset, .unset] [])
  have Kp49 : Keep h0 h0 [a3] := Keep.refl h0 _
  refine own_by (fun _ k => XS.iconst X0.here hx rfl (hb hby d12_0) (XS.istore X0.here hx rfl (hb hby d12_1) rfl (l' := #[.val (.ref a1), .val (.int (0 : Int32)), .val (.ref a3), .val (.int (0 : Int32)), .val (.int (2 : Int32)), .val (.int (0 : Int32)), .unset]) rfl (XS.iload X0.here hx rfl (hb hby d12_3) rfl (XS.iload X0.here hx rfl (hb hby d12_5) rfl k)))) ?_
  show own_Fin p e below s _ _ _ s₁ (mkF m 7 #[.val (.ref a1), .val (.int (0 : Int32)), .val (.ref a3), .val (.int (0 : Int32)), .val (.int (2 : Int32)), .val (.int (0 : Int32)), .unset] [(.int (2 : Int32)), (.int (0 : Int32))])
  refine own_by (fun _ k => XS.icmpNo X0.here hx rfl (hb hby d12_7) rfl (tlt (by decide : (0 : Int32) < (2 : Int32))).2.1 k) ?_
  show own_Fin p e below s _ _ _ s₁ (mkF m 10 #[.val (.ref a1), .val (.int (0 : Int32)), .val (.ref a3), .val (.int (0 : Int32)), .val (.int (2 : Int32)), .val (.int (0 : Int32)), .unset] [])
  refine own_by (fun _ k => XS.aloadN X0.here hx rfl (hb hby d12_10) rfl rfl (XS.iloadN X0.here hx rfl (hb hby d12_11) rfl k)) ?_
  show own_Fin p e below s _ _ _ s₁ (mkF m 12 #[.val (.ref a1), .val (.int (0 : Int32)), .val (.ref a3), .val (.int (0 : Int32)), .val (.int (2 : Int32)), .val (.int (0 : Int32)), .unset] [(.int (0 : Int32)), (.ref a1)])
  obtain ⟨cl50, Ar50, -, S50, M50, H50, -⟩ := id V1
  have hin50 : ¬ ((0 : Int32) < 0 ∨ cl50.slots.size ≤ ((0 : Int32)).toNatClampNeg) := inb_of S50 ⟨by decide, by decide⟩
  have hat50 : cl50.slots[((0 : Int32)).toNatClampNeg]? = some (.int x0) := Has.at H50 hin50 rfl
  refine own_by (fun _ k => X0.caload hx (j := (0 : Int32)) (v := (.int x0)) (by rw [e0]; exact Ar50.1) (State.isArrayOf_alike hZ.alike Ar50.2.1) Ar50.2.2 hin50 hat50 (g := (mkF m 12 #[.val (.ref a1), .val (.int (0 : Int32)), .val (.ref a3), .val (.int (0 : Int32)), .val (.int (2 : Int32)), .val (.int (0 : Int32)), .unset] [(.int (0 : Int32)), (.ref a1)])) rfl rfl (hb hby d12_12) _ k) ?_
  show own_Fin p e below s _ _ _ s₁ (mkF m 13 #[.val (.ref a1), .val (.int (0 : Int32)), .val (.ref a3), .val (.int (0 : Int32)), .val (.int (2 : Int32)), .val (.int (0 : Int32)), .unset] [(.int x0)])
  refine own_by (fun _ k => XS.istore X0.here hx rfl (hb hby d12_13) rfl (l' := #[.val (.ref a1), .val (.int (0 : Int32)), .val (.ref a3), .val (.int (0 : Int32)), .val (.int (2 : Int32)), .val (.int (0 : Int32)), .val (.int x0)]) rfl (XS.iload X0.here hx rfl (hb hby d12_15) rfl (XS.sipush X0.here hx rfl (hb hby d12_17) k))) ?_
  show own_Fin p e below s _ _ _ s₁ (mkF m 20 #[.val (.ref a1), .val (.int (0 : Int32)), .val (.ref a3), .val (.int (0 : Int32)), .val (.int (2 : Int32)), .val (.int (0 : Int32)), .val (.int x0)] [(.int (255 : Int32)), (.int x0)])
  refine own_by (fun _ k => XS.icmpYes X0.here hx rfl (pc0 := 20) (pc' := 26) rfl (hb hby d12_20) rfl (flt hx0).2.2.2 (by decide) (by decide) k) ?_
  show own_Fin p e below s _ _ _ s₁ (mkF m 26 #[.val (.ref a1), .val (.int (0 : Int32)), .val (.ref a3), .val (.int (0 : Int32)), .val (.int (2 : Int32)), .val (.int (0 : Int32)), .val (.int x0)] [])
  refine own_by (fun _ k => XS.aloadN X0.here hx rfl (hb hby d12_26) rfl rfl (XS.iloadN X0.here hx rfl (hb hby d12_27) rfl (XS.iload X0.here hx rfl (hb hby d12_28) rfl (XS.i2b X0.here hx rfl (hb hby d12_30) rfl k)))) ?_
  show own_Fin p e below s _ _ _ s₁ (mkF m 31 #[.val (.ref a1), .val (.int (0 : Int32)), .val (.ref a3), .val (.int (0 : Int32)), .val (.int (2 : Int32)), .val (.int (0 : Int32)), .val (.int x0)] [(.int (x0.toInt8.toInt32)), (.int (0 : Int32)), (.ref a3)])
  obtain ⟨cl51, Ar51, q51, S51, M51, H51, G51⟩ := id V3
  have hin51 : ¬ ((0 : Int32) < 0 ∨ cl51.slots.size ≤ ((0 : Int32)).toNatClampNeg) := inb_of S51 ⟨by decide, by decide⟩
  obtain ⟨T51, h51, X51, e51, W51, st51⟩ := stB X0 hx hZ e0 Ar51 (j := (0 : Int32)) hin51 (g := (mkF m 31 #[.val (.ref a1), .val (.int (0 : Int32)), .val (.ref a3), .val (.int (0 : Int32)), .val (.int (2 : Int32)), .val (.int (0 : Int32)), .val (.int x0)] [(.int (x0.toInt8.toInt32)), (.int (0 : Int32)), (.ref a3)])) rfl rfl (hb hby d12_31)
  refine own_by (fun _ k => st51 _ k) ?_
  have V51 : Arv Z h51 a3 kb .byte (2 : Int32) [(.int (x0.toInt8.toInt32).toInt8.toInt32), (.int (0 : Int32))] (.int (0 : Int32)) := Arv.set Ar51 q51 S51 M51 H51 G51 (fits_nar_byte _) W51 0 rfl (Nat.le_of_ble_eq_true rfl)
  have Kp51 : Keep h0 h51 [a3] := Kp49.wr W51 (Or.inl (List.mem_of_getElem? (i := 0) rfl))
  have Zs51 : n0 ≤ h51.size := Nat.le_trans Z0 (Keep.of_wr W51).1
  have N51 := Fr.snoc X51 N0 g_3
  have f52_0 : Arv Z h51 a1 kc .char (2 : Int32) [(.int x0), (.int x1)] (.int (0 : Int32)) := V1.other W51 ne13
  show own_Fin p e below s _ _ _ T51 (mkF m 32 #[.val (.ref a1), .val (.int (0 : Int32)), .val (.ref a3), .val (.int (0 : Int32)), .val (.int (2 : Int32)), .val (.int (0 : Int32)), .val (.int x0)] [])
  refine own_by (fun _ k => XS.iinc X51.here hx rfl (hb hby d12_32) rfl (l' := #[.val (.ref a1), .val (.int ((0 : Int32) + (1 : Int32))), .val (.ref a3), .val (.int (0 : Int32)), .val (.int (2 : Int32)), .val (.int (0 : Int32)), .val (.int x0)]) rfl k) ?_
  show own_Fin p e below s _ _ _ T51 (mkF m 35 #[.val (.ref a1), .val (.int ((0 : Int32) + (1 : Int32))), .val (.ref a3), .val (.int (0 : Int32)), .val (.int (2 : Int32)), .val (.int (0 : Int32)), .val (.int x0)] [])
  rw [(by decide : ((0 : Int32) + (1 : Int32)) = (1 : Int32))]
  show own_Fin p e below s _ _ _ T51 (mkF m 35 #[.val (.ref a1), .val (.int (1 : Int32)), .val (.ref a3), .val (.int (0 : Int32)), .val (.int (2 : Int32)), .val (.int (0 : Int32)), .val (.int x0)] [])
  refine own_by (fun _ k => XS.iinc X51.here hx rfl (hb hby d12_35) rfl (l' := #[.val (.ref a1), .val (.int (1 : Int32)), .val (.ref a3), .val (.int ((0 : Int32) + (1 : Int32))), .val (.int (2 : Int32)), .val (.int (0 : Int32)), .val (.int x0)]) rfl k) ?_
  show own_Fin p e below s _ _ _ T51 (mkF m 38 #[.val (.ref a1), .val (.int (1 : Int32)), .val (.ref a3), .val (.int ((0 : Int32) + (1 : Int32))), .val (.int (2 : Int32)), .val (.int (0 : Int32)), .val (.int x0)] [])
  rw [(by decide : ((0 : Int32) + (1 : Int32)) = (1 : Int32))]
  show own_Fin p e below s _ _ _ T51 (mkF m 38 #[.val (.ref a1), .val (.int (1 : Int32)), .val (.ref a3), .val (.int (1 : Int32)), .val (.int (2 : Int32)), .val (.int (0 : Int32)), .val (.int x0)] [])
  refine own_by (fun _ k => XS.iinc X51.here hx rfl (hb hby d12_38) rfl (l' := #[.val (.ref a1), .val (.int (1 : Int32)), .val (.ref a3), .val (.int (1 : Int32)), .val (.int (2 : Int32)), .val (.int ((0 : Int32) + (1 : Int32))), .val (.int x0)]) rfl k) ?_
  show own_Fin p e below s _ _ _ T51 (mkF m 41 #[.val (.ref a1), .val (.int (1 : Int32)), .val (.ref a3), .val (.int (1 : Int32)), .val (.int (2 : Int32)), .val (.int ((0 : Int32) + (1 : Int32))), .val (.int x0)] [])
  rw [(by decide : ((0 : Int32) + (1 : Int32)) = (1 : Int32))]
  show own_Fin p e below s _ _ _ T51 (mkF m 41 #[.val (.ref a1), .val (.int (1 : Int32)), .val (.ref a3), .val (.int (1 : Int32)), .val (.int (2 : Int32)), .val (.int (1 : Int32)), .val (.int x0)] [])
  refine own_by (fun _ k => XS.goto X51.here hx rfl (pc0 := 41) (pc' := 3) rfl (hb hby d12_41) (by decide) (by decide) (XS.iload X51.here hx rfl (hb hby d12_3) rfl (XS.iload X51.here hx rfl (hb hby d12_5) rfl k))) ?_
  show own_Fin p e below s _ _ _ T51 (mkF m 7 #[.val (.ref a1), .val (.int (1 : Int32)), .val (.ref a3), .val (.int (1 : Int32)), .val (.int (2 : Int32)), .val (.int (1 : Int32)), .val (.int x0)] [(.int (2 : Int32)), (.int (1 : Int32))])
  refine own_by (fun _ k => XS.icmpNo X51.here hx rfl (hb hby d12_7) rfl (tlt (by decide : (1 : Int32) < (2 : Int32))).2.1 k) ?_
  show own_Fin p e below s _ _ _ T51 (mkF m 10 #[.val (.ref a1), .val (.int (1 : Int32)), .val (.ref a3), .val (.int (1 : Int32)), .val (.int (2 : Int32)), .val (.int (1 : Int32)), .val (.int x0)] [])
  refine own_by (fun _ k => XS.aloadN X51.here hx rfl (hb hby d12_10) rfl rfl (XS.iloadN X51.here hx rfl (hb hby d12_11) rfl k)) ?_
  show own_Fin p e below s _ _ _ T51 (mkF m 12 #[.val (.ref a1), .val (.int (1 : Int32)), .val (.ref a3), .val (.int (1 : Int32)), .val (.int (2 : Int32)), .val (.int (1 : Int32)), .val (.int x0)] [(.int (1 : Int32)), (.ref a1)])
  obtain ⟨cl53, Ar53, -, S53, M53, H53, -⟩ := id f52_0
  have hin53 : ¬ ((1 : Int32) < 0 ∨ cl53.slots.size ≤ ((1 : Int32)).toNatClampNeg) := inb_of S53 ⟨by decide, by decide⟩
  have hat53 : cl53.slots[((1 : Int32)).toNatClampNeg]? = some (.int x1) := Has.at H53 hin53 rfl
  refine own_by (fun _ k => X51.caload hx (j := (1 : Int32)) (v := (.int x1)) (by rw [e51]; exact Ar53.1) (State.isArrayOf_alike hZ.alike Ar53.2.1) Ar53.2.2 hin53 hat53 (g := (mkF m 12 #[.val (.ref a1), .val (.int (1 : Int32)), .val (.ref a3), .val (.int (1 : Int32)), .val (.int (2 : Int32)), .val (.int (1 : Int32)), .val (.int x0)] [(.int (1 : Int32)), (.ref a1)])) rfl rfl (hb hby d12_12) _ k) ?_
  show own_Fin p e below s _ _ _ T51 (mkF m 13 #[.val (.ref a1), .val (.int (1 : Int32)), .val (.ref a3), .val (.int (1 : Int32)), .val (.int (2 : Int32)), .val (.int (1 : Int32)), .val (.int x0)] [(.int x1)])
  refine own_by (fun _ k => XS.istore X51.here hx rfl (hb hby d12_13) rfl (l' := #[.val (.ref a1), .val (.int (1 : Int32)), .val (.ref a3), .val (.int (1 : Int32)), .val (.int (2 : Int32)), .val (.int (1 : Int32)), .val (.int x1)]) rfl (XS.iload X51.here hx rfl (hb hby d12_15) rfl (XS.sipush X51.here hx rfl (hb hby d12_17) k))) ?_
  show own_Fin p e below s _ _ _ T51 (mkF m 20 #[.val (.ref a1), .val (.int (1 : Int32)), .val (.ref a3), .val (.int (1 : Int32)), .val (.int (2 : Int32)), .val (.int (1 : Int32)), .val (.int x1)] [(.int (255 : Int32)), (.int x1)])
  refine own_by (fun _ k => XS.icmpYes X51.here hx rfl (pc0 := 20) (pc' := 26) rfl (hb hby d12_20) rfl (flt hx1).2.2.2 (by decide) (by decide) k) ?_
  show own_Fin p e below s _ _ _ T51 (mkF m 26 #[.val (.ref a1), .val (.int (1 : Int32)), .val (.ref a3), .val (.int (1 : Int32)), .val (.int (2 : Int32)), .val (.int (1 : Int32)), .val (.int x1)] [])
  refine own_by (fun _ k => XS.aloadN X51.here hx rfl (hb hby d12_26) rfl rfl (XS.iloadN X51.here hx rfl (hb hby d12_27) rfl (XS.iload X51.here hx rfl (hb hby d12_28) rfl (XS.i2b X51.here hx rfl (hb hby d12_30) rfl k)))) ?_
  show own_Fin p e below s _ _ _ T51 (mkF m 31 #[.val (.ref a1), .val (.int (1 : Int32)), .val (.ref a3), .val (.int (1 : Int32)), .val (.int (2 : Int32)), .val (.int (1 : Int32)), .val (.int x1)] [(.int (x1.toInt8.toInt32)), (.int (1 : Int32)), (.ref a3)])
  obtain ⟨cl54, Ar54, q54, S54, M54, H54, G54⟩ := id V51
  have hin54 : ¬ ((1 : Int32) < 0 ∨ cl54.slots.size ≤ ((1 : Int32)).toNatClampNeg) := inb_of S54 ⟨by decide, by decide⟩
  obtain ⟨T54, h54, X54, e54, W54, st54⟩ := stB X51 hx hZ e51 Ar54 (j := (1 : Int32)) hin54 (g := (mkF m 31 #[.val (.ref a1), .val (.int (1 : Int32)), .val (.ref a3), .val (.int (1 : Int32)), .val (.int (2 : Int32)), .val (.int (1 : Int32)), .val (.int x1)] [(.int (x1.toInt8.toInt32)), (.int (1 : Int32)), (.ref a3)])) rfl rfl (hb hby d12_31)
  refine own_by (fun _ k => st54 _ k) ?_
  have V54 : Arv Z h54 a3 kb .byte (2 : Int32) [(.int (x0.toInt8.toInt32).toInt8.toInt32), (.int (x1.toInt8.toInt32).toInt8.toInt32)] (.int (0 : Int32)) := Arv.set Ar54 q54 S54 M54 H54 G54 (fits_nar_byte _) W54 1 rfl (Nat.le_of_ble_eq_true rfl)
  have Kp54 : Keep h0 h54 [a3] := Kp51.wr W54 (Or.inl (List.mem_of_getElem? (i := 0) rfl))
  have Zs54 : n0 ≤ h54.size := Nat.le_trans Zs51 (Keep.of_wr W54).1
  have N54 := Fr.snoc X54 N51 g_3
  have f55_0 : Arv Z h54 a1 kc .char (2 : Int32) [(.int x0), (.int x1)] (.int (0 : Int32)) := f52_0.other W54 ne13
  show own_Fin p e below s _ _ _ T54 (mkF m 32 #[.val (.ref a1), .val (.int (1 : Int32)), .val (.ref a3), .val (.int (1 : Int32)), .val (.int (2 : Int32)), .val (.int (1 : Int32)), .val (.int x1)] [])
  refine own_by (fun _ k => XS.iinc X54.here hx rfl (hb hby d12_32) rfl (l' := #[.val (.ref a1), .val (.int ((1 : Int32) + (1 : Int32))), .val (.ref a3), .val (.int (1 : Int32)), .val (.int (2 : Int32)), .val (.int (1 : Int32)), .val (.int x1)]) rfl k) ?_
  show own_Fin p e below s _ _ _ T54 (mkF m 35 #[.val (.ref a1), .val (.int ((1 : Int32) + (1 : Int32))), .val (.ref a3), .val (.int (1 : Int32)), .val (.int (2 : Int32)), .val (.int (1 : Int32)), .val (.int x1)] [])
  rw [(by decide : ((1 : Int32) + (1 : Int32)) = (2 : Int32))]
  show own_Fin p e below s _ _ _ T54 (mkF m 35 #[.val (.ref a1), .val (.int (2 : Int32)), .val (.ref a3), .val (.int (1 : Int32)), .val (.int (2 : Int32)), .val (.int (1 : Int32)), .val (.int x1)] [])
  refine own_by (fun _ k => XS.iinc X54.here hx rfl (hb hby d12_35) rfl (l' := #[.val (.ref a1), .val (.int (2 : Int32)), .val (.ref a3), .val (.int ((1 : Int32) + (1 : Int32))), .val (.int (2 : Int32)), .val (.int (1 : Int32)), .val (.int x1)]) rfl k) ?_
  show own_Fin p e below s _ _ _ T54 (mkF m 38 #[.val (.ref a1), .val (.int (2 : Int32)), .val (.ref a3), .val (.int ((1 : Int32) + (1 : Int32))), .val (.int (2 : Int32)), .val (.int (1 : Int32)), .val (.int x1)] [])
  rw [(by decide : ((1 : Int32) + (1 : Int32)) = (2 : Int32))]
  show own_Fin p e below s _ _ _ T54 (mkF m 38 #[.val (.ref a1), .val (.int (2 : Int32)), .val (.ref a3), .val (.int (2 : Int32)), .val (.int (2 : Int32)), .val (.int (1 : Int32)), .val (.int x1)] [])
  refine own_by (fun _ k => XS.iinc X54.here hx rfl (hb hby d12_38) rfl (l' := #[.val (.ref a1), .val (.int (2 : Int32)), .val (.ref a3), .val (.int (2 : Int32)), .val (.int (2 : Int32)), .val (.int ((1 : Int32) + (1 : Int32))), .val (.int x1)]) rfl k) ?_
  show own_Fin p e below s _ _ _ T54 (mkF m 41 #[.val (.ref a1), .val (.int (2 : Int32)), .val (.ref a3), .val (.int (2 : Int32)), .val (.int (2 : Int32)), .val (.int ((1 : Int32) + (1 : Int32))), .val (.int x1)] [])
  rw [(by decide : ((1 : Int32) + (1 : Int32)) = (2 : Int32))]
  show own_Fin p e below s _ _ _ T54 (mkF m 41 #[.val (.ref a1), .val (.int (2 : Int32)), .val (.ref a3), .val (.int (2 : Int32)), .val (.int (2 : Int32)), .val (.int (2 : Int32)), .val (.int x1)] [])
  refine own_by (fun _ k => XS.goto X54.here hx rfl (pc0 := 41) (pc' := 3) rfl (hb hby d12_41) (by decide) (by decide) (XS.iload X54.here hx rfl (hb hby d12_3) rfl (XS.iload X54.here hx rfl (hb hby d12_5) rfl k))) ?_
  show own_Fin p e below s _ _ _ T54 (mkF m 7 #[.val (.ref a1), .val (.int (2 : Int32)), .val (.ref a3), .val (.int (2 : Int32)), .val (.int (2 : Int32)), .val (.int (2 : Int32)), .val (.int x1)] [(.int (2 : Int32)), (.int (2 : Int32))])
  refine own_by (fun _ k => XS.icmpYes X54.here hx rfl (pc0 := 7) (pc' := 44) rfl (hb hby d12_7) rfl (flt (by decide : ¬ ((2 : Int32) < (2 : Int32)))).2.1 (by decide) (by decide) k) ?_
  show own_Fin p e below s _ _ _ T54 (mkF m 44 #[.val (.ref a1), .val (.int (2 : Int32)), .val (.ref a3), .val (.int (2 : Int32)), .val (.int (2 : Int32)), .val (.int (2 : Int32)), .val (.int x1)] [])
  refine own_by (fun _ k => XS.iload X54.here hx rfl (hb hby d12_44) rfl k) ?_
  show own_Fin p e below s _ _ _ T54 (mkF m 46 #[.val (.ref a1), .val (.int (2 : Int32)), .val (.ref a3), .val (.int (2 : Int32)), .val (.int (2 : Int32)), .val (.int (2 : Int32)), .val (.int x1)] [(.int (2 : Int32))])
  exact own_retI X54 hx hlk hret (hb hby d12_46) (by rw [e54]; exact ⟨rfl, N54, Kp54, (by have q := V54; simp only [own_b8] at q; exact q)⟩) (by decide) (by decide)
theorem ef_rmCO2 (m : MethodId) (x0 : Addr) (x1 : Int32) (x2 : Int32) : entryFrame m #[(.ref x0), (.int x1), (.int x2)] 6 = mkF m 0 #[.val (.ref x0), .val (.int x1), .val (.int x2), .unset, .unset, .unset] [] := by first | (simp [entryFrame, mkF, argsToLocals, Value.category]; done) | rfl
def own_Qco2 (Z : State) (x0 x1 : Int32) (h0 : Heap) (n0 : Nat) (v : Option Value) (h : Heap) (L : List Loc) : Prop := ∃ (a : Addr) (k : ClassId), v = some (.ref a) ∧ Fr n0 L ∧ Keep h0 h [] ∧ h0.size ≤ a ∧ Arv Z h a k .byte (2 : Int32) [(.int x0.toInt8.toInt32), (.int x1.toInt8.toInt32)] (.int (0 : Int32))
set_option maxRecDepth 65536 in
set_option maxHeartbeats 40000000 in
theorem rmCO2 (l : Launch) (Z : State) (a0 : Array Value) (hw : ∀ d ∈ tables_1, d.before a0 Z = true) (ws : List Jvm.Cond) (a1 : Addr) (kc : ClassId) (x0 x1 : Int32) (h0 : Heap) (n0 : Nat) (Z0 : n0 ≤ h0.size) (V1 : Arv Z h0 a1 kc .char (2 : Int32) [(.int x0), (.int x1)] (.int (0 : Int32))) (hx0 : ¬ (255 : Int32) < x0) (hx1 : ¬ (255 : Int32) < x1) : own_Met l Z (⟨"java/lang/StringUTF16", "compress", "([CII)[B"⟩ : MethodName) jdk_52_method_16_code 6 (some (.array .byte)) ws (own_R 1 1 2 20) #[(.ref a1), (.int (0 : Int32)), (.int (2 : Int32))] h0 (own_Qco2 Z x0 x1 h0 n0) := by
  refine own_enter n0 own_pn68 (fun m => ef_rmCO2 m a1 (0 : Int32) (2 : Int32) ) (fun p e s m below meth c s₁ hx hby hlk hml hret hown hnm hZ X0 e0 N0 => ?_)
  show own_Fin p e below s _ _ _ s₁ (mkF m 0 #[.val (.ref a1), .val (.int (0 : Int32)), .val (.int (2 : Int32)), .unset, .unset, .unset] [])
  have Kp56 : Keep h0 h0 [] := Keep.refl h0 _
  refine own_by (fun _ k => XS.iloadN X0.here hx rfl (hb hby d11_0) rfl k) ?_
  show own_Fin p e below s _ _ _ s₁ (mkF m 1 #[.val (.ref a1), .val (.int (0 : Int32)), .val (.int (2 : Int32)), .unset, .unset, .unset] [(.int (2 : Int32))])
  obtain ⟨T57, h57, k57, X57, e57, E57, A57, st57⟩ := newP X0 hx hZ (hw _ (List.mem_of_getElem? (i := 27) rfl)) e0 (g := (mkF m 1 #[.val (.ref a1), .val (.int (0 : Int32)), .val (.int (2 : Int32)), .unset, .unset, .unset] [(.int (2 : Int32))])) rfl (hb hby d11_1) rfl (by decide) (cap := 2) (by decide) (by decide) (by decide) (by decide)
  obtain ⟨b57, g57⟩ : ∃ z, z = h0.size := ⟨_, rfl⟩
  rw [← g57] at A57 st57
  refine own_by (fun _ k => st57 _ k) ?_
  have V57 : Arv Z h57 b57 k57 .byte (2 : Int32) [(.int (0 : Int32)), (.int (0 : Int32))] (.int (0 : Int32)) := (Arv.new A57 (by decide)).pad (pad_rep [] (.int (0 : Int32)) 2)
  have ne57_a1 : a1 ≠ b57 := Nat.ne_of_lt (Nat.lt_of_lt_of_le V1.lt (Nat.le_of_eq g57.symm))
  have gf57 : n0 ≤ b57 := Nat.le_trans Z0 (Nat.le_of_eq g57.symm)
  have Zs57 : n0 ≤ h57.size := Nat.le_trans Z0 E57.1
  have Kp57 : Keep h0 h57 [] := Kp56.ext E57
  have sz_b57 : h0.size ≤ b57 := Nat.le_trans Kp56.1 (Nat.le_of_eq g57.symm)
  have f58_0 : Arv Z h57 a1 kc .char (2 : Int32) [(.int x0), (.int x1)] (.int (0 : Int32)) := V1.ext E57
  show own_Fin p e below s _ _ _ T57 (mkF m 3 #[.val (.ref a1), .val (.int (0 : Int32)), .val (.int (2 : Int32)), .unset, .unset, .unset] [(.ref b57)])
  refine own_by (fun _ k => XS.astoreN X57.here hx rfl (hb hby d11_3) rfl rfl (l' := #[.val (.ref a1), .val (.int (0 : Int32)), .val (.int (2 : Int32)), .val (.ref b57), .unset, .unset]) rfl (XS.aloadN X57.here hx rfl (hb hby d11_4) rfl rfl (XS.iloadN X57.here hx rfl (hb hby d11_5) rfl (XS.aloadN X57.here hx rfl (hb hby d11_6) rfl rfl (XS.iconst X57.here hx rfl (hb hby d11_7) (XS.iloadN X57.here hx rfl (hb hby d11_8) rfl k)))))) ?_
  show own_Fin p e below s _ _ _ T57 (mkF m 9 #[.val (.ref a1), .val (.int (0 : Int32)), .val (.int (2 : Int32)), .val (.ref b57), .unset, .unset] [(.int (2 : Int32)), (.int (0 : Int32)), (.ref b57), (.int (0 : Int32)), (.ref a1)])
  obtain ⟨_, _, ⟨T59, L59, k59, n59⟩, -, X59, ⟨Lc59, hQ59, l59, y59, z59⟩, st59⟩ := Jvm.LawKit.callS X57 hx (y := (⟨"java/lang/StringUTF16", "compress", "([CI[BII)I"⟩ : MethodName)) hown (mvT hZ (hw _ (List.mem_of_getElem? (i := 78) rfl))) (mvT hZ (hw _ (List.mem_of_getElem? (i := 79) rfl))) (mvT hZ (hw _ (List.mem_of_getElem? (i := 76) rfl))) (mvT hZ (hw _ (List.mem_of_getElem? (i := 80) rfl))) (by decide) (backOf (W := 0) (rmCI2 l Z a0 hw [] a1 b57 kc k57 x0 x1 h57 n0 Zs57 f58_0 V57 ne57_a1 gf57 hx0 hx1) hZ (hw _ (List.mem_of_getElem? (i := 80) rfl)) (hw _ (List.mem_of_getElem? (i := 76) rfl)) (by decide) (by decide)) (g := (mkF m 9 #[.val (.ref a1), .val (.int (0 : Int32)), .val (.int (2 : Int32)), .val (.ref b57), .unset, .unset] [(.int (2 : Int32)), (.int (0 : Int32)), (.ref b57), (.int (0 : Int32)), (.ref a1)])) rfl (by rw [hml]; rfl) (argsL := [(.ref a1), (.int (0 : Int32)), (.ref b57), (.int (0 : Int32)), (.int (2 : Int32))]) (rest := []) (lenOf own_pd102 rfl) rfl (by show 2 * 0 + _ ≤ _; exact Nat.le_of_eq rfl) (hb hby d11_9) (fun _ _ => ⟨rfl, e57, (by decide : 1 + 0 ≤ _), (by decide : 2 + 0 ≤ _)⟩)
  dsimp only [Pt.U, Pt.locs, Pt.cells, Pt.slots] at X59 l59 y59 z59 st59 hQ59
  subst l59 y59 z59
  obtain ⟨rfl, Nq59, K59, Vr59⟩ := hQ59
  have N59 := Fr.app N0 Nq59
  refine own_by (fun _ k => st59 _ k) ?_
  have Zs59 : n0 ≤ T59.heap.size := Nat.le_trans Zs57 K59.1
  have Kp59 : Keep h0 T59.heap [] := Kp57.trans K59 (allS (Or.inr sz_b57) all0)
  have f60_0 : Arv Z T59.heap a1 kc .char (2 : Int32) [(.int x0), (.int x1)] (.int (0 : Int32)) := f58_0.keep K59 (ninS ne57_a1 nin0)
  show own_Fin p e below s _ _ _ T59 (mkF m 12 #[.val (.ref a1), .val (.int (0 : Int32)), .val (.int (2 : Int32)), .val (.ref b57), .unset, .unset] [(.int (2 : Int32))])
  refine own_by (fun _ k => XS.istore X59.here hx rfl (hb hby d11_12) rfl (l' := #[.val (.ref a1), .val (.int (0 : Int32)), .val (.int (2 : Int32)), .val (.ref b57), .val (.int (2 : Int32)), .unset]) rfl (XS.iload X59.here hx rfl (hb hby d11_14) rfl (XS.iloadN X59.here hx rfl (hb hby d11_16) rfl k))) ?_
  show own_Fin p e below s _ _ _ T59 (mkF m 17 #[.val (.ref a1), .val (.int (0 : Int32)), .val (.int (2 : Int32)), .val (.ref b57), .val (.int (2 : Int32)), .unset] [(.int (2 : Int32)), (.int (2 : Int32))])
  refine own_by (fun _ k => XS.icmpYes X59.here hx rfl (pc0 := 17) (pc' := 57) rfl (hb hby d11_17) rfl (teq (by decide : (2 : Int32) = (2 : Int32))).1 (by decide) (by decide) k) ?_
  show own_Fin p e below s _ _ _ T59 (mkF m 57 #[.val (.ref a1), .val (.int (0 : Int32)), .val (.int (2 : Int32)), .val (.ref b57), .val (.int (2 : Int32)), .unset] [])
  refine own_by (fun _ k => XS.aloadN X59.here hx rfl (hb hby d11_57) rfl rfl k) ?_
  show own_Fin p e below s _ _ _ T59 (mkF m 58 #[.val (.ref a1), .val (.int (0 : Int32)), .val (.int (2 : Int32)), .val (.ref b57), .val (.int (2 : Int32)), .unset] [(.ref b57)])
  exact own_retA X59 hx hlk (t := (.array .byte)) hret rfl rfl rfl (hb hby d11_58) ⟨_, _, rfl, N59, Kp59, sz_b57, Vr59⟩ (by decide) (by decide)
theorem ef_rmCL2_2 (m : MethodId) (x0 : Addr) (x1 : Int32) : entryFrame m #[(.ref x0), (.int x1)] 2 = mkF m 0 #[.val (.ref x0), .val (.int x1)] [] := by first | (simp [entryFrame, mkF, argsToLocals, Value.category]; done) | rfl
def own_Qcl2_2 (h0 : Heap) (n0 : Nat) (v : Option Value) (h : Heap) (L : List Loc) : Prop := v = some (.int (0 : Int32)) ∧ Fr n0 L ∧ h = h0
set_option maxRecDepth 65536 in
set_option maxHeartbeats 40000000 in
theorem rmCL2_2 (l : Launch) (Z : State) (a0 : Array Value) (hw : ∀ d ∈ tables_1, d.before a0 Z = true) (ws : List Jvm.Cond) (a1 : Addr) (k1 : ClassId) (vs : List Value) (h0 : Heap) (n0 : Nat) (Z0 : n0 ≤ h0.size) (V1 : Arv Z h0 a1 k1 .byte (2 : Int32) vs (.int (0 : Int32))) : own_Met l Z (⟨"java/lang/StringUTF16", "coderFromArrayLen", "([BI)B"⟩ : MethodName) jdk_52_method_15_code 2 (some .byte) ws (own_R 0 0 0 0) #[(.ref a1), (.int (2 : Int32))] h0 (own_Qcl2_2 h0 n0) := by
  refine own_enter n0 own_pn68 (fun m => ef_rmCL2_2 m a1 (2 : Int32) ) (fun p e s m below meth c s₁ hx hby hlk hml hret hown hnm hZ X0 e0 N0 => ?_)
  show own_Fin p e below s _ _ _ s₁ (mkF m 0 #[.val (.ref a1), .val (.int (2 : Int32))] [])
  refine own_by (fun _ k => XS.iloadN X0.here hx rfl (hb hby d13_0) rfl (XS.aloadN X0.here hx rfl (hb hby d13_1) rfl rfl k)) ?_
  show own_Fin p e below s _ _ _ s₁ (mkF m 2 #[.val (.ref a1), .val (.int (2 : Int32))] [(.ref a1), (.int (2 : Int32))])
  obtain ⟨cl61, Ar61, -, S61, M61, -, -⟩ := id V1
  refine own_by (fun _ k => X0.arraylength hx (by rw [e0]; exact Ar61.1) (State.isArrayOf_alike hZ.alike Ar61.2.1) (g := (mkF m 2 #[.val (.ref a1), .val (.int (2 : Int32))] [(.ref a1), (.int (2 : Int32))])) rfl rfl (hb hby d13_2) _ k) ?_
  rw [len_of S61 M61]
  show own_Fin p e below s _ _ _ s₁ (mkF m 3 #[.val (.ref a1), .val (.int (2 : Int32))] [(.int (2 : Int32)), (.int (2 : Int32))])
  refine own_by (fun _ k => XS.isub X0.here hx rfl (hb hby d13_3) rfl k) ?_
  show own_Fin p e below s _ _ _ s₁ (mkF m 4 #[.val (.ref a1), .val (.int (2 : Int32))] [(.int ((2 : Int32) - (2 : Int32)))])
  rw [(by decide : ((2 : Int32) - (2 : Int32)) = (0 : Int32))]
  show own_Fin p e below s _ _ _ s₁ (mkF m 4 #[.val (.ref a1), .val (.int (2 : Int32))] [(.int (0 : Int32))])
  refine own_by (fun _ k => XS.bipush X0.here hx rfl (hb hby d13_4) (XS.iushr X0.here hx rfl (hb hby d13_6) rfl k)) ?_
  show own_Fin p e below s _ _ _ s₁ (mkF m 7 #[.val (.ref a1), .val (.int (2 : Int32))] [(.int (((0 : Int32).toUInt32 >>> ((31 : Int32) &&& 31).toUInt32).toInt32))])
  rw [(by decide : (((0 : Int32).toUInt32 >>> ((31 : Int32) &&& 31).toUInt32).toInt32) = (0 : Int32))]
  show own_Fin p e below s _ _ _ s₁ (mkF m 7 #[.val (.ref a1), .val (.int (2 : Int32))] [(.int (0 : Int32))])
  refine own_by (fun _ k => XS.i2b X0.here hx rfl (hb hby d13_7) rfl k) ?_
  show own_Fin p e below s _ _ _ s₁ (mkF m 8 #[.val (.ref a1), .val (.int (2 : Int32))] [(.int ((0 : Int32).toInt8.toInt32))])
  rw [(by decide : ((0 : Int32).toInt8.toInt32) = (0 : Int32))]
  show own_Fin p e below s _ _ _ s₁ (mkF m 8 #[.val (.ref a1), .val (.int (2 : Int32))] [(.int (0 : Int32))])
  exact own_retZ X0 hx hlk (t := .byte) hret (by simp) (hb hby d13_8) ⟨rfl, N0, e0⟩ (by decide) (by decide)
theorem ef_rmSI2 (m : MethodId) (x0 : Addr) (x1 : Addr) (x2 : Int32) (x3 : Int32) : entryFrame m #[(.ref x0), (.ref x1), (.int x2), (.int x3), .null] 6 = mkF m 0 #[.val (.ref x0), .val (.ref x1), .val (.int x2), .val (.int x3), .val .null, .unset] [] := by first | (simp [entryFrame, mkF, argsToLocals, Value.category]; done) | rfl
def own_Qsi2 (Z : State) (a1 : Addr) (x0 x1 : Int32) (h0 : Heap) (n0 : Nat) (v : Option Value) (h : Heap) (L : List Loc) : Prop := ∃ (b : Addr) (k : ClassId), v = none ∧ Fr n0 L ∧ Keep h0 h [a1] ∧ Fld Z h a1 "java/lang/String" "coder" "B" (.int (0 : Int32)) ∧ Fld Z h a1 "java/lang/String" "value" "[B" (.ref b) ∧ Arv Z h b k .byte (2 : Int32) [(.int x0.toInt8.toInt32), (.int x1.toInt8.toInt32)] (.int (0 : Int32))
set_option maxRecDepth 65536 in
set_option maxHeartbeats 40000000 in
theorem rmSI2 (l : Launch) (Z : State) (a0 : Array Value) (hw : ∀ d ∈ tables_1, d.before a0 Z = true) (ws : List Jvm.Cond) (a1 a2 : Addr) (kc : ClassId) (cs : Int32) (x0 x1 : Int32) (h0 : Heap) (n0 : Nat) (Z0 : n0 ≤ h0.size) (E_a1 : Exa Z h0 a1 "java/lang/String") (F_v : Fld Z h0 a1 "java/lang/String" "value" "[B" .null) (F_c : Fld Z h0 a1 "java/lang/String" "coder" "B" (.int (0 : Int32))) (g_a1 : n0 ≤ a1) (V2 : Arv Z h0 a2 kc .char (2 : Int32) [(.int x0), (.int x1)] (.int (0 : Int32))) (ne12 : a2 ≠ a1) (hx0 : ¬ (255 : Int32) < x0) (hx1 : ¬ (255 : Int32) < x1) (S_cs : Sta Z h0 "java/lang/String" "COMPACT_STRINGS" "Z" (.int cs)) (hcs : ¬ cs = (0 : Int32)) : own_Met l Z (⟨"java/lang/String", "<init>", "([CIILjava/lang/Void;)V"⟩ : MethodName) jdk_42_method_149_code 6 none ws (own_R 2 1 2 45) #[(.ref a1), (.ref a2), (.int (0 : Int32)), (.int (2 : Int32)), .null] h0 (own_Qsi2 Z a1 x0 x1 h0 n0) := by
  refine own_enter n0 own_pn119 (fun m => ef_rmSI2 m a1 a2 (0 : Int32) (2 : Int32) ) (fun p e s m below meth c s₁ hx hby hlk hml hret hown hnm hZ X0 e0 N0 => ?_)
  show own_Fin p e below s _ _ _ s₁ (mkF m 0 #[.val (.ref a1), .val (.ref a2), .val (.int (0 : Int32)), .val (.int (2 : Int32)), .val .null, .unset] [])
  have Kp62 : Keep h0 h0 [a1] := Keep.refl h0 _
  refine own_by (fun _ k => XS.aloadN X0.here hx rfl (hb hby d4_0) rfl rfl k) ?_
  show own_Fin p e below s _ _ _ s₁ (mkF m 1 #[.val (.ref a1), .val (.ref a2), .val (.int (0 : Int32)), .val (.int (2 : Int32)), .val .null, .unset] [(.ref a1)])
  obtain ⟨T63, X63, e63, st63⟩ := initO X0 hx hZ hown (hw _ (List.mem_of_getElem? (i := 23) rfl)) (hw _ (List.mem_of_getElem? (i := 24) rfl)) (hw _ (List.mem_of_getElem? (i := 25) rfl)) e0 (g := (mkF m 1 #[.val (.ref a1), .val (.ref a2), .val (.int (0 : Int32)), .val (.int (2 : Int32)), .val .null, .unset] [(.ref a1)])) rfl (by rw [hml]; rfl) rfl (hb hby d4_1) (by decide) (W := 0) (by show 2 * 0 + _ ≤ _; exact Nat.le_of_eq rfl) (by decide)
  refine own_by (fun _ k => st63 _ k) ?_
  show own_Fin p e below s _ _ _ T63 (mkF m 4 #[.val (.ref a1), .val (.ref a2), .val (.int (0 : Int32)), .val (.int (2 : Int32)), .val .null, .unset] [])
  refine own_by (fun _ k => XS.iloadN X63.here hx rfl (hb hby d4_4) rfl k) ?_
  show own_Fin p e below s _ _ _ T63 (mkF m 5 #[.val (.ref a1), .val (.ref a2), .val (.int (0 : Int32)), .val (.int (2 : Int32)), .val .null, .unset] [(.int (2 : Int32))])
  refine own_by (fun _ k => XS.ifYes X63.here hx rfl (pc0 := 5) (pc' := 27) rfl (hb hby d4_5) rfl ((if0 _ _).trans (feq (by decide : ¬ ((2 : Int32) = (0 : Int32)))).2) (by decide) (by decide) k) ?_
  show own_Fin p e below s _ _ _ T63 (mkF m 27 #[.val (.ref a1), .val (.ref a2), .val (.int (0 : Int32)), .val (.int (2 : Int32)), .val .null, .unset] [])
  obtain ⟨T64, X64, e64, st64⟩ := getS2 X63 hx hZ hown (host := "") (Or.inl (hw _ (List.mem_of_getElem? (i := 61) rfl))) Via.refl e63 S_cs (g := (mkF m 27 #[.val (.ref a1), .val (.ref a2), .val (.int (0 : Int32)), .val (.int (2 : Int32)), .val .null, .unset] [])) rfl (hb hby d4_27)
  refine own_by (fun _ k => st64 _ k) ?_
  show own_Fin p e below s _ _ _ T64 (mkF m 30 #[.val (.ref a1), .val (.ref a2), .val (.int (0 : Int32)), .val (.int (2 : Int32)), .val .null, .unset] [(.int cs)])
  refine own_by (fun _ k => XS.ifNo X64.here hx rfl (hb hby d4_30) rfl ((if0 _ _).trans (feq hcs).1) k) ?_
  show own_Fin p e below s _ _ _ T64 (mkF m 33 #[.val (.ref a1), .val (.ref a2), .val (.int (0 : Int32)), .val (.int (2 : Int32)), .val .null, .unset] [])
  refine own_by (fun _ k => XS.aloadN X64.here hx rfl (hb hby d4_33) rfl rfl (XS.iloadN X64.here hx rfl (hb hby d4_34) rfl (XS.iloadN X64.here hx rfl (hb hby d4_35) rfl k))) ?_
  show own_Fin p e below s _ _ _ T64 (mkF m 36 #[.val (.ref a1), .val (.ref a2), .val (.int (0 : Int32)), .val (.int (2 : Int32)), .val .null, .unset] [(.int (2 : Int32)), (.int (0 : Int32)), (.ref a2)])
  obtain ⟨_, _, ⟨T65, L65, k65, n65⟩, -, X65, ⟨Lc65, hQ65, l65, y65, z65⟩, st65⟩ := Jvm.LawKit.callS X64 hx (y := (⟨"java/lang/StringUTF16", "compress", "([CII)[B"⟩ : MethodName)) hown (mvT hZ (hw _ (List.mem_of_getElem? (i := 74) rfl))) (mvT hZ (hw _ (List.mem_of_getElem? (i := 75) rfl))) (mvT hZ (hw _ (List.mem_of_getElem? (i := 76) rfl))) (mvT hZ (hw _ (List.mem_of_getElem? (i := 77) rfl))) (by decide) (backOf (W := 0) (rmCO2 l Z a0 hw [] a2 kc x0 x1 h0 n0 Z0 V2 hx0 hx1) hZ (hw _ (List.mem_of_getElem? (i := 77) rfl)) (hw _ (List.mem_of_getElem? (i := 76) rfl)) (by decide) (by decide)) (g := (mkF m 36 #[.val (.ref a1), .val (.ref a2), .val (.int (0 : Int32)), .val (.int (2 : Int32)), .val .null, .unset] [(.int (2 : Int32)), (.int (0 : Int32)), (.ref a2)])) rfl (by rw [hml]; rfl) (argsL := [(.ref a2), (.int (0 : Int32)), (.int (2 : Int32))]) (rest := []) (lenOf own_pd130 rfl) rfl (by show 2 * 0 + _ ≤ _; exact Nat.le_of_eq rfl) (hb hby d4_36) (fun _ _ => ⟨rfl, e64, (by decide : 0 + 1 ≤ _), (by decide : 0 + 2 ≤ _)⟩)
  dsimp only [Pt.U, Pt.locs, Pt.cells, Pt.slots] at X65 l65 y65 z65 st65 hQ65
  subst l65 y65 z65
  obtain ⟨b65, k65, rfl, Nq65, K65, ge65, V65⟩ := hQ65
  have N65 := Fr.app N0 Nq65
  refine own_by (fun _ k => st65 _ k) ?_
  have Zs65 : n0 ≤ T65.heap.size := Nat.le_trans Z0 K65.1
  have Kp65 : Keep h0 T65.heap [a1] := Kp62.trans K65 all0
  have f66_0 : Exa Z T65.heap a1 "java/lang/String" := E_a1.keep K65
  have f66_1 : Fld Z T65.heap a1 "java/lang/String" "value" "[B" .null := F_v.keep K65 nin0
  have f66_2 : Fld Z T65.heap a1 "java/lang/String" "coder" "B" (.int (0 : Int32)) := F_c.keep K65 nin0
  have f66_3 : Arv Z T65.heap a2 kc .char (2 : Int32) [(.int x0), (.int x1)] (.int (0 : Int32)) := V2.keep K65 nin0
  have ne65_a1 : a1 ≠ b65 := Nat.ne_of_lt (Nat.lt_of_lt_of_le E_a1.lt ge65)
  have ne65_a2 : a2 ≠ b65 := Nat.ne_of_lt (Nat.lt_of_lt_of_le V2.lt ge65)
  show own_Fin p e below s _ _ _ T65 (mkF m 39 #[.val (.ref a1), .val (.ref a2), .val (.int (0 : Int32)), .val (.int (2 : Int32)), .val .null, .unset] [(.ref b65)])
  refine own_by (fun _ k => XS.astore X65.here hx rfl (hb hby d4_39) rfl rfl (l' := #[.val (.ref a1), .val (.ref a2), .val (.int (0 : Int32)), .val (.int (2 : Int32)), .val .null, .val (.ref b65)]) rfl (XS.aloadN X65.here hx rfl (hb hby d4_41) rfl rfl (XS.aload X65.here hx rfl (hb hby d4_42) rfl rfl (XS.iloadN X65.here hx rfl (hb hby d4_44) rfl k)))) ?_
  show own_Fin p e below s _ _ _ T65 (mkF m 45 #[.val (.ref a1), .val (.ref a2), .val (.int (0 : Int32)), .val (.int (2 : Int32)), .val .null, .val (.ref b65)] [(.int (2 : Int32)), (.ref b65), (.ref a1)])
  obtain ⟨_, _, ⟨T67, L67, k67, n67⟩, -, X67, ⟨Lc67, hQ67, l67, y67, z67⟩, st67⟩ := Jvm.LawKit.callS X65 hx (y := (⟨"java/lang/StringUTF16", "coderFromArrayLen", "([BI)B"⟩ : MethodName)) hown (mvT hZ (hw _ (List.mem_of_getElem? (i := 81) rfl))) (mvT hZ (hw _ (List.mem_of_getElem? (i := 82) rfl))) (mvT hZ (hw _ (List.mem_of_getElem? (i := 76) rfl))) (mvT hZ (hw _ (List.mem_of_getElem? (i := 83) rfl))) (by decide) (backOf (W := 1) (rmCL2_2 l Z a0 hw [] b65 k65 [(.int x0.toInt8.toInt32), (.int x1.toInt8.toInt32)] T65.heap n0 Zs65 V65) hZ (hw _ (List.mem_of_getElem? (i := 83) rfl)) (hw _ (List.mem_of_getElem? (i := 76) rfl)) (by decide) (by decide)) (g := (mkF m 45 #[.val (.ref a1), .val (.ref a2), .val (.int (0 : Int32)), .val (.int (2 : Int32)), .val .null, .val (.ref b65)] [(.int (2 : Int32)), (.ref b65), (.ref a1)])) rfl (by rw [hml]; rfl) (argsL := [(.ref b65), (.int (2 : Int32))]) (rest := [(.ref a1)]) (lenOf own_pd136 rfl) rfl (by show 2 * 0 + _ ≤ _; exact Nat.le_of_eq rfl) (hb hby d4_45) (fun _ _ => ⟨rfl, rfl, (by decide : 1 + 0 ≤ _), (by decide : 2 + 0 ≤ _)⟩)
  dsimp only [Pt.U, Pt.locs, Pt.cells, Pt.slots] at X67 l67 y67 z67 st67 hQ67
  subst l67 y67 z67
  obtain ⟨rfl, Nq67, eh67⟩ := hQ67
  have N67 := Fr.app N65 Nq67
  refine own_by (fun _ k => st67 _ k) ?_
  show own_Fin p e below s _ _ _ T67 (mkF m 48 #[.val (.ref a1), .val (.ref a2), .val (.int (0 : Int32)), .val (.int (2 : Int32)), .val .null, .val (.ref b65)] [(.int (0 : Int32)), (.ref a1)])
  obtain ⟨T68, h68, X68, e68, W68, st68⟩ := putFN X67 hx hZ hown (hw _ (List.mem_of_getElem? (i := 33) rfl)) Via.refl eh67 f66_2 f66_0 (Or.inr ⟨(hw _ (List.mem_of_getElem? (i := 29) rfl)), rfl, hnm⟩) (hw _ (List.mem_of_getElem? (i := 13) rfl)) (ty := .byte) (v' := (.int (0 : Int32))) (by decide) rfl (by decide) (g := (mkF m 48 #[.val (.ref a1), .val (.ref a2), .val (.int (0 : Int32)), .val (.int (2 : Int32)), .val .null, .val (.ref b65)] [(.int (0 : Int32)), (.ref a1)])) rfl rfl (hb hby d4_48)
  refine own_by (fun _ k => st68 _ k) ?_
  have Fw68 : Fld Z h68 a1 "java/lang/String" "coder" "B" (.int (0 : Int32)) := f66_2.same W68
  have Kp68 : Keep h0 h68 [a1] := Kp65.wr W68 (Or.inl (List.mem_of_getElem? (i := 0) rfl))
  have Zs68 : n0 ≤ h68.size := Nat.le_trans Zs65 (Keep.of_wr W68).1
  have N68 := Fr.snoc X68 N67 g_a1
  have f69_0 : Exa Z h68 a1 "java/lang/String" := f66_0.wr W68
  have f69_1 : Fld Z h68 a1 "java/lang/String" "value" "[B" .null := f66_1.other W68 (Or.inr (slot_ne (Or.inr (hw _ (List.mem_of_getElem? (i := 28) rfl))) (Or.inr (hw _ (List.mem_of_getElem? (i := 29) rfl))) (by decide) (t := (.array .byte)) (t' := .byte) (by decide) (by decide)))
  have f69_3 : Arv Z h68 a2 kc .char (2 : Int32) [(.int x0), (.int x1)] (.int (0 : Int32)) := f66_3.other W68 ne12
  have f69_4 : Arv Z h68 b65 k65 .byte (2 : Int32) [(.int x0.toInt8.toInt32), (.int x1.toInt8.toInt32)] (.int (0 : Int32)) := V65.other W68 (Ne.symm ne65_a1)
  show own_Fin p e below s _ _ _ T68 (mkF m 51 #[.val (.ref a1), .val (.ref a2), .val (.int (0 : Int32)), .val (.int (2 : Int32)), .val .null, .val (.ref b65)] [])
  refine own_by (fun _ k => XS.aloadN X68.here hx rfl (hb hby d4_51) rfl rfl (XS.aload X68.here hx rfl (hb hby d4_52) rfl rfl k)) ?_
  show own_Fin p e below s _ _ _ T68 (mkF m 54 #[.val (.ref a1), .val (.ref a2), .val (.int (0 : Int32)), .val (.int (2 : Int32)), .val .null, .val (.ref b65)] [(.ref b65), (.ref a1)])
  obtain ⟨T70, h70, X70, e70, W70, st70⟩ := putF X68 hx hZ hown (host := "") (Or.inl (hw _ (List.mem_of_getElem? (i := 32) rfl))) Via.refl e68 f69_1 f69_0 (Or.inr ⟨(hw _ (List.mem_of_getElem? (i := 28) rfl)), rfl, hnm⟩) (hw _ (List.mem_of_getElem? (i := 13) rfl)) (ty := (.array .byte)) (by decide) rfl rfl (g := (mkF m 54 #[.val (.ref a1), .val (.ref a2), .val (.int (0 : Int32)), .val (.int (2 : Int32)), .val .null, .val (.ref b65)] [(.ref b65), (.ref a1)])) rfl rfl (hb hby d4_54)
  refine own_by (fun _ k => st70 _ k) ?_
  have Fw70 : Fld Z h70 a1 "java/lang/String" "value" "[B" (.ref b65) := f69_1.same W70
  have Kp70 : Keep h0 h70 [a1] := Kp68.wr W70 (Or.inl (List.mem_of_getElem? (i := 0) rfl))
  have Zs70 : n0 ≤ h70.size := Nat.le_trans Zs68 (Keep.of_wr W70).1
  have N70 := Fr.snoc X70 N68 g_a1
  have f71_0 : Exa Z h70 a1 "java/lang/String" := f69_0.wr W70
  have f71_2 : Arv Z h70 a2 kc .char (2 : Int32) [(.int x0), (.int x1)] (.int (0 : Int32)) := f69_3.other W70 ne12
  have f71_3 : Arv Z h70 b65 k65 .byte (2 : Int32) [(.int x0.toInt8.toInt32), (.int x1.toInt8.toInt32)] (.int (0 : Int32)) := f69_4.other W70 (Ne.symm ne65_a1)
  have f71_4 : Fld Z h70 a1 "java/lang/String" "coder" "B" (.int (0 : Int32)) := Fw68.other W70 (Or.inr (slot_ne (Or.inr (hw _ (List.mem_of_getElem? (i := 29) rfl))) (Or.inr (hw _ (List.mem_of_getElem? (i := 28) rfl))) (by decide) (t := .byte) (t' := (.array .byte)) (by decide) (by decide)))
  show own_Fin p e below s _ _ _ T70 (mkF m 57 #[.val (.ref a1), .val (.ref a2), .val (.int (0 : Int32)), .val (.int (2 : Int32)), .val .null, .val (.ref b65)] [])
  exact own_retV X70 hx hlk hret (hb hby d4_57) (by rw [e70]; exact ⟨_, _, rfl, N70, Kp70, f71_4, Fw70, f71_3⟩) (by decide) (by decide)
theorem ef_rmSC2 (m : MethodId) (x0 : Addr) (x1 : Addr) : entryFrame m #[(.ref x0), (.ref x1)] 2 = mkF m 0 #[.val (.ref x0), .val (.ref x1)] [] := by first | (simp [entryFrame, mkF, argsToLocals, Value.category]; done) | rfl
set_option maxRecDepth 65536 in
set_option maxHeartbeats 40000000 in
theorem rmSC2 (l : Launch) (Z : State) (a0 : Array Value) (hw : ∀ d ∈ tables_1, d.before a0 Z = true) (ws : List Jvm.Cond) (a1 a2 : Addr) (kc : ClassId) (cs : Int32) (x0 x1 : Int32) (h0 : Heap) (n0 : Nat) (Z0 : n0 ≤ h0.size) (E_a1 : Exa Z h0 a1 "java/lang/String") (F_v : Fld Z h0 a1 "java/lang/String" "value" "[B" .null) (F_c : Fld Z h0 a1 "java/lang/String" "coder" "B" (.int (0 : Int32))) (g_a1 : n0 ≤ a1) (V2 : Arv Z h0 a2 kc .char (2 : Int32) [(.int x0), (.int x1)] (.int (0 : Int32))) (ne12 : a2 ≠ a1) (hx0 : ¬ (255 : Int32) < x0) (hx1 : ¬ (255 : Int32) < x1) (S_cs : Sta Z h0 "java/lang/String" "COMPACT_STRINGS" "Z" (.int cs)) (hcs : ¬ cs = (0 : Int32)) : own_Met l Z (⟨"java/lang/String", "<init>", "([C)V"⟩ : MethodName) jdk_42_method_3_code 2 none ws (own_R 3 1 2 64) #[(.ref a1), (.ref a2)] h0 (own_Qsi2 Z a1 x0 x1 h0 n0) := by
  refine own_enter n0 own_pn119 (fun m => ef_rmSC2 m a1 a2 ) (fun p e s m below meth c s₁ hx hby hlk hml hret hown hnm hZ X0 e0 N0 => ?_)
  show own_Fin p e below s _ _ _ s₁ (mkF m 0 #[.val (.ref a1), .val (.ref a2)] [])
  have Kp72 : Keep h0 h0 [a1] := Keep.refl h0 _
  refine own_by (fun _ k => XS.aloadN X0.here hx rfl (hb hby d3_0) rfl rfl (XS.aloadN X0.here hx rfl (hb hby d3_1) rfl rfl (XS.iconst X0.here hx rfl (hb hby d3_2) (XS.aloadN X0.here hx rfl (hb hby d3_3) rfl rfl k)))) ?_
  show own_Fin p e below s _ _ _ s₁ (mkF m 4 #[.val (.ref a1), .val (.ref a2)] [(.ref a2), (.int (0 : Int32)), (.ref a2), (.ref a1)])
  obtain ⟨cl73, Ar73, -, S73, M73, -, -⟩ := id V2
  refine own_by (fun _ k => X0.arraylength hx (by rw [e0]; exact Ar73.1) (State.isArrayOf_alike hZ.alike Ar73.2.1) (g := (mkF m 4 #[.val (.ref a1), .val (.ref a2)] [(.ref a2), (.int (0 : Int32)), (.ref a2), (.ref a1)])) rfl rfl (hb hby d3_4) _ k) ?_
  rw [len_of S73 M73]
  show own_Fin p e below s _ _ _ s₁ (mkF m 5 #[.val (.ref a1), .val (.ref a2)] [(.int (2 : Int32)), (.int (0 : Int32)), (.ref a2), (.ref a1)])
  refine own_by (fun _ k => XS.aconstNull X0.here hx rfl (hb hby d3_5) k) ?_
  show own_Fin p e below s _ _ _ s₁ (mkF m 6 #[.val (.ref a1), .val (.ref a2)] [.null, (.int (2 : Int32)), (.int (0 : Int32)), (.ref a2), (.ref a1)])
  obtain ⟨_, _, ⟨T74, L74, k74, n74⟩, -, X74, ⟨Lc74, hQ74, l74, y74, z74⟩, st74⟩ := X0.specialBack hx (y := (⟨"java/lang/String", "<init>", "([CIILjava/lang/Void;)V"⟩ : MethodName)) rfl hown (mvT hZ (hw _ (List.mem_of_getElem? (i := 19) rfl))) (mvT hZ (hw _ (List.mem_of_getElem? (i := 20) rfl))) (mvT hZ (hw _ (List.mem_of_getElem? (i := 22) rfl))) (by decide) (backOf (W := 0) (rmSI2 l Z a0 hw [] a1 a2 kc cs x0 x1 h0 n0 Z0 E_a1 F_v F_c g_a1 V2 ne12 hx0 hx1 S_cs hcs) hZ (hw _ (List.mem_of_getElem? (i := 22) rfl)) (hw _ (List.mem_of_getElem? (i := 14) rfl)) (by decide) (by decide)) (g := (mkF m 6 #[.val (.ref a1), .val (.ref a2)] [.null, (.int (2 : Int32)), (.int (0 : Int32)), (.ref a2), (.ref a1)])) rfl (by rw [hml]; rfl) (Steps.refl _) (a := a1) (argsL := [(.ref a2), (.int (0 : Int32)), (.int (2 : Int32)), .null]) (rest := []) (lenOf own_pd150 rfl) rfl (by show 2 * 0 + _ ≤ _; exact Nat.le_of_eq rfl) (hb hby d3_6) (fun _ _ => ⟨rfl, e0, (by decide : 0 + 1 ≤ _), (by decide : 0 + 2 ≤ _)⟩)
  dsimp only [Pt.U, Pt.locs, Pt.cells, Pt.slots] at X74 l74 y74 z74 st74 hQ74
  subst l74 y74 z74
  obtain ⟨b74, k74, rfl, Nq74, K74, Gc74, Gv74, V74⟩ := hQ74
  have N74 := Fr.app N0 Nq74
  refine own_by (fun _ k => st74.trans k) ?_
  have Zs74 : n0 ≤ T74.heap.size := Nat.le_trans Z0 K74.1
  have Kp74 : Keep h0 T74.heap [a1] := Kp72.trans K74 (allS (Or.inl (List.mem_of_getElem? (i := 0) rfl)) all0)
  have f75_0 : Exa Z T74.heap a1 "java/lang/String" := E_a1.keep K74
  have f75_3 : Arv Z T74.heap a2 kc .char (2 : Int32) [(.int x0), (.int x1)] (.int (0 : Int32)) := V2.keep K74 (ninS ne12 nin0)
  show own_Fin p e below s _ _ _ T74 (mkF m 9 #[.val (.ref a1), .val (.ref a2)] [])
  exact own_retV X74 hx hlk hret (hb hby d3_9) ⟨_, _, rfl, N74, Kp74, Gc74, Gv74, V74⟩ (by decide) (by decide)
theorem d4_8 : decode jdk_42_method_149_code 8 = .ok (.aload_n 0, 1) := by decide +kernel
theorem d4_9 : decode jdk_42_method_149_code 9 = .ok (.ldc 7, 2) := by decide +kernel
theorem d4_11 : decode jdk_42_method_149_code 11 = .ok (.getfield 9, 3) := by decide +kernel
theorem d4_14 : decode jdk_42_method_149_code 14 = .ok (.putfield 9, 3) := by decide +kernel
theorem d4_17 : decode jdk_42_method_149_code 17 = .ok (.aload_n 0, 1) := by decide +kernel
theorem d4_18 : decode jdk_42_method_149_code 18 = .ok (.ldc 7, 2) := by decide +kernel
theorem d4_20 : decode jdk_42_method_149_code 20 = .ok (.getfield 15, 3) := by decide +kernel
theorem d4_23 : decode jdk_42_method_149_code 23 = .ok (.putfield 15, 3) := by decide +kernel
theorem d4_26 : decode jdk_42_method_149_code 26 = .ok (.return_, 1) := by decide +kernel
theorem ef_rmSIe (m : MethodId) (x0 : Addr) (x1 : Addr) (x2 : Int32) (x3 : Int32) : entryFrame m #[(.ref x0), (.ref x1), (.int x2), (.int x3), .null] 6 = mkF m 0 #[.val (.ref x0), .val (.ref x1), .val (.int x2), .val (.int x3), .val .null, .unset] [] := by first | (simp [entryFrame, mkF, argsToLocals, Value.category]; done) | rfl
def own_Qsie (Z : State) (a1 : Addr)  (h0 : Heap) (n0 : Nat) (v : Option Value) (h : Heap) (L : List Loc) : Prop := ∃ (b : Addr) (k : ClassId), v = none ∧ Fr n0 L ∧ Keep h0 h [a1] ∧ Fld Z h a1 "java/lang/String" "coder" "B" (.int (0 : Int32)) ∧ Fld Z h a1 "java/lang/String" "value" "[B" (.ref b) ∧ Arv Z h b k .byte (0 : Int32) [] (.int (0 : Int32))
set_option maxRecDepth 65536 in
set_option maxHeartbeats 40000000 in
theorem rmSIe (l : Launch) (Z : State) (a0 : Array Value) (hw : ∀ d ∈ tables_1, d.before a0 Z = true) (ws : List Jvm.Cond) (a1 a2 : Addr) (h0 : Heap) (n0 : Nat) (Z0 : n0 ≤ h0.size) (E_a1 : Exa Z h0 a1 "java/lang/String") (F_v : Fld Z h0 a1 "java/lang/String" "value" "[B" .null) (F_c : Fld Z h0 a1 "java/lang/String" "coder" "B" (.int (0 : Int32))) (g_a1 : n0 ≤ a1) :
    MetFree l (⟨"java/lang/String", "<init>", "([CIILjava/lang/Void;)V"⟩ : MethodName) (head1 (Jvm.Cond.code (⟨"java/lang/String", "<init>", "([CIILjava/lang/Void;)V"⟩ : MethodName) jdk_42_method_149_code 6 none :: ws) (own_R 1 4 8 14)) (fun a U => a = #[(.ref a1), (.ref a2), (.int (0 : Int32)), (.int (0 : Int32)), .null] ∧ Z.Warmed39 U.vm ∧ U.heap = h0 ∧ CHv Z consts_1 U.vm h0) (fun _ _ _ _ _ => True) (fun _ U o U' => ∃ v L, o = .returned v ∧ own_Qsie Z a1 h0 n0 v U'.heap L ∧ CHr Z consts_1 U.vm U.heap U'.vm U'.heap ∧ ReturnedEndW U o U' L (own_R 1 4 8 14).cells (own_R 1 4 8 14).slots) := by
  refine MetFree.of_bodySF (plainFor_of_name own_pn119) hisR ?_
  intro p e s m args below meth c s₁ Bd hml0 hP hK
  obtain ⟨rfl, hZ, hh, hCH0⟩ := hP
  have hx := Bd.exec
  have hby := Bd.bytes
  have hlk := Bd.notSynchronized
  have hml : c.maxLocals = 6 := hml0
  have hown : s.vm.findClass "java/lang/String" = some m.cls := findClass_of_methodNamed Bd.named
  have hnm := (name_of_methodNamed Bd.named Bd.method).1
  have X0 : Stand p l e (own_R 1 4 8 14) (s.setVm s.vm) m #[(.ref a1), (.ref a2), (.int (0 : Int32)), (.int (0 : Int32)), .null] below meth c s₁ [] 0 0 := Stand.of_body Bd
  have e0 : s₁.heap = h0 := by rw [← hh, Bd.state]; rfl
  have N0 := Fr.nil n0
  refine own_startH (Q := own_Qsie Z a1 h0 n0) (C := (own_R 1 4 8 14).cells) (N := (own_R 1 4 8 14).slots) hh (ef_rmSIe m a1 a2 (0 : Int32) (0 : Int32) ) ?_
  have hS0 : s.Since s.vm h0.size := (State.WarmedH.refl s).since _
  have hk0 : h0.size ≤ h0.size := Nat.le_refl _
  replace hown : (s.setVm s.vm).vm.findClass "java/lang/String" = some m.cls := hown
  replace hZ : Z.Warmed39 (s.setVm s.vm).vm := hZ
  have CH0 : CHr Z consts_1 s.vm h0 s.vm h0 := CHr.refl hCH0
  show own_FinH p e below s Z consts_1 h0 _ _ _ s₁ (mkF m 0 #[.val (.ref a1), .val (.ref a2), .val (.int (0 : Int32)), .val (.int (0 : Int32)), .val .null, .unset] [])
  have Kp76 : Keep h0 h0 [a1] := Keep.refl h0 _
  refine own_byH (fun _ k => XS.aloadN X0.here hx rfl (hb hby d4_0) rfl rfl k) ?_
  show own_FinH p e below s Z consts_1 h0 _ _ _ s₁ (mkF m 1 #[.val (.ref a1), .val (.ref a2), .val (.int (0 : Int32)), .val (.int (0 : Int32)), .val .null, .unset] [(.ref a1)])
  obtain ⟨T77, X77, e77, st77⟩ := initO X0 hx hZ hown (hw _ (List.mem_of_getElem? (i := 23) rfl)) (hw _ (List.mem_of_getElem? (i := 24) rfl)) (hw _ (List.mem_of_getElem? (i := 25) rfl)) e0 (g := (mkF m 1 #[.val (.ref a1), .val (.ref a2), .val (.int (0 : Int32)), .val (.int (0 : Int32)), .val .null, .unset] [(.ref a1)])) rfl (by rw [hml]; rfl) rfl (hb hby d4_1) (by decide) (W := 0) (by show 2 * 0 + _ ≤ _; exact Nat.le_of_eq rfl) (by decide)
  refine own_byH (fun _ k => st77 _ k) ?_
  show own_FinH p e below s Z consts_1 h0 _ _ _ T77 (mkF m 4 #[.val (.ref a1), .val (.ref a2), .val (.int (0 : Int32)), .val (.int (0 : Int32)), .val .null, .unset] [])
  refine own_byH (fun _ k => XS.iloadN X77.here hx rfl (hb hby d4_4) rfl k) ?_
  show own_FinH p e below s Z consts_1 h0 _ _ _ T77 (mkF m 5 #[.val (.ref a1), .val (.ref a2), .val (.int (0 : Int32)), .val (.int (0 : Int32)), .val .null, .unset] [(.int (0 : Int32))])
  refine own_byH (fun _ k => XS.ifNo X77.here hx rfl (hb hby d4_5) rfl ((if0 _ _).trans (teq (by decide : (0 : Int32) = (0 : Int32))).2) k) ?_
  show own_FinH p e below s Z consts_1 h0 _ _ _ T77 (mkF m 8 #[.val (.ref a1), .val (.ref a2), .val (.int (0 : Int32)), .val (.int (0 : Int32)), .val .null, .unset] [])
  refine own_byH (fun _ k => XS.aloadN X77.here hx rfl (hb hby d4_8) rfl rfl k) ?_
  show own_FinH p e below s Z consts_1 h0 _ _ _ T77 (mkF m 9 #[.val (.ref a1), .val (.ref a2), .val (.int (0 : Int32)), .val (.int (0 : Int32)), .val .null, .unset] [(.ref a1)])
  obtain ⟨b78, T78, h78, k78, v78, kk78, X78, e78, E78, hS78, hkE78, hZ78, hown78, Eb78, Cb78, Vb78, Ab78, -, -, hCr78, -, Sn78, st78⟩ := ldcCH (s := s) (vm0 := s.vm) X77 hx hZ hown (hw _ (List.mem_of_getElem? (i := 26) rfl)) (own_wS hw) e77 hS0 hk0 (own_EW hw) (by decide) CH0.1 (vs := []) (z := (0 : Int32)) (by decide) (by decide) (by decide) (g := (mkF m 9 #[.val (.ref a1), .val (.ref a2), .val (.int (0 : Int32)), .val (.int (0 : Int32)), .val .null, .unset] [(.ref a1)])) rfl (hb hby d4_9) (n := 0) (by decide) (by decide) (by decide) (by decide)
  have sf79_a1 : Safe Z consts_1 T78.vm h78 a1 := CHr.safe hCr78 E_a1.lt (own_safe hZ.alike E_a1 F_v)
  have CHs79 : CHr Z consts_1 s.vm h0 T78.vm h78 := CH0.trans (hCr78)
  replace hZ := hZ78
  replace hown := hown78
  refine own_byH (fun _ k => st78 _ k) ?_
  have Zs78 : n0 ≤ h78.size := Nat.le_trans Z0 E78.1
  have Kp78 : Keep h0 h78 [a1] := Kp76.ext E78
  have f80_0 : Exa Z h78 a1 "java/lang/String" := E_a1.ext E78
  have f80_1 : Fld Z h78 a1 "java/lang/String" "value" "[B" .null := F_v.ext E78
  have f80_2 : Fld Z h78 a1 "java/lang/String" "coder" "B" (.int (0 : Int32)) := F_c.ext E78
  have ne78_a1 := Sn78 a1 sf79_a1
  show own_FinH p e below s Z consts_1 h0 _ _ _ T78 (mkF m 11 #[.val (.ref a1), .val (.ref a2), .val (.int (0 : Int32)), .val (.int (0 : Int32)), .val .null, .unset] [(.ref b78), (.ref a1)])
  obtain ⟨T81, X81, e81, st81⟩ := getF X78 hx hZ hown (host := "") (Or.inl (hw _ (List.mem_of_getElem? (i := 32) rfl))) Via.refl e78 Vb78 (g := (mkF m 11 #[.val (.ref a1), .val (.ref a2), .val (.int (0 : Int32)), .val (.int (0 : Int32)), .val .null, .unset] [(.ref b78), (.ref a1)])) rfl rfl (hb hby d4_11)
  refine own_byH (fun _ k => st81 _ k) ?_
  show own_FinH p e below s Z consts_1 h0 _ _ _ T81 (mkF m 14 #[.val (.ref a1), .val (.ref a2), .val (.int (0 : Int32)), .val (.int (0 : Int32)), .val .null, .unset] [(.ref v78), (.ref a1)])
  obtain ⟨T82, h82, X82, e82, W82, st82⟩ := putF X81 hx hZ hown (host := "") (Or.inl (hw _ (List.mem_of_getElem? (i := 32) rfl))) Via.refl e81 f80_1 f80_0 (Or.inr ⟨(hw _ (List.mem_of_getElem? (i := 28) rfl)), rfl, hnm⟩) (hw _ (List.mem_of_getElem? (i := 13) rfl)) (ty := (.array .byte)) (by decide) rfl rfl (g := (mkF m 14 #[.val (.ref a1), .val (.ref a2), .val (.int (0 : Int32)), .val (.int (0 : Int32)), .val .null, .unset] [(.ref v78), (.ref a1)])) rfl rfl (hb hby d4_14)
  refine own_byH (fun _ k => st82 _ k) ?_
  have Fw82 : Fld Z h82 a1 "java/lang/String" "value" "[B" (.ref v78) := f80_1.same W82
  have Kp82 : Keep h0 h82 [a1] := Kp78.wr W82 (Or.inl (List.mem_of_getElem? (i := 0) rfl))
  have Zs82 : n0 ≤ h82.size := Nat.le_trans Zs78 (Keep.of_wr W82).1
  have N82 := Fr.snoc X82 N0 g_a1
  have hkE82 : _ ≤ h82.size := Nat.le_trans hkE78 (Keep.of_wr W82).1
  have sf83_a1 : Safe Z consts_1 T78.vm h82 a1 := Safe.wr W82 sf79_a1 CHs79.1 sf79_a1
  have CHs83 : CHr Z consts_1 s.vm h0 T78.vm h82 := CHs79.trans (CHr.wr W82 sf79_a1 CHs79.1)
  have f84_0 : Exa Z h82 a1 "java/lang/String" := f80_0.wr W82
  have f84_2 : Fld Z h82 a1 "java/lang/String" "coder" "B" (.int (0 : Int32)) := f80_2.other W82 (Or.inr (slot_ne (Or.inr (hw _ (List.mem_of_getElem? (i := 29) rfl))) (Or.inr (hw _ (List.mem_of_getElem? (i := 28) rfl))) (by decide) (t := .byte) (t' := (.array .byte)) (by decide) (by decide)))
  have f84_4 : Exa Z h82 b78 "java/lang/String" := Eb78.wr W82
  have f84_5 : Fld Z h82 b78 "java/lang/String" "coder" "B" (.int (0 : Int32)) := Cb78.other W82 (Or.inl (Ne.symm ne78_a1.1))
  have f84_6 : Fld Z h82 b78 "java/lang/String" "value" "[B" (.ref v78) := Vb78.other W82 (Or.inl (Ne.symm ne78_a1.1))
  have f84_7 : Arv Z h82 v78 kk78 .byte (0 : Int32) [] (.int (0 : Int32)) := Ab78.other W82 (Ne.symm ne78_a1.2)
  show own_FinH p e below s Z consts_1 h0 _ _ _ T82 (mkF m 17 #[.val (.ref a1), .val (.ref a2), .val (.int (0 : Int32)), .val (.int (0 : Int32)), .val .null, .unset] [])
  refine own_byH (fun _ k => XS.aloadN X82.here hx rfl (hb hby d4_17) rfl rfl k) ?_
  show own_FinH p e below s Z consts_1 h0 _ _ _ T82 (mkF m 18 #[.val (.ref a1), .val (.ref a2), .val (.int (0 : Int32)), .val (.int (0 : Int32)), .val .null, .unset] [(.ref a1)])
  obtain ⟨b85, T85, h85, k85, v85, kk85, X85, e85, E85, hS85, hkE85, hZ85, hown85, Eb85, Cb85, Vb85, Ab85, -, -, hCr85, -, Sn85, st85⟩ := ldcCH (s := s) (vm0 := T78.vm) X82 hx hZ hown (hw _ (List.mem_of_getElem? (i := 26) rfl)) (own_wS hw) e82 hS78 hkE82 (own_EW hw) (by decide) CHs83.1 (vs := []) (z := (0 : Int32)) (by decide) (by decide) (by decide) (g := (mkF m 18 #[.val (.ref a1), .val (.ref a2), .val (.int (0 : Int32)), .val (.int (0 : Int32)), .val .null, .unset] [(.ref a1)])) rfl (hb hby d4_18) (n := 0) (by decide) (by decide) (by decide) (by decide)
  have sf86_a1 : Safe Z consts_1 T85.vm h85 a1 := CHr.safe hCr85 f84_0.lt sf83_a1
  have CHs86 : CHr Z consts_1 s.vm h0 T85.vm h85 := CHs83.trans (hCr85)
  replace hZ := hZ85
  replace hown := hown85
  refine own_byH (fun _ k => st85 _ k) ?_
  have Zs85 : n0 ≤ h85.size := Nat.le_trans Zs82 E85.1
  have Kp85 : Keep h0 h85 [a1] := Kp82.ext E85
  have f87_0 : Exa Z h85 a1 "java/lang/String" := f84_0.ext E85
  have f87_1 : Fld Z h85 a1 "java/lang/String" "coder" "B" (.int (0 : Int32)) := f84_2.ext E85
  have f87_3 : Exa Z h85 b78 "java/lang/String" := f84_4.ext E85
  have f87_4 : Fld Z h85 b78 "java/lang/String" "coder" "B" (.int (0 : Int32)) := f84_5.ext E85
  have f87_5 : Fld Z h85 b78 "java/lang/String" "value" "[B" (.ref v78) := f84_6.ext E85
  have f87_6 : Arv Z h85 v78 kk78 .byte (0 : Int32) [] (.int (0 : Int32)) := f84_7.ext E85
  have f87_7 : Fld Z h85 a1 "java/lang/String" "value" "[B" (.ref v78) := Fw82.ext E85
  have ne85_a1 := Sn85 a1 sf86_a1
  show own_FinH p e below s Z consts_1 h0 _ _ _ T85 (mkF m 20 #[.val (.ref a1), .val (.ref a2), .val (.int (0 : Int32)), .val (.int (0 : Int32)), .val .null, .unset] [(.ref b85), (.ref a1)])
  obtain ⟨T88, X88, e88, st88⟩ := getF X85 hx hZ hown (host := "") (Or.inl (hw _ (List.mem_of_getElem? (i := 33) rfl))) Via.refl e85 Cb85 (g := (mkF m 20 #[.val (.ref a1), .val (.ref a2), .val (.int (0 : Int32)), .val (.int (0 : Int32)), .val .null, .unset] [(.ref b85), (.ref a1)])) rfl rfl (hb hby d4_20)
  refine own_byH (fun _ k => st88 _ k) ?_
  show own_FinH p e below s Z consts_1 h0 _ _ _ T88 (mkF m 23 #[.val (.ref a1), .val (.ref a2), .val (.int (0 : Int32)), .val (.int (0 : Int32)), .val .null, .unset] [(.int (0 : Int32)), (.ref a1)])
  obtain ⟨T89, h89, X89, e89, W89, st89⟩ := putFN X88 hx hZ hown (hw _ (List.mem_of_getElem? (i := 33) rfl)) Via.refl e88 f87_1 f87_0 (Or.inr ⟨(hw _ (List.mem_of_getElem? (i := 29) rfl)), rfl, hnm⟩) (hw _ (List.mem_of_getElem? (i := 13) rfl)) (ty := .byte) (v' := (.int (0 : Int32))) (by decide) rfl (by decide) (g := (mkF m 23 #[.val (.ref a1), .val (.ref a2), .val (.int (0 : Int32)), .val (.int (0 : Int32)), .val .null, .unset] [(.int (0 : Int32)), (.ref a1)])) rfl rfl (hb hby d4_23)
  refine own_byH (fun _ k => st89 _ k) ?_
  have Fw89 : Fld Z h89 a1 "java/lang/String" "coder" "B" (.int (0 : Int32)) := f87_1.same W89
  have Kp89 : Keep h0 h89 [a1] := Kp85.wr W89 (Or.inl (List.mem_of_getElem? (i := 0) rfl))
  have Zs89 : n0 ≤ h89.size := Nat.le_trans Zs85 (Keep.of_wr W89).1
  have N89 := Fr.snoc X89 N82 g_a1
  have hkE89 : _ ≤ h89.size := Nat.le_trans hkE85 (Keep.of_wr W89).1
  have sf90_a1 : Safe Z consts_1 T85.vm h89 a1 := Safe.wr W89 sf86_a1 CHs86.1 sf86_a1
  have CHs90 : CHr Z consts_1 s.vm h0 T85.vm h89 := CHs86.trans (CHr.wr W89 sf86_a1 CHs86.1)
  have f91_0 : Exa Z h89 a1 "java/lang/String" := f87_0.wr W89
  have f91_3 : Exa Z h89 b78 "java/lang/String" := f87_3.wr W89
  have f91_4 : Fld Z h89 b78 "java/lang/String" "coder" "B" (.int (0 : Int32)) := f87_4.other W89 (Or.inl (Ne.symm ne78_a1.1))
  have f91_5 : Fld Z h89 b78 "java/lang/String" "value" "[B" (.ref v78) := f87_5.other W89 (Or.inl (Ne.symm ne78_a1.1))
  have f91_6 : Arv Z h89 v78 kk78 .byte (0 : Int32) [] (.int (0 : Int32)) := f87_6.other W89 (Ne.symm ne78_a1.2)
  have f91_7 : Fld Z h89 a1 "java/lang/String" "value" "[B" (.ref v78) := f87_7.other W89 (Or.inr (slot_ne (Or.inr (hw _ (List.mem_of_getElem? (i := 28) rfl))) (Or.inr (hw _ (List.mem_of_getElem? (i := 29) rfl))) (by decide) (t := (.array .byte)) (t' := .byte) (by decide) (by decide)))
  have f91_8 : Exa Z h89 b85 "java/lang/String" := Eb85.wr W89
  have f91_9 : Fld Z h89 b85 "java/lang/String" "coder" "B" (.int (0 : Int32)) := Cb85.other W89 (Or.inl (Ne.symm ne85_a1.1))
  have f91_10 : Fld Z h89 b85 "java/lang/String" "value" "[B" (.ref v85) := Vb85.other W89 (Or.inl (Ne.symm ne85_a1.1))
  have f91_11 : Arv Z h89 v85 kk85 .byte (0 : Int32) [] (.int (0 : Int32)) := Ab85.other W89 (Ne.symm ne85_a1.2)
  show own_FinH p e below s Z consts_1 h0 _ _ _ T89 (mkF m 26 #[.val (.ref a1), .val (.ref a2), .val (.int (0 : Int32)), .val (.int (0 : Int32)), .val .null, .unset] [])
  have CHe92 : CHr Z consts_1 s.vm h0 T89.vm h89 := CHs90.trans (CHv.at X89 hZ (own_EW hw) CHs90.1)
  exact own_retVH X89 hS85 (by rw [e89]; exact hkE89) (by rw [e89]; exact CHe92) hx hlk Bd.returns (hb hby d4_26) (by rw [e89]; exact ⟨_, _, rfl, N89, Kp89, Fw89, f91_7, f91_6⟩) (by decide) (by decide)
theorem ef_rmSCe (m : MethodId) (x0 : Addr) (x1 : Addr) : entryFrame m #[(.ref x0), (.ref x1)] 2 = mkF m 0 #[.val (.ref x0), .val (.ref x1)] [] := by first | (simp [entryFrame, mkF, argsToLocals, Value.category]; done) | rfl
set_option maxRecDepth 65536 in
set_option maxHeartbeats 40000000 in
theorem rmSCe (l : Launch) (Z : State) (a0 : Array Value) (hw : ∀ d ∈ tables_1, d.before a0 Z = true) (ws : List Jvm.Cond) (a1 a2 : Addr) (kc : ClassId) (h0 : Heap) (n0 : Nat) (Z0 : n0 ≤ h0.size) (E_a1 : Exa Z h0 a1 "java/lang/String") (F_v : Fld Z h0 a1 "java/lang/String" "value" "[B" .null) (F_c : Fld Z h0 a1 "java/lang/String" "coder" "B" (.int (0 : Int32))) (g_a1 : n0 ≤ a1) (V2 : Arv Z h0 a2 kc .char (0 : Int32) [] (.int (0 : Int32))) :
    MetFree l (⟨"java/lang/String", "<init>", "([C)V"⟩ : MethodName) (head1 (Jvm.Cond.code (⟨"java/lang/String", "<init>", "([C)V"⟩ : MethodName) jdk_42_method_3_code 2 none :: ws) (own_R 2 4 8 40)) (fun a U => a = #[(.ref a1), (.ref a2)] ∧ Z.Warmed39 U.vm ∧ U.heap = h0 ∧ CHv Z consts_1 U.vm h0) (fun _ _ _ _ _ => True) (fun _ U o U' => ∃ v L, o = .returned v ∧ own_Qsie Z a1 h0 n0 v U'.heap L ∧ CHr Z consts_1 U.vm U.heap U'.vm U'.heap ∧ ReturnedEndW U o U' L (own_R 2 4 8 40).cells (own_R 2 4 8 40).slots) := by
  refine MetFree.of_bodySF (plainFor_of_name own_pn119) hisR ?_
  intro p e s m args below meth c s₁ Bd hml0 hP hK
  obtain ⟨rfl, hZ, hh, hCH0⟩ := hP
  have hx := Bd.exec
  have hby := Bd.bytes
  have hlk := Bd.notSynchronized
  have hml : c.maxLocals = 2 := hml0
  have hown : s.vm.findClass "java/lang/String" = some m.cls := findClass_of_methodNamed Bd.named
  have hnm := (name_of_methodNamed Bd.named Bd.method).1
  have X0 : Stand p l e (own_R 2 4 8 40) (s.setVm s.vm) m #[(.ref a1), (.ref a2)] below meth c s₁ [] 0 0 := Stand.of_body Bd
  have e0 : s₁.heap = h0 := by rw [← hh, Bd.state]; rfl
  have N0 := Fr.nil n0
  refine own_startH (Q := own_Qsie Z a1 h0 n0) (C := (own_R 2 4 8 40).cells) (N := (own_R 2 4 8 40).slots) hh (ef_rmSCe m a1 a2 ) ?_
  have hS0 : s.Since s.vm h0.size := (State.WarmedH.refl s).since _
  have hk0 : h0.size ≤ h0.size := Nat.le_refl _
  replace hown : (s.setVm s.vm).vm.findClass "java/lang/String" = some m.cls := hown
  replace hZ : Z.Warmed39 (s.setVm s.vm).vm := hZ
  have CH0 : CHr Z consts_1 s.vm h0 s.vm h0 := CHr.refl hCH0
  show own_FinH p e below s Z consts_1 h0 _ _ _ s₁ (mkF m 0 #[.val (.ref a1), .val (.ref a2)] [])
  have Kp93 : Keep h0 h0 [a1] := Keep.refl h0 _
  refine own_byH (fun _ k => XS.aloadN X0.here hx rfl (hb hby d3_0) rfl rfl (XS.aloadN X0.here hx rfl (hb hby d3_1) rfl rfl (XS.iconst X0.here hx rfl (hb hby d3_2) (XS.aloadN X0.here hx rfl (hb hby d3_3) rfl rfl k)))) ?_
  show own_FinH p e below s Z consts_1 h0 _ _ _ s₁ (mkF m 4 #[.val (.ref a1), .val (.ref a2)] [(.ref a2), (.int (0 : Int32)), (.ref a2), (.ref a1)])
  obtain ⟨cl94, Ar94, -, S94, M94, -, -⟩ := id V2
  refine own_byH (fun _ k => X0.arraylength hx (by rw [e0]; exact Ar94.1) (State.isArrayOf_alike hZ.alike Ar94.2.1) (g := (mkF m 4 #[.val (.ref a1), .val (.ref a2)] [(.ref a2), (.int (0 : Int32)), (.ref a2), (.ref a1)])) rfl rfl (hb hby d3_4) _ k) ?_
  rw [len_of S94 M94]
  show own_FinH p e below s Z consts_1 h0 _ _ _ s₁ (mkF m 5 #[.val (.ref a1), .val (.ref a2)] [(.int (0 : Int32)), (.int (0 : Int32)), (.ref a2), (.ref a1)])
  refine own_byH (fun _ k => XS.aconstNull X0.here hx rfl (hb hby d3_5) k) ?_
  show own_FinH p e below s Z consts_1 h0 _ _ _ s₁ (mkF m 6 #[.val (.ref a1), .val (.ref a2)] [.null, (.int (0 : Int32)), (.int (0 : Int32)), (.ref a2), (.ref a1)])
  obtain ⟨_, _, ⟨T95, L95, k95, n95⟩, -, X95, hSn95, hgr95, ⟨Lc95, hQ95, l95, y95, z95, hCr95⟩, st95⟩ := X0.specialBackS hx (y := (⟨"java/lang/String", "<init>", "([CIILjava/lang/Void;)V"⟩ : MethodName)) rfl hown (mvT hZ (hw _ (List.mem_of_getElem? (i := 19) rfl))) (mvT hZ (hw _ (List.mem_of_getElem? (i := 20) rfl))) (mvT hZ (hw _ (List.mem_of_getElem? (i := 22) rfl))) (by decide) (backOfSH (W := 0) (s := s) (vm0 := s.vm) (rmSIe l Z a0 hw [] a1 a2 h0 n0 Z0 E_a1 F_v F_c g_a1) hZ (hw _ (List.mem_of_getElem? (i := 22) rfl)) (hw _ (List.mem_of_getElem? (i := 14) rfl)) (by decide) (by decide) (own_EW hw) CH0.1) (g := (mkF m 6 #[.val (.ref a1), .val (.ref a2)] [.null, (.int (0 : Int32)), (.int (0 : Int32)), (.ref a2), (.ref a1)])) rfl (by rw [hml]; rfl) (Steps.refl _) (a := a1) (argsL := [(.ref a2), (.int (0 : Int32)), (.int (0 : Int32)), .null]) (rest := []) (lenOf own_pd150 rfl) rfl (by show 2 * 0 + _ ≤ _; exact Nat.le_of_eq rfl) (hb hby d3_6) (fun _ _ => ⟨rfl, e0, (by decide : 0 + 4 ≤ _), (by decide : 0 + 8 ≤ _)⟩)
  dsimp only [Pt.U, Pt.locs, Pt.cells, Pt.slots] at X95 l95 y95 z95 st95 hQ95 hSn95 hgr95
  subst l95 y95 z95
  obtain ⟨b95, k95, rfl, Nq95, K95, Gc95, Gv95, V95⟩ := hQ95
  have N95 := Fr.app N0 Nq95
  have hS95 : s.Since T95.vm T95.heap.size := foldS (s := s) hS0 (by rw [e0]; exact hk0) hSn95 hgr95
  have hZ95 : Z.Warmed39 (s.setVm T95.vm).vm := State.Warmed39.trans (t := s.setVm s.vm) hZ hSn95.1
  have hown95 : (s.setVm T95.vm).vm.findClass "java/lang/String" = some m.cls := by rw [show (s.setVm T95.vm).vm = T95.vm from rfl, hSn95.1.alike.findClass]; exact hown
  replace hCr95 : CHr Z consts_1 s.vm h0 T95.vm T95.heap := hCr95
  have CHs96 : CHr Z consts_1 s.vm h0 T95.vm T95.heap := CH0.trans (hCr95)
  replace hZ := hZ95
  replace hown := hown95
  replace X95 : Stand p l e (own_R 2 4 8 40) (s.setVm T95.vm) m #[(.ref a1), (.ref a2)] below meth c T95 _ _ _ := X95
  have hkE95 : T95.heap.size ≤ T95.heap.size := Nat.le_refl _
  refine own_byH (fun _ k => st95.trans k) ?_
  have Zs95 : n0 ≤ T95.heap.size := Nat.le_trans Z0 K95.1
  have Kp95 : Keep h0 T95.heap [a1] := Kp93.trans K95 (allS (Or.inl (List.mem_of_getElem? (i := 0) rfl)) all0)
  have f97_0 : Exa Z T95.heap a1 "java/lang/String" := E_a1.keep K95
  show own_FinH p e below s Z consts_1 h0 _ _ _ T95 (mkF m 9 #[.val (.ref a1), .val (.ref a2)] [])
  have CHe98 : CHr Z consts_1 s.vm h0 T95.vm T95.heap := CHs96.trans (CHv.at X95 hZ (own_EW hw) CHs96.1)
  exact own_retVH X95 hS95 hkE95 CHe98 hx hlk Bd.returns (hb hby d3_9) ⟨_, _, rfl, N95, Kp95, Gc95, Gv95, V95⟩ (by decide) (by decide)
theorem d2_0 : decode method_3_code 0 = .ok (.iload_n 0, 1) := by decide +kernel
theorem d2_1 : decode method_3_code 1 = .ok (.ifCond .ne 14, 3) := by decide +kernel
theorem d2_4 : decode method_3_code 4 = .ok (.new 37, 3) := by decide +kernel
theorem d2_7 : decode method_3_code 7 = .ok (.dup, 1) := by decide +kernel
theorem d2_8 : decode method_3_code 8 = .ok (.iconst 0, 1) := by decide +kernel
theorem d2_9 : decode method_3_code 9 = .ok (.newarray .char, 2) := by decide +kernel
theorem d2_11 : decode method_3_code 11 = .ok (.invokespecial 39, 3) := by decide +kernel
theorem own_pd176 : parseMethodDescriptor "([C)V" = some ⟨[(.array .char)], none⟩ := by decide +kernel
theorem d2_14 : decode method_3_code 14 = .ok (.areturn, 1) := by decide +kernel
theorem d2_15 : decode method_3_code 15 = .ok (.iload_n 0, 1) := by decide +kernel
theorem d2_16 : decode method_3_code 16 = .ok (.iconst 1, 1) := by decide +kernel
theorem d2_17 : decode method_3_code 17 = .ok (.if_icmp .ne 20, 3) := by decide +kernel
theorem d2_20 : decode method_3_code 20 = .ok (.iconst 1, 1) := by decide +kernel
theorem d2_21 : decode method_3_code 21 = .ok (.newarray .char, 2) := by decide +kernel
theorem d2_23 : decode method_3_code 23 = .ok (.astore_n 3, 1) := by decide +kernel
theorem d2_24 : decode method_3_code 24 = .ok (.aload_n 3, 1) := by decide +kernel
theorem d2_25 : decode method_3_code 25 = .ok (.iconst 0, 1) := by decide +kernel
theorem d2_26 : decode method_3_code 26 = .ok (.iload_n 1, 1) := by decide +kernel
theorem d2_27 : decode method_3_code 27 = .ok (.castore, 1) := by decide +kernel
theorem d2_28 : decode method_3_code 28 = .ok (.new 37, 3) := by decide +kernel
theorem d2_31 : decode method_3_code 31 = .ok (.dup, 1) := by decide +kernel
theorem d2_32 : decode method_3_code 32 = .ok (.aload_n 3, 1) := by decide +kernel
theorem d2_33 : decode method_3_code 33 = .ok (.invokespecial 39, 3) := by decide +kernel
theorem d2_36 : decode method_3_code 36 = .ok (.areturn, 1) := by decide +kernel
theorem d2_37 : decode method_3_code 37 = .ok (.iconst 2, 1) := by decide +kernel
theorem d2_38 : decode method_3_code 38 = .ok (.newarray .char, 2) := by decide +kernel
theorem d2_40 : decode method_3_code 40 = .ok (.astore_n 3, 1) := by decide +kernel
theorem d2_41 : decode method_3_code 41 = .ok (.aload_n 3, 1) := by decide +kernel
theorem d2_42 : decode method_3_code 42 = .ok (.iconst 0, 1) := by decide +kernel
theorem d2_43 : decode method_3_code 43 = .ok (.iload_n 1, 1) := by decide +kernel
theorem d2_44 : decode method_3_code 44 = .ok (.castore, 1) := by decide +kernel
theorem d2_45 : decode method_3_code 45 = .ok (.aload_n 3, 1) := by decide +kernel
theorem d2_46 : decode method_3_code 46 = .ok (.iconst 1, 1) := by decide +kernel
theorem d2_47 : decode method_3_code 47 = .ok (.iload_n 2, 1) := by decide +kernel
theorem d2_48 : decode method_3_code 48 = .ok (.castore, 1) := by decide +kernel
theorem d2_49 : decode method_3_code 49 = .ok (.new 37, 3) := by decide +kernel
theorem d2_52 : decode method_3_code 52 = .ok (.dup, 1) := by decide +kernel
theorem d2_53 : decode method_3_code 53 = .ok (.aload_n 3, 1) := by decide +kernel
theorem d2_54 : decode method_3_code 54 = .ok (.invokespecial 39, 3) := by decide +kernel
theorem d2_57 : decode method_3_code 57 = .ok (.areturn, 1) := by decide +kernel
theorem ef_rmTx (m : MethodId) (x0 : Int32) (x1 : Int32) (x2 : Int32) : entryFrame m #[(.int x0), (.int x1), (.int x2)] 4 = mkF m 0 #[.val (.int x0), .val (.int x1), .val (.int x2), .unset] [] := by first | (simp [entryFrame, mkF, argsToLocals, Value.category]; done) | rfl
def own_Qtx (Z : State) (n c0 c1 : Int32) (h0 : Heap) (n0 : Nat) (v : Option Value) (h : Heap) (L : List Loc) : Prop := ∃ (a b : Addr) (k : ClassId) (z : Int32), v = some (.ref a) ∧ Fr n0 L ∧ Keep h0 h [] ∧ h0.size ≤ a ∧ Exa Z h a "java/lang/String" ∧ Fld Z h a "java/lang/String" "coder" "B" (.int (0 : Int32)) ∧ Fld Z h a "java/lang/String" "value" "[B" (.ref b) ∧ Arv Z h b k .byte z ((own_lst n c0 c1).map Value.int) (.int (0 : Int32)) ∧ z.toInt = (own_lst n c0 c1).length
set_option maxRecDepth 65536 in
set_option maxHeartbeats 40000000 in
theorem rmTx (l : Launch) (Z : State) (a0 : Array Value) (hw : ∀ d ∈ tables_1, d.before a0 Z = true) (ws : List Jvm.Cond) (n c0 c1 cs : Int32) (h0 : Heap) (n0 : Nat) (Z0 : n0 ≤ h0.size) (hn : own_n3 n) (h0c : own_chr c0) (h1c : own_chr c1) (S_cs : Sta Z Z.heap "java/lang/String" "COMPACT_STRINGS" "Z" (.int cs)) (hcs : ¬ cs = (0 : Int32)) (Od : Old Z n0 h0) :
    MetFree l (⟨"com/example/hinta/hinta/ctmc/RewardEqualsPinLaw", "text", "(ICC)Ljava/lang/String;"⟩ : MethodName) (head1 (Jvm.Cond.code (⟨"com/example/hinta/hinta/ctmc/RewardEqualsPinLaw", "text", "(ICC)Ljava/lang/String;"⟩ : MethodName) method_3_code 4 (some (.object "java/lang/String")) :: ws) (own_R 4 6 12 90)) (fun a U => a = #[(.int n), (.int c0), (.int c1)] ∧ Z.Warmed39 U.vm ∧ U.heap = h0 ∧ CHv Z consts_1 U.vm h0) (fun _ _ _ _ _ => True) (fun _ U o U' => ∃ v L, o = .returned v ∧ own_Qtx Z n c0 c1 h0 n0 v U'.heap L ∧ CHr Z consts_1 U.vm U.heap U'.vm U'.heap ∧ ReturnedEndW U o U' L (own_R 4 6 12 90).cells (own_R 4 6 12 90).slots) := by
  refine MetFree.of_bodySF (plainFor_of_name own_pn1) hisR ?_
  intro p e s m args below meth c s₁ Bd hml0 hP hK
  obtain ⟨rfl, hZ, hh, hCH0⟩ := hP
  have hx := Bd.exec
  have hby := Bd.bytes
  have hlk := Bd.notSynchronized
  have hml : c.maxLocals = 4 := hml0
  have hown : s.vm.findClass "com/example/hinta/hinta/ctmc/RewardEqualsPinLaw" = some m.cls := findClass_of_methodNamed Bd.named
  have hnm := (name_of_methodNamed Bd.named Bd.method).1
  have X0 : Stand p l e (own_R 4 6 12 90) (s.setVm s.vm) m #[(.int n), (.int c0), (.int c1)] below meth c s₁ [] 0 0 := Stand.of_body Bd
  have e0 : s₁.heap = h0 := by rw [← hh, Bd.state]; rfl
  have N0 := Fr.nil n0
  refine own_startH (Q := own_Qtx Z n c0 c1 h0 n0) (C := (own_R 4 6 12 90).cells) (N := (own_R 4 6 12 90).slots) hh (ef_rmTx m n c0 c1 ) ?_
  have hS0 : s.Since s.vm h0.size := (State.WarmedH.refl s).since _
  have hk0 : h0.size ≤ h0.size := Nat.le_refl _
  replace hown : (s.setVm s.vm).vm.findClass "com/example/hinta/hinta/ctmc/RewardEqualsPinLaw" = some m.cls := hown
  replace hZ : Z.Warmed39 (s.setVm s.vm).vm := hZ
  have CH0 : CHr Z consts_1 s.vm h0 s.vm h0 := CHr.refl hCH0
  show own_FinH p e below s Z consts_1 h0 _ _ _ s₁ (mkF m 0 #[.val (.int n), .val (.int c0), .val (.int c1), .unset] [])
  have Kp99 : Keep h0 h0 [] := Keep.refl h0 _
  refine own_byH (fun _ k => XS.iloadN X0.here hx rfl (hb hby d2_0) rfl k) ?_
  show own_FinH p e below s Z consts_1 h0 _ _ _ s₁ (mkF m 1 #[.val (.int n), .val (.int c0), .val (.int c1), .unset] [(.int n)])
  by_cases hc1_100 : n = (0 : Int32)
  · show own_FinH p e below s Z consts_1 h0 _ _ _ s₁ (mkF m 1 #[.val (.int n), .val (.int c0), .val (.int c1), .unset] [(.int n)])
    refine own_byH (fun _ k => XS.ifNo X0.here hx rfl (hb hby d2_1) rfl ((if0 _ _).trans (teq hc1_100).2) k) ?_
    show own_FinH p e below s Z consts_1 h0 _ _ _ s₁ (mkF m 4 #[.val (.int n), .val (.int c0), .val (.int c1), .unset] [])
    obtain ⟨T101, h101, X101, e101, E101, A101, D101, -, st101⟩ := newO X0 hx hZ hown (hw _ (List.mem_of_getElem? (i := 12) rfl)) (hw _ (List.mem_of_getElem? (i := 13) rfl)) (hw _ (List.mem_of_getElem? (i := 14) rfl)) e0 (g := (mkF m 4 #[.val (.int n), .val (.int c0), .val (.int c1), .unset] [])) rfl (hb hby d2_4) (by decide) (by decide)
    obtain ⟨b101, g101⟩ : ∃ z, z = h0.size := ⟨_, rfl⟩
    rw [← g101] at A101 D101 st101
    refine own_byH (fun _ k => st101 _ k) ?_
    have gf101 : n0 ≤ b101 := Nat.le_trans Z0 (Nat.le_of_eq g101.symm)
    have Zs101 : n0 ≤ h101.size := Nat.le_trans Z0 E101.1
    have Kp101 : Keep h0 h101 [] := Kp99.ext E101
    have sz_b101 : h0.size ≤ b101 := Nat.le_trans Kp99.1 (Nat.le_of_eq g101.symm)
    have hkE101 : _ ≤ h101.size := Nat.le_trans hk0 E101.1
    have Sf101 : Safe Z consts_1 s.vm h101 b101 := Safe.ext E101 CH0.1 (Safe.new (Nat.le_of_eq g101.symm))
    have CHs102 : CHr Z consts_1 s.vm h0 s.vm h101 := CH0.trans (CHr.ext E101 CH0.1)
    have f103_0 : Old Z n0 h101 := Od.ext E101
    have F101_value : Fld Z h101 b101 "java/lang/String" "value" "[B" .null := D101 (Or.inr (hw _ (List.mem_of_getElem? (i := 28) rfl))) (ty := (.array .byte)) (by decide)
    have F101_coder : Fld Z h101 b101 "java/lang/String" "coder" "B" (.int (0 : Int32)) := D101 (Or.inr (hw _ (List.mem_of_getElem? (i := 29) rfl))) (ty := .byte) (by decide)
    show own_FinH p e below s Z consts_1 h0 _ _ _ T101 (mkF m 7 #[.val (.int n), .val (.int c0), .val (.int c1), .unset] [(.ref b101)])
    refine own_byH (fun _ k => XS.dup X101.here hx rfl (hb hby d2_7) rfl rfl (XS.iconst X101.here hx rfl (hb hby d2_8) k)) ?_
    show own_FinH p e below s Z consts_1 h0 _ _ _ T101 (mkF m 9 #[.val (.int n), .val (.int c0), .val (.int c1), .unset] [(.int (0 : Int32)), (.ref b101), (.ref b101)])
    obtain ⟨T104, h104, k104, X104, e104, E104, A104, st104⟩ := newP X101 hx hZ (hw _ (List.mem_of_getElem? (i := 15) rfl)) e101 (g := (mkF m 9 #[.val (.int n), .val (.int c0), .val (.int c1), .unset] [(.int (0 : Int32)), (.ref b101), (.ref b101)])) rfl (hb hby d2_9) rfl (by decide) (cap := 0) (by decide) (by decide) (by decide) (by decide)
    obtain ⟨b104, g104⟩ : ∃ z, z = h101.size := ⟨_, rfl⟩
    rw [← g104] at A104 st104
    refine own_byH (fun _ k => st104 _ k) ?_
    have V104 : Arv Z h104 b104 k104 .char (0 : Int32) [] (.int (0 : Int32)) := Arv.new A104 (by decide)
    have ne104_b101 : b101 ≠ b104 := Nat.ne_of_lt (Nat.lt_of_lt_of_le A101.lt (Nat.le_of_eq g104.symm))
    have gf104 : n0 ≤ b104 := Nat.le_trans Zs101 (Nat.le_of_eq g104.symm)
    have Zs104 : n0 ≤ h104.size := Nat.le_trans Zs101 E104.1
    have Kp104 : Keep h0 h104 [] := Kp101.ext E104
    have sz_b104 : h0.size ≤ b104 := Nat.le_trans Kp101.1 (Nat.le_of_eq g104.symm)
    have hkE104 : _ ≤ h104.size := Nat.le_trans hkE101 E104.1
    have Sf104 : Safe Z consts_1 s.vm h104 b104 := Safe.ext E104 CHs102.1 (Safe.new (Nat.le_of_eq g104.symm))
    have sf105_b101 : Safe Z consts_1 s.vm h104 b101 := Safe.ext E104 CHs102.1 Sf101
    have CHs105 : CHr Z consts_1 s.vm h0 s.vm h104 := CHs102.trans (CHr.ext E104 CHs102.1)
    have f106_0 : Old Z n0 h104 := f103_0.ext E104
    have f106_2 : Exa Z h104 b101 "java/lang/String" := A101.ext E104
    have f106_3 : Fld Z h104 b101 "java/lang/String" "value" "[B" .null := F101_value.ext E104
    have f106_4 : Fld Z h104 b101 "java/lang/String" "coder" "B" (.int (0 : Int32)) := F101_coder.ext E104
    show own_FinH p e below s Z consts_1 h0 _ _ _ T104 (mkF m 11 #[.val (.int n), .val (.int c0), .val (.int c1), .unset] [(.ref b104), (.ref b101), (.ref b101)])
    obtain ⟨_, _, ⟨T107, L107, k107, n107⟩, -, X107, hSn107, hgr107, ⟨Lc107, hQ107, l107, y107, z107, hCr107⟩, st107⟩ := X104.specialBackS hx (y := (⟨"java/lang/String", "<init>", "([C)V"⟩ : MethodName)) rfl hown (mvT hZ (hw _ (List.mem_of_getElem? (i := 16) rfl))) (mvT hZ (hw _ (List.mem_of_getElem? (i := 17) rfl))) (mvT hZ (hw _ (List.mem_of_getElem? (i := 18) rfl))) (by decide) (backOfSH (W := 1) (s := s) (vm0 := s.vm) (rmSCe l Z a0 hw [] b101 b104 k104 h104 n0 Zs104 f106_2 f106_3 f106_4 gf101 V104) hZ (hw _ (List.mem_of_getElem? (i := 18) rfl)) (hw _ (List.mem_of_getElem? (i := 14) rfl)) (by decide) (by decide) (own_EW hw) CHs105.1) (g := (mkF m 11 #[.val (.int n), .val (.int c0), .val (.int c1), .unset] [(.ref b104), (.ref b101), (.ref b101)])) rfl (by rw [hml]; rfl) (Steps.refl _) (a := b101) (argsL := [(.ref b104)]) (rest := [(.ref b101)]) (lenOf own_pd176 rfl) rfl (by show 2 * 0 + _ ≤ _; exact Nat.le_of_eq rfl) (hb hby d2_11) (fun _ _ => ⟨rfl, e104, (by decide : 2 + 4 ≤ _), (by decide : 4 + 8 ≤ _)⟩)
    dsimp only [Pt.U, Pt.locs, Pt.cells, Pt.slots] at X107 l107 y107 z107 st107 hQ107 hSn107 hgr107
    subst l107 y107 z107
    obtain ⟨b107, k107, rfl, Nq107, K107, Gc107, Gv107, V107⟩ := hQ107
    have N107 := Fr.app N0 Nq107
    have hS107 : s.Since T107.vm T107.heap.size := foldS (s := s) hS0 (by rw [e104]; exact hkE104) hSn107 hgr107
    have hZ107 : Z.Warmed39 (s.setVm T107.vm).vm := State.Warmed39.trans (t := s.setVm s.vm) hZ hSn107.1
    have hown107 : (s.setVm T107.vm).vm.findClass "com/example/hinta/hinta/ctmc/RewardEqualsPinLaw" = some m.cls := by rw [show (s.setVm T107.vm).vm = T107.vm from rfl, hSn107.1.alike.findClass]; exact hown
    replace hCr107 : CHr Z consts_1 s.vm h104 T107.vm T107.heap := hCr107
    have sf108_b101 : Safe Z consts_1 T107.vm T107.heap b101 := CHr.safe hCr107 f106_2.lt sf105_b101
    have sf108_b104 : Safe Z consts_1 T107.vm T107.heap b104 := CHr.safe hCr107 V104.lt Sf104
    have CHs108 : CHr Z consts_1 s.vm h0 T107.vm T107.heap := CHs105.trans (hCr107)
    replace hZ := hZ107
    replace hown := hown107
    replace X107 : Stand p l e (own_R 4 6 12 90) (s.setVm T107.vm) m #[(.int n), (.int c0), (.int c1)] below meth c T107 _ _ _ := X107
    have hkE107 : T107.heap.size ≤ T107.heap.size := Nat.le_refl _
    refine own_byH (fun _ k => st107.trans k) ?_
    have Zs107 : n0 ≤ T107.heap.size := Nat.le_trans Zs104 K107.1
    have Kp107 : Keep h0 T107.heap [] := Kp104.trans K107 (allS (Or.inr sz_b101) all0)
    have f109_0 : Old Z n0 T107.heap := f106_0.keep K107 (allS gf101 all0)
    have f109_2 : Exa Z T107.heap b101 "java/lang/String" := f106_2.keep K107
    have f109_6 : Arv Z T107.heap b104 k104 .char (0 : Int32) [] (.int (0 : Int32)) := V104.keep K107 (ninS (Ne.symm ne104_b101) nin0)
    show own_FinH p e below s Z consts_1 h0 _ _ _ T107 (mkF m 14 #[.val (.int n), .val (.int c0), .val (.int c1), .unset] [(.ref b101)])
    have CHe110 : CHr Z consts_1 s.vm h0 T107.vm T107.heap := CHs108.trans (CHv.at X107 hZ (own_EW hw) CHs108.1)
    have hlb101 : own_lst n c0 c1 = [] := by simp [own_lst, hc1_100]
    exact own_retAH X107 hS107 hkE107 CHe110 hx hlk (t := (.object "java/lang/String")) Bd.returns rfl rfl rfl (hb hby d2_14) ⟨_, _, _, (0 : Int32), rfl, N107, Kp107, sz_b101, f109_2, Gc107, Gv107, (by rw [hlb101]; exact V107), (by rw [hlb101]; first | rfl | (simp; decide))⟩ (by decide) (by decide)
  · show own_FinH p e below s Z consts_1 h0 _ _ _ s₁ (mkF m 1 #[.val (.int n), .val (.int c0), .val (.int c1), .unset] [(.int n)])
    refine own_byH (fun _ k => XS.ifYes X0.here hx rfl (pc0 := 1) (pc' := 15) rfl (hb hby d2_1) rfl ((if0 _ _).trans (feq hc1_100).2) (by decide) (by decide) k) ?_
    show own_FinH p e below s Z consts_1 h0 _ _ _ s₁ (mkF m 15 #[.val (.int n), .val (.int c0), .val (.int c1), .unset] [])
    refine own_byH (fun _ k => XS.iloadN X0.here hx rfl (hb hby d2_15) rfl (XS.iconst X0.here hx rfl (hb hby d2_16) k)) ?_
    show own_FinH p e below s Z consts_1 h0 _ _ _ s₁ (mkF m 17 #[.val (.int n), .val (.int c0), .val (.int c1), .unset] [(.int (1 : Int32)), (.int n)])
    by_cases hc17_111 : n = (1 : Int32)
    · show own_FinH p e below s Z consts_1 h0 _ _ _ s₁ (mkF m 17 #[.val (.int n), .val (.int c0), .val (.int c1), .unset] [(.int (1 : Int32)), (.int n)])
      refine own_byH (fun _ k => XS.icmpNo X0.here hx rfl (hb hby d2_17) rfl (teq hc17_111).2 k) ?_
      show own_FinH p e below s Z consts_1 h0 _ _ _ s₁ (mkF m 20 #[.val (.int n), .val (.int c0), .val (.int c1), .unset] [])
      refine own_byH (fun _ k => XS.iconst X0.here hx rfl (hb hby d2_20) k) ?_
      show own_FinH p e below s Z consts_1 h0 _ _ _ s₁ (mkF m 21 #[.val (.int n), .val (.int c0), .val (.int c1), .unset] [(.int (1 : Int32))])
      obtain ⟨T112, h112, k112, X112, e112, E112, A112, st112⟩ := newP X0 hx hZ (hw _ (List.mem_of_getElem? (i := 15) rfl)) e0 (g := (mkF m 21 #[.val (.int n), .val (.int c0), .val (.int c1), .unset] [(.int (1 : Int32))])) rfl (hb hby d2_21) rfl (by decide) (cap := 1) (by decide) (by decide) (by decide) (by decide)
      obtain ⟨b112, g112⟩ : ∃ z, z = h0.size := ⟨_, rfl⟩
      rw [← g112] at A112 st112
      refine own_byH (fun _ k => st112 _ k) ?_
      have V112 : Arv Z h112 b112 k112 .char (1 : Int32) [(.int (0 : Int32))] (.int (0 : Int32)) := (Arv.new A112 (by decide)).pad (pad_rep [] (.int (0 : Int32)) 1)
      have gf112 : n0 ≤ b112 := Nat.le_trans Z0 (Nat.le_of_eq g112.symm)
      have Zs112 : n0 ≤ h112.size := Nat.le_trans Z0 E112.1
      have Kp112 : Keep h0 h112 [] := Kp99.ext E112
      have sz_b112 : h0.size ≤ b112 := Nat.le_trans Kp99.1 (Nat.le_of_eq g112.symm)
      have hkE112 : _ ≤ h112.size := Nat.le_trans hk0 E112.1
      have Sf112 : Safe Z consts_1 s.vm h112 b112 := Safe.ext E112 CH0.1 (Safe.new (Nat.le_of_eq g112.symm))
      have CHs113 : CHr Z consts_1 s.vm h0 s.vm h112 := CH0.trans (CHr.ext E112 CH0.1)
      have f114_0 : Old Z n0 h112 := Od.ext E112
      show own_FinH p e below s Z consts_1 h0 _ _ _ T112 (mkF m 23 #[.val (.int n), .val (.int c0), .val (.int c1), .unset] [(.ref b112)])
      refine own_byH (fun _ k => XS.astoreN X112.here hx rfl (hb hby d2_23) rfl rfl (l' := #[.val (.int n), .val (.int c0), .val (.int c1), .val (.ref b112)]) rfl (XS.aloadN X112.here hx rfl (hb hby d2_24) rfl rfl (XS.iconst X112.here hx rfl (hb hby d2_25) (XS.iloadN X112.here hx rfl (hb hby d2_26) rfl k)))) ?_
      show own_FinH p e below s Z consts_1 h0 _ _ _ T112 (mkF m 27 #[.val (.int n), .val (.int c0), .val (.int c1), .val (.ref b112)] [(.int c0), (.int (0 : Int32)), (.ref b112)])
      obtain ⟨cl115, Ar115, q115, S115, M115, H115, G115⟩ := id V112
      have hin115 : ¬ ((0 : Int32) < 0 ∨ cl115.slots.size ≤ ((0 : Int32)).toNatClampNeg) := inb_of S115 ⟨by decide, by decide⟩
      obtain ⟨T115, h115, X115, e115, W115, st115⟩ := stC X112 hx hZ e112 Ar115 (j := (0 : Int32)) hin115 (g := (mkF m 27 #[.val (.int n), .val (.int c0), .val (.int c1), .val (.ref b112)] [(.int c0), (.int (0 : Int32)), (.ref b112)])) rfl rfl (hb hby d2_27)
      refine own_byH (fun _ k => st115 _ k) ?_
      have V115 : Arv Z h115 b112 k112 .char (1 : Int32) [(.int c0.toUInt32.toUInt16.toUInt32.toInt32)] (.int (0 : Int32)) := Arv.set Ar115 q115 S115 M115 H115 G115 (fits_nar_char _) W115 0 rfl (Nat.le_of_ble_eq_true rfl)
      have Kp115 : Keep h0 h115 [] := Kp112.wr W115 (Or.inr sz_b112)
      have Zs115 : n0 ≤ h115.size := Nat.le_trans Zs112 (Keep.of_wr W115).1
      have N115 := Fr.snoc X115 N0 gf112
      have hkE115 : _ ≤ h115.size := Nat.le_trans hkE112 (Keep.of_wr W115).1
      have sf116_b112 : Safe Z consts_1 s.vm h115 b112 := Safe.wr W115 Sf112 CHs113.1 Sf112
      have CHs116 : CHr Z consts_1 s.vm h0 s.vm h115 := CHs113.trans (CHr.wr W115 Sf112 CHs113.1)
      have f117_0 : Old Z n0 h115 := f114_0.wr W115 gf112
      show own_FinH p e below s Z consts_1 h0 _ _ _ T115 (mkF m 28 #[.val (.int n), .val (.int c0), .val (.int c1), .val (.ref b112)] [])
      obtain ⟨T118, h118, X118, e118, E118, A118, D118, -, st118⟩ := newO X115 hx hZ hown (hw _ (List.mem_of_getElem? (i := 12) rfl)) (hw _ (List.mem_of_getElem? (i := 13) rfl)) (hw _ (List.mem_of_getElem? (i := 14) rfl)) e115 (g := (mkF m 28 #[.val (.int n), .val (.int c0), .val (.int c1), .val (.ref b112)] [])) rfl (hb hby d2_28) (by decide) (by decide)
      obtain ⟨b118, g118⟩ : ∃ z, z = h115.size := ⟨_, rfl⟩
      rw [← g118] at A118 D118 st118
      refine own_byH (fun _ k => st118 _ k) ?_
      have ne118_b112 : b112 ≠ b118 := Nat.ne_of_lt (Nat.lt_of_lt_of_le V115.lt (Nat.le_of_eq g118.symm))
      have gf118 : n0 ≤ b118 := Nat.le_trans Zs115 (Nat.le_of_eq g118.symm)
      have Zs118 : n0 ≤ h118.size := Nat.le_trans Zs115 E118.1
      have Kp118 : Keep h0 h118 [] := Kp115.ext E118
      have sz_b118 : h0.size ≤ b118 := Nat.le_trans Kp115.1 (Nat.le_of_eq g118.symm)
      have hkE118 : _ ≤ h118.size := Nat.le_trans hkE115 E118.1
      have Sf118 : Safe Z consts_1 s.vm h118 b118 := Safe.ext E118 CHs116.1 (Safe.new (Nat.le_of_eq g118.symm))
      have sf119_b112 : Safe Z consts_1 s.vm h118 b112 := Safe.ext E118 CHs116.1 sf116_b112
      have CHs119 : CHr Z consts_1 s.vm h0 s.vm h118 := CHs116.trans (CHr.ext E118 CHs116.1)
      have f120_0 : Old Z n0 h118 := f117_0.ext E118
      have f120_2 : Arv Z h118 b112 k112 .char (1 : Int32) [(.int c0.toUInt32.toUInt16.toUInt32.toInt32)] (.int (0 : Int32)) := V115.ext E118
      have F118_value : Fld Z h118 b118 "java/lang/String" "value" "[B" .null := D118 (Or.inr (hw _ (List.mem_of_getElem? (i := 28) rfl))) (ty := (.array .byte)) (by decide)
      have F118_coder : Fld Z h118 b118 "java/lang/String" "coder" "B" (.int (0 : Int32)) := D118 (Or.inr (hw _ (List.mem_of_getElem? (i := 29) rfl))) (ty := .byte) (by decide)
      show own_FinH p e below s Z consts_1 h0 _ _ _ T118 (mkF m 31 #[.val (.int n), .val (.int c0), .val (.int c1), .val (.ref b112)] [(.ref b118)])
      refine own_byH (fun _ k => XS.dup X118.here hx rfl (hb hby d2_31) rfl rfl (XS.aloadN X118.here hx rfl (hb hby d2_32) rfl rfl k)) ?_
      show own_FinH p e below s Z consts_1 h0 _ _ _ T118 (mkF m 33 #[.val (.int n), .val (.int c0), .val (.int c1), .val (.ref b112)] [(.ref b112), (.ref b118), (.ref b118)])
      have Vc : Arv Z h118 b112 k112 .char (1 : Int32) [(.int c0)] (.int (0 : Int32)) := by have q := f120_2; simp only [h0c.1, h1c.1] at q; exact q
      obtain ⟨_, _, ⟨T121, L121, k121, n121⟩, -, X121, ⟨Lc121, hQ121, l121, y121, z121⟩, st121⟩ := X118.specialBack hx (y := (⟨"java/lang/String", "<init>", "([C)V"⟩ : MethodName)) rfl hown (mvT hZ (hw _ (List.mem_of_getElem? (i := 16) rfl))) (mvT hZ (hw _ (List.mem_of_getElem? (i := 17) rfl))) (mvT hZ (hw _ (List.mem_of_getElem? (i := 18) rfl))) (by decide) (backOf (W := 1) (rmSC1 l Z a0 hw [] b118 b112 k112 cs c0 h118 n0 Zs118 A118 F118_value F118_coder gf118 Vc ne118_b112 h0c.2.1 (S_cs.ext f120_0.2) hcs) hZ (hw _ (List.mem_of_getElem? (i := 18) rfl)) (hw _ (List.mem_of_getElem? (i := 14) rfl)) (by decide) (by decide)) (g := (mkF m 33 #[.val (.int n), .val (.int c0), .val (.int c1), .val (.ref b112)] [(.ref b112), (.ref b118), (.ref b118)])) rfl (by rw [hml]; rfl) (Steps.refl _) (a := b118) (argsL := [(.ref b112)]) (rest := [(.ref b118)]) (lenOf own_pd176 rfl) rfl (by show 2 * 0 + _ ≤ _; exact Nat.le_of_eq rfl) (hb hby d2_33) (fun _ _ => ⟨rfl, e118, (by decide : 2 + 1 ≤ _), (by decide : 5 + 1 ≤ _)⟩)
      dsimp only [Pt.U, Pt.locs, Pt.cells, Pt.slots] at X121 l121 y121 z121 st121 hQ121
      subst l121 y121 z121
      obtain ⟨b121, k121, rfl, Nq121, K121, Gc121, Gv121, V121⟩ := hQ121
      have N121 := Fr.app N115 Nq121
      refine own_byH (fun _ k => st121.trans k) ?_
      have Zs121 : n0 ≤ T121.heap.size := Nat.le_trans Zs118 K121.1
      have sf122_b112 : Safe Z consts_1 s.vm T121.heap b112 := Safe.keep K121 (sfS Sf118 sf0) CHs119.1 sf119_b112
      have sf122_b118 : Safe Z consts_1 s.vm T121.heap b118 := Safe.keep K121 (sfS Sf118 sf0) CHs119.1 Sf118
      have CHs122 : CHr Z consts_1 s.vm h0 s.vm T121.heap := CHs119.trans (CHr.keep K121 (sfS Sf118 sf0) CHs119.1)
      have hkE121 : _ ≤ T121.heap.size := Nat.le_trans hkE118 K121.1
      have Kp121 : Keep h0 T121.heap [] := Kp118.trans K121 (allS (Or.inr sz_b118) all0)
      have f123_0 : Old Z n0 T121.heap := f120_0.keep K121 (allS gf118 all0)
      have f123_2 : Arv Z T121.heap b112 k112 .char (1 : Int32) [(.int c0.toUInt32.toUInt16.toUInt32.toInt32)] (.int (0 : Int32)) := f120_2.keep K121 (ninS ne118_b112 nin0)
      have f123_4 : Exa Z T121.heap b118 "java/lang/String" := A118.keep K121
      show own_FinH p e below s Z consts_1 h0 _ _ _ T121 (mkF m 36 #[.val (.int n), .val (.int c0), .val (.int c1), .val (.ref b112)] [(.ref b118)])
      have CHe124 : CHr Z consts_1 s.vm h0 T121.vm T121.heap := CHs122.trans (CHv.at X121 hZ (own_EW hw) CHs122.1)
      have hlb118 : own_lst n c0 c1 = [c0.toInt8.toInt32] := by simp [own_lst, hc1_100, hc17_111]
      exact own_retAH X121 hS0 hkE121 CHe124 hx hlk (t := (.object "java/lang/String")) Bd.returns rfl rfl rfl (hb hby d2_36) ⟨_, _, _, (1 : Int32), rfl, N121, Kp121, sz_b118, f123_4, Gc121, Gv121, (by rw [hlb118]; exact V121), (by rw [hlb118]; first | rfl | (simp; decide))⟩ (by decide) (by decide)
    · show own_FinH p e below s Z consts_1 h0 _ _ _ s₁ (mkF m 17 #[.val (.int n), .val (.int c0), .val (.int c1), .unset] [(.int (1 : Int32)), (.int n)])
      refine own_byH (fun _ k => XS.icmpYes X0.here hx rfl (pc0 := 17) (pc' := 37) rfl (hb hby d2_17) rfl (feq hc17_111).2 (by decide) (by decide) k) ?_
      show own_FinH p e below s Z consts_1 h0 _ _ _ s₁ (mkF m 37 #[.val (.int n), .val (.int c0), .val (.int c1), .unset] [])
      refine own_byH (fun _ k => XS.iconst X0.here hx rfl (hb hby d2_37) k) ?_
      show own_FinH p e below s Z consts_1 h0 _ _ _ s₁ (mkF m 38 #[.val (.int n), .val (.int c0), .val (.int c1), .unset] [(.int (2 : Int32))])
      obtain ⟨T125, h125, k125, X125, e125, E125, A125, st125⟩ := newP X0 hx hZ (hw _ (List.mem_of_getElem? (i := 15) rfl)) e0 (g := (mkF m 38 #[.val (.int n), .val (.int c0), .val (.int c1), .unset] [(.int (2 : Int32))])) rfl (hb hby d2_38) rfl (by decide) (cap := 2) (by decide) (by decide) (by decide) (by decide)
      obtain ⟨b125, g125⟩ : ∃ z, z = h0.size := ⟨_, rfl⟩
      rw [← g125] at A125 st125
      refine own_byH (fun _ k => st125 _ k) ?_
      have V125 : Arv Z h125 b125 k125 .char (2 : Int32) [(.int (0 : Int32)), (.int (0 : Int32))] (.int (0 : Int32)) := (Arv.new A125 (by decide)).pad (pad_rep [] (.int (0 : Int32)) 2)
      have gf125 : n0 ≤ b125 := Nat.le_trans Z0 (Nat.le_of_eq g125.symm)
      have Zs125 : n0 ≤ h125.size := Nat.le_trans Z0 E125.1
      have Kp125 : Keep h0 h125 [] := Kp99.ext E125
      have sz_b125 : h0.size ≤ b125 := Nat.le_trans Kp99.1 (Nat.le_of_eq g125.symm)
      have hkE125 : _ ≤ h125.size := Nat.le_trans hk0 E125.1
      have Sf125 : Safe Z consts_1 s.vm h125 b125 := Safe.ext E125 CH0.1 (Safe.new (Nat.le_of_eq g125.symm))
      have CHs126 : CHr Z consts_1 s.vm h0 s.vm h125 := CH0.trans (CHr.ext E125 CH0.1)
      have f127_0 : Old Z n0 h125 := Od.ext E125
      show own_FinH p e below s Z consts_1 h0 _ _ _ T125 (mkF m 40 #[.val (.int n), .val (.int c0), .val (.int c1), .unset] [(.ref b125)])
      refine own_byH (fun _ k => XS.astoreN X125.here hx rfl (hb hby d2_40) rfl rfl (l' := #[.val (.int n), .val (.int c0), .val (.int c1), .val (.ref b125)]) rfl (XS.aloadN X125.here hx rfl (hb hby d2_41) rfl rfl (XS.iconst X125.here hx rfl (hb hby d2_42) (XS.iloadN X125.here hx rfl (hb hby d2_43) rfl k)))) ?_
      show own_FinH p e below s Z consts_1 h0 _ _ _ T125 (mkF m 44 #[.val (.int n), .val (.int c0), .val (.int c1), .val (.ref b125)] [(.int c0), (.int (0 : Int32)), (.ref b125)])
      obtain ⟨cl128, Ar128, q128, S128, M128, H128, G128⟩ := id V125
      have hin128 : ¬ ((0 : Int32) < 0 ∨ cl128.slots.size ≤ ((0 : Int32)).toNatClampNeg) := inb_of S128 ⟨by decide, by decide⟩
      obtain ⟨T128, h128, X128, e128, W128, st128⟩ := stC X125 hx hZ e125 Ar128 (j := (0 : Int32)) hin128 (g := (mkF m 44 #[.val (.int n), .val (.int c0), .val (.int c1), .val (.ref b125)] [(.int c0), (.int (0 : Int32)), (.ref b125)])) rfl rfl (hb hby d2_44)
      refine own_byH (fun _ k => st128 _ k) ?_
      have V128 : Arv Z h128 b125 k125 .char (2 : Int32) [(.int c0.toUInt32.toUInt16.toUInt32.toInt32), (.int (0 : Int32))] (.int (0 : Int32)) := Arv.set Ar128 q128 S128 M128 H128 G128 (fits_nar_char _) W128 0 rfl (Nat.le_of_ble_eq_true rfl)
      have Kp128 : Keep h0 h128 [] := Kp125.wr W128 (Or.inr sz_b125)
      have Zs128 : n0 ≤ h128.size := Nat.le_trans Zs125 (Keep.of_wr W128).1
      have N128 := Fr.snoc X128 N0 gf125
      have hkE128 : _ ≤ h128.size := Nat.le_trans hkE125 (Keep.of_wr W128).1
      have sf129_b125 : Safe Z consts_1 s.vm h128 b125 := Safe.wr W128 Sf125 CHs126.1 Sf125
      have CHs129 : CHr Z consts_1 s.vm h0 s.vm h128 := CHs126.trans (CHr.wr W128 Sf125 CHs126.1)
      have f130_0 : Old Z n0 h128 := f127_0.wr W128 gf125
      show own_FinH p e below s Z consts_1 h0 _ _ _ T128 (mkF m 45 #[.val (.int n), .val (.int c0), .val (.int c1), .val (.ref b125)] [])
      refine own_byH (fun _ k => XS.aloadN X128.here hx rfl (hb hby d2_45) rfl rfl (XS.iconst X128.here hx rfl (hb hby d2_46) (XS.iloadN X128.here hx rfl (hb hby d2_47) rfl k))) ?_
      show own_FinH p e below s Z consts_1 h0 _ _ _ T128 (mkF m 48 #[.val (.int n), .val (.int c0), .val (.int c1), .val (.ref b125)] [(.int c1), (.int (1 : Int32)), (.ref b125)])
      obtain ⟨cl131, Ar131, q131, S131, M131, H131, G131⟩ := id V128
      have hin131 : ¬ ((1 : Int32) < 0 ∨ cl131.slots.size ≤ ((1 : Int32)).toNatClampNeg) := inb_of S131 ⟨by decide, by decide⟩
      obtain ⟨T131, h131, X131, e131, W131, st131⟩ := stC X128 hx hZ e128 Ar131 (j := (1 : Int32)) hin131 (g := (mkF m 48 #[.val (.int n), .val (.int c0), .val (.int c1), .val (.ref b125)] [(.int c1), (.int (1 : Int32)), (.ref b125)])) rfl rfl (hb hby d2_48)
      refine own_byH (fun _ k => st131 _ k) ?_
      have V131 : Arv Z h131 b125 k125 .char (2 : Int32) [(.int c0.toUInt32.toUInt16.toUInt32.toInt32), (.int c1.toUInt32.toUInt16.toUInt32.toInt32)] (.int (0 : Int32)) := Arv.set Ar131 q131 S131 M131 H131 G131 (fits_nar_char _) W131 1 rfl (Nat.le_of_ble_eq_true rfl)
      have Kp131 : Keep h0 h131 [] := Kp128.wr W131 (Or.inr sz_b125)
      have Zs131 : n0 ≤ h131.size := Nat.le_trans Zs128 (Keep.of_wr W131).1
      have N131 := Fr.snoc X131 N128 gf125
      have hkE131 : _ ≤ h131.size := Nat.le_trans hkE128 (Keep.of_wr W131).1
      have sf132_b125 : Safe Z consts_1 s.vm h131 b125 := Safe.wr W131 sf129_b125 CHs129.1 sf129_b125
      have CHs132 : CHr Z consts_1 s.vm h0 s.vm h131 := CHs129.trans (CHr.wr W131 sf129_b125 CHs129.1)
      have f133_0 : Old Z n0 h131 := f130_0.wr W131 gf125
      show own_FinH p e below s Z consts_1 h0 _ _ _ T131 (mkF m 49 #[.val (.int n), .val (.int c0), .val (.int c1), .val (.ref b125)] [])
      obtain ⟨T134, h134, X134, e134, E134, A134, D134, -, st134⟩ := newO X131 hx hZ hown (hw _ (List.mem_of_getElem? (i := 12) rfl)) (hw _ (List.mem_of_getElem? (i := 13) rfl)) (hw _ (List.mem_of_getElem? (i := 14) rfl)) e131 (g := (mkF m 49 #[.val (.int n), .val (.int c0), .val (.int c1), .val (.ref b125)] [])) rfl (hb hby d2_49) (by decide) (by decide)
      obtain ⟨b134, g134⟩ : ∃ z, z = h131.size := ⟨_, rfl⟩
      rw [← g134] at A134 D134 st134
      refine own_byH (fun _ k => st134 _ k) ?_
      have ne134_b125 : b125 ≠ b134 := Nat.ne_of_lt (Nat.lt_of_lt_of_le V131.lt (Nat.le_of_eq g134.symm))
      have gf134 : n0 ≤ b134 := Nat.le_trans Zs131 (Nat.le_of_eq g134.symm)
      have Zs134 : n0 ≤ h134.size := Nat.le_trans Zs131 E134.1
      have Kp134 : Keep h0 h134 [] := Kp131.ext E134
      have sz_b134 : h0.size ≤ b134 := Nat.le_trans Kp131.1 (Nat.le_of_eq g134.symm)
      have hkE134 : _ ≤ h134.size := Nat.le_trans hkE131 E134.1
      have Sf134 : Safe Z consts_1 s.vm h134 b134 := Safe.ext E134 CHs132.1 (Safe.new (Nat.le_of_eq g134.symm))
      have sf135_b125 : Safe Z consts_1 s.vm h134 b125 := Safe.ext E134 CHs132.1 sf132_b125
      have CHs135 : CHr Z consts_1 s.vm h0 s.vm h134 := CHs132.trans (CHr.ext E134 CHs132.1)
      have f136_0 : Old Z n0 h134 := f133_0.ext E134
      have f136_2 : Arv Z h134 b125 k125 .char (2 : Int32) [(.int c0.toUInt32.toUInt16.toUInt32.toInt32), (.int c1.toUInt32.toUInt16.toUInt32.toInt32)] (.int (0 : Int32)) := V131.ext E134
      have F134_value : Fld Z h134 b134 "java/lang/String" "value" "[B" .null := D134 (Or.inr (hw _ (List.mem_of_getElem? (i := 28) rfl))) (ty := (.array .byte)) (by decide)
      have F134_coder : Fld Z h134 b134 "java/lang/String" "coder" "B" (.int (0 : Int32)) := D134 (Or.inr (hw _ (List.mem_of_getElem? (i := 29) rfl))) (ty := .byte) (by decide)
      show own_FinH p e below s Z consts_1 h0 _ _ _ T134 (mkF m 52 #[.val (.int n), .val (.int c0), .val (.int c1), .val (.ref b125)] [(.ref b134)])
      refine own_byH (fun _ k => XS.dup X134.here hx rfl (hb hby d2_52) rfl rfl (XS.aloadN X134.here hx rfl (hb hby d2_53) rfl rfl k)) ?_
      show own_FinH p e below s Z consts_1 h0 _ _ _ T134 (mkF m 54 #[.val (.int n), .val (.int c0), .val (.int c1), .val (.ref b125)] [(.ref b125), (.ref b134), (.ref b134)])
      have Vc : Arv Z h134 b125 k125 .char (2 : Int32) [(.int c0), (.int c1)] (.int (0 : Int32)) := by have q := f136_2; simp only [h0c.1, h1c.1] at q; exact q
      obtain ⟨_, _, ⟨T137, L137, k137, n137⟩, -, X137, ⟨Lc137, hQ137, l137, y137, z137⟩, st137⟩ := X134.specialBack hx (y := (⟨"java/lang/String", "<init>", "([C)V"⟩ : MethodName)) rfl hown (mvT hZ (hw _ (List.mem_of_getElem? (i := 16) rfl))) (mvT hZ (hw _ (List.mem_of_getElem? (i := 17) rfl))) (mvT hZ (hw _ (List.mem_of_getElem? (i := 18) rfl))) (by decide) (backOf (W := 1) (rmSC2 l Z a0 hw [] b134 b125 k125 cs c0 c1 h134 n0 Zs134 A134 F134_value F134_coder gf134 Vc ne134_b125 h0c.2.1 h1c.2.1 (S_cs.ext f136_0.2) hcs) hZ (hw _ (List.mem_of_getElem? (i := 18) rfl)) (hw _ (List.mem_of_getElem? (i := 14) rfl)) (by decide) (by decide)) (g := (mkF m 54 #[.val (.int n), .val (.int c0), .val (.int c1), .val (.ref b125)] [(.ref b125), (.ref b134), (.ref b134)])) rfl (by rw [hml]; rfl) (Steps.refl _) (a := b134) (argsL := [(.ref b125)]) (rest := [(.ref b134)]) (lenOf own_pd176 rfl) rfl (by show 2 * 0 + _ ≤ _; exact Nat.le_of_eq rfl) (hb hby d2_54) (fun _ _ => ⟨rfl, e134, (by decide : 2 + 1 ≤ _), (by decide : 6 + 2 ≤ _)⟩)
      dsimp only [Pt.U, Pt.locs, Pt.cells, Pt.slots] at X137 l137 y137 z137 st137 hQ137
      subst l137 y137 z137
      obtain ⟨b137, k137, rfl, Nq137, K137, Gc137, Gv137, V137⟩ := hQ137
      have N137 := Fr.app N131 Nq137
      refine own_byH (fun _ k => st137.trans k) ?_
      have Zs137 : n0 ≤ T137.heap.size := Nat.le_trans Zs134 K137.1
      have sf138_b125 : Safe Z consts_1 s.vm T137.heap b125 := Safe.keep K137 (sfS Sf134 sf0) CHs135.1 sf135_b125
      have sf138_b134 : Safe Z consts_1 s.vm T137.heap b134 := Safe.keep K137 (sfS Sf134 sf0) CHs135.1 Sf134
      have CHs138 : CHr Z consts_1 s.vm h0 s.vm T137.heap := CHs135.trans (CHr.keep K137 (sfS Sf134 sf0) CHs135.1)
      have hkE137 : _ ≤ T137.heap.size := Nat.le_trans hkE134 K137.1
      have Kp137 : Keep h0 T137.heap [] := Kp134.trans K137 (allS (Or.inr sz_b134) all0)
      have f139_0 : Old Z n0 T137.heap := f136_0.keep K137 (allS gf134 all0)
      have f139_2 : Arv Z T137.heap b125 k125 .char (2 : Int32) [(.int c0.toUInt32.toUInt16.toUInt32.toInt32), (.int c1.toUInt32.toUInt16.toUInt32.toInt32)] (.int (0 : Int32)) := f136_2.keep K137 (ninS ne134_b125 nin0)
      have f139_4 : Exa Z T137.heap b134 "java/lang/String" := A134.keep K137
      show own_FinH p e below s Z consts_1 h0 _ _ _ T137 (mkF m 57 #[.val (.int n), .val (.int c0), .val (.int c1), .val (.ref b125)] [(.ref b134)])
      have CHe140 : CHr Z consts_1 s.vm h0 T137.vm T137.heap := CHs138.trans (CHv.at X137 hZ (own_EW hw) CHs138.1)
      have hlb134 : own_lst n c0 c1 = [c0.toInt8.toInt32, c1.toInt8.toInt32] := by simp [own_lst, hc1_100, hc17_111]
      exact own_retAH X137 hS0 hkE137 CHe140 hx hlk (t := (.object "java/lang/String")) Bd.returns rfl rfl rfl (hb hby d2_57) ⟨_, _, _, (2 : Int32), rfl, N137, Kp137, sz_b134, f139_4, Gc137, Gv137, (by rw [hlb134]; exact V137), (by rw [hlb134]; first | rfl | (simp; decide))⟩ (by decide) (by decide)
theorem own_pn210 : plainName "java/lang/StringLatin1" = true := by first | (simp [plainName, overriddenIn]; done) | decide +kernel
theorem d10_0 : decode jdk_43_method_13_code 0 = .ok (.aload_n 0, 1) := by decide +kernel
theorem d10_1 : decode jdk_43_method_13_code 1 = .ok (.arraylength, 1) := by decide +kernel
theorem d10_2 : decode jdk_43_method_13_code 2 = .ok (.aload_n 1, 1) := by decide +kernel
theorem d10_3 : decode jdk_43_method_13_code 3 = .ok (.arraylength, 1) := by decide +kernel
theorem d10_4 : decode jdk_43_method_13_code 4 = .ok (.if_icmp .ne 30, 3) := by decide +kernel
theorem d10_7 : decode jdk_43_method_13_code 7 = .ok (.iconst 0, 1) := by decide +kernel
theorem d10_8 : decode jdk_43_method_13_code 8 = .ok (.istore_n 2, 1) := by decide +kernel
theorem d10_9 : decode jdk_43_method_13_code 9 = .ok (.iload_n 2, 1) := by decide +kernel
theorem d10_10 : decode jdk_43_method_13_code 10 = .ok (.aload_n 0, 1) := by decide +kernel
theorem d10_11 : decode jdk_43_method_13_code 11 = .ok (.arraylength, 1) := by decide +kernel
theorem d10_12 : decode jdk_43_method_13_code 12 = .ok (.if_icmp .ge 20, 3) := by decide +kernel
theorem d10_32 : decode jdk_43_method_13_code 32 = .ok (.iconst 1, 1) := by decide +kernel
theorem d10_33 : decode jdk_43_method_13_code 33 = .ok (.ireturn, 1) := by decide +kernel
theorem d10_15 : decode jdk_43_method_13_code 15 = .ok (.aload_n 0, 1) := by decide +kernel
theorem d10_16 : decode jdk_43_method_13_code 16 = .ok (.iload_n 2, 1) := by decide +kernel
theorem d10_17 : decode jdk_43_method_13_code 17 = .ok (.baload, 1) := by decide +kernel
theorem d10_18 : decode jdk_43_method_13_code 18 = .ok (.aload_n 1, 1) := by decide +kernel
theorem d10_19 : decode jdk_43_method_13_code 19 = .ok (.iload_n 2, 1) := by decide +kernel
theorem d10_20 : decode jdk_43_method_13_code 20 = .ok (.baload, 1) := by decide +kernel
theorem d10_21 : decode jdk_43_method_13_code 21 = .ok (.if_icmp .eq 5, 3) := by decide +kernel
theorem d10_26 : decode jdk_43_method_13_code 26 = .ok (.iinc 2 1, 3) := by decide +kernel
theorem d10_29 : decode jdk_43_method_13_code 29 = .ok (.goto (-20), 3) := by decide +kernel
theorem d10_24 : decode jdk_43_method_13_code 24 = .ok (.iconst 0, 1) := by decide +kernel
theorem d10_25 : decode jdk_43_method_13_code 25 = .ok (.ireturn, 1) := by decide +kernel
theorem d10_34 : decode jdk_43_method_13_code 34 = .ok (.iconst 0, 1) := by decide +kernel
theorem d10_35 : decode jdk_43_method_13_code 35 = .ok (.ireturn, 1) := by decide +kernel
theorem ef_rmLe (m : MethodId) (x0 : Addr) (x1 : Addr) : entryFrame m #[(.ref x0), (.ref x1)] 3 = mkF m 0 #[.val (.ref x0), .val (.ref x1), .unset] [] := by first | (simp [entryFrame, mkF, argsToLocals, Value.category]; done) | rfl
def own_Qle (xs ys : List Int32) (h0 : Heap) (n0 : Nat) (v : Option Value) (h : Heap) (L : List Loc) : Prop := v = some (.int (own_leq xs ys)) ∧ Fr n0 L ∧ h = h0
set_option maxRecDepth 65536 in
set_option maxHeartbeats 40000000 in
theorem rmLe (l : Launch) (Z : State) (a0 : Array Value) (hw : ∀ d ∈ tables_1, d.before a0 Z = true) (ws : List Jvm.Cond) (v1 v2 : Addr) (j1 j2 : ClassId) (z1 z2 : Int32) (xs ys : List Int32) (h0 : Heap) (n0 : Nat) (Z0 : n0 ≤ h0.size) (V1 : Arv Z h0 v1 j1 .byte z1 (xs.map Value.int) (.int (0 : Int32))) (V2 : Arv Z h0 v2 j2 .byte z2 (ys.map Value.int) (.int (0 : Int32))) (hz1 : z1.toInt = xs.length) (hz2 : z2.toInt = ys.length) (hl2 : xs.length ≤ 2) : own_Met l Z (⟨"java/lang/StringLatin1", "equals", "([B[B)Z"⟩ : MethodName) jdk_43_method_13_code 3 (some .boolean) ws (own_R 0 0 0 0) #[(.ref v1), (.ref v2)] h0 (own_Qle xs ys h0 n0) := by
  refine own_enter n0 own_pn210 (fun m => ef_rmLe m v1 v2 ) (fun p e s m below meth c s₁ hx hby hlk hml hret hown hnm hZ X0 e0 N0 => ?_)
  show own_Fin p e below s _ _ _ s₁ (mkF m 0 #[.val (.ref v1), .val (.ref v2), .unset] [])
  refine own_by (fun _ k => XS.aloadN X0.here hx rfl (hb hby d10_0) rfl rfl k) ?_
  show own_Fin p e below s _ _ _ s₁ (mkF m 1 #[.val (.ref v1), .val (.ref v2), .unset] [(.ref v1)])
  obtain ⟨cl141, Ar141, -, S141, M141, -, -⟩ := id V1
  refine own_by (fun _ k => X0.arraylength hx (by rw [e0]; exact Ar141.1) (State.isArrayOf_alike hZ.alike Ar141.2.1) (g := (mkF m 1 #[.val (.ref v1), .val (.ref v2), .unset] [(.ref v1)])) rfl rfl (hb hby d10_1) _ k) ?_
  rw [len_of S141 M141]
  show own_Fin p e below s _ _ _ s₁ (mkF m 2 #[.val (.ref v1), .val (.ref v2), .unset] [(.int z1)])
  refine own_by (fun _ k => XS.aloadN X0.here hx rfl (hb hby d10_2) rfl rfl k) ?_
  show own_Fin p e below s _ _ _ s₁ (mkF m 3 #[.val (.ref v1), .val (.ref v2), .unset] [(.ref v2), (.int z1)])
  obtain ⟨cl142, Ar142, -, S142, M142, -, -⟩ := id V2
  refine own_by (fun _ k => X0.arraylength hx (by rw [e0]; exact Ar142.1) (State.isArrayOf_alike hZ.alike Ar142.2.1) (g := (mkF m 3 #[.val (.ref v1), .val (.ref v2), .unset] [(.ref v2), (.int z1)])) rfl rfl (hb hby d10_3) _ k) ?_
  rw [len_of S142 M142]
  show own_Fin p e below s _ _ _ s₁ (mkF m 4 #[.val (.ref v1), .val (.ref v2), .unset] [(.int z2), (.int z1)])
  by_cases hc4_143 : z1 = z2
  · show own_Fin p e below s _ _ _ s₁ (mkF m 4 #[.val (.ref v1), .val (.ref v2), .unset] [(.int z2), (.int z1)])
    refine own_by (fun _ k => XS.icmpNo X0.here hx rfl (hb hby d10_4) rfl (teq hc4_143).2 k) ?_
    show own_Fin p e below s _ _ _ s₁ (mkF m 7 #[.val (.ref v1), .val (.ref v2), .unset] [])
    refine own_by (fun _ k => XS.iconst X0.here hx rfl (hb hby d10_7) (XS.istoreN X0.here hx rfl (hb hby d10_8) rfl (l' := #[.val (.ref v1), .val (.ref v2), .val (.int (0 : Int32))]) rfl k)) ?_
    show own_Fin p e below s _ _ _ s₁ (mkF m 9 #[.val (.ref v1), .val (.ref v2), .val (.int (0 : Int32))] [])
    have hlen : xs.length = ys.length := by have q := congrArg Int32.toInt hc4_143; omega
    have loop : ∀ (k : Nat) (i : Int32) (j : Nat) (hi : i.toInt = j) (hto : z1.toInt = j + k) (hall : ∀ i, i < j → xs.getD i 0 = ys.getD i 0), own_Fin p e below s (own_R 0 0 0 0).cells (own_R 0 0 0 0).slots (own_Qle xs ys h0 n0) s₁ (mkF m 9 #[.val (.ref v1), .val (.ref v2), .val (.int i)] []) := by
      intro k
      induction k with
      | zero =>
        intro i j hi hto hall
        show own_Fin p e below s _ _ _ s₁ (mkF m 9 #[.val (.ref v1), .val (.ref v2), .val (.int i)] [])
        refine own_by (fun _ k => XS.iloadN X0.here hx rfl (hb hby d10_9) rfl (XS.aloadN X0.here hx rfl (hb hby d10_10) rfl rfl k)) ?_
        show own_Fin p e below s _ _ _ s₁ (mkF m 11 #[.val (.ref v1), .val (.ref v2), .val (.int i)] [(.ref v1), (.int i)])
        obtain ⟨cl144, Ar144, -, S144, M144, -, -⟩ := id V1
        refine own_by (fun _ k => X0.arraylength hx (by rw [e0]; exact Ar144.1) (State.isArrayOf_alike hZ.alike Ar144.2.1) (g := (mkF m 11 #[.val (.ref v1), .val (.ref v2), .val (.int i)] [(.ref v1), (.int i)])) rfl rfl (hb hby d10_11) _ k) ?_
        rw [len_of S144 M144]
        show own_Fin p e below s _ _ _ s₁ (mkF m 12 #[.val (.ref v1), .val (.ref v2), .val (.int i)] [(.int z1), (.int i)])
        refine own_by (fun _ k => XS.icmpYes X0.here hx rfl (pc0 := 12) (pc' := 32) rfl (hb hby d10_12) rfl (flt (own_nlt hi hto)).2.1 (by decide) (by decide) k) ?_
        show own_Fin p e below s _ _ _ s₁ (mkF m 32 #[.val (.ref v1), .val (.ref v2), .val (.int i)] [])
        refine own_by (fun _ k => XS.iconst X0.here hx rfl (hb hby d10_32) k) ?_
        show own_Fin p e below s _ _ _ s₁ (mkF m 33 #[.val (.ref v1), .val (.ref v2), .val (.int i)] [(.int (1 : Int32))])
        exact own_retZ X0 hx hlk (t := .boolean) hret (by simp) (hb hby d10_33) ⟨own_vi (if_pos (own_lists (by omega) (fun i hi => hall i (by omega)))).symm, N0, e0⟩ (by decide) (by decide)
      | succ k ih =>
        intro i j hi hto hall
        show own_Fin p e below s _ _ _ s₁ (mkF m 9 #[.val (.ref v1), .val (.ref v2), .val (.int i)] [])
        refine own_by (fun _ k => XS.iloadN X0.here hx rfl (hb hby d10_9) rfl (XS.aloadN X0.here hx rfl (hb hby d10_10) rfl rfl k)) ?_
        show own_Fin p e below s _ _ _ s₁ (mkF m 11 #[.val (.ref v1), .val (.ref v2), .val (.int i)] [(.ref v1), (.int i)])
        obtain ⟨cl145, Ar145, -, S145, M145, -, -⟩ := id V1
        refine own_by (fun _ k => X0.arraylength hx (by rw [e0]; exact Ar145.1) (State.isArrayOf_alike hZ.alike Ar145.2.1) (g := (mkF m 11 #[.val (.ref v1), .val (.ref v2), .val (.int i)] [(.ref v1), (.int i)])) rfl rfl (hb hby d10_11) _ k) ?_
        rw [len_of S145 M145]
        show own_Fin p e below s _ _ _ s₁ (mkF m 12 #[.val (.ref v1), .val (.ref v2), .val (.int i)] [(.int z1), (.int i)])
        refine own_by (fun _ k => XS.icmpNo X0.here hx rfl (hb hby d10_12) rfl (tlt (own_lt hi hto)).2.1 k) ?_
        show own_Fin p e below s _ _ _ s₁ (mkF m 15 #[.val (.ref v1), .val (.ref v2), .val (.int i)] [])
        refine own_by (fun _ k => XS.aloadN X0.here hx rfl (hb hby d10_15) rfl rfl (XS.iloadN X0.here hx rfl (hb hby d10_16) rfl k)) ?_
        show own_Fin p e below s _ _ _ s₁ (mkF m 17 #[.val (.ref v1), .val (.ref v2), .val (.int i)] [(.int i), (.ref v1)])
        obtain ⟨cl146, Ar146, -, S146, M146, H146, -⟩ := id V1
        have hin146 : ¬ (i < 0 ∨ cl146.slots.size ≤ (i).toNatClampNeg) := inb_of S146 (own_in hi hto)
        have hat146 : cl146.slots[(i).toNatClampNeg]? = some (.int (xs.getD j 0)) := Has.at H146 hin146 (by rw [own_nc hi]; exact own_getD xs j)
        refine own_by (fun _ k => X0.baloadBytes hx (j := i) (v := (.int (xs.getD j 0))) (by rw [e0]; exact Ar146.1) (State.isArrayOf_alike hZ.alike Ar146.2.1) Ar146.2.2 hin146 hat146 (g := (mkF m 17 #[.val (.ref v1), .val (.ref v2), .val (.int i)] [(.int i), (.ref v1)])) rfl rfl (hb hby d10_17) _ k) ?_
        show own_Fin p e below s _ _ _ s₁ (mkF m 18 #[.val (.ref v1), .val (.ref v2), .val (.int i)] [(.int (xs.getD j 0))])
        refine own_by (fun _ k => XS.aloadN X0.here hx rfl (hb hby d10_18) rfl rfl (XS.iloadN X0.here hx rfl (hb hby d10_19) rfl k)) ?_
        show own_Fin p e below s _ _ _ s₁ (mkF m 20 #[.val (.ref v1), .val (.ref v2), .val (.int i)] [(.int i), (.ref v2), (.int (xs.getD j 0))])
        obtain ⟨cl147, Ar147, -, S147, M147, H147, -⟩ := id V2
        have hin147 : ¬ (i < 0 ∨ cl147.slots.size ≤ (i).toNatClampNeg) := inb_of S147 ⟨(own_in hi hto).1, own_lt (k := k) hi (by omega)⟩
        have hat147 : cl147.slots[(i).toNatClampNeg]? = some (.int (ys.getD j 0)) := Has.at H147 hin147 (by rw [own_nc hi]; exact own_getD ys j)
        refine own_by (fun _ k => X0.baloadBytes hx (j := i) (v := (.int (ys.getD j 0))) (by rw [e0]; exact Ar147.1) (State.isArrayOf_alike hZ.alike Ar147.2.1) Ar147.2.2 hin147 hat147 (g := (mkF m 20 #[.val (.ref v1), .val (.ref v2), .val (.int i)] [(.int i), (.ref v2), (.int (xs.getD j 0))])) rfl rfl (hb hby d10_20) _ k) ?_
        show own_Fin p e below s _ _ _ s₁ (mkF m 21 #[.val (.ref v1), .val (.ref v2), .val (.int i)] [(.int (ys.getD j 0)), (.int (xs.getD j 0))])
        by_cases hc21_148 : (xs.getD j 0) = (ys.getD j 0)
        · show own_Fin p e below s _ _ _ s₁ (mkF m 21 #[.val (.ref v1), .val (.ref v2), .val (.int i)] [(.int (ys.getD j 0)), (.int (xs.getD j 0))])
          refine own_by (fun _ k => XS.icmpYes X0.here hx rfl (pc0 := 21) (pc' := 26) rfl (hb hby d10_21) rfl (teq hc21_148).1 (by decide) (by decide) k) ?_
          show own_Fin p e below s _ _ _ s₁ (mkF m 26 #[.val (.ref v1), .val (.ref v2), .val (.int i)] [])
          refine own_by (fun _ k => XS.iinc X0.here hx rfl (hb hby d10_26) rfl (l' := #[.val (.ref v1), .val (.ref v2), .val (.int (i + (1 : Int32)))]) rfl (XS.goto X0.here hx rfl (pc0 := 29) (pc' := 9) rfl (hb hby d10_29) (by decide) (by decide) k)) ?_
          show own_Fin p e below s _ _ _ s₁ (mkF m 9 #[.val (.ref v1), .val (.ref v2), .val (.int (i + (1 : Int32)))] [])
          exact ih (i + (1 : Int32)) (j + 1) (own_inc hi (by omega)) (by omega) (own_step hall hc21_148)
        · show own_Fin p e below s _ _ _ s₁ (mkF m 21 #[.val (.ref v1), .val (.ref v2), .val (.int i)] [(.int (ys.getD j 0)), (.int (xs.getD j 0))])
          refine own_by (fun _ k => XS.icmpNo X0.here hx rfl (hb hby d10_21) rfl (feq hc21_148).1 k) ?_
          show own_Fin p e below s _ _ _ s₁ (mkF m 24 #[.val (.ref v1), .val (.ref v2), .val (.int i)] [])
          refine own_by (fun _ k => XS.iconst X0.here hx rfl (hb hby d10_24) k) ?_
          show own_Fin p e below s _ _ _ s₁ (mkF m 25 #[.val (.ref v1), .val (.ref v2), .val (.int i)] [(.int (0 : Int32))])
          exact own_retZ X0 hx hlk (t := .boolean) hret (by simp) (hb hby d10_25) ⟨own_vi (if_neg (fun q => hc21_148 (by rw [q]))).symm, N0, e0⟩ (by decide) (by decide)
    exact loop xs.length (0 : Int32) 0 (by decide) (by omega) (fun i hi => absurd hi (Nat.not_lt_zero _))
  · show own_Fin p e below s _ _ _ s₁ (mkF m 4 #[.val (.ref v1), .val (.ref v2), .unset] [(.int z2), (.int z1)])
    refine own_by (fun _ k => XS.icmpYes X0.here hx rfl (pc0 := 4) (pc' := 34) rfl (hb hby d10_4) rfl (feq hc4_143).2 (by decide) (by decide) k) ?_
    show own_Fin p e below s _ _ _ s₁ (mkF m 34 #[.val (.ref v1), .val (.ref v2), .unset] [])
    refine own_by (fun _ k => XS.iconst X0.here hx rfl (hb hby d10_34) k) ?_
    show own_Fin p e below s _ _ _ s₁ (mkF m 35 #[.val (.ref v1), .val (.ref v2), .unset] [(.int (0 : Int32))])
    exact own_retZ X0 hx hlk (t := .boolean) hret (by simp) (hb hby d10_35) ⟨own_vi (if_neg (fun q => hc4_143 (Int32.toInt_inj.mp (by rw [hz1, hz2, q])))).symm, N0, e0⟩ (by decide) (by decide)
theorem d9_0 : decode jdk_42_method_66_code 0 = .ok (.aload_n 0, 1) := by decide +kernel
theorem d9_1 : decode jdk_42_method_66_code 1 = .ok (.aload_n 1, 1) := by decide +kernel
theorem d9_2 : decode jdk_42_method_66_code 2 = .ok (.if_acmp .ne 5, 3) := by decide +kernel
theorem d9_5 : decode jdk_42_method_66_code 5 = .ok (.iconst 1, 1) := by decide +kernel
theorem d9_6 : decode jdk_42_method_66_code 6 = .ok (.ireturn, 1) := by decide +kernel
theorem ef_rmEqS (m : MethodId) (x0 : Addr) (x1 : Addr) : entryFrame m #[(.ref x0), (.ref x1)] 3 = mkF m 0 #[.val (.ref x0), .val (.ref x1), .unset] [] := by first | (simp [entryFrame, mkF, argsToLocals, Value.category]; done) | rfl
def own_Qone (h0 : Heap) (n0 : Nat) (v : Option Value) (h : Heap) (L : List Loc) : Prop := v = some (.int (1 : Int32)) ∧ Fr n0 L ∧ h = h0
set_option maxRecDepth 65536 in
set_option maxHeartbeats 40000000 in
theorem rmEqS (l : Launch) (Z : State) (a0 : Array Value) (hw : ∀ d ∈ tables_1, d.before a0 Z = true) (ws : List Jvm.Cond) (a1 : Addr) (h0 : Heap) (n0 : Nat) (Z0 : n0 ≤ h0.size)  : own_Met l Z (⟨"java/lang/String", "equals", "(Ljava/lang/Object;)Z"⟩ : MethodName) jdk_42_method_66_code 3 (some .boolean) ws (own_R 0 0 0 0) #[(.ref a1), (.ref a1)] h0 (own_Qone h0 n0) := by
  refine own_enter n0 own_pn119 (fun m => ef_rmEqS m a1 a1 ) (fun p e s m below meth c s₁ hx hby hlk hml hret hown hnm hZ X0 e0 N0 => ?_)
  show own_Fin p e below s _ _ _ s₁ (mkF m 0 #[.val (.ref a1), .val (.ref a1), .unset] [])
  refine own_by (fun _ k => XS.aloadN X0.here hx rfl (hb hby d9_0) rfl rfl (XS.aloadN X0.here hx rfl (hb hby d9_1) rfl rfl k)) ?_
  show own_Fin p e below s _ _ _ s₁ (mkF m 2 #[.val (.ref a1), .val (.ref a1), .unset] [(.ref a1), (.ref a1)])
  refine own_by (fun _ k => Jvm.RoadKit.acmp (g := (mkF m 2 #[.val (.ref a1), .val (.ref a1), .unset] [(.ref a1), (.ref a1)])) X0 hx rfl rfl rfl (pc0 := 2) (pc' := 5) (same := true) rfl (hb hby d9_2) rfl (decide_eq_true rfl) (by decide) (by decide) k) ?_
  show own_Fin p e below s _ _ _ s₁ (mkF m 5 #[.val (.ref a1), .val (.ref a1), .unset] [])
  refine own_by (fun _ k => XS.iconst X0.here hx rfl (hb hby d9_5) k) ?_
  show own_Fin p e below s _ _ _ s₁ (mkF m 6 #[.val (.ref a1), .val (.ref a1), .unset] [(.int (1 : Int32))])
  exact own_retZ X0 hx hlk (t := .boolean) hret (by simp) (hb hby d9_6) ⟨rfl, N0, e0⟩ (by decide) (by decide)
theorem d9_7 : decode jdk_42_method_66_code 7 = .ok (.aload_n 1, 1) := by decide +kernel
theorem d9_8 : decode jdk_42_method_66_code 8 = .ok (.instanceof 10, 3) := by decide +kernel
theorem d9_11 : decode jdk_42_method_66_code 11 = .ok (.ifCond .eq 43, 3) := by decide +kernel
theorem d9_14 : decode jdk_42_method_66_code 14 = .ok (.aload_n 1, 1) := by decide +kernel
theorem d9_15 : decode jdk_42_method_66_code 15 = .ok (.checkcast 10, 3) := by decide +kernel
theorem d9_18 : decode jdk_42_method_66_code 18 = .ok (.astore_n 2, 1) := by decide +kernel
theorem d9_19 : decode jdk_42_method_66_code 19 = .ok (.getstatic 38, 3) := by decide +kernel
theorem d9_22 : decode jdk_42_method_66_code 22 = .ok (.ifCond .eq 14, 3) := by decide +kernel
theorem d9_25 : decode jdk_42_method_66_code 25 = .ok (.aload_n 0, 1) := by decide +kernel
theorem d9_26 : decode jdk_42_method_66_code 26 = .ok (.getfield 15, 3) := by decide +kernel
theorem d9_29 : decode jdk_42_method_66_code 29 = .ok (.aload_n 2, 1) := by decide +kernel
theorem d9_30 : decode jdk_42_method_66_code 30 = .ok (.getfield 15, 3) := by decide +kernel
theorem d9_33 : decode jdk_42_method_66_code 33 = .ok (.if_icmp .ne 21, 3) := by decide +kernel
theorem d9_36 : decode jdk_42_method_66_code 36 = .ok (.aload_n 0, 1) := by decide +kernel
theorem d9_37 : decode jdk_42_method_66_code 37 = .ok (.getfield 9, 3) := by decide +kernel
theorem d9_40 : decode jdk_42_method_66_code 40 = .ok (.aload_n 2, 1) := by decide +kernel
theorem d9_41 : decode jdk_42_method_66_code 41 = .ok (.getfield 9, 3) := by decide +kernel
theorem d9_44 : decode jdk_42_method_66_code 44 = .ok (.invokestatic 541, 3) := by decide +kernel
theorem own_pd262 : parseMethodDescriptor "([B[B)Z" = some ⟨[(.array .byte), (.array .byte)], some .boolean⟩ := by decide +kernel
theorem d9_47 : decode jdk_42_method_66_code 47 = .ok (.ifCond .eq 7, 3) := by decide +kernel
theorem d9_54 : decode jdk_42_method_66_code 54 = .ok (.iconst 0, 1) := by decide +kernel
theorem d9_55 : decode jdk_42_method_66_code 55 = .ok (.ireturn, 1) := by decide +kernel
theorem d9_50 : decode jdk_42_method_66_code 50 = .ok (.iconst 1, 1) := by decide +kernel
theorem d9_51 : decode jdk_42_method_66_code 51 = .ok (.goto 4, 3) := by decide +kernel
theorem ef_rmEq (m : MethodId) (x0 : Addr) (x1 : Addr) : entryFrame m #[(.ref x0), (.ref x1)] 3 = mkF m 0 #[.val (.ref x0), .val (.ref x1), .unset] [] := by first | (simp [entryFrame, mkF, argsToLocals, Value.category]; done) | rfl
set_option maxRecDepth 65536 in
set_option maxHeartbeats 40000000 in
theorem rmEq (l : Launch) (Z : State) (a0 : Array Value) (hw : ∀ d ∈ tables_1, d.before a0 Z = true) (ws : List Jvm.Cond) (a1 a2 : Addr) (v1 v2 : Addr) (j1 j2 : ClassId) (z1 z2 : Int32) (xs ys : List Int32) (cs : Int32) (h0 : Heap) (n0 : Nat) (Z0 : n0 ≤ h0.size) (E_a2 : Exa Z h0 a2 "java/lang/String") (F_c1 : Fld Z h0 a1 "java/lang/String" "coder" "B" (.int (0 : Int32))) (F_v1 : Fld Z h0 a1 "java/lang/String" "value" "[B" (.ref v1)) (F_c2 : Fld Z h0 a2 "java/lang/String" "coder" "B" (.int (0 : Int32))) (F_v2 : Fld Z h0 a2 "java/lang/String" "value" "[B" (.ref v2)) (V1 : Arv Z h0 v1 j1 .byte z1 (xs.map Value.int) (.int (0 : Int32))) (V2 : Arv Z h0 v2 j2 .byte z2 (ys.map Value.int) (.int (0 : Int32))) (hz1 : z1.toInt = xs.length) (hz2 : z2.toInt = ys.length) (hl2 : xs.length ≤ 2) (S_cs : Sta Z h0 "java/lang/String" "COMPACT_STRINGS" "Z" (.int cs)) (hcs : ¬ cs = (0 : Int32)) (hne : a1 ≠ a2) : own_Met l Z (⟨"java/lang/String", "equals", "(Ljava/lang/Object;)Z"⟩ : MethodName) jdk_42_method_66_code 3 (some .boolean) ws (own_R 1 0 0 14) #[(.ref a1), (.ref a2)] h0 (own_Qle xs ys h0 n0) := by
  refine own_enter n0 own_pn119 (fun m => ef_rmEq m a1 a2 ) (fun p e s m below meth c s₁ hx hby hlk hml hret hown hnm hZ X0 e0 N0 => ?_)
  show own_Fin p e below s _ _ _ s₁ (mkF m 0 #[.val (.ref a1), .val (.ref a2), .unset] [])
  refine own_by (fun _ k => XS.aloadN X0.here hx rfl (hb hby d9_0) rfl rfl (XS.aloadN X0.here hx rfl (hb hby d9_1) rfl rfl k)) ?_
  show own_Fin p e below s _ _ _ s₁ (mkF m 2 #[.val (.ref a1), .val (.ref a2), .unset] [(.ref a2), (.ref a1)])
  refine own_by (fun _ k => Jvm.RoadKit.acmp (g := (mkF m 2 #[.val (.ref a1), .val (.ref a2), .unset] [(.ref a2), (.ref a1)])) X0 hx rfl rfl rfl (pc0 := 2) (pc' := 7) (same := false) rfl (hb hby d9_2) rfl (decide_eq_false fun q => hne (Value.ref.inj q)) (by decide) (by decide) k) ?_
  show own_Fin p e below s _ _ _ s₁ (mkF m 7 #[.val (.ref a1), .val (.ref a2), .unset] [])
  refine own_by (fun _ k => XS.aloadN X0.here hx rfl (hb hby d9_7) rfl rfl k) ?_
  show own_Fin p e below s _ _ _ s₁ (mkF m 8 #[.val (.ref a1), .val (.ref a2), .unset] [(.ref a2)])
  obtain ⟨T149, X149, e149, st149⟩ := instY X0 hx hZ hown (hw _ (List.mem_of_getElem? (i := 60) rfl)) e0 (Ins.self E_a2) (g := (mkF m 8 #[.val (.ref a1), .val (.ref a2), .unset] [(.ref a2)])) rfl rfl (hb hby d9_8)
  refine own_by (fun _ k => st149 _ k) ?_
  show own_Fin p e below s _ _ _ T149 (mkF m 11 #[.val (.ref a1), .val (.ref a2), .unset] [(.int (1 : Int32))])
  refine own_by (fun _ k => XS.ifNo X149.here hx rfl (hb hby d9_11) rfl ((if0 _ _).trans (feq (by decide : ¬ ((1 : Int32) = (0 : Int32)))).1) k) ?_
  show own_Fin p e below s _ _ _ T149 (mkF m 14 #[.val (.ref a1), .val (.ref a2), .unset] [])
  refine own_by (fun _ k => XS.aloadN X149.here hx rfl (hb hby d9_14) rfl rfl k) ?_
  show own_Fin p e below s _ _ _ T149 (mkF m 15 #[.val (.ref a1), .val (.ref a2), .unset] [(.ref a2)])
  obtain ⟨T150, X150, e150, st150⟩ := castY X149 hx hZ hown (hw _ (List.mem_of_getElem? (i := 60) rfl)) e149 (Ins.self E_a2) (g := (mkF m 15 #[.val (.ref a1), .val (.ref a2), .unset] [(.ref a2)])) rfl rfl (hb hby d9_15)
  refine own_by (fun _ k => st150 _ k) ?_
  show own_Fin p e below s _ _ _ T150 (mkF m 18 #[.val (.ref a1), .val (.ref a2), .unset] [(.ref a2)])
  refine own_by (fun _ k => XS.astoreN X150.here hx rfl (hb hby d9_18) rfl rfl (l' := #[.val (.ref a1), .val (.ref a2), .val (.ref a2)]) rfl k) ?_
  show own_Fin p e below s _ _ _ T150 (mkF m 19 #[.val (.ref a1), .val (.ref a2), .val (.ref a2)] [])
  obtain ⟨T151, X151, e151, st151⟩ := getS2 X150 hx hZ hown (host := "") (Or.inl (hw _ (List.mem_of_getElem? (i := 61) rfl))) Via.refl e150 S_cs (g := (mkF m 19 #[.val (.ref a1), .val (.ref a2), .val (.ref a2)] [])) rfl (hb hby d9_19)
  refine own_by (fun _ k => st151 _ k) ?_
  show own_Fin p e below s _ _ _ T151 (mkF m 22 #[.val (.ref a1), .val (.ref a2), .val (.ref a2)] [(.int cs)])
  refine own_by (fun _ k => XS.ifNo X151.here hx rfl (hb hby d9_22) rfl ((if0 _ _).trans (feq hcs).1) k) ?_
  show own_Fin p e below s _ _ _ T151 (mkF m 25 #[.val (.ref a1), .val (.ref a2), .val (.ref a2)] [])
  refine own_by (fun _ k => XS.aloadN X151.here hx rfl (hb hby d9_25) rfl rfl k) ?_
  show own_Fin p e below s _ _ _ T151 (mkF m 26 #[.val (.ref a1), .val (.ref a2), .val (.ref a2)] [(.ref a1)])
  obtain ⟨T152, X152, e152, st152⟩ := getF X151 hx hZ hown (host := "") (Or.inl (hw _ (List.mem_of_getElem? (i := 33) rfl))) Via.refl e151 F_c1 (g := (mkF m 26 #[.val (.ref a1), .val (.ref a2), .val (.ref a2)] [(.ref a1)])) rfl rfl (hb hby d9_26)
  refine own_by (fun _ k => st152 _ k) ?_
  show own_Fin p e below s _ _ _ T152 (mkF m 29 #[.val (.ref a1), .val (.ref a2), .val (.ref a2)] [(.int (0 : Int32))])
  refine own_by (fun _ k => XS.aloadN X152.here hx rfl (hb hby d9_29) rfl rfl k) ?_
  show own_Fin p e below s _ _ _ T152 (mkF m 30 #[.val (.ref a1), .val (.ref a2), .val (.ref a2)] [(.ref a2), (.int (0 : Int32))])
  obtain ⟨T153, X153, e153, st153⟩ := getF X152 hx hZ hown (host := "") (Or.inl (hw _ (List.mem_of_getElem? (i := 33) rfl))) Via.refl e152 F_c2 (g := (mkF m 30 #[.val (.ref a1), .val (.ref a2), .val (.ref a2)] [(.ref a2), (.int (0 : Int32))])) rfl rfl (hb hby d9_30)
  refine own_by (fun _ k => st153 _ k) ?_
  show own_Fin p e below s _ _ _ T153 (mkF m 33 #[.val (.ref a1), .val (.ref a2), .val (.ref a2)] [(.int (0 : Int32)), (.int (0 : Int32))])
  refine own_by (fun _ k => XS.icmpNo X153.here hx rfl (hb hby d9_33) rfl (teq (by decide : (0 : Int32) = (0 : Int32))).2 k) ?_
  show own_Fin p e below s _ _ _ T153 (mkF m 36 #[.val (.ref a1), .val (.ref a2), .val (.ref a2)] [])
  refine own_by (fun _ k => XS.aloadN X153.here hx rfl (hb hby d9_36) rfl rfl k) ?_
  show own_Fin p e below s _ _ _ T153 (mkF m 37 #[.val (.ref a1), .val (.ref a2), .val (.ref a2)] [(.ref a1)])
  obtain ⟨T154, X154, e154, st154⟩ := getF X153 hx hZ hown (host := "") (Or.inl (hw _ (List.mem_of_getElem? (i := 32) rfl))) Via.refl e153 F_v1 (g := (mkF m 37 #[.val (.ref a1), .val (.ref a2), .val (.ref a2)] [(.ref a1)])) rfl rfl (hb hby d9_37)
  refine own_by (fun _ k => st154 _ k) ?_
  show own_Fin p e below s _ _ _ T154 (mkF m 40 #[.val (.ref a1), .val (.ref a2), .val (.ref a2)] [(.ref v1)])
  refine own_by (fun _ k => XS.aloadN X154.here hx rfl (hb hby d9_40) rfl rfl k) ?_
  show own_Fin p e below s _ _ _ T154 (mkF m 41 #[.val (.ref a1), .val (.ref a2), .val (.ref a2)] [(.ref a2), (.ref v1)])
  obtain ⟨T155, X155, e155, st155⟩ := getF X154 hx hZ hown (host := "") (Or.inl (hw _ (List.mem_of_getElem? (i := 32) rfl))) Via.refl e154 F_v2 (g := (mkF m 41 #[.val (.ref a1), .val (.ref a2), .val (.ref a2)] [(.ref a2), (.ref v1)])) rfl rfl (hb hby d9_41)
  refine own_by (fun _ k => st155 _ k) ?_
  show own_Fin p e below s _ _ _ T155 (mkF m 44 #[.val (.ref a1), .val (.ref a2), .val (.ref a2)] [(.ref v2), (.ref v1)])
  obtain ⟨_, _, ⟨T156, L156, k156, n156⟩, -, X156, ⟨Lc156, hQ156, l156, y156, z156⟩, st156⟩ := Jvm.LawKit.callS X155 hx (y := (⟨"java/lang/StringLatin1", "equals", "([B[B)Z"⟩ : MethodName)) hown (mvT hZ (hw _ (List.mem_of_getElem? (i := 62) rfl))) (mvT hZ (hw _ (List.mem_of_getElem? (i := 63) rfl))) (mvT hZ (hw _ (List.mem_of_getElem? (i := 64) rfl))) (mvT hZ (hw _ (List.mem_of_getElem? (i := 65) rfl))) (by decide) (backOf (W := 0) (rmLe l Z a0 hw [] v1 v2 j1 j2 z1 z2 xs ys h0 n0 Z0 V1 V2 hz1 hz2 hl2) hZ (hw _ (List.mem_of_getElem? (i := 65) rfl)) (hw _ (List.mem_of_getElem? (i := 64) rfl)) (by decide) (by decide)) (g := (mkF m 44 #[.val (.ref a1), .val (.ref a2), .val (.ref a2)] [(.ref v2), (.ref v1)])) rfl (by rw [hml]; rfl) (argsL := [(.ref v1), (.ref v2)]) (rest := []) (lenOf own_pd262 rfl) rfl (by show 2 * 0 + _ ≤ _; exact Nat.le_of_eq rfl) (hb hby d9_44) (fun _ _ => ⟨rfl, e155, (by decide : 0 + 0 ≤ _), (by decide : 0 + 0 ≤ _)⟩)
  dsimp only [Pt.U, Pt.locs, Pt.cells, Pt.slots] at X156 l156 y156 z156 st156 hQ156
  subst l156 y156 z156
  obtain ⟨rfl, Nq156, eh156⟩ := hQ156
  have N156 := Fr.app N0 Nq156
  refine own_by (fun _ k => st156 _ k) ?_
  show own_Fin p e below s _ _ _ T156 (mkF m 47 #[.val (.ref a1), .val (.ref a2), .val (.ref a2)] [(.int (own_leq xs ys))])
  by_cases hc47_157 : (own_leq xs ys) = (0 : Int32)
  · show own_Fin p e below s _ _ _ T156 (mkF m 47 #[.val (.ref a1), .val (.ref a2), .val (.ref a2)] [(.int (own_leq xs ys))])
    refine own_by (fun _ k => XS.ifYes X156.here hx rfl (pc0 := 47) (pc' := 54) rfl (hb hby d9_47) rfl ((if0 _ _).trans (teq hc47_157).1) (by decide) (by decide) k) ?_
    show own_Fin p e below s _ _ _ T156 (mkF m 54 #[.val (.ref a1), .val (.ref a2), .val (.ref a2)] [])
    refine own_by (fun _ k => XS.iconst X156.here hx rfl (hb hby d9_54) k) ?_
    show own_Fin p e below s _ _ _ T156 (mkF m 55 #[.val (.ref a1), .val (.ref a2), .val (.ref a2)] [(.int (0 : Int32))])
    exact own_retZ X156 hx hlk (t := .boolean) hret (by simp) (hb hby d9_55) ⟨own_vi (show (0 : Int32) = own_leq xs ys by exact hc47_157.symm), N156, eh156⟩ (by decide) (by decide)
  · show own_Fin p e below s _ _ _ T156 (mkF m 47 #[.val (.ref a1), .val (.ref a2), .val (.ref a2)] [(.int (own_leq xs ys))])
    refine own_by (fun _ k => XS.ifNo X156.here hx rfl (hb hby d9_47) rfl ((if0 _ _).trans (feq hc47_157).1) k) ?_
    show own_Fin p e below s _ _ _ T156 (mkF m 50 #[.val (.ref a1), .val (.ref a2), .val (.ref a2)] [])
    refine own_by (fun _ k => XS.iconst X156.here hx rfl (hb hby d9_50) (XS.goto X156.here hx rfl (pc0 := 51) (pc' := 55) rfl (hb hby d9_51) (by decide) (by decide) k)) ?_
    show own_Fin p e below s _ _ _ T156 (mkF m 55 #[.val (.ref a1), .val (.ref a2), .val (.ref a2)] [(.int (1 : Int32))])
    exact own_retZ X156 hx hlk (t := .boolean) hret (by simp) (hb hby d9_55) ⟨own_vi (show (1 : Int32) = own_leq xs ys by have q := hc47_157; unfold own_leq at q ⊢; by_cases z : xs = ys <;> simp_all), N156, eh156⟩ (by decide) (by decide)
theorem own_pn269 : plainName "com/example/hinta/hinta/ctmc/Reward" = true := by first | (simp [plainName, overriddenIn]; done) | decide +kernel
theorem d6_0 : decode prog_3_method_1_code 0 = .ok (.aload_n 0, 1) := by decide +kernel
theorem d6_1 : decode prog_3_method_1_code 1 = .ok (.invokespecial 1, 3) := by decide +kernel
theorem d6_4 : decode prog_3_method_1_code 4 = .ok (.aload_n 0, 1) := by decide +kernel
theorem d6_5 : decode prog_3_method_1_code 5 = .ok (.aload_n 1, 1) := by decide +kernel
theorem d6_6 : decode prog_3_method_1_code 6 = .ok (.putfield 7, 3) := by decide +kernel
theorem d6_9 : decode prog_3_method_1_code 9 = .ok (.aload_n 0, 1) := by decide +kernel
theorem d6_10 : decode prog_3_method_1_code 10 = .ok (.aload_n 2, 1) := by decide +kernel
theorem d6_11 : decode prog_3_method_1_code 11 = .ok (.putfield 13, 3) := by decide +kernel
theorem d6_14 : decode prog_3_method_1_code 14 = .ok (.return_, 1) := by decide +kernel
theorem ef_rmRi (m : MethodId) (x0 : Addr) (x1 : Addr) (x2 : Addr) : entryFrame m #[(.ref x0), (.ref x1), (.ref x2)] 3 = mkF m 0 #[.val (.ref x0), .val (.ref x1), .val (.ref x2)] [] := by first | (simp [entryFrame, mkF, argsToLocals, Value.category]; done) | rfl
def own_Qri (Z : State) (a1 a2 a3 : Addr) (h0 : Heap) (n0 : Nat) (v : Option Value) (h : Heap) (L : List Loc) : Prop := v = none ∧ Fr n0 L ∧ Keep h0 h [a1] ∧ Fld Z h a1 "com/example/hinta/hinta/ctmc/Reward" "node" "Ljava/lang/String;" (.ref a2) ∧ Fld Z h a1 "com/example/hinta/hinta/ctmc/Reward" "kind" "Lcom/example/hinta/hinta/lts/Kind;" (.ref a3)
set_option maxRecDepth 65536 in
set_option maxHeartbeats 40000000 in
theorem rmRi (l : Launch) (Z : State) (a0 : Array Value) (hw : ∀ d ∈ tables_1, d.before a0 Z = true) (ws : List Jvm.Cond) (a1 a2 a3 : Addr) (u1 u2 : Value) (h0 : Heap) (n0 : Nat) (Z0 : n0 ≤ h0.size) (E_a1 : Exa Z h0 a1 "com/example/hinta/hinta/ctmc/Reward") (F_n : Fld Z h0 a1 "com/example/hinta/hinta/ctmc/Reward" "node" "Ljava/lang/String;" u1) (F_k : Fld Z h0 a1 "com/example/hinta/hinta/ctmc/Reward" "kind" "Lcom/example/hinta/hinta/lts/Kind;" u2) (g_a1 : n0 ≤ a1) : own_Met l Z (⟨"com/example/hinta/hinta/ctmc/Reward", "<init>", "(Ljava/lang/String;Lcom/example/hinta/hinta/lts/Kind;)V"⟩ : MethodName) prog_3_method_1_code 3 none ws (own_R 1 0 0 12) #[(.ref a1), (.ref a2), (.ref a3)] h0 (own_Qri Z a1 a2 a3 h0 n0) := by
  refine own_enter n0 own_pn269 (fun m => ef_rmRi m a1 a2 a3 ) (fun p e s m below meth c s₁ hx hby hlk hml hret hown hnm hZ X0 e0 N0 => ?_)
  show own_Fin p e below s _ _ _ s₁ (mkF m 0 #[.val (.ref a1), .val (.ref a2), .val (.ref a3)] [])
  have Kp158 : Keep h0 h0 [a1] := Keep.refl h0 _
  refine own_by (fun _ k => XS.aloadN X0.here hx rfl (hb hby d6_0) rfl rfl k) ?_
  show own_Fin p e below s _ _ _ s₁ (mkF m 1 #[.val (.ref a1), .val (.ref a2), .val (.ref a3)] [(.ref a1)])
  obtain ⟨T159, X159, e159, st159⟩ := initO X0 hx hZ hown (hw _ (List.mem_of_getElem? (i := 40) rfl)) (hw _ (List.mem_of_getElem? (i := 24) rfl)) (hw _ (List.mem_of_getElem? (i := 25) rfl)) e0 (g := (mkF m 1 #[.val (.ref a1), .val (.ref a2), .val (.ref a3)] [(.ref a1)])) rfl (by rw [hml]; rfl) rfl (hb hby d6_1) (by decide) (W := 0) (by show 2 * 0 + _ ≤ _; exact Nat.le_of_eq rfl) (by decide)
  refine own_by (fun _ k => st159 _ k) ?_
  show own_Fin p e below s _ _ _ T159 (mkF m 4 #[.val (.ref a1), .val (.ref a2), .val (.ref a3)] [])
  refine own_by (fun _ k => XS.aloadN X159.here hx rfl (hb hby d6_4) rfl rfl (XS.aloadN X159.here hx rfl (hb hby d6_5) rfl rfl k)) ?_
  show own_Fin p e below s _ _ _ T159 (mkF m 6 #[.val (.ref a1), .val (.ref a2), .val (.ref a3)] [(.ref a2), (.ref a1)])
  obtain ⟨T160, h160, X160, e160, W160, st160⟩ := putF X159 hx hZ hown (host := "") (Or.inl (hw _ (List.mem_of_getElem? (i := 41) rfl))) Via.refl e159 F_n E_a1 (Or.inr ⟨(hw _ (List.mem_of_getElem? (i := 42) rfl)), rfl, hnm⟩) (hw _ (List.mem_of_getElem? (i := 35) rfl)) (ty := (.object "java/lang/String")) (by decide) rfl rfl (g := (mkF m 6 #[.val (.ref a1), .val (.ref a2), .val (.ref a3)] [(.ref a2), (.ref a1)])) rfl rfl (hb hby d6_6)
  refine own_by (fun _ k => st160 _ k) ?_
  have Fw160 : Fld Z h160 a1 "com/example/hinta/hinta/ctmc/Reward" "node" "Ljava/lang/String;" (.ref a2) := F_n.same W160
  have Kp160 : Keep h0 h160 [a1] := Kp158.wr W160 (Or.inl (List.mem_of_getElem? (i := 0) rfl))
  have Zs160 : n0 ≤ h160.size := Nat.le_trans Z0 (Keep.of_wr W160).1
  have N160 := Fr.snoc X160 N0 g_a1
  have f161_0 : Exa Z h160 a1 "com/example/hinta/hinta/ctmc/Reward" := E_a1.wr W160
  have f161_2 : Fld Z h160 a1 "com/example/hinta/hinta/ctmc/Reward" "kind" "Lcom/example/hinta/hinta/lts/Kind;" u2 := F_k.other W160 (Or.inr (slot_ne (Or.inr (hw _ (List.mem_of_getElem? (i := 44) rfl))) (Or.inr (hw _ (List.mem_of_getElem? (i := 42) rfl))) (by decide) (t := (.object "com/example/hinta/hinta/lts/Kind")) (t' := (.object "java/lang/String")) (by decide) (by decide)))
  show own_Fin p e below s _ _ _ T160 (mkF m 9 #[.val (.ref a1), .val (.ref a2), .val (.ref a3)] [])
  refine own_by (fun _ k => XS.aloadN X160.here hx rfl (hb hby d6_9) rfl rfl (XS.aloadN X160.here hx rfl (hb hby d6_10) rfl rfl k)) ?_
  show own_Fin p e below s _ _ _ T160 (mkF m 11 #[.val (.ref a1), .val (.ref a2), .val (.ref a3)] [(.ref a3), (.ref a1)])
  obtain ⟨T162, h162, X162, e162, W162, st162⟩ := putF X160 hx hZ hown (host := "") (Or.inl (hw _ (List.mem_of_getElem? (i := 43) rfl))) Via.refl e160 f161_2 f161_0 (Or.inr ⟨(hw _ (List.mem_of_getElem? (i := 44) rfl)), rfl, hnm⟩) (hw _ (List.mem_of_getElem? (i := 35) rfl)) (ty := (.object "com/example/hinta/hinta/lts/Kind")) (by decide) rfl rfl (g := (mkF m 11 #[.val (.ref a1), .val (.ref a2), .val (.ref a3)] [(.ref a3), (.ref a1)])) rfl rfl (hb hby d6_11)
  refine own_by (fun _ k => st162 _ k) ?_
  have Fw162 : Fld Z h162 a1 "com/example/hinta/hinta/ctmc/Reward" "kind" "Lcom/example/hinta/hinta/lts/Kind;" (.ref a3) := f161_2.same W162
  have Kp162 : Keep h0 h162 [a1] := Kp160.wr W162 (Or.inl (List.mem_of_getElem? (i := 0) rfl))
  have Zs162 : n0 ≤ h162.size := Nat.le_trans Zs160 (Keep.of_wr W162).1
  have N162 := Fr.snoc X162 N160 g_a1
  have f163_0 : Exa Z h162 a1 "com/example/hinta/hinta/ctmc/Reward" := f161_0.wr W162
  have f163_2 : Fld Z h162 a1 "com/example/hinta/hinta/ctmc/Reward" "node" "Ljava/lang/String;" (.ref a2) := Fw160.other W162 (Or.inr (slot_ne (Or.inr (hw _ (List.mem_of_getElem? (i := 42) rfl))) (Or.inr (hw _ (List.mem_of_getElem? (i := 44) rfl))) (by decide) (t := (.object "java/lang/String")) (t' := (.object "com/example/hinta/hinta/lts/Kind")) (by decide) (by decide)))
  show own_Fin p e below s _ _ _ T162 (mkF m 14 #[.val (.ref a1), .val (.ref a2), .val (.ref a3)] [])
  exact own_retV X162 hx hlk hret (hb hby d6_14) (by rw [e162]; exact ⟨rfl, N162, Kp162, f163_2, Fw162⟩) (by decide) (by decide)
theorem d8_0 : decode prog_3_method_6_code 0 = .ok (.aload_n 1, 1) := by decide +kernel
theorem d8_1 : decode prog_3_method_6_code 1 = .ok (.instanceof 8, 3) := by decide +kernel
theorem d8_4 : decode prog_3_method_6_code 4 = .ok (.ifCond .eq 38, 3) := by decide +kernel
theorem d8_42 : decode prog_3_method_6_code 42 = .ok (.iconst 0, 1) := by decide +kernel
theorem d8_43 : decode prog_3_method_6_code 43 = .ok (.ireturn, 1) := by decide +kernel
theorem ef_rmRn (m : MethodId) (x0 : Addr) : entryFrame m #[(.ref x0), .null] 2 = mkF m 0 #[.val (.ref x0), .val .null] [] := by first | (simp [entryFrame, mkF, argsToLocals, Value.category]; done) | rfl
def own_Qz (h0 : Heap) (n0 : Nat) (v : Option Value) (h : Heap) (L : List Loc) : Prop := v = some (.int (0 : Int32)) ∧ Fr n0 L ∧ h = h0
set_option maxRecDepth 65536 in
set_option maxHeartbeats 40000000 in
theorem rmRn (l : Launch) (Z : State) (a0 : Array Value) (hw : ∀ d ∈ tables_1, d.before a0 Z = true) (ws : List Jvm.Cond) (a1 : Addr) (h0 : Heap) (n0 : Nat) (Z0 : n0 ≤ h0.size)  : own_Met l Z (⟨"com/example/hinta/hinta/ctmc/Reward", "equals", "(Ljava/lang/Object;)Z"⟩ : MethodName) prog_3_method_6_code 2 (some .boolean) ws (own_R 0 0 0 0) #[(.ref a1), .null] h0 (own_Qz h0 n0) := by
  refine own_enter n0 own_pn269 (fun m => ef_rmRn m a1 ) (fun p e s m below meth c s₁ hx hby hlk hml hret hown hnm hZ X0 e0 N0 => ?_)
  show own_Fin p e below s _ _ _ s₁ (mkF m 0 #[.val (.ref a1), .val .null] [])
  refine own_by (fun _ k => XS.aloadN X0.here hx rfl (hb hby d8_0) rfl rfl k) ?_
  show own_Fin p e below s _ _ _ s₁ (mkF m 1 #[.val (.ref a1), .val .null] [.null])
  refine own_by (fun _ k => X0.instanceofNull hx (g := (mkF m 1 #[.val (.ref a1), .val .null] [.null])) rfl rfl (hb hby d8_1) _ k) ?_
  show own_Fin p e below s _ _ _ s₁ (mkF m 4 #[.val (.ref a1), .val .null] [(.int (0 : Int32))])
  refine own_by (fun _ k => XS.ifYes X0.here hx rfl (pc0 := 4) (pc' := 42) rfl (hb hby d8_4) rfl ((if0 _ _).trans (teq (by decide : (0 : Int32) = (0 : Int32))).1) (by decide) (by decide) k) ?_
  show own_Fin p e below s _ _ _ s₁ (mkF m 42 #[.val (.ref a1), .val .null] [])
  refine own_by (fun _ k => XS.iconst X0.here hx rfl (hb hby d8_42) k) ?_
  show own_Fin p e below s _ _ _ s₁ (mkF m 43 #[.val (.ref a1), .val .null] [(.int (0 : Int32))])
  exact own_retZ X0 hx hlk (t := .boolean) hret (by simp) (hb hby d8_43) ⟨rfl, N0, e0⟩ (by decide) (by decide)
theorem ef_rmRs (m : MethodId) (x0 : Addr) (x1 : Addr) : entryFrame m #[(.ref x0), (.ref x1)] 2 = mkF m 0 #[.val (.ref x0), .val (.ref x1)] [] := by first | (simp [entryFrame, mkF, argsToLocals, Value.category]; done) | rfl
set_option maxRecDepth 65536 in
set_option maxHeartbeats 40000000 in
theorem rmRs (l : Launch) (Z : State) (a0 : Array Value) (hw : ∀ d ∈ tables_1, d.before a0 Z = true) (ws : List Jvm.Cond) (a1 a2 : Addr) (h0 : Heap) (n0 : Nat) (Z0 : n0 ≤ h0.size) (E_a2 : Exa Z h0 a2 "java/lang/String") : own_Met l Z (⟨"com/example/hinta/hinta/ctmc/Reward", "equals", "(Ljava/lang/Object;)Z"⟩ : MethodName) prog_3_method_6_code 2 (some .boolean) ws (own_R 0 0 0 0) #[(.ref a1), (.ref a2)] h0 (own_Qz h0 n0) := by
  refine own_enter n0 own_pn269 (fun m => ef_rmRs m a1 a2 ) (fun p e s m below meth c s₁ hx hby hlk hml hret hown hnm hZ X0 e0 N0 => ?_)
  show own_Fin p e below s _ _ _ s₁ (mkF m 0 #[.val (.ref a1), .val (.ref a2)] [])
  refine own_by (fun _ k => XS.aloadN X0.here hx rfl (hb hby d8_0) rfl rfl k) ?_
  show own_Fin p e below s _ _ _ s₁ (mkF m 1 #[.val (.ref a1), .val (.ref a2)] [(.ref a2)])
  obtain ⟨T165, X165, e165, st165⟩ := instNo X0 hx hZ hown (hw _ (List.mem_of_getElem? (i := 53) rfl)) e0 E_a2 (own_notRw (hw _ (List.mem_of_getElem? (i := 88) rfl)) (hw _ (List.mem_of_getElem? (i := 89) rfl)) (hw _ (List.mem_of_getElem? (i := 35) rfl)) (by decide) (by decide)) (g := (mkF m 1 #[.val (.ref a1), .val (.ref a2)] [(.ref a2)])) rfl rfl (hb hby d8_1)
  refine own_by (fun _ k => st165 _ k) ?_
  show own_Fin p e below s _ _ _ T165 (mkF m 4 #[.val (.ref a1), .val (.ref a2)] [(.int (0 : Int32))])
  refine own_by (fun _ k => XS.ifYes X165.here hx rfl (pc0 := 4) (pc' := 42) rfl (hb hby d8_4) rfl ((if0 _ _).trans (teq (by decide : (0 : Int32) = (0 : Int32))).1) (by decide) (by decide) k) ?_
  show own_Fin p e below s _ _ _ T165 (mkF m 42 #[.val (.ref a1), .val (.ref a2)] [])
  refine own_by (fun _ k => XS.iconst X165.here hx rfl (hb hby d8_42) k) ?_
  show own_Fin p e below s _ _ _ T165 (mkF m 43 #[.val (.ref a1), .val (.ref a2)] [(.int (0 : Int32))])
  exact own_retZ X165 hx hlk (t := .boolean) hret (by simp) (hb hby d8_43) ⟨rfl, N0, e165⟩ (by decide) (by decide)
theorem d8_7 : decode prog_3_method_6_code 7 = .ok (.aload_n 0, 1) := by decide +kernel
theorem d8_8 : decode prog_3_method_6_code 8 = .ok (.getfield 7, 3) := by decide +kernel
theorem d8_11 : decode prog_3_method_6_code 11 = .ok (.aload_n 1, 1) := by decide +kernel
theorem d8_12 : decode prog_3_method_6_code 12 = .ok (.checkcast 8, 3) := by decide +kernel
theorem d8_15 : decode prog_3_method_6_code 15 = .ok (.getfield 7, 3) := by decide +kernel
theorem d8_18 : decode prog_3_method_6_code 18 = .ok (.invokevirtual 69, 3) := by decide +kernel
theorem own_pd293 : parseMethodDescriptor "(Ljava/lang/Object;)Z" = some ⟨[(.object "java/lang/Object")], some .boolean⟩ := by decide +kernel
theorem d8_21 : decode prog_3_method_6_code 21 = .ok (.ifCond .eq 21, 3) := by decide +kernel
theorem d8_24 : decode prog_3_method_6_code 24 = .ok (.aload_n 0, 1) := by decide +kernel
theorem d8_25 : decode prog_3_method_6_code 25 = .ok (.getfield 13, 3) := by decide +kernel
theorem d8_28 : decode prog_3_method_6_code 28 = .ok (.aload_n 1, 1) := by decide +kernel
theorem d8_29 : decode prog_3_method_6_code 29 = .ok (.checkcast 8, 3) := by decide +kernel
theorem d8_32 : decode prog_3_method_6_code 32 = .ok (.getfield 13, 3) := by decide +kernel
theorem d8_35 : decode prog_3_method_6_code 35 = .ok (.if_acmp .ne 7, 3) := by decide +kernel
theorem d8_38 : decode prog_3_method_6_code 38 = .ok (.iconst 1, 1) := by decide +kernel
theorem d8_39 : decode prog_3_method_6_code 39 = .ok (.goto 4, 3) := by decide +kernel
theorem ef_rmRr (m : MethodId) (x0 : Addr) (x1 : Addr) : entryFrame m #[(.ref x0), (.ref x1)] 2 = mkF m 0 #[.val (.ref x0), .val (.ref x1)] [] := by first | (simp [entryFrame, mkF, argsToLocals, Value.category]; done) | rfl
set_option maxRecDepth 65536 in
set_option maxHeartbeats 40000000 in
theorem rmRr (l : Launch) (Z : State) (a0 : Array Value) (hw : ∀ d ∈ tables_1, d.before a0 Z = true) (ws : List Jvm.Cond) (r1 a1 t1 : Addr) (h0 : Heap) (n0 : Nat) (Z0 : n0 ≤ h0.size) (E_r1 : Exa Z h0 r1 "com/example/hinta/hinta/ctmc/Reward") (G_n1 : Fld Z h0 r1 "com/example/hinta/hinta/ctmc/Reward" "node" "Ljava/lang/String;" (.ref a1)) (G_k1 : Fld Z h0 r1 "com/example/hinta/hinta/ctmc/Reward" "kind" "Lcom/example/hinta/hinta/lts/Kind;" (.ref t1)) (E_a1 : Exa Z h0 a1 "java/lang/String") : own_Met l Z (⟨"com/example/hinta/hinta/ctmc/Reward", "equals", "(Ljava/lang/Object;)Z"⟩ : MethodName) prog_3_method_6_code 2 (some .boolean) ws (own_R 1 0 0 14) #[(.ref r1), (.ref r1)] h0 (own_Qone h0 n0) := by
  refine own_enter n0 own_pn269 (fun m => ef_rmRr m r1 r1 ) (fun p e s m below meth c s₁ hx hby hlk hml hret hown hnm hZ X0 e0 N0 => ?_)
  show own_Fin p e below s _ _ _ s₁ (mkF m 0 #[.val (.ref r1), .val (.ref r1)] [])
  refine own_by (fun _ k => XS.aloadN X0.here hx rfl (hb hby d8_0) rfl rfl k) ?_
  show own_Fin p e below s _ _ _ s₁ (mkF m 1 #[.val (.ref r1), .val (.ref r1)] [(.ref r1)])
  obtain ⟨T166, X166, e166, st166⟩ := instY X0 hx hZ hown (hw _ (List.mem_of_getElem? (i := 53) rfl)) e0 (Ins.self E_r1) (g := (mkF m 1 #[.val (.ref r1), .val (.ref r1)] [(.ref r1)])) rfl rfl (hb hby d8_1)
  refine own_by (fun _ k => st166 _ k) ?_
  show own_Fin p e below s _ _ _ T166 (mkF m 4 #[.val (.ref r1), .val (.ref r1)] [(.int (1 : Int32))])
  refine own_by (fun _ k => XS.ifNo X166.here hx rfl (hb hby d8_4) rfl ((if0 _ _).trans (feq (by decide : ¬ ((1 : Int32) = (0 : Int32)))).1) k) ?_
  show own_Fin p e below s _ _ _ T166 (mkF m 7 #[.val (.ref r1), .val (.ref r1)] [])
  refine own_by (fun _ k => XS.aloadN X166.here hx rfl (hb hby d8_7) rfl rfl k) ?_
  show own_Fin p e below s _ _ _ T166 (mkF m 8 #[.val (.ref r1), .val (.ref r1)] [(.ref r1)])
  obtain ⟨T167, X167, e167, st167⟩ := getF X166 hx hZ hown (host := "") (Or.inl (hw _ (List.mem_of_getElem? (i := 41) rfl))) Via.refl e166 G_n1 (g := (mkF m 8 #[.val (.ref r1), .val (.ref r1)] [(.ref r1)])) rfl rfl (hb hby d8_8)
  refine own_by (fun _ k => st167 _ k) ?_
  show own_Fin p e below s _ _ _ T167 (mkF m 11 #[.val (.ref r1), .val (.ref r1)] [(.ref a1)])
  refine own_by (fun _ k => XS.aloadN X167.here hx rfl (hb hby d8_11) rfl rfl k) ?_
  show own_Fin p e below s _ _ _ T167 (mkF m 12 #[.val (.ref r1), .val (.ref r1)] [(.ref r1), (.ref a1)])
  obtain ⟨T168, X168, e168, st168⟩ := castY X167 hx hZ hown (hw _ (List.mem_of_getElem? (i := 53) rfl)) e167 (Ins.self E_r1) (g := (mkF m 12 #[.val (.ref r1), .val (.ref r1)] [(.ref r1), (.ref a1)])) rfl rfl (hb hby d8_12)
  refine own_by (fun _ k => st168 _ k) ?_
  show own_Fin p e below s _ _ _ T168 (mkF m 15 #[.val (.ref r1), .val (.ref r1)] [(.ref r1), (.ref a1)])
  obtain ⟨T169, X169, e169, st169⟩ := getF X168 hx hZ hown (host := "") (Or.inl (hw _ (List.mem_of_getElem? (i := 41) rfl))) Via.refl e168 G_n1 (g := (mkF m 15 #[.val (.ref r1), .val (.ref r1)] [(.ref r1), (.ref a1)])) rfl rfl (hb hby d8_15)
  refine own_by (fun _ k => st169 _ k) ?_
  show own_Fin p e below s _ _ _ T169 (mkF m 18 #[.val (.ref r1), .val (.ref r1)] [(.ref a1), (.ref a1)])
  obtain ⟨cq170, kq170, q170a, q170b, q170c⟩ := isOf hZ e169 E_a1
  obtain ⟨_, _, ⟨T170, L170, k170, n170⟩, -, X170, ⟨Lc170, hQ170, l170, y170, z170⟩, st170⟩ := X169.virtualBack hx (y := (⟨"java/lang/String", "equals", "(Ljava/lang/Object;)Z"⟩ : MethodName)) (z := (⟨"java/lang/String", "equals", "(Ljava/lang/Object;)Z"⟩ : MethodName)) hown (mvT hZ (hw _ (List.mem_of_getElem? (i := 55) rfl))) (mvT hZ (hw _ (List.mem_of_getElem? (i := 56) rfl))) (notFace_of_selects (args := #[]) (mvT hZ (hw _ (List.mem_of_getElem? (i := 58) rfl)))) (mvT hZ (hw _ (List.mem_of_getElem? (i := 58) rfl))) (mvT hZ (hw _ (List.mem_of_getElem? (i := 57) rfl))) (by decide) (backOf (W := 0) (rmEqS l Z a0 hw [] a1 h0 n0 Z0 ) hZ (hw _ (List.mem_of_getElem? (i := 59) rfl)) (hw _ (List.mem_of_getElem? (i := 14) rfl)) (by decide) (by decide)) q170a q170c (g := (mkF m 18 #[.val (.ref r1), .val (.ref r1)] [(.ref a1), (.ref a1)])) rfl (by rw [hml]; rfl) (Steps.refl _) (argsL := [(.ref a1)]) (rest := []) (lenOf own_pd293 rfl) rfl (by show 2 * 0 + _ ≤ _; exact Nat.le_of_eq rfl) (hb hby d8_18) (fun _ _ => ⟨rfl, e169, (by decide : 0 + 0 ≤ _), (by decide : 0 + 0 ≤ _)⟩)
  dsimp only [Pt.U, Pt.locs, Pt.cells, Pt.slots] at X170 l170 y170 z170 st170 hQ170
  subst l170 y170 z170
  obtain ⟨rfl, Nq170, eh170⟩ := hQ170
  have N170 := Fr.app N0 Nq170
  refine own_by (fun _ k => st170.trans k) ?_
  show own_Fin p e below s _ _ _ T170 (mkF m 21 #[.val (.ref r1), .val (.ref r1)] [(.int (1 : Int32))])
  refine own_by (fun _ k => XS.ifNo X170.here hx rfl (hb hby d8_21) rfl ((if0 _ _).trans (feq (by decide : ¬ ((1 : Int32) = (0 : Int32)))).1) k) ?_
  show own_Fin p e below s _ _ _ T170 (mkF m 24 #[.val (.ref r1), .val (.ref r1)] [])
  refine own_by (fun _ k => XS.aloadN X170.here hx rfl (hb hby d8_24) rfl rfl k) ?_
  show own_Fin p e below s _ _ _ T170 (mkF m 25 #[.val (.ref r1), .val (.ref r1)] [(.ref r1)])
  obtain ⟨T171, X171, e171, st171⟩ := getF X170 hx hZ hown (host := "") (Or.inl (hw _ (List.mem_of_getElem? (i := 43) rfl))) Via.refl eh170 G_k1 (g := (mkF m 25 #[.val (.ref r1), .val (.ref r1)] [(.ref r1)])) rfl rfl (hb hby d8_25)
  refine own_by (fun _ k => st171 _ k) ?_
  show own_Fin p e below s _ _ _ T171 (mkF m 28 #[.val (.ref r1), .val (.ref r1)] [(.ref t1)])
  refine own_by (fun _ k => XS.aloadN X171.here hx rfl (hb hby d8_28) rfl rfl k) ?_
  show own_Fin p e below s _ _ _ T171 (mkF m 29 #[.val (.ref r1), .val (.ref r1)] [(.ref r1), (.ref t1)])
  obtain ⟨T172, X172, e172, st172⟩ := castY X171 hx hZ hown (hw _ (List.mem_of_getElem? (i := 53) rfl)) e171 (Ins.self E_r1) (g := (mkF m 29 #[.val (.ref r1), .val (.ref r1)] [(.ref r1), (.ref t1)])) rfl rfl (hb hby d8_29)
  refine own_by (fun _ k => st172 _ k) ?_
  show own_Fin p e below s _ _ _ T172 (mkF m 32 #[.val (.ref r1), .val (.ref r1)] [(.ref r1), (.ref t1)])
  obtain ⟨T173, X173, e173, st173⟩ := getF X172 hx hZ hown (host := "") (Or.inl (hw _ (List.mem_of_getElem? (i := 43) rfl))) Via.refl e172 G_k1 (g := (mkF m 32 #[.val (.ref r1), .val (.ref r1)] [(.ref r1), (.ref t1)])) rfl rfl (hb hby d8_32)
  refine own_by (fun _ k => st173 _ k) ?_
  show own_Fin p e below s _ _ _ T173 (mkF m 35 #[.val (.ref r1), .val (.ref r1)] [(.ref t1), (.ref t1)])
  refine own_by (fun _ k => Jvm.RoadKit.acmp (g := (mkF m 35 #[.val (.ref r1), .val (.ref r1)] [(.ref t1), (.ref t1)])) X173 hx rfl rfl rfl (pc0 := 35) (pc' := 38) (same := true) rfl (hb hby d8_35) rfl (decide_eq_true rfl) (by decide) (by decide) k) ?_
  show own_Fin p e below s _ _ _ T173 (mkF m 38 #[.val (.ref r1), .val (.ref r1)] [])
  refine own_by (fun _ k => XS.iconst X173.here hx rfl (hb hby d8_38) (XS.goto X173.here hx rfl (pc0 := 39) (pc' := 43) rfl (hb hby d8_39) (by decide) (by decide) k)) ?_
  show own_Fin p e below s _ _ _ T173 (mkF m 43 #[.val (.ref r1), .val (.ref r1)] [(.int (1 : Int32))])
  exact own_retZ X173 hx hlk (t := .boolean) hret (by simp) (hb hby d8_43) ⟨rfl, N170, e173⟩ (by decide) (by decide)
theorem ef_rmRe (m : MethodId) (x0 : Addr) (x1 : Addr) : entryFrame m #[(.ref x0), (.ref x1)] 2 = mkF m 0 #[.val (.ref x0), .val (.ref x1)] [] := by first | (simp [entryFrame, mkF, argsToLocals, Value.category]; done) | rfl
def own_Qre (xs ys : List Int32) (t1 t2 : Addr) (h0 : Heap) (n0 : Nat) (v : Option Value) (h : Heap) (L : List Loc) : Prop := v = some (.int (own_req xs ys t1 t2)) ∧ Fr n0 L ∧ h = h0
set_option maxRecDepth 65536 in
set_option maxHeartbeats 40000000 in
theorem rmRe (l : Launch) (Z : State) (a0 : Array Value) (hw : ∀ d ∈ tables_1, d.before a0 Z = true) (ws : List Jvm.Cond) (r1 r2 t1 t2 a1 a2 : Addr) (v1 v2 : Addr) (j1 j2 : ClassId) (z1 z2 : Int32) (xs ys : List Int32) (cs : Int32) (h0 : Heap) (n0 : Nat) (Z0 : n0 ≤ h0.size) (E_r2 : Exa Z h0 r2 "com/example/hinta/hinta/ctmc/Reward") (G_n1 : Fld Z h0 r1 "com/example/hinta/hinta/ctmc/Reward" "node" "Ljava/lang/String;" (.ref a1)) (G_k1 : Fld Z h0 r1 "com/example/hinta/hinta/ctmc/Reward" "kind" "Lcom/example/hinta/hinta/lts/Kind;" (.ref t1)) (G_n2 : Fld Z h0 r2 "com/example/hinta/hinta/ctmc/Reward" "node" "Ljava/lang/String;" (.ref a2)) (G_k2 : Fld Z h0 r2 "com/example/hinta/hinta/ctmc/Reward" "kind" "Lcom/example/hinta/hinta/lts/Kind;" (.ref t2)) (E_a1 : Exa Z h0 a1 "java/lang/String") (E_a2 : Exa Z h0 a2 "java/lang/String") (F_c1 : Fld Z h0 a1 "java/lang/String" "coder" "B" (.int (0 : Int32))) (F_v1 : Fld Z h0 a1 "java/lang/String" "value" "[B" (.ref v1)) (F_c2 : Fld Z h0 a2 "java/lang/String" "coder" "B" (.int (0 : Int32))) (F_v2 : Fld Z h0 a2 "java/lang/String" "value" "[B" (.ref v2)) (V1 : Arv Z h0 v1 j1 .byte z1 (xs.map Value.int) (.int (0 : Int32))) (V2 : Arv Z h0 v2 j2 .byte z2 (ys.map Value.int) (.int (0 : Int32))) (hz1 : z1.toInt = xs.length) (hz2 : z2.toInt = ys.length) (hl2 : xs.length ≤ 2) (S_cs : Sta Z h0 "java/lang/String" "COMPACT_STRINGS" "Z" (.int cs)) (hcs : ¬ cs = (0 : Int32)) (hne : a1 ≠ a2) : own_Met l Z (⟨"com/example/hinta/hinta/ctmc/Reward", "equals", "(Ljava/lang/Object;)Z"⟩ : MethodName) prog_3_method_6_code 2 (some .boolean) ws (own_R 2 0 0 40) #[(.ref r1), (.ref r2)] h0 (own_Qre xs ys t1 t2 h0 n0) := by
  refine own_enter n0 own_pn269 (fun m => ef_rmRe m r1 r2 ) (fun p e s m below meth c s₁ hx hby hlk hml hret hown hnm hZ X0 e0 N0 => ?_)
  show own_Fin p e below s _ _ _ s₁ (mkF m 0 #[.val (.ref r1), .val (.ref r2)] [])
  refine own_by (fun _ k => XS.aloadN X0.here hx rfl (hb hby d8_0) rfl rfl k) ?_
  show own_Fin p e below s _ _ _ s₁ (mkF m 1 #[.val (.ref r1), .val (.ref r2)] [(.ref r2)])
  obtain ⟨T174, X174, e174, st174⟩ := instY X0 hx hZ hown (hw _ (List.mem_of_getElem? (i := 53) rfl)) e0 (Ins.self E_r2) (g := (mkF m 1 #[.val (.ref r1), .val (.ref r2)] [(.ref r2)])) rfl rfl (hb hby d8_1)
  refine own_by (fun _ k => st174 _ k) ?_
  show own_Fin p e below s _ _ _ T174 (mkF m 4 #[.val (.ref r1), .val (.ref r2)] [(.int (1 : Int32))])
  refine own_by (fun _ k => XS.ifNo X174.here hx rfl (hb hby d8_4) rfl ((if0 _ _).trans (feq (by decide : ¬ ((1 : Int32) = (0 : Int32)))).1) k) ?_
  show own_Fin p e below s _ _ _ T174 (mkF m 7 #[.val (.ref r1), .val (.ref r2)] [])
  refine own_by (fun _ k => XS.aloadN X174.here hx rfl (hb hby d8_7) rfl rfl k) ?_
  show own_Fin p e below s _ _ _ T174 (mkF m 8 #[.val (.ref r1), .val (.ref r2)] [(.ref r1)])
  obtain ⟨T175, X175, e175, st175⟩ := getF X174 hx hZ hown (host := "") (Or.inl (hw _ (List.mem_of_getElem? (i := 41) rfl))) Via.refl e174 G_n1 (g := (mkF m 8 #[.val (.ref r1), .val (.ref r2)] [(.ref r1)])) rfl rfl (hb hby d8_8)
  refine own_by (fun _ k => st175 _ k) ?_
  show own_Fin p e below s _ _ _ T175 (mkF m 11 #[.val (.ref r1), .val (.ref r2)] [(.ref a1)])
  refine own_by (fun _ k => XS.aloadN X175.here hx rfl (hb hby d8_11) rfl rfl k) ?_
  show own_Fin p e below s _ _ _ T175 (mkF m 12 #[.val (.ref r1), .val (.ref r2)] [(.ref r2), (.ref a1)])
  obtain ⟨T176, X176, e176, st176⟩ := castY X175 hx hZ hown (hw _ (List.mem_of_getElem? (i := 53) rfl)) e175 (Ins.self E_r2) (g := (mkF m 12 #[.val (.ref r1), .val (.ref r2)] [(.ref r2), (.ref a1)])) rfl rfl (hb hby d8_12)
  refine own_by (fun _ k => st176 _ k) ?_
  show own_Fin p e below s _ _ _ T176 (mkF m 15 #[.val (.ref r1), .val (.ref r2)] [(.ref r2), (.ref a1)])
  obtain ⟨T177, X177, e177, st177⟩ := getF X176 hx hZ hown (host := "") (Or.inl (hw _ (List.mem_of_getElem? (i := 41) rfl))) Via.refl e176 G_n2 (g := (mkF m 15 #[.val (.ref r1), .val (.ref r2)] [(.ref r2), (.ref a1)])) rfl rfl (hb hby d8_15)
  refine own_by (fun _ k => st177 _ k) ?_
  show own_Fin p e below s _ _ _ T177 (mkF m 18 #[.val (.ref r1), .val (.ref r2)] [(.ref a2), (.ref a1)])
  obtain ⟨cq178, kq178, q178a, q178b, q178c⟩ := isOf hZ e177 E_a1
  obtain ⟨_, _, ⟨T178, L178, k178, n178⟩, -, X178, ⟨Lc178, hQ178, l178, y178, z178⟩, st178⟩ := X177.virtualBack hx (y := (⟨"java/lang/String", "equals", "(Ljava/lang/Object;)Z"⟩ : MethodName)) (z := (⟨"java/lang/String", "equals", "(Ljava/lang/Object;)Z"⟩ : MethodName)) hown (mvT hZ (hw _ (List.mem_of_getElem? (i := 55) rfl))) (mvT hZ (hw _ (List.mem_of_getElem? (i := 56) rfl))) (notFace_of_selects (args := #[]) (mvT hZ (hw _ (List.mem_of_getElem? (i := 58) rfl)))) (mvT hZ (hw _ (List.mem_of_getElem? (i := 58) rfl))) (mvT hZ (hw _ (List.mem_of_getElem? (i := 57) rfl))) (by decide) (backOf (W := 0) (rmEq l Z a0 hw [] a1 a2 v1 v2 j1 j2 z1 z2 xs ys cs h0 n0 Z0 E_a2 F_c1 F_v1 F_c2 F_v2 V1 V2 hz1 hz2 hl2 S_cs hcs hne) hZ (hw _ (List.mem_of_getElem? (i := 59) rfl)) (hw _ (List.mem_of_getElem? (i := 14) rfl)) (by decide) (by decide)) q178a q178c (g := (mkF m 18 #[.val (.ref r1), .val (.ref r2)] [(.ref a2), (.ref a1)])) rfl (by rw [hml]; rfl) (Steps.refl _) (argsL := [(.ref a2)]) (rest := []) (lenOf own_pd293 rfl) rfl (by show 2 * 0 + _ ≤ _; exact Nat.le_of_eq rfl) (hb hby d8_18) (fun _ _ => ⟨rfl, e177, (by decide : 0 + 0 ≤ _), (by decide : 0 + 0 ≤ _)⟩)
  dsimp only [Pt.U, Pt.locs, Pt.cells, Pt.slots] at X178 l178 y178 z178 st178 hQ178
  subst l178 y178 z178
  obtain ⟨rfl, Nq178, eh178⟩ := hQ178
  have N178 := Fr.app N0 Nq178
  refine own_by (fun _ k => st178.trans k) ?_
  show own_Fin p e below s _ _ _ T178 (mkF m 21 #[.val (.ref r1), .val (.ref r2)] [(.int (own_leq xs ys))])
  by_cases hc21_179 : (own_leq xs ys) = (0 : Int32)
  · show own_Fin p e below s _ _ _ T178 (mkF m 21 #[.val (.ref r1), .val (.ref r2)] [(.int (own_leq xs ys))])
    refine own_by (fun _ k => XS.ifYes X178.here hx rfl (pc0 := 21) (pc' := 42) rfl (hb hby d8_21) rfl ((if0 _ _).trans (teq hc21_179).1) (by decide) (by decide) k) ?_
    show own_Fin p e below s _ _ _ T178 (mkF m 42 #[.val (.ref r1), .val (.ref r2)] [])
    refine own_by (fun _ k => XS.iconst X178.here hx rfl (hb hby d8_42) k) ?_
    show own_Fin p e below s _ _ _ T178 (mkF m 43 #[.val (.ref r1), .val (.ref r2)] [(.int (0 : Int32))])
    exact own_retZ X178 hx hlk (t := .boolean) hret (by simp) (hb hby d8_43) ⟨own_vi (if_pos hc21_179).symm, N178, eh178⟩ (by decide) (by decide)
  · show own_Fin p e below s _ _ _ T178 (mkF m 21 #[.val (.ref r1), .val (.ref r2)] [(.int (own_leq xs ys))])
    refine own_by (fun _ k => XS.ifNo X178.here hx rfl (hb hby d8_21) rfl ((if0 _ _).trans (feq hc21_179).1) k) ?_
    show own_Fin p e below s _ _ _ T178 (mkF m 24 #[.val (.ref r1), .val (.ref r2)] [])
    refine own_by (fun _ k => XS.aloadN X178.here hx rfl (hb hby d8_24) rfl rfl k) ?_
    show own_Fin p e below s _ _ _ T178 (mkF m 25 #[.val (.ref r1), .val (.ref r2)] [(.ref r1)])
    obtain ⟨T180, X180, e180, st180⟩ := getF X178 hx hZ hown (host := "") (Or.inl (hw _ (List.mem_of_getElem? (i := 43) rfl))) Via.refl eh178 G_k1 (g := (mkF m 25 #[.val (.ref r1), .val (.ref r2)] [(.ref r1)])) rfl rfl (hb hby d8_25)
    refine own_by (fun _ k => st180 _ k) ?_
    show own_Fin p e below s _ _ _ T180 (mkF m 28 #[.val (.ref r1), .val (.ref r2)] [(.ref t1)])
    refine own_by (fun _ k => XS.aloadN X180.here hx rfl (hb hby d8_28) rfl rfl k) ?_
    show own_Fin p e below s _ _ _ T180 (mkF m 29 #[.val (.ref r1), .val (.ref r2)] [(.ref r2), (.ref t1)])
    obtain ⟨T181, X181, e181, st181⟩ := castY X180 hx hZ hown (hw _ (List.mem_of_getElem? (i := 53) rfl)) e180 (Ins.self E_r2) (g := (mkF m 29 #[.val (.ref r1), .val (.ref r2)] [(.ref r2), (.ref t1)])) rfl rfl (hb hby d8_29)
    refine own_by (fun _ k => st181 _ k) ?_
    show own_Fin p e below s _ _ _ T181 (mkF m 32 #[.val (.ref r1), .val (.ref r2)] [(.ref r2), (.ref t1)])
    obtain ⟨T182, X182, e182, st182⟩ := getF X181 hx hZ hown (host := "") (Or.inl (hw _ (List.mem_of_getElem? (i := 43) rfl))) Via.refl e181 G_k2 (g := (mkF m 32 #[.val (.ref r1), .val (.ref r2)] [(.ref r2), (.ref t1)])) rfl rfl (hb hby d8_32)
    refine own_by (fun _ k => st182 _ k) ?_
    show own_Fin p e below s _ _ _ T182 (mkF m 35 #[.val (.ref r1), .val (.ref r2)] [(.ref t2), (.ref t1)])
    by_cases ha35_183 : t1 = t2
    · show own_Fin p e below s _ _ _ T182 (mkF m 35 #[.val (.ref r1), .val (.ref r2)] [(.ref t2), (.ref t1)])
      refine own_by (fun _ k => Jvm.RoadKit.acmp (g := (mkF m 35 #[.val (.ref r1), .val (.ref r2)] [(.ref t2), (.ref t1)])) X182 hx rfl rfl rfl (pc0 := 35) (pc' := 38) (same := true) rfl (hb hby d8_35) rfl (decide_eq_true (congrArg Value.ref ha35_183)) (by decide) (by decide) k) ?_
      show own_Fin p e below s _ _ _ T182 (mkF m 38 #[.val (.ref r1), .val (.ref r2)] [])
      refine own_by (fun _ k => XS.iconst X182.here hx rfl (hb hby d8_38) (XS.goto X182.here hx rfl (pc0 := 39) (pc' := 43) rfl (hb hby d8_39) (by decide) (by decide) k)) ?_
      show own_Fin p e below s _ _ _ T182 (mkF m 43 #[.val (.ref r1), .val (.ref r2)] [(.int (1 : Int32))])
      exact own_retZ X182 hx hlk (t := .boolean) hret (by simp) (hb hby d8_43) ⟨own_vi ((if_neg hc21_179).trans (if_pos ha35_183)).symm, N178, e182⟩ (by decide) (by decide)
    · show own_Fin p e below s _ _ _ T182 (mkF m 35 #[.val (.ref r1), .val (.ref r2)] [(.ref t2), (.ref t1)])
      refine own_by (fun _ k => Jvm.RoadKit.acmp (g := (mkF m 35 #[.val (.ref r1), .val (.ref r2)] [(.ref t2), (.ref t1)])) X182 hx rfl rfl rfl (pc0 := 35) (pc' := 42) (same := false) rfl (hb hby d8_35) rfl (decide_eq_false fun q => ha35_183 (Value.ref.inj q)) (by decide) (by decide) k) ?_
      show own_Fin p e below s _ _ _ T182 (mkF m 42 #[.val (.ref r1), .val (.ref r2)] [])
      refine own_by (fun _ k => XS.iconst X182.here hx rfl (hb hby d8_42) k) ?_
      show own_Fin p e below s _ _ _ T182 (mkF m 43 #[.val (.ref r1), .val (.ref r2)] [(.int (0 : Int32))])
      exact own_retZ X182 hx hlk (t := .boolean) hret (by simp) (hb hby d8_43) ⟨own_vi ((if_neg hc21_179).trans (if_neg ha35_183)).symm, N178, e182⟩ (by decide) (by decide)
theorem own_pd305 : parseMethodDescriptor "(I)Lcom/example/hinta/hinta/lts/Kind;" = some ⟨[.int], some (.object "com/example/hinta/hinta/lts/Kind")⟩ := by decide +kernel
theorem own_pd306 : parseMethodDescriptor "(ICC)Ljava/lang/String;" = some ⟨[.int, .char, .char], some (.object "java/lang/String")⟩ := by decide +kernel
theorem own_pd307 : parseMethodDescriptor "(Ljava/lang/String;Lcom/example/hinta/hinta/lts/Kind;)V" = some ⟨[(.object "java/lang/String"), (.object "com/example/hinta/hinta/lts/Kind")], none⟩ := by decide +kernel
theorem own_pd308 : parseMethodDescriptor "(ICCICC)Z" = some ⟨[.int, .char, .char, .int, .char, .char], some .boolean⟩ := by decide +kernel
theorem ef_rm0 (m : MethodId) (x0 : Int32) (x1 : Int32) (x2 : Int32) (x3 : Int32) : entryFrame m #[(.int x0), (.int x1), (.int x2), (.int x3)] maxLocals = mkF m 0 #[.val (.int x0), .val (.int x1), .val (.int x2), .val (.int x3), .unset, .unset, .unset, .unset, .unset, .unset, .unset, .unset, .unset, .unset, .unset, .unset, .unset, .unset, .unset, .unset] [] := by first | (simp [entryFrame, mkF, argsToLocals, Value.category, maxLocals]; done) | rfl
def own_Q0 (n0 : Nat) (v : Option Value) (h : Heap) (L : List Loc) : Prop := v = some (.int (1 : Int32)) ∧ Fr n0 L
set_option maxRecDepth 65536 in
set_option maxHeartbeats 40000000 in
theorem rm0 (l : Launch) (Z : State) (a0 : Array Value) (hw : ∀ d ∈ tables_1, d.before a0 Z = true) (ws : List Jvm.Cond) (p1 p2 p3 p4 cs : Int32) (k0 k1 k2 k3 k4 k5 k6 k7 k8 : Addr) (h0 : Heap) (n0 : Nat) (Z0 : n0 ≤ h0.size) (S_SEND : Sta Z Z.heap "com/example/hinta/hinta/lts/Kind" "SEND" "Lcom/example/hinta/hinta/lts/Kind;" (.ref k0)) (S_RECEIVE : Sta Z Z.heap "com/example/hinta/hinta/lts/Kind" "RECEIVE" "Lcom/example/hinta/hinta/lts/Kind;" (.ref k1)) (S_STORE : Sta Z Z.heap "com/example/hinta/hinta/lts/Kind" "STORE" "Lcom/example/hinta/hinta/lts/Kind;" (.ref k2)) (S_DECRYPT : Sta Z Z.heap "com/example/hinta/hinta/lts/Kind" "DECRYPT" "Lcom/example/hinta/hinta/lts/Kind;" (.ref k3)) (S_TEST : Sta Z Z.heap "com/example/hinta/hinta/lts/Kind" "TEST" "Lcom/example/hinta/hinta/lts/Kind;" (.ref k4)) (S_TRIGGER : Sta Z Z.heap "com/example/hinta/hinta/lts/Kind" "TRIGGER" "Lcom/example/hinta/hinta/lts/Kind;" (.ref k5)) (S_ACT : Sta Z Z.heap "com/example/hinta/hinta/lts/Kind" "ACT" "Lcom/example/hinta/hinta/lts/Kind;" (.ref k6)) (S_SENSE : Sta Z Z.heap "com/example/hinta/hinta/lts/Kind" "SENSE" "Lcom/example/hinta/hinta/lts/Kind;" (.ref k7)) (S_INTERNAL : Sta Z Z.heap "com/example/hinta/hinta/lts/Kind" "INTERNAL" "Lcom/example/hinta/hinta/lts/Kind;" (.ref k8)) (S_cs : Sta Z Z.heap "java/lang/String" "COMPACT_STRINGS" "Z" (.int cs)) (hcs : ¬ cs = (0 : Int32)) (Od : Old Z n0 h0) :
    MetFree l x (head1 (Jvm.Cond.code x code maxLocals ret :: ws) room_1) (fun a U => a = #[(.int p1), (.int p2), (.int p3), (.int p4)] ∧ Z.Warmed39 U.vm ∧ U.heap = h0 ∧ CHv Z consts_1 U.vm h0) (fun _ _ _ _ _ => True) (fun _ U o U' => ∃ v L, o = .returned v ∧ own_Q0 n0 v U'.heap L ∧ CHr Z consts_1 U.vm U.heap U'.vm U'.heap ∧ ReturnedEndW U o U' L room_1.cells room_1.slots) := by
  refine MetFree.of_bodySF (plainFor_of_name own_pn1) hisR ?_
  intro p e s m args below meth c s₁ Bd hml0 hP hK
  obtain ⟨rfl, hZ, hh, hCH0⟩ := hP
  have hx := Bd.exec
  have hby := Bd.bytes
  have hlk := Bd.notSynchronized
  have hml : c.maxLocals = 20 := hml0
  have hown : s.vm.findClass "com/example/hinta/hinta/ctmc/RewardEqualsPinLaw" = some m.cls := findClass_of_methodNamed Bd.named
  have hnm := (name_of_methodNamed Bd.named Bd.method).1
  have X0 : Stand p l e room_1 (s.setVm s.vm) m #[(.int p1), (.int p2), (.int p3), (.int p4)] below meth c s₁ [] 0 0 := Stand.of_body Bd
  have e0 : s₁.heap = h0 := by rw [← hh, Bd.state]; rfl
  have N0 := Fr.nil n0
  refine own_startH (Q := own_Q0 n0) (C := room_1.cells) (N := room_1.slots) hh (ef_rm0 m p1 p2 p3 p4 ) ?_
  have hS0 : s.Since s.vm h0.size := (State.WarmedH.refl s).since _
  have hk0 : h0.size ≤ h0.size := Nat.le_refl _
  replace hown : (s.setVm s.vm).vm.findClass "com/example/hinta/hinta/ctmc/RewardEqualsPinLaw" = some m.cls := hown
  replace hZ : Z.Warmed39 (s.setVm s.vm).vm := hZ
  have CH0 : CHr Z consts_1 s.vm h0 s.vm h0 := CHr.refl hCH0
  show own_FinH p e below s Z consts_1 h0 _ _ _ s₁ (mkF m 0 #[.val (.int p1), .val (.int p2), .val (.int p3), .val (.int p4), .unset, .unset, .unset, .unset, .unset, .unset, .unset, .unset, .unset, .unset, .unset, .unset, .unset, .unset, .unset, .unset] [])
  refine own_byH (fun _ k => XS.iloadN X0.here hx rfl (hb hby at_0) rfl (XS.iconst X0.here hx rfl (hb hby at_1) (XS.iand X0.here hx rfl (hb hby at_2) rfl (XS.iconst X0.here hx rfl (hb hby at_3) (iremM X0 hx rfl (hb hby at_4) rfl (by decide) k))))) ?_
  show own_FinH p e below s Z consts_1 h0 _ _ _ s₁ (mkF m 5 #[.val (.int p1), .val (.int p2), .val (.int p3), .val (.int p4), .unset, .unset, .unset, .unset, .unset, .unset, .unset, .unset, .unset, .unset, .unset, .unset, .unset, .unset, .unset, .unset] [(.int ((p1 &&& (3 : Int32)) % (3 : Int32)))])
  obtain ⟨n1, en1, hn1⟩ : ∃ z : Int32, ((p1 &&& (3 : Int32)) % (3 : Int32)) = z ∧ own_n3 z := ⟨_, rfl, own_rem3 p1⟩
  rw [en1]
  show own_FinH p e below s Z consts_1 h0 _ _ _ s₁ (mkF m 5 #[.val (.int p1), .val (.int p2), .val (.int p3), .val (.int p4), .unset, .unset, .unset, .unset, .unset, .unset, .unset, .unset, .unset, .unset, .unset, .unset, .unset, .unset, .unset, .unset] [(.int n1)])
  refine own_byH (fun _ k => XS.istore X0.here hx rfl (hb hby at_5) rfl (l' := #[.val (.int p1), .val (.int p2), .val (.int p3), .val (.int p4), .val (.int n1), .unset, .unset, .unset, .unset, .unset, .unset, .unset, .unset, .unset, .unset, .unset, .unset, .unset, .unset, .unset]) rfl (XS.iloadN X0.here hx rfl (hb hby at_7) rfl (XS.iconst X0.here hx rfl (hb hby at_8) (XS.iushr X0.here hx rfl (hb hby at_9) rfl (XS.sipush X0.here hx rfl (hb hby at_10) (XS.iand X0.here hx rfl (hb hby at_13) rfl (XS.i2c X0.here hx rfl (hb hby at_14) rfl k))))))) ?_
  show own_FinH p e below s Z consts_1 h0 _ _ _ s₁ (mkF m 15 #[.val (.int p1), .val (.int p2), .val (.int p3), .val (.int p4), .val (.int n1), .unset, .unset, .unset, .unset, .unset, .unset, .unset, .unset, .unset, .unset, .unset, .unset, .unset, .unset, .unset] [(.int ((((p1.toUInt32 >>> ((2 : Int32) &&& 31).toUInt32).toInt32) &&& (255 : Int32)).toUInt32.toUInt16.toUInt32.toInt32))])
  obtain ⟨c0, ec0, hc0⟩ : ∃ z : Int32, ((((p1.toUInt32 >>> ((2 : Int32) &&& 31).toUInt32).toInt32) &&& (255 : Int32)).toUInt32.toUInt16.toUInt32.toInt32) = z ∧ own_chr z := ⟨_, rfl, own_isch _⟩
  rw [ec0]
  show own_FinH p e below s Z consts_1 h0 _ _ _ s₁ (mkF m 15 #[.val (.int p1), .val (.int p2), .val (.int p3), .val (.int p4), .val (.int n1), .unset, .unset, .unset, .unset, .unset, .unset, .unset, .unset, .unset, .unset, .unset, .unset, .unset, .unset, .unset] [(.int c0)])
  refine own_byH (fun _ k => XS.istore X0.here hx rfl (hb hby at_15) rfl (l' := #[.val (.int p1), .val (.int p2), .val (.int p3), .val (.int p4), .val (.int n1), .val (.int c0), .unset, .unset, .unset, .unset, .unset, .unset, .unset, .unset, .unset, .unset, .unset, .unset, .unset, .unset]) rfl (XS.iloadN X0.here hx rfl (hb hby at_17) rfl (XS.bipush X0.here hx rfl (hb hby at_18) (XS.iushr X0.here hx rfl (hb hby at_20) rfl (XS.sipush X0.here hx rfl (hb hby at_21) (XS.iand X0.here hx rfl (hb hby at_24) rfl (XS.i2c X0.here hx rfl (hb hby at_25) rfl k))))))) ?_
  show own_FinH p e below s Z consts_1 h0 _ _ _ s₁ (mkF m 26 #[.val (.int p1), .val (.int p2), .val (.int p3), .val (.int p4), .val (.int n1), .val (.int c0), .unset, .unset, .unset, .unset, .unset, .unset, .unset, .unset, .unset, .unset, .unset, .unset, .unset, .unset] [(.int ((((p1.toUInt32 >>> ((10 : Int32) &&& 31).toUInt32).toInt32) &&& (255 : Int32)).toUInt32.toUInt16.toUInt32.toInt32))])
  obtain ⟨c1, ec1, hc1⟩ : ∃ z : Int32, ((((p1.toUInt32 >>> ((10 : Int32) &&& 31).toUInt32).toInt32) &&& (255 : Int32)).toUInt32.toUInt16.toUInt32.toInt32) = z ∧ own_chr z := ⟨_, rfl, own_isch _⟩
  rw [ec1]
  show own_FinH p e below s Z consts_1 h0 _ _ _ s₁ (mkF m 26 #[.val (.int p1), .val (.int p2), .val (.int p3), .val (.int p4), .val (.int n1), .val (.int c0), .unset, .unset, .unset, .unset, .unset, .unset, .unset, .unset, .unset, .unset, .unset, .unset, .unset, .unset] [(.int c1)])
  refine own_byH (fun _ k => XS.istore X0.here hx rfl (hb hby at_26) rfl (l' := #[.val (.int p1), .val (.int p2), .val (.int p3), .val (.int p4), .val (.int n1), .val (.int c0), .val (.int c1), .unset, .unset, .unset, .unset, .unset, .unset, .unset, .unset, .unset, .unset, .unset, .unset, .unset]) rfl k) ?_
  show own_FinH p e below s Z consts_1 h0 _ _ _ s₁ (mkF m 28 #[.val (.int p1), .val (.int p2), .val (.int p3), .val (.int p4), .val (.int n1), .val (.int c0), .val (.int c1), .unset, .unset, .unset, .unset, .unset, .unset, .unset, .unset, .unset, .unset, .unset, .unset, .unset] [])
  have J77_184 : ∀ (m2 : Int32) (d0 : Int32) (d1 : Int32) (hm2 : own_n3 m2) (hd0 : own_chr d0) (hd1 : own_chr d1), own_FinH p e below s Z consts_1 h0 room_1.cells room_1.slots (own_Q0 n0) s₁ (mkF m 77 #[.val (.int p1), .val (.int p2), .val (.int p3), .val (.int p4), .val (.int n1), .val (.int c0), .val (.int c1), .val (.int m2), .val (.int d0), .val (.int d1), .unset, .unset, .unset, .unset, .unset, .unset, .unset, .unset, .unset, .unset] []) := by
    intro m2 d0 d1 hm2 hd0 hd1
    show own_FinH p e below s Z consts_1 h0 _ _ _ s₁ (mkF m 77 #[.val (.int p1), .val (.int p2), .val (.int p3), .val (.int p4), .val (.int n1), .val (.int c0), .val (.int c1), .val (.int m2), .val (.int d0), .val (.int d1), .unset, .unset, .unset, .unset, .unset, .unset, .unset, .unset, .unset, .unset] [])
    refine own_byH (fun _ k => XS.iloadN X0.here hx rfl (hb hby at_77) rfl (XS.bipush X0.here hx rfl (hb hby at_78) (XS.iand X0.here hx rfl (hb hby at_80) rfl (XS.bipush X0.here hx rfl (hb hby at_81) (iremM X0 hx rfl (hb hby at_83) rfl (by decide) k))))) ?_
    show own_FinH p e below s Z consts_1 h0 _ _ _ s₁ (mkF m 84 #[.val (.int p1), .val (.int p2), .val (.int p3), .val (.int p4), .val (.int n1), .val (.int c0), .val (.int c1), .val (.int m2), .val (.int d0), .val (.int d1), .unset, .unset, .unset, .unset, .unset, .unset, .unset, .unset, .unset, .unset] [(.int ((p3 &&& (15 : Int32)) % (9 : Int32)))])
    obtain ⟨_, _, ⟨T185, L185, k185, n185⟩, -, X185, ⟨Lc185, hQ185, l185, y185, z185⟩, st185⟩ := Jvm.LawKit.callS X0 hx (y := (⟨"com/example/hinta/hinta/ctmc/RewardEqualsPinLaw", "kindOf", "(I)Lcom/example/hinta/hinta/lts/Kind;"⟩ : MethodName)) hown (mvT hZ (hw _ (List.mem_of_getElem? (i := 0) rfl))) (mvT hZ (hw _ (List.mem_of_getElem? (i := 1) rfl))) (mvT hZ (hw _ (List.mem_of_getElem? (i := 2) rfl))) (mvT hZ (hw _ (List.mem_of_getElem? (i := 3) rfl))) (by decide) (backOf (W := 0) (rmK l Z a0 hw [] ((p3 &&& (15 : Int32)) % (9 : Int32)) k0 k1 k2 k3 k4 k5 k6 k7 k8 h0 n0 Z0 (S_SEND.ext Od.2) (S_RECEIVE.ext Od.2) (S_STORE.ext Od.2) (S_DECRYPT.ext Od.2) (S_TEST.ext Od.2) (S_TRIGGER.ext Od.2) (S_ACT.ext Od.2) (S_SENSE.ext Od.2) (S_INTERNAL.ext Od.2)) hZ (hw _ (List.mem_of_getElem? (i := 3) rfl)) (hw _ (List.mem_of_getElem? (i := 2) rfl)) (by decide) (by decide)) (g := (mkF m 84 #[.val (.int p1), .val (.int p2), .val (.int p3), .val (.int p4), .val (.int n1), .val (.int c0), .val (.int c1), .val (.int m2), .val (.int d0), .val (.int d1), .unset, .unset, .unset, .unset, .unset, .unset, .unset, .unset, .unset, .unset] [(.int ((p3 &&& (15 : Int32)) % (9 : Int32)))])) rfl (by rw [hml]; rfl) (argsL := [(.int ((p3 &&& (15 : Int32)) % (9 : Int32)))]) (rest := []) (lenOf own_pd305 rfl) rfl (by show 2 * 0 + _ ≤ _; exact Nat.le_of_eq rfl) (hb hby at_84) (fun _ _ => ⟨rfl, e0, (by decide : 0 + 0 ≤ _), (by decide : 0 + 0 ≤ _)⟩)
    dsimp only [Pt.U, Pt.locs, Pt.cells, Pt.slots] at X185 l185 y185 z185 st185 hQ185
    subst l185 y185 z185
    obtain ⟨t185, rfl, Nq185, eh185⟩ := hQ185
    have N185 := Fr.app N0 Nq185
    refine own_byH (fun _ k => st185 _ k) ?_
    show own_FinH p e below s Z consts_1 h0 _ _ _ T185 (mkF m 87 #[.val (.int p1), .val (.int p2), .val (.int p3), .val (.int p4), .val (.int n1), .val (.int c0), .val (.int c1), .val (.int m2), .val (.int d0), .val (.int d1), .unset, .unset, .unset, .unset, .unset, .unset, .unset, .unset, .unset, .unset] [(.ref t185)])
    refine own_byH (fun _ k => XS.astore X185.here hx rfl (hb hby at_87) rfl rfl (l' := #[.val (.int p1), .val (.int p2), .val (.int p3), .val (.int p4), .val (.int n1), .val (.int c0), .val (.int c1), .val (.int m2), .val (.int d0), .val (.int d1), .val (.ref t185), .unset, .unset, .unset, .unset, .unset, .unset, .unset, .unset, .unset]) rfl (XS.iloadN X185.here hx rfl (hb hby at_89) rfl (XS.iconst X185.here hx rfl (hb hby at_90) (XS.iushr X185.here hx rfl (hb hby at_91) rfl (XS.bipush X185.here hx rfl (hb hby at_92) (XS.iand X185.here hx rfl (hb hby at_94) rfl (XS.bipush X185.here hx rfl (hb hby at_95) (iremM X185 hx rfl (hb hby at_97) rfl (by decide) k)))))))) ?_
    show own_FinH p e below s Z consts_1 h0 _ _ _ T185 (mkF m 98 #[.val (.int p1), .val (.int p2), .val (.int p3), .val (.int p4), .val (.int n1), .val (.int c0), .val (.int c1), .val (.int m2), .val (.int d0), .val (.int d1), .val (.ref t185), .unset, .unset, .unset, .unset, .unset, .unset, .unset, .unset, .unset] [(.int ((((p3.toUInt32 >>> ((4 : Int32) &&& 31).toUInt32).toInt32) &&& (15 : Int32)) % (9 : Int32)))])
    obtain ⟨_, _, ⟨T186, L186, k186, n186⟩, -, X186, ⟨Lc186, hQ186, l186, y186, z186⟩, st186⟩ := Jvm.LawKit.callS X185 hx (y := (⟨"com/example/hinta/hinta/ctmc/RewardEqualsPinLaw", "kindOf", "(I)Lcom/example/hinta/hinta/lts/Kind;"⟩ : MethodName)) hown (mvT hZ (hw _ (List.mem_of_getElem? (i := 0) rfl))) (mvT hZ (hw _ (List.mem_of_getElem? (i := 1) rfl))) (mvT hZ (hw _ (List.mem_of_getElem? (i := 2) rfl))) (mvT hZ (hw _ (List.mem_of_getElem? (i := 3) rfl))) (by decide) (backOf (W := 0) (rmK l Z a0 hw [] ((((p3.toUInt32 >>> ((4 : Int32) &&& 31).toUInt32).toInt32) &&& (15 : Int32)) % (9 : Int32)) k0 k1 k2 k3 k4 k5 k6 k7 k8 h0 n0 Z0 (S_SEND.ext Od.2) (S_RECEIVE.ext Od.2) (S_STORE.ext Od.2) (S_DECRYPT.ext Od.2) (S_TEST.ext Od.2) (S_TRIGGER.ext Od.2) (S_ACT.ext Od.2) (S_SENSE.ext Od.2) (S_INTERNAL.ext Od.2)) hZ (hw _ (List.mem_of_getElem? (i := 3) rfl)) (hw _ (List.mem_of_getElem? (i := 2) rfl)) (by decide) (by decide)) (g := (mkF m 98 #[.val (.int p1), .val (.int p2), .val (.int p3), .val (.int p4), .val (.int n1), .val (.int c0), .val (.int c1), .val (.int m2), .val (.int d0), .val (.int d1), .val (.ref t185), .unset, .unset, .unset, .unset, .unset, .unset, .unset, .unset, .unset] [(.int ((((p3.toUInt32 >>> ((4 : Int32) &&& 31).toUInt32).toInt32) &&& (15 : Int32)) % (9 : Int32)))])) rfl (by rw [hml]; rfl) (argsL := [(.int ((((p3.toUInt32 >>> ((4 : Int32) &&& 31).toUInt32).toInt32) &&& (15 : Int32)) % (9 : Int32)))]) (rest := []) (lenOf own_pd305 rfl) rfl (by show 2 * 0 + _ ≤ _; exact Nat.le_of_eq rfl) (hb hby at_98) (fun _ _ => ⟨rfl, eh185, (by decide : 0 + 0 ≤ _), (by decide : 0 + 0 ≤ _)⟩)
    dsimp only [Pt.U, Pt.locs, Pt.cells, Pt.slots] at X186 l186 y186 z186 st186 hQ186
    subst l186 y186 z186
    obtain ⟨t186, rfl, Nq186, eh186⟩ := hQ186
    have N186 := Fr.app N185 Nq186
    refine own_byH (fun _ k => st186 _ k) ?_
    show own_FinH p e below s Z consts_1 h0 _ _ _ T186 (mkF m 101 #[.val (.int p1), .val (.int p2), .val (.int p3), .val (.int p4), .val (.int n1), .val (.int c0), .val (.int c1), .val (.int m2), .val (.int d0), .val (.int d1), .val (.ref t185), .unset, .unset, .unset, .unset, .unset, .unset, .unset, .unset, .unset] [(.ref t186)])
    refine own_byH (fun _ k => XS.astore X186.here hx rfl (hb hby at_101) rfl rfl (l' := #[.val (.int p1), .val (.int p2), .val (.int p3), .val (.int p4), .val (.int n1), .val (.int c0), .val (.int c1), .val (.int m2), .val (.int d0), .val (.int d1), .val (.ref t185), .val (.ref t186), .unset, .unset, .unset, .unset, .unset, .unset, .unset, .unset]) rfl (XS.iload X186.here hx rfl (hb hby at_103) rfl (XS.iload X186.here hx rfl (hb hby at_105) rfl (XS.iload X186.here hx rfl (hb hby at_107) rfl k)))) ?_
    show own_FinH p e below s Z consts_1 h0 _ _ _ T186 (mkF m 109 #[.val (.int p1), .val (.int p2), .val (.int p3), .val (.int p4), .val (.int n1), .val (.int c0), .val (.int c1), .val (.int m2), .val (.int d0), .val (.int d1), .val (.ref t185), .val (.ref t186), .unset, .unset, .unset, .unset, .unset, .unset, .unset, .unset] [(.int c1), (.int c0), (.int n1)])
    obtain ⟨_, _, ⟨T187, L187, k187, n187⟩, -, X187, hSn187, hgr187, ⟨Lc187, hQ187, l187, y187, z187, hCr187⟩, st187⟩ := callSS X186 hx (y := (⟨"com/example/hinta/hinta/ctmc/RewardEqualsPinLaw", "text", "(ICC)Ljava/lang/String;"⟩ : MethodName)) hown (mvT hZ (hw _ (List.mem_of_getElem? (i := 9) rfl))) (mvT hZ (hw _ (List.mem_of_getElem? (i := 10) rfl))) (mvT hZ (hw _ (List.mem_of_getElem? (i := 2) rfl))) (mvT hZ (hw _ (List.mem_of_getElem? (i := 11) rfl))) (by decide) (backOfSH (W := 0) (s := s) (vm0 := s.vm) (rmTx l Z a0 hw [] n1 c0 c1 cs h0 n0 Z0 hn1 hc0 hc1 S_cs hcs Od) hZ (hw _ (List.mem_of_getElem? (i := 11) rfl)) (hw _ (List.mem_of_getElem? (i := 2) rfl)) (by decide) (by decide) (own_EW hw) CH0.1) (g := (mkF m 109 #[.val (.int p1), .val (.int p2), .val (.int p3), .val (.int p4), .val (.int n1), .val (.int c0), .val (.int c1), .val (.int m2), .val (.int d0), .val (.int d1), .val (.ref t185), .val (.ref t186), .unset, .unset, .unset, .unset, .unset, .unset, .unset, .unset] [(.int c1), (.int c0), (.int n1)])) rfl (by rw [hml]; rfl) (argsL := [(.int n1), (.int c0), (.int c1)]) (rest := []) (lenOf own_pd306 rfl) rfl (by show 2 * 0 + _ ≤ _; exact Nat.le_of_eq rfl) (hb hby at_109) (fun _ _ => ⟨rfl, eh186, (by decide : 0 + 6 ≤ _), (by decide : 0 + 12 ≤ _)⟩)
    dsimp only [Pt.U, Pt.locs, Pt.cells, Pt.slots] at X187 l187 y187 z187 st187 hQ187 hSn187 hgr187
    subst l187 y187 z187
    obtain ⟨a187, b187, kb187, z187, rfl, Nq187, K187, ge187, Ea187, Fc187, Fv187, V187, hz187⟩ := hQ187
    have N187 := Fr.app N186 Nq187
    have hS187 : s.Since T187.vm T187.heap.size := foldS (s := s) hS0 (by rw [eh186]; exact hk0) hSn187 hgr187
    have hZ187 : Z.Warmed39 (s.setVm T187.vm).vm := State.Warmed39.trans (t := s.setVm s.vm) hZ hSn187.1
    have hown187 : (s.setVm T187.vm).vm.findClass "com/example/hinta/hinta/ctmc/RewardEqualsPinLaw" = some m.cls := by rw [show (s.setVm T187.vm).vm = T187.vm from rfl, hSn187.1.alike.findClass]; exact hown
    replace hCr187 : CHr Z consts_1 s.vm h0 T187.vm T187.heap := hCr187
    have CHs188 : CHr Z consts_1 s.vm h0 T187.vm T187.heap := CH0.trans (hCr187)
    replace hZ := hZ187
    replace hown := hown187
    replace X187 : Stand p l e room_1 (s.setVm T187.vm) m #[(.int p1), (.int p2), (.int p3), (.int p4)] below meth c T187 _ _ _ := X187
    have hkE187 : T187.heap.size ≤ T187.heap.size := Nat.le_refl _
    refine own_byH (fun _ k => st187.trans k) ?_
    have Zs187 : n0 ≤ T187.heap.size := Nat.le_trans Z0 K187.1
    have f189_0 : Old Z n0 T187.heap := Od.keep K187 all0
    show own_FinH p e below s Z consts_1 h0 _ _ _ T187 (mkF m 112 #[.val (.int p1), .val (.int p2), .val (.int p3), .val (.int p4), .val (.int n1), .val (.int c0), .val (.int c1), .val (.int m2), .val (.int d0), .val (.int d1), .val (.ref t185), .val (.ref t186), .unset, .unset, .unset, .unset, .unset, .unset, .unset, .unset] [(.ref a187)])
    refine own_byH (fun _ k => XS.astore X187.here hx rfl (hb hby at_112) rfl rfl (l' := #[.val (.int p1), .val (.int p2), .val (.int p3), .val (.int p4), .val (.int n1), .val (.int c0), .val (.int c1), .val (.int m2), .val (.int d0), .val (.int d1), .val (.ref t185), .val (.ref t186), .val (.ref a187), .unset, .unset, .unset, .unset, .unset, .unset, .unset]) rfl (XS.iload X187.here hx rfl (hb hby at_114) rfl (XS.iload X187.here hx rfl (hb hby at_116) rfl (XS.iload X187.here hx rfl (hb hby at_118) rfl k)))) ?_
    show own_FinH p e below s Z consts_1 h0 _ _ _ T187 (mkF m 120 #[.val (.int p1), .val (.int p2), .val (.int p3), .val (.int p4), .val (.int n1), .val (.int c0), .val (.int c1), .val (.int m2), .val (.int d0), .val (.int d1), .val (.ref t185), .val (.ref t186), .val (.ref a187), .unset, .unset, .unset, .unset, .unset, .unset, .unset] [(.int d1), (.int d0), (.int m2)])
    obtain ⟨_, _, ⟨T190, L190, k190, n190⟩, -, X190, hSn190, hgr190, ⟨Lc190, hQ190, l190, y190, z190, hCr190⟩, st190⟩ := callSS X187 hx (y := (⟨"com/example/hinta/hinta/ctmc/RewardEqualsPinLaw", "text", "(ICC)Ljava/lang/String;"⟩ : MethodName)) hown (mvT hZ (hw _ (List.mem_of_getElem? (i := 9) rfl))) (mvT hZ (hw _ (List.mem_of_getElem? (i := 10) rfl))) (mvT hZ (hw _ (List.mem_of_getElem? (i := 2) rfl))) (mvT hZ (hw _ (List.mem_of_getElem? (i := 11) rfl))) (by decide) (backOfSH (W := 0) (s := s) (vm0 := T187.vm) (rmTx l Z a0 hw [] m2 d0 d1 cs T187.heap n0 Zs187 hm2 hd0 hd1 S_cs hcs f189_0) hZ (hw _ (List.mem_of_getElem? (i := 11) rfl)) (hw _ (List.mem_of_getElem? (i := 2) rfl)) (by decide) (by decide) (own_EW hw) CHs188.1) (g := (mkF m 120 #[.val (.int p1), .val (.int p2), .val (.int p3), .val (.int p4), .val (.int n1), .val (.int c0), .val (.int c1), .val (.int m2), .val (.int d0), .val (.int d1), .val (.ref t185), .val (.ref t186), .val (.ref a187), .unset, .unset, .unset, .unset, .unset, .unset, .unset] [(.int d1), (.int d0), (.int m2)])) rfl (by rw [hml]; rfl) (argsL := [(.int m2), (.int d0), (.int d1)]) (rest := []) (lenOf own_pd306 rfl) rfl (by show 2 * 0 + _ ≤ _; exact Nat.le_of_eq rfl) (hb hby at_120) (fun _ _ => ⟨rfl, rfl, (by decide : 6 + 6 ≤ _), (by decide : 12 + 12 ≤ _)⟩)
    dsimp only [Pt.U, Pt.locs, Pt.cells, Pt.slots] at X190 l190 y190 z190 st190 hQ190 hSn190 hgr190
    subst l190 y190 z190
    obtain ⟨a190, b190, kb190, z190, rfl, Nq190, K190, ge190, Ea190, Fc190, Fv190, V190, hz190⟩ := hQ190
    have N190 := Fr.app N187 Nq190
    have hS190 : s.Since T190.vm T190.heap.size := foldS (s := s) hS187 hkE187 hSn190 hgr190
    have hZ190 : Z.Warmed39 (s.setVm T190.vm).vm := State.Warmed39.trans (t := s.setVm T187.vm) hZ hSn190.1
    have hown190 : (s.setVm T190.vm).vm.findClass "com/example/hinta/hinta/ctmc/RewardEqualsPinLaw" = some m.cls := by rw [show (s.setVm T190.vm).vm = T190.vm from rfl, hSn190.1.alike.findClass]; exact hown
    replace hCr190 : CHr Z consts_1 T187.vm T187.heap T190.vm T190.heap := hCr190
    have CHs191 : CHr Z consts_1 s.vm h0 T190.vm T190.heap := CHs188.trans (hCr190)
    replace hZ := hZ190
    replace hown := hown190
    replace X190 : Stand p l e room_1 (s.setVm T190.vm) m #[(.int p1), (.int p2), (.int p3), (.int p4)] below meth c T190 _ _ _ := X190
    have hkE190 : T190.heap.size ≤ T190.heap.size := Nat.le_refl _
    refine own_byH (fun _ k => st190.trans k) ?_
    have Zs190 : n0 ≤ T190.heap.size := Nat.le_trans Zs187 K190.1
    have f192_0 : Old Z n0 T190.heap := f189_0.keep K190 all0
    have f192_1 : Exa Z T190.heap a187 "java/lang/String" := Ea187.keep K190
    have f192_2 : Fld Z T190.heap a187 "java/lang/String" "coder" "B" (.int (0 : Int32)) := Fc187.keep K190 nin0
    have f192_3 : Fld Z T190.heap a187 "java/lang/String" "value" "[B" (.ref b187) := Fv187.keep K190 nin0
    have f192_4 : Arv Z T190.heap b187 kb187 .byte z187 ((own_lst n1 c0 c1).map Value.int) (.int (0 : Int32)) := V187.keep K190 nin0
    have ne190_a187 : a187 ≠ a190 := Nat.ne_of_lt (Nat.lt_of_lt_of_le Ea187.lt ge190)
    have ne190_b187 : b187 ≠ a190 := Nat.ne_of_lt (Nat.lt_of_lt_of_le V187.lt ge190)
    show own_FinH p e below s Z consts_1 h0 _ _ _ T190 (mkF m 123 #[.val (.int p1), .val (.int p2), .val (.int p3), .val (.int p4), .val (.int n1), .val (.int c0), .val (.int c1), .val (.int m2), .val (.int d0), .val (.int d1), .val (.ref t185), .val (.ref t186), .val (.ref a187), .unset, .unset, .unset, .unset, .unset, .unset, .unset] [(.ref a190)])
    refine own_byH (fun _ k => XS.astore X190.here hx rfl (hb hby at_123) rfl rfl (l' := #[.val (.int p1), .val (.int p2), .val (.int p3), .val (.int p4), .val (.int n1), .val (.int c0), .val (.int c1), .val (.int m2), .val (.int d0), .val (.int d1), .val (.ref t185), .val (.ref t186), .val (.ref a187), .val (.ref a190), .unset, .unset, .unset, .unset, .unset, .unset]) rfl k) ?_
    show own_FinH p e below s Z consts_1 h0 _ _ _ T190 (mkF m 125 #[.val (.int p1), .val (.int p2), .val (.int p3), .val (.int p4), .val (.int n1), .val (.int c0), .val (.int c1), .val (.int m2), .val (.int d0), .val (.int d1), .val (.ref t185), .val (.ref t186), .val (.ref a187), .val (.ref a190), .unset, .unset, .unset, .unset, .unset, .unset] [])
    obtain ⟨T193, h193, X193, e193, E193, A193, D193, -, st193⟩ := newO X190 hx hZ hown (hw _ (List.mem_of_getElem? (i := 34) rfl)) (hw _ (List.mem_of_getElem? (i := 35) rfl)) (hw _ (List.mem_of_getElem? (i := 36) rfl)) rfl (g := (mkF m 125 #[.val (.int p1), .val (.int p2), .val (.int p3), .val (.int p4), .val (.int n1), .val (.int c0), .val (.int c1), .val (.int m2), .val (.int d0), .val (.int d1), .val (.ref t185), .val (.ref t186), .val (.ref a187), .val (.ref a190), .unset, .unset, .unset, .unset, .unset, .unset] [])) rfl (hb hby at_125) (by decide) (by decide)
    obtain ⟨b193, g193⟩ : ∃ z, z = T190.heap.size := ⟨_, rfl⟩
    rw [← g193] at A193 D193 st193
    refine own_byH (fun _ k => st193 _ k) ?_
    have ne193_a187 : a187 ≠ b193 := Nat.ne_of_lt (Nat.lt_of_lt_of_le f192_1.lt (Nat.le_of_eq g193.symm))
    have ne193_b187 : b187 ≠ b193 := Nat.ne_of_lt (Nat.lt_of_lt_of_le f192_4.lt (Nat.le_of_eq g193.symm))
    have ne193_a190 : a190 ≠ b193 := Nat.ne_of_lt (Nat.lt_of_lt_of_le Ea190.lt (Nat.le_of_eq g193.symm))
    have ne193_b190 : b190 ≠ b193 := Nat.ne_of_lt (Nat.lt_of_lt_of_le V190.lt (Nat.le_of_eq g193.symm))
    have gf193 : n0 ≤ b193 := Nat.le_trans Zs190 (Nat.le_of_eq g193.symm)
    have Zs193 : n0 ≤ h193.size := Nat.le_trans Zs190 E193.1
    have hkE193 : _ ≤ h193.size := Nat.le_trans hkE190 E193.1
    have Sf193 : Safe Z consts_1 T190.vm h193 b193 := Safe.ext E193 CHs191.1 (Safe.new (Nat.le_of_eq g193.symm))
    have CHs194 : CHr Z consts_1 s.vm h0 T190.vm h193 := CHs191.trans (CHr.ext E193 CHs191.1)
    have f195_0 : Old Z n0 h193 := f192_0.ext E193
    have f195_1 : Exa Z h193 a187 "java/lang/String" := f192_1.ext E193
    have f195_2 : Fld Z h193 a187 "java/lang/String" "coder" "B" (.int (0 : Int32)) := f192_2.ext E193
    have f195_3 : Fld Z h193 a187 "java/lang/String" "value" "[B" (.ref b187) := f192_3.ext E193
    have f195_4 : Arv Z h193 b187 kb187 .byte z187 ((own_lst n1 c0 c1).map Value.int) (.int (0 : Int32)) := f192_4.ext E193
    have f195_5 : Exa Z h193 a190 "java/lang/String" := Ea190.ext E193
    have f195_6 : Fld Z h193 a190 "java/lang/String" "coder" "B" (.int (0 : Int32)) := Fc190.ext E193
    have f195_7 : Fld Z h193 a190 "java/lang/String" "value" "[B" (.ref b190) := Fv190.ext E193
    have f195_8 : Arv Z h193 b190 kb190 .byte z190 ((own_lst m2 d0 d1).map Value.int) (.int (0 : Int32)) := V190.ext E193
    have F193_node : Fld Z h193 b193 "com/example/hinta/hinta/ctmc/Reward" "node" "Ljava/lang/String;" .null := D193 (Or.inr (hw _ (List.mem_of_getElem? (i := 42) rfl))) (ty := (.object "java/lang/String")) (by decide)
    have F193_kind : Fld Z h193 b193 "com/example/hinta/hinta/ctmc/Reward" "kind" "Lcom/example/hinta/hinta/lts/Kind;" .null := D193 (Or.inr (hw _ (List.mem_of_getElem? (i := 44) rfl))) (ty := (.object "com/example/hinta/hinta/lts/Kind")) (by decide)
    show own_FinH p e below s Z consts_1 h0 _ _ _ T193 (mkF m 128 #[.val (.int p1), .val (.int p2), .val (.int p3), .val (.int p4), .val (.int n1), .val (.int c0), .val (.int c1), .val (.int m2), .val (.int d0), .val (.int d1), .val (.ref t185), .val (.ref t186), .val (.ref a187), .val (.ref a190), .unset, .unset, .unset, .unset, .unset, .unset] [(.ref b193)])
    refine own_byH (fun _ k => XS.dup X193.here hx rfl (hb hby at_128) rfl rfl (XS.aload X193.here hx rfl (hb hby at_129) rfl rfl (XS.aload X193.here hx rfl (hb hby at_131) rfl rfl k))) ?_
    show own_FinH p e below s Z consts_1 h0 _ _ _ T193 (mkF m 133 #[.val (.int p1), .val (.int p2), .val (.int p3), .val (.int p4), .val (.int n1), .val (.int c0), .val (.int c1), .val (.int m2), .val (.int d0), .val (.int d1), .val (.ref t185), .val (.ref t186), .val (.ref a187), .val (.ref a190), .unset, .unset, .unset, .unset, .unset, .unset] [(.ref t185), (.ref a187), (.ref b193), (.ref b193)])
    obtain ⟨_, _, ⟨T196, L196, k196, n196⟩, -, X196, ⟨Lc196, hQ196, l196, y196, z196⟩, st196⟩ := X193.specialBack hx (y := (⟨"com/example/hinta/hinta/ctmc/Reward", "<init>", "(Ljava/lang/String;Lcom/example/hinta/hinta/lts/Kind;)V"⟩ : MethodName)) rfl hown (mvT hZ (hw _ (List.mem_of_getElem? (i := 37) rfl))) (mvT hZ (hw _ (List.mem_of_getElem? (i := 38) rfl))) (mvT hZ (hw _ (List.mem_of_getElem? (i := 39) rfl))) (by decide) (backOf (W := 1) (rmRi l Z a0 hw [] b193 a187 t185 _ _ h193 n0 Zs193 A193 F193_node F193_kind gf193) hZ (hw _ (List.mem_of_getElem? (i := 39) rfl)) (hw _ (List.mem_of_getElem? (i := 36) rfl)) (by decide) (by decide)) (g := (mkF m 133 #[.val (.int p1), .val (.int p2), .val (.int p3), .val (.int p4), .val (.int n1), .val (.int c0), .val (.int c1), .val (.int m2), .val (.int d0), .val (.int d1), .val (.ref t185), .val (.ref t186), .val (.ref a187), .val (.ref a190), .unset, .unset, .unset, .unset, .unset, .unset] [(.ref t185), (.ref a187), (.ref b193), (.ref b193)])) rfl (by rw [hml]; rfl) (Steps.refl _) (a := b193) (argsL := [(.ref a187), (.ref t185)]) (rest := [(.ref b193)]) (lenOf own_pd307 rfl) rfl (by show 2 * 0 + _ ≤ _; exact Nat.le_of_eq rfl) (hb hby at_133) (fun _ _ => ⟨rfl, e193, (by decide : 13 + 0 ≤ _), (by decide : 26 + 0 ≤ _)⟩)
    dsimp only [Pt.U, Pt.locs, Pt.cells, Pt.slots] at X196 l196 y196 z196 st196 hQ196
    subst l196 y196 z196
    obtain ⟨rfl, Nq196, K196, Gn196, Gk196⟩ := hQ196
    have N196 := Fr.app N190 Nq196
    refine own_byH (fun _ k => st196.trans k) ?_
    have Zs196 : n0 ≤ T196.heap.size := Nat.le_trans Zs193 K196.1
    have sf197_b193 : Safe Z consts_1 T190.vm T196.heap b193 := Safe.keep K196 (sfS Sf193 sf0) CHs194.1 Sf193
    have CHs197 : CHr Z consts_1 s.vm h0 T190.vm T196.heap := CHs194.trans (CHr.keep K196 (sfS Sf193 sf0) CHs194.1)
    have hkE196 : _ ≤ T196.heap.size := Nat.le_trans hkE193 K196.1
    have f198_0 : Old Z n0 T196.heap := f195_0.keep K196 (allS gf193 all0)
    have f198_1 : Exa Z T196.heap a187 "java/lang/String" := f195_1.keep K196
    have f198_2 : Fld Z T196.heap a187 "java/lang/String" "coder" "B" (.int (0 : Int32)) := f195_2.keep K196 (ninS ne193_a187 nin0)
    have f198_3 : Fld Z T196.heap a187 "java/lang/String" "value" "[B" (.ref b187) := f195_3.keep K196 (ninS ne193_a187 nin0)
    have f198_4 : Arv Z T196.heap b187 kb187 .byte z187 ((own_lst n1 c0 c1).map Value.int) (.int (0 : Int32)) := f195_4.keep K196 (ninS ne193_b187 nin0)
    have f198_5 : Exa Z T196.heap a190 "java/lang/String" := f195_5.keep K196
    have f198_6 : Fld Z T196.heap a190 "java/lang/String" "coder" "B" (.int (0 : Int32)) := f195_6.keep K196 (ninS ne193_a190 nin0)
    have f198_7 : Fld Z T196.heap a190 "java/lang/String" "value" "[B" (.ref b190) := f195_7.keep K196 (ninS ne193_a190 nin0)
    have f198_8 : Arv Z T196.heap b190 kb190 .byte z190 ((own_lst m2 d0 d1).map Value.int) (.int (0 : Int32)) := f195_8.keep K196 (ninS ne193_b190 nin0)
    have f198_10 : Exa Z T196.heap b193 "com/example/hinta/hinta/ctmc/Reward" := A193.keep K196
    show own_FinH p e below s Z consts_1 h0 _ _ _ T196 (mkF m 136 #[.val (.int p1), .val (.int p2), .val (.int p3), .val (.int p4), .val (.int n1), .val (.int c0), .val (.int c1), .val (.int m2), .val (.int d0), .val (.int d1), .val (.ref t185), .val (.ref t186), .val (.ref a187), .val (.ref a190), .unset, .unset, .unset, .unset, .unset, .unset] [(.ref b193)])
    refine own_byH (fun _ k => XS.astore X196.here hx rfl (hb hby at_136) rfl rfl (l' := #[.val (.int p1), .val (.int p2), .val (.int p3), .val (.int p4), .val (.int n1), .val (.int c0), .val (.int c1), .val (.int m2), .val (.int d0), .val (.int d1), .val (.ref t185), .val (.ref t186), .val (.ref a187), .val (.ref a190), .val (.ref b193), .unset, .unset, .unset, .unset, .unset]) rfl (XS.iloadN X196.here hx rfl (hb hby at_138) rfl (XS.iconst X196.here hx rfl (hb hby at_139) (XS.iushr X196.here hx rfl (hb hby at_140) rfl (XS.iconst X196.here hx rfl (hb hby at_141) (XS.iand X196.here hx rfl (hb hby at_142) rfl (XS.istore X196.here hx rfl (hb hby at_143) rfl (l' := #[.val (.int p1), .val (.int p2), .val (.int p3), .val (.int p4), .val (.int n1), .val (.int c0), .val (.int c1), .val (.int m2), .val (.int d0), .val (.int d1), .val (.ref t185), .val (.ref t186), .val (.ref a187), .val (.ref a190), .val (.ref b193), .val (.int (((p4.toUInt32 >>> ((1 : Int32) &&& 31).toUInt32).toInt32) &&& (3 : Int32))), .unset, .unset, .unset, .unset]) rfl (XS.iload X196.here hx rfl (hb hby at_145) rfl (XS.iconst X196.here hx rfl (hb hby at_147) k))))))))) ?_
    show own_FinH p e below s Z consts_1 h0 _ _ _ T196 (mkF m 148 #[.val (.int p1), .val (.int p2), .val (.int p3), .val (.int p4), .val (.int n1), .val (.int c0), .val (.int c1), .val (.int m2), .val (.int d0), .val (.int d1), .val (.ref t185), .val (.ref t186), .val (.ref a187), .val (.ref a190), .val (.ref b193), .val (.int (((p4.toUInt32 >>> ((1 : Int32) &&& 31).toUInt32).toInt32) &&& (3 : Int32))), .unset, .unset, .unset, .unset] [(.int (2 : Int32)), (.int (((p4.toUInt32 >>> ((1 : Int32) &&& 31).toUInt32).toInt32) &&& (3 : Int32)))])
    by_cases hc148_199 : (((p4.toUInt32 >>> ((1 : Int32) &&& 31).toUInt32).toInt32) &&& (3 : Int32)) < (2 : Int32)
    · show own_FinH p e below s Z consts_1 h0 _ _ _ T196 (mkF m 148 #[.val (.int p1), .val (.int p2), .val (.int p3), .val (.int p4), .val (.int n1), .val (.int c0), .val (.int c1), .val (.int m2), .val (.int d0), .val (.int d1), .val (.ref t185), .val (.ref t186), .val (.ref a187), .val (.ref a190), .val (.ref b193), .val (.int (((p4.toUInt32 >>> ((1 : Int32) &&& 31).toUInt32).toInt32) &&& (3 : Int32))), .unset, .unset, .unset, .unset] [(.int (2 : Int32)), (.int (((p4.toUInt32 >>> ((1 : Int32) &&& 31).toUInt32).toInt32) &&& (3 : Int32)))])
      refine own_byH (fun _ k => XS.icmpYes X196.here hx rfl (pc0 := 148) (pc' := 190) rfl (hb hby at_148) rfl (tlt hc148_199).1 (by decide) (by decide) k) ?_
      show own_FinH p e below s Z consts_1 h0 _ _ _ T196 (mkF m 190 #[.val (.int p1), .val (.int p2), .val (.int p3), .val (.int p4), .val (.int n1), .val (.int c0), .val (.int c1), .val (.int m2), .val (.int d0), .val (.int d1), .val (.ref t185), .val (.ref t186), .val (.ref a187), .val (.ref a190), .val (.ref b193), .val (.int (((p4.toUInt32 >>> ((1 : Int32) &&& 31).toUInt32).toInt32) &&& (3 : Int32))), .unset, .unset, .unset, .unset] [])
      obtain ⟨T200, h200, X200, e200, E200, A200, D200, -, st200⟩ := newO X196 hx hZ hown (hw _ (List.mem_of_getElem? (i := 34) rfl)) (hw _ (List.mem_of_getElem? (i := 35) rfl)) (hw _ (List.mem_of_getElem? (i := 36) rfl)) rfl (g := (mkF m 190 #[.val (.int p1), .val (.int p2), .val (.int p3), .val (.int p4), .val (.int n1), .val (.int c0), .val (.int c1), .val (.int m2), .val (.int d0), .val (.int d1), .val (.ref t185), .val (.ref t186), .val (.ref a187), .val (.ref a190), .val (.ref b193), .val (.int (((p4.toUInt32 >>> ((1 : Int32) &&& 31).toUInt32).toInt32) &&& (3 : Int32))), .unset, .unset, .unset, .unset] [])) rfl (hb hby at_190) (by decide) (by decide)
      obtain ⟨b200, g200⟩ : ∃ z, z = T196.heap.size := ⟨_, rfl⟩
      rw [← g200] at A200 D200 st200
      refine own_byH (fun _ k => st200 _ k) ?_
      have ne200_a187 : a187 ≠ b200 := Nat.ne_of_lt (Nat.lt_of_lt_of_le f198_1.lt (Nat.le_of_eq g200.symm))
      have ne200_b187 : b187 ≠ b200 := Nat.ne_of_lt (Nat.lt_of_lt_of_le f198_4.lt (Nat.le_of_eq g200.symm))
      have ne200_a190 : a190 ≠ b200 := Nat.ne_of_lt (Nat.lt_of_lt_of_le f198_5.lt (Nat.le_of_eq g200.symm))
      have ne200_b190 : b190 ≠ b200 := Nat.ne_of_lt (Nat.lt_of_lt_of_le f198_8.lt (Nat.le_of_eq g200.symm))
      have ne200_b193 : b193 ≠ b200 := Nat.ne_of_lt (Nat.lt_of_lt_of_le f198_10.lt (Nat.le_of_eq g200.symm))
      have gf200 : n0 ≤ b200 := Nat.le_trans Zs196 (Nat.le_of_eq g200.symm)
      have Zs200 : n0 ≤ h200.size := Nat.le_trans Zs196 E200.1
      have hkE200 : _ ≤ h200.size := Nat.le_trans hkE196 E200.1
      have Sf200 : Safe Z consts_1 T190.vm h200 b200 := Safe.ext E200 CHs197.1 (Safe.new (Nat.le_of_eq g200.symm))
      have sf201_b193 : Safe Z consts_1 T190.vm h200 b193 := Safe.ext E200 CHs197.1 sf197_b193
      have CHs201 : CHr Z consts_1 s.vm h0 T190.vm h200 := CHs197.trans (CHr.ext E200 CHs197.1)
      have f202_0 : Old Z n0 h200 := f198_0.ext E200
      have f202_1 : Exa Z h200 a187 "java/lang/String" := f198_1.ext E200
      have f202_2 : Fld Z h200 a187 "java/lang/String" "coder" "B" (.int (0 : Int32)) := f198_2.ext E200
      have f202_3 : Fld Z h200 a187 "java/lang/String" "value" "[B" (.ref b187) := f198_3.ext E200
      have f202_4 : Arv Z h200 b187 kb187 .byte z187 ((own_lst n1 c0 c1).map Value.int) (.int (0 : Int32)) := f198_4.ext E200
      have f202_5 : Exa Z h200 a190 "java/lang/String" := f198_5.ext E200
      have f202_6 : Fld Z h200 a190 "java/lang/String" "coder" "B" (.int (0 : Int32)) := f198_6.ext E200
      have f202_7 : Fld Z h200 a190 "java/lang/String" "value" "[B" (.ref b190) := f198_7.ext E200
      have f202_8 : Arv Z h200 b190 kb190 .byte z190 ((own_lst m2 d0 d1).map Value.int) (.int (0 : Int32)) := f198_8.ext E200
      have f202_10 : Exa Z h200 b193 "com/example/hinta/hinta/ctmc/Reward" := f198_10.ext E200
      have f202_11 : Fld Z h200 b193 "com/example/hinta/hinta/ctmc/Reward" "node" "Ljava/lang/String;" (.ref a187) := Gn196.ext E200
      have f202_12 : Fld Z h200 b193 "com/example/hinta/hinta/ctmc/Reward" "kind" "Lcom/example/hinta/hinta/lts/Kind;" (.ref t185) := Gk196.ext E200
      have F200_node : Fld Z h200 b200 "com/example/hinta/hinta/ctmc/Reward" "node" "Ljava/lang/String;" .null := D200 (Or.inr (hw _ (List.mem_of_getElem? (i := 42) rfl))) (ty := (.object "java/lang/String")) (by decide)
      have F200_kind : Fld Z h200 b200 "com/example/hinta/hinta/ctmc/Reward" "kind" "Lcom/example/hinta/hinta/lts/Kind;" .null := D200 (Or.inr (hw _ (List.mem_of_getElem? (i := 44) rfl))) (ty := (.object "com/example/hinta/hinta/lts/Kind")) (by decide)
      show own_FinH p e below s Z consts_1 h0 _ _ _ T200 (mkF m 193 #[.val (.int p1), .val (.int p2), .val (.int p3), .val (.int p4), .val (.int n1), .val (.int c0), .val (.int c1), .val (.int m2), .val (.int d0), .val (.int d1), .val (.ref t185), .val (.ref t186), .val (.ref a187), .val (.ref a190), .val (.ref b193), .val (.int (((p4.toUInt32 >>> ((1 : Int32) &&& 31).toUInt32).toInt32) &&& (3 : Int32))), .unset, .unset, .unset, .unset] [(.ref b200)])
      refine own_byH (fun _ k => XS.dup X200.here hx rfl (hb hby at_193) rfl rfl (XS.aload X200.here hx rfl (hb hby at_194) rfl rfl (XS.aload X200.here hx rfl (hb hby at_196) rfl rfl k))) ?_
      show own_FinH p e below s Z consts_1 h0 _ _ _ T200 (mkF m 198 #[.val (.int p1), .val (.int p2), .val (.int p3), .val (.int p4), .val (.int n1), .val (.int c0), .val (.int c1), .val (.int m2), .val (.int d0), .val (.int d1), .val (.ref t185), .val (.ref t186), .val (.ref a187), .val (.ref a190), .val (.ref b193), .val (.int (((p4.toUInt32 >>> ((1 : Int32) &&& 31).toUInt32).toInt32) &&& (3 : Int32))), .unset, .unset, .unset, .unset] [(.ref t186), (.ref a190), (.ref b200), (.ref b200)])
      obtain ⟨_, _, ⟨T203, L203, k203, n203⟩, -, X203, ⟨Lc203, hQ203, l203, y203, z203⟩, st203⟩ := X200.specialBack hx (y := (⟨"com/example/hinta/hinta/ctmc/Reward", "<init>", "(Ljava/lang/String;Lcom/example/hinta/hinta/lts/Kind;)V"⟩ : MethodName)) rfl hown (mvT hZ (hw _ (List.mem_of_getElem? (i := 37) rfl))) (mvT hZ (hw _ (List.mem_of_getElem? (i := 38) rfl))) (mvT hZ (hw _ (List.mem_of_getElem? (i := 39) rfl))) (by decide) (backOf (W := 1) (rmRi l Z a0 hw [] b200 a190 t186 _ _ h200 n0 Zs200 A200 F200_node F200_kind gf200) hZ (hw _ (List.mem_of_getElem? (i := 39) rfl)) (hw _ (List.mem_of_getElem? (i := 36) rfl)) (by decide) (by decide)) (g := (mkF m 198 #[.val (.int p1), .val (.int p2), .val (.int p3), .val (.int p4), .val (.int n1), .val (.int c0), .val (.int c1), .val (.int m2), .val (.int d0), .val (.int d1), .val (.ref t185), .val (.ref t186), .val (.ref a187), .val (.ref a190), .val (.ref b193), .val (.int (((p4.toUInt32 >>> ((1 : Int32) &&& 31).toUInt32).toInt32) &&& (3 : Int32))), .unset, .unset, .unset, .unset] [(.ref t186), (.ref a190), (.ref b200), (.ref b200)])) rfl (by rw [hml]; rfl) (Steps.refl _) (a := b200) (argsL := [(.ref a190), (.ref t186)]) (rest := [(.ref b200)]) (lenOf own_pd307 rfl) rfl (by show 2 * 0 + _ ≤ _; exact Nat.le_of_eq rfl) (hb hby at_198) (fun _ _ => ⟨rfl, e200, (by decide : 14 + 0 ≤ _), (by decide : 28 + 0 ≤ _)⟩)
      dsimp only [Pt.U, Pt.locs, Pt.cells, Pt.slots] at X203 l203 y203 z203 st203 hQ203
      subst l203 y203 z203
      obtain ⟨rfl, Nq203, K203, Gn203, Gk203⟩ := hQ203
      have N203 := Fr.app N196 Nq203
      refine own_byH (fun _ k => st203.trans k) ?_
      have Zs203 : n0 ≤ T203.heap.size := Nat.le_trans Zs200 K203.1
      have sf204_b193 : Safe Z consts_1 T190.vm T203.heap b193 := Safe.keep K203 (sfS Sf200 sf0) CHs201.1 sf201_b193
      have sf204_b200 : Safe Z consts_1 T190.vm T203.heap b200 := Safe.keep K203 (sfS Sf200 sf0) CHs201.1 Sf200
      have CHs204 : CHr Z consts_1 s.vm h0 T190.vm T203.heap := CHs201.trans (CHr.keep K203 (sfS Sf200 sf0) CHs201.1)
      have hkE203 : _ ≤ T203.heap.size := Nat.le_trans hkE200 K203.1
      have f205_0 : Old Z n0 T203.heap := f202_0.keep K203 (allS gf200 all0)
      have f205_1 : Exa Z T203.heap a187 "java/lang/String" := f202_1.keep K203
      have f205_2 : Fld Z T203.heap a187 "java/lang/String" "coder" "B" (.int (0 : Int32)) := f202_2.keep K203 (ninS ne200_a187 nin0)
      have f205_3 : Fld Z T203.heap a187 "java/lang/String" "value" "[B" (.ref b187) := f202_3.keep K203 (ninS ne200_a187 nin0)
      have f205_4 : Arv Z T203.heap b187 kb187 .byte z187 ((own_lst n1 c0 c1).map Value.int) (.int (0 : Int32)) := f202_4.keep K203 (ninS ne200_b187 nin0)
      have f205_5 : Exa Z T203.heap a190 "java/lang/String" := f202_5.keep K203
      have f205_6 : Fld Z T203.heap a190 "java/lang/String" "coder" "B" (.int (0 : Int32)) := f202_6.keep K203 (ninS ne200_a190 nin0)
      have f205_7 : Fld Z T203.heap a190 "java/lang/String" "value" "[B" (.ref b190) := f202_7.keep K203 (ninS ne200_a190 nin0)
      have f205_8 : Arv Z T203.heap b190 kb190 .byte z190 ((own_lst m2 d0 d1).map Value.int) (.int (0 : Int32)) := f202_8.keep K203 (ninS ne200_b190 nin0)
      have f205_10 : Exa Z T203.heap b193 "com/example/hinta/hinta/ctmc/Reward" := f202_10.keep K203
      have f205_11 : Fld Z T203.heap b193 "com/example/hinta/hinta/ctmc/Reward" "node" "Ljava/lang/String;" (.ref a187) := f202_11.keep K203 (ninS ne200_b193 nin0)
      have f205_12 : Fld Z T203.heap b193 "com/example/hinta/hinta/ctmc/Reward" "kind" "Lcom/example/hinta/hinta/lts/Kind;" (.ref t185) := f202_12.keep K203 (ninS ne200_b193 nin0)
      have f205_14 : Exa Z T203.heap b200 "com/example/hinta/hinta/ctmc/Reward" := A200.keep K203
      show own_FinH p e below s Z consts_1 h0 _ _ _ T203 (mkF m 201 #[.val (.int p1), .val (.int p2), .val (.int p3), .val (.int p4), .val (.int n1), .val (.int c0), .val (.int c1), .val (.int m2), .val (.int d0), .val (.int d1), .val (.ref t185), .val (.ref t186), .val (.ref a187), .val (.ref a190), .val (.ref b193), .val (.int (((p4.toUInt32 >>> ((1 : Int32) &&& 31).toUInt32).toInt32) &&& (3 : Int32))), .unset, .unset, .unset, .unset] [(.ref b200)])
      refine own_byH (fun _ k => XS.astore X203.here hx rfl (hb hby at_201) rfl rfl (l' := #[.val (.int p1), .val (.int p2), .val (.int p3), .val (.int p4), .val (.int n1), .val (.int c0), .val (.int c1), .val (.int m2), .val (.int d0), .val (.int d1), .val (.ref t185), .val (.ref t186), .val (.ref a187), .val (.ref a190), .val (.ref b193), .val (.int (((p4.toUInt32 >>> ((1 : Int32) &&& 31).toUInt32).toInt32) &&& (3 : Int32))), .val (.ref b200), .unset, .unset, .unset]) rfl k) ?_
      show own_FinH p e below s Z consts_1 h0 _ _ _ T203 (mkF m 203 #[.val (.int p1), .val (.int p2), .val (.int p3), .val (.int p4), .val (.int n1), .val (.int c0), .val (.int c1), .val (.int m2), .val (.int d0), .val (.int d1), .val (.ref t185), .val (.ref t186), .val (.ref a187), .val (.ref a190), .val (.ref b193), .val (.int (((p4.toUInt32 >>> ((1 : Int32) &&& 31).toUInt32).toInt32) &&& (3 : Int32))), .val (.ref b200), .unset, .unset, .unset] [])
      have J235_206 : ∀ (Tj206 : State) (lj206 : List Loc) (Xj206 : Stand p l e room_1 (s.setVm T190.vm) m #[(.int p1), (.int p2), (.int p3), (.int p4)] below meth c Tj206 lj206 14 28) (ej206 : Tj206.heap = T203.heap) (Nj206 : Fr n0 lj206) (ex : Int32) (he1 : (own_req (own_lst n1 c0 c1) (own_lst m2 d0 d1) t185 t186) = ex) (he2 : (own_req (own_lst m2 d0 d1) (own_lst n1 c0 c1) t186 t185) = ex), own_FinH p e below s Z consts_1 h0 room_1.cells room_1.slots (own_Q0 n0) Tj206 (mkF m 235 #[.val (.int p1), .val (.int p2), .val (.int p3), .val (.int p4), .val (.int n1), .val (.int c0), .val (.int c1), .val (.int m2), .val (.int d0), .val (.int d1), .val (.ref t185), .val (.ref t186), .val (.ref a187), .val (.ref a190), .val (.ref b193), .val (.int (((p4.toUInt32 >>> ((1 : Int32) &&& 31).toUInt32).toInt32) &&& (3 : Int32))), .val (.ref b200), .val (.int ex), .unset, .unset] []) := by
        intro Tj206 lj206 Xj206 ej206 Nj206 ex he1 he2
        show own_FinH p e below s Z consts_1 h0 _ _ _ Tj206 (mkF m 235 #[.val (.int p1), .val (.int p2), .val (.int p3), .val (.int p4), .val (.int n1), .val (.int c0), .val (.int c1), .val (.int m2), .val (.int d0), .val (.int d1), .val (.ref t185), .val (.ref t186), .val (.ref a187), .val (.ref a190), .val (.ref b193), .val (.int (((p4.toUInt32 >>> ((1 : Int32) &&& 31).toUInt32).toInt32) &&& (3 : Int32))), .val (.ref b200), .val (.int ex), .unset, .unset] [])
        refine own_byH (fun _ k => XS.aload Xj206.here hx rfl (hb hby at_235) rfl rfl (XS.aload Xj206.here hx rfl (hb hby at_237) rfl rfl k)) ?_
        show own_FinH p e below s Z consts_1 h0 _ _ _ Tj206 (mkF m 239 #[.val (.int p1), .val (.int p2), .val (.int p3), .val (.int p4), .val (.int n1), .val (.int c0), .val (.int c1), .val (.int m2), .val (.int d0), .val (.int d1), .val (.ref t185), .val (.ref t186), .val (.ref a187), .val (.ref a190), .val (.ref b193), .val (.int (((p4.toUInt32 >>> ((1 : Int32) &&& 31).toUInt32).toInt32) &&& (3 : Int32))), .val (.ref b200), .val (.int ex), .unset, .unset] [(.ref b200), (.ref b193)])
        obtain ⟨cq207, kq207, q207a, q207b, q207c⟩ := isOf hZ ej206 f205_10
        obtain ⟨_, _, ⟨T207, L207, k207, n207⟩, -, X207, ⟨Lc207, hQ207, l207, y207, z207⟩, st207⟩ := Xj206.virtualBack hx (y := (⟨"com/example/hinta/hinta/ctmc/Reward", "equals", "(Ljava/lang/Object;)Z"⟩ : MethodName)) (z := (⟨"com/example/hinta/hinta/ctmc/Reward", "equals", "(Ljava/lang/Object;)Z"⟩ : MethodName)) hown (mvT hZ (hw _ (List.mem_of_getElem? (i := 48) rfl))) (mvT hZ (hw _ (List.mem_of_getElem? (i := 49) rfl))) (notFace_of_selects (args := #[]) (mvT hZ (hw _ (List.mem_of_getElem? (i := 51) rfl)))) (mvT hZ (hw _ (List.mem_of_getElem? (i := 51) rfl))) (mvT hZ (hw _ (List.mem_of_getElem? (i := 50) rfl))) (by decide) (backOf (W := 0) (rmRe l Z a0 hw [] b193 b200 t185 t186 a187 a190 b187 b190 kb187 kb190 z187 z190 (own_lst n1 c0 c1) (own_lst m2 d0 d1) cs T203.heap n0 Zs203 f205_14 f205_11 f205_12 Gn203 Gk203 f205_1 f205_5 f205_2 f205_3 f205_6 f205_7 f205_4 f205_8 hz187 hz190 (own_len2 n1 c0 c1) (S_cs.ext f205_0.2) hcs ne190_a187) hZ (hw _ (List.mem_of_getElem? (i := 52) rfl)) (hw _ (List.mem_of_getElem? (i := 36) rfl)) (by decide) (by decide)) q207a q207c (g := (mkF m 239 #[.val (.int p1), .val (.int p2), .val (.int p3), .val (.int p4), .val (.int n1), .val (.int c0), .val (.int c1), .val (.int m2), .val (.int d0), .val (.int d1), .val (.ref t185), .val (.ref t186), .val (.ref a187), .val (.ref a190), .val (.ref b193), .val (.int (((p4.toUInt32 >>> ((1 : Int32) &&& 31).toUInt32).toInt32) &&& (3 : Int32))), .val (.ref b200), .val (.int ex), .unset, .unset] [(.ref b200), (.ref b193)])) rfl (by rw [hml]; rfl) (Steps.refl _) (argsL := [(.ref b200)]) (rest := []) (lenOf own_pd293 rfl) rfl (by show 2 * 0 + _ ≤ _; exact Nat.le_of_eq rfl) (hb hby at_239) (fun _ _ => ⟨rfl, ej206, (by decide : 14 + 0 ≤ _), (by decide : 28 + 0 ≤ _)⟩)
        dsimp only [Pt.U, Pt.locs, Pt.cells, Pt.slots] at X207 l207 y207 z207 st207 hQ207
        subst l207 y207 z207
        obtain ⟨rfl, Nq207, eh207⟩ := hQ207
        have N207 := Fr.app Nj206 Nq207
        refine own_byH (fun _ k => st207.trans k) ?_
        show own_FinH p e below s Z consts_1 h0 _ _ _ T207 (mkF m 242 #[.val (.int p1), .val (.int p2), .val (.int p3), .val (.int p4), .val (.int n1), .val (.int c0), .val (.int c1), .val (.int m2), .val (.int d0), .val (.int d1), .val (.ref t185), .val (.ref t186), .val (.ref a187), .val (.ref a190), .val (.ref b193), .val (.int (((p4.toUInt32 >>> ((1 : Int32) &&& 31).toUInt32).toInt32) &&& (3 : Int32))), .val (.ref b200), .val (.int ex), .unset, .unset] [(.int (own_req (own_lst n1 c0 c1) (own_lst m2 d0 d1) t185 t186))])
        refine own_byH (fun _ k => XS.istore X207.here hx rfl (hb hby at_242) rfl (l' := #[.val (.int p1), .val (.int p2), .val (.int p3), .val (.int p4), .val (.int n1), .val (.int c0), .val (.int c1), .val (.int m2), .val (.int d0), .val (.int d1), .val (.ref t185), .val (.ref t186), .val (.ref a187), .val (.ref a190), .val (.ref b193), .val (.int (((p4.toUInt32 >>> ((1 : Int32) &&& 31).toUInt32).toInt32) &&& (3 : Int32))), .val (.ref b200), .val (.int ex), .val (.int (own_req (own_lst n1 c0 c1) (own_lst m2 d0 d1) t185 t186)), .unset]) rfl (XS.aload X207.here hx rfl (hb hby at_244) rfl rfl (XS.aload X207.here hx rfl (hb hby at_246) rfl rfl k))) ?_
        show own_FinH p e below s Z consts_1 h0 _ _ _ T207 (mkF m 248 #[.val (.int p1), .val (.int p2), .val (.int p3), .val (.int p4), .val (.int n1), .val (.int c0), .val (.int c1), .val (.int m2), .val (.int d0), .val (.int d1), .val (.ref t185), .val (.ref t186), .val (.ref a187), .val (.ref a190), .val (.ref b193), .val (.int (((p4.toUInt32 >>> ((1 : Int32) &&& 31).toUInt32).toInt32) &&& (3 : Int32))), .val (.ref b200), .val (.int ex), .val (.int (own_req (own_lst n1 c0 c1) (own_lst m2 d0 d1) t185 t186)), .unset] [(.ref b193), (.ref b200)])
        obtain ⟨cq208, kq208, q208a, q208b, q208c⟩ := isOf hZ eh207 f205_14
        obtain ⟨_, _, ⟨T208, L208, k208, n208⟩, -, X208, ⟨Lc208, hQ208, l208, y208, z208⟩, st208⟩ := X207.virtualBack hx (y := (⟨"com/example/hinta/hinta/ctmc/Reward", "equals", "(Ljava/lang/Object;)Z"⟩ : MethodName)) (z := (⟨"com/example/hinta/hinta/ctmc/Reward", "equals", "(Ljava/lang/Object;)Z"⟩ : MethodName)) hown (mvT hZ (hw _ (List.mem_of_getElem? (i := 48) rfl))) (mvT hZ (hw _ (List.mem_of_getElem? (i := 49) rfl))) (notFace_of_selects (args := #[]) (mvT hZ (hw _ (List.mem_of_getElem? (i := 51) rfl)))) (mvT hZ (hw _ (List.mem_of_getElem? (i := 51) rfl))) (mvT hZ (hw _ (List.mem_of_getElem? (i := 50) rfl))) (by decide) (backOf (W := 0) (rmRe l Z a0 hw [] b200 b193 t186 t185 a190 a187 b190 b187 kb190 kb187 z190 z187 (own_lst m2 d0 d1) (own_lst n1 c0 c1) cs T203.heap n0 Zs203 f205_10 Gn203 Gk203 f205_11 f205_12 f205_5 f205_1 f205_6 f205_7 f205_2 f205_3 f205_8 f205_4 hz190 hz187 (own_len2 m2 d0 d1) (S_cs.ext f205_0.2) hcs (Ne.symm ne190_a187)) hZ (hw _ (List.mem_of_getElem? (i := 52) rfl)) (hw _ (List.mem_of_getElem? (i := 36) rfl)) (by decide) (by decide)) q208a q208c (g := (mkF m 248 #[.val (.int p1), .val (.int p2), .val (.int p3), .val (.int p4), .val (.int n1), .val (.int c0), .val (.int c1), .val (.int m2), .val (.int d0), .val (.int d1), .val (.ref t185), .val (.ref t186), .val (.ref a187), .val (.ref a190), .val (.ref b193), .val (.int (((p4.toUInt32 >>> ((1 : Int32) &&& 31).toUInt32).toInt32) &&& (3 : Int32))), .val (.ref b200), .val (.int ex), .val (.int (own_req (own_lst n1 c0 c1) (own_lst m2 d0 d1) t185 t186)), .unset] [(.ref b193), (.ref b200)])) rfl (by rw [hml]; rfl) (Steps.refl _) (argsL := [(.ref b193)]) (rest := []) (lenOf own_pd293 rfl) rfl (by show 2 * 0 + _ ≤ _; exact Nat.le_of_eq rfl) (hb hby at_248) (fun _ _ => ⟨rfl, eh207, (by decide : 14 + 0 ≤ _), (by decide : 28 + 0 ≤ _)⟩)
        dsimp only [Pt.U, Pt.locs, Pt.cells, Pt.slots] at X208 l208 y208 z208 st208 hQ208
        subst l208 y208 z208
        obtain ⟨rfl, Nq208, eh208⟩ := hQ208
        have N208 := Fr.app N207 Nq208
        refine own_byH (fun _ k => st208.trans k) ?_
        show own_FinH p e below s Z consts_1 h0 _ _ _ T208 (mkF m 251 #[.val (.int p1), .val (.int p2), .val (.int p3), .val (.int p4), .val (.int n1), .val (.int c0), .val (.int c1), .val (.int m2), .val (.int d0), .val (.int d1), .val (.ref t185), .val (.ref t186), .val (.ref a187), .val (.ref a190), .val (.ref b193), .val (.int (((p4.toUInt32 >>> ((1 : Int32) &&& 31).toUInt32).toInt32) &&& (3 : Int32))), .val (.ref b200), .val (.int ex), .val (.int (own_req (own_lst n1 c0 c1) (own_lst m2 d0 d1) t185 t186)), .unset] [(.int (own_req (own_lst m2 d0 d1) (own_lst n1 c0 c1) t186 t185))])
        refine own_byH (fun _ k => XS.istore X208.here hx rfl (hb hby at_251) rfl (l' := #[.val (.int p1), .val (.int p2), .val (.int p3), .val (.int p4), .val (.int n1), .val (.int c0), .val (.int c1), .val (.int m2), .val (.int d0), .val (.int d1), .val (.ref t185), .val (.ref t186), .val (.ref a187), .val (.ref a190), .val (.ref b193), .val (.int (((p4.toUInt32 >>> ((1 : Int32) &&& 31).toUInt32).toInt32) &&& (3 : Int32))), .val (.ref b200), .val (.int ex), .val (.int (own_req (own_lst n1 c0 c1) (own_lst m2 d0 d1) t185 t186)), .val (.int (own_req (own_lst m2 d0 d1) (own_lst n1 c0 c1) t186 t185))]) rfl (XS.iload X208.here hx rfl (hb hby at_253) rfl (XS.iload X208.here hx rfl (hb hby at_255) rfl k))) ?_
        show own_FinH p e below s Z consts_1 h0 _ _ _ T208 (mkF m 257 #[.val (.int p1), .val (.int p2), .val (.int p3), .val (.int p4), .val (.int n1), .val (.int c0), .val (.int c1), .val (.int m2), .val (.int d0), .val (.int d1), .val (.ref t185), .val (.ref t186), .val (.ref a187), .val (.ref a190), .val (.ref b193), .val (.int (((p4.toUInt32 >>> ((1 : Int32) &&& 31).toUInt32).toInt32) &&& (3 : Int32))), .val (.ref b200), .val (.int ex), .val (.int (own_req (own_lst n1 c0 c1) (own_lst m2 d0 d1) t185 t186)), .val (.int (own_req (own_lst m2 d0 d1) (own_lst n1 c0 c1) t186 t185))] [(.int ex), (.int (own_req (own_lst n1 c0 c1) (own_lst m2 d0 d1) t185 t186))])
        refine own_byH (fun _ k => XS.icmpNo X208.here hx rfl (hb hby at_257) rfl (teq he1).2 k) ?_
        show own_FinH p e below s Z consts_1 h0 _ _ _ T208 (mkF m 260 #[.val (.int p1), .val (.int p2), .val (.int p3), .val (.int p4), .val (.int n1), .val (.int c0), .val (.int c1), .val (.int m2), .val (.int d0), .val (.int d1), .val (.ref t185), .val (.ref t186), .val (.ref a187), .val (.ref a190), .val (.ref b193), .val (.int (((p4.toUInt32 >>> ((1 : Int32) &&& 31).toUInt32).toInt32) &&& (3 : Int32))), .val (.ref b200), .val (.int ex), .val (.int (own_req (own_lst n1 c0 c1) (own_lst m2 d0 d1) t185 t186)), .val (.int (own_req (own_lst m2 d0 d1) (own_lst n1 c0 c1) t186 t185))] [])
        refine own_byH (fun _ k => XS.iload X208.here hx rfl (hb hby at_260) rfl (XS.iload X208.here hx rfl (hb hby at_262) rfl k)) ?_
        show own_FinH p e below s Z consts_1 h0 _ _ _ T208 (mkF m 264 #[.val (.int p1), .val (.int p2), .val (.int p3), .val (.int p4), .val (.int n1), .val (.int c0), .val (.int c1), .val (.int m2), .val (.int d0), .val (.int d1), .val (.ref t185), .val (.ref t186), .val (.ref a187), .val (.ref a190), .val (.ref b193), .val (.int (((p4.toUInt32 >>> ((1 : Int32) &&& 31).toUInt32).toInt32) &&& (3 : Int32))), .val (.ref b200), .val (.int ex), .val (.int (own_req (own_lst n1 c0 c1) (own_lst m2 d0 d1) t185 t186)), .val (.int (own_req (own_lst m2 d0 d1) (own_lst n1 c0 c1) t186 t185))] [(.int ex), (.int (own_req (own_lst m2 d0 d1) (own_lst n1 c0 c1) t186 t185))])
        refine own_byH (fun _ k => XS.icmpNo X208.here hx rfl (hb hby at_264) rfl (teq he2).2 k) ?_
        show own_FinH p e below s Z consts_1 h0 _ _ _ T208 (mkF m 267 #[.val (.int p1), .val (.int p2), .val (.int p3), .val (.int p4), .val (.int n1), .val (.int c0), .val (.int c1), .val (.int m2), .val (.int d0), .val (.int d1), .val (.ref t185), .val (.ref t186), .val (.ref a187), .val (.ref a190), .val (.ref b193), .val (.int (((p4.toUInt32 >>> ((1 : Int32) &&& 31).toUInt32).toInt32) &&& (3 : Int32))), .val (.ref b200), .val (.int ex), .val (.int (own_req (own_lst n1 c0 c1) (own_lst m2 d0 d1) t185 t186)), .val (.int (own_req (own_lst m2 d0 d1) (own_lst n1 c0 c1) t186 t185))] [])
        refine own_byH (fun _ k => XS.aload X208.here hx rfl (hb hby at_267) rfl rfl (XS.aload X208.here hx rfl (hb hby at_269) rfl rfl k)) ?_
        show own_FinH p e below s Z consts_1 h0 _ _ _ T208 (mkF m 271 #[.val (.int p1), .val (.int p2), .val (.int p3), .val (.int p4), .val (.int n1), .val (.int c0), .val (.int c1), .val (.int m2), .val (.int d0), .val (.int d1), .val (.ref t185), .val (.ref t186), .val (.ref a187), .val (.ref a190), .val (.ref b193), .val (.int (((p4.toUInt32 >>> ((1 : Int32) &&& 31).toUInt32).toInt32) &&& (3 : Int32))), .val (.ref b200), .val (.int ex), .val (.int (own_req (own_lst n1 c0 c1) (own_lst m2 d0 d1) t185 t186)), .val (.int (own_req (own_lst m2 d0 d1) (own_lst n1 c0 c1) t186 t185))] [(.ref b193), (.ref b193)])
        obtain ⟨cq209, kq209, q209a, q209b, q209c⟩ := isOf hZ eh208 f205_10
        obtain ⟨_, _, ⟨T209, L209, k209, n209⟩, -, X209, ⟨Lc209, hQ209, l209, y209, z209⟩, st209⟩ := X208.virtualBack hx (y := (⟨"com/example/hinta/hinta/ctmc/Reward", "equals", "(Ljava/lang/Object;)Z"⟩ : MethodName)) (z := (⟨"com/example/hinta/hinta/ctmc/Reward", "equals", "(Ljava/lang/Object;)Z"⟩ : MethodName)) hown (mvT hZ (hw _ (List.mem_of_getElem? (i := 48) rfl))) (mvT hZ (hw _ (List.mem_of_getElem? (i := 49) rfl))) (notFace_of_selects (args := #[]) (mvT hZ (hw _ (List.mem_of_getElem? (i := 51) rfl)))) (mvT hZ (hw _ (List.mem_of_getElem? (i := 51) rfl))) (mvT hZ (hw _ (List.mem_of_getElem? (i := 50) rfl))) (by decide) (backOf (W := 0) (rmRr l Z a0 hw [] b193 a187 t185 T203.heap n0 Zs203 f205_10 f205_11 f205_12 f205_1) hZ (hw _ (List.mem_of_getElem? (i := 52) rfl)) (hw _ (List.mem_of_getElem? (i := 36) rfl)) (by decide) (by decide)) q209a q209c (g := (mkF m 271 #[.val (.int p1), .val (.int p2), .val (.int p3), .val (.int p4), .val (.int n1), .val (.int c0), .val (.int c1), .val (.int m2), .val (.int d0), .val (.int d1), .val (.ref t185), .val (.ref t186), .val (.ref a187), .val (.ref a190), .val (.ref b193), .val (.int (((p4.toUInt32 >>> ((1 : Int32) &&& 31).toUInt32).toInt32) &&& (3 : Int32))), .val (.ref b200), .val (.int ex), .val (.int (own_req (own_lst n1 c0 c1) (own_lst m2 d0 d1) t185 t186)), .val (.int (own_req (own_lst m2 d0 d1) (own_lst n1 c0 c1) t186 t185))] [(.ref b193), (.ref b193)])) rfl (by rw [hml]; rfl) (Steps.refl _) (argsL := [(.ref b193)]) (rest := []) (lenOf own_pd293 rfl) rfl (by show 2 * 0 + _ ≤ _; exact Nat.le_of_eq rfl) (hb hby at_271) (fun _ _ => ⟨rfl, eh208, (by decide : 14 + 0 ≤ _), (by decide : 28 + 0 ≤ _)⟩)
        dsimp only [Pt.U, Pt.locs, Pt.cells, Pt.slots] at X209 l209 y209 z209 st209 hQ209
        subst l209 y209 z209
        obtain ⟨rfl, Nq209, eh209⟩ := hQ209
        have N209 := Fr.app N208 Nq209
        refine own_byH (fun _ k => st209.trans k) ?_
        show own_FinH p e below s Z consts_1 h0 _ _ _ T209 (mkF m 274 #[.val (.int p1), .val (.int p2), .val (.int p3), .val (.int p4), .val (.int n1), .val (.int c0), .val (.int c1), .val (.int m2), .val (.int d0), .val (.int d1), .val (.ref t185), .val (.ref t186), .val (.ref a187), .val (.ref a190), .val (.ref b193), .val (.int (((p4.toUInt32 >>> ((1 : Int32) &&& 31).toUInt32).toInt32) &&& (3 : Int32))), .val (.ref b200), .val (.int ex), .val (.int (own_req (own_lst n1 c0 c1) (own_lst m2 d0 d1) t185 t186)), .val (.int (own_req (own_lst m2 d0 d1) (own_lst n1 c0 c1) t186 t185))] [(.int (1 : Int32))])
        refine own_byH (fun _ k => XS.ifNo X209.here hx rfl (hb hby at_274) rfl ((if0 _ _).trans (feq (by decide : ¬ ((1 : Int32) = (0 : Int32)))).1) k) ?_
        show own_FinH p e below s Z consts_1 h0 _ _ _ T209 (mkF m 277 #[.val (.int p1), .val (.int p2), .val (.int p3), .val (.int p4), .val (.int n1), .val (.int c0), .val (.int c1), .val (.int m2), .val (.int d0), .val (.int d1), .val (.ref t185), .val (.ref t186), .val (.ref a187), .val (.ref a190), .val (.ref b193), .val (.int (((p4.toUInt32 >>> ((1 : Int32) &&& 31).toUInt32).toInt32) &&& (3 : Int32))), .val (.ref b200), .val (.int ex), .val (.int (own_req (own_lst n1 c0 c1) (own_lst m2 d0 d1) t185 t186)), .val (.int (own_req (own_lst m2 d0 d1) (own_lst n1 c0 c1) t186 t185))] [])
        refine own_byH (fun _ k => XS.iconst X209.here hx rfl (hb hby at_277) (XS.goto X209.here hx rfl (pc0 := 278) (pc' := 282) rfl (hb hby at_278) (by decide) (by decide) k)) ?_
        show own_FinH p e below s Z consts_1 h0 _ _ _ T209 (mkF m 282 #[.val (.int p1), .val (.int p2), .val (.int p3), .val (.int p4), .val (.int n1), .val (.int c0), .val (.int c1), .val (.int m2), .val (.int d0), .val (.int d1), .val (.ref t185), .val (.ref t186), .val (.ref a187), .val (.ref a190), .val (.ref b193), .val (.int (((p4.toUInt32 >>> ((1 : Int32) &&& 31).toUInt32).toInt32) &&& (3 : Int32))), .val (.ref b200), .val (.int ex), .val (.int (own_req (own_lst n1 c0 c1) (own_lst m2 d0 d1) t185 t186)), .val (.int (own_req (own_lst m2 d0 d1) (own_lst n1 c0 c1) t186 t185))] [(.int (1 : Int32))])
        have CHe210 : CHr Z consts_1 s.vm h0 T209.vm T203.heap := CHs204.trans (CHv.at X209 hZ (own_EW hw) CHs204.1)
        exact own_retZH X209 hS190 (by rw [eh209]; exact hkE203) (by rw [eh209]; exact CHe210) hx hlk (t := .boolean) Bd.returns (by simp) (hb hby at_282) ⟨rfl, N209⟩ (by decide) (by decide)
      show own_FinH p e below s Z consts_1 h0 _ _ _ T203 (mkF m 203 #[.val (.int p1), .val (.int p2), .val (.int p3), .val (.int p4), .val (.int n1), .val (.int c0), .val (.int c1), .val (.int m2), .val (.int d0), .val (.int d1), .val (.ref t185), .val (.ref t186), .val (.ref a187), .val (.ref a190), .val (.ref b193), .val (.int (((p4.toUInt32 >>> ((1 : Int32) &&& 31).toUInt32).toInt32) &&& (3 : Int32))), .val (.ref b200), .unset, .unset, .unset] [])
      refine own_byH (fun _ k => XS.iload X203.here hx rfl (hb hby at_203) rfl (XS.iload X203.here hx rfl (hb hby at_205) rfl (XS.iload X203.here hx rfl (hb hby at_207) rfl (XS.iload X203.here hx rfl (hb hby at_209) rfl (XS.iload X203.here hx rfl (hb hby at_211) rfl (XS.iload X203.here hx rfl (hb hby at_213) rfl k)))))) ?_
      show own_FinH p e below s Z consts_1 h0 _ _ _ T203 (mkF m 215 #[.val (.int p1), .val (.int p2), .val (.int p3), .val (.int p4), .val (.int n1), .val (.int c0), .val (.int c1), .val (.int m2), .val (.int d0), .val (.int d1), .val (.ref t185), .val (.ref t186), .val (.ref a187), .val (.ref a190), .val (.ref b193), .val (.int (((p4.toUInt32 >>> ((1 : Int32) &&& 31).toUInt32).toInt32) &&& (3 : Int32))), .val (.ref b200), .unset, .unset, .unset] [(.int d1), (.int d0), (.int m2), (.int c1), (.int c0), (.int n1)])
      obtain ⟨_, _, ⟨T211, L211, k211, n211⟩, -, X211, ⟨Lc211, hQ211, l211, y211, z211⟩, st211⟩ := Jvm.LawKit.callS X203 hx (y := (⟨"com/example/hinta/hinta/ctmc/RewardEqualsPinLaw", "sameText", "(ICCICC)Z"⟩ : MethodName)) hown (mvT hZ (hw _ (List.mem_of_getElem? (i := 45) rfl))) (mvT hZ (hw _ (List.mem_of_getElem? (i := 46) rfl))) (mvT hZ (hw _ (List.mem_of_getElem? (i := 2) rfl))) (mvT hZ (hw _ (List.mem_of_getElem? (i := 47) rfl))) (by decide) (backOf (W := 0) (rmSame l Z a0 hw [] n1 c0 c1 m2 d0 d1 T203.heap n0 Zs203 ) hZ (hw _ (List.mem_of_getElem? (i := 47) rfl)) (hw _ (List.mem_of_getElem? (i := 2) rfl)) (by decide) (by decide)) (g := (mkF m 215 #[.val (.int p1), .val (.int p2), .val (.int p3), .val (.int p4), .val (.int n1), .val (.int c0), .val (.int c1), .val (.int m2), .val (.int d0), .val (.int d1), .val (.ref t185), .val (.ref t186), .val (.ref a187), .val (.ref a190), .val (.ref b193), .val (.int (((p4.toUInt32 >>> ((1 : Int32) &&& 31).toUInt32).toInt32) &&& (3 : Int32))), .val (.ref b200), .unset, .unset, .unset] [(.int d1), (.int d0), (.int m2), (.int c1), (.int c0), (.int n1)])) rfl (by rw [hml]; rfl) (argsL := [(.int n1), (.int c0), (.int c1), (.int m2), (.int d0), (.int d1)]) (rest := []) (lenOf own_pd308 rfl) rfl (by show 2 * 0 + _ ≤ _; exact Nat.le_of_eq rfl) (hb hby at_215) (fun _ _ => ⟨rfl, rfl, (by decide : 14 + 0 ≤ _), (by decide : 28 + 0 ≤ _)⟩)
      dsimp only [Pt.U, Pt.locs, Pt.cells, Pt.slots] at X211 l211 y211 z211 st211 hQ211
      subst l211 y211 z211
      obtain ⟨rfl, Nq211, eh211⟩ := hQ211
      have N211 := Fr.app N203 Nq211
      refine own_byH (fun _ k => st211 _ k) ?_
      show own_FinH p e below s Z consts_1 h0 _ _ _ T211 (mkF m 218 #[.val (.int p1), .val (.int p2), .val (.int p3), .val (.int p4), .val (.int n1), .val (.int c0), .val (.int c1), .val (.int m2), .val (.int d0), .val (.int d1), .val (.ref t185), .val (.ref t186), .val (.ref a187), .val (.ref a190), .val (.ref b193), .val (.int (((p4.toUInt32 >>> ((1 : Int32) &&& 31).toUInt32).toInt32) &&& (3 : Int32))), .val (.ref b200), .unset, .unset, .unset] [(.int (own_same n1 c0 c1 m2 d0 d1))])
      by_cases hc218_212 : (own_same n1 c0 c1 m2 d0 d1) = (0 : Int32)
      · show own_FinH p e below s Z consts_1 h0 _ _ _ T211 (mkF m 218 #[.val (.int p1), .val (.int p2), .val (.int p3), .val (.int p4), .val (.int n1), .val (.int c0), .val (.int c1), .val (.int m2), .val (.int d0), .val (.int d1), .val (.ref t185), .val (.ref t186), .val (.ref a187), .val (.ref a190), .val (.ref b193), .val (.int (((p4.toUInt32 >>> ((1 : Int32) &&& 31).toUInt32).toInt32) &&& (3 : Int32))), .val (.ref b200), .unset, .unset, .unset] [(.int (own_same n1 c0 c1 m2 d0 d1))])
        refine own_byH (fun _ k => XS.ifYes X211.here hx rfl (pc0 := 218) (pc' := 232) rfl (hb hby at_218) rfl ((if0 _ _).trans (teq hc218_212).1) (by decide) (by decide) k) ?_
        show own_FinH p e below s Z consts_1 h0 _ _ _ T211 (mkF m 232 #[.val (.int p1), .val (.int p2), .val (.int p3), .val (.int p4), .val (.int n1), .val (.int c0), .val (.int c1), .val (.int m2), .val (.int d0), .val (.int d1), .val (.ref t185), .val (.ref t186), .val (.ref a187), .val (.ref a190), .val (.ref b193), .val (.int (((p4.toUInt32 >>> ((1 : Int32) &&& 31).toUInt32).toInt32) &&& (3 : Int32))), .val (.ref b200), .unset, .unset, .unset] [])
        refine own_byH (fun _ k => XS.iconst X211.here hx rfl (hb hby at_232) (XS.istore X211.here hx rfl (hb hby at_233) rfl (l' := #[.val (.int p1), .val (.int p2), .val (.int p3), .val (.int p4), .val (.int n1), .val (.int c0), .val (.int c1), .val (.int m2), .val (.int d0), .val (.int d1), .val (.ref t185), .val (.ref t186), .val (.ref a187), .val (.ref a190), .val (.ref b193), .val (.int (((p4.toUInt32 >>> ((1 : Int32) &&& 31).toUInt32).toInt32) &&& (3 : Int32))), .val (.ref b200), .val (.int (0 : Int32)), .unset, .unset]) rfl k)) ?_
        show own_FinH p e below s Z consts_1 h0 _ _ _ T211 (mkF m 235 #[.val (.int p1), .val (.int p2), .val (.int p3), .val (.int p4), .val (.int n1), .val (.int c0), .val (.int c1), .val (.int m2), .val (.int d0), .val (.int d1), .val (.ref t185), .val (.ref t186), .val (.ref a187), .val (.ref a190), .val (.ref b193), .val (.int (((p4.toUInt32 >>> ((1 : Int32) &&& 31).toUInt32).toInt32) &&& (3 : Int32))), .val (.ref b200), .val (.int (0 : Int32)), .unset, .unset] [])
        exact J235_206 T211 _ X211 eh211 N211 ((0 : Int32)) (if_pos ((own_same_eq hn1 hm2 hc0 hc1 hd0 hd1).symm.trans hc218_212)) ((own_req_symm _ _ _ _).trans (if_pos ((own_same_eq hn1 hm2 hc0 hc1 hd0 hd1).symm.trans hc218_212)))
      · show own_FinH p e below s Z consts_1 h0 _ _ _ T211 (mkF m 218 #[.val (.int p1), .val (.int p2), .val (.int p3), .val (.int p4), .val (.int n1), .val (.int c0), .val (.int c1), .val (.int m2), .val (.int d0), .val (.int d1), .val (.ref t185), .val (.ref t186), .val (.ref a187), .val (.ref a190), .val (.ref b193), .val (.int (((p4.toUInt32 >>> ((1 : Int32) &&& 31).toUInt32).toInt32) &&& (3 : Int32))), .val (.ref b200), .unset, .unset, .unset] [(.int (own_same n1 c0 c1 m2 d0 d1))])
        refine own_byH (fun _ k => XS.ifNo X211.here hx rfl (hb hby at_218) rfl ((if0 _ _).trans (feq hc218_212).1) k) ?_
        show own_FinH p e below s Z consts_1 h0 _ _ _ T211 (mkF m 221 #[.val (.int p1), .val (.int p2), .val (.int p3), .val (.int p4), .val (.int n1), .val (.int c0), .val (.int c1), .val (.int m2), .val (.int d0), .val (.int d1), .val (.ref t185), .val (.ref t186), .val (.ref a187), .val (.ref a190), .val (.ref b193), .val (.int (((p4.toUInt32 >>> ((1 : Int32) &&& 31).toUInt32).toInt32) &&& (3 : Int32))), .val (.ref b200), .unset, .unset, .unset] [])
        refine own_byH (fun _ k => XS.aload X211.here hx rfl (hb hby at_221) rfl rfl (XS.aload X211.here hx rfl (hb hby at_223) rfl rfl k)) ?_
        show own_FinH p e below s Z consts_1 h0 _ _ _ T211 (mkF m 225 #[.val (.int p1), .val (.int p2), .val (.int p3), .val (.int p4), .val (.int n1), .val (.int c0), .val (.int c1), .val (.int m2), .val (.int d0), .val (.int d1), .val (.ref t185), .val (.ref t186), .val (.ref a187), .val (.ref a190), .val (.ref b193), .val (.int (((p4.toUInt32 >>> ((1 : Int32) &&& 31).toUInt32).toInt32) &&& (3 : Int32))), .val (.ref b200), .unset, .unset, .unset] [(.ref t186), (.ref t185)])
        by_cases ha225_213 : t185 = t186
        · show own_FinH p e below s Z consts_1 h0 _ _ _ T211 (mkF m 225 #[.val (.int p1), .val (.int p2), .val (.int p3), .val (.int p4), .val (.int n1), .val (.int c0), .val (.int c1), .val (.int m2), .val (.int d0), .val (.int d1), .val (.ref t185), .val (.ref t186), .val (.ref a187), .val (.ref a190), .val (.ref b193), .val (.int (((p4.toUInt32 >>> ((1 : Int32) &&& 31).toUInt32).toInt32) &&& (3 : Int32))), .val (.ref b200), .unset, .unset, .unset] [(.ref t186), (.ref t185)])
          refine own_byH (fun _ k => Jvm.RoadKit.acmp (g := (mkF m 225 #[.val (.int p1), .val (.int p2), .val (.int p3), .val (.int p4), .val (.int n1), .val (.int c0), .val (.int c1), .val (.int m2), .val (.int d0), .val (.int d1), .val (.ref t185), .val (.ref t186), .val (.ref a187), .val (.ref a190), .val (.ref b193), .val (.int (((p4.toUInt32 >>> ((1 : Int32) &&& 31).toUInt32).toInt32) &&& (3 : Int32))), .val (.ref b200), .unset, .unset, .unset] [(.ref t186), (.ref t185)])) X211 hx rfl rfl rfl (pc0 := 225) (pc' := 228) (same := true) rfl (hb hby at_225) rfl (decide_eq_true (congrArg Value.ref ha225_213)) (by decide) (by decide) k) ?_
          show own_FinH p e below s Z consts_1 h0 _ _ _ T211 (mkF m 228 #[.val (.int p1), .val (.int p2), .val (.int p3), .val (.int p4), .val (.int n1), .val (.int c0), .val (.int c1), .val (.int m2), .val (.int d0), .val (.int d1), .val (.ref t185), .val (.ref t186), .val (.ref a187), .val (.ref a190), .val (.ref b193), .val (.int (((p4.toUInt32 >>> ((1 : Int32) &&& 31).toUInt32).toInt32) &&& (3 : Int32))), .val (.ref b200), .unset, .unset, .unset] [])
          refine own_byH (fun _ k => XS.iconst X211.here hx rfl (hb hby at_228) (XS.goto X211.here hx rfl (pc0 := 229) (pc' := 233) rfl (hb hby at_229) (by decide) (by decide) (XS.istore X211.here hx rfl (hb hby at_233) rfl (l' := #[.val (.int p1), .val (.int p2), .val (.int p3), .val (.int p4), .val (.int n1), .val (.int c0), .val (.int c1), .val (.int m2), .val (.int d0), .val (.int d1), .val (.ref t185), .val (.ref t186), .val (.ref a187), .val (.ref a190), .val (.ref b193), .val (.int (((p4.toUInt32 >>> ((1 : Int32) &&& 31).toUInt32).toInt32) &&& (3 : Int32))), .val (.ref b200), .val (.int (1 : Int32)), .unset, .unset]) rfl k))) ?_
          show own_FinH p e below s Z consts_1 h0 _ _ _ T211 (mkF m 235 #[.val (.int p1), .val (.int p2), .val (.int p3), .val (.int p4), .val (.int n1), .val (.int c0), .val (.int c1), .val (.int m2), .val (.int d0), .val (.int d1), .val (.ref t185), .val (.ref t186), .val (.ref a187), .val (.ref a190), .val (.ref b193), .val (.int (((p4.toUInt32 >>> ((1 : Int32) &&& 31).toUInt32).toInt32) &&& (3 : Int32))), .val (.ref b200), .val (.int (1 : Int32)), .unset, .unset] [])
          exact J235_206 T211 _ X211 eh211 N211 ((1 : Int32)) ((if_neg (fun z => hc218_212 ((own_same_eq hn1 hm2 hc0 hc1 hd0 hd1).trans z))).trans (if_pos ha225_213)) ((own_req_symm _ _ _ _).trans ((if_neg (fun z => hc218_212 ((own_same_eq hn1 hm2 hc0 hc1 hd0 hd1).trans z))).trans (if_pos ha225_213)))
        · show own_FinH p e below s Z consts_1 h0 _ _ _ T211 (mkF m 225 #[.val (.int p1), .val (.int p2), .val (.int p3), .val (.int p4), .val (.int n1), .val (.int c0), .val (.int c1), .val (.int m2), .val (.int d0), .val (.int d1), .val (.ref t185), .val (.ref t186), .val (.ref a187), .val (.ref a190), .val (.ref b193), .val (.int (((p4.toUInt32 >>> ((1 : Int32) &&& 31).toUInt32).toInt32) &&& (3 : Int32))), .val (.ref b200), .unset, .unset, .unset] [(.ref t186), (.ref t185)])
          refine own_byH (fun _ k => Jvm.RoadKit.acmp (g := (mkF m 225 #[.val (.int p1), .val (.int p2), .val (.int p3), .val (.int p4), .val (.int n1), .val (.int c0), .val (.int c1), .val (.int m2), .val (.int d0), .val (.int d1), .val (.ref t185), .val (.ref t186), .val (.ref a187), .val (.ref a190), .val (.ref b193), .val (.int (((p4.toUInt32 >>> ((1 : Int32) &&& 31).toUInt32).toInt32) &&& (3 : Int32))), .val (.ref b200), .unset, .unset, .unset] [(.ref t186), (.ref t185)])) X211 hx rfl rfl rfl (pc0 := 225) (pc' := 232) (same := false) rfl (hb hby at_225) rfl (decide_eq_false fun q => ha225_213 (Value.ref.inj q)) (by decide) (by decide) k) ?_
          show own_FinH p e below s Z consts_1 h0 _ _ _ T211 (mkF m 232 #[.val (.int p1), .val (.int p2), .val (.int p3), .val (.int p4), .val (.int n1), .val (.int c0), .val (.int c1), .val (.int m2), .val (.int d0), .val (.int d1), .val (.ref t185), .val (.ref t186), .val (.ref a187), .val (.ref a190), .val (.ref b193), .val (.int (((p4.toUInt32 >>> ((1 : Int32) &&& 31).toUInt32).toInt32) &&& (3 : Int32))), .val (.ref b200), .unset, .unset, .unset] [])
          refine own_byH (fun _ k => XS.iconst X211.here hx rfl (hb hby at_232) (XS.istore X211.here hx rfl (hb hby at_233) rfl (l' := #[.val (.int p1), .val (.int p2), .val (.int p3), .val (.int p4), .val (.int n1), .val (.int c0), .val (.int c1), .val (.int m2), .val (.int d0), .val (.int d1), .val (.ref t185), .val (.ref t186), .val (.ref a187), .val (.ref a190), .val (.ref b193), .val (.int (((p4.toUInt32 >>> ((1 : Int32) &&& 31).toUInt32).toInt32) &&& (3 : Int32))), .val (.ref b200), .val (.int (0 : Int32)), .unset, .unset]) rfl k)) ?_
          show own_FinH p e below s Z consts_1 h0 _ _ _ T211 (mkF m 235 #[.val (.int p1), .val (.int p2), .val (.int p3), .val (.int p4), .val (.int n1), .val (.int c0), .val (.int c1), .val (.int m2), .val (.int d0), .val (.int d1), .val (.ref t185), .val (.ref t186), .val (.ref a187), .val (.ref a190), .val (.ref b193), .val (.int (((p4.toUInt32 >>> ((1 : Int32) &&& 31).toUInt32).toInt32) &&& (3 : Int32))), .val (.ref b200), .val (.int (0 : Int32)), .unset, .unset] [])
          exact J235_206 T211 _ X211 eh211 N211 ((0 : Int32)) ((if_neg (fun z => hc218_212 ((own_same_eq hn1 hm2 hc0 hc1 hd0 hd1).trans z))).trans (if_neg ha225_213)) ((own_req_symm _ _ _ _).trans ((if_neg (fun z => hc218_212 ((own_same_eq hn1 hm2 hc0 hc1 hd0 hd1).trans z))).trans (if_neg ha225_213)))
    · show own_FinH p e below s Z consts_1 h0 _ _ _ T196 (mkF m 148 #[.val (.int p1), .val (.int p2), .val (.int p3), .val (.int p4), .val (.int n1), .val (.int c0), .val (.int c1), .val (.int m2), .val (.int d0), .val (.int d1), .val (.ref t185), .val (.ref t186), .val (.ref a187), .val (.ref a190), .val (.ref b193), .val (.int (((p4.toUInt32 >>> ((1 : Int32) &&& 31).toUInt32).toInt32) &&& (3 : Int32))), .unset, .unset, .unset, .unset] [(.int (2 : Int32)), (.int (((p4.toUInt32 >>> ((1 : Int32) &&& 31).toUInt32).toInt32) &&& (3 : Int32)))])
      refine own_byH (fun _ k => XS.icmpNo X196.here hx rfl (hb hby at_148) rfl (flt hc148_199).1 k) ?_
      show own_FinH p e below s Z consts_1 h0 _ _ _ T196 (mkF m 151 #[.val (.int p1), .val (.int p2), .val (.int p3), .val (.int p4), .val (.int n1), .val (.int c0), .val (.int c1), .val (.int m2), .val (.int d0), .val (.int d1), .val (.ref t185), .val (.ref t186), .val (.ref a187), .val (.ref a190), .val (.ref b193), .val (.int (((p4.toUInt32 >>> ((1 : Int32) &&& 31).toUInt32).toInt32) &&& (3 : Int32))), .unset, .unset, .unset, .unset] [])
      refine own_byH (fun _ k => XS.aconstNull X196.here hx rfl (hb hby at_151) (XS.astore X196.here hx rfl (hb hby at_152) rfl rfl (l' := #[.val (.int p1), .val (.int p2), .val (.int p3), .val (.int p4), .val (.int n1), .val (.int c0), .val (.int c1), .val (.int m2), .val (.int d0), .val (.int d1), .val (.ref t185), .val (.ref t186), .val (.ref a187), .val (.ref a190), .val (.ref b193), .val (.int (((p4.toUInt32 >>> ((1 : Int32) &&& 31).toUInt32).toInt32) &&& (3 : Int32))), .val .null, .unset, .unset, .unset]) rfl (XS.iload X196.here hx rfl (hb hby at_154) rfl (XS.iconst X196.here hx rfl (hb hby at_156) k)))) ?_
      show own_FinH p e below s Z consts_1 h0 _ _ _ T196 (mkF m 157 #[.val (.int p1), .val (.int p2), .val (.int p3), .val (.int p4), .val (.int n1), .val (.int c0), .val (.int c1), .val (.int m2), .val (.int d0), .val (.int d1), .val (.ref t185), .val (.ref t186), .val (.ref a187), .val (.ref a190), .val (.ref b193), .val (.int (((p4.toUInt32 >>> ((1 : Int32) &&& 31).toUInt32).toInt32) &&& (3 : Int32))), .val .null, .unset, .unset, .unset] [(.int (2 : Int32)), (.int (((p4.toUInt32 >>> ((1 : Int32) &&& 31).toUInt32).toInt32) &&& (3 : Int32)))])
      by_cases hc157_214 : (((p4.toUInt32 >>> ((1 : Int32) &&& 31).toUInt32).toInt32) &&& (3 : Int32)) = (2 : Int32)
      · show own_FinH p e below s Z consts_1 h0 _ _ _ T196 (mkF m 157 #[.val (.int p1), .val (.int p2), .val (.int p3), .val (.int p4), .val (.int n1), .val (.int c0), .val (.int c1), .val (.int m2), .val (.int d0), .val (.int d1), .val (.ref t185), .val (.ref t186), .val (.ref a187), .val (.ref a190), .val (.ref b193), .val (.int (((p4.toUInt32 >>> ((1 : Int32) &&& 31).toUInt32).toInt32) &&& (3 : Int32))), .val .null, .unset, .unset, .unset] [(.int (2 : Int32)), (.int (((p4.toUInt32 >>> ((1 : Int32) &&& 31).toUInt32).toInt32) &&& (3 : Int32)))])
        refine own_byH (fun _ k => XS.icmpNo X196.here hx rfl (hb hby at_157) rfl (teq hc157_214).2 k) ?_
        show own_FinH p e below s Z consts_1 h0 _ _ _ T196 (mkF m 160 #[.val (.int p1), .val (.int p2), .val (.int p3), .val (.int p4), .val (.int n1), .val (.int c0), .val (.int c1), .val (.int m2), .val (.int d0), .val (.int d1), .val (.ref t185), .val (.ref t186), .val (.ref a187), .val (.ref a190), .val (.ref b193), .val (.int (((p4.toUInt32 >>> ((1 : Int32) &&& 31).toUInt32).toInt32) &&& (3 : Int32))), .val .null, .unset, .unset, .unset] [])
        refine own_byH (fun _ k => XS.aload X196.here hx rfl (hb hby at_160) rfl rfl (XS.astore X196.here hx rfl (hb hby at_162) rfl rfl (l' := #[.val (.int p1), .val (.int p2), .val (.int p3), .val (.int p4), .val (.int n1), .val (.int c0), .val (.int c1), .val (.int m2), .val (.int d0), .val (.int d1), .val (.ref t185), .val (.ref t186), .val (.ref a187), .val (.ref a190), .val (.ref b193), .val (.int (((p4.toUInt32 >>> ((1 : Int32) &&& 31).toUInt32).toInt32) &&& (3 : Int32))), .val (.ref a187), .unset, .unset, .unset]) rfl (XS.aload X196.here hx rfl (hb hby at_164) rfl rfl (XS.aload X196.here hx rfl (hb hby at_166) rfl rfl k)))) ?_
        show own_FinH p e below s Z consts_1 h0 _ _ _ T196 (mkF m 168 #[.val (.int p1), .val (.int p2), .val (.int p3), .val (.int p4), .val (.int n1), .val (.int c0), .val (.int c1), .val (.int m2), .val (.int d0), .val (.int d1), .val (.ref t185), .val (.ref t186), .val (.ref a187), .val (.ref a190), .val (.ref b193), .val (.int (((p4.toUInt32 >>> ((1 : Int32) &&& 31).toUInt32).toInt32) &&& (3 : Int32))), .val (.ref a187), .unset, .unset, .unset] [(.ref a187), (.ref b193)])
        obtain ⟨cq215, kq215, q215a, q215b, q215c⟩ := isOf hZ rfl f198_10
        obtain ⟨_, _, ⟨T215, L215, k215, n215⟩, -, X215, ⟨Lc215, hQ215, l215, y215, z215⟩, st215⟩ := X196.virtualBack hx (y := (⟨"com/example/hinta/hinta/ctmc/Reward", "equals", "(Ljava/lang/Object;)Z"⟩ : MethodName)) (z := (⟨"com/example/hinta/hinta/ctmc/Reward", "equals", "(Ljava/lang/Object;)Z"⟩ : MethodName)) hown (mvT hZ (hw _ (List.mem_of_getElem? (i := 48) rfl))) (mvT hZ (hw _ (List.mem_of_getElem? (i := 49) rfl))) (notFace_of_selects (args := #[]) (mvT hZ (hw _ (List.mem_of_getElem? (i := 51) rfl)))) (mvT hZ (hw _ (List.mem_of_getElem? (i := 51) rfl))) (mvT hZ (hw _ (List.mem_of_getElem? (i := 50) rfl))) (by decide) (backOf (W := 0) (rmRs l Z a0 hw [] b193 a187 T196.heap n0 Zs196 f198_1) hZ (hw _ (List.mem_of_getElem? (i := 52) rfl)) (hw _ (List.mem_of_getElem? (i := 36) rfl)) (by decide) (by decide)) q215a q215c (g := (mkF m 168 #[.val (.int p1), .val (.int p2), .val (.int p3), .val (.int p4), .val (.int n1), .val (.int c0), .val (.int c1), .val (.int m2), .val (.int d0), .val (.int d1), .val (.ref t185), .val (.ref t186), .val (.ref a187), .val (.ref a190), .val (.ref b193), .val (.int (((p4.toUInt32 >>> ((1 : Int32) &&& 31).toUInt32).toInt32) &&& (3 : Int32))), .val (.ref a187), .unset, .unset, .unset] [(.ref a187), (.ref b193)])) rfl (by rw [hml]; rfl) (Steps.refl _) (argsL := [(.ref a187)]) (rest := []) (lenOf own_pd293 rfl) rfl (by show 2 * 0 + _ ≤ _; exact Nat.le_of_eq rfl) (hb hby at_168) (fun _ _ => ⟨rfl, rfl, (by decide : 13 + 0 ≤ _), (by decide : 26 + 0 ≤ _)⟩)
        dsimp only [Pt.U, Pt.locs, Pt.cells, Pt.slots] at X215 l215 y215 z215 st215 hQ215
        subst l215 y215 z215
        obtain ⟨rfl, Nq215, eh215⟩ := hQ215
        have N215 := Fr.app N196 Nq215
        refine own_byH (fun _ k => st215.trans k) ?_
        show own_FinH p e below s Z consts_1 h0 _ _ _ T215 (mkF m 171 #[.val (.int p1), .val (.int p2), .val (.int p3), .val (.int p4), .val (.int n1), .val (.int c0), .val (.int c1), .val (.int m2), .val (.int d0), .val (.int d1), .val (.ref t185), .val (.ref t186), .val (.ref a187), .val (.ref a190), .val (.ref b193), .val (.int (((p4.toUInt32 >>> ((1 : Int32) &&& 31).toUInt32).toInt32) &&& (3 : Int32))), .val (.ref a187), .unset, .unset, .unset] [(.int (0 : Int32))])
        refine own_byH (fun _ k => XS.ifNo X215.here hx rfl (hb hby at_171) rfl ((if0 _ _).trans (teq (by decide : (0 : Int32) = (0 : Int32))).2) k) ?_
        show own_FinH p e below s Z consts_1 h0 _ _ _ T215 (mkF m 174 #[.val (.int p1), .val (.int p2), .val (.int p3), .val (.int p4), .val (.int n1), .val (.int c0), .val (.int c1), .val (.int m2), .val (.int d0), .val (.int d1), .val (.ref t185), .val (.ref t186), .val (.ref a187), .val (.ref a190), .val (.ref b193), .val (.int (((p4.toUInt32 >>> ((1 : Int32) &&& 31).toUInt32).toInt32) &&& (3 : Int32))), .val (.ref a187), .unset, .unset, .unset] [])
        refine own_byH (fun _ k => XS.aload X215.here hx rfl (hb hby at_174) rfl rfl (XS.aload X215.here hx rfl (hb hby at_176) rfl rfl k)) ?_
        show own_FinH p e below s Z consts_1 h0 _ _ _ T215 (mkF m 178 #[.val (.int p1), .val (.int p2), .val (.int p3), .val (.int p4), .val (.int n1), .val (.int c0), .val (.int c1), .val (.int m2), .val (.int d0), .val (.int d1), .val (.ref t185), .val (.ref t186), .val (.ref a187), .val (.ref a190), .val (.ref b193), .val (.int (((p4.toUInt32 >>> ((1 : Int32) &&& 31).toUInt32).toInt32) &&& (3 : Int32))), .val (.ref a187), .unset, .unset, .unset] [(.ref b193), (.ref b193)])
        obtain ⟨cq216, kq216, q216a, q216b, q216c⟩ := isOf hZ eh215 f198_10
        obtain ⟨_, _, ⟨T216, L216, k216, n216⟩, -, X216, ⟨Lc216, hQ216, l216, y216, z216⟩, st216⟩ := X215.virtualBack hx (y := (⟨"com/example/hinta/hinta/ctmc/Reward", "equals", "(Ljava/lang/Object;)Z"⟩ : MethodName)) (z := (⟨"com/example/hinta/hinta/ctmc/Reward", "equals", "(Ljava/lang/Object;)Z"⟩ : MethodName)) hown (mvT hZ (hw _ (List.mem_of_getElem? (i := 48) rfl))) (mvT hZ (hw _ (List.mem_of_getElem? (i := 49) rfl))) (notFace_of_selects (args := #[]) (mvT hZ (hw _ (List.mem_of_getElem? (i := 51) rfl)))) (mvT hZ (hw _ (List.mem_of_getElem? (i := 51) rfl))) (mvT hZ (hw _ (List.mem_of_getElem? (i := 50) rfl))) (by decide) (backOf (W := 0) (rmRr l Z a0 hw [] b193 a187 t185 T196.heap n0 Zs196 f198_10 Gn196 Gk196 f198_1) hZ (hw _ (List.mem_of_getElem? (i := 52) rfl)) (hw _ (List.mem_of_getElem? (i := 36) rfl)) (by decide) (by decide)) q216a q216c (g := (mkF m 178 #[.val (.int p1), .val (.int p2), .val (.int p3), .val (.int p4), .val (.int n1), .val (.int c0), .val (.int c1), .val (.int m2), .val (.int d0), .val (.int d1), .val (.ref t185), .val (.ref t186), .val (.ref a187), .val (.ref a190), .val (.ref b193), .val (.int (((p4.toUInt32 >>> ((1 : Int32) &&& 31).toUInt32).toInt32) &&& (3 : Int32))), .val (.ref a187), .unset, .unset, .unset] [(.ref b193), (.ref b193)])) rfl (by rw [hml]; rfl) (Steps.refl _) (argsL := [(.ref b193)]) (rest := []) (lenOf own_pd293 rfl) rfl (by show 2 * 0 + _ ≤ _; exact Nat.le_of_eq rfl) (hb hby at_178) (fun _ _ => ⟨rfl, eh215, (by decide : 13 + 0 ≤ _), (by decide : 26 + 0 ≤ _)⟩)
        dsimp only [Pt.U, Pt.locs, Pt.cells, Pt.slots] at X216 l216 y216 z216 st216 hQ216
        subst l216 y216 z216
        obtain ⟨rfl, Nq216, eh216⟩ := hQ216
        have N216 := Fr.app N215 Nq216
        refine own_byH (fun _ k => st216.trans k) ?_
        show own_FinH p e below s Z consts_1 h0 _ _ _ T216 (mkF m 181 #[.val (.int p1), .val (.int p2), .val (.int p3), .val (.int p4), .val (.int n1), .val (.int c0), .val (.int c1), .val (.int m2), .val (.int d0), .val (.int d1), .val (.ref t185), .val (.ref t186), .val (.ref a187), .val (.ref a190), .val (.ref b193), .val (.int (((p4.toUInt32 >>> ((1 : Int32) &&& 31).toUInt32).toInt32) &&& (3 : Int32))), .val (.ref a187), .unset, .unset, .unset] [(.int (1 : Int32))])
        refine own_byH (fun _ k => XS.ifNo X216.here hx rfl (hb hby at_181) rfl ((if0 _ _).trans (feq (by decide : ¬ ((1 : Int32) = (0 : Int32)))).1) k) ?_
        show own_FinH p e below s Z consts_1 h0 _ _ _ T216 (mkF m 184 #[.val (.int p1), .val (.int p2), .val (.int p3), .val (.int p4), .val (.int n1), .val (.int c0), .val (.int c1), .val (.int m2), .val (.int d0), .val (.int d1), .val (.ref t185), .val (.ref t186), .val (.ref a187), .val (.ref a190), .val (.ref b193), .val (.int (((p4.toUInt32 >>> ((1 : Int32) &&& 31).toUInt32).toInt32) &&& (3 : Int32))), .val (.ref a187), .unset, .unset, .unset] [])
        refine own_byH (fun _ k => XS.iconst X216.here hx rfl (hb hby at_184) (XS.goto X216.here hx rfl (pc0 := 185) (pc' := 189) rfl (hb hby at_185) (by decide) (by decide) k)) ?_
        show own_FinH p e below s Z consts_1 h0 _ _ _ T216 (mkF m 189 #[.val (.int p1), .val (.int p2), .val (.int p3), .val (.int p4), .val (.int n1), .val (.int c0), .val (.int c1), .val (.int m2), .val (.int d0), .val (.int d1), .val (.ref t185), .val (.ref t186), .val (.ref a187), .val (.ref a190), .val (.ref b193), .val (.int (((p4.toUInt32 >>> ((1 : Int32) &&& 31).toUInt32).toInt32) &&& (3 : Int32))), .val (.ref a187), .unset, .unset, .unset] [(.int (1 : Int32))])
        have CHe217 : CHr Z consts_1 s.vm h0 T216.vm T196.heap := CHs197.trans (CHv.at X216 hZ (own_EW hw) CHs197.1)
        exact own_retZH X216 hS190 (by rw [eh216]; exact hkE196) (by rw [eh216]; exact CHe217) hx hlk (t := .boolean) Bd.returns (by simp) (hb hby at_189) ⟨rfl, N216⟩ (by decide) (by decide)
      · show own_FinH p e below s Z consts_1 h0 _ _ _ T196 (mkF m 157 #[.val (.int p1), .val (.int p2), .val (.int p3), .val (.int p4), .val (.int n1), .val (.int c0), .val (.int c1), .val (.int m2), .val (.int d0), .val (.int d1), .val (.ref t185), .val (.ref t186), .val (.ref a187), .val (.ref a190), .val (.ref b193), .val (.int (((p4.toUInt32 >>> ((1 : Int32) &&& 31).toUInt32).toInt32) &&& (3 : Int32))), .val .null, .unset, .unset, .unset] [(.int (2 : Int32)), (.int (((p4.toUInt32 >>> ((1 : Int32) &&& 31).toUInt32).toInt32) &&& (3 : Int32)))])
        refine own_byH (fun _ k => XS.icmpYes X196.here hx rfl (pc0 := 157) (pc' := 164) rfl (hb hby at_157) rfl (feq hc157_214).2 (by decide) (by decide) k) ?_
        show own_FinH p e below s Z consts_1 h0 _ _ _ T196 (mkF m 164 #[.val (.int p1), .val (.int p2), .val (.int p3), .val (.int p4), .val (.int n1), .val (.int c0), .val (.int c1), .val (.int m2), .val (.int d0), .val (.int d1), .val (.ref t185), .val (.ref t186), .val (.ref a187), .val (.ref a190), .val (.ref b193), .val (.int (((p4.toUInt32 >>> ((1 : Int32) &&& 31).toUInt32).toInt32) &&& (3 : Int32))), .val .null, .unset, .unset, .unset] [])
        refine own_byH (fun _ k => XS.aload X196.here hx rfl (hb hby at_164) rfl rfl (XS.aload X196.here hx rfl (hb hby at_166) rfl rfl k)) ?_
        show own_FinH p e below s Z consts_1 h0 _ _ _ T196 (mkF m 168 #[.val (.int p1), .val (.int p2), .val (.int p3), .val (.int p4), .val (.int n1), .val (.int c0), .val (.int c1), .val (.int m2), .val (.int d0), .val (.int d1), .val (.ref t185), .val (.ref t186), .val (.ref a187), .val (.ref a190), .val (.ref b193), .val (.int (((p4.toUInt32 >>> ((1 : Int32) &&& 31).toUInt32).toInt32) &&& (3 : Int32))), .val .null, .unset, .unset, .unset] [.null, (.ref b193)])
        obtain ⟨cq218, kq218, q218a, q218b, q218c⟩ := isOf hZ rfl f198_10
        obtain ⟨_, _, ⟨T218, L218, k218, n218⟩, -, X218, ⟨Lc218, hQ218, l218, y218, z218⟩, st218⟩ := X196.virtualBack hx (y := (⟨"com/example/hinta/hinta/ctmc/Reward", "equals", "(Ljava/lang/Object;)Z"⟩ : MethodName)) (z := (⟨"com/example/hinta/hinta/ctmc/Reward", "equals", "(Ljava/lang/Object;)Z"⟩ : MethodName)) hown (mvT hZ (hw _ (List.mem_of_getElem? (i := 48) rfl))) (mvT hZ (hw _ (List.mem_of_getElem? (i := 49) rfl))) (notFace_of_selects (args := #[]) (mvT hZ (hw _ (List.mem_of_getElem? (i := 51) rfl)))) (mvT hZ (hw _ (List.mem_of_getElem? (i := 51) rfl))) (mvT hZ (hw _ (List.mem_of_getElem? (i := 50) rfl))) (by decide) (backOf (W := 0) (rmRn l Z a0 hw [] b193 T196.heap n0 Zs196 ) hZ (hw _ (List.mem_of_getElem? (i := 52) rfl)) (hw _ (List.mem_of_getElem? (i := 36) rfl)) (by decide) (by decide)) q218a q218c (g := (mkF m 168 #[.val (.int p1), .val (.int p2), .val (.int p3), .val (.int p4), .val (.int n1), .val (.int c0), .val (.int c1), .val (.int m2), .val (.int d0), .val (.int d1), .val (.ref t185), .val (.ref t186), .val (.ref a187), .val (.ref a190), .val (.ref b193), .val (.int (((p4.toUInt32 >>> ((1 : Int32) &&& 31).toUInt32).toInt32) &&& (3 : Int32))), .val .null, .unset, .unset, .unset] [.null, (.ref b193)])) rfl (by rw [hml]; rfl) (Steps.refl _) (argsL := [.null]) (rest := []) (lenOf own_pd293 rfl) rfl (by show 2 * 0 + _ ≤ _; exact Nat.le_of_eq rfl) (hb hby at_168) (fun _ _ => ⟨rfl, rfl, (by decide : 13 + 0 ≤ _), (by decide : 26 + 0 ≤ _)⟩)
        dsimp only [Pt.U, Pt.locs, Pt.cells, Pt.slots] at X218 l218 y218 z218 st218 hQ218
        subst l218 y218 z218
        obtain ⟨rfl, Nq218, eh218⟩ := hQ218
        have N218 := Fr.app N196 Nq218
        refine own_byH (fun _ k => st218.trans k) ?_
        show own_FinH p e below s Z consts_1 h0 _ _ _ T218 (mkF m 171 #[.val (.int p1), .val (.int p2), .val (.int p3), .val (.int p4), .val (.int n1), .val (.int c0), .val (.int c1), .val (.int m2), .val (.int d0), .val (.int d1), .val (.ref t185), .val (.ref t186), .val (.ref a187), .val (.ref a190), .val (.ref b193), .val (.int (((p4.toUInt32 >>> ((1 : Int32) &&& 31).toUInt32).toInt32) &&& (3 : Int32))), .val .null, .unset, .unset, .unset] [(.int (0 : Int32))])
        refine own_byH (fun _ k => XS.ifNo X218.here hx rfl (hb hby at_171) rfl ((if0 _ _).trans (teq (by decide : (0 : Int32) = (0 : Int32))).2) k) ?_
        show own_FinH p e below s Z consts_1 h0 _ _ _ T218 (mkF m 174 #[.val (.int p1), .val (.int p2), .val (.int p3), .val (.int p4), .val (.int n1), .val (.int c0), .val (.int c1), .val (.int m2), .val (.int d0), .val (.int d1), .val (.ref t185), .val (.ref t186), .val (.ref a187), .val (.ref a190), .val (.ref b193), .val (.int (((p4.toUInt32 >>> ((1 : Int32) &&& 31).toUInt32).toInt32) &&& (3 : Int32))), .val .null, .unset, .unset, .unset] [])
        refine own_byH (fun _ k => XS.aload X218.here hx rfl (hb hby at_174) rfl rfl (XS.aload X218.here hx rfl (hb hby at_176) rfl rfl k)) ?_
        show own_FinH p e below s Z consts_1 h0 _ _ _ T218 (mkF m 178 #[.val (.int p1), .val (.int p2), .val (.int p3), .val (.int p4), .val (.int n1), .val (.int c0), .val (.int c1), .val (.int m2), .val (.int d0), .val (.int d1), .val (.ref t185), .val (.ref t186), .val (.ref a187), .val (.ref a190), .val (.ref b193), .val (.int (((p4.toUInt32 >>> ((1 : Int32) &&& 31).toUInt32).toInt32) &&& (3 : Int32))), .val .null, .unset, .unset, .unset] [(.ref b193), (.ref b193)])
        obtain ⟨cq219, kq219, q219a, q219b, q219c⟩ := isOf hZ eh218 f198_10
        obtain ⟨_, _, ⟨T219, L219, k219, n219⟩, -, X219, ⟨Lc219, hQ219, l219, y219, z219⟩, st219⟩ := X218.virtualBack hx (y := (⟨"com/example/hinta/hinta/ctmc/Reward", "equals", "(Ljava/lang/Object;)Z"⟩ : MethodName)) (z := (⟨"com/example/hinta/hinta/ctmc/Reward", "equals", "(Ljava/lang/Object;)Z"⟩ : MethodName)) hown (mvT hZ (hw _ (List.mem_of_getElem? (i := 48) rfl))) (mvT hZ (hw _ (List.mem_of_getElem? (i := 49) rfl))) (notFace_of_selects (args := #[]) (mvT hZ (hw _ (List.mem_of_getElem? (i := 51) rfl)))) (mvT hZ (hw _ (List.mem_of_getElem? (i := 51) rfl))) (mvT hZ (hw _ (List.mem_of_getElem? (i := 50) rfl))) (by decide) (backOf (W := 0) (rmRr l Z a0 hw [] b193 a187 t185 T196.heap n0 Zs196 f198_10 Gn196 Gk196 f198_1) hZ (hw _ (List.mem_of_getElem? (i := 52) rfl)) (hw _ (List.mem_of_getElem? (i := 36) rfl)) (by decide) (by decide)) q219a q219c (g := (mkF m 178 #[.val (.int p1), .val (.int p2), .val (.int p3), .val (.int p4), .val (.int n1), .val (.int c0), .val (.int c1), .val (.int m2), .val (.int d0), .val (.int d1), .val (.ref t185), .val (.ref t186), .val (.ref a187), .val (.ref a190), .val (.ref b193), .val (.int (((p4.toUInt32 >>> ((1 : Int32) &&& 31).toUInt32).toInt32) &&& (3 : Int32))), .val .null, .unset, .unset, .unset] [(.ref b193), (.ref b193)])) rfl (by rw [hml]; rfl) (Steps.refl _) (argsL := [(.ref b193)]) (rest := []) (lenOf own_pd293 rfl) rfl (by show 2 * 0 + _ ≤ _; exact Nat.le_of_eq rfl) (hb hby at_178) (fun _ _ => ⟨rfl, eh218, (by decide : 13 + 0 ≤ _), (by decide : 26 + 0 ≤ _)⟩)
        dsimp only [Pt.U, Pt.locs, Pt.cells, Pt.slots] at X219 l219 y219 z219 st219 hQ219
        subst l219 y219 z219
        obtain ⟨rfl, Nq219, eh219⟩ := hQ219
        have N219 := Fr.app N218 Nq219
        refine own_byH (fun _ k => st219.trans k) ?_
        show own_FinH p e below s Z consts_1 h0 _ _ _ T219 (mkF m 181 #[.val (.int p1), .val (.int p2), .val (.int p3), .val (.int p4), .val (.int n1), .val (.int c0), .val (.int c1), .val (.int m2), .val (.int d0), .val (.int d1), .val (.ref t185), .val (.ref t186), .val (.ref a187), .val (.ref a190), .val (.ref b193), .val (.int (((p4.toUInt32 >>> ((1 : Int32) &&& 31).toUInt32).toInt32) &&& (3 : Int32))), .val .null, .unset, .unset, .unset] [(.int (1 : Int32))])
        refine own_byH (fun _ k => XS.ifNo X219.here hx rfl (hb hby at_181) rfl ((if0 _ _).trans (feq (by decide : ¬ ((1 : Int32) = (0 : Int32)))).1) k) ?_
        show own_FinH p e below s Z consts_1 h0 _ _ _ T219 (mkF m 184 #[.val (.int p1), .val (.int p2), .val (.int p3), .val (.int p4), .val (.int n1), .val (.int c0), .val (.int c1), .val (.int m2), .val (.int d0), .val (.int d1), .val (.ref t185), .val (.ref t186), .val (.ref a187), .val (.ref a190), .val (.ref b193), .val (.int (((p4.toUInt32 >>> ((1 : Int32) &&& 31).toUInt32).toInt32) &&& (3 : Int32))), .val .null, .unset, .unset, .unset] [])
        refine own_byH (fun _ k => XS.iconst X219.here hx rfl (hb hby at_184) (XS.goto X219.here hx rfl (pc0 := 185) (pc' := 189) rfl (hb hby at_185) (by decide) (by decide) k)) ?_
        show own_FinH p e below s Z consts_1 h0 _ _ _ T219 (mkF m 189 #[.val (.int p1), .val (.int p2), .val (.int p3), .val (.int p4), .val (.int n1), .val (.int c0), .val (.int c1), .val (.int m2), .val (.int d0), .val (.int d1), .val (.ref t185), .val (.ref t186), .val (.ref a187), .val (.ref a190), .val (.ref b193), .val (.int (((p4.toUInt32 >>> ((1 : Int32) &&& 31).toUInt32).toInt32) &&& (3 : Int32))), .val .null, .unset, .unset, .unset] [(.int (1 : Int32))])
        have CHe220 : CHr Z consts_1 s.vm h0 T219.vm T196.heap := CHs197.trans (CHv.at X219 hZ (own_EW hw) CHs197.1)
        exact own_retZH X219 hS190 (by rw [eh219]; exact hkE196) (by rw [eh219]; exact CHe220) hx hlk (t := .boolean) Bd.returns (by simp) (hb hby at_189) ⟨rfl, N219⟩ (by decide) (by decide)
  show own_FinH p e below s Z consts_1 h0 _ _ _ s₁ (mkF m 28 #[.val (.int p1), .val (.int p2), .val (.int p3), .val (.int p4), .val (.int n1), .val (.int c0), .val (.int c1), .unset, .unset, .unset, .unset, .unset, .unset, .unset, .unset, .unset, .unset, .unset, .unset, .unset] [])
  refine own_byH (fun _ k => XS.iloadN X0.here hx rfl (hb hby at_28) rfl (XS.iconst X0.here hx rfl (hb hby at_29) (XS.iand X0.here hx rfl (hb hby at_30) rfl k))) ?_
  show own_FinH p e below s Z consts_1 h0 _ _ _ s₁ (mkF m 31 #[.val (.int p1), .val (.int p2), .val (.int p3), .val (.int p4), .val (.int n1), .val (.int c0), .val (.int c1), .unset, .unset, .unset, .unset, .unset, .unset, .unset, .unset, .unset, .unset, .unset, .unset, .unset] [(.int (p4 &&& (1 : Int32)))])
  by_cases hc31_221 : (p4 &&& (1 : Int32)) = (0 : Int32)
  · show own_FinH p e below s Z consts_1 h0 _ _ _ s₁ (mkF m 31 #[.val (.int p1), .val (.int p2), .val (.int p3), .val (.int p4), .val (.int n1), .val (.int c0), .val (.int c1), .unset, .unset, .unset, .unset, .unset, .unset, .unset, .unset, .unset, .unset, .unset, .unset, .unset] [(.int (p4 &&& (1 : Int32)))])
    refine own_byH (fun _ k => XS.ifYes X0.here hx rfl (pc0 := 31) (pc' := 49) rfl (hb hby at_31) rfl ((if0 _ _).trans (teq hc31_221).1) (by decide) (by decide) k) ?_
    show own_FinH p e below s Z consts_1 h0 _ _ _ s₁ (mkF m 49 #[.val (.int p1), .val (.int p2), .val (.int p3), .val (.int p4), .val (.int n1), .val (.int c0), .val (.int c1), .unset, .unset, .unset, .unset, .unset, .unset, .unset, .unset, .unset, .unset, .unset, .unset, .unset] [])
    refine own_byH (fun _ k => XS.iloadN X0.here hx rfl (hb hby at_49) rfl (XS.iconst X0.here hx rfl (hb hby at_50) (XS.iand X0.here hx rfl (hb hby at_51) rfl (XS.iconst X0.here hx rfl (hb hby at_52) (iremM X0 hx rfl (hb hby at_53) rfl (by decide) k))))) ?_
    show own_FinH p e below s Z consts_1 h0 _ _ _ s₁ (mkF m 54 #[.val (.int p1), .val (.int p2), .val (.int p3), .val (.int p4), .val (.int n1), .val (.int c0), .val (.int c1), .unset, .unset, .unset, .unset, .unset, .unset, .unset, .unset, .unset, .unset, .unset, .unset, .unset] [(.int ((p2 &&& (3 : Int32)) % (3 : Int32)))])
    obtain ⟨g2, eg2, hg2⟩ : ∃ z : Int32, ((p2 &&& (3 : Int32)) % (3 : Int32)) = z ∧ own_n3 z := ⟨_, rfl, own_rem3 p2⟩
    rw [eg2]
    show own_FinH p e below s Z consts_1 h0 _ _ _ s₁ (mkF m 54 #[.val (.int p1), .val (.int p2), .val (.int p3), .val (.int p4), .val (.int n1), .val (.int c0), .val (.int c1), .unset, .unset, .unset, .unset, .unset, .unset, .unset, .unset, .unset, .unset, .unset, .unset, .unset] [(.int g2)])
    refine own_byH (fun _ k => XS.istore X0.here hx rfl (hb hby at_54) rfl (l' := #[.val (.int p1), .val (.int p2), .val (.int p3), .val (.int p4), .val (.int n1), .val (.int c0), .val (.int c1), .val (.int g2), .unset, .unset, .unset, .unset, .unset, .unset, .unset, .unset, .unset, .unset, .unset, .unset]) rfl (XS.iloadN X0.here hx rfl (hb hby at_56) rfl (XS.iconst X0.here hx rfl (hb hby at_57) (XS.iushr X0.here hx rfl (hb hby at_58) rfl (XS.sipush X0.here hx rfl (hb hby at_59) (XS.iand X0.here hx rfl (hb hby at_62) rfl (XS.i2c X0.here hx rfl (hb hby at_63) rfl k))))))) ?_
    show own_FinH p e below s Z consts_1 h0 _ _ _ s₁ (mkF m 64 #[.val (.int p1), .val (.int p2), .val (.int p3), .val (.int p4), .val (.int n1), .val (.int c0), .val (.int c1), .val (.int g2), .unset, .unset, .unset, .unset, .unset, .unset, .unset, .unset, .unset, .unset, .unset, .unset] [(.int ((((p2.toUInt32 >>> ((2 : Int32) &&& 31).toUInt32).toInt32) &&& (255 : Int32)).toUInt32.toUInt16.toUInt32.toInt32))])
    obtain ⟨g0, eg0, hg0⟩ : ∃ z : Int32, ((((p2.toUInt32 >>> ((2 : Int32) &&& 31).toUInt32).toInt32) &&& (255 : Int32)).toUInt32.toUInt16.toUInt32.toInt32) = z ∧ own_chr z := ⟨_, rfl, own_isch _⟩
    rw [eg0]
    show own_FinH p e below s Z consts_1 h0 _ _ _ s₁ (mkF m 64 #[.val (.int p1), .val (.int p2), .val (.int p3), .val (.int p4), .val (.int n1), .val (.int c0), .val (.int c1), .val (.int g2), .unset, .unset, .unset, .unset, .unset, .unset, .unset, .unset, .unset, .unset, .unset, .unset] [(.int g0)])
    refine own_byH (fun _ k => XS.istore X0.here hx rfl (hb hby at_64) rfl (l' := #[.val (.int p1), .val (.int p2), .val (.int p3), .val (.int p4), .val (.int n1), .val (.int c0), .val (.int c1), .val (.int g2), .val (.int g0), .unset, .unset, .unset, .unset, .unset, .unset, .unset, .unset, .unset, .unset, .unset]) rfl (XS.iloadN X0.here hx rfl (hb hby at_66) rfl (XS.bipush X0.here hx rfl (hb hby at_67) (XS.iushr X0.here hx rfl (hb hby at_69) rfl (XS.sipush X0.here hx rfl (hb hby at_70) (XS.iand X0.here hx rfl (hb hby at_73) rfl (XS.i2c X0.here hx rfl (hb hby at_74) rfl k))))))) ?_
    show own_FinH p e below s Z consts_1 h0 _ _ _ s₁ (mkF m 75 #[.val (.int p1), .val (.int p2), .val (.int p3), .val (.int p4), .val (.int n1), .val (.int c0), .val (.int c1), .val (.int g2), .val (.int g0), .unset, .unset, .unset, .unset, .unset, .unset, .unset, .unset, .unset, .unset, .unset] [(.int ((((p2.toUInt32 >>> ((10 : Int32) &&& 31).toUInt32).toInt32) &&& (255 : Int32)).toUInt32.toUInt16.toUInt32.toInt32))])
    obtain ⟨g1, eg1, hg1⟩ : ∃ z : Int32, ((((p2.toUInt32 >>> ((10 : Int32) &&& 31).toUInt32).toInt32) &&& (255 : Int32)).toUInt32.toUInt16.toUInt32.toInt32) = z ∧ own_chr z := ⟨_, rfl, own_isch _⟩
    rw [eg1]
    show own_FinH p e below s Z consts_1 h0 _ _ _ s₁ (mkF m 75 #[.val (.int p1), .val (.int p2), .val (.int p3), .val (.int p4), .val (.int n1), .val (.int c0), .val (.int c1), .val (.int g2), .val (.int g0), .unset, .unset, .unset, .unset, .unset, .unset, .unset, .unset, .unset, .unset, .unset] [(.int g1)])
    refine own_byH (fun _ k => XS.istore X0.here hx rfl (hb hby at_75) rfl (l' := #[.val (.int p1), .val (.int p2), .val (.int p3), .val (.int p4), .val (.int n1), .val (.int c0), .val (.int c1), .val (.int g2), .val (.int g0), .val (.int g1), .unset, .unset, .unset, .unset, .unset, .unset, .unset, .unset, .unset, .unset]) rfl k) ?_
    show own_FinH p e below s Z consts_1 h0 _ _ _ s₁ (mkF m 77 #[.val (.int p1), .val (.int p2), .val (.int p3), .val (.int p4), .val (.int n1), .val (.int c0), .val (.int c1), .val (.int g2), .val (.int g0), .val (.int g1), .unset, .unset, .unset, .unset, .unset, .unset, .unset, .unset, .unset, .unset] [])
    exact J77_184 (g2) (g0) (g1) (by assumption) (by assumption) (by assumption)
  · show own_FinH p e below s Z consts_1 h0 _ _ _ s₁ (mkF m 31 #[.val (.int p1), .val (.int p2), .val (.int p3), .val (.int p4), .val (.int n1), .val (.int c0), .val (.int c1), .unset, .unset, .unset, .unset, .unset, .unset, .unset, .unset, .unset, .unset, .unset, .unset, .unset] [(.int (p4 &&& (1 : Int32)))])
    refine own_byH (fun _ k => XS.ifNo X0.here hx rfl (hb hby at_31) rfl ((if0 _ _).trans (feq hc31_221).1) k) ?_
    show own_FinH p e below s Z consts_1 h0 _ _ _ s₁ (mkF m 34 #[.val (.int p1), .val (.int p2), .val (.int p3), .val (.int p4), .val (.int n1), .val (.int c0), .val (.int c1), .unset, .unset, .unset, .unset, .unset, .unset, .unset, .unset, .unset, .unset, .unset, .unset, .unset] [])
    refine own_byH (fun _ k => XS.iload X0.here hx rfl (hb hby at_34) rfl (XS.istore X0.here hx rfl (hb hby at_36) rfl (l' := #[.val (.int p1), .val (.int p2), .val (.int p3), .val (.int p4), .val (.int n1), .val (.int c0), .val (.int c1), .val (.int n1), .unset, .unset, .unset, .unset, .unset, .unset, .unset, .unset, .unset, .unset, .unset, .unset]) rfl (XS.iload X0.here hx rfl (hb hby at_38) rfl (XS.istore X0.here hx rfl (hb hby at_40) rfl (l' := #[.val (.int p1), .val (.int p2), .val (.int p3), .val (.int p4), .val (.int n1), .val (.int c0), .val (.int c1), .val (.int n1), .val (.int c0), .unset, .unset, .unset, .unset, .unset, .unset, .unset, .unset, .unset, .unset, .unset]) rfl (XS.iload X0.here hx rfl (hb hby at_42) rfl (XS.istore X0.here hx rfl (hb hby at_44) rfl (l' := #[.val (.int p1), .val (.int p2), .val (.int p3), .val (.int p4), .val (.int n1), .val (.int c0), .val (.int c1), .val (.int n1), .val (.int c0), .val (.int c1), .unset, .unset, .unset, .unset, .unset, .unset, .unset, .unset, .unset, .unset]) rfl (XS.goto X0.here hx rfl (pc0 := 46) (pc' := 77) rfl (hb hby at_46) (by decide) (by decide) k))))))) ?_
    show own_FinH p e below s Z consts_1 h0 _ _ _ s₁ (mkF m 77 #[.val (.int p1), .val (.int p2), .val (.int p3), .val (.int p4), .val (.int n1), .val (.int c0), .val (.int c1), .val (.int n1), .val (.int c0), .val (.int c1), .unset, .unset, .unset, .unset, .unset, .unset, .unset, .unset, .unset, .unset] [])
    exact J77_184 (n1) (c0) (c1) (by assumption) (by assumption) (by assumption)
set_option maxRecDepth 65536 in
set_option maxHeartbeats 40000000 in
theorem comes_1 {Post : Tables → Env → Array Value → State → Outcome → State → Prop} (hpost : ∀ tb e args s v u, (limb_1_1.after args s (.returned v) u = true ∧ limb_1_2.after args s (.returned v) u = true ∧ True) → ReturnedEndW s (.returned v) u (Jvm.fieldLocs frame_1_writes args s ++ Jvm.arrayLocs frame_1_arrays args s ++ Jvm.staticLocs frame_1_statics s) 32 1152 → Post tb e args s (.returned v) u) :
    ArmFor flags0 classFile x code maxLocals ret World_1 tables_1 room_1 Calls_1 rest_1 Pre_1 Post := by
  intro l hfl _ _ p e ha hc hk s m args below hf hA hF happ hP
  obtain ⟨hcalls, hrest, hpre⟩ := hP
  obtain ⟨-, -, -, hnamed, -, -, -, hat⟩ := (Spec.applies_iff hf).mp happ
  obtain ⟨hg, hn⟩ := and_e (Cond.before_iff.mp (show (Jvm.Cond.and given_1 narrow_1).before args s = true from hpre))
  obtain ⟨gc, gr0⟩ := and_e hg
  obtain ⟨ga0, gr1⟩ := and_e gr0
  obtain ⟨ga1, gr2⟩ := and_e gr1
  obtain ⟨ga2, gr3⟩ := and_e gr2
  obtain ⟨w0, w1, w2, w3, rfl⟩ : ∃ w0 w1 w2 w3 : Value, args = #[w0, w1, w2, w3] := by
    have hs : args.size = 4 := by simpa [Cond.value, given_1] using gc
    obtain ⟨L⟩ := args
    match L, hs with
    | [w0, w1, w2, w3], _ => exact ⟨w0, w1, w2, w3, rfl⟩
  have hw := fun d (hd : d ∈ tables_1) => atoms_spec (ws := Jvm.Cond.code x code maxLocals ret :: tables_1) hat d (List.mem_cons_of_mem _ hd)
  obtain ⟨hsets, hown0⟩ := atoms_of _ (rest_1_c_eq ▸ (show rest_1_c.before _ s = true from hrest))
  have hr0 := Cond.before_iff.mp hown0
  have hfit : Fit s := fun {y c} hc i hi => by
    obtain ⟨ha, rfl⟩ := Array.getElem?_eq_some_iff.mp hc
    have q := List.all_eq_true.mp ((Array.all_eq_true_iff_forall_mem.mp hF) _ (Array.getElem_mem ha)) i (List.mem_range.mpr hi)
    simpa [Array.getElem?_eq_getElem hi] using q
  obtain ⟨i0, ei0⟩ := is_v ga0
  obtain rfl : w0 = (.int i0) := Option.some.inj ei0
  obtain ⟨i1, ei1⟩ := is_v ga1
  obtain rfl : w1 = (.int i1) := Option.some.inj ei1
  obtain ⟨i2, ei2⟩ := is_v ga2
  obtain rfl : w2 = (.int i2) := Option.some.inj ei2
  obtain ⟨i3, ei3⟩ := is_v gr3
  obtain rfl : w3 = (.int i3) := Option.some.inj ei3
  obtain ⟨q0, r0⟩ := and_e hn
  obtain ⟨q1, r1⟩ := and_e r0
  obtain ⟨q2, r2⟩ := and_e r1
  obtain ⟨q3, r3⟩ := and_e r2
  obtain ⟨q4, r4⟩ := and_e r3
  obtain ⟨q5, r5⟩ := and_e r4
  obtain ⟨q6, r6⟩ := and_e r5
  obtain ⟨q7, r7⟩ := and_e r6
  obtain ⟨q8, r8⟩ := and_e r7
  obtain ⟨q9, r9⟩ := and_e r8
  obtain ⟨q10, r10⟩ := and_e r9
  obtain ⟨q11, r11⟩ := and_e r10
  obtain ⟨q12, r12⟩ := and_e r11
  obtain ⟨q13, r13⟩ := and_e r12
  obtain ⟨q14, r14⟩ := and_e r13
  obtain ⟨q15, r15⟩ := and_e r14
  obtain ⟨q16, r16⟩ := and_e r15
  have q17 := r16
  obtain ⟨k0, ek0⟩ := exa_v q1
  have sk0 : Sta s s.heap "com/example/hinta/hinta/lts/Kind" "SEND" "Lcom/example/hinta/hinta/lts/Kind;" (.ref k0) := Sta.start ek0 (Or.inr ⟨(hw _ (List.mem_of_getElem? (i := 5) rfl)), (hw _ (List.mem_of_getElem? (i := 8) rfl))⟩)
  obtain ⟨k1, ek1⟩ := exa_v q11
  have sk1 : Sta s s.heap "com/example/hinta/hinta/lts/Kind" "RECEIVE" "Lcom/example/hinta/hinta/lts/Kind;" (.ref k1) := Sta.start ek1 (Or.inr ⟨(hw _ (List.mem_of_getElem? (i := 5) rfl)), (hw _ (List.mem_of_getElem? (i := 87) rfl))⟩)
  obtain ⟨k2, ek2⟩ := exa_v q0
  have sk2 : Sta s s.heap "com/example/hinta/hinta/lts/Kind" "STORE" "Lcom/example/hinta/hinta/lts/Kind;" (.ref k2) := Sta.start ek2 (Or.inr ⟨(hw _ (List.mem_of_getElem? (i := 5) rfl)), (hw _ (List.mem_of_getElem? (i := 6) rfl))⟩)
  obtain ⟨k3, ek3⟩ := exa_v q8
  have sk3 : Sta s s.heap "com/example/hinta/hinta/lts/Kind" "DECRYPT" "Lcom/example/hinta/hinta/lts/Kind;" (.ref k3) := Sta.start ek3 (Or.inr ⟨(hw _ (List.mem_of_getElem? (i := 5) rfl)), (hw _ (List.mem_of_getElem? (i := 71) rfl))⟩)
  obtain ⟨k4, ek4⟩ := exa_v q4
  have sk4 : Sta s s.heap "com/example/hinta/hinta/lts/Kind" "TEST" "Lcom/example/hinta/hinta/lts/Kind;" (.ref k4) := Sta.start ek4 (Or.inr ⟨(hw _ (List.mem_of_getElem? (i := 5) rfl)), (hw _ (List.mem_of_getElem? (i := 67) rfl))⟩)
  obtain ⟨k5, ek5⟩ := exa_v q9
  have sk5 : Sta s s.heap "com/example/hinta/hinta/lts/Kind" "TRIGGER" "Lcom/example/hinta/hinta/lts/Kind;" (.ref k5) := Sta.start ek5 (Or.inr ⟨(hw _ (List.mem_of_getElem? (i := 5) rfl)), (hw _ (List.mem_of_getElem? (i := 73) rfl))⟩)
  obtain ⟨k6, ek6⟩ := exa_v q10
  have sk6 : Sta s s.heap "com/example/hinta/hinta/lts/Kind" "ACT" "Lcom/example/hinta/hinta/lts/Kind;" (.ref k6) := Sta.start ek6 (Or.inr ⟨(hw _ (List.mem_of_getElem? (i := 5) rfl)), (hw _ (List.mem_of_getElem? (i := 85) rfl))⟩)
  obtain ⟨k7, ek7⟩ := exa_v q12
  have sk7 : Sta s s.heap "com/example/hinta/hinta/lts/Kind" "SENSE" "Lcom/example/hinta/hinta/lts/Kind;" (.ref k7) := Sta.start ek7 (Or.inr ⟨(hw _ (List.mem_of_getElem? (i := 5) rfl)), (hw _ (List.mem_of_getElem? (i := 91) rfl))⟩)
  obtain ⟨k8, ek8⟩ := exa_v q6
  have sk8 : Sta s s.heap "com/example/hinta/hinta/lts/Kind" "INTERNAL" "Lcom/example/hinta/hinta/lts/Kind;" (.ref k8) := Sta.start ek8 (Or.inr ⟨(hw _ (List.mem_of_getElem? (i := 5) rfl)), (hw _ (List.mem_of_getElem? (i := 69) rfl))⟩)
  have n5 := not_v (Cond.before_iff.mp (hsets _ (List.mem_of_getElem? (i := 2) rfl)))
  obtain ⟨cs, ecs⟩ := is_v (Cond.before_iff.mp (hsets _ (List.mem_of_getElem? (i := 1) rfl)))
  have S12 : Sta s s.heap "java/lang/String" "COMPACT_STRINGS" "Z" (.int cs) := Sta.start ecs (Or.inl (hsets _ (List.mem_of_getElem? (i := 0) rfl)))
  have c17 : ¬ (cs = (0 : Int32)) := gotF (Cond.eq_ints ecs (Term.int_eval (0))) n5
  have hCH : CHv s consts_1 s.vm s.heap := CHv.start (own_EW hw) (fun p hp => hcalls.1 p hp) (hsets _ (List.mem_of_getElem? (i := 2) rfl)) (hw _ (List.mem_of_getElem? (i := 27) rfl)) (hw _ (List.mem_of_getElem? (i := 13) rfl))
  obtain ⟨n, o, h1, h2, h3, _, L, rfl, ⟨rfl, N⟩, -, hq⟩ := rm0 l s _ hw tables_1 i0 i1 i2 i3 cs k0 k1 k2 k3 k4 k5 k6 k7 k8 s.heap s.heap.size (Nat.le_refl _) sk0 sk1 sk2 sk3 sk4 sk5 sk6 sk7 sk8 S12 c17 (Old.start s) p e ha hc hk s m _ below hf ((Spec.applies_iff_loose hf).mp happ).1 ⟨rfl, State.Warmed39.refl s, rfl, hCH⟩ trivial
  refine ⟨n, _, h1, h2, h3, hpost _ _ _ _ _ _ ⟨Cond.after_iff.mpr rfl, Cond.after_iff.mpr (eq_i res_at (Term.int_eval (1)) rfl), trivial⟩ ⟨hq.1, hq.2.1, hq.2.2.1, (hq.2.2.2.sift fun y hy => Or.inr (N y hy)).mono (by decide) (by decide)⟩⟩
theorem main_1_1 : Claimed_1_1 := comes_1 fun _ _ _ _ _ _ h hF => ⟨h.1, hF⟩
theorem main_1_2 : Claimed_1_2 := comes_1 fun _ _ _ _ _ _ h hF => ⟨h.2.1, hF⟩
end Jvm.Pilot.@@N@@
namespace Jvm.Pilot.@@N@@
open Jvm Jvm.ClassFile Sem Op Lib Jvm.Free Jvm.Stand Jvm.Pilot.@@N@@.Jvm.D
/-! MADE BY PROGRAM (witnessworld.py) out of the Statement's table words and the real class files: 22 classes; the members and pool entries that the words name. The judged class is class 1, her method 4. -/
namespace start1
open Jvm.ClassFile
def u (s : String) : CpInfo := .utf8 (stringToUtf16 s)
/-- a pool by its gaps: so many unusable entries, then the entry; so many at the end -/
def gap : Nat → List CpInfo → List CpInfo
  | 0, r => r
  | n + 1, r => .unusable :: gap n r
def poolList (es : List (Nat × CpInfo)) (last : Nat) : List CpInfo := es.foldr (fun e r => gap e.1 (e.2 :: r)) (gap last [])
def pool (es : List (Nat × CpInfo)) (last : Nat) : Array CpInfo := ⟨poolList es last⟩
def fileOf (pool : Array CpInfo) (this : Nat) (attrs : Array Attribute := #[]) (ms : Array MethodInfo := #[]) (fl : Nat := 33) (sup : Nat := 0) (ifs : Array Nat := #[]) (fds : Array FieldInfo := #[]) : ClassFile where
  minorVersion := 0
  majorVersion := 65
  constantPool := pool
  accessFlags := fl
  thisClass := this
  superClass := sup
  interfaces := ifs
  fields := fds
  methods := ms
  attributes := attrs
def plain (name : String) (sup : Option ClassId) : Class where
  name := name
  kind := .ordinary
  loader := none
  accessFlags := 33
  super := sup
  interfaces := #[]
  cf := none
  fields := #[]
  methods := #[]
  instanceTypes := #[]
  staticTypes := #[]
  resolved := #[]
  callSites := []
  init := .initialized
  statics := none
  mirror := none

def pool0 : Array CpInfo := pool [(5, u "<init>"), (0, u "()V"), (1, .class_ 10), (1, u "java/lang/Object")] 113

def k0c0 : Code := { maxStack := 0, maxLocals := 1, code := object_method_1_code, exceptionTable := #[], attributes := #[] }
def k0m0 : Method := { name := "<init>", desc := "()V", sig := { parameters := [], returnType := none }, accessFlags := 1, code := some k0c0 }
/-- java/lang/Object -/
def k0 : Class := { plain "java/lang/Object" none with
  accessFlags := 33
  interfaces := #[]
  cf := some (fileOf pool0 8 #[] #[{ accessFlags := 1, nameIndex := 5, descriptorIndex := 6, attributes := #[] }] 33 0 #[] #[])
  fields := #[]
  methods := #[k0m0]
  instanceTypes := #[]
  staticTypes := #[]
  resolved := Array.replicate 124 none
  statics := none }

def pool1 : Array CpInfo := pool [(2, .class_ 4), (1, u "java/lang/Object"), (0, u "<init>"), (0, u "()V"), (0, .fieldref 8 9), (0, .class_ 10), (0, .nameAndType 11 12), (0, u "com/example/hinta/hinta/lts/Kind"), (0, u "SEND"), (0, u "Lcom/example/hinta/hinta/lts/Kind;"), (0, .fieldref 8 14), (0, .nameAndType 15 12), (0, u "RECEIVE"), (0, .fieldref 8 17), (0, .nameAndType 18 12), (0, u "STORE"), (0, .fieldref 8 20), (0, .nameAndType 21 12), (0, u "DECRYPT"), (0, .fieldref 8 23), (0, .nameAndType 24 12), (0, u "TEST"), (0, .fieldref 8 26), (0, .nameAndType 27 12), (0, u "TRIGGER"), (0, .fieldref 8 29), (0, .nameAndType 30 12), (0, u "ACT"), (0, .fieldref 8 32), (0, .nameAndType 33 12), (0, u "SENSE"), (0, .fieldref 8 35), (0, .nameAndType 36 12), (0, u "INTERNAL"), (0, .class_ 38), (0, u "java/lang/String"), (0, .methodref 37 40), (0, .nameAndType 5 41), (0, u "([C)V"), (0, .methodref 43 44), (0, .class_ 45), (0, .nameAndType 46 47), (0, u "com/example/hinta/hinta/ctmc/RewardEqualsPinLaw"), (0, u "kindOf"), (0, u "(I)Lcom/example/hinta/hinta/lts/Kind;"), (0, .methodref 43 49), (0, .nameAndType 50 51), (0, u "text"), (0, u "(ICC)Ljava/lang/String;"), (0, .class_ 53), (0, u "com/example/hinta/hinta/ctmc/Reward"), (0, .methodref 52 55), (0, .nameAndType 5 56), (0, u "(Ljava/lang/String;Lcom/example/hinta/hinta/lts/Kind;)V"), (0, .methodref 52 58), (0, .nameAndType 59 60), (0, u "equals"), (0, u "(Ljava/lang/Object;)Z"), (0, .methodref 43 62), (0, .nameAndType 63 64), (0, u "sameText"), (0, u "(ICCICC)Z"), (3, u "law"), (0, u "(IIII)Z")] 2

def k1m0 : Method := { name := "<init>", desc := "()V", sig := { parameters := [], returnType := none }, accessFlags := 2, code := none }
def k1c1 : Code := { maxStack := 2, maxLocals := 1, code := method_2_code, exceptionTable := #[], attributes := #[] }
def k1m1 : Method := { name := "kindOf", desc := "(I)Lcom/example/hinta/hinta/lts/Kind;", sig := { parameters := [.int], returnType := some (.object "com/example/hinta/hinta/lts/Kind") }, accessFlags := 10, code := some k1c1 }
def k1c2 : Code := { maxStack := 3, maxLocals := 4, code := method_3_code, exceptionTable := #[], attributes := #[] }
def k1m2 : Method := { name := "text", desc := "(ICC)Ljava/lang/String;", sig := { parameters := [.int, .char, .char], returnType := some (.object "java/lang/String") }, accessFlags := 10, code := some k1c2 }
def k1c3 : Code := { maxStack := 2, maxLocals := 6, code := method_4_code, exceptionTable := #[], attributes := #[] }
def k1m3 : Method := { name := "sameText", desc := "(ICCICC)Z", sig := { parameters := [.int, .char, .char, .int, .char, .char], returnType := some .boolean }, accessFlags := 10, code := some k1c3 }
def k1c4 : Code := { maxStack := 6, maxLocals := 20, code := code, exceptionTable := #[], attributes := #[] }
def k1m4 : Method := { name := "law", desc := "(IIII)Z", sig := { parameters := [.int, .int, .int, .int], returnType := some .boolean }, accessFlags := 9, code := some k1c4 }
/-- com/example/hinta/hinta/ctmc/RewardEqualsPinLaw -/
def k1 : Class := { plain "com/example/hinta/hinta/ctmc/RewardEqualsPinLaw" (some 0) with
  accessFlags := 49
  interfaces := #[]
  cf := some (fileOf pool1 43 #[] #[{ accessFlags := 2, nameIndex := 5, descriptorIndex := 6, attributes := #[] }, { accessFlags := 10, nameIndex := 46, descriptorIndex := 47, attributes := #[] }, { accessFlags := 10, nameIndex := 50, descriptorIndex := 51, attributes := #[] }, { accessFlags := 10, nameIndex := 63, descriptorIndex := 64, attributes := #[] }, { accessFlags := 9, nameIndex := 68, descriptorIndex := 69, attributes := #[] }] 49 2 #[] #[])
  fields := #[]
  methods := #[k1m0, k1m1, k1m2, k1m3, k1m4]
  instanceTypes := #[]
  staticTypes := #[]
  resolved := Array.replicate 72 none
  statics := none }

def pool2 : Array CpInfo := pool [(1, .class_ 2), (0, u "java/lang/constant/Constable"), (0, .class_ 4), (0, u "java/lang/Object")] 6

/-- java/lang/constant/Constable -/
def k2 : Class := { plain "java/lang/constant/Constable" (some 0) with
  accessFlags := 1537
  interfaces := #[]
  cf := some (fileOf pool2 1 #[] #[] 1537 3 #[] #[])
  fields := #[]
  methods := #[]
  instanceTypes := #[]
  staticTypes := #[]
  resolved := Array.replicate 11 none
  statics := none }

def pool3 : Array CpInfo := pool [(1, .class_ 2), (0, u "java/lang/Comparable"), (0, .class_ 4), (0, u "java/lang/Object")] 7

/-- java/lang/Comparable -/
def k3 : Class := { plain "java/lang/Comparable" (some 0) with
  accessFlags := 1537
  interfaces := #[]
  cf := some (fileOf pool3 1 #[] #[] 1537 3 #[] #[])
  fields := #[]
  methods := #[]
  instanceTypes := #[]
  staticTypes := #[]
  resolved := Array.replicate 12 none
  statics := none }

def pool4 : Array CpInfo := pool [(1, .class_ 2), (0, u "java/io/Serializable"), (0, .class_ 4), (0, u "java/lang/Object")] 2

/-- java/io/Serializable -/
def k4 : Class := { plain "java/io/Serializable" (some 0) with
  accessFlags := 1537
  interfaces := #[]
  cf := some (fileOf pool4 1 #[] #[] 1537 3 #[] #[])
  fields := #[]
  methods := #[]
  instanceTypes := #[]
  staticTypes := #[]
  resolved := Array.replicate 7 none
  statics := none }

def pool5 : Array CpInfo := pool [(2, .class_ 4), (1, u "java/lang/Enum"), (0, u "name"), (0, u "Ljava/lang/String;"), (2, u "ordinal"), (0, u "I"), (1, .class_ 14), (1, u "java/lang/Object"), (4, u "hash"), (86, .class_ 108), (1, u "java/lang/Enum$EnumDesc"), (2, .class_ 112), (0, u "java/lang/constant/Constable"), (0, .class_ 114), (0, u "java/lang/Comparable"), (0, .class_ 116), (0, u "java/io/Serializable")] 87

/-- java/lang/Enum -/
def k5 : Class := { plain "java/lang/Enum" (some 0) with
  accessFlags := 1057
  interfaces := #[2, 3, 4]
  cf := some (fileOf pool5 2 #[.nestMembers #[106]] #[] 1057 12 #[111, 113, 115] #[{ accessFlags := 18, nameIndex := 5, descriptorIndex := 6, attributes := #[] }, { accessFlags := 18, nameIndex := 9, descriptorIndex := 10, attributes := #[] }, { accessFlags := 2, nameIndex := 19, descriptorIndex := 10, attributes := #[] }])
  fields := #[{ name := "name", type := (.object "java/lang/String"), accessFlags := 18, slot := 0, constantValue := 0 }, { name := "ordinal", type := .int, accessFlags := 18, slot := 1, constantValue := 0 }, { name := "hash", type := .int, accessFlags := 2, slot := 2, constantValue := 0 }]
  methods := #[]
  instanceTypes := #[(.object "java/lang/String"), .int, .int]
  staticTypes := #[]
  resolved := Array.replicate 204 none
  statics := none }

def pool6 : Array CpInfo := pool [(1, .class_ 2), (0, u "com/example/hinta/hinta/lts/Kind"), (2, u "SEND"), (0, u "Lcom/example/hinta/hinta/lts/Kind;"), (2, u "RECEIVE"), (2, u "STORE"), (2, u "DECRYPT"), (2, u "TEST"), (2, u "TRIGGER"), (2, u "ACT"), (2, u "SENSE"), (2, u "INTERNAL"), (2, u "$VALUES"), (0, u "[Lcom/example/hinta/hinta/lts/Kind;"), (6, .class_ 43), (1, u "java/lang/Enum"), (26, u "measures"), (0, u "Ljava/util/Set;")] 73

/-- com/example/hinta/hinta/lts/Kind -/
def k6 : Class := { plain "com/example/hinta/hinta/lts/Kind" (some 5) with
  accessFlags := 16433
  interfaces := #[]
  cf := some (fileOf pool6 1 #[] #[] 16433 41 #[] #[{ accessFlags := 16409, nameIndex := 5, descriptorIndex := 6, attributes := #[] }, { accessFlags := 16409, nameIndex := 9, descriptorIndex := 6, attributes := #[] }, { accessFlags := 16409, nameIndex := 12, descriptorIndex := 6, attributes := #[] }, { accessFlags := 16409, nameIndex := 15, descriptorIndex := 6, attributes := #[] }, { accessFlags := 16409, nameIndex := 18, descriptorIndex := 6, attributes := #[] }, { accessFlags := 16409, nameIndex := 21, descriptorIndex := 6, attributes := #[] }, { accessFlags := 16409, nameIndex := 24, descriptorIndex := 6, attributes := #[] }, { accessFlags := 16409, nameIndex := 27, descriptorIndex := 6, attributes := #[] }, { accessFlags := 16409, nameIndex := 30, descriptorIndex := 6, attributes := #[] }, { accessFlags := 18, nameIndex := 70, descriptorIndex := 71, attributes := #[] }, { accessFlags := 4122, nameIndex := 33, descriptorIndex := 34, attributes := #[] }])
  fields := #[{ name := "SEND", type := (.object "com/example/hinta/hinta/lts/Kind"), accessFlags := 16409, slot := 0, constantValue := 0 }, { name := "RECEIVE", type := (.object "com/example/hinta/hinta/lts/Kind"), accessFlags := 16409, slot := 1, constantValue := 0 }, { name := "STORE", type := (.object "com/example/hinta/hinta/lts/Kind"), accessFlags := 16409, slot := 2, constantValue := 0 }, { name := "DECRYPT", type := (.object "com/example/hinta/hinta/lts/Kind"), accessFlags := 16409, slot := 3, constantValue := 0 }, { name := "TEST", type := (.object "com/example/hinta/hinta/lts/Kind"), accessFlags := 16409, slot := 4, constantValue := 0 }, { name := "TRIGGER", type := (.object "com/example/hinta/hinta/lts/Kind"), accessFlags := 16409, slot := 5, constantValue := 0 }, { name := "ACT", type := (.object "com/example/hinta/hinta/lts/Kind"), accessFlags := 16409, slot := 6, constantValue := 0 }, { name := "SENSE", type := (.object "com/example/hinta/hinta/lts/Kind"), accessFlags := 16409, slot := 7, constantValue := 0 }, { name := "INTERNAL", type := (.object "com/example/hinta/hinta/lts/Kind"), accessFlags := 16409, slot := 8, constantValue := 0 }, { name := "measures", type := (.object "java/util/Set"), accessFlags := 18, slot := 3, constantValue := 0 }, { name := "$VALUES", type := (.array (.object "com/example/hinta/hinta/lts/Kind")), accessFlags := 4122, slot := 9, constantValue := 0 }]
  methods := #[]
  instanceTypes := #[(.object "java/lang/String"), .int, .int, (.object "java/util/Set")]
  staticTypes := #[(.object "com/example/hinta/hinta/lts/Kind"), (.object "com/example/hinta/hinta/lts/Kind"), (.object "com/example/hinta/hinta/lts/Kind"), (.object "com/example/hinta/hinta/lts/Kind"), (.object "com/example/hinta/hinta/lts/Kind"), (.object "com/example/hinta/hinta/lts/Kind"), (.object "com/example/hinta/hinta/lts/Kind"), (.object "com/example/hinta/hinta/lts/Kind"), (.object "com/example/hinta/hinta/lts/Kind"), (.array (.object "com/example/hinta/hinta/lts/Kind"))]
  resolved := Array.replicate 145 none
  statics := some 11 }

def pool7 : Array CpInfo := pool [(2, .class_ 4), (1, u "java/lang/CharSequence"), (42, .class_ 48), (0, u "java/lang/CharSequence$1CodePointIterator"), (10, .class_ 60), (0, u "java/lang/CharSequence$1CharIterator"), (5, .class_ 67), (0, u "java/lang/Object")] 63

/-- java/lang/CharSequence -/
def k7 : Class := { plain "java/lang/CharSequence" (some 0) with
  accessFlags := 1537
  interfaces := #[]
  cf := some (fileOf pool7 2 #[.nestMembers #[47, 59]] #[] 1537 66 #[] #[])
  fields := #[]
  methods := #[]
  instanceTypes := #[]
  staticTypes := #[]
  resolved := Array.replicate 131 none
  statics := none }

def pool8 : Array CpInfo := pool [(1, .class_ 2), (0, u "java/lang/constant/ConstantDesc"), (0, .class_ 4), (0, u "java/lang/Object")] 32

/-- java/lang/constant/ConstantDesc -/
def k8 : Class := { plain "java/lang/constant/ConstantDesc" (some 0) with
  accessFlags := 1537
  interfaces := #[]
  cf := some (fileOf pool8 1 #[] #[] 1537 3 #[] #[])
  fields := #[]
  methods := #[]
  instanceTypes := #[]
  staticTypes := #[]
  resolved := Array.replicate 37 none
  statics := none }

def pool9 : Array CpInfo := pool [(1, .methodref 2 3), (0, .class_ 4), (0, .nameAndType 5 6), (0, u "java/lang/Object"), (0, u "<init>"), (0, u "()V"), (0, .string 8), (0, u ""), (0, .fieldref 10 11), (0, .class_ 12), (0, .nameAndType 13 14), (0, u "java/lang/String"), (0, u "value"), (0, u "[B"), (0, .fieldref 10 16), (0, .nameAndType 17 18), (0, u "coder"), (0, u "B"), (2, u "hash"), (0, u "I"), (2, u "hashIsZero"), (0, u "Z"), (0, .methodref 10 28), (0, .nameAndType 5 29), (0, u "([CIILjava/lang/Void;)V"), (8, .fieldref 10 39), (0, .nameAndType 40 26), (0, u "COMPACT_STRINGS"), (1, .class_ 44), (1, u "java/lang/StringUTF16"), (0, u "compress"), (1, .methodref 42 48), (0, .nameAndType 49 50), (0, u "coderFromArrayLen"), (0, u "([BI)B"), (56, .class_ 109), (1, u "java/lang/StringLatin1"), (67, .methodref 42 178), (0, .nameAndType 45 179), (0, u "([CII)[B"), (361, .methodref 107 542), (0, .nameAndType 543 544), (0, u "equals"), (0, u "([B[B)Z"), (28, u "(Ljava/lang/Object;)Z"), (1, .class_ 576), (0, u "java/lang/CharSequence"), (22, u "CASE_INSENSITIVE_ORDER"), (0, u "Ljava/util/Comparator;"), (409, u "([C)V"), (90, u "serialPersistentFields"), (0, u "[Ljava/io/ObjectStreamField;"), (0, .class_ 1104), (0, u "java/lang/String$CaseInsensitiveComparator"), (1, .class_ 1107), (0, u "java/io/Serializable"), (0, .class_ 1109), (0, u "java/lang/Comparable"), (0, .class_ 1111), (0, u "java/lang/constant/Constable"), (0, .class_ 1113), (0, u "java/lang/constant/ConstantDesc"), (2, u "serialVersionUID"), (0, u "J"), (3, u "REPL"), (0, u "C"), (2, u "LATIN1"), (1, u "UTF16")] 323

def k9m0 : Method := { name := "<init>", desc := "()V", sig := { parameters := [], returnType := none }, accessFlags := 1, code := none }
def k9c1 : Code := { maxStack := 5, maxLocals := 2, code := jdk_42_method_3_code, exceptionTable := #[], attributes := #[] }
def k9m1 : Method := { name := "<init>", desc := "([C)V", sig := { parameters := [(.array .char)], returnType := none }, accessFlags := 1, code := some k9c1 }
def k9c2 : Code := { maxStack := 2, maxLocals := 3, code := jdk_42_method_66_code, exceptionTable := #[], attributes := #[] }
def k9m2 : Method := { name := "equals", desc := "(Ljava/lang/Object;)Z", sig := { parameters := [(.object "java/lang/Object")], returnType := some .boolean }, accessFlags := 1, code := some k9c2 }
def k9c3 : Code := { maxStack := 4, maxLocals := 6, code := jdk_42_method_149_code, exceptionTable := #[], attributes := #[] }
def k9m3 : Method := { name := "<init>", desc := "([CIILjava/lang/Void;)V", sig := { parameters := [(.array .char), .int, .int, (.object "java/lang/Void")], returnType := none }, accessFlags := 2, code := some k9c3 }
/-- java/lang/String -/
def k9 : Class := { plain "java/lang/String" (some 0) with
  accessFlags := 49
  interfaces := #[4, 3, 7, 2, 8]
  cf := some (fileOf pool9 10 #[.nestMembers #[1103]] #[{ accessFlags := 1, nameIndex := 5, descriptorIndex := 6, attributes := #[] }, { accessFlags := 1, nameIndex := 5, descriptorIndex := 1010, attributes := #[] }, { accessFlags := 1, nameIndex := 543, descriptorIndex := 573, attributes := #[] }, { accessFlags := 2, nameIndex := 5, descriptorIndex := 29, attributes := #[] }] 49 2 #[1106, 1108, 575, 1110, 1112] #[{ accessFlags := 18, nameIndex := 13, descriptorIndex := 14, attributes := #[] }, { accessFlags := 18, nameIndex := 17, descriptorIndex := 18, attributes := #[] }, { accessFlags := 2, nameIndex := 21, descriptorIndex := 22, attributes := #[] }, { accessFlags := 2, nameIndex := 25, descriptorIndex := 26, attributes := #[] }, { accessFlags := 26, nameIndex := 1116, descriptorIndex := 1117, attributes := #[] }, { accessFlags := 24, nameIndex := 40, descriptorIndex := 26, attributes := #[] }, { accessFlags := 26, nameIndex := 1101, descriptorIndex := 1102, attributes := #[] }, { accessFlags := 26, nameIndex := 1121, descriptorIndex := 1122, attributes := #[] }, { accessFlags := 25, nameIndex := 599, descriptorIndex := 600, attributes := #[] }, { accessFlags := 24, nameIndex := 1125, descriptorIndex := 18, attributes := #[] }, { accessFlags := 24, nameIndex := 1127, descriptorIndex := 18, attributes := #[] }])
  fields := #[{ name := "value", type := (.array .byte), accessFlags := 18, slot := 0, constantValue := 0 }, { name := "coder", type := .byte, accessFlags := 18, slot := 1, constantValue := 0 }, { name := "hash", type := .int, accessFlags := 2, slot := 2, constantValue := 0 }, { name := "hashIsZero", type := .boolean, accessFlags := 2, slot := 3, constantValue := 0 }, { name := "serialVersionUID", type := .long, accessFlags := 26, slot := 0, constantValue := 0 }, { name := "COMPACT_STRINGS", type := .boolean, accessFlags := 24, slot := 1, constantValue := 0 }, { name := "serialPersistentFields", type := (.array (.object "java/io/ObjectStreamField")), accessFlags := 26, slot := 2, constantValue := 0 }, { name := "REPL", type := .char, accessFlags := 26, slot := 3, constantValue := 0 }, { name := "CASE_INSENSITIVE_ORDER", type := (.object "java/util/Comparator"), accessFlags := 25, slot := 4, constantValue := 0 }, { name := "LATIN1", type := .byte, accessFlags := 24, slot := 5, constantValue := 0 }, { name := "UTF16", type := .byte, accessFlags := 24, slot := 6, constantValue := 0 }]
  methods := #[k9m0, k9m1, k9m2, k9m3]
  instanceTypes := #[(.array .byte), .byte, .int, .boolean]
  staticTypes := #[.long, .boolean, (.array (.object "java/io/ObjectStreamField")), .char, (.object "java/util/Comparator"), .byte, .byte]
  resolved := Array.replicate 1451 none
  statics := some 0 }

def pool10 : Array CpInfo := pool [(1, .methodref 2 3), (0, .class_ 4), (0, .nameAndType 5 6), (0, u "java/lang/Object"), (0, u "<init>"), (0, u "()V"), (0, .fieldref 8 9), (0, .class_ 10), (0, .nameAndType 11 12), (0, u "com/example/hinta/hinta/ctmc/Reward"), (0, u "node"), (0, u "Ljava/lang/String;"), (0, .fieldref 8 14), (0, .nameAndType 15 16), (0, u "kind"), (0, u "Lcom/example/hinta/hinta/lts/Kind;"), (38, u "(Ljava/lang/Object;)Z"), (13, .methodref 70 71), (0, .class_ 72), (0, .nameAndType 73 55), (0, u "java/lang/String"), (0, u "equals"), (13, u "(Ljava/lang/String;Lcom/example/hinta/hinta/lts/Kind;)V")] 26

def k10c0 : Code := { maxStack := 2, maxLocals := 3, code := prog_3_method_1_code, exceptionTable := #[], attributes := #[] }
def k10m0 : Method := { name := "<init>", desc := "(Ljava/lang/String;Lcom/example/hinta/hinta/lts/Kind;)V", sig := { parameters := [(.object "java/lang/String"), (.object "com/example/hinta/hinta/lts/Kind")], returnType := none }, accessFlags := 1, code := some k10c0 }
def k10c1 : Code := { maxStack := 2, maxLocals := 2, code := prog_3_method_6_code, exceptionTable := #[], attributes := #[] }
def k10m1 : Method := { name := "equals", desc := "(Ljava/lang/Object;)Z", sig := { parameters := [(.object "java/lang/Object")], returnType := some .boolean }, accessFlags := 1, code := some k10c1 }
/-- com/example/hinta/hinta/ctmc/Reward -/
def k10 : Class := { plain "com/example/hinta/hinta/ctmc/Reward" (some 0) with
  accessFlags := 49
  interfaces := #[]
  cf := some (fileOf pool10 8 #[] #[{ accessFlags := 1, nameIndex := 5, descriptorIndex := 87, attributes := #[] }, { accessFlags := 1, nameIndex := 73, descriptorIndex := 55, attributes := #[] }] 49 2 #[] #[{ accessFlags := 18, nameIndex := 11, descriptorIndex := 12, attributes := #[] }, { accessFlags := 18, nameIndex := 15, descriptorIndex := 16, attributes := #[] }])
  fields := #[{ name := "node", type := (.object "java/lang/String"), accessFlags := 18, slot := 0, constantValue := 0 }, { name := "kind", type := (.object "com/example/hinta/hinta/lts/Kind"), accessFlags := 18, slot := 1, constantValue := 0 }]
  methods := #[k10m0, k10m1]
  instanceTypes := #[(.object "java/lang/String"), (.object "com/example/hinta/hinta/lts/Kind")]
  staticTypes := #[]
  resolved := Array.replicate 114 none
  statics := none }

def pool11 : Array CpInfo := pool [(4, .class_ 6), (1, u "java/lang/Object"), (0, u "<init>"), (0, u "()V"), (5, .class_ 16), (1, u "java/lang/StringLatin1"), (104, u "$assertionsDisabled"), (0, u "Z"), (98, .class_ 223), (1, u "java/lang/StringLatin1$LinesSpliterator"), (57, u "equals"), (0, u "([B[B)Z"), (107, .class_ 391), (0, u "java/lang/StringLatin1$CharsSpliterator")] 3

def k11m0 : Method := { name := "<init>", desc := "()V", sig := { parameters := [], returnType := none }, accessFlags := 0, code := none }
def k11c1 : Code := { maxStack := 3, maxLocals := 3, code := jdk_43_method_13_code, exceptionTable := #[], attributes := #[] }
def k11m1 : Method := { name := "equals", desc := "([B[B)Z", sig := { parameters := [(.array .byte), (.array .byte)], returnType := some .boolean }, accessFlags := 9, code := some k11c1 }
/-- java/lang/StringLatin1 -/
def k11 : Class := { plain "java/lang/StringLatin1" (some 0) with
  accessFlags := 48
  interfaces := #[]
  cf := some (fileOf pool11 14 #[.nestMembers #[390, 221]] #[{ accessFlags := 0, nameIndex := 7, descriptorIndex := 8, attributes := #[] }, { accessFlags := 9, nameIndex := 281, descriptorIndex := 282, attributes := #[] }] 48 4 #[] #[{ accessFlags := 4120, nameIndex := 121, descriptorIndex := 122, attributes := #[] }])
  fields := #[{ name := "$assertionsDisabled", type := .boolean, accessFlags := 4120, slot := 0, constantValue := 0 }]
  methods := #[k11m0, k11m1]
  instanceTypes := #[]
  staticTypes := #[.boolean]
  resolved := Array.replicate 395 none
  statics := none }

def pool12 : Array CpInfo := pool [(6, .class_ 8), (1, u "java/lang/Object"), (0, u "<init>"), (0, u "()V"), (1, .class_ 14), (1, u "java/lang/StringUTF16"), (31, u "$assertionsDisabled"), (0, u "Z"), (13, u "HI_BYTE_SHIFT"), (0, u "I"), (2, u "LO_BYTE_SHIFT"), (49, .methodref 12 116), (0, .nameAndType 117 118), (0, u "compress"), (0, u "([CI[BII)I"), (3, u "([CII)[B"), (138, u "coderFromArrayLen"), (0, u "([BI)B"), (106, .class_ 371), (1, u "java/lang/StringUTF16$LinesSpliterator"), (58, u "MAX_LENGTH"), (196, .class_ 628), (0, u "java/lang/StringUTF16$CodePointsSpliterator"), (0, .class_ 630), (0, u "java/lang/StringUTF16$CharsSpliterator")] 4

def k12m0 : Method := { name := "<init>", desc := "()V", sig := { parameters := [], returnType := none }, accessFlags := 0, code := none }
def k12c1 : Code := { maxStack := 2, maxLocals := 2, code := jdk_52_method_15_code, exceptionTable := #[], attributes := #[] }
def k12m1 : Method := { name := "coderFromArrayLen", desc := "([BI)B", sig := { parameters := [(.array .byte), .int], returnType := some .byte }, accessFlags := 8, code := some k12c1 }
def k12c2 : Code := { maxStack := 5, maxLocals := 6, code := jdk_52_method_16_code, exceptionTable := #[], attributes := #[] }
def k12m2 : Method := { name := "compress", desc := "([CII)[B", sig := { parameters := [(.array .char), .int, .int], returnType := some (.array .byte) }, accessFlags := 9, code := some k12c2 }
def k12c3 : Code := { maxStack := 3, maxLocals := 7, code := jdk_52_method_21_code, exceptionTable := #[], attributes := #[] }
def k12m3 : Method := { name := "compress", desc := "([CI[BII)I", sig := { parameters := [(.array .char), .int, (.array .byte), .int, .int], returnType := some .int }, accessFlags := 9, code := some k12c3 }
/-- java/lang/StringUTF16 -/
def k12 : Class := { plain "java/lang/StringUTF16" (some 0) with
  accessFlags := 48
  interfaces := #[]
  cf := some (fileOf pool12 12 #[.nestMembers #[627, 629, 369]] #[{ accessFlags := 0, nameIndex := 9, descriptorIndex := 10, attributes := #[] }, { accessFlags := 8, nameIndex := 261, descriptorIndex := 262, attributes := #[] }, { accessFlags := 9, nameIndex := 117, descriptorIndex := 122, attributes := #[] }, { accessFlags := 9, nameIndex := 117, descriptorIndex := 118, attributes := #[] }] 48 6 #[] #[{ accessFlags := 26, nameIndex := 61, descriptorIndex := 62, attributes := #[] }, { accessFlags := 26, nameIndex := 65, descriptorIndex := 62, attributes := #[] }, { accessFlags := 24, nameIndex := 430, descriptorIndex := 62, attributes := #[] }, { accessFlags := 4120, nameIndex := 46, descriptorIndex := 47, attributes := #[] }])
  fields := #[{ name := "HI_BYTE_SHIFT", type := .int, accessFlags := 26, slot := 0, constantValue := 0 }, { name := "LO_BYTE_SHIFT", type := .int, accessFlags := 26, slot := 1, constantValue := 0 }, { name := "MAX_LENGTH", type := .int, accessFlags := 24, slot := 2, constantValue := 0 }, { name := "$assertionsDisabled", type := .boolean, accessFlags := 4120, slot := 3, constantValue := 0 }]
  methods := #[k12m0, k12m1, k12m2, k12m3]
  instanceTypes := #[]
  staticTypes := #[.int, .int, .int, .boolean]
  resolved := Array.replicate 635 none
  statics := none }

def pool13 : Array CpInfo := pool [(2, .class_ 4), (1, u "java/lang/Object"), (0, u "<init>"), (0, u "()V"), (17, .class_ 26), (1, u "jdk/internal/util/Preconditions"), (28, .class_ 56), (0, u "jdk/internal/util/Preconditions$4"), (57, .class_ 115), (0, u "jdk/internal/util/Preconditions$1"), (7, u "SIOOBE_FORMATTER"), (0, u "Ljava/util/function/BiFunction;"), (0, .class_ 126), (0, u "jdk/internal/util/Preconditions$2"), (3, u "AIOOBE_FORMATTER"), (0, .class_ 132), (0, u "jdk/internal/util/Preconditions$3"), (3, u "IOOBE_FORMATTER")] 57

def k13m0 : Method := { name := "<init>", desc := "()V", sig := { parameters := [], returnType := none }, accessFlags := 1, code := none }
/-- jdk/internal/util/Preconditions -/
def k13 : Class := { plain "jdk/internal/util/Preconditions" (some 0) with
  accessFlags := 33
  interfaces := #[]
  cf := some (fileOf pool13 24 #[.nestMembers #[55, 131, 125, 114]] #[{ accessFlags := 1, nameIndex := 5, descriptorIndex := 6, attributes := #[] }] 33 2 #[] #[{ accessFlags := 25, nameIndex := 123, descriptorIndex := 124, attributes := #[] }, { accessFlags := 25, nameIndex := 130, descriptorIndex := 124, attributes := #[] }, { accessFlags := 25, nameIndex := 136, descriptorIndex := 124, attributes := #[] }])
  fields := #[{ name := "SIOOBE_FORMATTER", type := (.object "java/util/function/BiFunction"), accessFlags := 25, slot := 0, constantValue := 0 }, { name := "AIOOBE_FORMATTER", type := (.object "java/util/function/BiFunction"), accessFlags := 25, slot := 1, constantValue := 0 }, { name := "IOOBE_FORMATTER", type := (.object "java/util/function/BiFunction"), accessFlags := 25, slot := 2, constantValue := 0 }]
  methods := #[k13m0]
  instanceTypes := #[]
  staticTypes := #[(.object "java/util/function/BiFunction"), (.object "java/util/function/BiFunction"), (.object "java/util/function/BiFunction")]
  resolved := Array.replicate 194 none
  statics := some 1 }

def pool14 : Array CpInfo := pool [(9, u "<init>"), (6, .class_ 18), (1, u "java/lang/Object"), (0, u "()V"), (1, .class_ 23), (1, u "jdk/internal/util/ArraysSupport"), (0, u "LOG2_ARRAY_LONG_INDEX_SCALE"), (0, u "I"), (2, u "U"), (0, u "Ljdk/internal/misc/Unsafe;"), (8, u "BIG_ENDIAN"), (0, u "Z"), (8, u "LOG2_BYTE_BIT_SIZE"), (4, u "LOG2_ARRAY_INT_INDEX_SCALE"), (54, u "JLA"), (0, u "Ljdk/internal/access/JavaLangAccess;"), (11, u "LOG2_ARRAY_BOOLEAN_INDEX_SCALE"), (9, u "LOG2_ARRAY_BYTE_INDEX_SCALE"), (5, u "LOG2_ARRAY_CHAR_INDEX_SCALE"), (5, u "LOG2_ARRAY_SHORT_INDEX_SCALE"), (18, u "LOG2_ARRAY_FLOAT_INDEX_SCALE"), (24, u "LOG2_ARRAY_DOUBLE_INDEX_SCALE"), (89, u "T_BOOLEAN"), (2, u "T_CHAR"), (1, u "T_FLOAT"), (1, u "T_DOUBLE"), (1, u "T_BYTE"), (1, u "T_SHORT"), (1, u "T_INT"), (1, u "T_LONG"), (1, u "SOFT_MAX_ARRAY_LENGTH")] 83

def k14m0 : Method := { name := "<init>", desc := "()V", sig := { parameters := [], returnType := none }, accessFlags := 2, code := none }
/-- jdk/internal/util/ArraysSupport -/
def k14 : Class := { plain "jdk/internal/util/ArraysSupport" (some 0) with
  accessFlags := 33
  interfaces := #[]
  cf := some (fileOf pool14 21 #[] #[{ accessFlags := 2, nameIndex := 9, descriptorIndex := 19, attributes := #[] }] 33 16 #[] #[{ accessFlags := 24, nameIndex := 28, descriptorIndex := 29, attributes := #[] }, { accessFlags := 26, nameIndex := 38, descriptorIndex := 39, attributes := #[] }, { accessFlags := 25, nameIndex := 121, descriptorIndex := 25, attributes := #[] }, { accessFlags := 25, nameIndex := 131, descriptorIndex := 25, attributes := #[] }, { accessFlags := 25, nameIndex := 137, descriptorIndex := 25, attributes := #[] }, { accessFlags := 25, nameIndex := 143, descriptorIndex := 25, attributes := #[] }, { accessFlags := 25, nameIndex := 53, descriptorIndex := 25, attributes := #[] }, { accessFlags := 25, nameIndex := 24, descriptorIndex := 25, attributes := #[] }, { accessFlags := 25, nameIndex := 162, descriptorIndex := 25, attributes := #[] }, { accessFlags := 25, nameIndex := 187, descriptorIndex := 25, attributes := #[] }, { accessFlags := 26, nameIndex := 48, descriptorIndex := 25, attributes := #[] }, { accessFlags := 25, nameIndex := 277, descriptorIndex := 25, attributes := #[] }, { accessFlags := 25, nameIndex := 280, descriptorIndex := 25, attributes := #[] }, { accessFlags := 25, nameIndex := 282, descriptorIndex := 25, attributes := #[] }, { accessFlags := 25, nameIndex := 284, descriptorIndex := 25, attributes := #[] }, { accessFlags := 25, nameIndex := 286, descriptorIndex := 25, attributes := #[] }, { accessFlags := 25, nameIndex := 288, descriptorIndex := 25, attributes := #[] }, { accessFlags := 25, nameIndex := 290, descriptorIndex := 25, attributes := #[] }, { accessFlags := 25, nameIndex := 292, descriptorIndex := 25, attributes := #[] }, { accessFlags := 26, nameIndex := 108, descriptorIndex := 109, attributes := #[] }, { accessFlags := 25, nameIndex := 294, descriptorIndex := 25, attributes := #[] }])
  fields := #[{ name := "U", type := (.object "jdk/internal/misc/Unsafe"), accessFlags := 24, slot := 0, constantValue := 0 }, { name := "BIG_ENDIAN", type := .boolean, accessFlags := 26, slot := 1, constantValue := 0 }, { name := "LOG2_ARRAY_BOOLEAN_INDEX_SCALE", type := .int, accessFlags := 25, slot := 2, constantValue := 0 }, { name := "LOG2_ARRAY_BYTE_INDEX_SCALE", type := .int, accessFlags := 25, slot := 3, constantValue := 0 }, { name := "LOG2_ARRAY_CHAR_INDEX_SCALE", type := .int, accessFlags := 25, slot := 4, constantValue := 0 }, { name := "LOG2_ARRAY_SHORT_INDEX_SCALE", type := .int, accessFlags := 25, slot := 5, constantValue := 0 }, { name := "LOG2_ARRAY_INT_INDEX_SCALE", type := .int, accessFlags := 25, slot := 6, constantValue := 0 }, { name := "LOG2_ARRAY_LONG_INDEX_SCALE", type := .int, accessFlags := 25, slot := 7, constantValue := 0 }, { name := "LOG2_ARRAY_FLOAT_INDEX_SCALE", type := .int, accessFlags := 25, slot := 8, constantValue := 0 }, { name := "LOG2_ARRAY_DOUBLE_INDEX_SCALE", type := .int, accessFlags := 25, slot := 9, constantValue := 0 }, { name := "LOG2_BYTE_BIT_SIZE", type := .int, accessFlags := 26, slot := 10, constantValue := 0 }, { name := "T_BOOLEAN", type := .int, accessFlags := 25, slot := 11, constantValue := 0 }, { name := "T_CHAR", type := .int, accessFlags := 25, slot := 12, constantValue := 0 }, { name := "T_FLOAT", type := .int, accessFlags := 25, slot := 13, constantValue := 0 }, { name := "T_DOUBLE", type := .int, accessFlags := 25, slot := 14, constantValue := 0 }, { name := "T_BYTE", type := .int, accessFlags := 25, slot := 15, constantValue := 0 }, { name := "T_SHORT", type := .int, accessFlags := 25, slot := 16, constantValue := 0 }, { name := "T_INT", type := .int, accessFlags := 25, slot := 17, constantValue := 0 }, { name := "T_LONG", type := .int, accessFlags := 25, slot := 18, constantValue := 0 }, { name := "JLA", type := (.object "jdk/internal/access/JavaLangAccess"), accessFlags := 26, slot := 19, constantValue := 0 }, { name := "SOFT_MAX_ARRAY_LENGTH", type := .int, accessFlags := 25, slot := 20, constantValue := 0 }]
  methods := #[k14m0]
  instanceTypes := #[]
  staticTypes := #[(.object "jdk/internal/misc/Unsafe"), .boolean, .int, .int, .int, .int, .int, .int, .int, .int, .int, .int, .int, .int, .int, .int, .int, .int, .int, (.object "jdk/internal/access/JavaLangAccess"), .int]
  resolved := Array.replicate 378 none
  statics := none }

def pool15 : Array CpInfo := pool [(1, u "java/lang/Cloneable"), (0, .class_ 1), (0, u "java/lang/Object"), (0, .class_ 3)] 3

/-- java/lang/Cloneable -/
def k15 : Class := { plain "java/lang/Cloneable" (some 0) with
  accessFlags := 1537
  interfaces := #[]
  cf := some (fileOf pool15 2 #[] #[] 1537 4 #[] #[])
  fields := #[]
  methods := #[]
  instanceTypes := #[]
  staticTypes := #[]
  resolved := Array.replicate 8 none
  statics := none }

/-- the primitive byte -/
def k16 : Class := { plain "byte" none with kind := .primitive 'B', accessFlags := 0x411 }
/-- [B -/
def k17 : Class := { plain "[B" (some 0) with kind := .array 16 .byte, interfaces := #[15, 4], accessFlags := 1041 }

/-- the primitive char -/
def k18 : Class := { plain "char" none with kind := .primitive 'C', accessFlags := 0x411 }
/-- [C -/
def k19 : Class := { plain "[C" (some 0) with kind := .array 18 .char, interfaces := #[15, 4], accessFlags := 1041 }

/-- the primitive int -/
def k20 : Class := { plain "int" none with kind := .primitive 'I', accessFlags := 0x411 }
/-- [I -/
def k21 : Class := { plain "[I" (some 0) with kind := .array 20 .int, interfaces := #[15, 4], accessFlags := 1041 }

def heap : Heap := #[{ cls := 9, slots := #[.long 0, .int 1, .null, .int 0, .null, .int 0, .int 0], vm := .statics 9 },
  { cls := 13, slots := #[.null, .null, .null], vm := .statics 13 },
  { cls := 6, slots := #[.null, .int 0, .int 0, .null], vm := .none },
  { cls := 6, slots := #[.null, .int 1, .int 0, .null], vm := .none },
  { cls := 6, slots := #[.null, .int 2, .int 0, .null], vm := .none },
  { cls := 6, slots := #[.null, .int 3, .int 0, .null], vm := .none },
  { cls := 6, slots := #[.null, .int 4, .int 0, .null], vm := .none },
  { cls := 6, slots := #[.null, .int 5, .int 0, .null], vm := .none },
  { cls := 6, slots := #[.null, .int 6, .int 0, .null], vm := .none },
  { cls := 6, slots := #[.null, .int 7, .int 0, .null], vm := .none },
  { cls := 6, slots := #[.null, .int 8, .int 0, .null], vm := .none },
  { cls := 6, slots := #[.ref 2, .ref 3, .ref 4, .ref 5, .ref 6, .ref 7, .ref 8, .ref 9, .ref 10, .null], vm := .statics 6 }]
def classes : Array Class := #[k0, k1, k2, k3, k4, k5, k6, k7, k8, k9, k10, k11, k12, k13, k14, k15, k16, k17, k18, k19, k20, k21]
def interned : List (Array UInt16 × Addr) := []
def slotsUsed : Nat := 56
def theMethod : MethodId := ⟨1, 4⟩
def args0 : Array Value := #[.int 5, .int 5, .int 5, .int 5]
def aboutOver (below : List Frame) : State where
  vm := { classes := classes, interned := interned.toArray }
  heap := heap
  slotsUsed := slotsUsed
  threads := #[{ frames := .invoking theMethod args0 :: below }]
def below0 : List Frame := [.native { method := ⟨0, 0⟩, args := #[] }]
def about1 : State := aboutOver below0
def p0 : Program := .bare "" "" ""
def e0 : Env := launch0.env 0 0 0
theorem w_frames : about1.frames = Frame.invoking theMethod args0 :: below0 := rfl
set_option maxRecDepth 65536 in
theorem w_args : argsFit about1.vm theMethod args0 = true := by decide +kernel
set_option maxRecDepth 65536 in
theorem w_heap : heapFits about1 = true := by decide +kernel
set_option maxRecDepth 65536 in
theorem w_runnable : about1.curStatus? = some .runnable := by decide +kernel
set_option maxRecDepth 65536 in
theorem w_alone : about1.alone = true := by decide +kernel
set_option maxRecDepth 65536 in
theorem w_named : about1.methodNamed? x = some theMethod := by decide +kernel
set_option maxRecDepth 65536 in
theorem w_hears : about1.hears theMethod below0 = true := by decide +kernel
set_option maxRecDepth 65536 in
theorem w_ripe : about1.ripe theMethod args0 below0 = true := by decide +kernel
theorem w_running : about1.status = .running := rfl
set_option maxRecDepth 65536 in
theorem w_room : about1.hasRoom e0.platform room_1 = true :=
  launch0.hasRoom_least _ room_1 (by decide +kernel) (by decide +kernel) (by decide +kernel) (by decide +kernel) (by decide +kernel) (by decide +kernel)
theorem allAtoms_all (ts : List Jvm.Cond) (a : Array Jvm.Value) (st : Jvm.State) : (allAtoms ts).before a st = ts.all (fun c => c.before a st) := by
  induction ts with
  | nil => rfl
  | cons c t ih =>
    show (Jvm.Cond.and c (allAtoms t)).before a st = _
    rw [Jvm.Cond.before_and, ih, List.all_cons]
def words1 : List Jvm.Cond := Jvm.Cond.code x code maxLocals ret :: tables_1
/-- a 'code' word, met by the world's own term for the bytes: nothing is compared byte by byte -/
theorem code_word {y : MethodName} {bytes : ByteArray} {mx : Nat} {rt : Option FieldType} {a : Array Value} {s : State} {m : MethodId} {meth : Method} {c : Code} (h1 : s.methodNamed? y = some m) (h2 : s.vm.method? m = some meth) (h3 : meth.code = some c) (h4 : c.code = bytes)
    (h5 : (c.maxLocals == mx && c.exceptionTable.isEmpty && decide (c.maxStack ≤ mostOperands) && decide (meth.sig.returnType = rt) && !meth.locks && decide (parseMethodDescriptor y.desc = some meth.sig)) = true) : (Jvm.Cond.code y bytes mx rt).before a s = true := by
  simp only [Bool.and_eq_true, beq_iff_eq, Bool.not_eq_true', decide_eq_true_eq] at h5
  obtain ⟨⟨⟨⟨⟨g1, g2⟩, g3⟩, g4⟩, g5⟩, g6⟩ := h5
  simp [Cond.before, Cond.holds, Cond.value, h1, h2, h3, h4, g1, g2, g3, g4, g5, g6]
def isCode : Jvm.Cond → Bool
  | .code _ _ _ _ => true
  | _ => false
theorem all_split {L : List Jvm.Cond} {P : Jvm.Cond → Bool} (h1 : L.all (fun c => isCode c || P c) = true) (h2 : ∀ c ∈ L.filter isCode, P c = true) : L.all P = true := by
  refine List.all_eq_true.mpr fun c hc => ?_
  have h := List.all_eq_true.mp h1 c hc
  rcases Bool.eq_false_or_eq_true (isCode c) with hi | hi
  · exact h2 c (List.mem_filter.mpr ⟨hc, hi⟩)
  · simpa [hi] using h
set_option maxRecDepth 65536 in
theorem w_c0 : (Jvm.Cond.code x code maxLocals ret).before args0 about1 = true := code_word (m := ⟨1, 4⟩) (meth := k1m4) (c := k1c4) (by decide +kernel) rfl rfl rfl (by decide +kernel)
set_option maxRecDepth 65536 in
theorem w_c1 : (Jvm.Cond.code ({ cls := "com/example/hinta/hinta/ctmc/RewardEqualsPinLaw", name := "kindOf", desc := "(I)Lcom/example/hinta/hinta/lts/Kind;" } : Jvm.MethodName) method_2_code (1 : Nat) (Option.some (Jvm.ClassFile.FieldType.object "com/example/hinta/hinta/lts/Kind"))).before args0 about1 = true := code_word (m := ⟨1, 1⟩) (meth := k1m1) (c := k1c1) (by decide +kernel) rfl rfl rfl (by decide +kernel)
set_option maxRecDepth 65536 in
theorem w_c2 : (Jvm.Cond.code ({ cls := "com/example/hinta/hinta/ctmc/RewardEqualsPinLaw", name := "text", desc := "(ICC)Ljava/lang/String;" } : Jvm.MethodName) method_3_code (4 : Nat) (Option.some (Jvm.ClassFile.FieldType.object "java/lang/String"))).before args0 about1 = true := code_word (m := ⟨1, 2⟩) (meth := k1m2) (c := k1c2) (by decide +kernel) rfl rfl rfl (by decide +kernel)
set_option maxRecDepth 65536 in
theorem w_c3 : (Jvm.Cond.code ({ cls := "java/lang/String", name := "<init>", desc := "([C)V" } : Jvm.MethodName) jdk_42_method_3_code (2 : Nat) (Option.none : Option Jvm.ClassFile.FieldType)).before args0 about1 = true := code_word (m := ⟨9, 1⟩) (meth := k9m1) (c := k9c1) (by decide +kernel) rfl rfl rfl (by decide +kernel)
set_option maxRecDepth 65536 in
theorem w_c4 : (Jvm.Cond.code ({ cls := "java/lang/String", name := "<init>", desc := "([CIILjava/lang/Void;)V" } : Jvm.MethodName) jdk_42_method_149_code (6 : Nat) (Option.none : Option Jvm.ClassFile.FieldType)).before args0 about1 = true := code_word (m := ⟨9, 3⟩) (meth := k9m3) (c := k9c3) (by decide +kernel) rfl rfl rfl (by decide +kernel)
set_option maxRecDepth 65536 in
theorem w_c5 : (Jvm.Cond.code ({ cls := "java/lang/Object", name := "<init>", desc := "()V" } : Jvm.MethodName) object_method_1_code (1 : Nat) (Option.none : Option Jvm.ClassFile.FieldType)).before args0 about1 = true := code_word (m := ⟨0, 0⟩) (meth := k0m0) (c := k0c0) (by decide +kernel) rfl rfl rfl (by decide +kernel)
set_option maxRecDepth 65536 in
theorem w_c6 : (Jvm.Cond.code ({ cls := "com/example/hinta/hinta/ctmc/Reward", name := "<init>", desc := "(Ljava/lang/String;Lcom/example/hinta/hinta/lts/Kind;)V" } : Jvm.MethodName) prog_3_method_1_code (3 : Nat) (Option.none : Option Jvm.ClassFile.FieldType)).before args0 about1 = true := code_word (m := ⟨10, 0⟩) (meth := k10m0) (c := k10c0) (by decide +kernel) rfl rfl rfl (by decide +kernel)
set_option maxRecDepth 65536 in
theorem w_c7 : (Jvm.Cond.code ({ cls := "com/example/hinta/hinta/ctmc/RewardEqualsPinLaw", name := "sameText", desc := "(ICCICC)Z" } : Jvm.MethodName) method_4_code (6 : Nat) (Option.some Jvm.ClassFile.FieldType.boolean)).before args0 about1 = true := code_word (m := ⟨1, 3⟩) (meth := k1m3) (c := k1c3) (by decide +kernel) rfl rfl rfl (by decide +kernel)
set_option maxRecDepth 65536 in
theorem w_c8 : (Jvm.Cond.code ({ cls := "com/example/hinta/hinta/ctmc/Reward", name := "equals", desc := "(Ljava/lang/Object;)Z" } : Jvm.MethodName) prog_3_method_6_code (2 : Nat) (Option.some Jvm.ClassFile.FieldType.boolean)).before args0 about1 = true := code_word (m := ⟨10, 1⟩) (meth := k10m1) (c := k10c1) (by decide +kernel) rfl rfl rfl (by decide +kernel)
set_option maxRecDepth 65536 in
theorem w_c9 : (Jvm.Cond.code ({ cls := "java/lang/String", name := "equals", desc := "(Ljava/lang/Object;)Z" } : Jvm.MethodName) jdk_42_method_66_code (3 : Nat) (Option.some Jvm.ClassFile.FieldType.boolean)).before args0 about1 = true := code_word (m := ⟨9, 2⟩) (meth := k9m2) (c := k9c2) (by decide +kernel) rfl rfl rfl (by decide +kernel)
set_option maxRecDepth 65536 in
theorem w_c10 : (Jvm.Cond.code ({ cls := "java/lang/StringLatin1", name := "equals", desc := "([B[B)Z" } : Jvm.MethodName) jdk_43_method_13_code (3 : Nat) (Option.some Jvm.ClassFile.FieldType.boolean)).before args0 about1 = true := code_word (m := ⟨11, 1⟩) (meth := k11m1) (c := k11c1) (by decide +kernel) rfl rfl rfl (by decide +kernel)
set_option maxRecDepth 65536 in
theorem w_c11 : (Jvm.Cond.code ({ cls := "java/lang/StringUTF16", name := "compress", desc := "([CII)[B" } : Jvm.MethodName) jdk_52_method_16_code (6 : Nat) (Option.some (Jvm.ClassFile.FieldType.array Jvm.ClassFile.FieldType.byte))).before args0 about1 = true := code_word (m := ⟨12, 2⟩) (meth := k12m2) (c := k12c2) (by decide +kernel) rfl rfl rfl (by decide +kernel)
set_option maxRecDepth 65536 in
theorem w_c12 : (Jvm.Cond.code ({ cls := "java/lang/StringUTF16", name := "compress", desc := "([CI[BII)I" } : Jvm.MethodName) jdk_52_method_21_code (7 : Nat) (Option.some Jvm.ClassFile.FieldType.int)).before args0 about1 = true := code_word (m := ⟨12, 3⟩) (meth := k12m3) (c := k12c3) (by decide +kernel) rfl rfl rfl (by decide +kernel)
set_option maxRecDepth 65536 in
theorem w_c13 : (Jvm.Cond.code ({ cls := "java/lang/StringUTF16", name := "coderFromArrayLen", desc := "([BI)B" } : Jvm.MethodName) jdk_52_method_15_code (2 : Nat) (Option.some Jvm.ClassFile.FieldType.byte)).before args0 about1 = true := code_word (m := ⟨12, 1⟩) (meth := k12m1) (c := k12c1) (by decide +kernel) rfl rfl rfl (by decide +kernel)
def codes1 : List Jvm.Cond := [Jvm.Cond.code x code maxLocals ret, Jvm.Cond.code ({ cls := "com/example/hinta/hinta/ctmc/RewardEqualsPinLaw", name := "kindOf", desc := "(I)Lcom/example/hinta/hinta/lts/Kind;" } : Jvm.MethodName) method_2_code (1 : Nat) (Option.some (Jvm.ClassFile.FieldType.object "com/example/hinta/hinta/lts/Kind")), Jvm.Cond.code ({ cls := "com/example/hinta/hinta/ctmc/RewardEqualsPinLaw", name := "text", desc := "(ICC)Ljava/lang/String;" } : Jvm.MethodName) method_3_code (4 : Nat) (Option.some (Jvm.ClassFile.FieldType.object "java/lang/String")), Jvm.Cond.code ({ cls := "java/lang/String", name := "<init>", desc := "([C)V" } : Jvm.MethodName) jdk_42_method_3_code (2 : Nat) (Option.none : Option Jvm.ClassFile.FieldType), Jvm.Cond.code ({ cls := "java/lang/String", name := "<init>", desc := "([CIILjava/lang/Void;)V" } : Jvm.MethodName) jdk_42_method_149_code (6 : Nat) (Option.none : Option Jvm.ClassFile.FieldType), Jvm.Cond.code ({ cls := "java/lang/Object", name := "<init>", desc := "()V" } : Jvm.MethodName) object_method_1_code (1 : Nat) (Option.none : Option Jvm.ClassFile.FieldType), Jvm.Cond.code ({ cls := "com/example/hinta/hinta/ctmc/Reward", name := "<init>", desc := "(Ljava/lang/String;Lcom/example/hinta/hinta/lts/Kind;)V" } : Jvm.MethodName) prog_3_method_1_code (3 : Nat) (Option.none : Option Jvm.ClassFile.FieldType), Jvm.Cond.code ({ cls := "com/example/hinta/hinta/ctmc/RewardEqualsPinLaw", name := "sameText", desc := "(ICCICC)Z" } : Jvm.MethodName) method_4_code (6 : Nat) (Option.some Jvm.ClassFile.FieldType.boolean), Jvm.Cond.code ({ cls := "com/example/hinta/hinta/ctmc/Reward", name := "equals", desc := "(Ljava/lang/Object;)Z" } : Jvm.MethodName) prog_3_method_6_code (2 : Nat) (Option.some Jvm.ClassFile.FieldType.boolean), Jvm.Cond.code ({ cls := "java/lang/String", name := "equals", desc := "(Ljava/lang/Object;)Z" } : Jvm.MethodName) jdk_42_method_66_code (3 : Nat) (Option.some Jvm.ClassFile.FieldType.boolean), Jvm.Cond.code ({ cls := "java/lang/StringLatin1", name := "equals", desc := "([B[B)Z" } : Jvm.MethodName) jdk_43_method_13_code (3 : Nat) (Option.some Jvm.ClassFile.FieldType.boolean), Jvm.Cond.code ({ cls := "java/lang/StringUTF16", name := "compress", desc := "([CII)[B" } : Jvm.MethodName) jdk_52_method_16_code (6 : Nat) (Option.some (Jvm.ClassFile.FieldType.array Jvm.ClassFile.FieldType.byte)), Jvm.Cond.code ({ cls := "java/lang/StringUTF16", name := "compress", desc := "([CI[BII)I" } : Jvm.MethodName) jdk_52_method_21_code (7 : Nat) (Option.some Jvm.ClassFile.FieldType.int), Jvm.Cond.code ({ cls := "java/lang/StringUTF16", name := "coderFromArrayLen", desc := "([BI)B" } : Jvm.MethodName) jdk_52_method_15_code (2 : Nat) (Option.some Jvm.ClassFile.FieldType.byte)]
set_option maxRecDepth 65536 in
theorem codes_eq : words1.filter isCode = codes1 := rfl
theorem w_codes : ∀ c ∈ words1.filter isCode, c.before args0 about1 = true := by
  rw [codes_eq]
  intro c hc
  simp only [codes1, List.mem_cons, List.not_mem_nil, or_false] at hc
  rcases hc with rfl | rfl | rfl | rfl | rfl | rfl | rfl | rfl | rfl | rfl | rfl | rfl | rfl | rfl
  · exact w_c0
  · exact w_c1
  · exact w_c2
  · exact w_c3
  · exact w_c4
  · exact w_c5
  · exact w_c6
  · exact w_c7
  · exact w_c8
  · exact w_c9
  · exact w_c10
  · exact w_c11
  · exact w_c12
  · exact w_c13
set_option maxRecDepth 65536 in
theorem w_t1 : (words1.take 24).all (fun c => isCode c || c.before args0 about1) = true := by decide +kernel
set_option maxRecDepth 65536 in
theorem w_t2 : ((words1.drop 24).take 24).all (fun c => isCode c || c.before args0 about1) = true := by decide +kernel
set_option maxRecDepth 65536 in
theorem w_t3 : (((words1.drop 24).drop 24).take 24).all (fun c => isCode c || c.before args0 about1) = true := by decide +kernel
set_option maxRecDepth 65536 in
theorem w_t4 : (((words1.drop 24).drop 24).drop 24).all (fun c => isCode c || c.before args0 about1) = true := by decide +kernel
theorem w_tables : (allAtoms (Jvm.Cond.code x code maxLocals ret :: tables_1)).before args0 about1 = true := by
  rw [allAtoms_all]
  show words1.all (fun c => c.before args0 about1) = true
  refine all_split ?_ w_codes
  rw [← List.take_append_drop 24 words1, List.all_append, w_t1, ← List.take_append_drop 24 (words1.drop 24), List.all_append, w_t2, ← List.take_append_drop 24 ((words1.drop 24).drop 24), List.all_append, w_t3, w_t4]
  rfl
set_option maxRecDepth 65536 in
theorem w_rest : rest_1_c.before args0 about1 = true := by decide +kernel
set_option maxRecDepth 65536 in
theorem w_case : (Jvm.Cond.and given_1 narrow_1).before args0 about1 = true := by decide +kernel
set_option maxRecDepth 65536 in
theorem w_consts : constsHeld consts_1 about1 := Jvm.Lit.constsHeldB_iff.mp (by decide +kernel)
theorem w_applies : (headSpec (Jvm.Cond.code x code maxLocals ret :: tables_1) room_1).applies x e0.platform about1 = true :=
  (Spec.applies_iff w_frames).mpr ⟨w_running, w_runnable, w_alone, w_named, w_hears, w_ripe, w_room, w_tables⟩
theorem atStart : AtStart classFile x code maxLocals ret World_1 tables_1 room_1 Calls_1 rest_1 Pre_1 launch0 p0 e0 about1 theMethod args0 below0 :=
  ⟨lists_1, trivial, launch0.admits_env _ _ _, launch0.least_env, fairChoices_fair.cas, fairChoices_fair.clock, w_frames, w_args, w_heap, w_applies, ⟨w_consts, trivial⟩, w_rest, w_case⟩
end start1
theorem witness_1 : WitnessClaimed_1 := ⟨start1.p0, start1.e0, start1.about1, start1.theMethod, start1.args0, start1.below0, start1.atStart⟩
end Jvm.Pilot.@@N@@
