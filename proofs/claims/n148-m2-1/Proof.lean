import JvmDerived
import JvmDerived.Pilot.@@N@@Statement
import JvmDerived.Pilot.@@N@@Code
set_option linter.unusedVariables false
set_option linter.unusedSimpArgs false
namespace Jvm.Pilot.@@N@@
open Jvm Jvm.ClassFile Sem Op Lib Jvm.Free Jvm.Stand Jvm.LawKit Jvm.RoadKit Bundle Jvm.Pilot.@@N@@.Jvm.D
section Own
variable {p : Program} {l : Launch} {e : Env} {R : Room} {s : State} {m : MethodId} {args : Array Value} {below : List Frame} {meth : Method} {c : Code} {T T' : State} {locs : List Loc} {cells slots : Nat}
/-- from T with the frame f on top the method comes to its end; what it returns, the heap and the places written answer Q; at most C cells and N slots are new -/
def own_Fin (p : Program) (e : Env) (below : List Frame) (s : State) (C N : Nat) (Q : Option Value → Heap → List Loc → Prop) (T : State) (f : JFrame) : Prop :=
  ∃ s₂ o, Steps p.tables e below (T.setTop f) s₂ ∧ s₂.status = .running ∧ Ended s₂ below o ∧ ∃ v L, o = .returned v ∧ Q v s₂.heap L ∧ FrameEnd s o s₂ L C N
variable {C N : Nat} {Q : Option Value → Heap → List Loc → Prop} {f f' : JFrame}
theorem own_by (h : ∀ t, Steps p.tables e below (T'.setTop f') t → Steps p.tables e below (T.setTop f) t) (k : own_Fin p e below s C N Q T' f') : own_Fin p e below s C N Q T f := by
  obtain ⟨s2, o, h1, h2⟩ := k
  exact ⟨s2, o, h _ h1, h2⟩
theorem own_start (q : f = f') (k : own_Fin p e below s C N Q T f') : ∃ s₂ o, Steps p.tables e below (T.setTop f) s₂ ∧ s₂.status = .running ∧ Ended s₂ below o ∧ ∃ v L, o = .returned v ∧ Q v s₂.heap L ∧ FrameEnd s o s₂ L C N := by
  subst q; exact k
theorem own_leaf (X : Stand p l e R s m args below meth c T locs cells slots) (hlk : meth.locks = false) {v : Option Value} (hv : meth.sig.returnType = none → v = none)
    (hs : ∀ fs, (∀ (f : JFrame) (acts : List Action), f.method = m → f.locked = none → f.entered = [] → (doReturn e (T.setTop f) acts v).1 = T.setFrames fs) → Steps p.tables e below (T.setTop f) (T.setFrames fs))
    (hQ : Q v T.heap locs) (hc : cells ≤ C) (hn : slots ≤ N) : own_Fin p e below s C N Q T f := by
  obtain ⟨fs, hr, hrun, hended, hW, hsame⟩ := X.leave (v := v) hv hlk
  exact ⟨_, _, hs fs hr, hrun, hended, _, _, rfl, hQ, ⟨_, rfl⟩, hW, hsame.mono hc hn⟩
theorem own_retV (X : Stand p l e R s m args below meth c T locs cells slots) (hx : p.tables.exec = Jvm.exec) (hlk : meth.locks = false) {pc : Nat} {Ls : Array Slot} (hret : meth.sig.returnType = none) (hd : decode c.code pc = .ok (.return_, 1))
    (hQ : Q none T.heap locs) (hc : cells ≤ C) (hn : slots ≤ N) : own_Fin p e below s C N Q T (mkF m pc Ls []) :=
  own_leaf X hlk (fun _ => rfl) (fun fs hr => X.returnOut hx hret hd hr) hQ hc hn
theorem own_retZ (X : Stand p l e R s m args below meth c T locs cells slots) (hx : p.tables.exec = Jvm.exec) (hlk : meth.locks = false) {pc : Nat} {Ls : Array Slot} {z : Int32} {t : FieldType} {rest : List Value} (hret : meth.sig.returnType = some t) (ht : t = .boolean ∨ t = .byte ∨ t = .char ∨ t = .short) (hd : decode c.code pc = .ok (.ireturn, 1))
    (hQ : Q (some (.int (nar t z))) T.heap locs) (hc : cells ≤ C) (hn : slots ≤ N) : own_Fin p e below s C N Q T (mkF m pc Ls (.int z :: rest)) :=
  own_leaf X hlk (fun h => by rw [hret] at h; cases h) (fun fs hr => retN X hx hret ht hd hr) hQ hc hn
theorem own_retO (X : Stand p l e R s m args below meth c T locs cells slots) (hx : p.tables.exec = Jvm.exec) (hlk : meth.locks = false) {pc : Nat} {Ls : Array Slot} {w : Value} {t : FieldType} {i : Instr} {rest : List Value} (hret : meth.sig.returnType = some t) (hn' : narrow t w = w)
    (hi : (i = .ireturn ∧ (t = .int ∨ t = .boolean ∨ t = .byte ∨ t = .char ∨ t = .short) ∧ ∃ z, w = .int z) ∨ (i = .lreturn ∧ t = .long ∧ ∃ z, w = .long z) ∨ (i = .dreturn ∧ t = .double ∧ ∃ z, w = .double z) ∨ (i = .freturn ∧ t = .float ∧ ∃ z, w = .float z) ∨ (i = .areturn ∧ t.isReference = true ∧ w.isRef = true))
    (hd : decode c.code pc = .ok (i, 1)) (hQ : Q (some w) T.heap locs) (hc : cells ≤ C) (hn : slots ≤ N) : own_Fin p e below s C N Q T (mkF m pc Ls (w :: rest)) :=
  own_leaf X hlk (fun h => by rw [hret] at h; cases h) (fun fs hr => retOut X hx hret hn' hi hd hr) hQ hc hn
theorem own_retI (X : Stand p l e R s m args below meth c T locs cells slots) (hx : p.tables.exec = Jvm.exec) (hlk : meth.locks = false) {pc : Nat} {Ls : Array Slot} {z : Int32} {rest : List Value} (hret : meth.sig.returnType = some .int) (hd : decode c.code pc = .ok (.ireturn, 1))
    (hQ : Q (some (.int z)) T.heap locs) (hc : cells ≤ C) (hn : slots ≤ N) : own_Fin p e below s C N Q T (mkF m pc Ls (.int z :: rest)) :=
  own_retO X hx hlk hret rfl (Or.inl ⟨rfl, Or.inl rfl, _, rfl⟩) hd hQ hc hn
theorem own_retJ (X : Stand p l e R s m args below meth c T locs cells slots) (hx : p.tables.exec = Jvm.exec) (hlk : meth.locks = false) {pc : Nat} {Ls : Array Slot} {z : Int64} {rest : List Value} (hret : meth.sig.returnType = some .long) (hd : decode c.code pc = .ok (.lreturn, 1))
    (hQ : Q (some (.long z)) T.heap locs) (hc : cells ≤ C) (hn : slots ≤ N) : own_Fin p e below s C N Q T (mkF m pc Ls (.long z :: rest)) :=
  own_retO X hx hlk hret rfl (Or.inr (Or.inl ⟨rfl, rfl, _, rfl⟩)) hd hQ hc hn
theorem own_retA (X : Stand p l e R s m args below meth c T locs cells slots) (hx : p.tables.exec = Jvm.exec) (hlk : meth.locks = false) {pc : Nat} {Ls : Array Slot} {w : Value} {t : FieldType} {rest : List Value} (hret : meth.sig.returnType = some t) (hr : t.isReference = true) (hn' : narrow t w = w) (hw : w.isRef = true) (hd : decode c.code pc = .ok (.areturn, 1))
    (hQ : Q (some w) T.heap locs) (hc : cells ≤ C) (hn : slots ≤ N) : own_Fin p e below s C N Q T (mkF m pc Ls (w :: rest)) :=
  own_retO X hx hlk hret hn' (Or.inr (Or.inr (Or.inr (Or.inr ⟨rfl, hr, hw⟩)))) hd hQ hc hn
/-- a room by its four numbers -/
abbrev own_R (f c s l : Nat) : Room := { frames := f, cells := c, slots := s, locals := l }
/-- the contract's form: called with A at a heap h0 it returns, and Q holds of what it returns, the heap and the places written -/
abbrev own_Met (l : Launch) (Z : State) (y : MethodName) (code : ByteArray) (ml : Nat) (ret : Option FieldType) (ws : List Jvm.Cond) (R : Room) (A : Array Value) (h0 : Heap) (Q : Option Value → Heap → List Loc → Prop) : Prop :=
  MetFree l y (head1 (Jvm.Cond.code y code ml ret :: ws) R) (fun a U => a = A ∧ Z.Warmed39 U.vm ∧ U.heap = h0) (fun _ _ _ _ _ => True) (fun _ U o U' => ∃ v L, o = .returned v ∧ Q v U'.heap L ∧ FrameEnd U o U' L R.cells R.slots)
theorem own_enter {Z : State} {y : MethodName} {code : ByteArray} {ml : Nat} {ret : Option FieldType} {ws : List Jvm.Cond} {A : Array Value} {h0 : Heap} {f0 : MethodId → JFrame} (n0 : Nat) (hpn : plainName y.cls = true) (hef : ∀ m, entryFrame m A ml = f0 m)
    (H : ∀ (p : Program) (e : Env) (s : State) (m : MethodId) (below : List Frame) (meth : Method) (c : Code) (s₁ : State), p.tables.exec = Jvm.exec → c.code = code → meth.locks = false → c.maxLocals = ml → meth.sig.returnType = ret → s.vm.findClass y.cls = some m.cls → meth.name = y.name →
      Z.Warmed39 s.vm → Stand p l e R s m A below meth c s₁ [] 0 0 → s₁.heap = h0 → Fr n0 [] → own_Fin p e below s R.cells R.slots Q s₁ (f0 m)) : own_Met l Z y code ml ret ws R A h0 Q := by
  refine MetFree.of_bodySF (plainFor_of_name hpn) hisR ?_
  intro p e s m args below meth c s₁ Bd hml hP _
  obtain ⟨rfl, hZ, hh⟩ := hP
  have q := H p e s m below meth c s₁ Bd.exec Bd.bytes Bd.notSynchronized hml Bd.returns (findClass_of_methodNamed Bd.named) (name_of_methodNamed Bd.named Bd.method).1 hZ (Stand.of_body Bd) (by rw [← hh, Bd.state]; rfl) (Fr.nil n0)
  rw [hef m]
  exact q
end Own
section OwnW
variable {p : Program} {l : Launch} {e : Env} {R : Room} {s : State} {vm0 : Vm} {k0 : Nat} {m : MethodId} {args : Array Value} {below : List Frame} {meth : Method} {c : Code} {T T' : State} {locs : List Loc} {cells slots : Nat}
/-- as own_Fin, the end said by the wide word: String constants may have been interned meanwhile -/
def own_FinW (p : Program) (e : Env) (below : List Frame) (s : State) (C N : Nat) (Q : Option Value → Heap → List Loc → Prop) (T : State) (f : JFrame) : Prop :=
  ∃ s₂ o, Steps p.tables e below (T.setTop f) s₂ ∧ s₂.status = .running ∧ Ended s₂ below o ∧ ∃ v L, o = .returned v ∧ Q v s₂.heap L ∧ ReturnedEndW s o s₂ L C N
variable {C N : Nat} {Q : Option Value → Heap → List Loc → Prop} {f f' : JFrame}
theorem own_byW (h : ∀ t, Steps p.tables e below (T'.setTop f') t → Steps p.tables e below (T.setTop f) t) (k : own_FinW p e below s C N Q T' f') : own_FinW p e below s C N Q T f := by
  obtain ⟨s2, o, h1, h2⟩ := k
  exact ⟨s2, o, h _ h1, h2⟩
theorem own_startW (q : f = f') (k : own_FinW p e below s C N Q T f') : ∃ s₂ o, Steps p.tables e below (T.setTop f) s₂ ∧ s₂.status = .running ∧ Ended s₂ below o ∧ ∃ v L, o = .returned v ∧ Q v s₂.heap L ∧ ReturnedEndW s o s₂ L C N := by
  subst q; exact k
theorem own_endW {t : State} {o : Outcome} {L : List Loc} (h : ReturnedEndW s o t L cells slots) (hc : cells ≤ C) (hn : slots ≤ N) : ReturnedEndW s o t L C N :=
  ⟨h.1, h.2.1, h.2.2.1, h.2.2.2.mono hc hn⟩
theorem own_leafW (X : Stand p l e R (s.setVm vm0) m args below meth c T locs cells slots) (hS : s.Since vm0 k0) (hk : k0 ≤ T.heap.size) (hlk : meth.locks = false) {v : Option Value} (hv : meth.sig.returnType = none → v = none)
    (hs : ∀ fs, (∀ (f : JFrame) (acts : List Action), f.method = m → f.locked = none → f.entered = [] → (doReturn e (T.setTop f) acts v).1 = T.setFrames fs) → Steps p.tables e below (T.setTop f) (T.setFrames fs))
    (hQ : Q v T.heap locs) (hc : cells ≤ C) (hn : slots ≤ N) : own_FinW p e below s C N Q T f := by
  obtain ⟨fs, hr, hrun, hended, hE⟩ := X.leaveW hS hk (v := v) hv hlk
  exact ⟨_, _, hs fs hr, hrun, hended, _, _, rfl, hQ, own_endW hE hc hn⟩
theorem own_retVW (X : Stand p l e R (s.setVm vm0) m args below meth c T locs cells slots) (hS : s.Since vm0 k0) (hk : k0 ≤ T.heap.size) (hx : p.tables.exec = Jvm.exec) (hlk : meth.locks = false) {pc : Nat} {Ls : Array Slot} (hret : meth.sig.returnType = none) (hd : decode c.code pc = .ok (.return_, 1))
    (hQ : Q none T.heap locs) (hc : cells ≤ C) (hn : slots ≤ N) : own_FinW p e below s C N Q T (mkF m pc Ls []) :=
  own_leafW X hS hk hlk (fun _ => rfl) (fun fs hr => X.returnOut hx hret hd hr) hQ hc hn
theorem own_retZW (X : Stand p l e R (s.setVm vm0) m args below meth c T locs cells slots) (hS : s.Since vm0 k0) (hk : k0 ≤ T.heap.size) (hx : p.tables.exec = Jvm.exec) (hlk : meth.locks = false) {pc : Nat} {Ls : Array Slot} {z : Int32} {t : FieldType} {rest : List Value} (hret : meth.sig.returnType = some t) (ht : t = .boolean ∨ t = .byte ∨ t = .char ∨ t = .short) (hd : decode c.code pc = .ok (.ireturn, 1))
    (hQ : Q (some (.int (nar t z))) T.heap locs) (hc : cells ≤ C) (hn : slots ≤ N) : own_FinW p e below s C N Q T (mkF m pc Ls (.int z :: rest)) :=
  own_leafW X hS hk hlk (fun h => by rw [hret] at h; cases h) (fun fs hr => retN X hx hret ht hd hr) hQ hc hn
theorem own_retOW (X : Stand p l e R (s.setVm vm0) m args below meth c T locs cells slots) (hS : s.Since vm0 k0) (hk : k0 ≤ T.heap.size) (hx : p.tables.exec = Jvm.exec) (hlk : meth.locks = false) {pc : Nat} {Ls : Array Slot} {w : Value} {t : FieldType} {i : Instr} {rest : List Value} (hret : meth.sig.returnType = some t) (hn' : narrow t w = w)
    (hi : (i = .ireturn ∧ (t = .int ∨ t = .boolean ∨ t = .byte ∨ t = .char ∨ t = .short) ∧ ∃ z, w = .int z) ∨ (i = .lreturn ∧ t = .long ∧ ∃ z, w = .long z) ∨ (i = .dreturn ∧ t = .double ∧ ∃ z, w = .double z) ∨ (i = .freturn ∧ t = .float ∧ ∃ z, w = .float z) ∨ (i = .areturn ∧ t.isReference = true ∧ w.isRef = true))
    (hd : decode c.code pc = .ok (i, 1)) (hQ : Q (some w) T.heap locs) (hc : cells ≤ C) (hn : slots ≤ N) : own_FinW p e below s C N Q T (mkF m pc Ls (w :: rest)) :=
  own_leafW X hS hk hlk (fun h => by rw [hret] at h; cases h) (fun fs hr => retOut X hx hret hn' hi hd hr) hQ hc hn
theorem own_retIW (X : Stand p l e R (s.setVm vm0) m args below meth c T locs cells slots) (hS : s.Since vm0 k0) (hk : k0 ≤ T.heap.size) (hx : p.tables.exec = Jvm.exec) (hlk : meth.locks = false) {pc : Nat} {Ls : Array Slot} {z : Int32} {rest : List Value} (hret : meth.sig.returnType = some .int) (hd : decode c.code pc = .ok (.ireturn, 1))
    (hQ : Q (some (.int z)) T.heap locs) (hc : cells ≤ C) (hn : slots ≤ N) : own_FinW p e below s C N Q T (mkF m pc Ls (.int z :: rest)) :=
  own_retOW X hS hk hx hlk hret rfl (Or.inl ⟨rfl, Or.inl rfl, _, rfl⟩) hd hQ hc hn
theorem own_retAW (X : Stand p l e R (s.setVm vm0) m args below meth c T locs cells slots) (hS : s.Since vm0 k0) (hk : k0 ≤ T.heap.size) (hx : p.tables.exec = Jvm.exec) (hlk : meth.locks = false) {pc : Nat} {Ls : Array Slot} {w : Value} {t : FieldType} {rest : List Value} (hret : meth.sig.returnType = some t) (hr : t.isReference = true) (hn' : narrow t w = w) (hw : w.isRef = true) (hd : decode c.code pc = .ok (.areturn, 1))
    (hQ : Q (some w) T.heap locs) (hc : cells ≤ C) (hn : slots ≤ N) : own_FinW p e below s C N Q T (mkF m pc Ls (w :: rest)) :=
  own_retOW X hS hk hx hlk hret hn' (Or.inr (Or.inr (Or.inr (Or.inr ⟨rfl, hr, hw⟩)))) hd hQ hc hn
end OwnW
theorem own_vi {a b : Int32} (h : a = b) : some (Value.int a) = some (Value.int b) := h ▸ rfl
theorem own_wS {a0 : Array Value} {Z : State} (hw : ∀ d ∈ tables_1, d.before a0 Z = true) : ∀ a ∈ Bundle.stringAtoms, a.before a0 Z = true := fun d hd => hw d ((by decide +kernel : ∀ d ∈ Bundle.stringAtoms, d ∈ tables_1) d hd)
def own_sum (v : Int64) : Nat → Int64
  | 0 => 0
  | k + 1 => own_sum v k + v
theorem own_sum_int (v : Int64) : ∀ N : Nat, ((own_sum v N).toInt - (N : Int) * v.toInt) % 18446744073709551616 = 0
  | 0 => by
    have z : (own_sum v 0).toInt = 0 := by show (0 : Int64).toInt = 0; decide
    rw [z]; simp
  | k + 1 => by
    have h := own_sum_int v k
    have a := c_ladd (own_sum v k) v
    have e : own_sum v (k + 1) = own_sum v k + v := rfl
    rw [e]
    have m : ((k + 1 : Nat) : Int) * v.toInt = (k : Int) * v.toInt + v.toInt := by rw [Int.natCast_add, Int.add_mul]; simp
    rw [m]
    generalize (k : Int) * v.toInt = y at h ⊢
    omega
theorem own_set (i : Nat) (x d : Value) : (List.replicate i x ++ List.replicate 1 d).set i x = List.replicate (i + 1) x := by
  induction i with
  | zero => rfl
  | succ i ih => simpa [List.replicate_succ] using ih
theorem own_lt {i z : Int32} {j k : Nat} (h1 : i.toInt = j) (h2 : z.toInt = j + (k + 1 : Nat)) : i < z := by rw [Int32.lt_iff_toInt_lt]; omega
theorem own_nlt {i z : Int32} {j : Nat} (h1 : i.toInt = j) (h2 : z.toInt = j + (0 : Nat)) : ¬ i < z := by rw [Int32.lt_iff_toInt_lt]; omega
theorem own_inc {i : Int32} {j : Nat} (h1 : i.toInt = j) (h2 : j < 100) : (i + (1 : Int32)).toInt = (j + 1 : Nat) := by
  have a := c_iadd i 1
  have k1 : (1 : Int32).toInt = 1 := by decide
  have al := Int32.toInt_lt (i + 1)
  have ag := Int32.le_toInt (i + 1)
  omega
theorem own_nc {i : Int32} {j : Nat} (h1 : i.toInt = j) : i.toNatClampNeg = j := by unfold Int32.toNatClampNeg; rw [h1]; rfl
theorem own_in {i z : Int32} {j k : Nat} (h1 : i.toInt = j) (h2 : z.toInt = j + (k + 1 : Nat)) : ¬ i < 0 ∧ i < z := by
  have k0 : (0 : Int32).toInt = 0 := by decide
  constructor <;> rw [Int32.lt_iff_toInt_lt] <;> omega
theorem own_rep (n i : Nat) (x d : Value) (h : i < n) : (List.replicate n x).getD i d = x := by
  rw [List.getD_eq_getElem?_getD, List.getElem?_replicate, if_pos h]; rfl
theorem own_past (p : Int32) : ∃ (z : Int32) (N : Nat), ((p &&& (7 : Int32)) + (2 : Int32)) = z ∧ z.toInt = N ∧ N ≤ 9 := by
  have m := c_and p 7 (by decide)
  have a := c_iadd (p &&& 7) 2
  have k2 : (2 : Int32).toInt = 2 := by decide
  have k7 : (7 : Int32).toInt = 7 := by decide
  have al := Int32.toInt_lt ((p &&& 7) + 2)
  have ag := Int32.le_toInt ((p &&& 7) + 2)
  exact ⟨_, (((p &&& 7) + 2).toInt).toNat, rfl, by omega, by omega⟩
theorem own_z {z : Int32} {N : Nat} (h : z.toInt = N) : ¬ z < 0 := by
  have k0 : (0 : Int32).toInt = 0 := by decide
  rw [Int32.lt_iff_toInt_lt]; omega
theorem own_z9 {z : Int32} {N : Nat} (h : z.toInt = N) (h9 : N ≤ 9) : z.toNatClampNeg ≤ 9 := by rw [own_nc h]; exact h9
theorem own_plain1 {z : Int32} {N : Nat} (m : Int32) (h : z.toInt = N) : (lcmpW (own_sum m.toInt64 N * (1 : Int32).toInt64) ((z.toInt64 * m.toInt64) * (1 : Int64))) = (0 : Int32) := by
  apply (lw_eq _ _).mpr
  apply Int64.toInt_inj.mp
  have s := own_sum_int m.toInt64 N
  have a := c_lmul (own_sum m.toInt64 N) (1 : Int32).toInt64
  have b := c_lmul (z.toInt64 * m.toInt64) (1 : Int64)
  have d := c_lmul z.toInt64 m.toInt64
  have e1 : ((1 : Int32).toInt64).toInt = 1 := by decide
  have e2 : (1 : Int64).toInt = 1 := by decide
  rw [e1] at a
  rw [e2] at b
  rw [c_i2l z, h] at d
  have al := Int64.toInt_lt (own_sum m.toInt64 N * (1 : Int32).toInt64)
  have ag := Int64.le_toInt (own_sum m.toInt64 N * (1 : Int32).toInt64)
  have bl := Int64.toInt_lt (z.toInt64 * m.toInt64 * (1 : Int64))
  have bg := Int64.le_toInt (z.toInt64 * m.toInt64 * (1 : Int64))
  generalize (N : Int) * m.toInt64.toInt = y at s d
  omega
theorem own_plain4 {z : Int32} {N : Nat} (m : Int32) (h : z.toInt = N) : (lcmpW (own_sum m.toInt64 N * (4 : Int32).toInt64) ((z.toInt64 * m.toInt64) * (4 : Int64))) = (0 : Int32) := by
  apply (lw_eq _ _).mpr
  apply Int64.toInt_inj.mp
  have s := own_sum_int m.toInt64 N
  have a := c_lmul (own_sum m.toInt64 N) (4 : Int32).toInt64
  have b := c_lmul (z.toInt64 * m.toInt64) (4 : Int64)
  have d := c_lmul z.toInt64 m.toInt64
  have e1 : ((4 : Int32).toInt64).toInt = 4 := by decide
  have e2 : (4 : Int64).toInt = 4 := by decide
  rw [e1] at a
  rw [e2] at b
  rw [c_i2l z, h] at d
  have al := Int64.toInt_lt (own_sum m.toInt64 N * (4 : Int32).toInt64)
  have ag := Int64.le_toInt (own_sum m.toInt64 N * (4 : Int32).toInt64)
  have bl := Int64.toInt_lt (z.toInt64 * m.toInt64 * (4 : Int64))
  have bg := Int64.le_toInt (z.toInt64 * m.toInt64 * (4 : Int64))
  generalize (N : Int) * m.toInt64.toInt = y at s d
  omega
theorem own_plain8 {z : Int32} {N : Nat} (m : Int32) (h : z.toInt = N) : (lcmpW (own_sum m.toInt64 N * (8 : Int32).toInt64) ((z.toInt64 * m.toInt64) * (8 : Int64))) = (0 : Int32) := by
  apply (lw_eq _ _).mpr
  apply Int64.toInt_inj.mp
  have s := own_sum_int m.toInt64 N
  have a := c_lmul (own_sum m.toInt64 N) (8 : Int32).toInt64
  have b := c_lmul (z.toInt64 * m.toInt64) (8 : Int64)
  have d := c_lmul z.toInt64 m.toInt64
  have e1 : ((8 : Int32).toInt64).toInt = 8 := by decide
  have e2 : (8 : Int64).toInt = 8 := by decide
  rw [e1] at a
  rw [e2] at b
  rw [c_i2l z, h] at d
  have al := Int64.toInt_lt (own_sum m.toInt64 N * (8 : Int32).toInt64)
  have ag := Int64.le_toInt (own_sum m.toInt64 N * (8 : Int32).toInt64)
  have bl := Int64.toInt_lt (z.toInt64 * m.toInt64 * (8 : Int64))
  have bg := Int64.le_toInt (z.toInt64 * m.toInt64 * (8 : Int64))
  generalize (N : Int) * m.toInt64.toInt = y at s d
  omega
theorem own_plain64 {z : Int32} {N : Nat} (m : Int32) (h : z.toInt = N) : (lcmpW (own_sum m.toInt64 N * (64 : Int32).toInt64) ((z.toInt64 * m.toInt64) * (64 : Int64))) = (0 : Int32) := by
  apply (lw_eq _ _).mpr
  apply Int64.toInt_inj.mp
  have s := own_sum_int m.toInt64 N
  have a := c_lmul (own_sum m.toInt64 N) (64 : Int32).toInt64
  have b := c_lmul (z.toInt64 * m.toInt64) (64 : Int64)
  have d := c_lmul z.toInt64 m.toInt64
  have e1 : ((64 : Int32).toInt64).toInt = 64 := by decide
  have e2 : (64 : Int64).toInt = 64 := by decide
  rw [e1] at a
  rw [e2] at b
  rw [c_i2l z, h] at d
  have al := Int64.toInt_lt (own_sum m.toInt64 N * (64 : Int32).toInt64)
  have ag := Int64.le_toInt (own_sum m.toInt64 N * (64 : Int32).toInt64)
  have bl := Int64.toInt_lt (z.toInt64 * m.toInt64 * (64 : Int64))
  have bg := Int64.le_toInt (z.toInt64 * m.toInt64 * (64 : Int64))
  generalize (N : Int) * m.toInt64.toInt = y at s d
  omega
theorem own_pn1 : plainName "java/util/Objects" = true := by first | (simp [plainName, overriddenIn]; done) | decide +kernel
theorem d7_0 : decode jdk_31_method_11_code 0 = .ok (.aload_n 0, 1) := by decide +kernel
theorem d7_1 : decode jdk_31_method_11_code 1 = .ok (.ifnonnull 12, 3) := by decide +kernel
theorem d7_13 : decode jdk_31_method_11_code 13 = .ok (.aload_n 0, 1) := by decide +kernel
theorem d7_14 : decode jdk_31_method_11_code 14 = .ok (.areturn, 1) := by decide +kernel
theorem ef_rm7 (m : MethodId) (x0 : Addr) (x1 : Addr) : entryFrame m #[(.ref x0), (.ref x1)] 2 = mkF m 0 #[.val (.ref x0), .val (.ref x1)] [] := by first | (simp [entryFrame, mkF, argsToLocals, Value.category]; done) | rfl
def own_Q7 (a1 : Addr) (h0 : Heap) (n0 : Nat) (v : Option Value) (h : Heap) (L : List Loc) : Prop := v = some (.ref a1) ∧ Fr n0 L ∧ h = h0
set_option maxRecDepth 65536 in
set_option maxHeartbeats 40000000 in
theorem rm7 (l : Launch) (Z : State) (a0 : Array Value) (hw : ∀ d ∈ tables_1, d.before a0 Z = true) (ws : List Jvm.Cond) (a1 a2 : Addr) (h0 : Heap) (n0 : Nat) (Z0 : n0 ≤ h0.size)  : own_Met l Z (⟨"java/util/Objects", "requireNonNull", "(Ljava/lang/Object;Ljava/lang/String;)Ljava/lang/Object;"⟩ : MethodName) jdk_31_method_11_code 2 (some (.object "java/lang/Object")) ws (own_R 0 0 0 0) #[(.ref a1), (.ref a2)] h0 (own_Q7 a1 h0 n0) := by
  refine own_enter n0 own_pn1 (fun m => ef_rm7 m a1 a2 ) (fun p e s m below meth c s₁ hx hby hlk hml hret hown hnm hZ X0 e0 N0 => ?_)
  show own_Fin p e below s _ _ _ s₁ (mkF m 0 #[.val (.ref a1), .val (.ref a2)] [])
  refine own_by (fun _ k => XS.aloadN X0.here hx rfl (hb hby d7_0) rfl rfl k) ?_
  show own_Fin p e below s _ _ _ s₁ (mkF m 1 #[.val (.ref a1), .val (.ref a2)] [(.ref a1)])
  refine own_by (fun _ k => XS.ifnonnullYes X0.here hx rfl (pc0 := 1) (pc' := 13) rfl (hb hby d7_1) rfl (by decide) (by decide) k) ?_
  show own_Fin p e below s _ _ _ s₁ (mkF m 13 #[.val (.ref a1), .val (.ref a2)] [])
  refine own_by (fun _ k => XS.aloadN X0.here hx rfl (hb hby d7_13) rfl rfl k) ?_
  show own_Fin p e below s _ _ _ s₁ (mkF m 14 #[.val (.ref a1), .val (.ref a2)] [(.ref a1)])
  exact own_retA X0 hx hlk (t := (.object "java/lang/Object")) hret rfl rfl rfl (hb hby d7_14) ⟨rfl, N0, e0⟩ (by decide) (by decide)
theorem own_pn7 : plainName "java/util/Arrays" = true := by first | (simp [plainName, overriddenIn]; done) | decide +kernel
theorem d3_0 : decode jdk_65_method_103_code 0 = .ok (.iconst 0, 1) := by decide +kernel
theorem d3_1 : decode jdk_65_method_103_code 1 = .ok (.istore_n 2, 1) := by decide +kernel
theorem d3_2 : decode jdk_65_method_103_code 2 = .ok (.aload_n 0, 1) := by decide +kernel
theorem d3_3 : decode jdk_65_method_103_code 3 = .ok (.arraylength, 1) := by decide +kernel
theorem d3_4 : decode jdk_65_method_103_code 4 = .ok (.istore_n 3, 1) := by decide +kernel
theorem d3_5 : decode jdk_65_method_103_code 5 = .ok (.iload_n 2, 1) := by decide +kernel
theorem d3_6 : decode jdk_65_method_103_code 6 = .ok (.iload_n 3, 1) := by decide +kernel
theorem d3_7 : decode jdk_65_method_103_code 7 = .ok (.if_icmp .ge 13, 3) := by decide +kernel
theorem d3_20 : decode jdk_65_method_103_code 20 = .ok (.return_, 1) := by decide +kernel
theorem d3_10 : decode jdk_65_method_103_code 10 = .ok (.aload_n 0, 1) := by decide +kernel
theorem d3_11 : decode jdk_65_method_103_code 11 = .ok (.iload_n 2, 1) := by decide +kernel
theorem d3_12 : decode jdk_65_method_103_code 12 = .ok (.iload_n 1, 1) := by decide +kernel
theorem d3_13 : decode jdk_65_method_103_code 13 = .ok (.iastore, 1) := by decide +kernel
theorem d3_14 : decode jdk_65_method_103_code 14 = .ok (.iinc 2 1, 3) := by decide +kernel
theorem d3_17 : decode jdk_65_method_103_code 17 = .ok (.goto (-12), 3) := by decide +kernel
theorem ef_rm3 (m : MethodId) (x0 : Addr) (x1 : Int32) : entryFrame m #[(.ref x0), (.int x1)] 4 = mkF m 0 #[.val (.ref x0), .val (.int x1), .unset, .unset] [] := by first | (simp [entryFrame, mkF, argsToLocals, Value.category]; done) | rfl
def own_Q3 (Z : State) (a1 : Addr) (k1 : ClassId) (p2 z : Int32) (N : Nat) (h0 : Heap) (n0 : Nat) (v : Option Value) (h : Heap) (L : List Loc) : Prop := v = none ∧ Fr n0 L ∧ Keep h0 h [a1] ∧ Arv Z h a1 k1 .int z (List.replicate N (.int p2)) (.int (0 : Int32))
set_option maxRecDepth 65536 in
set_option maxHeartbeats 40000000 in
theorem rm3 (l : Launch) (Z : State) (a0 : Array Value) (hw : ∀ d ∈ tables_1, d.before a0 Z = true) (ws : List Jvm.Cond) (a1 : Addr) (k1 : ClassId) (p2 z : Int32) (N : Nat) (h0 : Heap) (n0 : Nat) (Z0 : n0 ≤ h0.size) (V_1 : Arv Z h0 a1 k1 .int z [] (.int (0 : Int32))) (hz : z.toInt = N) (h9 : N ≤ 9) (g_1 : n0 ≤ a1) : own_Met l Z (⟨"java/util/Arrays", "fill", "([II)V"⟩ : MethodName) jdk_65_method_103_code 4 none ws (own_R 0 0 0 0) #[(.ref a1), (.int p2)] h0 (own_Q3 Z a1 k1 p2 z N h0 n0) := by
  refine own_enter n0 own_pn7 (fun m => ef_rm3 m a1 p2 ) (fun p e s m below meth c s₁ hx hby hlk hml hret hown hnm hZ X0 e0 N0 => ?_)
  show own_Fin p e below s _ _ _ s₁ (mkF m 0 #[.val (.ref a1), .val (.int p2), .unset, .unset] [])
  have Kp1 : Keep h0 h0 [a1] := Keep.refl h0 _
  refine own_by (fun _ k => XS.iconst X0.here hx rfl (hb hby d3_0) (XS.istoreN X0.here hx rfl (hb hby d3_1) rfl (l' := #[.val (.ref a1), .val (.int p2), .val (.int (0 : Int32)), .unset]) rfl (XS.aloadN X0.here hx rfl (hb hby d3_2) rfl rfl k))) ?_
  show own_Fin p e below s _ _ _ s₁ (mkF m 3 #[.val (.ref a1), .val (.int p2), .val (.int (0 : Int32)), .unset] [(.ref a1)])
  obtain ⟨cl2, Ar2, -, S2, M2, -, -⟩ := id V_1
  refine own_by (fun _ k => X0.arraylength hx (by rw [e0]; exact Ar2.1) (State.isArrayOf_alike hZ.alike Ar2.2.1) (g := (mkF m 3 #[.val (.ref a1), .val (.int p2), .val (.int (0 : Int32)), .unset] [(.ref a1)])) rfl rfl (hb hby d3_3) _ k) ?_
  rw [len_of S2 M2]
  show own_Fin p e below s _ _ _ s₁ (mkF m 4 #[.val (.ref a1), .val (.int p2), .val (.int (0 : Int32)), .unset] [(.int z)])
  refine own_by (fun _ k => XS.istoreN X0.here hx rfl (hb hby d3_4) rfl (l' := #[.val (.ref a1), .val (.int p2), .val (.int (0 : Int32)), .val (.int z)]) rfl k) ?_
  show own_Fin p e below s _ _ _ s₁ (mkF m 5 #[.val (.ref a1), .val (.int p2), .val (.int (0 : Int32)), .val (.int z)] [])
  have loop : ∀ (k : Nat) (i : Int32) (T : State) (h : Heap) (j : Nat) {locs : List Loc} (X : Stand p l e (own_R 0 0 0 0) s m #[(.ref a1), (.int p2)] below meth c T locs 0 0) (eT : T.heap = h) (N' : Fr n0 locs) (K : Keep h0 h [a1]) (Vi : Arv Z h a1 k1 .int z (List.replicate j (.int p2)) (.int (0 : Int32))) (hi : i.toInt = j) (hto : z.toInt = j + k), own_Fin p e below s (own_R 0 0 0 0).cells (own_R 0 0 0 0).slots (own_Q3 Z a1 k1 p2 z N h0 n0) T (mkF m 5 #[.val (.ref a1), .val (.int p2), .val (.int i), .val (.int z)] []) := by
    intro k
    induction k with
    | zero =>
      intro i T h j locs X eT N' K Vi hi hto
      show own_Fin p e below s _ _ _ T (mkF m 5 #[.val (.ref a1), .val (.int p2), .val (.int i), .val (.int z)] [])
      refine own_by (fun _ k => XS.iloadN X.here hx rfl (hb hby d3_5) rfl (XS.iloadN X.here hx rfl (hb hby d3_6) rfl k)) ?_
      show own_Fin p e below s _ _ _ T (mkF m 7 #[.val (.ref a1), .val (.int p2), .val (.int i), .val (.int z)] [(.int z), (.int i)])
      refine own_by (fun _ k => XS.icmpYes X.here hx rfl (pc0 := 7) (pc' := 20) rfl (hb hby d3_7) rfl (flt (own_nlt hi hto)).2.1 (by decide) (by decide) k) ?_
      show own_Fin p e below s _ _ _ T (mkF m 20 #[.val (.ref a1), .val (.int p2), .val (.int i), .val (.int z)] [])
      exact own_retV X hx hlk hret (hb hby d3_20) (by rw [eT]; exact ⟨rfl, N', K, (show j = N by omega) ▸ Vi⟩) (by decide) (by decide)
    | succ k ih =>
      intro i T h j locs X eT N' K Vi hi hto
      show own_Fin p e below s _ _ _ T (mkF m 5 #[.val (.ref a1), .val (.int p2), .val (.int i), .val (.int z)] [])
      refine own_by (fun _ k => XS.iloadN X.here hx rfl (hb hby d3_5) rfl (XS.iloadN X.here hx rfl (hb hby d3_6) rfl k)) ?_
      show own_Fin p e below s _ _ _ T (mkF m 7 #[.val (.ref a1), .val (.int p2), .val (.int i), .val (.int z)] [(.int z), (.int i)])
      refine own_by (fun _ k => XS.icmpNo X.here hx rfl (hb hby d3_7) rfl (tlt (own_lt hi hto)).2.1 k) ?_
      show own_Fin p e below s _ _ _ T (mkF m 10 #[.val (.ref a1), .val (.int p2), .val (.int i), .val (.int z)] [])
      have Vp3 := Vi.pad (pad_rep (List.replicate j (.int p2)) (.int (0 : Int32)) 1)
      refine own_by (fun _ k => XS.aloadN X.here hx rfl (hb hby d3_10) rfl rfl (XS.iloadN X.here hx rfl (hb hby d3_11) rfl (XS.iloadN X.here hx rfl (hb hby d3_12) rfl k))) ?_
      show own_Fin p e below s _ _ _ T (mkF m 13 #[.val (.ref a1), .val (.int p2), .val (.int i), .val (.int z)] [(.int p2), (.int i), (.ref a1)])
      obtain ⟨cl4, Ar4, q4, S4, M4, H4, G4⟩ := id Vp3
      have hin4 : ¬ (i < 0 ∨ cl4.slots.size ≤ (i).toNatClampNeg) := inb_of S4 (own_in hi hto)
      obtain ⟨T4, h4, X4, e4, W4, st4⟩ := stI X hx hZ eT Ar4 (j := i) hin4 (g := (mkF m 13 #[.val (.ref a1), .val (.int p2), .val (.int i), .val (.int z)] [(.int p2), (.int i), (.ref a1)])) rfl rfl (hb hby d3_13)
      refine own_by (fun _ k => st4 _ k) ?_
      have V4 : Arv Z h4 a1 k1 .int z (List.replicate (j + 1) (.int p2)) (.int (0 : Int32)) := own_set j (.int p2) (.int (0 : Int32)) ▸ Arv.set Ar4 q4 S4 M4 H4 G4 rfl W4 j (own_nc hi) (by simp)
      have Kp4 : Keep h0 h4 [a1] := K.wr W4 (Or.inl (List.mem_of_getElem? (i := 0) rfl))
      have Zs4 : n0 ≤ h4.size := Nat.le_trans (Nat.le_trans Z0 K.1) (Keep.of_wr W4).1
      have N4 := Fr.snoc X4 N' g_1
      show own_Fin p e below s _ _ _ T4 (mkF m 14 #[.val (.ref a1), .val (.int p2), .val (.int i), .val (.int z)] [])
      refine own_by (fun _ k => XS.iinc X4.here hx rfl (hb hby d3_14) rfl (l' := #[.val (.ref a1), .val (.int p2), .val (.int (i + (1 : Int32))), .val (.int z)]) rfl (XS.goto X4.here hx rfl (pc0 := 17) (pc' := 5) rfl (hb hby d3_17) (by decide) (by decide) k)) ?_
      show own_Fin p e below s _ _ _ T4 (mkF m 5 #[.val (.ref a1), .val (.int p2), .val (.int (i + (1 : Int32))), .val (.int z)] [])
      exact ih (i + (1 : Int32)) T4 _ (j + 1) X4 e4 N4 Kp4 V4 (own_inc hi (by omega)) (by omega)
  exact loop N (0 : Int32) s₁ h0 0 X0 e0 N0 Kp1 V_1 (by decide) (by omega)
theorem own_pn24 : plainName "com/example/fading_filter/fadingfilter/model/Layout" = true := by first | (simp [plainName, overriddenIn]; done) | decide +kernel
theorem d2_0 : decode prog_42_method_35_code 0 = .ok (.iload_n 0, 1) := by decide +kernel
theorem d2_1 : decode prog_42_method_35_code 1 = .ok (.iconst 2, 1) := by decide +kernel
theorem d2_2 : decode prog_42_method_35_code 2 = .ok (.iadd, 1) := by decide +kernel
theorem d2_3 : decode prog_42_method_35_code 3 = .ok (.newarray .int, 2) := by decide +kernel
theorem d2_5 : decode prog_42_method_35_code 5 = .ok (.astore_n 2, 1) := by decide +kernel
theorem d2_6 : decode prog_42_method_35_code 6 = .ok (.aload_n 2, 1) := by decide +kernel
theorem d2_7 : decode prog_42_method_35_code 7 = .ok (.iload_n 1, 1) := by decide +kernel
theorem d2_8 : decode prog_42_method_35_code 8 = .ok (.invokestatic 313, 3) := by decide +kernel
theorem own_pd33 : parseMethodDescriptor "([II)V" = some ⟨[(.array .int), .int], none⟩ := by decide +kernel
theorem d2_11 : decode prog_42_method_35_code 11 = .ok (.aload_n 2, 1) := by decide +kernel
theorem d2_12 : decode prog_42_method_35_code 12 = .ok (.areturn, 1) := by decide +kernel
theorem ef_rm2 (m : MethodId) (x0 : Int32) (x1 : Int32) : entryFrame m #[(.int x0), (.int x1)] 3 = mkF m 0 #[.val (.int x0), .val (.int x1), .unset] [] := by first | (simp [entryFrame, mkF, argsToLocals, Value.category]; done) | rfl
def own_Q2 (Z : State) (p2 z : Int32) (N : Nat) (h0 : Heap) (n0 : Nat) (v : Option Value) (h : Heap) (L : List Loc) : Prop := ∃ (a : Addr) (k : ClassId), v = some (.ref a) ∧ Fr n0 L ∧ Keep h0 h [] ∧ h0.size ≤ a ∧ Arv Z h a k .int z (List.replicate N (.int p2)) (.int (0 : Int32))
set_option maxRecDepth 65536 in
set_option maxHeartbeats 40000000 in
theorem rm2 (l : Launch) (Z : State) (a0 : Array Value) (hw : ∀ d ∈ tables_1, d.before a0 Z = true) (ws : List Jvm.Cond) (p1 p2 z : Int32) (N : Nat) (h0 : Heap) (n0 : Nat) (Z0 : n0 ≤ h0.size) (hz : (p1 + (2 : Int32)) = z) (hzN : z.toInt = N) (h9 : N ≤ 9) : own_Met l Z (⟨"com/example/fading_filter/fadingfilter/model/Layout", "alike", "(II)[I"⟩ : MethodName) prog_42_method_35_code 3 (some (.array .int)) ws (own_R 1 1 9 16) #[(.int p1), (.int p2)] h0 (own_Q2 Z p2 z N h0 n0) := by
  refine own_enter n0 own_pn24 (fun m => ef_rm2 m p1 p2 ) (fun p e s m below meth c s₁ hx hby hlk hml hret hown hnm hZ X0 e0 N0 => ?_)
  show own_Fin p e below s _ _ _ s₁ (mkF m 0 #[.val (.int p1), .val (.int p2), .unset] [])
  have Kp6 : Keep h0 h0 [] := Keep.refl h0 _
  refine own_by (fun _ k => XS.iloadN X0.here hx rfl (hb hby d2_0) rfl (XS.iconst X0.here hx rfl (hb hby d2_1) (XS.iadd X0.here hx rfl (hb hby d2_2) rfl k))) ?_
  show own_Fin p e below s _ _ _ s₁ (mkF m 3 #[.val (.int p1), .val (.int p2), .unset] [(.int (p1 + (2 : Int32)))])
  rw [hz]
  show own_Fin p e below s _ _ _ s₁ (mkF m 3 #[.val (.int p1), .val (.int p2), .unset] [(.int z)])
  obtain ⟨T7, h7, k7, X7, e7, E7, A7, st7⟩ := newP X0 hx hZ (hw _ (List.mem_of_getElem? (i := 10) rfl)) e0 (g := (mkF m 3 #[.val (.int p1), .val (.int p2), .unset] [(.int z)])) rfl (hb hby d2_3) rfl (own_z hzN) (cap := 9) (own_z9 hzN h9) (by decide) (by decide) (by decide)
  obtain ⟨b7, g7⟩ : ∃ z, z = h0.size := ⟨_, rfl⟩
  rw [← g7] at A7 st7
  refine own_by (fun _ k => st7 _ k) ?_
  have V7 : Arv Z h7 b7 k7 .int z [] (.int (0 : Int32)) := Arv.new A7 (own_z hzN)
  have gf7 : n0 ≤ b7 := Nat.le_trans Z0 (Nat.le_of_eq g7.symm)
  have Zs7 : n0 ≤ h7.size := Nat.le_trans Z0 E7.1
  have Kp7 : Keep h0 h7 [] := Kp6.ext E7
  have sz_b7 : h0.size ≤ b7 := Nat.le_trans Kp6.1 (Nat.le_of_eq g7.symm)
  show own_Fin p e below s _ _ _ T7 (mkF m 5 #[.val (.int p1), .val (.int p2), .unset] [(.ref b7)])
  refine own_by (fun _ k => XS.astoreN X7.here hx rfl (hb hby d2_5) rfl rfl (l' := #[.val (.int p1), .val (.int p2), .val (.ref b7)]) rfl (XS.aloadN X7.here hx rfl (hb hby d2_6) rfl rfl (XS.iloadN X7.here hx rfl (hb hby d2_7) rfl k))) ?_
  show own_Fin p e below s _ _ _ T7 (mkF m 8 #[.val (.int p1), .val (.int p2), .val (.ref b7)] [(.int p2), (.ref b7)])
  obtain ⟨_, _, ⟨T9, L9, k9, n9⟩, -, X9, ⟨Lc9, hQ9, l9, y9, z9⟩, st9⟩ := Jvm.LawKit.callS X7 hx (y := (⟨"java/util/Arrays", "fill", "([II)V"⟩ : MethodName)) hown (mvT hZ (hw _ (List.mem_of_getElem? (i := 11) rfl))) (mvT hZ (hw _ (List.mem_of_getElem? (i := 12) rfl))) (mvT hZ (hw _ (List.mem_of_getElem? (i := 13) rfl))) (mvT hZ (hw _ (List.mem_of_getElem? (i := 14) rfl))) (by decide) (backOf (W := 0) (rm3 l Z a0 hw [] b7 k7 p2 z N h7 n0 Zs7 V7 hzN h9 gf7) hZ (hw _ (List.mem_of_getElem? (i := 14) rfl)) (hw _ (List.mem_of_getElem? (i := 13) rfl)) (by decide) (by decide)) (g := (mkF m 8 #[.val (.int p1), .val (.int p2), .val (.ref b7)] [(.int p2), (.ref b7)])) rfl (by rw [hml]; rfl) (argsL := [(.ref b7), (.int p2)]) (rest := []) (lenOf own_pd33 rfl) rfl (by show 2 * 0 + _ ≤ _; exact Nat.le_of_eq rfl) (hb hby d2_8) (fun _ _ => ⟨rfl, e7, (by decide : 1 + 0 ≤ _), (by decide : 9 + 0 ≤ _)⟩)
  dsimp only [Pt.U, Pt.locs, Pt.cells, Pt.slots] at X9 l9 y9 z9 st9 hQ9
  subst l9 y9 z9
  obtain ⟨rfl, Nq9, K9, Vr9⟩ := hQ9
  have N9 := Fr.app N0 Nq9
  refine own_by (fun _ k => st9 _ k) ?_
  have Zs9 : n0 ≤ T9.heap.size := Nat.le_trans Zs7 K9.1
  have Kp9 : Keep h0 T9.heap [] := Kp7.trans K9 (allS (Or.inr sz_b7) all0)
  show own_Fin p e below s _ _ _ T9 (mkF m 11 #[.val (.int p1), .val (.int p2), .val (.ref b7)] [])
  refine own_by (fun _ k => XS.aloadN X9.here hx rfl (hb hby d2_11) rfl rfl k) ?_
  show own_Fin p e below s _ _ _ T9 (mkF m 12 #[.val (.int p1), .val (.int p2), .val (.ref b7)] [(.ref b7)])
  exact own_retA X9 hx hlk (t := (.array .int)) hret rfl rfl rfl (hb hby d2_12) ⟨_, _, rfl, N9, Kp9, sz_b7, Vr9⟩ (by decide) (by decide)
theorem d4_0 : decode prog_42_method_4_code 0 = .ok (.aload_n 0, 1) := by decide +kernel
theorem d4_1 : decode prog_42_method_4_code 1 = .ok (.invokespecial 42, 3) := by decide +kernel
theorem d4_4 : decode prog_42_method_4_code 4 = .ok (.aload_n 0, 1) := by decide +kernel
theorem d4_5 : decode prog_42_method_4_code 5 = .ok (.aload_n 1, 1) := by decide +kernel
theorem d4_6 : decode prog_42_method_4_code 6 = .ok (.putfield 47, 3) := by decide +kernel
theorem d4_9 : decode prog_42_method_4_code 9 = .ok (.aload_n 0, 1) := by decide +kernel
theorem d4_10 : decode prog_42_method_4_code 10 = .ok (.iload_n 2, 1) := by decide +kernel
theorem d4_11 : decode prog_42_method_4_code 11 = .ok (.putfield 50, 3) := by decide +kernel
theorem d4_14 : decode prog_42_method_4_code 14 = .ok (.aload_n 0, 1) := by decide +kernel
theorem d4_15 : decode prog_42_method_4_code 15 = .ok (.aload_n 3, 1) := by decide +kernel
theorem d4_16 : decode prog_42_method_4_code 16 = .ok (.putfield 54, 3) := by decide +kernel
theorem d4_19 : decode prog_42_method_4_code 19 = .ok (.aload_n 0, 1) := by decide +kernel
theorem d4_20 : decode prog_42_method_4_code 20 = .ok (.aload 4, 2) := by decide +kernel
theorem d4_22 : decode prog_42_method_4_code 22 = .ok (.putfield 58, 3) := by decide +kernel
theorem d4_25 : decode prog_42_method_4_code 25 = .ok (.aload_n 0, 1) := by decide +kernel
theorem d4_26 : decode prog_42_method_4_code 26 = .ok (.aload 5, 2) := by decide +kernel
theorem d4_28 : decode prog_42_method_4_code 28 = .ok (.putfield 61, 3) := by decide +kernel
theorem d4_31 : decode prog_42_method_4_code 31 = .ok (.return_, 1) := by decide +kernel
theorem ef_rm4 (m : MethodId) (x0 : Addr) (x1 : Addr) (x2 : Int32) (x4 : Addr) (x5 : Addr) : entryFrame m #[(.ref x0), (.ref x1), (.int x2), .null, (.ref x4), (.ref x5)] 6 = mkF m 0 #[.val (.ref x0), .val (.ref x1), .val (.int x2), .val .null, .val (.ref x4), .val (.ref x5)] [] := by first | (simp [entryFrame, mkF, argsToLocals, Value.category]; done) | rfl
def own_Q4 (Z : State) (a1 a2 a5 a6 : Addr) (p3 : Int32) (h0 : Heap) (n0 : Nat) (v : Option Value) (h : Heap) (L : List Loc) : Prop := v = none ∧ Fr n0 L ∧ Keep h0 h [a1] ∧ Fld Z h a1 "com/example/fading_filter/fadingfilter/model/Layout" "bits" "[I" (.ref a2) ∧ Fld Z h a1 "com/example/fading_filter/fadingfilter/model/Layout" "hashFunctions" "I" (.int p3) ∧ Fld Z h a1 "com/example/fading_filter/fadingfilter/model/Layout" "period" "Ljava/time/Duration;" .null ∧ Fld Z h a1 "com/example/fading_filter/fadingfilter/model/Layout" "cells" "Lcom/example/fading_filter/fadingfilter/model/Cells;" (.ref a5) ∧ Fld Z h a1 "com/example/fading_filter/fadingfilter/model/Layout" "placement" "Lcom/example/fading_filter/fadingfilter/model/Placement;" (.ref a6)
set_option maxRecDepth 65536 in
set_option maxHeartbeats 40000000 in
theorem rm4 (l : Launch) (Z : State) (a0 : Array Value) (hw : ∀ d ∈ tables_1, d.before a0 Z = true) (ws : List Jvm.Cond) (a1 a2 a5 a6 : Addr) (p3 : Int32) (u1 u2 u3 u4 u5 : Value) (h0 : Heap) (n0 : Nat) (Z0 : n0 ≤ h0.size) (E_a1 : Exa Z h0 a1 "com/example/fading_filter/fadingfilter/model/Layout") (F_bits : Fld Z h0 a1 "com/example/fading_filter/fadingfilter/model/Layout" "bits" "[I" u1) (F_hashFunctions : Fld Z h0 a1 "com/example/fading_filter/fadingfilter/model/Layout" "hashFunctions" "I" u2) (F_period : Fld Z h0 a1 "com/example/fading_filter/fadingfilter/model/Layout" "period" "Ljava/time/Duration;" u3) (F_cells : Fld Z h0 a1 "com/example/fading_filter/fadingfilter/model/Layout" "cells" "Lcom/example/fading_filter/fadingfilter/model/Cells;" u4) (F_placement : Fld Z h0 a1 "com/example/fading_filter/fadingfilter/model/Layout" "placement" "Lcom/example/fading_filter/fadingfilter/model/Placement;" u5) (g_a1 : n0 ≤ a1) : own_Met l Z (⟨"com/example/fading_filter/fadingfilter/model/Layout", "<init>", "([IILjava/time/Duration;Lcom/example/fading_filter/fadingfilter/model/Cells;Lcom/example/fading_filter/fadingfilter/model/Placement;)V"⟩ : MethodName) prog_42_method_4_code 6 none ws (own_R 1 0 0 12) #[(.ref a1), (.ref a2), (.int p3), .null, (.ref a5), (.ref a6)] h0 (own_Q4 Z a1 a2 a5 a6 p3 h0 n0) := by
  refine own_enter n0 own_pn24 (fun m => ef_rm4 m a1 a2 p3 a5 a6 ) (fun p e s m below meth c s₁ hx hby hlk hml hret hown hnm hZ X0 e0 N0 => ?_)
  show own_Fin p e below s _ _ _ s₁ (mkF m 0 #[.val (.ref a1), .val (.ref a2), .val (.int p3), .val .null, .val (.ref a5), .val (.ref a6)] [])
  have Kp11 : Keep h0 h0 [a1] := Keep.refl h0 _
  refine own_by (fun _ k => XS.aloadN X0.here hx rfl (hb hby d4_0) rfl rfl k) ?_
  show own_Fin p e below s _ _ _ s₁ (mkF m 1 #[.val (.ref a1), .val (.ref a2), .val (.int p3), .val .null, .val (.ref a5), .val (.ref a6)] [(.ref a1)])
  obtain ⟨T12, X12, e12, st12⟩ := initO X0 hx hZ hown (hw _ (List.mem_of_getElem? (i := 24) rfl)) (hw _ (List.mem_of_getElem? (i := 25) rfl)) (hw _ (List.mem_of_getElem? (i := 26) rfl)) e0 (g := (mkF m 1 #[.val (.ref a1), .val (.ref a2), .val (.int p3), .val .null, .val (.ref a5), .val (.ref a6)] [(.ref a1)])) rfl (by rw [hml]; rfl) rfl (hb hby d4_1) (by decide) (W := 0) (by show 2 * 0 + _ ≤ _; exact Nat.le_of_eq rfl) (by decide)
  refine own_by (fun _ k => st12 _ k) ?_
  show own_Fin p e below s _ _ _ T12 (mkF m 4 #[.val (.ref a1), .val (.ref a2), .val (.int p3), .val .null, .val (.ref a5), .val (.ref a6)] [])
  refine own_by (fun _ k => XS.aloadN X12.here hx rfl (hb hby d4_4) rfl rfl (XS.aloadN X12.here hx rfl (hb hby d4_5) rfl rfl k)) ?_
  show own_Fin p e below s _ _ _ T12 (mkF m 6 #[.val (.ref a1), .val (.ref a2), .val (.int p3), .val .null, .val (.ref a5), .val (.ref a6)] [(.ref a2), (.ref a1)])
  obtain ⟨T13, h13, X13, e13, W13, st13⟩ := putF X12 hx hZ hown (host := "") (Or.inl (hw _ (List.mem_of_getElem? (i := 27) rfl))) Via.refl e12 F_bits E_a1 (Or.inr ⟨(hw _ (List.mem_of_getElem? (i := 28) rfl)), rfl, hnm⟩) (hw _ (List.mem_of_getElem? (i := 2) rfl)) (ty := (.array .int)) (by decide) rfl rfl (g := (mkF m 6 #[.val (.ref a1), .val (.ref a2), .val (.int p3), .val .null, .val (.ref a5), .val (.ref a6)] [(.ref a2), (.ref a1)])) rfl rfl (hb hby d4_6)
  refine own_by (fun _ k => st13 _ k) ?_
  have Fw13 : Fld Z h13 a1 "com/example/fading_filter/fadingfilter/model/Layout" "bits" "[I" (.ref a2) := F_bits.same W13
  have Kp13 : Keep h0 h13 [a1] := Kp11.wr W13 (Or.inl (List.mem_of_getElem? (i := 0) rfl))
  have Zs13 : n0 ≤ h13.size := Nat.le_trans Z0 (Keep.of_wr W13).1
  have N13 := Fr.snoc X13 N0 g_a1
  have f14_0 : Exa Z h13 a1 "com/example/fading_filter/fadingfilter/model/Layout" := E_a1.wr W13
  have f14_2 : Fld Z h13 a1 "com/example/fading_filter/fadingfilter/model/Layout" "hashFunctions" "I" u2 := F_hashFunctions.other W13 (Or.inr (slot_ne (Or.inr (hw _ (List.mem_of_getElem? (i := 30) rfl))) (Or.inr (hw _ (List.mem_of_getElem? (i := 28) rfl))) (by decide) (t := .int) (t' := (.array .int)) (by decide) (by decide)))
  have f14_3 : Fld Z h13 a1 "com/example/fading_filter/fadingfilter/model/Layout" "period" "Ljava/time/Duration;" u3 := F_period.other W13 (Or.inr (slot_ne (Or.inr (hw _ (List.mem_of_getElem? (i := 32) rfl))) (Or.inr (hw _ (List.mem_of_getElem? (i := 28) rfl))) (by decide) (t := (.object "java/time/Duration")) (t' := (.array .int)) (by decide) (by decide)))
  have f14_4 : Fld Z h13 a1 "com/example/fading_filter/fadingfilter/model/Layout" "cells" "Lcom/example/fading_filter/fadingfilter/model/Cells;" u4 := F_cells.other W13 (Or.inr (slot_ne (Or.inr (hw _ (List.mem_of_getElem? (i := 34) rfl))) (Or.inr (hw _ (List.mem_of_getElem? (i := 28) rfl))) (by decide) (t := (.object "com/example/fading_filter/fadingfilter/model/Cells")) (t' := (.array .int)) (by decide) (by decide)))
  have f14_5 : Fld Z h13 a1 "com/example/fading_filter/fadingfilter/model/Layout" "placement" "Lcom/example/fading_filter/fadingfilter/model/Placement;" u5 := F_placement.other W13 (Or.inr (slot_ne (Or.inr (hw _ (List.mem_of_getElem? (i := 36) rfl))) (Or.inr (hw _ (List.mem_of_getElem? (i := 28) rfl))) (by decide) (t := (.object "com/example/fading_filter/fadingfilter/model/Placement")) (t' := (.array .int)) (by decide) (by decide)))
  show own_Fin p e below s _ _ _ T13 (mkF m 9 #[.val (.ref a1), .val (.ref a2), .val (.int p3), .val .null, .val (.ref a5), .val (.ref a6)] [])
  refine own_by (fun _ k => XS.aloadN X13.here hx rfl (hb hby d4_9) rfl rfl (XS.iloadN X13.here hx rfl (hb hby d4_10) rfl k)) ?_
  show own_Fin p e below s _ _ _ T13 (mkF m 11 #[.val (.ref a1), .val (.ref a2), .val (.int p3), .val .null, .val (.ref a5), .val (.ref a6)] [(.int p3), (.ref a1)])
  obtain ⟨T15, h15, X15, e15, W15, st15⟩ := putF X13 hx hZ hown (host := "") (Or.inl (hw _ (List.mem_of_getElem? (i := 29) rfl))) Via.refl e13 f14_2 f14_0 (Or.inr ⟨(hw _ (List.mem_of_getElem? (i := 30) rfl)), rfl, hnm⟩) (hw _ (List.mem_of_getElem? (i := 2) rfl)) (ty := .int) (by decide) rfl rfl (g := (mkF m 11 #[.val (.ref a1), .val (.ref a2), .val (.int p3), .val .null, .val (.ref a5), .val (.ref a6)] [(.int p3), (.ref a1)])) rfl rfl (hb hby d4_11)
  refine own_by (fun _ k => st15 _ k) ?_
  have Fw15 : Fld Z h15 a1 "com/example/fading_filter/fadingfilter/model/Layout" "hashFunctions" "I" (.int p3) := f14_2.same W15
  have Kp15 : Keep h0 h15 [a1] := Kp13.wr W15 (Or.inl (List.mem_of_getElem? (i := 0) rfl))
  have Zs15 : n0 ≤ h15.size := Nat.le_trans Zs13 (Keep.of_wr W15).1
  have N15 := Fr.snoc X15 N13 g_a1
  have f16_0 : Exa Z h15 a1 "com/example/fading_filter/fadingfilter/model/Layout" := f14_0.wr W15
  have f16_2 : Fld Z h15 a1 "com/example/fading_filter/fadingfilter/model/Layout" "period" "Ljava/time/Duration;" u3 := f14_3.other W15 (Or.inr (slot_ne (Or.inr (hw _ (List.mem_of_getElem? (i := 32) rfl))) (Or.inr (hw _ (List.mem_of_getElem? (i := 30) rfl))) (by decide) (t := (.object "java/time/Duration")) (t' := .int) (by decide) (by decide)))
  have f16_3 : Fld Z h15 a1 "com/example/fading_filter/fadingfilter/model/Layout" "cells" "Lcom/example/fading_filter/fadingfilter/model/Cells;" u4 := f14_4.other W15 (Or.inr (slot_ne (Or.inr (hw _ (List.mem_of_getElem? (i := 34) rfl))) (Or.inr (hw _ (List.mem_of_getElem? (i := 30) rfl))) (by decide) (t := (.object "com/example/fading_filter/fadingfilter/model/Cells")) (t' := .int) (by decide) (by decide)))
  have f16_4 : Fld Z h15 a1 "com/example/fading_filter/fadingfilter/model/Layout" "placement" "Lcom/example/fading_filter/fadingfilter/model/Placement;" u5 := f14_5.other W15 (Or.inr (slot_ne (Or.inr (hw _ (List.mem_of_getElem? (i := 36) rfl))) (Or.inr (hw _ (List.mem_of_getElem? (i := 30) rfl))) (by decide) (t := (.object "com/example/fading_filter/fadingfilter/model/Placement")) (t' := .int) (by decide) (by decide)))
  have f16_5 : Fld Z h15 a1 "com/example/fading_filter/fadingfilter/model/Layout" "bits" "[I" (.ref a2) := Fw13.other W15 (Or.inr (slot_ne (Or.inr (hw _ (List.mem_of_getElem? (i := 28) rfl))) (Or.inr (hw _ (List.mem_of_getElem? (i := 30) rfl))) (by decide) (t := (.array .int)) (t' := .int) (by decide) (by decide)))
  show own_Fin p e below s _ _ _ T15 (mkF m 14 #[.val (.ref a1), .val (.ref a2), .val (.int p3), .val .null, .val (.ref a5), .val (.ref a6)] [])
  refine own_by (fun _ k => XS.aloadN X15.here hx rfl (hb hby d4_14) rfl rfl (XS.aloadN X15.here hx rfl (hb hby d4_15) rfl rfl k)) ?_
  show own_Fin p e below s _ _ _ T15 (mkF m 16 #[.val (.ref a1), .val (.ref a2), .val (.int p3), .val .null, .val (.ref a5), .val (.ref a6)] [.null, (.ref a1)])
  obtain ⟨T17, h17, X17, e17, W17, st17⟩ := putF X15 hx hZ hown (host := "") (Or.inl (hw _ (List.mem_of_getElem? (i := 31) rfl))) Via.refl e15 f16_2 f16_0 (Or.inr ⟨(hw _ (List.mem_of_getElem? (i := 32) rfl)), rfl, hnm⟩) (hw _ (List.mem_of_getElem? (i := 2) rfl)) (ty := (.object "java/time/Duration")) (by decide) rfl rfl (g := (mkF m 16 #[.val (.ref a1), .val (.ref a2), .val (.int p3), .val .null, .val (.ref a5), .val (.ref a6)] [.null, (.ref a1)])) rfl rfl (hb hby d4_16)
  refine own_by (fun _ k => st17 _ k) ?_
  have Fw17 : Fld Z h17 a1 "com/example/fading_filter/fadingfilter/model/Layout" "period" "Ljava/time/Duration;" .null := f16_2.same W17
  have Kp17 : Keep h0 h17 [a1] := Kp15.wr W17 (Or.inl (List.mem_of_getElem? (i := 0) rfl))
  have Zs17 : n0 ≤ h17.size := Nat.le_trans Zs15 (Keep.of_wr W17).1
  have N17 := Fr.snoc X17 N15 g_a1
  have f18_0 : Exa Z h17 a1 "com/example/fading_filter/fadingfilter/model/Layout" := f16_0.wr W17
  have f18_2 : Fld Z h17 a1 "com/example/fading_filter/fadingfilter/model/Layout" "cells" "Lcom/example/fading_filter/fadingfilter/model/Cells;" u4 := f16_3.other W17 (Or.inr (slot_ne (Or.inr (hw _ (List.mem_of_getElem? (i := 34) rfl))) (Or.inr (hw _ (List.mem_of_getElem? (i := 32) rfl))) (by decide) (t := (.object "com/example/fading_filter/fadingfilter/model/Cells")) (t' := (.object "java/time/Duration")) (by decide) (by decide)))
  have f18_3 : Fld Z h17 a1 "com/example/fading_filter/fadingfilter/model/Layout" "placement" "Lcom/example/fading_filter/fadingfilter/model/Placement;" u5 := f16_4.other W17 (Or.inr (slot_ne (Or.inr (hw _ (List.mem_of_getElem? (i := 36) rfl))) (Or.inr (hw _ (List.mem_of_getElem? (i := 32) rfl))) (by decide) (t := (.object "com/example/fading_filter/fadingfilter/model/Placement")) (t' := (.object "java/time/Duration")) (by decide) (by decide)))
  have f18_4 : Fld Z h17 a1 "com/example/fading_filter/fadingfilter/model/Layout" "bits" "[I" (.ref a2) := f16_5.other W17 (Or.inr (slot_ne (Or.inr (hw _ (List.mem_of_getElem? (i := 28) rfl))) (Or.inr (hw _ (List.mem_of_getElem? (i := 32) rfl))) (by decide) (t := (.array .int)) (t' := (.object "java/time/Duration")) (by decide) (by decide)))
  have f18_5 : Fld Z h17 a1 "com/example/fading_filter/fadingfilter/model/Layout" "hashFunctions" "I" (.int p3) := Fw15.other W17 (Or.inr (slot_ne (Or.inr (hw _ (List.mem_of_getElem? (i := 30) rfl))) (Or.inr (hw _ (List.mem_of_getElem? (i := 32) rfl))) (by decide) (t := .int) (t' := (.object "java/time/Duration")) (by decide) (by decide)))
  show own_Fin p e below s _ _ _ T17 (mkF m 19 #[.val (.ref a1), .val (.ref a2), .val (.int p3), .val .null, .val (.ref a5), .val (.ref a6)] [])
  refine own_by (fun _ k => XS.aloadN X17.here hx rfl (hb hby d4_19) rfl rfl (XS.aload X17.here hx rfl (hb hby d4_20) rfl rfl k)) ?_
  show own_Fin p e below s _ _ _ T17 (mkF m 22 #[.val (.ref a1), .val (.ref a2), .val (.int p3), .val .null, .val (.ref a5), .val (.ref a6)] [(.ref a5), (.ref a1)])
  obtain ⟨T19, h19, X19, e19, W19, st19⟩ := putF X17 hx hZ hown (host := "") (Or.inl (hw _ (List.mem_of_getElem? (i := 33) rfl))) Via.refl e17 f18_2 f18_0 (Or.inr ⟨(hw _ (List.mem_of_getElem? (i := 34) rfl)), rfl, hnm⟩) (hw _ (List.mem_of_getElem? (i := 2) rfl)) (ty := (.object "com/example/fading_filter/fadingfilter/model/Cells")) (by decide) rfl rfl (g := (mkF m 22 #[.val (.ref a1), .val (.ref a2), .val (.int p3), .val .null, .val (.ref a5), .val (.ref a6)] [(.ref a5), (.ref a1)])) rfl rfl (hb hby d4_22)
  refine own_by (fun _ k => st19 _ k) ?_
  have Fw19 : Fld Z h19 a1 "com/example/fading_filter/fadingfilter/model/Layout" "cells" "Lcom/example/fading_filter/fadingfilter/model/Cells;" (.ref a5) := f18_2.same W19
  have Kp19 : Keep h0 h19 [a1] := Kp17.wr W19 (Or.inl (List.mem_of_getElem? (i := 0) rfl))
  have Zs19 : n0 ≤ h19.size := Nat.le_trans Zs17 (Keep.of_wr W19).1
  have N19 := Fr.snoc X19 N17 g_a1
  have f20_0 : Exa Z h19 a1 "com/example/fading_filter/fadingfilter/model/Layout" := f18_0.wr W19
  have f20_2 : Fld Z h19 a1 "com/example/fading_filter/fadingfilter/model/Layout" "placement" "Lcom/example/fading_filter/fadingfilter/model/Placement;" u5 := f18_3.other W19 (Or.inr (slot_ne (Or.inr (hw _ (List.mem_of_getElem? (i := 36) rfl))) (Or.inr (hw _ (List.mem_of_getElem? (i := 34) rfl))) (by decide) (t := (.object "com/example/fading_filter/fadingfilter/model/Placement")) (t' := (.object "com/example/fading_filter/fadingfilter/model/Cells")) (by decide) (by decide)))
  have f20_3 : Fld Z h19 a1 "com/example/fading_filter/fadingfilter/model/Layout" "bits" "[I" (.ref a2) := f18_4.other W19 (Or.inr (slot_ne (Or.inr (hw _ (List.mem_of_getElem? (i := 28) rfl))) (Or.inr (hw _ (List.mem_of_getElem? (i := 34) rfl))) (by decide) (t := (.array .int)) (t' := (.object "com/example/fading_filter/fadingfilter/model/Cells")) (by decide) (by decide)))
  have f20_4 : Fld Z h19 a1 "com/example/fading_filter/fadingfilter/model/Layout" "hashFunctions" "I" (.int p3) := f18_5.other W19 (Or.inr (slot_ne (Or.inr (hw _ (List.mem_of_getElem? (i := 30) rfl))) (Or.inr (hw _ (List.mem_of_getElem? (i := 34) rfl))) (by decide) (t := .int) (t' := (.object "com/example/fading_filter/fadingfilter/model/Cells")) (by decide) (by decide)))
  have f20_5 : Fld Z h19 a1 "com/example/fading_filter/fadingfilter/model/Layout" "period" "Ljava/time/Duration;" .null := Fw17.other W19 (Or.inr (slot_ne (Or.inr (hw _ (List.mem_of_getElem? (i := 32) rfl))) (Or.inr (hw _ (List.mem_of_getElem? (i := 34) rfl))) (by decide) (t := (.object "java/time/Duration")) (t' := (.object "com/example/fading_filter/fadingfilter/model/Cells")) (by decide) (by decide)))
  show own_Fin p e below s _ _ _ T19 (mkF m 25 #[.val (.ref a1), .val (.ref a2), .val (.int p3), .val .null, .val (.ref a5), .val (.ref a6)] [])
  refine own_by (fun _ k => XS.aloadN X19.here hx rfl (hb hby d4_25) rfl rfl (XS.aload X19.here hx rfl (hb hby d4_26) rfl rfl k)) ?_
  show own_Fin p e below s _ _ _ T19 (mkF m 28 #[.val (.ref a1), .val (.ref a2), .val (.int p3), .val .null, .val (.ref a5), .val (.ref a6)] [(.ref a6), (.ref a1)])
  obtain ⟨T21, h21, X21, e21, W21, st21⟩ := putF X19 hx hZ hown (host := "") (Or.inl (hw _ (List.mem_of_getElem? (i := 35) rfl))) Via.refl e19 f20_2 f20_0 (Or.inr ⟨(hw _ (List.mem_of_getElem? (i := 36) rfl)), rfl, hnm⟩) (hw _ (List.mem_of_getElem? (i := 2) rfl)) (ty := (.object "com/example/fading_filter/fadingfilter/model/Placement")) (by decide) rfl rfl (g := (mkF m 28 #[.val (.ref a1), .val (.ref a2), .val (.int p3), .val .null, .val (.ref a5), .val (.ref a6)] [(.ref a6), (.ref a1)])) rfl rfl (hb hby d4_28)
  refine own_by (fun _ k => st21 _ k) ?_
  have Fw21 : Fld Z h21 a1 "com/example/fading_filter/fadingfilter/model/Layout" "placement" "Lcom/example/fading_filter/fadingfilter/model/Placement;" (.ref a6) := f20_2.same W21
  have Kp21 : Keep h0 h21 [a1] := Kp19.wr W21 (Or.inl (List.mem_of_getElem? (i := 0) rfl))
  have Zs21 : n0 ≤ h21.size := Nat.le_trans Zs19 (Keep.of_wr W21).1
  have N21 := Fr.snoc X21 N19 g_a1
  have f22_0 : Exa Z h21 a1 "com/example/fading_filter/fadingfilter/model/Layout" := f20_0.wr W21
  have f22_2 : Fld Z h21 a1 "com/example/fading_filter/fadingfilter/model/Layout" "bits" "[I" (.ref a2) := f20_3.other W21 (Or.inr (slot_ne (Or.inr (hw _ (List.mem_of_getElem? (i := 28) rfl))) (Or.inr (hw _ (List.mem_of_getElem? (i := 36) rfl))) (by decide) (t := (.array .int)) (t' := (.object "com/example/fading_filter/fadingfilter/model/Placement")) (by decide) (by decide)))
  have f22_3 : Fld Z h21 a1 "com/example/fading_filter/fadingfilter/model/Layout" "hashFunctions" "I" (.int p3) := f20_4.other W21 (Or.inr (slot_ne (Or.inr (hw _ (List.mem_of_getElem? (i := 30) rfl))) (Or.inr (hw _ (List.mem_of_getElem? (i := 36) rfl))) (by decide) (t := .int) (t' := (.object "com/example/fading_filter/fadingfilter/model/Placement")) (by decide) (by decide)))
  have f22_4 : Fld Z h21 a1 "com/example/fading_filter/fadingfilter/model/Layout" "period" "Ljava/time/Duration;" .null := f20_5.other W21 (Or.inr (slot_ne (Or.inr (hw _ (List.mem_of_getElem? (i := 32) rfl))) (Or.inr (hw _ (List.mem_of_getElem? (i := 36) rfl))) (by decide) (t := (.object "java/time/Duration")) (t' := (.object "com/example/fading_filter/fadingfilter/model/Placement")) (by decide) (by decide)))
  have f22_5 : Fld Z h21 a1 "com/example/fading_filter/fadingfilter/model/Layout" "cells" "Lcom/example/fading_filter/fadingfilter/model/Cells;" (.ref a5) := Fw19.other W21 (Or.inr (slot_ne (Or.inr (hw _ (List.mem_of_getElem? (i := 34) rfl))) (Or.inr (hw _ (List.mem_of_getElem? (i := 36) rfl))) (by decide) (t := (.object "com/example/fading_filter/fadingfilter/model/Cells")) (t' := (.object "com/example/fading_filter/fadingfilter/model/Placement")) (by decide) (by decide)))
  show own_Fin p e below s _ _ _ T21 (mkF m 31 #[.val (.ref a1), .val (.ref a2), .val (.int p3), .val .null, .val (.ref a5), .val (.ref a6)] [])
  exact own_retV X21 hx hlk hret (hb hby d4_31) (by rw [e21]; exact ⟨rfl, N21, Kp21, f22_2, f22_3, f22_4, f22_5, Fw21⟩) (by decide) (by decide)
theorem d1_0 : decode prog_42_method_1_code 0 = .ok (.aload_n 0, 1) := by decide +kernel
theorem d1_1 : decode prog_42_method_1_code 1 = .ok (.iload_n 1, 1) := by decide +kernel
theorem d1_2 : decode prog_42_method_1_code 2 = .ok (.iload_n 2, 1) := by decide +kernel
theorem d1_3 : decode prog_42_method_1_code 3 = .ok (.invokestatic 1, 3) := by decide +kernel
theorem own_pd60 : parseMethodDescriptor "(II)[I" = some ⟨[.int, .int], some (.array .int)⟩ := by decide +kernel
theorem d1_6 : decode prog_42_method_1_code 6 = .ok (.iload_n 3, 1) := by decide +kernel
theorem d1_7 : decode prog_42_method_1_code 7 = .ok (.aconst_null, 1) := by decide +kernel
theorem d1_8 : decode prog_42_method_1_code 8 = .ok (.getstatic 7, 3) := by decide +kernel
theorem d1_11 : decode prog_42_method_1_code 11 = .ok (.getstatic 13, 3) := by decide +kernel
theorem d1_14 : decode prog_42_method_1_code 14 = .ok (.invokespecial 19, 3) := by decide +kernel
theorem own_pd66 : parseMethodDescriptor "([IILjava/time/Duration;Lcom/example/fading_filter/fadingfilter/model/Cells;Lcom/example/fading_filter/fadingfilter/model/Placement;)V" = some ⟨[(.array .int), .int, (.object "java/time/Duration"), (.object "com/example/fading_filter/fadingfilter/model/Cells"), (.object "com/example/fading_filter/fadingfilter/model/Placement")], none⟩ := by decide +kernel
theorem d1_17 : decode prog_42_method_1_code 17 = .ok (.return_, 1) := by decide +kernel
theorem ef_rm1 (m : MethodId) (x0 : Addr) (x1 : Int32) (x2 : Int32) (x3 : Int32) : entryFrame m #[(.ref x0), (.int x1), (.int x2), (.int x3)] 4 = mkF m 0 #[.val (.ref x0), .val (.int x1), .val (.int x2), .val (.int x3)] [] := by first | (simp [entryFrame, mkF, argsToLocals, Value.category]; done) | rfl
def own_Q1 (Z : State) (a1 cb pf : Addr) (p3 p4 z : Int32) (N : Nat) (h0 : Heap) (n0 : Nat) (v : Option Value) (h : Heap) (L : List Loc) : Prop := ∃ (a : Addr) (k : ClassId), v = none ∧ Fr n0 L ∧ Keep h0 h [a1] ∧ h0.size ≤ a ∧ Arv Z h a k .int z (List.replicate N (.int p3)) (.int (0 : Int32)) ∧ Fld Z h a1 "com/example/fading_filter/fadingfilter/model/Layout" "bits" "[I" (.ref a) ∧ Fld Z h a1 "com/example/fading_filter/fadingfilter/model/Layout" "hashFunctions" "I" (.int p4) ∧ Fld Z h a1 "com/example/fading_filter/fadingfilter/model/Layout" "period" "Ljava/time/Duration;" .null ∧ Fld Z h a1 "com/example/fading_filter/fadingfilter/model/Layout" "cells" "Lcom/example/fading_filter/fadingfilter/model/Cells;" (.ref cb) ∧ Fld Z h a1 "com/example/fading_filter/fadingfilter/model/Layout" "placement" "Lcom/example/fading_filter/fadingfilter/model/Placement;" (.ref pf)
set_option maxRecDepth 65536 in
set_option maxHeartbeats 40000000 in
theorem rm1 (l : Launch) (Z : State) (a0 : Array Value) (hw : ∀ d ∈ tables_1, d.before a0 Z = true) (ws : List Jvm.Cond) (a1 cb pf : Addr) (p2 p3 p4 z : Int32) (N : Nat) (h0 : Heap) (n0 : Nat) (Z0 : n0 ≤ h0.size) (E_a1 : Exa Z h0 a1 "com/example/fading_filter/fadingfilter/model/Layout") (F_bits : Fld Z h0 a1 "com/example/fading_filter/fadingfilter/model/Layout" "bits" "[I" .null) (F_hashFunctions : Fld Z h0 a1 "com/example/fading_filter/fadingfilter/model/Layout" "hashFunctions" "I" (.int (0 : Int32))) (F_period : Fld Z h0 a1 "com/example/fading_filter/fadingfilter/model/Layout" "period" "Ljava/time/Duration;" .null) (F_cells : Fld Z h0 a1 "com/example/fading_filter/fadingfilter/model/Layout" "cells" "Lcom/example/fading_filter/fadingfilter/model/Cells;" .null) (F_placement : Fld Z h0 a1 "com/example/fading_filter/fadingfilter/model/Layout" "placement" "Lcom/example/fading_filter/fadingfilter/model/Placement;" .null) (g_a1 : n0 ≤ a1) (hz : (p2 + (2 : Int32)) = z) (hzN : z.toInt = N) (h9 : N ≤ 9) (S_b : Sta Z Z.heap "com/example/fading_filter/fadingfilter/model/Cells" "BITS" "Lcom/example/fading_filter/fadingfilter/model/Cells;" (.ref cb)) (S_f : Sta Z Z.heap "com/example/fading_filter/fadingfilter/model/Placement" "FORGETFUL" "Lcom/example/fading_filter/fadingfilter/model/Placement;" (.ref pf)) (Od : Old Z n0 h0) : own_Met l Z (⟨"com/example/fading_filter/fadingfilter/model/Layout", "<init>", "(III)V"⟩ : MethodName) prog_42_method_1_code 4 none ws (own_R 2 1 9 40) #[(.ref a1), (.int p2), (.int p3), (.int p4)] h0 (own_Q1 Z a1 cb pf p3 p4 z N h0 n0) := by
  refine own_enter n0 own_pn24 (fun m => ef_rm1 m a1 p2 p3 p4 ) (fun p e s m below meth c s₁ hx hby hlk hml hret hown hnm hZ X0 e0 N0 => ?_)
  show own_Fin p e below s _ _ _ s₁ (mkF m 0 #[.val (.ref a1), .val (.int p2), .val (.int p3), .val (.int p4)] [])
  have Kp23 : Keep h0 h0 [a1] := Keep.refl h0 _
  refine own_by (fun _ k => XS.aloadN X0.here hx rfl (hb hby d1_0) rfl rfl (XS.iloadN X0.here hx rfl (hb hby d1_1) rfl (XS.iloadN X0.here hx rfl (hb hby d1_2) rfl k))) ?_
  show own_Fin p e below s _ _ _ s₁ (mkF m 3 #[.val (.ref a1), .val (.int p2), .val (.int p3), .val (.int p4)] [(.int p3), (.int p2), (.ref a1)])
  obtain ⟨_, _, ⟨T24, L24, k24, n24⟩, -, X24, ⟨Lc24, hQ24, l24, y24, z24⟩, st24⟩ := Jvm.LawKit.callS X0 hx (y := (⟨"com/example/fading_filter/fadingfilter/model/Layout", "alike", "(II)[I"⟩ : MethodName)) hown (mvT hZ (hw _ (List.mem_of_getElem? (i := 7) rfl))) (mvT hZ (hw _ (List.mem_of_getElem? (i := 8) rfl))) (mvT hZ (hw _ (List.mem_of_getElem? (i := 3) rfl))) (mvT hZ (hw _ (List.mem_of_getElem? (i := 9) rfl))) (by decide) (backOf (W := 1) (rm2 l Z a0 hw [] p2 p3 z N h0 n0 Z0 hz hzN h9) hZ (hw _ (List.mem_of_getElem? (i := 9) rfl)) (hw _ (List.mem_of_getElem? (i := 3) rfl)) (by decide) (by decide)) (g := (mkF m 3 #[.val (.ref a1), .val (.int p2), .val (.int p3), .val (.int p4)] [(.int p3), (.int p2), (.ref a1)])) rfl (by rw [hml]; rfl) (argsL := [(.int p2), (.int p3)]) (rest := [(.ref a1)]) (lenOf own_pd60 rfl) rfl (by show 2 * 0 + _ ≤ _; exact Nat.le_of_eq rfl) (hb hby d1_3) (fun _ _ => ⟨rfl, e0, (by decide : 0 + 1 ≤ _), (by decide : 0 + 9 ≤ _)⟩)
  dsimp only [Pt.U, Pt.locs, Pt.cells, Pt.slots] at X24 l24 y24 z24 st24 hQ24
  subst l24 y24 z24
  obtain ⟨b24, k24, rfl, Nq24, K24, ge24, V24⟩ := hQ24
  have N24 := Fr.app N0 Nq24
  refine own_by (fun _ k => st24 _ k) ?_
  have Zs24 : n0 ≤ T24.heap.size := Nat.le_trans Z0 K24.1
  have Kp24 : Keep h0 T24.heap [a1] := Kp23.trans K24 all0
  have f25_0 : Exa Z T24.heap a1 "com/example/fading_filter/fadingfilter/model/Layout" := E_a1.keep K24
  have f25_1 : Old Z n0 T24.heap := Od.keep K24 all0
  have f25_2 : Fld Z T24.heap a1 "com/example/fading_filter/fadingfilter/model/Layout" "bits" "[I" .null := F_bits.keep K24 nin0
  have f25_3 : Fld Z T24.heap a1 "com/example/fading_filter/fadingfilter/model/Layout" "hashFunctions" "I" (.int (0 : Int32)) := F_hashFunctions.keep K24 nin0
  have f25_4 : Fld Z T24.heap a1 "com/example/fading_filter/fadingfilter/model/Layout" "period" "Ljava/time/Duration;" .null := F_period.keep K24 nin0
  have f25_5 : Fld Z T24.heap a1 "com/example/fading_filter/fadingfilter/model/Layout" "cells" "Lcom/example/fading_filter/fadingfilter/model/Cells;" .null := F_cells.keep K24 nin0
  have f25_6 : Fld Z T24.heap a1 "com/example/fading_filter/fadingfilter/model/Layout" "placement" "Lcom/example/fading_filter/fadingfilter/model/Placement;" .null := F_placement.keep K24 nin0
  have ne24_a1 : a1 ≠ b24 := Nat.ne_of_lt (Nat.lt_of_lt_of_le E_a1.lt ge24)
  show own_Fin p e below s _ _ _ T24 (mkF m 6 #[.val (.ref a1), .val (.int p2), .val (.int p3), .val (.int p4)] [(.ref b24), (.ref a1)])
  refine own_by (fun _ k => XS.iloadN X24.here hx rfl (hb hby d1_6) rfl (XS.aconstNull X24.here hx rfl (hb hby d1_7) k)) ?_
  show own_Fin p e below s _ _ _ T24 (mkF m 8 #[.val (.ref a1), .val (.int p2), .val (.int p3), .val (.int p4)] [.null, (.int p4), (.ref b24), (.ref a1)])
  obtain ⟨T26, X26, e26, st26⟩ := getS2 X24 hx hZ hown (host := "") (Or.inl (hw _ (List.mem_of_getElem? (i := 15) rfl))) Via.refl rfl (S_b.ext f25_1.2) (g := (mkF m 8 #[.val (.ref a1), .val (.int p2), .val (.int p3), .val (.int p4)] [.null, (.int p4), (.ref b24), (.ref a1)])) rfl (hb hby d1_8)
  refine own_by (fun _ k => st26 _ k) ?_
  show own_Fin p e below s _ _ _ T26 (mkF m 11 #[.val (.ref a1), .val (.int p2), .val (.int p3), .val (.int p4)] [(.ref cb), .null, (.int p4), (.ref b24), (.ref a1)])
  obtain ⟨T27, X27, e27, st27⟩ := getS2 X26 hx hZ hown (host := "") (Or.inl (hw _ (List.mem_of_getElem? (i := 18) rfl))) Via.refl e26 (S_f.ext f25_1.2) (g := (mkF m 11 #[.val (.ref a1), .val (.int p2), .val (.int p3), .val (.int p4)] [(.ref cb), .null, (.int p4), (.ref b24), (.ref a1)])) rfl (hb hby d1_11)
  refine own_by (fun _ k => st27 _ k) ?_
  show own_Fin p e below s _ _ _ T27 (mkF m 14 #[.val (.ref a1), .val (.int p2), .val (.int p3), .val (.int p4)] [(.ref pf), (.ref cb), .null, (.int p4), (.ref b24), (.ref a1)])
  obtain ⟨_, _, ⟨T28, L28, k28, n28⟩, -, X28, ⟨Lc28, hQ28, l28, y28, z28⟩, st28⟩ := X27.specialBack hx (y := (⟨"com/example/fading_filter/fadingfilter/model/Layout", "<init>", "([IILjava/time/Duration;Lcom/example/fading_filter/fadingfilter/model/Cells;Lcom/example/fading_filter/fadingfilter/model/Placement;)V"⟩ : MethodName)) rfl hown (mvT hZ (hw _ (List.mem_of_getElem? (i := 21) rfl))) (mvT hZ (hw _ (List.mem_of_getElem? (i := 22) rfl))) (mvT hZ (hw _ (List.mem_of_getElem? (i := 23) rfl))) (by decide) (backOf (W := 0) (rm4 l Z a0 hw [] a1 b24 cb pf p4 _ _ _ _ _ T24.heap n0 Zs24 f25_0 f25_2 f25_3 f25_4 f25_5 f25_6 g_a1) hZ (hw _ (List.mem_of_getElem? (i := 23) rfl)) (hw _ (List.mem_of_getElem? (i := 3) rfl)) (by decide) (by decide)) (g := (mkF m 14 #[.val (.ref a1), .val (.int p2), .val (.int p3), .val (.int p4)] [(.ref pf), (.ref cb), .null, (.int p4), (.ref b24), (.ref a1)])) rfl (by rw [hml]; rfl) (Steps.refl _) (a := a1) (argsL := [(.ref b24), (.int p4), .null, (.ref cb), (.ref pf)]) (rest := []) (lenOf own_pd66 rfl) rfl (by show 2 * 0 + _ ≤ _; exact Nat.le_of_eq rfl) (hb hby d1_14) (fun _ _ => ⟨rfl, e27, (by decide : 1 + 0 ≤ _), (by decide : 9 + 0 ≤ _)⟩)
  dsimp only [Pt.U, Pt.locs, Pt.cells, Pt.slots] at X28 l28 y28 z28 st28 hQ28
  subst l28 y28 z28
  obtain ⟨rfl, Nq28, K28, Ga28, Gb28, Gc28, Gd28, Ge28⟩ := hQ28
  have N28 := Fr.app N24 Nq28
  refine own_by (fun _ k => st28.trans k) ?_
  have Zs28 : n0 ≤ T28.heap.size := Nat.le_trans Zs24 K28.1
  have Kp28 : Keep h0 T28.heap [a1] := Kp24.trans K28 (allS (Or.inl (List.mem_of_getElem? (i := 0) rfl)) all0)
  have f29_0 : Exa Z T28.heap a1 "com/example/fading_filter/fadingfilter/model/Layout" := f25_0.keep K28
  have f29_1 : Old Z n0 T28.heap := f25_1.keep K28 (allS g_a1 all0)
  have f29_7 : Arv Z T28.heap b24 k24 .int z (List.replicate N (.int p3)) (.int (0 : Int32)) := V24.keep K28 (ninS (Ne.symm ne24_a1) nin0)
  show own_Fin p e below s _ _ _ T28 (mkF m 17 #[.val (.ref a1), .val (.int p2), .val (.int p3), .val (.int p4)] [])
  exact own_retV X28 hx hlk hret (hb hby d1_17) ⟨_, _, rfl, N28, Kp28, (Nat.le_trans Kp23.1 ge24), f29_7, Ga28, Gb28, Gc28, Gd28, Ge28⟩ (by decide) (by decide)
theorem d6_0 : decode prog_42_method_5_code 0 = .ok (.new 2, 3) := by decide +kernel
theorem d6_3 : decode prog_42_method_5_code 3 = .ok (.dup, 1) := by decide +kernel
theorem d6_4 : decode prog_42_method_5_code 4 = .ok (.aload_n 0, 1) := by decide +kernel
theorem d6_5 : decode prog_42_method_5_code 5 = .ok (.getfield 47, 3) := by decide +kernel
theorem d6_8 : decode prog_42_method_5_code 8 = .ok (.aload_n 0, 1) := by decide +kernel
theorem d6_9 : decode prog_42_method_5_code 9 = .ok (.getfield 50, 3) := by decide +kernel
theorem d6_12 : decode prog_42_method_5_code 12 = .ok (.aload_n 0, 1) := by decide +kernel
theorem d6_13 : decode prog_42_method_5_code 13 = .ok (.getfield 54, 3) := by decide +kernel
theorem d6_16 : decode prog_42_method_5_code 16 = .ok (.aload_n 1, 1) := by decide +kernel
theorem d6_17 : decode prog_42_method_5_code 17 = .ok (.ldc 64, 2) := by decide +kernel
theorem d6_19 : decode prog_42_method_5_code 19 = .ok (.invokestatic 34, 3) := by decide +kernel
theorem own_pd80 : parseMethodDescriptor "(Ljava/lang/Object;Ljava/lang/String;)Ljava/lang/Object;" = some ⟨[(.object "java/lang/Object"), (.object "java/lang/String")], some (.object "java/lang/Object")⟩ := by decide +kernel
theorem d6_22 : decode prog_42_method_5_code 22 = .ok (.checkcast 8, 3) := by decide +kernel
theorem d6_25 : decode prog_42_method_5_code 25 = .ok (.aload_n 0, 1) := by decide +kernel
theorem d6_26 : decode prog_42_method_5_code 26 = .ok (.getfield 61, 3) := by decide +kernel
theorem d6_29 : decode prog_42_method_5_code 29 = .ok (.invokespecial 19, 3) := by decide +kernel
theorem d6_32 : decode prog_42_method_5_code 32 = .ok (.areturn, 1) := by decide +kernel
theorem ef_rm6 (m : MethodId) (x0 : Addr) (x1 : Addr) : entryFrame m #[(.ref x0), (.ref x1)] 2 = mkF m 0 #[.val (.ref x0), .val (.ref x1)] [] := by first | (simp [entryFrame, mkF, argsToLocals, Value.category]; done) | rfl
def own_Q6 (Z : State) (a2 ab : Addr) (h0 : Heap) (n0 : Nat) (v : Option Value) (h : Heap) (L : List Loc) : Prop := ∃ a : Addr, v = some (.ref a) ∧ Fr n0 L ∧ Keep h0 h [] ∧ Exa Z h a "com/example/fading_filter/fadingfilter/model/Layout" ∧ Fld Z h a "com/example/fading_filter/fadingfilter/model/Layout" "bits" "[I" (.ref ab) ∧ Fld Z h a "com/example/fading_filter/fadingfilter/model/Layout" "cells" "Lcom/example/fading_filter/fadingfilter/model/Cells;" (.ref a2)
set_option maxRecDepth 65536 in
set_option maxHeartbeats 40000000 in
theorem rm6 (l : Launch) (Z : State) (a0 : Array Value) (hw : ∀ d ∈ tables_1, d.before a0 Z = true) (ws : List Jvm.Cond) (a1 a2 ab pf : Addr) (p3 : Int32) (h0 : Heap) (n0 : Nat) (Z0 : n0 ≤ h0.size) (F_bits : Fld Z h0 a1 "com/example/fading_filter/fadingfilter/model/Layout" "bits" "[I" (.ref ab)) (F_hashFunctions : Fld Z h0 a1 "com/example/fading_filter/fadingfilter/model/Layout" "hashFunctions" "I" (.int p3)) (F_period : Fld Z h0 a1 "com/example/fading_filter/fadingfilter/model/Layout" "period" "Ljava/time/Duration;" .null) (F_placement : Fld Z h0 a1 "com/example/fading_filter/fadingfilter/model/Layout" "placement" "Lcom/example/fading_filter/fadingfilter/model/Placement;" (.ref pf)) (E_a2 : Exa Z h0 a2 "com/example/fading_filter/fadingfilter/model/Cells") :
    MetFree l (⟨"com/example/fading_filter/fadingfilter/model/Layout", "withCells", "(Lcom/example/fading_filter/fadingfilter/model/Cells;)Lcom/example/fading_filter/fadingfilter/model/Layout;"⟩ : MethodName) (head1 (Jvm.Cond.code (⟨"com/example/fading_filter/fadingfilter/model/Layout", "withCells", "(Lcom/example/fading_filter/fadingfilter/model/Cells;)Lcom/example/fading_filter/fadingfilter/model/Layout;"⟩ : MethodName) prog_42_method_5_code 2 (some (.object "com/example/fading_filter/fadingfilter/model/Layout")) :: ws) (own_R 2 3 29 60)) (fun a U => a = #[(.ref a1), (.ref a2)] ∧ Z.Warmed39 U.vm ∧ U.heap = h0) (fun _ _ _ _ _ => True) (fun _ U o U' => ∃ v L, o = .returned v ∧ own_Q6 Z a2 ab h0 n0 v U'.heap L ∧ ReturnedEndW U o U' L (own_R 2 3 29 60).cells (own_R 2 3 29 60).slots) := by
  refine MetFree.of_bodySF (plainFor_of_name own_pn24) hisR ?_
  intro p e s m args below meth c s₁ Bd hml0 hP hK
  obtain ⟨rfl, hZ, hh⟩ := hP
  have hx := Bd.exec
  have hby := Bd.bytes
  have hlk := Bd.notSynchronized
  have hml : c.maxLocals = 2 := hml0
  have hown : s.vm.findClass "com/example/fading_filter/fadingfilter/model/Layout" = some m.cls := findClass_of_methodNamed Bd.named
  have hnm := (name_of_methodNamed Bd.named Bd.method).1
  have X0 : Stand p l e (own_R 2 3 29 60) (s.setVm s.vm) m #[(.ref a1), (.ref a2)] below meth c s₁ [] 0 0 := Stand.of_body Bd
  have e0 : s₁.heap = h0 := by rw [← hh, Bd.state]; rfl
  have N0 := Fr.nil n0
  refine own_startW (Q := own_Q6 Z a2 ab h0 n0) (C := (own_R 2 3 29 60).cells) (N := (own_R 2 3 29 60).slots) (ef_rm6 m a1 a2 ) ?_
  have hS0 : s.Since s.vm h0.size := (State.WarmedH.refl s).since _
  have hk0 : h0.size ≤ h0.size := Nat.le_refl _
  replace hown : (s.setVm s.vm).vm.findClass "com/example/fading_filter/fadingfilter/model/Layout" = some m.cls := hown
  replace hZ : Z.Warmed39 (s.setVm s.vm).vm := hZ
  show own_FinW p e below s _ _ _ s₁ (mkF m 0 #[.val (.ref a1), .val (.ref a2)] [])
  have Kp30 : Keep h0 h0 [] := Keep.refl h0 _
  obtain ⟨T31, h31, X31, e31, E31, A31, D31, -, st31⟩ := newO X0 hx hZ hown (hw _ (List.mem_of_getElem? (i := 44) rfl)) (hw _ (List.mem_of_getElem? (i := 2) rfl)) (hw _ (List.mem_of_getElem? (i := 3) rfl)) e0 (g := (mkF m 0 #[.val (.ref a1), .val (.ref a2)] [])) rfl (hb hby d6_0) (by decide) (by decide)
  obtain ⟨b31, g31⟩ : ∃ z, z = h0.size := ⟨_, rfl⟩
  rw [← g31] at A31 D31 st31
  refine own_byW (fun _ k => st31 _ k) ?_
  have ne31_a2 : a2 ≠ b31 := Nat.ne_of_lt (Nat.lt_of_lt_of_le E_a2.lt (Nat.le_of_eq g31.symm))
  have ne31_a1 : a1 ≠ b31 := Nat.ne_of_lt (Nat.lt_of_lt_of_le F_bits.lt (Nat.le_of_eq g31.symm))
  have gf31 : n0 ≤ b31 := Nat.le_trans Z0 (Nat.le_of_eq g31.symm)
  have Zs31 : n0 ≤ h31.size := Nat.le_trans Z0 E31.1
  have Kp31 : Keep h0 h31 [] := Kp30.ext E31
  have sz_b31 : h0.size ≤ b31 := Nat.le_trans Kp30.1 (Nat.le_of_eq g31.symm)
  have hkE31 : _ ≤ h31.size := Nat.le_trans hk0 E31.1
  have f32_0 : Exa Z h31 a2 "com/example/fading_filter/fadingfilter/model/Cells" := E_a2.ext E31
  have f32_1 : Fld Z h31 a1 "com/example/fading_filter/fadingfilter/model/Layout" "bits" "[I" (.ref ab) := F_bits.ext E31
  have f32_2 : Fld Z h31 a1 "com/example/fading_filter/fadingfilter/model/Layout" "hashFunctions" "I" (.int p3) := F_hashFunctions.ext E31
  have f32_3 : Fld Z h31 a1 "com/example/fading_filter/fadingfilter/model/Layout" "period" "Ljava/time/Duration;" .null := F_period.ext E31
  have f32_4 : Fld Z h31 a1 "com/example/fading_filter/fadingfilter/model/Layout" "placement" "Lcom/example/fading_filter/fadingfilter/model/Placement;" (.ref pf) := F_placement.ext E31
  have F31_bits : Fld Z h31 b31 "com/example/fading_filter/fadingfilter/model/Layout" "bits" "[I" .null := D31 (Or.inr (hw _ (List.mem_of_getElem? (i := 28) rfl))) (ty := (.array .int)) (by decide)
  have F31_hashFunctions : Fld Z h31 b31 "com/example/fading_filter/fadingfilter/model/Layout" "hashFunctions" "I" (.int (0 : Int32)) := D31 (Or.inr (hw _ (List.mem_of_getElem? (i := 30) rfl))) (ty := .int) (by decide)
  have F31_period : Fld Z h31 b31 "com/example/fading_filter/fadingfilter/model/Layout" "period" "Ljava/time/Duration;" .null := D31 (Or.inr (hw _ (List.mem_of_getElem? (i := 32) rfl))) (ty := (.object "java/time/Duration")) (by decide)
  have F31_cells : Fld Z h31 b31 "com/example/fading_filter/fadingfilter/model/Layout" "cells" "Lcom/example/fading_filter/fadingfilter/model/Cells;" .null := D31 (Or.inr (hw _ (List.mem_of_getElem? (i := 34) rfl))) (ty := (.object "com/example/fading_filter/fadingfilter/model/Cells")) (by decide)
  have F31_placement : Fld Z h31 b31 "com/example/fading_filter/fadingfilter/model/Layout" "placement" "Lcom/example/fading_filter/fadingfilter/model/Placement;" .null := D31 (Or.inr (hw _ (List.mem_of_getElem? (i := 36) rfl))) (ty := (.object "com/example/fading_filter/fadingfilter/model/Placement")) (by decide)
  show own_FinW p e below s _ _ _ T31 (mkF m 3 #[.val (.ref a1), .val (.ref a2)] [(.ref b31)])
  refine own_byW (fun _ k => XS.dup X31.here hx rfl (hb hby d6_3) rfl rfl (XS.aloadN X31.here hx rfl (hb hby d6_4) rfl rfl k)) ?_
  show own_FinW p e below s _ _ _ T31 (mkF m 5 #[.val (.ref a1), .val (.ref a2)] [(.ref a1), (.ref b31), (.ref b31)])
  obtain ⟨T33, X33, e33, st33⟩ := getF X31 hx hZ hown (host := "") (Or.inl (hw _ (List.mem_of_getElem? (i := 27) rfl))) Via.refl e31 f32_1 (g := (mkF m 5 #[.val (.ref a1), .val (.ref a2)] [(.ref a1), (.ref b31), (.ref b31)])) rfl rfl (hb hby d6_5)
  refine own_byW (fun _ k => st33 _ k) ?_
  show own_FinW p e below s _ _ _ T33 (mkF m 8 #[.val (.ref a1), .val (.ref a2)] [(.ref ab), (.ref b31), (.ref b31)])
  refine own_byW (fun _ k => XS.aloadN X33.here hx rfl (hb hby d6_8) rfl rfl k) ?_
  show own_FinW p e below s _ _ _ T33 (mkF m 9 #[.val (.ref a1), .val (.ref a2)] [(.ref a1), (.ref ab), (.ref b31), (.ref b31)])
  obtain ⟨T34, X34, e34, st34⟩ := getF X33 hx hZ hown (host := "") (Or.inl (hw _ (List.mem_of_getElem? (i := 29) rfl))) Via.refl e33 f32_2 (g := (mkF m 9 #[.val (.ref a1), .val (.ref a2)] [(.ref a1), (.ref ab), (.ref b31), (.ref b31)])) rfl rfl (hb hby d6_9)
  refine own_byW (fun _ k => st34 _ k) ?_
  show own_FinW p e below s _ _ _ T34 (mkF m 12 #[.val (.ref a1), .val (.ref a2)] [(.int p3), (.ref ab), (.ref b31), (.ref b31)])
  refine own_byW (fun _ k => XS.aloadN X34.here hx rfl (hb hby d6_12) rfl rfl k) ?_
  show own_FinW p e below s _ _ _ T34 (mkF m 13 #[.val (.ref a1), .val (.ref a2)] [(.ref a1), (.int p3), (.ref ab), (.ref b31), (.ref b31)])
  obtain ⟨T35, X35, e35, st35⟩ := getF X34 hx hZ hown (host := "") (Or.inl (hw _ (List.mem_of_getElem? (i := 31) rfl))) Via.refl e34 f32_3 (g := (mkF m 13 #[.val (.ref a1), .val (.ref a2)] [(.ref a1), (.int p3), (.ref ab), (.ref b31), (.ref b31)])) rfl rfl (hb hby d6_13)
  refine own_byW (fun _ k => st35 _ k) ?_
  show own_FinW p e below s _ _ _ T35 (mkF m 16 #[.val (.ref a1), .val (.ref a2)] [.null, (.int p3), (.ref ab), (.ref b31), (.ref b31)])
  refine own_byW (fun _ k => XS.aloadN X35.here hx rfl (hb hby d6_16) rfl rfl k) ?_
  show own_FinW p e below s _ _ _ T35 (mkF m 17 #[.val (.ref a1), .val (.ref a2)] [(.ref a2), .null, (.int p3), (.ref ab), (.ref b31), (.ref b31)])
  obtain ⟨b36, T36, h36, k36, X36, e36, E36, hS36, hkE36, hZ36, hown36, st36⟩ := ldcS (s := s) (vm0 := s.vm) X35 hx hZ hown (hw _ (List.mem_of_getElem? (i := 45) rfl)) (own_wS hw) e35 hS0 hkE31 (g := (mkF m 17 #[.val (.ref a1), .val (.ref a2)] [(.ref a2), .null, (.int p3), (.ref ab), (.ref b31), (.ref b31)])) rfl (hb hby d6_17) (n := 20) (by decide) (by decide) (by decide) (by decide)
  replace hZ := hZ36
  replace hown := hown36
  refine own_byW (fun _ k => st36 _ k) ?_
  have Zs36 : n0 ≤ h36.size := Nat.le_trans Zs31 E36.1
  have Kp36 : Keep h0 h36 [] := Kp31.ext E36
  have f37_0 : Exa Z h36 a2 "com/example/fading_filter/fadingfilter/model/Cells" := f32_0.ext E36
  have f37_1 : Fld Z h36 a1 "com/example/fading_filter/fadingfilter/model/Layout" "bits" "[I" (.ref ab) := f32_1.ext E36
  have f37_2 : Fld Z h36 a1 "com/example/fading_filter/fadingfilter/model/Layout" "hashFunctions" "I" (.int p3) := f32_2.ext E36
  have f37_3 : Fld Z h36 a1 "com/example/fading_filter/fadingfilter/model/Layout" "period" "Ljava/time/Duration;" .null := f32_3.ext E36
  have f37_4 : Fld Z h36 a1 "com/example/fading_filter/fadingfilter/model/Layout" "placement" "Lcom/example/fading_filter/fadingfilter/model/Placement;" (.ref pf) := f32_4.ext E36
  have f37_5 : Exa Z h36 b31 "com/example/fading_filter/fadingfilter/model/Layout" := A31.ext E36
  have f37_6 : Fld Z h36 b31 "com/example/fading_filter/fadingfilter/model/Layout" "bits" "[I" .null := F31_bits.ext E36
  have f37_7 : Fld Z h36 b31 "com/example/fading_filter/fadingfilter/model/Layout" "hashFunctions" "I" (.int (0 : Int32)) := F31_hashFunctions.ext E36
  have f37_8 : Fld Z h36 b31 "com/example/fading_filter/fadingfilter/model/Layout" "period" "Ljava/time/Duration;" .null := F31_period.ext E36
  have f37_9 : Fld Z h36 b31 "com/example/fading_filter/fadingfilter/model/Layout" "cells" "Lcom/example/fading_filter/fadingfilter/model/Cells;" .null := F31_cells.ext E36
  have f37_10 : Fld Z h36 b31 "com/example/fading_filter/fadingfilter/model/Layout" "placement" "Lcom/example/fading_filter/fadingfilter/model/Placement;" .null := F31_placement.ext E36
  show own_FinW p e below s _ _ _ T36 (mkF m 19 #[.val (.ref a1), .val (.ref a2)] [(.ref b36), (.ref a2), .null, (.int p3), (.ref ab), (.ref b31), (.ref b31)])
  obtain ⟨_, _, ⟨T38, L38, k38, n38⟩, -, X38, ⟨Lc38, hQ38, l38, y38, z38⟩, st38⟩ := Jvm.LawKit.callS X36 hx (y := (⟨"java/util/Objects", "requireNonNull", "(Ljava/lang/Object;Ljava/lang/String;)Ljava/lang/Object;"⟩ : MethodName)) hown (mvT hZ (hw _ (List.mem_of_getElem? (i := 53) rfl))) (mvT hZ (hw _ (List.mem_of_getElem? (i := 54) rfl))) (mvT hZ (hw _ (List.mem_of_getElem? (i := 55) rfl))) (mvT hZ (hw _ (List.mem_of_getElem? (i := 56) rfl))) (by decide) (backOf (W := 5) (rm7 l Z a0 hw [] a2 b36 h36 n0 Zs36 ) hZ (hw _ (List.mem_of_getElem? (i := 56) rfl)) (hw _ (List.mem_of_getElem? (i := 55) rfl)) (by decide) (by decide)) (g := (mkF m 19 #[.val (.ref a1), .val (.ref a2)] [(.ref b36), (.ref a2), .null, (.int p3), (.ref ab), (.ref b31), (.ref b31)])) rfl (by rw [hml]; rfl) (argsL := [(.ref a2), (.ref b36)]) (rest := [.null, (.int p3), (.ref ab), (.ref b31), (.ref b31)]) (lenOf own_pd80 rfl) rfl (by show 2 * 0 + _ ≤ _; exact Nat.le_of_eq rfl) (hb hby d6_19) (fun _ _ => ⟨rfl, e36, (by decide : 3 + 0 ≤ _), (by decide : 29 + 0 ≤ _)⟩)
  dsimp only [Pt.U, Pt.locs, Pt.cells, Pt.slots] at X38 l38 y38 z38 st38 hQ38
  subst l38 y38 z38
  obtain ⟨rfl, Nq38, eh38⟩ := hQ38
  have N38 := Fr.app N0 Nq38
  refine own_byW (fun _ k => st38 _ k) ?_
  show own_FinW p e below s _ _ _ T38 (mkF m 22 #[.val (.ref a1), .val (.ref a2)] [(.ref a2), .null, (.int p3), (.ref ab), (.ref b31), (.ref b31)])
  obtain ⟨T39, X39, e39, st39⟩ := castY X38 hx hZ hown (hw _ (List.mem_of_getElem? (i := 57) rfl)) eh38 (Ins.self f37_0) (g := (mkF m 22 #[.val (.ref a1), .val (.ref a2)] [(.ref a2), .null, (.int p3), (.ref ab), (.ref b31), (.ref b31)])) rfl rfl (hb hby d6_22)
  refine own_byW (fun _ k => st39 _ k) ?_
  show own_FinW p e below s _ _ _ T39 (mkF m 25 #[.val (.ref a1), .val (.ref a2)] [(.ref a2), .null, (.int p3), (.ref ab), (.ref b31), (.ref b31)])
  refine own_byW (fun _ k => XS.aloadN X39.here hx rfl (hb hby d6_25) rfl rfl k) ?_
  show own_FinW p e below s _ _ _ T39 (mkF m 26 #[.val (.ref a1), .val (.ref a2)] [(.ref a1), (.ref a2), .null, (.int p3), (.ref ab), (.ref b31), (.ref b31)])
  obtain ⟨T40, X40, e40, st40⟩ := getF X39 hx hZ hown (host := "") (Or.inl (hw _ (List.mem_of_getElem? (i := 35) rfl))) Via.refl e39 f37_4 (g := (mkF m 26 #[.val (.ref a1), .val (.ref a2)] [(.ref a1), (.ref a2), .null, (.int p3), (.ref ab), (.ref b31), (.ref b31)])) rfl rfl (hb hby d6_26)
  refine own_byW (fun _ k => st40 _ k) ?_
  show own_FinW p e below s _ _ _ T40 (mkF m 29 #[.val (.ref a1), .val (.ref a2)] [(.ref pf), (.ref a2), .null, (.int p3), (.ref ab), (.ref b31), (.ref b31)])
  obtain ⟨_, _, ⟨T41, L41, k41, n41⟩, -, X41, ⟨Lc41, hQ41, l41, y41, z41⟩, st41⟩ := X40.specialBack hx (y := (⟨"com/example/fading_filter/fadingfilter/model/Layout", "<init>", "([IILjava/time/Duration;Lcom/example/fading_filter/fadingfilter/model/Cells;Lcom/example/fading_filter/fadingfilter/model/Placement;)V"⟩ : MethodName)) rfl hown (mvT hZ (hw _ (List.mem_of_getElem? (i := 21) rfl))) (mvT hZ (hw _ (List.mem_of_getElem? (i := 22) rfl))) (mvT hZ (hw _ (List.mem_of_getElem? (i := 23) rfl))) (by decide) (backOf (W := 1) (rm4 l Z a0 hw [] b31 ab a2 pf p3 _ _ _ _ _ h36 n0 Zs36 f37_5 f37_6 f37_7 f37_8 f37_9 f37_10 gf31) hZ (hw _ (List.mem_of_getElem? (i := 23) rfl)) (hw _ (List.mem_of_getElem? (i := 3) rfl)) (by decide) (by decide)) (g := (mkF m 29 #[.val (.ref a1), .val (.ref a2)] [(.ref pf), (.ref a2), .null, (.int p3), (.ref ab), (.ref b31), (.ref b31)])) rfl (by rw [hml]; rfl) (Steps.refl _) (a := b31) (argsL := [(.ref ab), (.int p3), .null, (.ref a2), (.ref pf)]) (rest := [(.ref b31)]) (lenOf own_pd66 rfl) rfl (by show 2 * 0 + _ ≤ _; exact Nat.le_of_eq rfl) (hb hby d6_29) (fun _ _ => ⟨rfl, e40, (by decide : 3 + 0 ≤ _), (by decide : 29 + 0 ≤ _)⟩)
  dsimp only [Pt.U, Pt.locs, Pt.cells, Pt.slots] at X41 l41 y41 z41 st41 hQ41
  subst l41 y41 z41
  obtain ⟨rfl, Nq41, K41, Ga41, Gb41, Gc41, Gd41, Ge41⟩ := hQ41
  have N41 := Fr.app N38 Nq41
  refine own_byW (fun _ k => st41.trans k) ?_
  have Zs41 : n0 ≤ T41.heap.size := Nat.le_trans Zs36 K41.1
  have hkE41 : _ ≤ T41.heap.size := Nat.le_trans hkE36 K41.1
  have Kp41 : Keep h0 T41.heap [] := Kp36.trans K41 (allS (Or.inr sz_b31) all0)
  have f42_0 : Exa Z T41.heap a2 "com/example/fading_filter/fadingfilter/model/Cells" := f37_0.keep K41
  have f42_1 : Fld Z T41.heap a1 "com/example/fading_filter/fadingfilter/model/Layout" "bits" "[I" (.ref ab) := f37_1.keep K41 (ninS ne31_a1 nin0)
  have f42_2 : Fld Z T41.heap a1 "com/example/fading_filter/fadingfilter/model/Layout" "hashFunctions" "I" (.int p3) := f37_2.keep K41 (ninS ne31_a1 nin0)
  have f42_3 : Fld Z T41.heap a1 "com/example/fading_filter/fadingfilter/model/Layout" "period" "Ljava/time/Duration;" .null := f37_3.keep K41 (ninS ne31_a1 nin0)
  have f42_4 : Fld Z T41.heap a1 "com/example/fading_filter/fadingfilter/model/Layout" "placement" "Lcom/example/fading_filter/fadingfilter/model/Placement;" (.ref pf) := f37_4.keep K41 (ninS ne31_a1 nin0)
  have f42_5 : Exa Z T41.heap b31 "com/example/fading_filter/fadingfilter/model/Layout" := f37_5.keep K41
  show own_FinW p e below s _ _ _ T41 (mkF m 32 #[.val (.ref a1), .val (.ref a2)] [(.ref b31)])
  exact own_retAW X41 hS36 hkE41 hx hlk (t := (.object "com/example/fading_filter/fadingfilter/model/Layout")) Bd.returns rfl rfl rfl (hb hby d6_32) ⟨_, rfl, N41, Kp41, f42_5, Ga41, Gd41⟩ (by decide) (by decide)
theorem own_pn87 : plainName "com/example/fading_filter/fadingfilter/model/Cells" = true := by first | (simp [plainName, overriddenIn]; done) | decide +kernel
theorem d9_0 : decode prog_38_method_4_code 0 = .ok (.aload_n 0, 1) := by decide +kernel
theorem d9_1 : decode prog_38_method_4_code 1 = .ok (.getfield 38, 3) := by decide +kernel
theorem d9_4 : decode prog_38_method_4_code 4 = .ok (.ireturn, 1) := by decide +kernel
theorem ef_rm9 (m : MethodId) (x0 : Addr) : entryFrame m #[(.ref x0)] 1 = mkF m 0 #[.val (.ref x0)] [] := by first | (simp [entryFrame, mkF, argsToLocals, Value.category]; done) | rfl
def own_Q9 (c1 : Int32) (h0 : Heap) (n0 : Nat) (v : Option Value) (h : Heap) (L : List Loc) : Prop := v = some (.int c1) ∧ Fr n0 L ∧ h = h0
set_option maxRecDepth 65536 in
set_option maxHeartbeats 40000000 in
theorem rm9 (l : Launch) (Z : State) (a0 : Array Value) (hw : ∀ d ∈ tables_1, d.before a0 Z = true) (ws : List Jvm.Cond) (a1 : Addr) (c1 : Int32) (h0 : Heap) (n0 : Nat) (Z0 : n0 ≤ h0.size) (F1 : Fld Z h0 a1 "com/example/fading_filter/fadingfilter/model/Cells" "bitsPerCell" "I" (.int c1)) : own_Met l Z (⟨"com/example/fading_filter/fadingfilter/model/Cells", "bitsPerCell", "()I"⟩ : MethodName) prog_38_method_4_code 1 (some .int) ws (own_R 0 0 0 0) #[(.ref a1)] h0 (own_Q9 c1 h0 n0) := by
  refine own_enter n0 own_pn87 (fun m => ef_rm9 m a1 ) (fun p e s m below meth c s₁ hx hby hlk hml hret hown hnm hZ X0 e0 N0 => ?_)
  show own_Fin p e below s _ _ _ s₁ (mkF m 0 #[.val (.ref a1)] [])
  refine own_by (fun _ k => XS.aloadN X0.here hx rfl (hb hby d9_0) rfl rfl k) ?_
  show own_Fin p e below s _ _ _ s₁ (mkF m 1 #[.val (.ref a1)] [(.ref a1)])
  obtain ⟨T43, X43, e43, st43⟩ := getF X0 hx hZ hown (host := "") (Or.inl (hw _ (List.mem_of_getElem? (i := 69) rfl))) Via.refl e0 F1 (g := (mkF m 1 #[.val (.ref a1)] [(.ref a1)])) rfl rfl (hb hby d9_1)
  refine own_by (fun _ k => st43 _ k) ?_
  show own_Fin p e below s _ _ _ T43 (mkF m 4 #[.val (.ref a1)] [(.int c1)])
  exact own_retI X43 hx hlk hret (hb hby d9_4) ⟨rfl, N0, e43⟩ (by decide) (by decide)
theorem own_os {a1 ab : Addr} {t : Int64} {z i v : Int32} {s6 : Slot} (h : One s6) : storeLocals #[.val (.ref a1), .val (.long t), .second, .val (.ref ab), .val (.int z), .val (.int i), s6] 6 (.int v) = some #[.val (.ref a1), .val (.long t), .second, .val (.ref ab), .val (.int z), .val (.int i), .val (.int v)] := by
  rcases h with rfl | ⟨w, rfl, hw⟩
  · rfl
  · cases w <;> first | rfl | (simp [Value.category] at hw)
theorem d8_0 : decode prog_42_method_31_code 0 = .ok (.lconst 0, 1) := by decide +kernel
theorem d8_1 : decode prog_42_method_31_code 1 = .ok (.lstore_n 1, 1) := by decide +kernel
theorem d8_2 : decode prog_42_method_31_code 2 = .ok (.aload_n 0, 1) := by decide +kernel
theorem d8_3 : decode prog_42_method_31_code 3 = .ok (.getfield 47, 3) := by decide +kernel
theorem d8_6 : decode prog_42_method_31_code 6 = .ok (.astore_n 3, 1) := by decide +kernel
theorem d8_7 : decode prog_42_method_31_code 7 = .ok (.aload_n 3, 1) := by decide +kernel
theorem d8_8 : decode prog_42_method_31_code 8 = .ok (.arraylength, 1) := by decide +kernel
theorem d8_9 : decode prog_42_method_31_code 9 = .ok (.istore 4, 2) := by decide +kernel
theorem d8_11 : decode prog_42_method_31_code 11 = .ok (.iconst 0, 1) := by decide +kernel
theorem d8_12 : decode prog_42_method_31_code 12 = .ok (.istore 5, 2) := by decide +kernel
theorem d8_14 : decode prog_42_method_31_code 14 = .ok (.iload 5, 2) := by decide +kernel
theorem d8_16 : decode prog_42_method_31_code 16 = .ok (.iload 4, 2) := by decide +kernel
theorem d8_18 : decode prog_42_method_31_code 18 = .ok (.if_icmp .ge 21, 3) := by decide +kernel
theorem d8_39 : decode prog_42_method_31_code 39 = .ok (.lload_n 1, 1) := by decide +kernel
theorem d8_40 : decode prog_42_method_31_code 40 = .ok (.aload_n 0, 1) := by decide +kernel
theorem d8_41 : decode prog_42_method_31_code 41 = .ok (.getfield 58, 3) := by decide +kernel
theorem d8_44 : decode prog_42_method_31_code 44 = .ok (.invokevirtual 269, 3) := by decide +kernel
theorem own_pd109 : parseMethodDescriptor "()I" = some ⟨[], some .int⟩ := by decide +kernel
theorem d8_47 : decode prog_42_method_31_code 47 = .ok (.i2l, 1) := by decide +kernel
theorem d8_48 : decode prog_42_method_31_code 48 = .ok (.lmul, 1) := by decide +kernel
theorem d8_49 : decode prog_42_method_31_code 49 = .ok (.lreturn, 1) := by decide +kernel
theorem d8_21 : decode prog_42_method_31_code 21 = .ok (.aload_n 3, 1) := by decide +kernel
theorem d8_22 : decode prog_42_method_31_code 22 = .ok (.iload 5, 2) := by decide +kernel
theorem d8_24 : decode prog_42_method_31_code 24 = .ok (.iaload, 1) := by decide +kernel
theorem d8_25 : decode prog_42_method_31_code 25 = .ok (.istore 6, 2) := by decide +kernel
theorem d8_27 : decode prog_42_method_31_code 27 = .ok (.lload_n 1, 1) := by decide +kernel
theorem d8_28 : decode prog_42_method_31_code 28 = .ok (.iload 6, 2) := by decide +kernel
theorem d8_30 : decode prog_42_method_31_code 30 = .ok (.i2l, 1) := by decide +kernel
theorem d8_31 : decode prog_42_method_31_code 31 = .ok (.ladd, 1) := by decide +kernel
theorem d8_32 : decode prog_42_method_31_code 32 = .ok (.lstore_n 1, 1) := by decide +kernel
theorem d8_33 : decode prog_42_method_31_code 33 = .ok (.iinc 5 1, 3) := by decide +kernel
theorem d8_36 : decode prog_42_method_31_code 36 = .ok (.goto (-22), 3) := by decide +kernel
theorem ef_rm8 (m : MethodId) (x0 : Addr) : entryFrame m #[(.ref x0)] 7 = mkF m 0 #[.val (.ref x0), .unset, .unset, .unset, .unset, .unset, .unset] [] := by first | (simp [entryFrame, mkF, argsToLocals, Value.category]; done) | rfl
def own_Q8 (mm c1 : Int32) (N : Nat) (h0 : Heap) (n0 : Nat) (v : Option Value) (h : Heap) (L : List Loc) : Prop := v = some (.long (own_sum mm.toInt64 N * c1.toInt64)) ∧ Fr n0 L ∧ h = h0
set_option maxRecDepth 65536 in
set_option maxHeartbeats 40000000 in
theorem rm8 (l : Launch) (Z : State) (a0 : Array Value) (hw : ∀ d ∈ tables_1, d.before a0 Z = true) (ws : List Jvm.Cond) (a1 ab ac : Addr) (kb : ClassId) (mm z c1 : Int32) (N : Nat) (h0 : Heap) (n0 : Nat) (Z0 : n0 ≤ h0.size) (F_b : Fld Z h0 a1 "com/example/fading_filter/fadingfilter/model/Layout" "bits" "[I" (.ref ab)) (F_c : Fld Z h0 a1 "com/example/fading_filter/fadingfilter/model/Layout" "cells" "Lcom/example/fading_filter/fadingfilter/model/Cells;" (.ref ac)) (E_ac : Exa Z h0 ac "com/example/fading_filter/fadingfilter/model/Cells") (F_n : Fld Z h0 ac "com/example/fading_filter/fadingfilter/model/Cells" "bitsPerCell" "I" (.int c1)) (V_b : Arv Z h0 ab kb .int z (List.replicate N (.int mm)) (.int (0 : Int32))) (hz : z.toInt = N) (h9 : N ≤ 9) : own_Met l Z (⟨"com/example/fading_filter/fadingfilter/model/Layout", "totalBits", "()J"⟩ : MethodName) prog_42_method_31_code 7 (some .long) ws (own_R 1 0 0 16) #[(.ref a1)] h0 (own_Q8 mm c1 N h0 n0) := by
  refine own_enter n0 own_pn24 (fun m => ef_rm8 m a1 ) (fun p e s m below meth c s₁ hx hby hlk hml hret hown hnm hZ X0 e0 N0 => ?_)
  show own_Fin p e below s _ _ _ s₁ (mkF m 0 #[.val (.ref a1), .unset, .unset, .unset, .unset, .unset, .unset] [])
  refine own_by (fun _ k => XS.lconst X0.here hx rfl (hb hby d8_0) (XS.lstoreN X0.here hx rfl (hb hby d8_1) rfl (l' := #[.val (.ref a1), .val (.long (0 : Int64)), .second, .unset, .unset, .unset, .unset]) rfl (XS.aloadN X0.here hx rfl (hb hby d8_2) rfl rfl k))) ?_
  show own_Fin p e below s _ _ _ s₁ (mkF m 3 #[.val (.ref a1), .val (.long (0 : Int64)), .second, .unset, .unset, .unset, .unset] [(.ref a1)])
  obtain ⟨T44, X44, e44, st44⟩ := getF X0 hx hZ hown (host := "") (Or.inl (hw _ (List.mem_of_getElem? (i := 27) rfl))) Via.refl e0 F_b (g := (mkF m 3 #[.val (.ref a1), .val (.long (0 : Int64)), .second, .unset, .unset, .unset, .unset] [(.ref a1)])) rfl rfl (hb hby d8_3)
  refine own_by (fun _ k => st44 _ k) ?_
  show own_Fin p e below s _ _ _ T44 (mkF m 6 #[.val (.ref a1), .val (.long (0 : Int64)), .second, .unset, .unset, .unset, .unset] [(.ref ab)])
  refine own_by (fun _ k => XS.astoreN X44.here hx rfl (hb hby d8_6) rfl rfl (l' := #[.val (.ref a1), .val (.long (0 : Int64)), .second, .val (.ref ab), .unset, .unset, .unset]) rfl (XS.aloadN X44.here hx rfl (hb hby d8_7) rfl rfl k)) ?_
  show own_Fin p e below s _ _ _ T44 (mkF m 8 #[.val (.ref a1), .val (.long (0 : Int64)), .second, .val (.ref ab), .unset, .unset, .unset] [(.ref ab)])
  obtain ⟨cl45, Ar45, -, S45, M45, -, -⟩ := id V_b
  refine own_by (fun _ k => X44.arraylength hx (by rw [e44]; exact Ar45.1) (State.isArrayOf_alike hZ.alike Ar45.2.1) (g := (mkF m 8 #[.val (.ref a1), .val (.long (0 : Int64)), .second, .val (.ref ab), .unset, .unset, .unset] [(.ref ab)])) rfl rfl (hb hby d8_8) _ k) ?_
  rw [len_of S45 M45]
  show own_Fin p e below s _ _ _ T44 (mkF m 9 #[.val (.ref a1), .val (.long (0 : Int64)), .second, .val (.ref ab), .unset, .unset, .unset] [(.int z)])
  refine own_by (fun _ k => XS.istore X44.here hx rfl (hb hby d8_9) rfl (l' := #[.val (.ref a1), .val (.long (0 : Int64)), .second, .val (.ref ab), .val (.int z), .unset, .unset]) rfl (XS.iconst X44.here hx rfl (hb hby d8_11) (XS.istore X44.here hx rfl (hb hby d8_12) rfl (l' := #[.val (.ref a1), .val (.long (0 : Int64)), .second, .val (.ref ab), .val (.int z), .val (.int (0 : Int32)), .unset]) rfl k))) ?_
  show own_Fin p e below s _ _ _ T44 (mkF m 14 #[.val (.ref a1), .val (.long (0 : Int64)), .second, .val (.ref ab), .val (.int z), .val (.int (0 : Int32)), .unset] [])
  have loop : ∀ (k : Nat) (i : Int32) (j : Nat) (s6 : Slot) (hs6 : One s6) (hi : i.toInt = j) (hto : z.toInt = j + k), own_Fin p e below s (own_R 1 0 0 16).cells (own_R 1 0 0 16).slots (own_Q8 mm c1 N h0 n0) T44 (mkF m 14 #[.val (.ref a1), .val (.long (own_sum mm.toInt64 j)), .second, .val (.ref ab), .val (.int z), .val (.int i), s6] []) := by
    intro k
    induction k with
    | zero =>
      intro i j s6 hs6 hi hto
      show own_Fin p e below s _ _ _ T44 (mkF m 14 #[.val (.ref a1), .val (.long (own_sum mm.toInt64 j)), .second, .val (.ref ab), .val (.int z), .val (.int i), s6] [])
      refine own_by (fun _ k => XS.iload X44.here hx rfl (hb hby d8_14) rfl (XS.iload X44.here hx rfl (hb hby d8_16) rfl k)) ?_
      show own_Fin p e below s _ _ _ T44 (mkF m 18 #[.val (.ref a1), .val (.long (own_sum mm.toInt64 j)), .second, .val (.ref ab), .val (.int z), .val (.int i), s6] [(.int z), (.int i)])
      refine own_by (fun _ k => XS.icmpYes X44.here hx rfl (pc0 := 18) (pc' := 39) rfl (hb hby d8_18) rfl (flt (own_nlt hi hto)).2.1 (by decide) (by decide) k) ?_
      show own_Fin p e below s _ _ _ T44 (mkF m 39 #[.val (.ref a1), .val (.long (own_sum mm.toInt64 j)), .second, .val (.ref ab), .val (.int z), .val (.int i), s6] [])
      refine own_by (fun _ k => XS.lloadN X44.here hx rfl (hb hby d8_39) rfl (XS.aloadN X44.here hx rfl (hb hby d8_40) rfl rfl k)) ?_
      show own_Fin p e below s _ _ _ T44 (mkF m 41 #[.val (.ref a1), .val (.long (own_sum mm.toInt64 j)), .second, .val (.ref ab), .val (.int z), .val (.int i), s6] [(.ref a1), (.long (own_sum mm.toInt64 j))])
      obtain ⟨T46, X46, e46, st46⟩ := getF X44 hx hZ hown (host := "") (Or.inl (hw _ (List.mem_of_getElem? (i := 33) rfl))) Via.refl e44 F_c (g := (mkF m 41 #[.val (.ref a1), .val (.long (own_sum mm.toInt64 j)), .second, .val (.ref ab), .val (.int z), .val (.int i), s6] [(.ref a1), (.long (own_sum mm.toInt64 j))])) rfl rfl (hb hby d8_41)
      refine own_by (fun _ k => st46 _ k) ?_
      show own_Fin p e below s _ _ _ T46 (mkF m 44 #[.val (.ref a1), .val (.long (own_sum mm.toInt64 j)), .second, .val (.ref ab), .val (.int z), .val (.int i), s6] [(.ref ac), (.long (own_sum mm.toInt64 j))])
      obtain ⟨cq47, kq47, q47a, q47b, q47c⟩ := isOf hZ e46 E_ac
      obtain ⟨_, _, ⟨T47, L47, k47, n47⟩, -, X47, ⟨Lc47, hQ47, l47, y47, z47⟩, st47⟩ := X46.virtualBack hx (y := (⟨"com/example/fading_filter/fadingfilter/model/Cells", "bitsPerCell", "()I"⟩ : MethodName)) (z := (⟨"com/example/fading_filter/fadingfilter/model/Cells", "bitsPerCell", "()I"⟩ : MethodName)) hown (mvT hZ (hw _ (List.mem_of_getElem? (i := 64) rfl))) (mvT hZ (hw _ (List.mem_of_getElem? (i := 65) rfl))) (notFace_of_selects (args := #[]) (mvT hZ (hw _ (List.mem_of_getElem? (i := 67) rfl)))) (mvT hZ (hw _ (List.mem_of_getElem? (i := 67) rfl))) (mvT hZ (hw _ (List.mem_of_getElem? (i := 66) rfl))) (by decide) (backOf (W := 2) (rm9 l Z a0 hw [] ac c1 h0 n0 Z0 F_n) hZ (hw _ (List.mem_of_getElem? (i := 68) rfl)) (hw _ (List.mem_of_getElem? (i := 16) rfl)) (by decide) (by decide)) q47a q47c (g := (mkF m 44 #[.val (.ref a1), .val (.long (own_sum mm.toInt64 j)), .second, .val (.ref ab), .val (.int z), .val (.int i), s6] [(.ref ac), (.long (own_sum mm.toInt64 j))])) rfl (by rw [hml]; rfl) (Steps.refl _) (argsL := []) (rest := [(.long (own_sum mm.toInt64 j))]) (lenOf own_pd109 rfl) rfl (by show 2 * 0 + _ ≤ _; exact Nat.le_of_eq rfl) (hb hby d8_44) (fun _ _ => ⟨rfl, e46, (by decide : 0 + 0 ≤ _), (by decide : 0 + 0 ≤ _)⟩)
      dsimp only [Pt.U, Pt.locs, Pt.cells, Pt.slots] at X47 l47 y47 z47 st47 hQ47
      subst l47 y47 z47
      obtain ⟨rfl, Nq47, eh47⟩ := hQ47
      have N47 := Fr.app N0 Nq47
      refine own_by (fun _ k => st47.trans k) ?_
      show own_Fin p e below s _ _ _ T47 (mkF m 47 #[.val (.ref a1), .val (.long (own_sum mm.toInt64 j)), .second, .val (.ref ab), .val (.int z), .val (.int i), s6] [(.int c1), (.long (own_sum mm.toInt64 j))])
      refine own_by (fun _ k => XS.i2l X47.here hx rfl (hb hby d8_47) rfl (XS.lmul X47.here hx rfl (hb hby d8_48) rfl k)) ?_
      show own_Fin p e below s _ _ _ T47 (mkF m 49 #[.val (.ref a1), .val (.long (own_sum mm.toInt64 j)), .second, .val (.ref ab), .val (.int z), .val (.int i), s6] [(.long ((own_sum mm.toInt64 j) * (c1.toInt64)))])
      exact own_retJ X47 hx hlk hret (hb hby d8_49) ⟨(show j = N by omega) ▸ rfl, N47, eh47⟩ (by decide) (by decide)
    | succ k ih =>
      intro i j s6 hs6 hi hto
      show own_Fin p e below s _ _ _ T44 (mkF m 14 #[.val (.ref a1), .val (.long (own_sum mm.toInt64 j)), .second, .val (.ref ab), .val (.int z), .val (.int i), s6] [])
      refine own_by (fun _ k => XS.iload X44.here hx rfl (hb hby d8_14) rfl (XS.iload X44.here hx rfl (hb hby d8_16) rfl k)) ?_
      show own_Fin p e below s _ _ _ T44 (mkF m 18 #[.val (.ref a1), .val (.long (own_sum mm.toInt64 j)), .second, .val (.ref ab), .val (.int z), .val (.int i), s6] [(.int z), (.int i)])
      refine own_by (fun _ k => XS.icmpNo X44.here hx rfl (hb hby d8_18) rfl (tlt (own_lt hi hto)).2.1 k) ?_
      show own_Fin p e below s _ _ _ T44 (mkF m 21 #[.val (.ref a1), .val (.long (own_sum mm.toInt64 j)), .second, .val (.ref ab), .val (.int z), .val (.int i), s6] [])
      refine own_by (fun _ k => XS.aloadN X44.here hx rfl (hb hby d8_21) rfl rfl (XS.iload X44.here hx rfl (hb hby d8_22) rfl k)) ?_
      show own_Fin p e below s _ _ _ T44 (mkF m 24 #[.val (.ref a1), .val (.long (own_sum mm.toInt64 j)), .second, .val (.ref ab), .val (.int z), .val (.int i), s6] [(.int i), (.ref ab)])
      obtain ⟨cl48, Ar48, -, S48, M48, H48, -⟩ := id V_b
      have hin48 : ¬ (i < 0 ∨ cl48.slots.size ≤ (i).toNatClampNeg) := inb_of S48 (own_in hi hto)
      have hat48 : cl48.slots[(i).toNatClampNeg]? = some (.int mm) := Has.at H48 hin48 (by rw [own_nc hi]; exact own_rep N j _ _ (by omega))
      refine own_by (fun _ k => X44.iaload hx (j := i) (v := (.int mm)) (by rw [e44]; exact Ar48.1) (State.isArrayOf_alike hZ.alike Ar48.2.1) Ar48.2.2 hin48 hat48 (g := (mkF m 24 #[.val (.ref a1), .val (.long (own_sum mm.toInt64 j)), .second, .val (.ref ab), .val (.int z), .val (.int i), s6] [(.int i), (.ref ab)])) rfl rfl (hb hby d8_24) _ k) ?_
      show own_Fin p e below s _ _ _ T44 (mkF m 25 #[.val (.ref a1), .val (.long (own_sum mm.toInt64 j)), .second, .val (.ref ab), .val (.int z), .val (.int i), s6] [(.int mm)])
      refine own_by (fun _ k => XS.istore X44.here hx rfl (hb hby d8_25) rfl (l' := #[.val (.ref a1), .val (.long (own_sum mm.toInt64 j)), .second, .val (.ref ab), .val (.int z), .val (.int i), .val (.int mm)]) (own_os hs6) (XS.lloadN X44.here hx rfl (hb hby d8_27) rfl (XS.iload X44.here hx rfl (hb hby d8_28) rfl (XS.i2l X44.here hx rfl (hb hby d8_30) rfl (XS.ladd X44.here hx rfl (hb hby d8_31) rfl (XS.lstoreN X44.here hx rfl (hb hby d8_32) rfl (l' := #[.val (.ref a1), .val (.long ((own_sum mm.toInt64 j) + (mm.toInt64))), .second, .val (.ref ab), .val (.int z), .val (.int i), .val (.int mm)]) rfl (XS.iinc X44.here hx rfl (hb hby d8_33) rfl (l' := #[.val (.ref a1), .val (.long ((own_sum mm.toInt64 j) + (mm.toInt64))), .second, .val (.ref ab), .val (.int z), .val (.int (i + (1 : Int32))), .val (.int mm)]) rfl (XS.goto X44.here hx rfl (pc0 := 36) (pc' := 14) rfl (hb hby d8_36) (by decide) (by decide) k)))))))) ?_
      show own_Fin p e below s _ _ _ T44 (mkF m 14 #[.val (.ref a1), .val (.long ((own_sum mm.toInt64 j) + (mm.toInt64))), .second, .val (.ref ab), .val (.int z), .val (.int (i + (1 : Int32))), .val (.int mm)] [])
      exact ih (i + (1 : Int32)) (j + 1) _ (One.val rfl) (own_inc hi (by omega)) (by omega)
  exact loop N (0 : Int32) 0 _ One.u (by decide) (by omega)
theorem own_pn125 : plainName "com/example/fading_filter/fadingfilter/model/LayoutTotalBitsPinLaw" = true := by first | (simp [plainName, overriddenIn]; done) | decide +kernel
theorem own_pd126 : parseMethodDescriptor "(III)V" = some ⟨[.int, .int, .int], none⟩ := by decide +kernel
theorem own_pd127 : parseMethodDescriptor "(Lcom/example/fading_filter/fadingfilter/model/Cells;)Lcom/example/fading_filter/fadingfilter/model/Layout;" = some ⟨[(.object "com/example/fading_filter/fadingfilter/model/Cells")], some (.object "com/example/fading_filter/fadingfilter/model/Layout")⟩ := by decide +kernel
theorem own_pd128 : parseMethodDescriptor "()J" = some ⟨[], some .long⟩ := by decide +kernel
theorem ef_rm0 (m : MethodId) (x0 : Int32) (x1 : Int32) (x2 : Int32) (x3 : Int32) : entryFrame m #[(.int x0), (.int x1), (.int x2), (.int x3)] maxLocals = mkF m 0 #[.val (.int x0), .val (.int x1), .val (.int x2), .val (.int x3), .unset, .unset, .unset, .unset, .unset, .unset, .unset] [] := by first | (simp [entryFrame, mkF, argsToLocals, Value.category, maxLocals]; done) | rfl
def own_Q0 (n0 : Nat) (v : Option Value) (h : Heap) (L : List Loc) : Prop := v = some (.int (1 : Int32)) ∧ Fr n0 L
set_option maxRecDepth 65536 in
set_option maxHeartbeats 40000000 in
theorem rm0 (l : Launch) (Z : State) (a0 : Array Value) (hw : ∀ d ∈ tables_1, d.before a0 Z = true) (ws : List Jvm.Cond) (p1 p2 p3 p4 : Int32) (c0 c1 c2 c3 c4 pf : Addr) (h0 : Heap) (n0 : Nat) (Z0 : n0 ≤ h0.size) (S_c0 : Sta Z Z.heap "com/example/fading_filter/fadingfilter/model/Cells" "BITS" "Lcom/example/fading_filter/fadingfilter/model/Cells;" (.ref c0)) (E_c0 : Exa Z Z.heap c0 "com/example/fading_filter/fadingfilter/model/Cells") (F_c0 : Fld Z Z.heap c0 "com/example/fading_filter/fadingfilter/model/Cells" "bitsPerCell" "I" (.int (1 : Int32))) (S_c1 : Sta Z Z.heap "com/example/fading_filter/fadingfilter/model/Cells" "BLOCKED_BITS" "Lcom/example/fading_filter/fadingfilter/model/Cells;" (.ref c1)) (E_c1 : Exa Z Z.heap c1 "com/example/fading_filter/fadingfilter/model/Cells") (F_c1 : Fld Z Z.heap c1 "com/example/fading_filter/fadingfilter/model/Cells" "bitsPerCell" "I" (.int (1 : Int32))) (S_c2 : Sta Z Z.heap "com/example/fading_filter/fadingfilter/model/Cells" "GAUSSIAN_64" "Lcom/example/fading_filter/fadingfilter/model/Cells;" (.ref c2)) (E_c2 : Exa Z Z.heap c2 "com/example/fading_filter/fadingfilter/model/Cells") (F_c2 : Fld Z Z.heap c2 "com/example/fading_filter/fadingfilter/model/Cells" "bitsPerCell" "I" (.int (64 : Int32))) (S_c3 : Sta Z Z.heap "com/example/fading_filter/fadingfilter/model/Cells" "GAUSSIAN_8" "Lcom/example/fading_filter/fadingfilter/model/Cells;" (.ref c3)) (E_c3 : Exa Z Z.heap c3 "com/example/fading_filter/fadingfilter/model/Cells") (F_c3 : Fld Z Z.heap c3 "com/example/fading_filter/fadingfilter/model/Cells" "bitsPerCell" "I" (.int (8 : Int32))) (S_c4 : Sta Z Z.heap "com/example/fading_filter/fadingfilter/model/Cells" "GAUSSIAN_4" "Lcom/example/fading_filter/fadingfilter/model/Cells;" (.ref c4)) (E_c4 : Exa Z Z.heap c4 "com/example/fading_filter/fadingfilter/model/Cells") (F_c4 : Fld Z Z.heap c4 "com/example/fading_filter/fadingfilter/model/Cells" "bitsPerCell" "I" (.int (4 : Int32))) (S_f : Sta Z Z.heap "com/example/fading_filter/fadingfilter/model/Placement" "FORGETFUL" "Lcom/example/fading_filter/fadingfilter/model/Placement;" (.ref pf)) (Od : Old Z n0 h0) :
    MetFree l x (head1 (Jvm.Cond.code x code maxLocals ret :: ws) room_1) (fun a U => a = #[(.int p1), (.int p2), (.int p3), (.int p4)] ∧ Z.Warmed39 U.vm ∧ U.heap = h0) (fun _ _ _ _ _ => True) (fun _ U o U' => ∃ v L, o = .returned v ∧ own_Q0 n0 v U'.heap L ∧ ReturnedEndW U o U' L room_1.cells room_1.slots) := by
  refine MetFree.of_bodySF (plainFor_of_name own_pn125) hisR ?_
  intro p e s m args below meth c s₁ Bd hml0 hP hK
  obtain ⟨rfl, hZ, hh⟩ := hP
  have hx := Bd.exec
  have hby := Bd.bytes
  have hlk := Bd.notSynchronized
  have hml : c.maxLocals = 11 := hml0
  have hown : s.vm.findClass "com/example/fading_filter/fadingfilter/model/LayoutTotalBitsPinLaw" = some m.cls := findClass_of_methodNamed Bd.named
  have hnm := (name_of_methodNamed Bd.named Bd.method).1
  have X0 : Stand p l e room_1 (s.setVm s.vm) m #[(.int p1), (.int p2), (.int p3), (.int p4)] below meth c s₁ [] 0 0 := Stand.of_body Bd
  have e0 : s₁.heap = h0 := by rw [← hh, Bd.state]; rfl
  have N0 := Fr.nil n0
  refine own_startW (Q := own_Q0 n0) (C := room_1.cells) (N := room_1.slots) (ef_rm0 m p1 p2 p3 p4 ) ?_
  have hS0 : s.Since s.vm h0.size := (State.WarmedH.refl s).since _
  have hk0 : h0.size ≤ h0.size := Nat.le_refl _
  replace hown : (s.setVm s.vm).vm.findClass "com/example/fading_filter/fadingfilter/model/LayoutTotalBitsPinLaw" = some m.cls := hown
  replace hZ : Z.Warmed39 (s.setVm s.vm).vm := hZ
  show own_FinW p e below s _ _ _ s₁ (mkF m 0 #[.val (.int p1), .val (.int p2), .val (.int p3), .val (.int p4), .unset, .unset, .unset, .unset, .unset, .unset, .unset] [])
  obtain ⟨z, N, hz, hzN, h9⟩ := own_past p1
  refine own_byW (fun _ k => XS.iloadN X0.here hx rfl (hb hby at_0) rfl (XS.bipush X0.here hx rfl (hb hby at_1) (XS.iand X0.here hx rfl (hb hby at_3) rfl (XS.istore X0.here hx rfl (hb hby at_4) rfl (l' := #[.val (.int p1), .val (.int p2), .val (.int p3), .val (.int p4), .val (.int (p1 &&& (7 : Int32))), .unset, .unset, .unset, .unset, .unset, .unset]) rfl (XS.iloadN X0.here hx rfl (hb hby at_6) rfl k))))) ?_
  show own_FinW p e below s _ _ _ s₁ (mkF m 7 #[.val (.int p1), .val (.int p2), .val (.int p3), .val (.int p4), .val (.int (p1 &&& (7 : Int32))), .unset, .unset, .unset, .unset, .unset, .unset] [(.int p4)])
  refine own_byW (fun _ k => X0.ldcInt hx hown (mvT hZ (hw _ (List.mem_of_getElem? (i := 0) rfl))) (g := (mkF m 7 #[.val (.int p1), .val (.int p2), .val (.int p3), .val (.int p4), .val (.int (p1 &&& (7 : Int32))), .unset, .unset, .unset, .unset, .unset, .unset] [(.int p4)])) rfl (hb hby at_7) _ k) ?_
  show own_FinW p e below s _ _ _ s₁ (mkF m 9 #[.val (.int p1), .val (.int p2), .val (.int p3), .val (.int p4), .val (.int (p1 &&& (7 : Int32))), .unset, .unset, .unset, .unset, .unset, .unset] [(.int (2147483647 : Int32)), (.int p4)])
  refine own_byW (fun _ k => XS.iand X0.here hx rfl (hb hby at_9) rfl (XS.bipush X0.here hx rfl (hb hby at_10) (iremM X0 hx rfl (hb hby at_12) rfl (by decide) (XS.istore X0.here hx rfl (hb hby at_13) rfl (l' := #[.val (.int p1), .val (.int p2), .val (.int p3), .val (.int p4), .val (.int (p1 &&& (7 : Int32))), .val (.int ((p4 &&& (2147483647 : Int32)) % (6 : Int32))), .unset, .unset, .unset, .unset, .unset]) rfl k)))) ?_
  show own_FinW p e below s _ _ _ s₁ (mkF m 15 #[.val (.int p1), .val (.int p2), .val (.int p3), .val (.int p4), .val (.int (p1 &&& (7 : Int32))), .val (.int ((p4 &&& (2147483647 : Int32)) % (6 : Int32))), .unset, .unset, .unset, .unset, .unset] [])
  obtain ⟨T49, h49, X49, e49, E49, A49, D49, -, st49⟩ := newO X0 hx hZ hown (hw _ (List.mem_of_getElem? (i := 1) rfl)) (hw _ (List.mem_of_getElem? (i := 2) rfl)) (hw _ (List.mem_of_getElem? (i := 3) rfl)) e0 (g := (mkF m 15 #[.val (.int p1), .val (.int p2), .val (.int p3), .val (.int p4), .val (.int (p1 &&& (7 : Int32))), .val (.int ((p4 &&& (2147483647 : Int32)) % (6 : Int32))), .unset, .unset, .unset, .unset, .unset] [])) rfl (hb hby at_15) (by decide) (by decide)
  obtain ⟨b49, g49⟩ : ∃ z, z = h0.size := ⟨_, rfl⟩
  rw [← g49] at A49 D49 st49
  refine own_byW (fun _ k => st49 _ k) ?_
  have gf49 : n0 ≤ b49 := Nat.le_trans Z0 (Nat.le_of_eq g49.symm)
  have Zs49 : n0 ≤ h49.size := Nat.le_trans Z0 E49.1
  have hkE49 : _ ≤ h49.size := Nat.le_trans hk0 E49.1
  have f50_0 : Old Z n0 h49 := Od.ext E49
  have F49_bits : Fld Z h49 b49 "com/example/fading_filter/fadingfilter/model/Layout" "bits" "[I" .null := D49 (Or.inr (hw _ (List.mem_of_getElem? (i := 28) rfl))) (ty := (.array .int)) (by decide)
  have F49_hashFunctions : Fld Z h49 b49 "com/example/fading_filter/fadingfilter/model/Layout" "hashFunctions" "I" (.int (0 : Int32)) := D49 (Or.inr (hw _ (List.mem_of_getElem? (i := 30) rfl))) (ty := .int) (by decide)
  have F49_period : Fld Z h49 b49 "com/example/fading_filter/fadingfilter/model/Layout" "period" "Ljava/time/Duration;" .null := D49 (Or.inr (hw _ (List.mem_of_getElem? (i := 32) rfl))) (ty := (.object "java/time/Duration")) (by decide)
  have F49_cells : Fld Z h49 b49 "com/example/fading_filter/fadingfilter/model/Layout" "cells" "Lcom/example/fading_filter/fadingfilter/model/Cells;" .null := D49 (Or.inr (hw _ (List.mem_of_getElem? (i := 34) rfl))) (ty := (.object "com/example/fading_filter/fadingfilter/model/Cells")) (by decide)
  have F49_placement : Fld Z h49 b49 "com/example/fading_filter/fadingfilter/model/Layout" "placement" "Lcom/example/fading_filter/fadingfilter/model/Placement;" .null := D49 (Or.inr (hw _ (List.mem_of_getElem? (i := 36) rfl))) (ty := (.object "com/example/fading_filter/fadingfilter/model/Placement")) (by decide)
  show own_FinW p e below s _ _ _ T49 (mkF m 18 #[.val (.int p1), .val (.int p2), .val (.int p3), .val (.int p4), .val (.int (p1 &&& (7 : Int32))), .val (.int ((p4 &&& (2147483647 : Int32)) % (6 : Int32))), .unset, .unset, .unset, .unset, .unset] [(.ref b49)])
  refine own_byW (fun _ k => XS.dup X49.here hx rfl (hb hby at_18) rfl rfl (XS.iload X49.here hx rfl (hb hby at_19) rfl (XS.iloadN X49.here hx rfl (hb hby at_21) rfl (XS.iloadN X49.here hx rfl (hb hby at_22) rfl k)))) ?_
  show own_FinW p e below s _ _ _ T49 (mkF m 23 #[.val (.int p1), .val (.int p2), .val (.int p3), .val (.int p4), .val (.int (p1 &&& (7 : Int32))), .val (.int ((p4 &&& (2147483647 : Int32)) % (6 : Int32))), .unset, .unset, .unset, .unset, .unset] [(.int p3), (.int p2), (.int (p1 &&& (7 : Int32))), (.ref b49), (.ref b49)])
  obtain ⟨_, _, ⟨T51, L51, k51, n51⟩, -, X51, ⟨Lc51, hQ51, l51, y51, z51⟩, st51⟩ := X49.specialBack hx (y := (⟨"com/example/fading_filter/fadingfilter/model/Layout", "<init>", "(III)V"⟩ : MethodName)) rfl hown (mvT hZ (hw _ (List.mem_of_getElem? (i := 4) rfl))) (mvT hZ (hw _ (List.mem_of_getElem? (i := 5) rfl))) (mvT hZ (hw _ (List.mem_of_getElem? (i := 6) rfl))) (by decide) (backOf (W := 1) (rm1 l Z a0 hw [] b49 c0 pf (p1 &&& (7 : Int32)) p2 p3 z N h49 n0 Zs49 A49 F49_bits F49_hashFunctions F49_period F49_cells F49_placement gf49 hz hzN h9 S_c0 S_f f50_0) hZ (hw _ (List.mem_of_getElem? (i := 6) rfl)) (hw _ (List.mem_of_getElem? (i := 3) rfl)) (by decide) (by decide)) (g := (mkF m 23 #[.val (.int p1), .val (.int p2), .val (.int p3), .val (.int p4), .val (.int (p1 &&& (7 : Int32))), .val (.int ((p4 &&& (2147483647 : Int32)) % (6 : Int32))), .unset, .unset, .unset, .unset, .unset] [(.int p3), (.int p2), (.int (p1 &&& (7 : Int32))), (.ref b49), (.ref b49)])) rfl (by rw [hml]; rfl) (Steps.refl _) (a := b49) (argsL := [(.int (p1 &&& (7 : Int32))), (.int p2), (.int p3)]) (rest := [(.ref b49)]) (lenOf own_pd126 rfl) rfl (by show 2 * 0 + _ ≤ _; exact Nat.le_of_eq rfl) (hb hby at_23) (fun _ _ => ⟨rfl, e49, (by decide : 1 + 1 ≤ _), (by decide : 5 + 9 ≤ _)⟩)
  dsimp only [Pt.U, Pt.locs, Pt.cells, Pt.slots] at X51 l51 y51 z51 st51 hQ51
  subst l51 y51 z51
  obtain ⟨ar51, k51, rfl, Nq51, K51, ge51, V51, Ga51, Gb51, Gc51, Gd51, Ge51⟩ := hQ51
  have N51 := Fr.app N0 Nq51
  refine own_byW (fun _ k => st51.trans k) ?_
  have Zs51 : n0 ≤ T51.heap.size := Nat.le_trans Zs49 K51.1
  have hkE51 : _ ≤ T51.heap.size := Nat.le_trans hkE49 K51.1
  have f52_0 : Old Z n0 T51.heap := f50_0.keep K51 (allS gf49 all0)
  have f52_1 : Exa Z T51.heap b49 "com/example/fading_filter/fadingfilter/model/Layout" := A49.keep K51
  show own_FinW p e below s _ _ _ T51 (mkF m 26 #[.val (.int p1), .val (.int p2), .val (.int p3), .val (.int p4), .val (.int (p1 &&& (7 : Int32))), .val (.int ((p4 &&& (2147483647 : Int32)) % (6 : Int32))), .unset, .unset, .unset, .unset, .unset] [(.ref b49)])
  refine own_byW (fun _ k => XS.astore X51.here hx rfl (hb hby at_26) rfl rfl (l' := #[.val (.int p1), .val (.int p2), .val (.int p3), .val (.int p4), .val (.int (p1 &&& (7 : Int32))), .val (.int ((p4 &&& (2147483647 : Int32)) % (6 : Int32))), .val (.ref b49), .unset, .unset, .unset, .unset]) rfl (XS.lconst X51.here hx rfl (hb hby at_28) (XS.lstore X51.here hx rfl (hb hby at_29) rfl (l' := #[.val (.int p1), .val (.int p2), .val (.int p3), .val (.int p4), .val (.int (p1 &&& (7 : Int32))), .val (.int ((p4 &&& (2147483647 : Int32)) % (6 : Int32))), .val (.ref b49), .val (.long (1 : Int64)), .second, .unset, .unset]) rfl (XS.iload X51.here hx rfl (hb hby at_31) rfl k)))) ?_
  show own_FinW p e below s _ _ _ T51 (mkF m 33 #[.val (.int p1), .val (.int p2), .val (.int p3), .val (.int p4), .val (.int (p1 &&& (7 : Int32))), .val (.int ((p4 &&& (2147483647 : Int32)) % (6 : Int32))), .val (.ref b49), .val (.long (1 : Int64)), .second, .unset, .unset] [(.int ((p4 &&& (2147483647 : Int32)) % (6 : Int32)))])
  by_cases hc33_53 : ((p4 &&& (2147483647 : Int32)) % (6 : Int32)) = (0 : Int32)
  · show own_FinW p e below s _ _ _ T51 (mkF m 33 #[.val (.int p1), .val (.int p2), .val (.int p3), .val (.int p4), .val (.int (p1 &&& (7 : Int32))), .val (.int ((p4 &&& (2147483647 : Int32)) % (6 : Int32))), .val (.ref b49), .val (.long (1 : Int64)), .second, .unset, .unset] [(.int ((p4 &&& (2147483647 : Int32)) % (6 : Int32)))])
    refine own_byW (fun _ k => XS.ifNo X51.here hx rfl (hb hby at_33) rfl ((if0 _ _).trans (teq hc33_53).2) k) ?_
    show own_FinW p e below s _ _ _ T51 (mkF m 36 #[.val (.int p1), .val (.int p2), .val (.int p3), .val (.int p4), .val (.int (p1 &&& (7 : Int32))), .val (.int ((p4 &&& (2147483647 : Int32)) % (6 : Int32))), .val (.ref b49), .val (.long (1 : Int64)), .second, .unset, .unset] [])
    refine own_byW (fun _ k => XS.aload X51.here hx rfl (hb hby at_36) rfl rfl k) ?_
    show own_FinW p e below s _ _ _ T51 (mkF m 38 #[.val (.int p1), .val (.int p2), .val (.int p3), .val (.int p4), .val (.int (p1 &&& (7 : Int32))), .val (.int ((p4 &&& (2147483647 : Int32)) % (6 : Int32))), .val (.ref b49), .val (.long (1 : Int64)), .second, .unset, .unset] [(.ref b49)])
    obtain ⟨T54, X54, e54, st54⟩ := getS2 X51 hx hZ hown (host := "") (Or.inl (hw _ (List.mem_of_getElem? (i := 77) rfl))) Via.refl rfl (S_c0.ext f52_0.2) (g := (mkF m 38 #[.val (.int p1), .val (.int p2), .val (.int p3), .val (.int p4), .val (.int (p1 &&& (7 : Int32))), .val (.int ((p4 &&& (2147483647 : Int32)) % (6 : Int32))), .val (.ref b49), .val (.long (1 : Int64)), .second, .unset, .unset] [(.ref b49)])) rfl (hb hby at_38)
    refine own_byW (fun _ k => st54 _ k) ?_
    show own_FinW p e below s _ _ _ T54 (mkF m 41 #[.val (.int p1), .val (.int p2), .val (.int p3), .val (.int p4), .val (.int (p1 &&& (7 : Int32))), .val (.int ((p4 &&& (2147483647 : Int32)) % (6 : Int32))), .val (.ref b49), .val (.long (1 : Int64)), .second, .unset, .unset] [(.ref c0), (.ref b49)])
    obtain ⟨cq55, kq55, q55a, q55b, q55c⟩ := isOf hZ e54 f52_1
    obtain ⟨_, _, ⟨T55, L55, k55, n55⟩, -, X55, hSn55, hgr55, ⟨Lc55, hQ55, l55, y55, z55⟩, st55⟩ := X54.virtualBackS hx (y := (⟨"com/example/fading_filter/fadingfilter/model/Layout", "withCells", "(Lcom/example/fading_filter/fadingfilter/model/Cells;)Lcom/example/fading_filter/fadingfilter/model/Layout;"⟩ : MethodName)) (z := (⟨"com/example/fading_filter/fadingfilter/model/Layout", "withCells", "(Lcom/example/fading_filter/fadingfilter/model/Cells;)Lcom/example/fading_filter/fadingfilter/model/Layout;"⟩ : MethodName)) hown (mvT hZ (hw _ (List.mem_of_getElem? (i := 39) rfl))) (mvT hZ (hw _ (List.mem_of_getElem? (i := 40) rfl))) (notFace_of_selects (args := #[]) (mvT hZ (hw _ (List.mem_of_getElem? (i := 42) rfl)))) (mvT hZ (hw _ (List.mem_of_getElem? (i := 42) rfl))) (mvT hZ (hw _ (List.mem_of_getElem? (i := 41) rfl))) (by decide) (backOfS (W := 0) (rm6 l Z a0 hw [] b49 c0 ar51 pf p3 T51.heap n0 Zs51 Ga51 Gb51 Gc51 Ge51 (E_c0.ext f52_0.2)) hZ (hw _ (List.mem_of_getElem? (i := 43) rfl)) (hw _ (List.mem_of_getElem? (i := 3) rfl)) (by decide) (by decide)) q55a q55c (g := (mkF m 41 #[.val (.int p1), .val (.int p2), .val (.int p3), .val (.int p4), .val (.int (p1 &&& (7 : Int32))), .val (.int ((p4 &&& (2147483647 : Int32)) % (6 : Int32))), .val (.ref b49), .val (.long (1 : Int64)), .second, .unset, .unset] [(.ref c0), (.ref b49)])) rfl (by rw [hml]; rfl) (Steps.refl _) (argsL := [(.ref c0)]) (rest := []) (lenOf own_pd127 rfl) rfl (by show 2 * 0 + _ ≤ _; exact Nat.le_of_eq rfl) (hb hby at_41) (fun _ _ => ⟨rfl, e54, (by decide : 2 + 3 ≤ _), (by decide : 14 + 29 ≤ _)⟩)
    dsimp only [Pt.U, Pt.locs, Pt.cells, Pt.slots] at X55 l55 y55 z55 st55 hQ55 hSn55 hgr55
    subst l55 y55 z55
    obtain ⟨b55, rfl, Nq55, K55, Eb55, Fb55, Fc55⟩ := hQ55
    have N55 := Fr.app N51 Nq55
    have hS55 : s.Since T55.vm T55.heap.size := foldS (s := s) hS0 (by rw [e54]; exact hkE51) hSn55 hgr55
    have hZ55 : Z.Warmed39 (s.setVm T55.vm).vm := State.Warmed39.trans (t := s.setVm s.vm) hZ hSn55.1
    have hown55 : (s.setVm T55.vm).vm.findClass "com/example/fading_filter/fadingfilter/model/LayoutTotalBitsPinLaw" = some m.cls := by rw [show (s.setVm T55.vm).vm = T55.vm from rfl, hSn55.1.alike.findClass]; exact hown
    replace hZ := hZ55
    replace hown := hown55
    replace X55 : Stand p l e room_1 (s.setVm T55.vm) m #[(.int p1), (.int p2), (.int p3), (.int p4)] below meth c T55 _ _ _ := X55
    have hkE55 : T55.heap.size ≤ T55.heap.size := Nat.le_refl _
    refine own_byW (fun _ k => st55.trans k) ?_
    have Zs55 : n0 ≤ T55.heap.size := Nat.le_trans Zs51 K55.1
    have f56_0 : Old Z n0 T55.heap := f52_0.keep K55 all0
    have f56_1 : Exa Z T55.heap b49 "com/example/fading_filter/fadingfilter/model/Layout" := f52_1.keep K55
    have f56_2 : Fld Z T55.heap b49 "com/example/fading_filter/fadingfilter/model/Layout" "bits" "[I" (.ref ar51) := Ga51.keep K55 nin0
    have f56_3 : Fld Z T55.heap b49 "com/example/fading_filter/fadingfilter/model/Layout" "hashFunctions" "I" (.int p3) := Gb51.keep K55 nin0
    have f56_4 : Fld Z T55.heap b49 "com/example/fading_filter/fadingfilter/model/Layout" "period" "Ljava/time/Duration;" .null := Gc51.keep K55 nin0
    have f56_5 : Fld Z T55.heap b49 "com/example/fading_filter/fadingfilter/model/Layout" "cells" "Lcom/example/fading_filter/fadingfilter/model/Cells;" (.ref c0) := Gd51.keep K55 nin0
    have f56_6 : Fld Z T55.heap b49 "com/example/fading_filter/fadingfilter/model/Layout" "placement" "Lcom/example/fading_filter/fadingfilter/model/Placement;" (.ref pf) := Ge51.keep K55 nin0
    have f56_7 : Arv Z T55.heap ar51 k51 .int z (List.replicate N (.int p2)) (.int (0 : Int32)) := V51.keep K55 nin0
    show own_FinW p e below s _ _ _ T55 (mkF m 44 #[.val (.int p1), .val (.int p2), .val (.int p3), .val (.int p4), .val (.int (p1 &&& (7 : Int32))), .val (.int ((p4 &&& (2147483647 : Int32)) % (6 : Int32))), .val (.ref b49), .val (.long (1 : Int64)), .second, .unset, .unset] [(.ref b55)])
    refine own_byW (fun _ k => XS.astore X55.here hx rfl (hb hby at_44) rfl rfl (l' := #[.val (.int p1), .val (.int p2), .val (.int p3), .val (.int p4), .val (.int (p1 &&& (7 : Int32))), .val (.int ((p4 &&& (2147483647 : Int32)) % (6 : Int32))), .val (.ref b55), .val (.long (1 : Int64)), .second, .unset, .unset]) rfl (XS.lconst X55.here hx rfl (hb hby at_46) (XS.lstore X55.here hx rfl (hb hby at_47) rfl (l' := #[.val (.int p1), .val (.int p2), .val (.int p3), .val (.int p4), .val (.int (p1 &&& (7 : Int32))), .val (.int ((p4 &&& (2147483647 : Int32)) % (6 : Int32))), .val (.ref b55), .val (.long (1 : Int64)), .second, .unset, .unset]) rfl (XS.goto X55.here hx rfl (pc0 := 49) (pc' := 143) rfl (hb hby at_49) (by decide) (by decide) (XS.iload X55.here hx rfl (hb hby at_143) rfl (XS.iconst X55.here hx rfl (hb hby at_145) (XS.iadd X55.here hx rfl (hb hby at_146) rfl k))))))) ?_
    show own_FinW p e below s _ _ _ T55 (mkF m 147 #[.val (.int p1), .val (.int p2), .val (.int p3), .val (.int p4), .val (.int (p1 &&& (7 : Int32))), .val (.int ((p4 &&& (2147483647 : Int32)) % (6 : Int32))), .val (.ref b55), .val (.long (1 : Int64)), .second, .unset, .unset] [(.int ((p1 &&& (7 : Int32)) + (2 : Int32)))])
    rw [hz]
    show own_FinW p e below s _ _ _ T55 (mkF m 147 #[.val (.int p1), .val (.int p2), .val (.int p3), .val (.int p4), .val (.int (p1 &&& (7 : Int32))), .val (.int ((p4 &&& (2147483647 : Int32)) % (6 : Int32))), .val (.ref b55), .val (.long (1 : Int64)), .second, .unset, .unset] [(.int z)])
    refine own_byW (fun _ k => XS.i2l X55.here hx rfl (hb hby at_147) rfl (XS.iloadN X55.here hx rfl (hb hby at_148) rfl (XS.i2l X55.here hx rfl (hb hby at_149) rfl (XS.lmul X55.here hx rfl (hb hby at_150) rfl (XS.lload X55.here hx rfl (hb hby at_151) rfl (XS.lmul X55.here hx rfl (hb hby at_153) rfl (XS.lstore X55.here hx rfl (hb hby at_154) rfl (l' := #[.val (.int p1), .val (.int p2), .val (.int p3), .val (.int p4), .val (.int (p1 &&& (7 : Int32))), .val (.int ((p4 &&& (2147483647 : Int32)) % (6 : Int32))), .val (.ref b55), .val (.long (1 : Int64)), .second, .val (.long (((z.toInt64) * (p2.toInt64)) * (1 : Int64))), .second]) rfl (XS.aload X55.here hx rfl (hb hby at_156) rfl rfl k)))))))) ?_
    show own_FinW p e below s _ _ _ T55 (mkF m 158 #[.val (.int p1), .val (.int p2), .val (.int p3), .val (.int p4), .val (.int (p1 &&& (7 : Int32))), .val (.int ((p4 &&& (2147483647 : Int32)) % (6 : Int32))), .val (.ref b55), .val (.long (1 : Int64)), .second, .val (.long (((z.toInt64) * (p2.toInt64)) * (1 : Int64))), .second] [(.ref b55)])
    obtain ⟨cq57, kq57, q57a, q57b, q57c⟩ := isOf hZ rfl Eb55
    obtain ⟨_, _, ⟨T57, L57, k57, n57⟩, -, X57, ⟨Lc57, hQ57, l57, y57, z57⟩, st57⟩ := X55.virtualBack hx (y := (⟨"com/example/fading_filter/fadingfilter/model/Layout", "totalBits", "()J"⟩ : MethodName)) (z := (⟨"com/example/fading_filter/fadingfilter/model/Layout", "totalBits", "()J"⟩ : MethodName)) hown (mvT hZ (hw _ (List.mem_of_getElem? (i := 59) rfl))) (mvT hZ (hw _ (List.mem_of_getElem? (i := 60) rfl))) (notFace_of_selects (args := #[]) (mvT hZ (hw _ (List.mem_of_getElem? (i := 62) rfl)))) (mvT hZ (hw _ (List.mem_of_getElem? (i := 62) rfl))) (mvT hZ (hw _ (List.mem_of_getElem? (i := 61) rfl))) (by decide) (backOf (W := 0) (rm8 l Z a0 hw [] b55 ar51 c0 k51 p2 z (1 : Int32) N T55.heap n0 Zs55 Fb55 Fc55 (E_c0.ext f56_0.2) (F_c0.ext f56_0.2) f56_7 hzN h9) hZ (hw _ (List.mem_of_getElem? (i := 63) rfl)) (hw _ (List.mem_of_getElem? (i := 3) rfl)) (by decide) (by decide)) q57a q57c (g := (mkF m 158 #[.val (.int p1), .val (.int p2), .val (.int p3), .val (.int p4), .val (.int (p1 &&& (7 : Int32))), .val (.int ((p4 &&& (2147483647 : Int32)) % (6 : Int32))), .val (.ref b55), .val (.long (1 : Int64)), .second, .val (.long (((z.toInt64) * (p2.toInt64)) * (1 : Int64))), .second] [(.ref b55)])) rfl (by rw [hml]; rfl) (Steps.refl _) (argsL := []) (rest := []) (lenOf own_pd128 rfl) rfl (by show 2 * 0 + _ ≤ _; exact Nat.le_of_eq rfl) (hb hby at_158) (fun _ _ => ⟨rfl, rfl, (by decide : 5 + 0 ≤ _), (by decide : 43 + 0 ≤ _)⟩)
    dsimp only [Pt.U, Pt.locs, Pt.cells, Pt.slots] at X57 l57 y57 z57 st57 hQ57
    subst l57 y57 z57
    obtain ⟨rfl, Nq57, eh57⟩ := hQ57
    have N57 := Fr.app N55 Nq57
    refine own_byW (fun _ k => st57.trans k) ?_
    show own_FinW p e below s _ _ _ T57 (mkF m 161 #[.val (.int p1), .val (.int p2), .val (.int p3), .val (.int p4), .val (.int (p1 &&& (7 : Int32))), .val (.int ((p4 &&& (2147483647 : Int32)) % (6 : Int32))), .val (.ref b55), .val (.long (1 : Int64)), .second, .val (.long (((z.toInt64) * (p2.toInt64)) * (1 : Int64))), .second] [(.long (own_sum p2.toInt64 N * (1 : Int32).toInt64))])
    refine own_byW (fun _ k => XS.lload X57.here hx rfl (hb hby at_161) rfl (XS.lcmp X57.here hx rfl (hb hby at_163) rfl k)) ?_
    show own_FinW p e below s _ _ _ T57 (mkF m 164 #[.val (.int p1), .val (.int p2), .val (.int p3), .val (.int p4), .val (.int (p1 &&& (7 : Int32))), .val (.int ((p4 &&& (2147483647 : Int32)) % (6 : Int32))), .val (.ref b55), .val (.long (1 : Int64)), .second, .val (.long (((z.toInt64) * (p2.toInt64)) * (1 : Int64))), .second] [(.int (lcmpW (own_sum p2.toInt64 N * (1 : Int32).toInt64) (((z.toInt64) * (p2.toInt64)) * (1 : Int64))))])
    refine own_byW (fun _ k => XS.ifNo X57.here hx rfl (hb hby at_164) rfl ((if0 _ _).trans (teq (own_plain1 p2 hzN)).2) k) ?_
    show own_FinW p e below s _ _ _ T57 (mkF m 167 #[.val (.int p1), .val (.int p2), .val (.int p3), .val (.int p4), .val (.int (p1 &&& (7 : Int32))), .val (.int ((p4 &&& (2147483647 : Int32)) % (6 : Int32))), .val (.ref b55), .val (.long (1 : Int64)), .second, .val (.long (((z.toInt64) * (p2.toInt64)) * (1 : Int64))), .second] [])
    refine own_byW (fun _ k => XS.iconst X57.here hx rfl (hb hby at_167) (XS.goto X57.here hx rfl (pc0 := 168) (pc' := 172) rfl (hb hby at_168) (by decide) (by decide) k)) ?_
    show own_FinW p e below s _ _ _ T57 (mkF m 172 #[.val (.int p1), .val (.int p2), .val (.int p3), .val (.int p4), .val (.int (p1 &&& (7 : Int32))), .val (.int ((p4 &&& (2147483647 : Int32)) % (6 : Int32))), .val (.ref b55), .val (.long (1 : Int64)), .second, .val (.long (((z.toInt64) * (p2.toInt64)) * (1 : Int64))), .second] [(.int (1 : Int32))])
    exact own_retZW X57 hS55 (by rw [eh57]; exact hkE55) hx hlk (t := .boolean) Bd.returns (by simp) (hb hby at_172) ⟨rfl, N57⟩ (by decide) (by decide)
  · show own_FinW p e below s _ _ _ T51 (mkF m 33 #[.val (.int p1), .val (.int p2), .val (.int p3), .val (.int p4), .val (.int (p1 &&& (7 : Int32))), .val (.int ((p4 &&& (2147483647 : Int32)) % (6 : Int32))), .val (.ref b49), .val (.long (1 : Int64)), .second, .unset, .unset] [(.int ((p4 &&& (2147483647 : Int32)) % (6 : Int32)))])
    refine own_byW (fun _ k => XS.ifYes X51.here hx rfl (pc0 := 33) (pc' := 52) rfl (hb hby at_33) rfl ((if0 _ _).trans (feq hc33_53).2) (by decide) (by decide) k) ?_
    show own_FinW p e below s _ _ _ T51 (mkF m 52 #[.val (.int p1), .val (.int p2), .val (.int p3), .val (.int p4), .val (.int (p1 &&& (7 : Int32))), .val (.int ((p4 &&& (2147483647 : Int32)) % (6 : Int32))), .val (.ref b49), .val (.long (1 : Int64)), .second, .unset, .unset] [])
    refine own_byW (fun _ k => XS.iload X51.here hx rfl (hb hby at_52) rfl (XS.iconst X51.here hx rfl (hb hby at_54) k)) ?_
    show own_FinW p e below s _ _ _ T51 (mkF m 55 #[.val (.int p1), .val (.int p2), .val (.int p3), .val (.int p4), .val (.int (p1 &&& (7 : Int32))), .val (.int ((p4 &&& (2147483647 : Int32)) % (6 : Int32))), .val (.ref b49), .val (.long (1 : Int64)), .second, .unset, .unset] [(.int (1 : Int32)), (.int ((p4 &&& (2147483647 : Int32)) % (6 : Int32)))])
    by_cases hc55_58 : ((p4 &&& (2147483647 : Int32)) % (6 : Int32)) = (1 : Int32)
    · show own_FinW p e below s _ _ _ T51 (mkF m 55 #[.val (.int p1), .val (.int p2), .val (.int p3), .val (.int p4), .val (.int (p1 &&& (7 : Int32))), .val (.int ((p4 &&& (2147483647 : Int32)) % (6 : Int32))), .val (.ref b49), .val (.long (1 : Int64)), .second, .unset, .unset] [(.int (1 : Int32)), (.int ((p4 &&& (2147483647 : Int32)) % (6 : Int32)))])
      refine own_byW (fun _ k => XS.icmpNo X51.here hx rfl (hb hby at_55) rfl (teq hc55_58).2 k) ?_
      show own_FinW p e below s _ _ _ T51 (mkF m 58 #[.val (.int p1), .val (.int p2), .val (.int p3), .val (.int p4), .val (.int (p1 &&& (7 : Int32))), .val (.int ((p4 &&& (2147483647 : Int32)) % (6 : Int32))), .val (.ref b49), .val (.long (1 : Int64)), .second, .unset, .unset] [])
      refine own_byW (fun _ k => XS.aload X51.here hx rfl (hb hby at_58) rfl rfl k) ?_
      show own_FinW p e below s _ _ _ T51 (mkF m 60 #[.val (.int p1), .val (.int p2), .val (.int p3), .val (.int p4), .val (.int (p1 &&& (7 : Int32))), .val (.int ((p4 &&& (2147483647 : Int32)) % (6 : Int32))), .val (.ref b49), .val (.long (1 : Int64)), .second, .unset, .unset] [(.ref b49)])
      obtain ⟨T59, X59, e59, st59⟩ := getS2 X51 hx hZ hown (host := "") (Or.inl (hw _ (List.mem_of_getElem? (i := 37) rfl))) Via.refl rfl (S_c1.ext f52_0.2) (g := (mkF m 60 #[.val (.int p1), .val (.int p2), .val (.int p3), .val (.int p4), .val (.int (p1 &&& (7 : Int32))), .val (.int ((p4 &&& (2147483647 : Int32)) % (6 : Int32))), .val (.ref b49), .val (.long (1 : Int64)), .second, .unset, .unset] [(.ref b49)])) rfl (hb hby at_60)
      refine own_byW (fun _ k => st59 _ k) ?_
      show own_FinW p e below s _ _ _ T59 (mkF m 63 #[.val (.int p1), .val (.int p2), .val (.int p3), .val (.int p4), .val (.int (p1 &&& (7 : Int32))), .val (.int ((p4 &&& (2147483647 : Int32)) % (6 : Int32))), .val (.ref b49), .val (.long (1 : Int64)), .second, .unset, .unset] [(.ref c1), (.ref b49)])
      obtain ⟨cq60, kq60, q60a, q60b, q60c⟩ := isOf hZ e59 f52_1
      obtain ⟨_, _, ⟨T60, L60, k60, n60⟩, -, X60, hSn60, hgr60, ⟨Lc60, hQ60, l60, y60, z60⟩, st60⟩ := X59.virtualBackS hx (y := (⟨"com/example/fading_filter/fadingfilter/model/Layout", "withCells", "(Lcom/example/fading_filter/fadingfilter/model/Cells;)Lcom/example/fading_filter/fadingfilter/model/Layout;"⟩ : MethodName)) (z := (⟨"com/example/fading_filter/fadingfilter/model/Layout", "withCells", "(Lcom/example/fading_filter/fadingfilter/model/Cells;)Lcom/example/fading_filter/fadingfilter/model/Layout;"⟩ : MethodName)) hown (mvT hZ (hw _ (List.mem_of_getElem? (i := 39) rfl))) (mvT hZ (hw _ (List.mem_of_getElem? (i := 40) rfl))) (notFace_of_selects (args := #[]) (mvT hZ (hw _ (List.mem_of_getElem? (i := 42) rfl)))) (mvT hZ (hw _ (List.mem_of_getElem? (i := 42) rfl))) (mvT hZ (hw _ (List.mem_of_getElem? (i := 41) rfl))) (by decide) (backOfS (W := 0) (rm6 l Z a0 hw [] b49 c1 ar51 pf p3 T51.heap n0 Zs51 Ga51 Gb51 Gc51 Ge51 (E_c1.ext f52_0.2)) hZ (hw _ (List.mem_of_getElem? (i := 43) rfl)) (hw _ (List.mem_of_getElem? (i := 3) rfl)) (by decide) (by decide)) q60a q60c (g := (mkF m 63 #[.val (.int p1), .val (.int p2), .val (.int p3), .val (.int p4), .val (.int (p1 &&& (7 : Int32))), .val (.int ((p4 &&& (2147483647 : Int32)) % (6 : Int32))), .val (.ref b49), .val (.long (1 : Int64)), .second, .unset, .unset] [(.ref c1), (.ref b49)])) rfl (by rw [hml]; rfl) (Steps.refl _) (argsL := [(.ref c1)]) (rest := []) (lenOf own_pd127 rfl) rfl (by show 2 * 0 + _ ≤ _; exact Nat.le_of_eq rfl) (hb hby at_63) (fun _ _ => ⟨rfl, e59, (by decide : 2 + 3 ≤ _), (by decide : 14 + 29 ≤ _)⟩)
      dsimp only [Pt.U, Pt.locs, Pt.cells, Pt.slots] at X60 l60 y60 z60 st60 hQ60 hSn60 hgr60
      subst l60 y60 z60
      obtain ⟨b60, rfl, Nq60, K60, Eb60, Fb60, Fc60⟩ := hQ60
      have N60 := Fr.app N51 Nq60
      have hS60 : s.Since T60.vm T60.heap.size := foldS (s := s) hS0 (by rw [e59]; exact hkE51) hSn60 hgr60
      have hZ60 : Z.Warmed39 (s.setVm T60.vm).vm := State.Warmed39.trans (t := s.setVm s.vm) hZ hSn60.1
      have hown60 : (s.setVm T60.vm).vm.findClass "com/example/fading_filter/fadingfilter/model/LayoutTotalBitsPinLaw" = some m.cls := by rw [show (s.setVm T60.vm).vm = T60.vm from rfl, hSn60.1.alike.findClass]; exact hown
      replace hZ := hZ60
      replace hown := hown60
      replace X60 : Stand p l e room_1 (s.setVm T60.vm) m #[(.int p1), (.int p2), (.int p3), (.int p4)] below meth c T60 _ _ _ := X60
      have hkE60 : T60.heap.size ≤ T60.heap.size := Nat.le_refl _
      refine own_byW (fun _ k => st60.trans k) ?_
      have Zs60 : n0 ≤ T60.heap.size := Nat.le_trans Zs51 K60.1
      have f61_0 : Old Z n0 T60.heap := f52_0.keep K60 all0
      have f61_1 : Exa Z T60.heap b49 "com/example/fading_filter/fadingfilter/model/Layout" := f52_1.keep K60
      have f61_2 : Fld Z T60.heap b49 "com/example/fading_filter/fadingfilter/model/Layout" "bits" "[I" (.ref ar51) := Ga51.keep K60 nin0
      have f61_3 : Fld Z T60.heap b49 "com/example/fading_filter/fadingfilter/model/Layout" "hashFunctions" "I" (.int p3) := Gb51.keep K60 nin0
      have f61_4 : Fld Z T60.heap b49 "com/example/fading_filter/fadingfilter/model/Layout" "period" "Ljava/time/Duration;" .null := Gc51.keep K60 nin0
      have f61_5 : Fld Z T60.heap b49 "com/example/fading_filter/fadingfilter/model/Layout" "cells" "Lcom/example/fading_filter/fadingfilter/model/Cells;" (.ref c0) := Gd51.keep K60 nin0
      have f61_6 : Fld Z T60.heap b49 "com/example/fading_filter/fadingfilter/model/Layout" "placement" "Lcom/example/fading_filter/fadingfilter/model/Placement;" (.ref pf) := Ge51.keep K60 nin0
      have f61_7 : Arv Z T60.heap ar51 k51 .int z (List.replicate N (.int p2)) (.int (0 : Int32)) := V51.keep K60 nin0
      show own_FinW p e below s _ _ _ T60 (mkF m 66 #[.val (.int p1), .val (.int p2), .val (.int p3), .val (.int p4), .val (.int (p1 &&& (7 : Int32))), .val (.int ((p4 &&& (2147483647 : Int32)) % (6 : Int32))), .val (.ref b49), .val (.long (1 : Int64)), .second, .unset, .unset] [(.ref b60)])
      refine own_byW (fun _ k => XS.astore X60.here hx rfl (hb hby at_66) rfl rfl (l' := #[.val (.int p1), .val (.int p2), .val (.int p3), .val (.int p4), .val (.int (p1 &&& (7 : Int32))), .val (.int ((p4 &&& (2147483647 : Int32)) % (6 : Int32))), .val (.ref b60), .val (.long (1 : Int64)), .second, .unset, .unset]) rfl (XS.lconst X60.here hx rfl (hb hby at_68) (XS.lstore X60.here hx rfl (hb hby at_69) rfl (l' := #[.val (.int p1), .val (.int p2), .val (.int p3), .val (.int p4), .val (.int (p1 &&& (7 : Int32))), .val (.int ((p4 &&& (2147483647 : Int32)) % (6 : Int32))), .val (.ref b60), .val (.long (1 : Int64)), .second, .unset, .unset]) rfl (XS.goto X60.here hx rfl (pc0 := 71) (pc' := 143) rfl (hb hby at_71) (by decide) (by decide) (XS.iload X60.here hx rfl (hb hby at_143) rfl (XS.iconst X60.here hx rfl (hb hby at_145) (XS.iadd X60.here hx rfl (hb hby at_146) rfl k))))))) ?_
      show own_FinW p e below s _ _ _ T60 (mkF m 147 #[.val (.int p1), .val (.int p2), .val (.int p3), .val (.int p4), .val (.int (p1 &&& (7 : Int32))), .val (.int ((p4 &&& (2147483647 : Int32)) % (6 : Int32))), .val (.ref b60), .val (.long (1 : Int64)), .second, .unset, .unset] [(.int ((p1 &&& (7 : Int32)) + (2 : Int32)))])
      rw [hz]
      show own_FinW p e below s _ _ _ T60 (mkF m 147 #[.val (.int p1), .val (.int p2), .val (.int p3), .val (.int p4), .val (.int (p1 &&& (7 : Int32))), .val (.int ((p4 &&& (2147483647 : Int32)) % (6 : Int32))), .val (.ref b60), .val (.long (1 : Int64)), .second, .unset, .unset] [(.int z)])
      refine own_byW (fun _ k => XS.i2l X60.here hx rfl (hb hby at_147) rfl (XS.iloadN X60.here hx rfl (hb hby at_148) rfl (XS.i2l X60.here hx rfl (hb hby at_149) rfl (XS.lmul X60.here hx rfl (hb hby at_150) rfl (XS.lload X60.here hx rfl (hb hby at_151) rfl (XS.lmul X60.here hx rfl (hb hby at_153) rfl (XS.lstore X60.here hx rfl (hb hby at_154) rfl (l' := #[.val (.int p1), .val (.int p2), .val (.int p3), .val (.int p4), .val (.int (p1 &&& (7 : Int32))), .val (.int ((p4 &&& (2147483647 : Int32)) % (6 : Int32))), .val (.ref b60), .val (.long (1 : Int64)), .second, .val (.long (((z.toInt64) * (p2.toInt64)) * (1 : Int64))), .second]) rfl (XS.aload X60.here hx rfl (hb hby at_156) rfl rfl k)))))))) ?_
      show own_FinW p e below s _ _ _ T60 (mkF m 158 #[.val (.int p1), .val (.int p2), .val (.int p3), .val (.int p4), .val (.int (p1 &&& (7 : Int32))), .val (.int ((p4 &&& (2147483647 : Int32)) % (6 : Int32))), .val (.ref b60), .val (.long (1 : Int64)), .second, .val (.long (((z.toInt64) * (p2.toInt64)) * (1 : Int64))), .second] [(.ref b60)])
      obtain ⟨cq62, kq62, q62a, q62b, q62c⟩ := isOf hZ rfl Eb60
      obtain ⟨_, _, ⟨T62, L62, k62, n62⟩, -, X62, ⟨Lc62, hQ62, l62, y62, z62⟩, st62⟩ := X60.virtualBack hx (y := (⟨"com/example/fading_filter/fadingfilter/model/Layout", "totalBits", "()J"⟩ : MethodName)) (z := (⟨"com/example/fading_filter/fadingfilter/model/Layout", "totalBits", "()J"⟩ : MethodName)) hown (mvT hZ (hw _ (List.mem_of_getElem? (i := 59) rfl))) (mvT hZ (hw _ (List.mem_of_getElem? (i := 60) rfl))) (notFace_of_selects (args := #[]) (mvT hZ (hw _ (List.mem_of_getElem? (i := 62) rfl)))) (mvT hZ (hw _ (List.mem_of_getElem? (i := 62) rfl))) (mvT hZ (hw _ (List.mem_of_getElem? (i := 61) rfl))) (by decide) (backOf (W := 0) (rm8 l Z a0 hw [] b60 ar51 c1 k51 p2 z (1 : Int32) N T60.heap n0 Zs60 Fb60 Fc60 (E_c1.ext f61_0.2) (F_c1.ext f61_0.2) f61_7 hzN h9) hZ (hw _ (List.mem_of_getElem? (i := 63) rfl)) (hw _ (List.mem_of_getElem? (i := 3) rfl)) (by decide) (by decide)) q62a q62c (g := (mkF m 158 #[.val (.int p1), .val (.int p2), .val (.int p3), .val (.int p4), .val (.int (p1 &&& (7 : Int32))), .val (.int ((p4 &&& (2147483647 : Int32)) % (6 : Int32))), .val (.ref b60), .val (.long (1 : Int64)), .second, .val (.long (((z.toInt64) * (p2.toInt64)) * (1 : Int64))), .second] [(.ref b60)])) rfl (by rw [hml]; rfl) (Steps.refl _) (argsL := []) (rest := []) (lenOf own_pd128 rfl) rfl (by show 2 * 0 + _ ≤ _; exact Nat.le_of_eq rfl) (hb hby at_158) (fun _ _ => ⟨rfl, rfl, (by decide : 5 + 0 ≤ _), (by decide : 43 + 0 ≤ _)⟩)
      dsimp only [Pt.U, Pt.locs, Pt.cells, Pt.slots] at X62 l62 y62 z62 st62 hQ62
      subst l62 y62 z62
      obtain ⟨rfl, Nq62, eh62⟩ := hQ62
      have N62 := Fr.app N60 Nq62
      refine own_byW (fun _ k => st62.trans k) ?_
      show own_FinW p e below s _ _ _ T62 (mkF m 161 #[.val (.int p1), .val (.int p2), .val (.int p3), .val (.int p4), .val (.int (p1 &&& (7 : Int32))), .val (.int ((p4 &&& (2147483647 : Int32)) % (6 : Int32))), .val (.ref b60), .val (.long (1 : Int64)), .second, .val (.long (((z.toInt64) * (p2.toInt64)) * (1 : Int64))), .second] [(.long (own_sum p2.toInt64 N * (1 : Int32).toInt64))])
      refine own_byW (fun _ k => XS.lload X62.here hx rfl (hb hby at_161) rfl (XS.lcmp X62.here hx rfl (hb hby at_163) rfl k)) ?_
      show own_FinW p e below s _ _ _ T62 (mkF m 164 #[.val (.int p1), .val (.int p2), .val (.int p3), .val (.int p4), .val (.int (p1 &&& (7 : Int32))), .val (.int ((p4 &&& (2147483647 : Int32)) % (6 : Int32))), .val (.ref b60), .val (.long (1 : Int64)), .second, .val (.long (((z.toInt64) * (p2.toInt64)) * (1 : Int64))), .second] [(.int (lcmpW (own_sum p2.toInt64 N * (1 : Int32).toInt64) (((z.toInt64) * (p2.toInt64)) * (1 : Int64))))])
      refine own_byW (fun _ k => XS.ifNo X62.here hx rfl (hb hby at_164) rfl ((if0 _ _).trans (teq (own_plain1 p2 hzN)).2) k) ?_
      show own_FinW p e below s _ _ _ T62 (mkF m 167 #[.val (.int p1), .val (.int p2), .val (.int p3), .val (.int p4), .val (.int (p1 &&& (7 : Int32))), .val (.int ((p4 &&& (2147483647 : Int32)) % (6 : Int32))), .val (.ref b60), .val (.long (1 : Int64)), .second, .val (.long (((z.toInt64) * (p2.toInt64)) * (1 : Int64))), .second] [])
      refine own_byW (fun _ k => XS.iconst X62.here hx rfl (hb hby at_167) (XS.goto X62.here hx rfl (pc0 := 168) (pc' := 172) rfl (hb hby at_168) (by decide) (by decide) k)) ?_
      show own_FinW p e below s _ _ _ T62 (mkF m 172 #[.val (.int p1), .val (.int p2), .val (.int p3), .val (.int p4), .val (.int (p1 &&& (7 : Int32))), .val (.int ((p4 &&& (2147483647 : Int32)) % (6 : Int32))), .val (.ref b60), .val (.long (1 : Int64)), .second, .val (.long (((z.toInt64) * (p2.toInt64)) * (1 : Int64))), .second] [(.int (1 : Int32))])
      exact own_retZW X62 hS60 (by rw [eh62]; exact hkE60) hx hlk (t := .boolean) Bd.returns (by simp) (hb hby at_172) ⟨rfl, N62⟩ (by decide) (by decide)
    · show own_FinW p e below s _ _ _ T51 (mkF m 55 #[.val (.int p1), .val (.int p2), .val (.int p3), .val (.int p4), .val (.int (p1 &&& (7 : Int32))), .val (.int ((p4 &&& (2147483647 : Int32)) % (6 : Int32))), .val (.ref b49), .val (.long (1 : Int64)), .second, .unset, .unset] [(.int (1 : Int32)), (.int ((p4 &&& (2147483647 : Int32)) % (6 : Int32)))])
      refine own_byW (fun _ k => XS.icmpYes X51.here hx rfl (pc0 := 55) (pc' := 74) rfl (hb hby at_55) rfl (feq hc55_58).2 (by decide) (by decide) k) ?_
      show own_FinW p e below s _ _ _ T51 (mkF m 74 #[.val (.int p1), .val (.int p2), .val (.int p3), .val (.int p4), .val (.int (p1 &&& (7 : Int32))), .val (.int ((p4 &&& (2147483647 : Int32)) % (6 : Int32))), .val (.ref b49), .val (.long (1 : Int64)), .second, .unset, .unset] [])
      refine own_byW (fun _ k => XS.iload X51.here hx rfl (hb hby at_74) rfl (XS.iconst X51.here hx rfl (hb hby at_76) k)) ?_
      show own_FinW p e below s _ _ _ T51 (mkF m 77 #[.val (.int p1), .val (.int p2), .val (.int p3), .val (.int p4), .val (.int (p1 &&& (7 : Int32))), .val (.int ((p4 &&& (2147483647 : Int32)) % (6 : Int32))), .val (.ref b49), .val (.long (1 : Int64)), .second, .unset, .unset] [(.int (2 : Int32)), (.int ((p4 &&& (2147483647 : Int32)) % (6 : Int32)))])
      by_cases hc77_63 : ((p4 &&& (2147483647 : Int32)) % (6 : Int32)) = (2 : Int32)
      · show own_FinW p e below s _ _ _ T51 (mkF m 77 #[.val (.int p1), .val (.int p2), .val (.int p3), .val (.int p4), .val (.int (p1 &&& (7 : Int32))), .val (.int ((p4 &&& (2147483647 : Int32)) % (6 : Int32))), .val (.ref b49), .val (.long (1 : Int64)), .second, .unset, .unset] [(.int (2 : Int32)), (.int ((p4 &&& (2147483647 : Int32)) % (6 : Int32)))])
        refine own_byW (fun _ k => XS.icmpNo X51.here hx rfl (hb hby at_77) rfl (teq hc77_63).2 k) ?_
        show own_FinW p e below s _ _ _ T51 (mkF m 80 #[.val (.int p1), .val (.int p2), .val (.int p3), .val (.int p4), .val (.int (p1 &&& (7 : Int32))), .val (.int ((p4 &&& (2147483647 : Int32)) % (6 : Int32))), .val (.ref b49), .val (.long (1 : Int64)), .second, .unset, .unset] [])
        refine own_byW (fun _ k => XS.aload X51.here hx rfl (hb hby at_80) rfl rfl k) ?_
        show own_FinW p e below s _ _ _ T51 (mkF m 82 #[.val (.int p1), .val (.int p2), .val (.int p3), .val (.int p4), .val (.int (p1 &&& (7 : Int32))), .val (.int ((p4 &&& (2147483647 : Int32)) % (6 : Int32))), .val (.ref b49), .val (.long (1 : Int64)), .second, .unset, .unset] [(.ref b49)])
        obtain ⟨T64, X64, e64, st64⟩ := getS2 X51 hx hZ hown (host := "") (Or.inl (hw _ (List.mem_of_getElem? (i := 74) rfl))) Via.refl rfl (S_c2.ext f52_0.2) (g := (mkF m 82 #[.val (.int p1), .val (.int p2), .val (.int p3), .val (.int p4), .val (.int (p1 &&& (7 : Int32))), .val (.int ((p4 &&& (2147483647 : Int32)) % (6 : Int32))), .val (.ref b49), .val (.long (1 : Int64)), .second, .unset, .unset] [(.ref b49)])) rfl (hb hby at_82)
        refine own_byW (fun _ k => st64 _ k) ?_
        show own_FinW p e below s _ _ _ T64 (mkF m 85 #[.val (.int p1), .val (.int p2), .val (.int p3), .val (.int p4), .val (.int (p1 &&& (7 : Int32))), .val (.int ((p4 &&& (2147483647 : Int32)) % (6 : Int32))), .val (.ref b49), .val (.long (1 : Int64)), .second, .unset, .unset] [(.ref c2), (.ref b49)])
        obtain ⟨cq65, kq65, q65a, q65b, q65c⟩ := isOf hZ e64 f52_1
        obtain ⟨_, _, ⟨T65, L65, k65, n65⟩, -, X65, hSn65, hgr65, ⟨Lc65, hQ65, l65, y65, z65⟩, st65⟩ := X64.virtualBackS hx (y := (⟨"com/example/fading_filter/fadingfilter/model/Layout", "withCells", "(Lcom/example/fading_filter/fadingfilter/model/Cells;)Lcom/example/fading_filter/fadingfilter/model/Layout;"⟩ : MethodName)) (z := (⟨"com/example/fading_filter/fadingfilter/model/Layout", "withCells", "(Lcom/example/fading_filter/fadingfilter/model/Cells;)Lcom/example/fading_filter/fadingfilter/model/Layout;"⟩ : MethodName)) hown (mvT hZ (hw _ (List.mem_of_getElem? (i := 39) rfl))) (mvT hZ (hw _ (List.mem_of_getElem? (i := 40) rfl))) (notFace_of_selects (args := #[]) (mvT hZ (hw _ (List.mem_of_getElem? (i := 42) rfl)))) (mvT hZ (hw _ (List.mem_of_getElem? (i := 42) rfl))) (mvT hZ (hw _ (List.mem_of_getElem? (i := 41) rfl))) (by decide) (backOfS (W := 0) (rm6 l Z a0 hw [] b49 c2 ar51 pf p3 T51.heap n0 Zs51 Ga51 Gb51 Gc51 Ge51 (E_c2.ext f52_0.2)) hZ (hw _ (List.mem_of_getElem? (i := 43) rfl)) (hw _ (List.mem_of_getElem? (i := 3) rfl)) (by decide) (by decide)) q65a q65c (g := (mkF m 85 #[.val (.int p1), .val (.int p2), .val (.int p3), .val (.int p4), .val (.int (p1 &&& (7 : Int32))), .val (.int ((p4 &&& (2147483647 : Int32)) % (6 : Int32))), .val (.ref b49), .val (.long (1 : Int64)), .second, .unset, .unset] [(.ref c2), (.ref b49)])) rfl (by rw [hml]; rfl) (Steps.refl _) (argsL := [(.ref c2)]) (rest := []) (lenOf own_pd127 rfl) rfl (by show 2 * 0 + _ ≤ _; exact Nat.le_of_eq rfl) (hb hby at_85) (fun _ _ => ⟨rfl, e64, (by decide : 2 + 3 ≤ _), (by decide : 14 + 29 ≤ _)⟩)
        dsimp only [Pt.U, Pt.locs, Pt.cells, Pt.slots] at X65 l65 y65 z65 st65 hQ65 hSn65 hgr65
        subst l65 y65 z65
        obtain ⟨b65, rfl, Nq65, K65, Eb65, Fb65, Fc65⟩ := hQ65
        have N65 := Fr.app N51 Nq65
        have hS65 : s.Since T65.vm T65.heap.size := foldS (s := s) hS0 (by rw [e64]; exact hkE51) hSn65 hgr65
        have hZ65 : Z.Warmed39 (s.setVm T65.vm).vm := State.Warmed39.trans (t := s.setVm s.vm) hZ hSn65.1
        have hown65 : (s.setVm T65.vm).vm.findClass "com/example/fading_filter/fadingfilter/model/LayoutTotalBitsPinLaw" = some m.cls := by rw [show (s.setVm T65.vm).vm = T65.vm from rfl, hSn65.1.alike.findClass]; exact hown
        replace hZ := hZ65
        replace hown := hown65
        replace X65 : Stand p l e room_1 (s.setVm T65.vm) m #[(.int p1), (.int p2), (.int p3), (.int p4)] below meth c T65 _ _ _ := X65
        have hkE65 : T65.heap.size ≤ T65.heap.size := Nat.le_refl _
        refine own_byW (fun _ k => st65.trans k) ?_
        have Zs65 : n0 ≤ T65.heap.size := Nat.le_trans Zs51 K65.1
        have f66_0 : Old Z n0 T65.heap := f52_0.keep K65 all0
        have f66_1 : Exa Z T65.heap b49 "com/example/fading_filter/fadingfilter/model/Layout" := f52_1.keep K65
        have f66_2 : Fld Z T65.heap b49 "com/example/fading_filter/fadingfilter/model/Layout" "bits" "[I" (.ref ar51) := Ga51.keep K65 nin0
        have f66_3 : Fld Z T65.heap b49 "com/example/fading_filter/fadingfilter/model/Layout" "hashFunctions" "I" (.int p3) := Gb51.keep K65 nin0
        have f66_4 : Fld Z T65.heap b49 "com/example/fading_filter/fadingfilter/model/Layout" "period" "Ljava/time/Duration;" .null := Gc51.keep K65 nin0
        have f66_5 : Fld Z T65.heap b49 "com/example/fading_filter/fadingfilter/model/Layout" "cells" "Lcom/example/fading_filter/fadingfilter/model/Cells;" (.ref c0) := Gd51.keep K65 nin0
        have f66_6 : Fld Z T65.heap b49 "com/example/fading_filter/fadingfilter/model/Layout" "placement" "Lcom/example/fading_filter/fadingfilter/model/Placement;" (.ref pf) := Ge51.keep K65 nin0
        have f66_7 : Arv Z T65.heap ar51 k51 .int z (List.replicate N (.int p2)) (.int (0 : Int32)) := V51.keep K65 nin0
        show own_FinW p e below s _ _ _ T65 (mkF m 88 #[.val (.int p1), .val (.int p2), .val (.int p3), .val (.int p4), .val (.int (p1 &&& (7 : Int32))), .val (.int ((p4 &&& (2147483647 : Int32)) % (6 : Int32))), .val (.ref b49), .val (.long (1 : Int64)), .second, .unset, .unset] [(.ref b65)])
        refine own_byW (fun _ k => XS.astore X65.here hx rfl (hb hby at_88) rfl rfl (l' := #[.val (.int p1), .val (.int p2), .val (.int p3), .val (.int p4), .val (.int (p1 &&& (7 : Int32))), .val (.int ((p4 &&& (2147483647 : Int32)) % (6 : Int32))), .val (.ref b65), .val (.long (1 : Int64)), .second, .unset, .unset]) rfl k) ?_
        show own_FinW p e below s _ _ _ T65 (mkF m 90 #[.val (.int p1), .val (.int p2), .val (.int p3), .val (.int p4), .val (.int (p1 &&& (7 : Int32))), .val (.int ((p4 &&& (2147483647 : Int32)) % (6 : Int32))), .val (.ref b65), .val (.long (1 : Int64)), .second, .unset, .unset] [])
        refine own_byW (fun _ k => X65.ldc2Long hx hown (mvT hZ (hw _ (List.mem_of_getElem? (i := 76) rfl))) (g := (mkF m 90 #[.val (.int p1), .val (.int p2), .val (.int p3), .val (.int p4), .val (.int (p1 &&& (7 : Int32))), .val (.int ((p4 &&& (2147483647 : Int32)) % (6 : Int32))), .val (.ref b65), .val (.long (1 : Int64)), .second, .unset, .unset] [])) rfl (hb hby at_90) _ k) ?_
        show own_FinW p e below s _ _ _ T65 (mkF m 93 #[.val (.int p1), .val (.int p2), .val (.int p3), .val (.int p4), .val (.int (p1 &&& (7 : Int32))), .val (.int ((p4 &&& (2147483647 : Int32)) % (6 : Int32))), .val (.ref b65), .val (.long (1 : Int64)), .second, .unset, .unset] [(.long (64 : Int64))])
        refine own_byW (fun _ k => XS.lstore X65.here hx rfl (hb hby at_93) rfl (l' := #[.val (.int p1), .val (.int p2), .val (.int p3), .val (.int p4), .val (.int (p1 &&& (7 : Int32))), .val (.int ((p4 &&& (2147483647 : Int32)) % (6 : Int32))), .val (.ref b65), .val (.long (64 : Int64)), .second, .unset, .unset]) rfl (XS.goto X65.here hx rfl (pc0 := 95) (pc' := 143) rfl (hb hby at_95) (by decide) (by decide) (XS.iload X65.here hx rfl (hb hby at_143) rfl (XS.iconst X65.here hx rfl (hb hby at_145) (XS.iadd X65.here hx rfl (hb hby at_146) rfl k))))) ?_
        show own_FinW p e below s _ _ _ T65 (mkF m 147 #[.val (.int p1), .val (.int p2), .val (.int p3), .val (.int p4), .val (.int (p1 &&& (7 : Int32))), .val (.int ((p4 &&& (2147483647 : Int32)) % (6 : Int32))), .val (.ref b65), .val (.long (64 : Int64)), .second, .unset, .unset] [(.int ((p1 &&& (7 : Int32)) + (2 : Int32)))])
        rw [hz]
        show own_FinW p e below s _ _ _ T65 (mkF m 147 #[.val (.int p1), .val (.int p2), .val (.int p3), .val (.int p4), .val (.int (p1 &&& (7 : Int32))), .val (.int ((p4 &&& (2147483647 : Int32)) % (6 : Int32))), .val (.ref b65), .val (.long (64 : Int64)), .second, .unset, .unset] [(.int z)])
        refine own_byW (fun _ k => XS.i2l X65.here hx rfl (hb hby at_147) rfl (XS.iloadN X65.here hx rfl (hb hby at_148) rfl (XS.i2l X65.here hx rfl (hb hby at_149) rfl (XS.lmul X65.here hx rfl (hb hby at_150) rfl (XS.lload X65.here hx rfl (hb hby at_151) rfl (XS.lmul X65.here hx rfl (hb hby at_153) rfl (XS.lstore X65.here hx rfl (hb hby at_154) rfl (l' := #[.val (.int p1), .val (.int p2), .val (.int p3), .val (.int p4), .val (.int (p1 &&& (7 : Int32))), .val (.int ((p4 &&& (2147483647 : Int32)) % (6 : Int32))), .val (.ref b65), .val (.long (64 : Int64)), .second, .val (.long (((z.toInt64) * (p2.toInt64)) * (64 : Int64))), .second]) rfl (XS.aload X65.here hx rfl (hb hby at_156) rfl rfl k)))))))) ?_
        show own_FinW p e below s _ _ _ T65 (mkF m 158 #[.val (.int p1), .val (.int p2), .val (.int p3), .val (.int p4), .val (.int (p1 &&& (7 : Int32))), .val (.int ((p4 &&& (2147483647 : Int32)) % (6 : Int32))), .val (.ref b65), .val (.long (64 : Int64)), .second, .val (.long (((z.toInt64) * (p2.toInt64)) * (64 : Int64))), .second] [(.ref b65)])
        obtain ⟨cq67, kq67, q67a, q67b, q67c⟩ := isOf hZ rfl Eb65
        obtain ⟨_, _, ⟨T67, L67, k67, n67⟩, -, X67, ⟨Lc67, hQ67, l67, y67, z67⟩, st67⟩ := X65.virtualBack hx (y := (⟨"com/example/fading_filter/fadingfilter/model/Layout", "totalBits", "()J"⟩ : MethodName)) (z := (⟨"com/example/fading_filter/fadingfilter/model/Layout", "totalBits", "()J"⟩ : MethodName)) hown (mvT hZ (hw _ (List.mem_of_getElem? (i := 59) rfl))) (mvT hZ (hw _ (List.mem_of_getElem? (i := 60) rfl))) (notFace_of_selects (args := #[]) (mvT hZ (hw _ (List.mem_of_getElem? (i := 62) rfl)))) (mvT hZ (hw _ (List.mem_of_getElem? (i := 62) rfl))) (mvT hZ (hw _ (List.mem_of_getElem? (i := 61) rfl))) (by decide) (backOf (W := 0) (rm8 l Z a0 hw [] b65 ar51 c2 k51 p2 z (64 : Int32) N T65.heap n0 Zs65 Fb65 Fc65 (E_c2.ext f66_0.2) (F_c2.ext f66_0.2) f66_7 hzN h9) hZ (hw _ (List.mem_of_getElem? (i := 63) rfl)) (hw _ (List.mem_of_getElem? (i := 3) rfl)) (by decide) (by decide)) q67a q67c (g := (mkF m 158 #[.val (.int p1), .val (.int p2), .val (.int p3), .val (.int p4), .val (.int (p1 &&& (7 : Int32))), .val (.int ((p4 &&& (2147483647 : Int32)) % (6 : Int32))), .val (.ref b65), .val (.long (64 : Int64)), .second, .val (.long (((z.toInt64) * (p2.toInt64)) * (64 : Int64))), .second] [(.ref b65)])) rfl (by rw [hml]; rfl) (Steps.refl _) (argsL := []) (rest := []) (lenOf own_pd128 rfl) rfl (by show 2 * 0 + _ ≤ _; exact Nat.le_of_eq rfl) (hb hby at_158) (fun _ _ => ⟨rfl, rfl, (by decide : 5 + 0 ≤ _), (by decide : 43 + 0 ≤ _)⟩)
        dsimp only [Pt.U, Pt.locs, Pt.cells, Pt.slots] at X67 l67 y67 z67 st67 hQ67
        subst l67 y67 z67
        obtain ⟨rfl, Nq67, eh67⟩ := hQ67
        have N67 := Fr.app N65 Nq67
        refine own_byW (fun _ k => st67.trans k) ?_
        show own_FinW p e below s _ _ _ T67 (mkF m 161 #[.val (.int p1), .val (.int p2), .val (.int p3), .val (.int p4), .val (.int (p1 &&& (7 : Int32))), .val (.int ((p4 &&& (2147483647 : Int32)) % (6 : Int32))), .val (.ref b65), .val (.long (64 : Int64)), .second, .val (.long (((z.toInt64) * (p2.toInt64)) * (64 : Int64))), .second] [(.long (own_sum p2.toInt64 N * (64 : Int32).toInt64))])
        refine own_byW (fun _ k => XS.lload X67.here hx rfl (hb hby at_161) rfl (XS.lcmp X67.here hx rfl (hb hby at_163) rfl k)) ?_
        show own_FinW p e below s _ _ _ T67 (mkF m 164 #[.val (.int p1), .val (.int p2), .val (.int p3), .val (.int p4), .val (.int (p1 &&& (7 : Int32))), .val (.int ((p4 &&& (2147483647 : Int32)) % (6 : Int32))), .val (.ref b65), .val (.long (64 : Int64)), .second, .val (.long (((z.toInt64) * (p2.toInt64)) * (64 : Int64))), .second] [(.int (lcmpW (own_sum p2.toInt64 N * (64 : Int32).toInt64) (((z.toInt64) * (p2.toInt64)) * (64 : Int64))))])
        refine own_byW (fun _ k => XS.ifNo X67.here hx rfl (hb hby at_164) rfl ((if0 _ _).trans (teq (own_plain64 p2 hzN)).2) k) ?_
        show own_FinW p e below s _ _ _ T67 (mkF m 167 #[.val (.int p1), .val (.int p2), .val (.int p3), .val (.int p4), .val (.int (p1 &&& (7 : Int32))), .val (.int ((p4 &&& (2147483647 : Int32)) % (6 : Int32))), .val (.ref b65), .val (.long (64 : Int64)), .second, .val (.long (((z.toInt64) * (p2.toInt64)) * (64 : Int64))), .second] [])
        refine own_byW (fun _ k => XS.iconst X67.here hx rfl (hb hby at_167) (XS.goto X67.here hx rfl (pc0 := 168) (pc' := 172) rfl (hb hby at_168) (by decide) (by decide) k)) ?_
        show own_FinW p e below s _ _ _ T67 (mkF m 172 #[.val (.int p1), .val (.int p2), .val (.int p3), .val (.int p4), .val (.int (p1 &&& (7 : Int32))), .val (.int ((p4 &&& (2147483647 : Int32)) % (6 : Int32))), .val (.ref b65), .val (.long (64 : Int64)), .second, .val (.long (((z.toInt64) * (p2.toInt64)) * (64 : Int64))), .second] [(.int (1 : Int32))])
        exact own_retZW X67 hS65 (by rw [eh67]; exact hkE65) hx hlk (t := .boolean) Bd.returns (by simp) (hb hby at_172) ⟨rfl, N67⟩ (by decide) (by decide)
      · show own_FinW p e below s _ _ _ T51 (mkF m 77 #[.val (.int p1), .val (.int p2), .val (.int p3), .val (.int p4), .val (.int (p1 &&& (7 : Int32))), .val (.int ((p4 &&& (2147483647 : Int32)) % (6 : Int32))), .val (.ref b49), .val (.long (1 : Int64)), .second, .unset, .unset] [(.int (2 : Int32)), (.int ((p4 &&& (2147483647 : Int32)) % (6 : Int32)))])
        refine own_byW (fun _ k => XS.icmpYes X51.here hx rfl (pc0 := 77) (pc' := 98) rfl (hb hby at_77) rfl (feq hc77_63).2 (by decide) (by decide) k) ?_
        show own_FinW p e below s _ _ _ T51 (mkF m 98 #[.val (.int p1), .val (.int p2), .val (.int p3), .val (.int p4), .val (.int (p1 &&& (7 : Int32))), .val (.int ((p4 &&& (2147483647 : Int32)) % (6 : Int32))), .val (.ref b49), .val (.long (1 : Int64)), .second, .unset, .unset] [])
        refine own_byW (fun _ k => XS.iload X51.here hx rfl (hb hby at_98) rfl (XS.iconst X51.here hx rfl (hb hby at_100) k)) ?_
        show own_FinW p e below s _ _ _ T51 (mkF m 101 #[.val (.int p1), .val (.int p2), .val (.int p3), .val (.int p4), .val (.int (p1 &&& (7 : Int32))), .val (.int ((p4 &&& (2147483647 : Int32)) % (6 : Int32))), .val (.ref b49), .val (.long (1 : Int64)), .second, .unset, .unset] [(.int (3 : Int32)), (.int ((p4 &&& (2147483647 : Int32)) % (6 : Int32)))])
        by_cases hc101_68 : ((p4 &&& (2147483647 : Int32)) % (6 : Int32)) = (3 : Int32)
        · show own_FinW p e below s _ _ _ T51 (mkF m 101 #[.val (.int p1), .val (.int p2), .val (.int p3), .val (.int p4), .val (.int (p1 &&& (7 : Int32))), .val (.int ((p4 &&& (2147483647 : Int32)) % (6 : Int32))), .val (.ref b49), .val (.long (1 : Int64)), .second, .unset, .unset] [(.int (3 : Int32)), (.int ((p4 &&& (2147483647 : Int32)) % (6 : Int32)))])
          refine own_byW (fun _ k => XS.icmpNo X51.here hx rfl (hb hby at_101) rfl (teq hc101_68).2 k) ?_
          show own_FinW p e below s _ _ _ T51 (mkF m 104 #[.val (.int p1), .val (.int p2), .val (.int p3), .val (.int p4), .val (.int (p1 &&& (7 : Int32))), .val (.int ((p4 &&& (2147483647 : Int32)) % (6 : Int32))), .val (.ref b49), .val (.long (1 : Int64)), .second, .unset, .unset] [])
          refine own_byW (fun _ k => XS.aload X51.here hx rfl (hb hby at_104) rfl rfl k) ?_
          show own_FinW p e below s _ _ _ T51 (mkF m 106 #[.val (.int p1), .val (.int p2), .val (.int p3), .val (.int p4), .val (.int (p1 &&& (7 : Int32))), .val (.int ((p4 &&& (2147483647 : Int32)) % (6 : Int32))), .val (.ref b49), .val (.long (1 : Int64)), .second, .unset, .unset] [(.ref b49)])
          obtain ⟨T69, X69, e69, st69⟩ := getS2 X51 hx hZ hown (host := "") (Or.inl (hw _ (List.mem_of_getElem? (i := 78) rfl))) Via.refl rfl (S_c3.ext f52_0.2) (g := (mkF m 106 #[.val (.int p1), .val (.int p2), .val (.int p3), .val (.int p4), .val (.int (p1 &&& (7 : Int32))), .val (.int ((p4 &&& (2147483647 : Int32)) % (6 : Int32))), .val (.ref b49), .val (.long (1 : Int64)), .second, .unset, .unset] [(.ref b49)])) rfl (hb hby at_106)
          refine own_byW (fun _ k => st69 _ k) ?_
          show own_FinW p e below s _ _ _ T69 (mkF m 109 #[.val (.int p1), .val (.int p2), .val (.int p3), .val (.int p4), .val (.int (p1 &&& (7 : Int32))), .val (.int ((p4 &&& (2147483647 : Int32)) % (6 : Int32))), .val (.ref b49), .val (.long (1 : Int64)), .second, .unset, .unset] [(.ref c3), (.ref b49)])
          obtain ⟨cq70, kq70, q70a, q70b, q70c⟩ := isOf hZ e69 f52_1
          obtain ⟨_, _, ⟨T70, L70, k70, n70⟩, -, X70, hSn70, hgr70, ⟨Lc70, hQ70, l70, y70, z70⟩, st70⟩ := X69.virtualBackS hx (y := (⟨"com/example/fading_filter/fadingfilter/model/Layout", "withCells", "(Lcom/example/fading_filter/fadingfilter/model/Cells;)Lcom/example/fading_filter/fadingfilter/model/Layout;"⟩ : MethodName)) (z := (⟨"com/example/fading_filter/fadingfilter/model/Layout", "withCells", "(Lcom/example/fading_filter/fadingfilter/model/Cells;)Lcom/example/fading_filter/fadingfilter/model/Layout;"⟩ : MethodName)) hown (mvT hZ (hw _ (List.mem_of_getElem? (i := 39) rfl))) (mvT hZ (hw _ (List.mem_of_getElem? (i := 40) rfl))) (notFace_of_selects (args := #[]) (mvT hZ (hw _ (List.mem_of_getElem? (i := 42) rfl)))) (mvT hZ (hw _ (List.mem_of_getElem? (i := 42) rfl))) (mvT hZ (hw _ (List.mem_of_getElem? (i := 41) rfl))) (by decide) (backOfS (W := 0) (rm6 l Z a0 hw [] b49 c3 ar51 pf p3 T51.heap n0 Zs51 Ga51 Gb51 Gc51 Ge51 (E_c3.ext f52_0.2)) hZ (hw _ (List.mem_of_getElem? (i := 43) rfl)) (hw _ (List.mem_of_getElem? (i := 3) rfl)) (by decide) (by decide)) q70a q70c (g := (mkF m 109 #[.val (.int p1), .val (.int p2), .val (.int p3), .val (.int p4), .val (.int (p1 &&& (7 : Int32))), .val (.int ((p4 &&& (2147483647 : Int32)) % (6 : Int32))), .val (.ref b49), .val (.long (1 : Int64)), .second, .unset, .unset] [(.ref c3), (.ref b49)])) rfl (by rw [hml]; rfl) (Steps.refl _) (argsL := [(.ref c3)]) (rest := []) (lenOf own_pd127 rfl) rfl (by show 2 * 0 + _ ≤ _; exact Nat.le_of_eq rfl) (hb hby at_109) (fun _ _ => ⟨rfl, e69, (by decide : 2 + 3 ≤ _), (by decide : 14 + 29 ≤ _)⟩)
          dsimp only [Pt.U, Pt.locs, Pt.cells, Pt.slots] at X70 l70 y70 z70 st70 hQ70 hSn70 hgr70
          subst l70 y70 z70
          obtain ⟨b70, rfl, Nq70, K70, Eb70, Fb70, Fc70⟩ := hQ70
          have N70 := Fr.app N51 Nq70
          have hS70 : s.Since T70.vm T70.heap.size := foldS (s := s) hS0 (by rw [e69]; exact hkE51) hSn70 hgr70
          have hZ70 : Z.Warmed39 (s.setVm T70.vm).vm := State.Warmed39.trans (t := s.setVm s.vm) hZ hSn70.1
          have hown70 : (s.setVm T70.vm).vm.findClass "com/example/fading_filter/fadingfilter/model/LayoutTotalBitsPinLaw" = some m.cls := by rw [show (s.setVm T70.vm).vm = T70.vm from rfl, hSn70.1.alike.findClass]; exact hown
          replace hZ := hZ70
          replace hown := hown70
          replace X70 : Stand p l e room_1 (s.setVm T70.vm) m #[(.int p1), (.int p2), (.int p3), (.int p4)] below meth c T70 _ _ _ := X70
          have hkE70 : T70.heap.size ≤ T70.heap.size := Nat.le_refl _
          refine own_byW (fun _ k => st70.trans k) ?_
          have Zs70 : n0 ≤ T70.heap.size := Nat.le_trans Zs51 K70.1
          have f71_0 : Old Z n0 T70.heap := f52_0.keep K70 all0
          have f71_1 : Exa Z T70.heap b49 "com/example/fading_filter/fadingfilter/model/Layout" := f52_1.keep K70
          have f71_2 : Fld Z T70.heap b49 "com/example/fading_filter/fadingfilter/model/Layout" "bits" "[I" (.ref ar51) := Ga51.keep K70 nin0
          have f71_3 : Fld Z T70.heap b49 "com/example/fading_filter/fadingfilter/model/Layout" "hashFunctions" "I" (.int p3) := Gb51.keep K70 nin0
          have f71_4 : Fld Z T70.heap b49 "com/example/fading_filter/fadingfilter/model/Layout" "period" "Ljava/time/Duration;" .null := Gc51.keep K70 nin0
          have f71_5 : Fld Z T70.heap b49 "com/example/fading_filter/fadingfilter/model/Layout" "cells" "Lcom/example/fading_filter/fadingfilter/model/Cells;" (.ref c0) := Gd51.keep K70 nin0
          have f71_6 : Fld Z T70.heap b49 "com/example/fading_filter/fadingfilter/model/Layout" "placement" "Lcom/example/fading_filter/fadingfilter/model/Placement;" (.ref pf) := Ge51.keep K70 nin0
          have f71_7 : Arv Z T70.heap ar51 k51 .int z (List.replicate N (.int p2)) (.int (0 : Int32)) := V51.keep K70 nin0
          show own_FinW p e below s _ _ _ T70 (mkF m 112 #[.val (.int p1), .val (.int p2), .val (.int p3), .val (.int p4), .val (.int (p1 &&& (7 : Int32))), .val (.int ((p4 &&& (2147483647 : Int32)) % (6 : Int32))), .val (.ref b49), .val (.long (1 : Int64)), .second, .unset, .unset] [(.ref b70)])
          refine own_byW (fun _ k => XS.astore X70.here hx rfl (hb hby at_112) rfl rfl (l' := #[.val (.int p1), .val (.int p2), .val (.int p3), .val (.int p4), .val (.int (p1 &&& (7 : Int32))), .val (.int ((p4 &&& (2147483647 : Int32)) % (6 : Int32))), .val (.ref b70), .val (.long (1 : Int64)), .second, .unset, .unset]) rfl k) ?_
          show own_FinW p e below s _ _ _ T70 (mkF m 114 #[.val (.int p1), .val (.int p2), .val (.int p3), .val (.int p4), .val (.int (p1 &&& (7 : Int32))), .val (.int ((p4 &&& (2147483647 : Int32)) % (6 : Int32))), .val (.ref b70), .val (.long (1 : Int64)), .second, .unset, .unset] [])
          refine own_byW (fun _ k => X70.ldc2Long hx hown (mvT hZ (hw _ (List.mem_of_getElem? (i := 80) rfl))) (g := (mkF m 114 #[.val (.int p1), .val (.int p2), .val (.int p3), .val (.int p4), .val (.int (p1 &&& (7 : Int32))), .val (.int ((p4 &&& (2147483647 : Int32)) % (6 : Int32))), .val (.ref b70), .val (.long (1 : Int64)), .second, .unset, .unset] [])) rfl (hb hby at_114) _ k) ?_
          show own_FinW p e below s _ _ _ T70 (mkF m 117 #[.val (.int p1), .val (.int p2), .val (.int p3), .val (.int p4), .val (.int (p1 &&& (7 : Int32))), .val (.int ((p4 &&& (2147483647 : Int32)) % (6 : Int32))), .val (.ref b70), .val (.long (1 : Int64)), .second, .unset, .unset] [(.long (8 : Int64))])
          refine own_byW (fun _ k => XS.lstore X70.here hx rfl (hb hby at_117) rfl (l' := #[.val (.int p1), .val (.int p2), .val (.int p3), .val (.int p4), .val (.int (p1 &&& (7 : Int32))), .val (.int ((p4 &&& (2147483647 : Int32)) % (6 : Int32))), .val (.ref b70), .val (.long (8 : Int64)), .second, .unset, .unset]) rfl (XS.goto X70.here hx rfl (pc0 := 119) (pc' := 143) rfl (hb hby at_119) (by decide) (by decide) (XS.iload X70.here hx rfl (hb hby at_143) rfl (XS.iconst X70.here hx rfl (hb hby at_145) (XS.iadd X70.here hx rfl (hb hby at_146) rfl k))))) ?_
          show own_FinW p e below s _ _ _ T70 (mkF m 147 #[.val (.int p1), .val (.int p2), .val (.int p3), .val (.int p4), .val (.int (p1 &&& (7 : Int32))), .val (.int ((p4 &&& (2147483647 : Int32)) % (6 : Int32))), .val (.ref b70), .val (.long (8 : Int64)), .second, .unset, .unset] [(.int ((p1 &&& (7 : Int32)) + (2 : Int32)))])
          rw [hz]
          show own_FinW p e below s _ _ _ T70 (mkF m 147 #[.val (.int p1), .val (.int p2), .val (.int p3), .val (.int p4), .val (.int (p1 &&& (7 : Int32))), .val (.int ((p4 &&& (2147483647 : Int32)) % (6 : Int32))), .val (.ref b70), .val (.long (8 : Int64)), .second, .unset, .unset] [(.int z)])
          refine own_byW (fun _ k => XS.i2l X70.here hx rfl (hb hby at_147) rfl (XS.iloadN X70.here hx rfl (hb hby at_148) rfl (XS.i2l X70.here hx rfl (hb hby at_149) rfl (XS.lmul X70.here hx rfl (hb hby at_150) rfl (XS.lload X70.here hx rfl (hb hby at_151) rfl (XS.lmul X70.here hx rfl (hb hby at_153) rfl (XS.lstore X70.here hx rfl (hb hby at_154) rfl (l' := #[.val (.int p1), .val (.int p2), .val (.int p3), .val (.int p4), .val (.int (p1 &&& (7 : Int32))), .val (.int ((p4 &&& (2147483647 : Int32)) % (6 : Int32))), .val (.ref b70), .val (.long (8 : Int64)), .second, .val (.long (((z.toInt64) * (p2.toInt64)) * (8 : Int64))), .second]) rfl (XS.aload X70.here hx rfl (hb hby at_156) rfl rfl k)))))))) ?_
          show own_FinW p e below s _ _ _ T70 (mkF m 158 #[.val (.int p1), .val (.int p2), .val (.int p3), .val (.int p4), .val (.int (p1 &&& (7 : Int32))), .val (.int ((p4 &&& (2147483647 : Int32)) % (6 : Int32))), .val (.ref b70), .val (.long (8 : Int64)), .second, .val (.long (((z.toInt64) * (p2.toInt64)) * (8 : Int64))), .second] [(.ref b70)])
          obtain ⟨cq72, kq72, q72a, q72b, q72c⟩ := isOf hZ rfl Eb70
          obtain ⟨_, _, ⟨T72, L72, k72, n72⟩, -, X72, ⟨Lc72, hQ72, l72, y72, z72⟩, st72⟩ := X70.virtualBack hx (y := (⟨"com/example/fading_filter/fadingfilter/model/Layout", "totalBits", "()J"⟩ : MethodName)) (z := (⟨"com/example/fading_filter/fadingfilter/model/Layout", "totalBits", "()J"⟩ : MethodName)) hown (mvT hZ (hw _ (List.mem_of_getElem? (i := 59) rfl))) (mvT hZ (hw _ (List.mem_of_getElem? (i := 60) rfl))) (notFace_of_selects (args := #[]) (mvT hZ (hw _ (List.mem_of_getElem? (i := 62) rfl)))) (mvT hZ (hw _ (List.mem_of_getElem? (i := 62) rfl))) (mvT hZ (hw _ (List.mem_of_getElem? (i := 61) rfl))) (by decide) (backOf (W := 0) (rm8 l Z a0 hw [] b70 ar51 c3 k51 p2 z (8 : Int32) N T70.heap n0 Zs70 Fb70 Fc70 (E_c3.ext f71_0.2) (F_c3.ext f71_0.2) f71_7 hzN h9) hZ (hw _ (List.mem_of_getElem? (i := 63) rfl)) (hw _ (List.mem_of_getElem? (i := 3) rfl)) (by decide) (by decide)) q72a q72c (g := (mkF m 158 #[.val (.int p1), .val (.int p2), .val (.int p3), .val (.int p4), .val (.int (p1 &&& (7 : Int32))), .val (.int ((p4 &&& (2147483647 : Int32)) % (6 : Int32))), .val (.ref b70), .val (.long (8 : Int64)), .second, .val (.long (((z.toInt64) * (p2.toInt64)) * (8 : Int64))), .second] [(.ref b70)])) rfl (by rw [hml]; rfl) (Steps.refl _) (argsL := []) (rest := []) (lenOf own_pd128 rfl) rfl (by show 2 * 0 + _ ≤ _; exact Nat.le_of_eq rfl) (hb hby at_158) (fun _ _ => ⟨rfl, rfl, (by decide : 5 + 0 ≤ _), (by decide : 43 + 0 ≤ _)⟩)
          dsimp only [Pt.U, Pt.locs, Pt.cells, Pt.slots] at X72 l72 y72 z72 st72 hQ72
          subst l72 y72 z72
          obtain ⟨rfl, Nq72, eh72⟩ := hQ72
          have N72 := Fr.app N70 Nq72
          refine own_byW (fun _ k => st72.trans k) ?_
          show own_FinW p e below s _ _ _ T72 (mkF m 161 #[.val (.int p1), .val (.int p2), .val (.int p3), .val (.int p4), .val (.int (p1 &&& (7 : Int32))), .val (.int ((p4 &&& (2147483647 : Int32)) % (6 : Int32))), .val (.ref b70), .val (.long (8 : Int64)), .second, .val (.long (((z.toInt64) * (p2.toInt64)) * (8 : Int64))), .second] [(.long (own_sum p2.toInt64 N * (8 : Int32).toInt64))])
          refine own_byW (fun _ k => XS.lload X72.here hx rfl (hb hby at_161) rfl (XS.lcmp X72.here hx rfl (hb hby at_163) rfl k)) ?_
          show own_FinW p e below s _ _ _ T72 (mkF m 164 #[.val (.int p1), .val (.int p2), .val (.int p3), .val (.int p4), .val (.int (p1 &&& (7 : Int32))), .val (.int ((p4 &&& (2147483647 : Int32)) % (6 : Int32))), .val (.ref b70), .val (.long (8 : Int64)), .second, .val (.long (((z.toInt64) * (p2.toInt64)) * (8 : Int64))), .second] [(.int (lcmpW (own_sum p2.toInt64 N * (8 : Int32).toInt64) (((z.toInt64) * (p2.toInt64)) * (8 : Int64))))])
          refine own_byW (fun _ k => XS.ifNo X72.here hx rfl (hb hby at_164) rfl ((if0 _ _).trans (teq (own_plain8 p2 hzN)).2) k) ?_
          show own_FinW p e below s _ _ _ T72 (mkF m 167 #[.val (.int p1), .val (.int p2), .val (.int p3), .val (.int p4), .val (.int (p1 &&& (7 : Int32))), .val (.int ((p4 &&& (2147483647 : Int32)) % (6 : Int32))), .val (.ref b70), .val (.long (8 : Int64)), .second, .val (.long (((z.toInt64) * (p2.toInt64)) * (8 : Int64))), .second] [])
          refine own_byW (fun _ k => XS.iconst X72.here hx rfl (hb hby at_167) (XS.goto X72.here hx rfl (pc0 := 168) (pc' := 172) rfl (hb hby at_168) (by decide) (by decide) k)) ?_
          show own_FinW p e below s _ _ _ T72 (mkF m 172 #[.val (.int p1), .val (.int p2), .val (.int p3), .val (.int p4), .val (.int (p1 &&& (7 : Int32))), .val (.int ((p4 &&& (2147483647 : Int32)) % (6 : Int32))), .val (.ref b70), .val (.long (8 : Int64)), .second, .val (.long (((z.toInt64) * (p2.toInt64)) * (8 : Int64))), .second] [(.int (1 : Int32))])
          exact own_retZW X72 hS70 (by rw [eh72]; exact hkE70) hx hlk (t := .boolean) Bd.returns (by simp) (hb hby at_172) ⟨rfl, N72⟩ (by decide) (by decide)
        · show own_FinW p e below s _ _ _ T51 (mkF m 101 #[.val (.int p1), .val (.int p2), .val (.int p3), .val (.int p4), .val (.int (p1 &&& (7 : Int32))), .val (.int ((p4 &&& (2147483647 : Int32)) % (6 : Int32))), .val (.ref b49), .val (.long (1 : Int64)), .second, .unset, .unset] [(.int (3 : Int32)), (.int ((p4 &&& (2147483647 : Int32)) % (6 : Int32)))])
          refine own_byW (fun _ k => XS.icmpYes X51.here hx rfl (pc0 := 101) (pc' := 122) rfl (hb hby at_101) rfl (feq hc101_68).2 (by decide) (by decide) k) ?_
          show own_FinW p e below s _ _ _ T51 (mkF m 122 #[.val (.int p1), .val (.int p2), .val (.int p3), .val (.int p4), .val (.int (p1 &&& (7 : Int32))), .val (.int ((p4 &&& (2147483647 : Int32)) % (6 : Int32))), .val (.ref b49), .val (.long (1 : Int64)), .second, .unset, .unset] [])
          refine own_byW (fun _ k => XS.iload X51.here hx rfl (hb hby at_122) rfl (XS.iconst X51.here hx rfl (hb hby at_124) k)) ?_
          show own_FinW p e below s _ _ _ T51 (mkF m 125 #[.val (.int p1), .val (.int p2), .val (.int p3), .val (.int p4), .val (.int (p1 &&& (7 : Int32))), .val (.int ((p4 &&& (2147483647 : Int32)) % (6 : Int32))), .val (.ref b49), .val (.long (1 : Int64)), .second, .unset, .unset] [(.int (4 : Int32)), (.int ((p4 &&& (2147483647 : Int32)) % (6 : Int32)))])
          by_cases hc125_73 : ((p4 &&& (2147483647 : Int32)) % (6 : Int32)) = (4 : Int32)
          · show own_FinW p e below s _ _ _ T51 (mkF m 125 #[.val (.int p1), .val (.int p2), .val (.int p3), .val (.int p4), .val (.int (p1 &&& (7 : Int32))), .val (.int ((p4 &&& (2147483647 : Int32)) % (6 : Int32))), .val (.ref b49), .val (.long (1 : Int64)), .second, .unset, .unset] [(.int (4 : Int32)), (.int ((p4 &&& (2147483647 : Int32)) % (6 : Int32)))])
            refine own_byW (fun _ k => XS.icmpNo X51.here hx rfl (hb hby at_125) rfl (teq hc125_73).2 k) ?_
            show own_FinW p e below s _ _ _ T51 (mkF m 128 #[.val (.int p1), .val (.int p2), .val (.int p3), .val (.int p4), .val (.int (p1 &&& (7 : Int32))), .val (.int ((p4 &&& (2147483647 : Int32)) % (6 : Int32))), .val (.ref b49), .val (.long (1 : Int64)), .second, .unset, .unset] [])
            refine own_byW (fun _ k => XS.aload X51.here hx rfl (hb hby at_128) rfl rfl k) ?_
            show own_FinW p e below s _ _ _ T51 (mkF m 130 #[.val (.int p1), .val (.int p2), .val (.int p3), .val (.int p4), .val (.int (p1 &&& (7 : Int32))), .val (.int ((p4 &&& (2147483647 : Int32)) % (6 : Int32))), .val (.ref b49), .val (.long (1 : Int64)), .second, .unset, .unset] [(.ref b49)])
            obtain ⟨T74, X74, e74, st74⟩ := getS2 X51 hx hZ hown (host := "") (Or.inl (hw _ (List.mem_of_getElem? (i := 71) rfl))) Via.refl rfl (S_c4.ext f52_0.2) (g := (mkF m 130 #[.val (.int p1), .val (.int p2), .val (.int p3), .val (.int p4), .val (.int (p1 &&& (7 : Int32))), .val (.int ((p4 &&& (2147483647 : Int32)) % (6 : Int32))), .val (.ref b49), .val (.long (1 : Int64)), .second, .unset, .unset] [(.ref b49)])) rfl (hb hby at_130)
            refine own_byW (fun _ k => st74 _ k) ?_
            show own_FinW p e below s _ _ _ T74 (mkF m 133 #[.val (.int p1), .val (.int p2), .val (.int p3), .val (.int p4), .val (.int (p1 &&& (7 : Int32))), .val (.int ((p4 &&& (2147483647 : Int32)) % (6 : Int32))), .val (.ref b49), .val (.long (1 : Int64)), .second, .unset, .unset] [(.ref c4), (.ref b49)])
            obtain ⟨cq75, kq75, q75a, q75b, q75c⟩ := isOf hZ e74 f52_1
            obtain ⟨_, _, ⟨T75, L75, k75, n75⟩, -, X75, hSn75, hgr75, ⟨Lc75, hQ75, l75, y75, z75⟩, st75⟩ := X74.virtualBackS hx (y := (⟨"com/example/fading_filter/fadingfilter/model/Layout", "withCells", "(Lcom/example/fading_filter/fadingfilter/model/Cells;)Lcom/example/fading_filter/fadingfilter/model/Layout;"⟩ : MethodName)) (z := (⟨"com/example/fading_filter/fadingfilter/model/Layout", "withCells", "(Lcom/example/fading_filter/fadingfilter/model/Cells;)Lcom/example/fading_filter/fadingfilter/model/Layout;"⟩ : MethodName)) hown (mvT hZ (hw _ (List.mem_of_getElem? (i := 39) rfl))) (mvT hZ (hw _ (List.mem_of_getElem? (i := 40) rfl))) (notFace_of_selects (args := #[]) (mvT hZ (hw _ (List.mem_of_getElem? (i := 42) rfl)))) (mvT hZ (hw _ (List.mem_of_getElem? (i := 42) rfl))) (mvT hZ (hw _ (List.mem_of_getElem? (i := 41) rfl))) (by decide) (backOfS (W := 0) (rm6 l Z a0 hw [] b49 c4 ar51 pf p3 T51.heap n0 Zs51 Ga51 Gb51 Gc51 Ge51 (E_c4.ext f52_0.2)) hZ (hw _ (List.mem_of_getElem? (i := 43) rfl)) (hw _ (List.mem_of_getElem? (i := 3) rfl)) (by decide) (by decide)) q75a q75c (g := (mkF m 133 #[.val (.int p1), .val (.int p2), .val (.int p3), .val (.int p4), .val (.int (p1 &&& (7 : Int32))), .val (.int ((p4 &&& (2147483647 : Int32)) % (6 : Int32))), .val (.ref b49), .val (.long (1 : Int64)), .second, .unset, .unset] [(.ref c4), (.ref b49)])) rfl (by rw [hml]; rfl) (Steps.refl _) (argsL := [(.ref c4)]) (rest := []) (lenOf own_pd127 rfl) rfl (by show 2 * 0 + _ ≤ _; exact Nat.le_of_eq rfl) (hb hby at_133) (fun _ _ => ⟨rfl, e74, (by decide : 2 + 3 ≤ _), (by decide : 14 + 29 ≤ _)⟩)
            dsimp only [Pt.U, Pt.locs, Pt.cells, Pt.slots] at X75 l75 y75 z75 st75 hQ75 hSn75 hgr75
            subst l75 y75 z75
            obtain ⟨b75, rfl, Nq75, K75, Eb75, Fb75, Fc75⟩ := hQ75
            have N75 := Fr.app N51 Nq75
            have hS75 : s.Since T75.vm T75.heap.size := foldS (s := s) hS0 (by rw [e74]; exact hkE51) hSn75 hgr75
            have hZ75 : Z.Warmed39 (s.setVm T75.vm).vm := State.Warmed39.trans (t := s.setVm s.vm) hZ hSn75.1
            have hown75 : (s.setVm T75.vm).vm.findClass "com/example/fading_filter/fadingfilter/model/LayoutTotalBitsPinLaw" = some m.cls := by rw [show (s.setVm T75.vm).vm = T75.vm from rfl, hSn75.1.alike.findClass]; exact hown
            replace hZ := hZ75
            replace hown := hown75
            replace X75 : Stand p l e room_1 (s.setVm T75.vm) m #[(.int p1), (.int p2), (.int p3), (.int p4)] below meth c T75 _ _ _ := X75
            have hkE75 : T75.heap.size ≤ T75.heap.size := Nat.le_refl _
            refine own_byW (fun _ k => st75.trans k) ?_
            have Zs75 : n0 ≤ T75.heap.size := Nat.le_trans Zs51 K75.1
            have f76_0 : Old Z n0 T75.heap := f52_0.keep K75 all0
            have f76_1 : Exa Z T75.heap b49 "com/example/fading_filter/fadingfilter/model/Layout" := f52_1.keep K75
            have f76_2 : Fld Z T75.heap b49 "com/example/fading_filter/fadingfilter/model/Layout" "bits" "[I" (.ref ar51) := Ga51.keep K75 nin0
            have f76_3 : Fld Z T75.heap b49 "com/example/fading_filter/fadingfilter/model/Layout" "hashFunctions" "I" (.int p3) := Gb51.keep K75 nin0
            have f76_4 : Fld Z T75.heap b49 "com/example/fading_filter/fadingfilter/model/Layout" "period" "Ljava/time/Duration;" .null := Gc51.keep K75 nin0
            have f76_5 : Fld Z T75.heap b49 "com/example/fading_filter/fadingfilter/model/Layout" "cells" "Lcom/example/fading_filter/fadingfilter/model/Cells;" (.ref c0) := Gd51.keep K75 nin0
            have f76_6 : Fld Z T75.heap b49 "com/example/fading_filter/fadingfilter/model/Layout" "placement" "Lcom/example/fading_filter/fadingfilter/model/Placement;" (.ref pf) := Ge51.keep K75 nin0
            have f76_7 : Arv Z T75.heap ar51 k51 .int z (List.replicate N (.int p2)) (.int (0 : Int32)) := V51.keep K75 nin0
            show own_FinW p e below s _ _ _ T75 (mkF m 136 #[.val (.int p1), .val (.int p2), .val (.int p3), .val (.int p4), .val (.int (p1 &&& (7 : Int32))), .val (.int ((p4 &&& (2147483647 : Int32)) % (6 : Int32))), .val (.ref b49), .val (.long (1 : Int64)), .second, .unset, .unset] [(.ref b75)])
            refine own_byW (fun _ k => XS.astore X75.here hx rfl (hb hby at_136) rfl rfl (l' := #[.val (.int p1), .val (.int p2), .val (.int p3), .val (.int p4), .val (.int (p1 &&& (7 : Int32))), .val (.int ((p4 &&& (2147483647 : Int32)) % (6 : Int32))), .val (.ref b75), .val (.long (1 : Int64)), .second, .unset, .unset]) rfl k) ?_
            show own_FinW p e below s _ _ _ T75 (mkF m 138 #[.val (.int p1), .val (.int p2), .val (.int p3), .val (.int p4), .val (.int (p1 &&& (7 : Int32))), .val (.int ((p4 &&& (2147483647 : Int32)) % (6 : Int32))), .val (.ref b75), .val (.long (1 : Int64)), .second, .unset, .unset] [])
            refine own_byW (fun _ k => X75.ldc2Long hx hown (mvT hZ (hw _ (List.mem_of_getElem? (i := 73) rfl))) (g := (mkF m 138 #[.val (.int p1), .val (.int p2), .val (.int p3), .val (.int p4), .val (.int (p1 &&& (7 : Int32))), .val (.int ((p4 &&& (2147483647 : Int32)) % (6 : Int32))), .val (.ref b75), .val (.long (1 : Int64)), .second, .unset, .unset] [])) rfl (hb hby at_138) _ k) ?_
            show own_FinW p e below s _ _ _ T75 (mkF m 141 #[.val (.int p1), .val (.int p2), .val (.int p3), .val (.int p4), .val (.int (p1 &&& (7 : Int32))), .val (.int ((p4 &&& (2147483647 : Int32)) % (6 : Int32))), .val (.ref b75), .val (.long (1 : Int64)), .second, .unset, .unset] [(.long (4 : Int64))])
            refine own_byW (fun _ k => XS.lstore X75.here hx rfl (hb hby at_141) rfl (l' := #[.val (.int p1), .val (.int p2), .val (.int p3), .val (.int p4), .val (.int (p1 &&& (7 : Int32))), .val (.int ((p4 &&& (2147483647 : Int32)) % (6 : Int32))), .val (.ref b75), .val (.long (4 : Int64)), .second, .unset, .unset]) rfl (XS.iload X75.here hx rfl (hb hby at_143) rfl (XS.iconst X75.here hx rfl (hb hby at_145) (XS.iadd X75.here hx rfl (hb hby at_146) rfl k)))) ?_
            show own_FinW p e below s _ _ _ T75 (mkF m 147 #[.val (.int p1), .val (.int p2), .val (.int p3), .val (.int p4), .val (.int (p1 &&& (7 : Int32))), .val (.int ((p4 &&& (2147483647 : Int32)) % (6 : Int32))), .val (.ref b75), .val (.long (4 : Int64)), .second, .unset, .unset] [(.int ((p1 &&& (7 : Int32)) + (2 : Int32)))])
            rw [hz]
            show own_FinW p e below s _ _ _ T75 (mkF m 147 #[.val (.int p1), .val (.int p2), .val (.int p3), .val (.int p4), .val (.int (p1 &&& (7 : Int32))), .val (.int ((p4 &&& (2147483647 : Int32)) % (6 : Int32))), .val (.ref b75), .val (.long (4 : Int64)), .second, .unset, .unset] [(.int z)])
            refine own_byW (fun _ k => XS.i2l X75.here hx rfl (hb hby at_147) rfl (XS.iloadN X75.here hx rfl (hb hby at_148) rfl (XS.i2l X75.here hx rfl (hb hby at_149) rfl (XS.lmul X75.here hx rfl (hb hby at_150) rfl (XS.lload X75.here hx rfl (hb hby at_151) rfl (XS.lmul X75.here hx rfl (hb hby at_153) rfl (XS.lstore X75.here hx rfl (hb hby at_154) rfl (l' := #[.val (.int p1), .val (.int p2), .val (.int p3), .val (.int p4), .val (.int (p1 &&& (7 : Int32))), .val (.int ((p4 &&& (2147483647 : Int32)) % (6 : Int32))), .val (.ref b75), .val (.long (4 : Int64)), .second, .val (.long (((z.toInt64) * (p2.toInt64)) * (4 : Int64))), .second]) rfl (XS.aload X75.here hx rfl (hb hby at_156) rfl rfl k)))))))) ?_
            show own_FinW p e below s _ _ _ T75 (mkF m 158 #[.val (.int p1), .val (.int p2), .val (.int p3), .val (.int p4), .val (.int (p1 &&& (7 : Int32))), .val (.int ((p4 &&& (2147483647 : Int32)) % (6 : Int32))), .val (.ref b75), .val (.long (4 : Int64)), .second, .val (.long (((z.toInt64) * (p2.toInt64)) * (4 : Int64))), .second] [(.ref b75)])
            obtain ⟨cq77, kq77, q77a, q77b, q77c⟩ := isOf hZ rfl Eb75
            obtain ⟨_, _, ⟨T77, L77, k77, n77⟩, -, X77, ⟨Lc77, hQ77, l77, y77, z77⟩, st77⟩ := X75.virtualBack hx (y := (⟨"com/example/fading_filter/fadingfilter/model/Layout", "totalBits", "()J"⟩ : MethodName)) (z := (⟨"com/example/fading_filter/fadingfilter/model/Layout", "totalBits", "()J"⟩ : MethodName)) hown (mvT hZ (hw _ (List.mem_of_getElem? (i := 59) rfl))) (mvT hZ (hw _ (List.mem_of_getElem? (i := 60) rfl))) (notFace_of_selects (args := #[]) (mvT hZ (hw _ (List.mem_of_getElem? (i := 62) rfl)))) (mvT hZ (hw _ (List.mem_of_getElem? (i := 62) rfl))) (mvT hZ (hw _ (List.mem_of_getElem? (i := 61) rfl))) (by decide) (backOf (W := 0) (rm8 l Z a0 hw [] b75 ar51 c4 k51 p2 z (4 : Int32) N T75.heap n0 Zs75 Fb75 Fc75 (E_c4.ext f76_0.2) (F_c4.ext f76_0.2) f76_7 hzN h9) hZ (hw _ (List.mem_of_getElem? (i := 63) rfl)) (hw _ (List.mem_of_getElem? (i := 3) rfl)) (by decide) (by decide)) q77a q77c (g := (mkF m 158 #[.val (.int p1), .val (.int p2), .val (.int p3), .val (.int p4), .val (.int (p1 &&& (7 : Int32))), .val (.int ((p4 &&& (2147483647 : Int32)) % (6 : Int32))), .val (.ref b75), .val (.long (4 : Int64)), .second, .val (.long (((z.toInt64) * (p2.toInt64)) * (4 : Int64))), .second] [(.ref b75)])) rfl (by rw [hml]; rfl) (Steps.refl _) (argsL := []) (rest := []) (lenOf own_pd128 rfl) rfl (by show 2 * 0 + _ ≤ _; exact Nat.le_of_eq rfl) (hb hby at_158) (fun _ _ => ⟨rfl, rfl, (by decide : 5 + 0 ≤ _), (by decide : 43 + 0 ≤ _)⟩)
            dsimp only [Pt.U, Pt.locs, Pt.cells, Pt.slots] at X77 l77 y77 z77 st77 hQ77
            subst l77 y77 z77
            obtain ⟨rfl, Nq77, eh77⟩ := hQ77
            have N77 := Fr.app N75 Nq77
            refine own_byW (fun _ k => st77.trans k) ?_
            show own_FinW p e below s _ _ _ T77 (mkF m 161 #[.val (.int p1), .val (.int p2), .val (.int p3), .val (.int p4), .val (.int (p1 &&& (7 : Int32))), .val (.int ((p4 &&& (2147483647 : Int32)) % (6 : Int32))), .val (.ref b75), .val (.long (4 : Int64)), .second, .val (.long (((z.toInt64) * (p2.toInt64)) * (4 : Int64))), .second] [(.long (own_sum p2.toInt64 N * (4 : Int32).toInt64))])
            refine own_byW (fun _ k => XS.lload X77.here hx rfl (hb hby at_161) rfl (XS.lcmp X77.here hx rfl (hb hby at_163) rfl k)) ?_
            show own_FinW p e below s _ _ _ T77 (mkF m 164 #[.val (.int p1), .val (.int p2), .val (.int p3), .val (.int p4), .val (.int (p1 &&& (7 : Int32))), .val (.int ((p4 &&& (2147483647 : Int32)) % (6 : Int32))), .val (.ref b75), .val (.long (4 : Int64)), .second, .val (.long (((z.toInt64) * (p2.toInt64)) * (4 : Int64))), .second] [(.int (lcmpW (own_sum p2.toInt64 N * (4 : Int32).toInt64) (((z.toInt64) * (p2.toInt64)) * (4 : Int64))))])
            refine own_byW (fun _ k => XS.ifNo X77.here hx rfl (hb hby at_164) rfl ((if0 _ _).trans (teq (own_plain4 p2 hzN)).2) k) ?_
            show own_FinW p e below s _ _ _ T77 (mkF m 167 #[.val (.int p1), .val (.int p2), .val (.int p3), .val (.int p4), .val (.int (p1 &&& (7 : Int32))), .val (.int ((p4 &&& (2147483647 : Int32)) % (6 : Int32))), .val (.ref b75), .val (.long (4 : Int64)), .second, .val (.long (((z.toInt64) * (p2.toInt64)) * (4 : Int64))), .second] [])
            refine own_byW (fun _ k => XS.iconst X77.here hx rfl (hb hby at_167) (XS.goto X77.here hx rfl (pc0 := 168) (pc' := 172) rfl (hb hby at_168) (by decide) (by decide) k)) ?_
            show own_FinW p e below s _ _ _ T77 (mkF m 172 #[.val (.int p1), .val (.int p2), .val (.int p3), .val (.int p4), .val (.int (p1 &&& (7 : Int32))), .val (.int ((p4 &&& (2147483647 : Int32)) % (6 : Int32))), .val (.ref b75), .val (.long (4 : Int64)), .second, .val (.long (((z.toInt64) * (p2.toInt64)) * (4 : Int64))), .second] [(.int (1 : Int32))])
            exact own_retZW X77 hS75 (by rw [eh77]; exact hkE75) hx hlk (t := .boolean) Bd.returns (by simp) (hb hby at_172) ⟨rfl, N77⟩ (by decide) (by decide)
          · show own_FinW p e below s _ _ _ T51 (mkF m 125 #[.val (.int p1), .val (.int p2), .val (.int p3), .val (.int p4), .val (.int (p1 &&& (7 : Int32))), .val (.int ((p4 &&& (2147483647 : Int32)) % (6 : Int32))), .val (.ref b49), .val (.long (1 : Int64)), .second, .unset, .unset] [(.int (4 : Int32)), (.int ((p4 &&& (2147483647 : Int32)) % (6 : Int32)))])
            refine own_byW (fun _ k => XS.icmpYes X51.here hx rfl (pc0 := 125) (pc' := 143) rfl (hb hby at_125) rfl (feq hc125_73).2 (by decide) (by decide) k) ?_
            show own_FinW p e below s _ _ _ T51 (mkF m 143 #[.val (.int p1), .val (.int p2), .val (.int p3), .val (.int p4), .val (.int (p1 &&& (7 : Int32))), .val (.int ((p4 &&& (2147483647 : Int32)) % (6 : Int32))), .val (.ref b49), .val (.long (1 : Int64)), .second, .unset, .unset] [])
            refine own_byW (fun _ k => XS.iload X51.here hx rfl (hb hby at_143) rfl (XS.iconst X51.here hx rfl (hb hby at_145) (XS.iadd X51.here hx rfl (hb hby at_146) rfl k))) ?_
            show own_FinW p e below s _ _ _ T51 (mkF m 147 #[.val (.int p1), .val (.int p2), .val (.int p3), .val (.int p4), .val (.int (p1 &&& (7 : Int32))), .val (.int ((p4 &&& (2147483647 : Int32)) % (6 : Int32))), .val (.ref b49), .val (.long (1 : Int64)), .second, .unset, .unset] [(.int ((p1 &&& (7 : Int32)) + (2 : Int32)))])
            rw [hz]
            show own_FinW p e below s _ _ _ T51 (mkF m 147 #[.val (.int p1), .val (.int p2), .val (.int p3), .val (.int p4), .val (.int (p1 &&& (7 : Int32))), .val (.int ((p4 &&& (2147483647 : Int32)) % (6 : Int32))), .val (.ref b49), .val (.long (1 : Int64)), .second, .unset, .unset] [(.int z)])
            refine own_byW (fun _ k => XS.i2l X51.here hx rfl (hb hby at_147) rfl (XS.iloadN X51.here hx rfl (hb hby at_148) rfl (XS.i2l X51.here hx rfl (hb hby at_149) rfl (XS.lmul X51.here hx rfl (hb hby at_150) rfl (XS.lload X51.here hx rfl (hb hby at_151) rfl (XS.lmul X51.here hx rfl (hb hby at_153) rfl (XS.lstore X51.here hx rfl (hb hby at_154) rfl (l' := #[.val (.int p1), .val (.int p2), .val (.int p3), .val (.int p4), .val (.int (p1 &&& (7 : Int32))), .val (.int ((p4 &&& (2147483647 : Int32)) % (6 : Int32))), .val (.ref b49), .val (.long (1 : Int64)), .second, .val (.long (((z.toInt64) * (p2.toInt64)) * (1 : Int64))), .second]) rfl (XS.aload X51.here hx rfl (hb hby at_156) rfl rfl k)))))))) ?_
            show own_FinW p e below s _ _ _ T51 (mkF m 158 #[.val (.int p1), .val (.int p2), .val (.int p3), .val (.int p4), .val (.int (p1 &&& (7 : Int32))), .val (.int ((p4 &&& (2147483647 : Int32)) % (6 : Int32))), .val (.ref b49), .val (.long (1 : Int64)), .second, .val (.long (((z.toInt64) * (p2.toInt64)) * (1 : Int64))), .second] [(.ref b49)])
            obtain ⟨cq78, kq78, q78a, q78b, q78c⟩ := isOf hZ rfl f52_1
            obtain ⟨_, _, ⟨T78, L78, k78, n78⟩, -, X78, ⟨Lc78, hQ78, l78, y78, z78⟩, st78⟩ := X51.virtualBack hx (y := (⟨"com/example/fading_filter/fadingfilter/model/Layout", "totalBits", "()J"⟩ : MethodName)) (z := (⟨"com/example/fading_filter/fadingfilter/model/Layout", "totalBits", "()J"⟩ : MethodName)) hown (mvT hZ (hw _ (List.mem_of_getElem? (i := 59) rfl))) (mvT hZ (hw _ (List.mem_of_getElem? (i := 60) rfl))) (notFace_of_selects (args := #[]) (mvT hZ (hw _ (List.mem_of_getElem? (i := 62) rfl)))) (mvT hZ (hw _ (List.mem_of_getElem? (i := 62) rfl))) (mvT hZ (hw _ (List.mem_of_getElem? (i := 61) rfl))) (by decide) (backOf (W := 0) (rm8 l Z a0 hw [] b49 ar51 c0 k51 p2 z (1 : Int32) N T51.heap n0 Zs51 Ga51 Gd51 (E_c0.ext f52_0.2) (F_c0.ext f52_0.2) V51 hzN h9) hZ (hw _ (List.mem_of_getElem? (i := 63) rfl)) (hw _ (List.mem_of_getElem? (i := 3) rfl)) (by decide) (by decide)) q78a q78c (g := (mkF m 158 #[.val (.int p1), .val (.int p2), .val (.int p3), .val (.int p4), .val (.int (p1 &&& (7 : Int32))), .val (.int ((p4 &&& (2147483647 : Int32)) % (6 : Int32))), .val (.ref b49), .val (.long (1 : Int64)), .second, .val (.long (((z.toInt64) * (p2.toInt64)) * (1 : Int64))), .second] [(.ref b49)])) rfl (by rw [hml]; rfl) (Steps.refl _) (argsL := []) (rest := []) (lenOf own_pd128 rfl) rfl (by show 2 * 0 + _ ≤ _; exact Nat.le_of_eq rfl) (hb hby at_158) (fun _ _ => ⟨rfl, rfl, (by decide : 2 + 0 ≤ _), (by decide : 14 + 0 ≤ _)⟩)
            dsimp only [Pt.U, Pt.locs, Pt.cells, Pt.slots] at X78 l78 y78 z78 st78 hQ78
            subst l78 y78 z78
            obtain ⟨rfl, Nq78, eh78⟩ := hQ78
            have N78 := Fr.app N51 Nq78
            refine own_byW (fun _ k => st78.trans k) ?_
            show own_FinW p e below s _ _ _ T78 (mkF m 161 #[.val (.int p1), .val (.int p2), .val (.int p3), .val (.int p4), .val (.int (p1 &&& (7 : Int32))), .val (.int ((p4 &&& (2147483647 : Int32)) % (6 : Int32))), .val (.ref b49), .val (.long (1 : Int64)), .second, .val (.long (((z.toInt64) * (p2.toInt64)) * (1 : Int64))), .second] [(.long (own_sum p2.toInt64 N * (1 : Int32).toInt64))])
            refine own_byW (fun _ k => XS.lload X78.here hx rfl (hb hby at_161) rfl (XS.lcmp X78.here hx rfl (hb hby at_163) rfl k)) ?_
            show own_FinW p e below s _ _ _ T78 (mkF m 164 #[.val (.int p1), .val (.int p2), .val (.int p3), .val (.int p4), .val (.int (p1 &&& (7 : Int32))), .val (.int ((p4 &&& (2147483647 : Int32)) % (6 : Int32))), .val (.ref b49), .val (.long (1 : Int64)), .second, .val (.long (((z.toInt64) * (p2.toInt64)) * (1 : Int64))), .second] [(.int (lcmpW (own_sum p2.toInt64 N * (1 : Int32).toInt64) (((z.toInt64) * (p2.toInt64)) * (1 : Int64))))])
            refine own_byW (fun _ k => XS.ifNo X78.here hx rfl (hb hby at_164) rfl ((if0 _ _).trans (teq (own_plain1 p2 hzN)).2) k) ?_
            show own_FinW p e below s _ _ _ T78 (mkF m 167 #[.val (.int p1), .val (.int p2), .val (.int p3), .val (.int p4), .val (.int (p1 &&& (7 : Int32))), .val (.int ((p4 &&& (2147483647 : Int32)) % (6 : Int32))), .val (.ref b49), .val (.long (1 : Int64)), .second, .val (.long (((z.toInt64) * (p2.toInt64)) * (1 : Int64))), .second] [])
            refine own_byW (fun _ k => XS.iconst X78.here hx rfl (hb hby at_167) (XS.goto X78.here hx rfl (pc0 := 168) (pc' := 172) rfl (hb hby at_168) (by decide) (by decide) k)) ?_
            show own_FinW p e below s _ _ _ T78 (mkF m 172 #[.val (.int p1), .val (.int p2), .val (.int p3), .val (.int p4), .val (.int (p1 &&& (7 : Int32))), .val (.int ((p4 &&& (2147483647 : Int32)) % (6 : Int32))), .val (.ref b49), .val (.long (1 : Int64)), .second, .val (.long (((z.toInt64) * (p2.toInt64)) * (1 : Int64))), .second] [(.int (1 : Int32))])
            exact own_retZW X78 hS0 (by rw [eh78]; exact hkE51) hx hlk (t := .boolean) Bd.returns (by simp) (hb hby at_172) ⟨rfl, N78⟩ (by decide) (by decide)
set_option maxRecDepth 65536 in
set_option maxHeartbeats 40000000 in
theorem comes_1 {Post : Tables → Env → Array Value → State → Outcome → State → Prop} (hpost : ∀ tb e args s v u, (limb_1_1.after args s (.returned v) u = true ∧ limb_1_2.after args s (.returned v) u = true ∧ True) → ReturnedEndW s (.returned v) u (Jvm.fieldLocs frame_1_writes args s ++ Jvm.arrayLocs frame_1_arrays args s ++ Jvm.staticLocs frame_1_statics s) 16 1152 → Post tb e args s (.returned v) u) :
    ArmFor flags0 classFile x code maxLocals ret World_1 tables_1 room_1 Calls_1 rest_1 Pre_1 Post := by
  intro l hfl _ _ p e ha hc hk s m args below hf hA hF happ hP
  obtain ⟨hcalls, hrest, hpre⟩ := hP
  obtain ⟨-, -, -, hnamed, -, -, -, hat⟩ := (Spec.applies_iff hf).mp happ
  obtain ⟨hg, hn⟩ := and_e (Cond.before_iff.mp (show (Jvm.Cond.and given_1 narrow_1).before args s = true from hpre))
  obtain ⟨gc, gr0⟩ := and_e hg
  obtain ⟨ga0, gr1⟩ := and_e gr0
  obtain ⟨ga1, gr2⟩ := and_e gr1
  obtain ⟨ga2, gr3⟩ := and_e gr2
  obtain ⟨w0, w1, w2, w3, rfl⟩ : ∃ w0 w1 w2 w3 : Value, args = #[w0, w1, w2, w3] := by
    have hs : args.size = 4 := by simpa [Cond.value, given_1] using gc
    obtain ⟨L⟩ := args
    match L, hs with
    | [w0, w1, w2, w3], _ => exact ⟨w0, w1, w2, w3, rfl⟩
  have hw := fun d (hd : d ∈ tables_1) => atoms_spec (ws := Jvm.Cond.code x code maxLocals ret :: tables_1) hat d (List.mem_cons_of_mem _ hd)
  have hfit : Fit s := fun {y c} hc i hi => by
    obtain ⟨ha, rfl⟩ := Array.getElem?_eq_some_iff.mp hc
    have q := List.all_eq_true.mp ((Array.all_eq_true_iff_forall_mem.mp hF) _ (Array.getElem_mem ha)) i (List.mem_range.mpr hi)
    simpa [Array.getElem?_eq_getElem hi] using q
  obtain ⟨i0, ei0⟩ := is_v ga0
  obtain rfl : w0 = (.int i0) := Option.some.inj ei0
  obtain ⟨i1, ei1⟩ := is_v ga1
  obtain rfl : w1 = (.int i1) := Option.some.inj ei1
  obtain ⟨i2, ei2⟩ := is_v ga2
  obtain rfl : w2 = (.int i2) := Option.some.inj ei2
  obtain ⟨i3, ei3⟩ := is_v gr3
  obtain rfl : w3 = (.int i3) := Option.some.inj ei3
  obtain ⟨x0, r0⟩ := and_e hn
  obtain ⟨xp, r1⟩ := and_e r0
  obtain ⟨x1, r2⟩ := and_e r1
  obtain ⟨f1, r3⟩ := and_e r2
  obtain ⟨x4, r4⟩ := and_e r3
  obtain ⟨f4, r5⟩ := and_e r4
  obtain ⟨x2, r6⟩ := and_e r5
  obtain ⟨f2, r7⟩ := and_e r6
  obtain ⟨f0, r8⟩ := and_e r7
  obtain ⟨x3, f3⟩ := and_e r8
  obtain ⟨c0, e0⟩ := exa_v x0
  have sc0 : Sta s s.heap "com/example/fading_filter/fadingfilter/model/Cells" "BITS" "Lcom/example/fading_filter/fadingfilter/model/Cells;" (.ref c0) := Sta.start e0 (Or.inr ⟨(hw _ (List.mem_of_getElem? (i := 16) rfl)), (hw _ (List.mem_of_getElem? (i := 17) rfl))⟩)
  have xc0 := Exa.start e0 x0
  have fc0 : Fld s s.heap c0 "com/example/fading_filter/fadingfilter/model/Cells" "bitsPerCell" "I" (.int (1 : Int32)) := Fld.start ((fld_at e0).symm.trans (eqv_i (Term.int_eval (1)) f0))
  obtain ⟨c1, e1⟩ := exa_v x1
  have sc1 : Sta s s.heap "com/example/fading_filter/fadingfilter/model/Cells" "BLOCKED_BITS" "Lcom/example/fading_filter/fadingfilter/model/Cells;" (.ref c1) := Sta.start e1 (Or.inr ⟨(hw _ (List.mem_of_getElem? (i := 16) rfl)), (hw _ (List.mem_of_getElem? (i := 38) rfl))⟩)
  have xc1 := Exa.start e1 x1
  have fc1 : Fld s s.heap c1 "com/example/fading_filter/fadingfilter/model/Cells" "bitsPerCell" "I" (.int (1 : Int32)) := Fld.start ((fld_at e1).symm.trans (eqv_i (Term.int_eval (1)) f1))
  obtain ⟨c2, e2⟩ := exa_v x2
  have sc2 : Sta s s.heap "com/example/fading_filter/fadingfilter/model/Cells" "GAUSSIAN_64" "Lcom/example/fading_filter/fadingfilter/model/Cells;" (.ref c2) := Sta.start e2 (Or.inr ⟨(hw _ (List.mem_of_getElem? (i := 16) rfl)), (hw _ (List.mem_of_getElem? (i := 75) rfl))⟩)
  have xc2 := Exa.start e2 x2
  have fc2 : Fld s s.heap c2 "com/example/fading_filter/fadingfilter/model/Cells" "bitsPerCell" "I" (.int (64 : Int32)) := Fld.start ((fld_at e2).symm.trans (eqv_i (Term.int_eval (64)) f2))
  obtain ⟨c3, e3⟩ := exa_v x3
  have sc3 : Sta s s.heap "com/example/fading_filter/fadingfilter/model/Cells" "GAUSSIAN_8" "Lcom/example/fading_filter/fadingfilter/model/Cells;" (.ref c3) := Sta.start e3 (Or.inr ⟨(hw _ (List.mem_of_getElem? (i := 16) rfl)), (hw _ (List.mem_of_getElem? (i := 79) rfl))⟩)
  have xc3 := Exa.start e3 x3
  have fc3 : Fld s s.heap c3 "com/example/fading_filter/fadingfilter/model/Cells" "bitsPerCell" "I" (.int (8 : Int32)) := Fld.start ((fld_at e3).symm.trans (eqv_i (Term.int_eval (8)) f3))
  obtain ⟨c4, e4⟩ := exa_v x4
  have sc4 : Sta s s.heap "com/example/fading_filter/fadingfilter/model/Cells" "GAUSSIAN_4" "Lcom/example/fading_filter/fadingfilter/model/Cells;" (.ref c4) := Sta.start e4 (Or.inr ⟨(hw _ (List.mem_of_getElem? (i := 16) rfl)), (hw _ (List.mem_of_getElem? (i := 72) rfl))⟩)
  have xc4 := Exa.start e4 x4
  have fc4 : Fld s s.heap c4 "com/example/fading_filter/fadingfilter/model/Cells" "bitsPerCell" "I" (.int (4 : Int32)) := Fld.start ((fld_at e4).symm.trans (eqv_i (Term.int_eval (4)) f4))
  obtain ⟨pf, ep⟩ := exa_v xp
  have sf : Sta s s.heap "com/example/fading_filter/fadingfilter/model/Placement" "FORGETFUL" "Lcom/example/fading_filter/fadingfilter/model/Placement;" (.ref pf) := Sta.start ep (Or.inr ⟨(hw _ (List.mem_of_getElem? (i := 19) rfl)), (hw _ (List.mem_of_getElem? (i := 20) rfl))⟩)
  obtain ⟨n, o, h1, h2, h3, _, L, rfl, ⟨rfl, N⟩, hq⟩ := rm0 l s _ hw tables_1 i0 i1 i2 i3 c0 c1 c2 c3 c4 pf s.heap s.heap.size (Nat.le_refl _) sc0 xc0 fc0 sc1 xc1 fc1 sc2 xc2 fc2 sc3 xc3 fc3 sc4 xc4 fc4 sf (Old.start s) p e ha hc hk s m _ below hf ((Spec.applies_iff_loose hf).mp happ).1 ⟨rfl, State.Warmed39.refl s, rfl⟩ trivial
  refine ⟨n, _, h1, h2, h3, hpost _ _ _ _ _ _ ⟨Cond.after_iff.mpr rfl, Cond.after_iff.mpr (eq_i res_at (Term.int_eval (1)) rfl), trivial⟩ ⟨hq.1, hq.2.1, hq.2.2.1, (hq.2.2.2.sift fun y hy => Or.inr (N y hy)).mono (by decide) (by decide)⟩⟩
theorem main_1_1 : Claimed_1_1 := comes_1 fun _ _ _ _ _ _ h hF => ⟨h.1, hF⟩
theorem main_1_2 : Claimed_1_2 := comes_1 fun _ _ _ _ _ _ h hF => ⟨h.2.1, hF⟩
end Jvm.Pilot.@@N@@
namespace Jvm.Pilot.@@N@@
open Jvm Jvm.ClassFile Sem Op Lib Jvm.Free Jvm.Stand Jvm.Pilot.@@N@@.Jvm.D
/-! MADE BY PROGRAM (witnessworld.py) out of the Statement's table words and the real class files: 19 classes; the members and pool entries that the words name. The judged class is class 1, her method 1. -/
namespace start1
open Jvm.ClassFile
def u (s : String) : CpInfo := .utf8 (stringToUtf16 s)
/-- a pool by its gaps: so many unusable entries, then the entry; so many at the end -/
def gap : Nat → List CpInfo → List CpInfo
  | 0, r => r
  | n + 1, r => .unusable :: gap n r
def poolList (es : List (Nat × CpInfo)) (last : Nat) : List CpInfo := es.foldr (fun e r => gap e.1 (e.2 :: r)) (gap last [])
def pool (es : List (Nat × CpInfo)) (last : Nat) : Array CpInfo := ⟨poolList es last⟩
def fileOf (pool : Array CpInfo) (this : Nat) (attrs : Array Attribute := #[]) (ms : Array MethodInfo := #[]) (fl : Nat := 33) (sup : Nat := 0) (ifs : Array Nat := #[]) (fds : Array FieldInfo := #[]) : ClassFile where
  minorVersion := 0
  majorVersion := 65
  constantPool := pool
  accessFlags := fl
  thisClass := this
  superClass := sup
  interfaces := ifs
  fields := fds
  methods := ms
  attributes := attrs
def plain (name : String) (sup : Option ClassId) : Class where
  name := name
  kind := .ordinary
  loader := none
  accessFlags := 33
  super := sup
  interfaces := #[]
  cf := none
  fields := #[]
  methods := #[]
  instanceTypes := #[]
  staticTypes := #[]
  resolved := #[]
  callSites := []
  init := .initialized
  statics := none
  mirror := none

def pool0 : Array CpInfo := pool [(5, u "<init>"), (0, u "()V"), (1, .class_ 10), (1, u "java/lang/Object")] 113

def k0c0 : Code := { maxStack := 0, maxLocals := 1, code := object_method_1_code, exceptionTable := #[], attributes := #[] }
def k0m0 : Method := { name := "<init>", desc := "()V", sig := { parameters := [], returnType := none }, accessFlags := 1, code := some k0c0 }
/-- java/lang/Object -/
def k0 : Class := { plain "java/lang/Object" none with
  accessFlags := 33
  interfaces := #[]
  cf := some (fileOf pool0 8 #[] #[{ accessFlags := 1, nameIndex := 5, descriptorIndex := 6, attributes := #[] }] 33 0 #[] #[])
  fields := #[]
  methods := #[k0m0]
  instanceTypes := #[]
  staticTypes := #[]
  resolved := Array.replicate 124 none
  statics := none }

def pool1 : Array CpInfo := pool [(2, .class_ 4), (1, u "java/lang/Object"), (0, u "<init>"), (0, u "()V"), (0, .integer 2147483647), (0, .class_ 9), (0, u "com/example/fading_filter/fadingfilter/model/Layout"), (0, .methodref 8 11), (0, .nameAndType 5 12), (0, u "(III)V"), (0, .fieldref 14 15), (0, .class_ 16), (0, .nameAndType 17 18), (0, u "com/example/fading_filter/fadingfilter/model/Cells"), (0, u "BITS"), (0, u "Lcom/example/fading_filter/fadingfilter/model/Cells;"), (0, .methodref 8 20), (0, .nameAndType 21 22), (0, u "withCells"), (0, u "(Lcom/example/fading_filter/fadingfilter/model/Cells;)Lcom/example/fading_filter/fadingfilter/model/Layout;"), (0, .fieldref 14 24), (0, .nameAndType 25 18), (0, u "BLOCKED_BITS"), (0, .fieldref 14 27), (0, .nameAndType 28 18), (0, u "GAUSSIAN_64"), (0, .long 64), (1, .fieldref 14 32), (0, .nameAndType 33 18), (0, u "GAUSSIAN_8"), (0, .long 8), (1, .fieldref 14 37), (0, .nameAndType 38 18), (0, u "GAUSSIAN_4"), (0, .long 4), (1, .methodref 8 42), (0, .nameAndType 43 44), (0, u "totalBits"), (0, u "()J"), (0, .class_ 46), (0, u "com/example/fading_filter/fadingfilter/model/LayoutTotalBitsPinLaw"), (2, u "law"), (0, u "(IIII)Z")] 3

def k1m0 : Method := { name := "<init>", desc := "()V", sig := { parameters := [], returnType := none }, accessFlags := 1, code := none }
def k1c1 : Code := { maxStack := 5, maxLocals := 11, code := code, exceptionTable := #[], attributes := #[] }
def k1m1 : Method := { name := "law", desc := "(IIII)Z", sig := { parameters := [.int, .int, .int, .int], returnType := some .boolean }, accessFlags := 9, code := some k1c1 }
/-- com/example/fading_filter/fadingfilter/model/LayoutTotalBitsPinLaw -/
def k1 : Class := { plain "com/example/fading_filter/fadingfilter/model/LayoutTotalBitsPinLaw" (some 0) with
  accessFlags := 49
  interfaces := #[]
  cf := some (fileOf pool1 45 #[] #[{ accessFlags := 1, nameIndex := 5, descriptorIndex := 6, attributes := #[] }, { accessFlags := 9, nameIndex := 49, descriptorIndex := 50, attributes := #[] }] 49 2 #[] #[])
  fields := #[]
  methods := #[k1m0, k1m1]
  instanceTypes := #[]
  staticTypes := #[]
  resolved := Array.replicate 54 none
  statics := none }

def pool2 : Array CpInfo := pool [(1, .methodref 2 3), (0, .class_ 4), (0, .nameAndType 5 6), (0, u "com/example/fading_filter/fadingfilter/model/Layout"), (0, u "alike"), (0, u "(II)[I"), (0, .fieldref 8 9), (0, .class_ 10), (0, .nameAndType 11 12), (0, u "com/example/fading_filter/fadingfilter/model/Cells"), (0, u "BITS"), (0, u "Lcom/example/fading_filter/fadingfilter/model/Cells;"), (0, .fieldref 14 15), (0, .class_ 16), (0, .nameAndType 17 18), (0, u "com/example/fading_filter/fadingfilter/model/Placement"), (0, u "FORGETFUL"), (0, u "Lcom/example/fading_filter/fadingfilter/model/Placement;"), (0, .methodref 2 20), (0, .nameAndType 21 22), (0, u "<init>"), (0, u "([IILjava/time/Duration;Lcom/example/fading_filter/fadingfilter/model/Cells;Lcom/example/fading_filter/fadingfilter/model/Placement;)V"), (6, u "[I"), (4, .methodref 35 36), (0, .class_ 37), (0, .nameAndType 38 39), (0, u "java/util/Objects"), (0, u "requireNonNull"), (0, u "(Ljava/lang/Object;Ljava/lang/String;)Ljava/lang/Object;"), (2, .methodref 43 44), (0, .class_ 45), (0, .nameAndType 21 46), (0, u "java/lang/Object"), (0, u "()V"), (0, .fieldref 2 48), (0, .nameAndType 49 29), (0, u "bits"), (0, .fieldref 2 51), (0, .nameAndType 52 53), (0, u "hashFunctions"), (0, u "I"), (0, .fieldref 2 55), (0, .nameAndType 56 57), (0, u "period"), (0, u "Ljava/time/Duration;"), (0, .fieldref 2 59), (0, .nameAndType 60 12), (0, u "cells"), (0, .fieldref 2 62), (0, .nameAndType 63 18), (0, u "placement"), (0, .string 60), (3, u "()I"), (72, u "totalBits"), (0, u "()J"), (36, u "withCells"), (0, u "(Lcom/example/fading_filter/fadingfilter/model/Cells;)Lcom/example/fading_filter/fadingfilter/model/Layout;"), (25, .class_ 207), (0, u "com/example/fading_filter/fadingfilter/model/Layout$Sizing"), (61, .methodref 8 270), (0, .nameAndType 271 68), (0, u "bitsPerCell"), (1, .class_ 275), (1, u "java/util/Arrays"), (37, .methodref 273 314), (0, .nameAndType 315 316), (0, u "fill"), (0, u "([II)V"), (46, u "MOST_SIZED_PAST_FILTERS"), (2, u "FIRST_BLOCKED"), (0, u "MOST_FOR_BLOCKS"), (0, u "D"), (0, u "MILLIS_PER_SECOND"), (0, u "(III)V"), (38, .class_ 410), (0, u "com/example/fading_filter/fadingfilter/model/Layout$Counts"), (0, .class_ 412), (0, u "com/example/fading_filter/fadingfilter/model/Layout$Found")] 62

def k2c0 : Code := { maxStack := 6, maxLocals := 4, code := prog_42_method_1_code, exceptionTable := #[], attributes := #[] }
def k2m0 : Method := { name := "<init>", desc := "(III)V", sig := { parameters := [.int, .int, .int], returnType := none }, accessFlags := 1, code := some k2c0 }
def k2c1 : Code := { maxStack := 2, maxLocals := 6, code := prog_42_method_4_code, exceptionTable := #[], attributes := #[] }
def k2m1 : Method := { name := "<init>", desc := "([IILjava/time/Duration;Lcom/example/fading_filter/fadingfilter/model/Cells;Lcom/example/fading_filter/fadingfilter/model/Placement;)V", sig := { parameters := [(.array .int), .int, (.object "java/time/Duration"), (.object "com/example/fading_filter/fadingfilter/model/Cells"), (.object "com/example/fading_filter/fadingfilter/model/Placement")], returnType := none }, accessFlags := 2, code := some k2c1 }
def k2c2 : Code := { maxStack := 7, maxLocals := 2, code := prog_42_method_5_code, exceptionTable := #[], attributes := #[] }
def k2m2 : Method := { name := "withCells", desc := "(Lcom/example/fading_filter/fadingfilter/model/Cells;)Lcom/example/fading_filter/fadingfilter/model/Layout;", sig := { parameters := [(.object "com/example/fading_filter/fadingfilter/model/Cells")], returnType := some (.object "com/example/fading_filter/fadingfilter/model/Layout") }, accessFlags := 1, code := some k2c2 }
def k2c3 : Code := { maxStack := 4, maxLocals := 7, code := prog_42_method_31_code, exceptionTable := #[], attributes := #[] }
def k2m3 : Method := { name := "totalBits", desc := "()J", sig := { parameters := [], returnType := some .long }, accessFlags := 1, code := some k2c3 }
def k2c4 : Code := { maxStack := 2, maxLocals := 3, code := prog_42_method_35_code, exceptionTable := #[], attributes := #[] }
def k2m4 : Method := { name := "alike", desc := "(II)[I", sig := { parameters := [.int, .int], returnType := some (.array .int) }, accessFlags := 10, code := some k2c4 }
/-- com/example/fading_filter/fadingfilter/model/Layout -/
def k2 : Class := { plain "com/example/fading_filter/fadingfilter/model/Layout" (some 0) with
  accessFlags := 33
  interfaces := #[]
  cf := some (fileOf pool2 2 #[.nestMembers #[409, 411, 206]] #[{ accessFlags := 1, nameIndex := 21, descriptorIndex := 370, attributes := #[] }, { accessFlags := 2, nameIndex := 21, descriptorIndex := 22, attributes := #[] }, { accessFlags := 1, nameIndex := 179, descriptorIndex := 180, attributes := #[] }, { accessFlags := 1, nameIndex := 141, descriptorIndex := 142, attributes := #[] }, { accessFlags := 10, nameIndex := 5, descriptorIndex := 6, attributes := #[] }] 33 43 #[] #[{ accessFlags := 26, nameIndex := 363, descriptorIndex := 53, attributes := #[] }, { accessFlags := 26, nameIndex := 366, descriptorIndex := 53, attributes := #[] }, { accessFlags := 26, nameIndex := 367, descriptorIndex := 368, attributes := #[] }, { accessFlags := 26, nameIndex := 369, descriptorIndex := 368, attributes := #[] }, { accessFlags := 18, nameIndex := 49, descriptorIndex := 29, attributes := #[] }, { accessFlags := 18, nameIndex := 52, descriptorIndex := 53, attributes := #[] }, { accessFlags := 18, nameIndex := 56, descriptorIndex := 57, attributes := #[] }, { accessFlags := 18, nameIndex := 60, descriptorIndex := 12, attributes := #[] }, { accessFlags := 18, nameIndex := 63, descriptorIndex := 18, attributes := #[] }])
  fields := #[{ name := "MOST_SIZED_PAST_FILTERS", type := .int, accessFlags := 26, slot := 0, constantValue := 0 }, { name := "FIRST_BLOCKED", type := .int, accessFlags := 26, slot := 1, constantValue := 0 }, { name := "MOST_FOR_BLOCKS", type := .double, accessFlags := 26, slot := 2, constantValue := 0 }, { name := "MILLIS_PER_SECOND", type := .double, accessFlags := 26, slot := 3, constantValue := 0 }, { name := "bits", type := (.array .int), accessFlags := 18, slot := 0, constantValue := 0 }, { name := "hashFunctions", type := .int, accessFlags := 18, slot := 1, constantValue := 0 }, { name := "period", type := (.object "java/time/Duration"), accessFlags := 18, slot := 2, constantValue := 0 }, { name := "cells", type := (.object "com/example/fading_filter/fadingfilter/model/Cells"), accessFlags := 18, slot := 3, constantValue := 0 }, { name := "placement", type := (.object "com/example/fading_filter/fadingfilter/model/Placement"), accessFlags := 18, slot := 4, constantValue := 0 }]
  methods := #[k2m0, k2m1, k2m2, k2m3, k2m4]
  instanceTypes := #[(.array .int), .int, (.object "java/time/Duration"), (.object "com/example/fading_filter/fadingfilter/model/Cells"), (.object "com/example/fading_filter/fadingfilter/model/Placement")]
  staticTypes := #[.int, .int, .double, .double]
  resolved := Array.replicate 475 none
  statics := none }

def pool3 : Array CpInfo := pool [(2, .class_ 4), (1, u "java/lang/Object"), (0, u "<init>"), (0, u "()V"), (7, .class_ 16), (1, u "java/util/Arrays"), (57, .class_ 76), (1, u "java/util/Arrays$NaturalOrder"), (36, .class_ 115), (1, u "java/util/Arrays$LegacyMergeSort"), (1, u "Z"), (257, .class_ 376), (0, u "java/util/Arrays$ArrayList"), (68, u "$assertionsDisabled"), (269, u "MIN_ARRAY_SORT_GRAN"), (0, u "I"), (2, u "INSERTIONSORT_THRESHOLD"), (120, u "fill"), (4, u "([II)V"), (129, .class_ 976), (0, u "java/util/Arrays$ArrayItr")] 52

def k3m0 : Method := { name := "<init>", desc := "()V", sig := { parameters := [], returnType := none }, accessFlags := 2, code := none }
def k3c1 : Code := { maxStack := 3, maxLocals := 4, code := jdk_65_method_103_code, exceptionTable := #[], attributes := #[] }
def k3m1 : Method := { name := "fill", desc := "([II)V", sig := { parameters := [(.array .int), .int], returnType := none }, accessFlags := 9, code := some k3c1 }
/-- java/util/Arrays -/
def k3 : Class := { plain "java/util/Arrays" (some 0) with
  accessFlags := 49
  interfaces := #[]
  cf := some (fileOf pool3 14 #[.nestMembers #[975, 375, 113, 74]] #[{ accessFlags := 2, nameIndex := 5, descriptorIndex := 6, attributes := #[] }, { accessFlags := 9, nameIndex := 840, descriptorIndex := 845, attributes := #[] }] 49 2 #[] #[{ accessFlags := 26, nameIndex := 715, descriptorIndex := 716, attributes := #[] }, { accessFlags := 26, nameIndex := 719, descriptorIndex := 716, attributes := #[] }, { accessFlags := 4120, nameIndex := 445, descriptorIndex := 117, attributes := #[] }])
  fields := #[{ name := "MIN_ARRAY_SORT_GRAN", type := .int, accessFlags := 26, slot := 0, constantValue := 0 }, { name := "INSERTIONSORT_THRESHOLD", type := .int, accessFlags := 26, slot := 1, constantValue := 0 }, { name := "$assertionsDisabled", type := .boolean, accessFlags := 4120, slot := 2, constantValue := 0 }]
  methods := #[k3m0, k3m1]
  instanceTypes := #[]
  staticTypes := #[.int, .int, .boolean]
  resolved := Array.replicate 1029 none
  statics := none }

def pool4 : Array CpInfo := pool [(1, .class_ 2), (0, u "java/lang/constant/Constable"), (0, .class_ 4), (0, u "java/lang/Object")] 6

/-- java/lang/constant/Constable -/
def k4 : Class := { plain "java/lang/constant/Constable" (some 0) with
  accessFlags := 1537
  interfaces := #[]
  cf := some (fileOf pool4 1 #[] #[] 1537 3 #[] #[])
  fields := #[]
  methods := #[]
  instanceTypes := #[]
  staticTypes := #[]
  resolved := Array.replicate 11 none
  statics := none }

def pool5 : Array CpInfo := pool [(1, .class_ 2), (0, u "java/lang/Comparable"), (0, .class_ 4), (0, u "java/lang/Object")] 7

/-- java/lang/Comparable -/
def k5 : Class := { plain "java/lang/Comparable" (some 0) with
  accessFlags := 1537
  interfaces := #[]
  cf := some (fileOf pool5 1 #[] #[] 1537 3 #[] #[])
  fields := #[]
  methods := #[]
  instanceTypes := #[]
  staticTypes := #[]
  resolved := Array.replicate 12 none
  statics := none }

def pool6 : Array CpInfo := pool [(1, .class_ 2), (0, u "java/io/Serializable"), (0, .class_ 4), (0, u "java/lang/Object")] 2

/-- java/io/Serializable -/
def k6 : Class := { plain "java/io/Serializable" (some 0) with
  accessFlags := 1537
  interfaces := #[]
  cf := some (fileOf pool6 1 #[] #[] 1537 3 #[] #[])
  fields := #[]
  methods := #[]
  instanceTypes := #[]
  staticTypes := #[]
  resolved := Array.replicate 7 none
  statics := none }

def pool7 : Array CpInfo := pool [(2, .class_ 4), (1, u "java/lang/Enum"), (0, u "name"), (0, u "Ljava/lang/String;"), (2, u "ordinal"), (0, u "I"), (1, .class_ 14), (1, u "java/lang/Object"), (4, u "hash"), (86, .class_ 108), (1, u "java/lang/Enum$EnumDesc"), (2, .class_ 112), (0, u "java/lang/constant/Constable"), (0, .class_ 114), (0, u "java/lang/Comparable"), (0, .class_ 116), (0, u "java/io/Serializable")] 87

/-- java/lang/Enum -/
def k7 : Class := { plain "java/lang/Enum" (some 0) with
  accessFlags := 1057
  interfaces := #[4, 5, 6]
  cf := some (fileOf pool7 2 #[.nestMembers #[106]] #[] 1057 12 #[111, 113, 115] #[{ accessFlags := 18, nameIndex := 5, descriptorIndex := 6, attributes := #[] }, { accessFlags := 18, nameIndex := 9, descriptorIndex := 10, attributes := #[] }, { accessFlags := 2, nameIndex := 19, descriptorIndex := 10, attributes := #[] }])
  fields := #[{ name := "name", type := (.object "java/lang/String"), accessFlags := 18, slot := 0, constantValue := 0 }, { name := "ordinal", type := .int, accessFlags := 18, slot := 1, constantValue := 0 }, { name := "hash", type := .int, accessFlags := 2, slot := 2, constantValue := 0 }]
  methods := #[]
  instanceTypes := #[(.object "java/lang/String"), .int, .int]
  staticTypes := #[]
  resolved := Array.replicate 204 none
  statics := none }

def pool8 : Array CpInfo := pool [(1, .class_ 2), (0, u "com/example/fading_filter/fadingfilter/model/Cells"), (2, u "BITS"), (0, u "Lcom/example/fading_filter/fadingfilter/model/Cells;"), (2, u "BLOCKED_BITS"), (2, u "GAUSSIAN_64"), (2, u "GAUSSIAN_8"), (2, u "GAUSSIAN_4"), (2, u "$VALUES"), (0, u "[Lcom/example/fading_filter/fadingfilter/model/Cells;"), (6, .class_ 31), (1, u "java/lang/Enum"), (6, .fieldref 1 39), (0, .nameAndType 40 41), (0, u "bitsPerCell"), (0, u "I"), (2, u "spread"), (0, u "Lcom/example/fading_filter/fadingfilter/util/Spread;"), (88, u "()I")] 29

def k8c0 : Code := { maxStack := 1, maxLocals := 1, code := prog_38_method_4_code, exceptionTable := #[], attributes := #[] }
def k8m0 : Method := { name := "bitsPerCell", desc := "()I", sig := { parameters := [], returnType := some .int }, accessFlags := 1, code := some k8c0 }
/-- com/example/fading_filter/fadingfilter/model/Cells -/
def k8 : Class := { plain "com/example/fading_filter/fadingfilter/model/Cells" (some 7) with
  accessFlags := 16433
  interfaces := #[]
  cf := some (fileOf pool8 1 #[] #[{ accessFlags := 1, nameIndex := 40, descriptorIndex := 134, attributes := #[] }] 16433 29 #[] #[{ accessFlags := 16409, nameIndex := 5, descriptorIndex := 6, attributes := #[] }, { accessFlags := 16409, nameIndex := 9, descriptorIndex := 6, attributes := #[] }, { accessFlags := 16409, nameIndex := 12, descriptorIndex := 6, attributes := #[] }, { accessFlags := 16409, nameIndex := 15, descriptorIndex := 6, attributes := #[] }, { accessFlags := 16409, nameIndex := 18, descriptorIndex := 6, attributes := #[] }, { accessFlags := 18, nameIndex := 40, descriptorIndex := 41, attributes := #[] }, { accessFlags := 18, nameIndex := 44, descriptorIndex := 45, attributes := #[] }, { accessFlags := 4122, nameIndex := 21, descriptorIndex := 22, attributes := #[] }])
  fields := #[{ name := "BITS", type := (.object "com/example/fading_filter/fadingfilter/model/Cells"), accessFlags := 16409, slot := 0, constantValue := 0 }, { name := "BLOCKED_BITS", type := (.object "com/example/fading_filter/fadingfilter/model/Cells"), accessFlags := 16409, slot := 1, constantValue := 0 }, { name := "GAUSSIAN_64", type := (.object "com/example/fading_filter/fadingfilter/model/Cells"), accessFlags := 16409, slot := 2, constantValue := 0 }, { name := "GAUSSIAN_8", type := (.object "com/example/fading_filter/fadingfilter/model/Cells"), accessFlags := 16409, slot := 3, constantValue := 0 }, { name := "GAUSSIAN_4", type := (.object "com/example/fading_filter/fadingfilter/model/Cells"), accessFlags := 16409, slot := 4, constantValue := 0 }, { name := "bitsPerCell", type := .int, accessFlags := 18, slot := 3, constantValue := 0 }, { name := "spread", type := (.object "com/example/fading_filter/fadingfilter/util/Spread"), accessFlags := 18, slot := 4, constantValue := 0 }, { name := "$VALUES", type := (.array (.object "com/example/fading_filter/fadingfilter/model/Cells")), accessFlags := 4122, slot := 5, constantValue := 0 }]
  methods := #[k8m0]
  instanceTypes := #[(.object "java/lang/String"), .int, .int, .int, (.object "com/example/fading_filter/fadingfilter/util/Spread")]
  staticTypes := #[(.object "com/example/fading_filter/fadingfilter/model/Cells"), (.object "com/example/fading_filter/fadingfilter/model/Cells"), (.object "com/example/fading_filter/fadingfilter/model/Cells"), (.object "com/example/fading_filter/fadingfilter/model/Cells"), (.object "com/example/fading_filter/fadingfilter/model/Cells"), (.array (.object "com/example/fading_filter/fadingfilter/model/Cells"))]
  resolved := Array.replicate 164 none
  statics := some 5 }

def pool9 : Array CpInfo := pool [(1, .class_ 2), (0, u "com/example/fading_filter/fadingfilter/model/Placement"), (2, u "FORGETFUL"), (0, u "Lcom/example/fading_filter/fadingfilter/model/Placement;"), (2, u "ROTATING"), (2, u "$VALUES"), (0, u "[Lcom/example/fading_filter/fadingfilter/model/Placement;"), (6, .class_ 22), (1, u "java/lang/Enum"), (8, u "recordedIn"), (0, u "I")] 75

/-- com/example/fading_filter/fadingfilter/model/Placement -/
def k9 : Class := { plain "com/example/fading_filter/fadingfilter/model/Placement" (some 7) with
  accessFlags := 16433
  interfaces := #[]
  cf := some (fileOf pool9 1 #[] #[] 16433 20 #[] #[{ accessFlags := 16409, nameIndex := 5, descriptorIndex := 6, attributes := #[] }, { accessFlags := 16409, nameIndex := 9, descriptorIndex := 6, attributes := #[] }, { accessFlags := 18, nameIndex := 31, descriptorIndex := 32, attributes := #[] }, { accessFlags := 4122, nameIndex := 12, descriptorIndex := 13, attributes := #[] }])
  fields := #[{ name := "FORGETFUL", type := (.object "com/example/fading_filter/fadingfilter/model/Placement"), accessFlags := 16409, slot := 0, constantValue := 0 }, { name := "ROTATING", type := (.object "com/example/fading_filter/fadingfilter/model/Placement"), accessFlags := 16409, slot := 1, constantValue := 0 }, { name := "recordedIn", type := .int, accessFlags := 18, slot := 3, constantValue := 0 }, { name := "$VALUES", type := (.array (.object "com/example/fading_filter/fadingfilter/model/Placement")), accessFlags := 4122, slot := 2, constantValue := 0 }]
  methods := #[]
  instanceTypes := #[(.object "java/lang/String"), .int, .int, .int]
  staticTypes := #[(.object "com/example/fading_filter/fadingfilter/model/Placement"), (.object "com/example/fading_filter/fadingfilter/model/Placement"), (.array (.object "com/example/fading_filter/fadingfilter/model/Placement"))]
  resolved := Array.replicate 108 none
  statics := some 7 }

def pool10 : Array CpInfo := pool [(2, .class_ 4), (1, u "java/lang/CharSequence"), (42, .class_ 48), (0, u "java/lang/CharSequence$1CodePointIterator"), (10, .class_ 60), (0, u "java/lang/CharSequence$1CharIterator"), (5, .class_ 67), (0, u "java/lang/Object")] 63

/-- java/lang/CharSequence -/
def k10 : Class := { plain "java/lang/CharSequence" (some 0) with
  accessFlags := 1537
  interfaces := #[]
  cf := some (fileOf pool10 2 #[.nestMembers #[47, 59]] #[] 1537 66 #[] #[])
  fields := #[]
  methods := #[]
  instanceTypes := #[]
  staticTypes := #[]
  resolved := Array.replicate 131 none
  statics := none }

def pool11 : Array CpInfo := pool [(1, .class_ 2), (0, u "java/lang/constant/ConstantDesc"), (0, .class_ 4), (0, u "java/lang/Object")] 32

/-- java/lang/constant/ConstantDesc -/
def k11 : Class := { plain "java/lang/constant/ConstantDesc" (some 0) with
  accessFlags := 1537
  interfaces := #[]
  cf := some (fileOf pool11 1 #[] #[] 1537 3 #[] #[])
  fields := #[]
  methods := #[]
  instanceTypes := #[]
  staticTypes := #[]
  resolved := Array.replicate 37 none
  statics := none }

def pool12 : Array CpInfo := pool [(2, .class_ 4), (1, u "java/lang/Object"), (0, u "<init>"), (0, u "()V"), (3, .class_ 12), (1, u "java/lang/String"), (0, u "value"), (0, u "[B"), (2, u "coder"), (0, u "B"), (2, u "hash"), (0, u "I"), (2, u "hashIsZero"), (0, u "Z"), (13, u "COMPACT_STRINGS"), (534, .class_ 576), (0, u "java/lang/CharSequence"), (22, u "CASE_INSENSITIVE_ORDER"), (0, u "Ljava/util/Comparator;"), (500, u "serialPersistentFields"), (0, u "[Ljava/io/ObjectStreamField;"), (0, .class_ 1104), (0, u "java/lang/String$CaseInsensitiveComparator"), (1, .class_ 1107), (0, u "java/io/Serializable"), (0, .class_ 1109), (0, u "java/lang/Comparable"), (0, .class_ 1111), (0, u "java/lang/constant/Constable"), (0, .class_ 1113), (0, u "java/lang/constant/ConstantDesc"), (2, u "serialVersionUID"), (0, u "J"), (3, u "REPL"), (0, u "C"), (2, u "LATIN1"), (1, u "UTF16")] 323

def k12m0 : Method := { name := "<init>", desc := "()V", sig := { parameters := [], returnType := none }, accessFlags := 1, code := none }
/-- java/lang/String -/
def k12 : Class := { plain "java/lang/String" (some 0) with
  accessFlags := 49
  interfaces := #[6, 5, 10, 4, 11]
  cf := some (fileOf pool12 10 #[.nestMembers #[1103]] #[{ accessFlags := 1, nameIndex := 5, descriptorIndex := 6, attributes := #[] }] 49 2 #[1106, 1108, 575, 1110, 1112] #[{ accessFlags := 18, nameIndex := 13, descriptorIndex := 14, attributes := #[] }, { accessFlags := 18, nameIndex := 17, descriptorIndex := 18, attributes := #[] }, { accessFlags := 2, nameIndex := 21, descriptorIndex := 22, attributes := #[] }, { accessFlags := 2, nameIndex := 25, descriptorIndex := 26, attributes := #[] }, { accessFlags := 26, nameIndex := 1116, descriptorIndex := 1117, attributes := #[] }, { accessFlags := 24, nameIndex := 40, descriptorIndex := 26, attributes := #[] }, { accessFlags := 26, nameIndex := 1101, descriptorIndex := 1102, attributes := #[] }, { accessFlags := 26, nameIndex := 1121, descriptorIndex := 1122, attributes := #[] }, { accessFlags := 25, nameIndex := 599, descriptorIndex := 600, attributes := #[] }, { accessFlags := 24, nameIndex := 1125, descriptorIndex := 18, attributes := #[] }, { accessFlags := 24, nameIndex := 1127, descriptorIndex := 18, attributes := #[] }])
  fields := #[{ name := "value", type := (.array .byte), accessFlags := 18, slot := 0, constantValue := 0 }, { name := "coder", type := .byte, accessFlags := 18, slot := 1, constantValue := 0 }, { name := "hash", type := .int, accessFlags := 2, slot := 2, constantValue := 0 }, { name := "hashIsZero", type := .boolean, accessFlags := 2, slot := 3, constantValue := 0 }, { name := "serialVersionUID", type := .long, accessFlags := 26, slot := 0, constantValue := 0 }, { name := "COMPACT_STRINGS", type := .boolean, accessFlags := 24, slot := 1, constantValue := 0 }, { name := "serialPersistentFields", type := (.array (.object "java/io/ObjectStreamField")), accessFlags := 26, slot := 2, constantValue := 0 }, { name := "REPL", type := .char, accessFlags := 26, slot := 3, constantValue := 0 }, { name := "CASE_INSENSITIVE_ORDER", type := (.object "java/util/Comparator"), accessFlags := 25, slot := 4, constantValue := 0 }, { name := "LATIN1", type := .byte, accessFlags := 24, slot := 5, constantValue := 0 }, { name := "UTF16", type := .byte, accessFlags := 24, slot := 6, constantValue := 0 }]
  methods := #[k12m0]
  instanceTypes := #[(.array .byte), .byte, .int, .boolean]
  staticTypes := #[.long, .boolean, (.array (.object "java/io/ObjectStreamField")), .char, (.object "java/util/Comparator"), .byte, .byte]
  resolved := Array.replicate 1451 none
  statics := none }

def pool13 : Array CpInfo := pool [(2, .class_ 4), (1, u "java/lang/Object"), (0, u "<init>"), (0, u "()V"), (35, .class_ 44), (1, u "java/util/Objects"), (0, u "requireNonNull"), (48, u "(Ljava/lang/Object;Ljava/lang/String;)Ljava/lang/Object;")] 89

def k13m0 : Method := { name := "<init>", desc := "()V", sig := { parameters := [], returnType := none }, accessFlags := 2, code := none }
def k13c1 : Code := { maxStack := 3, maxLocals := 2, code := jdk_31_method_11_code, exceptionTable := #[], attributes := #[] }
def k13m1 : Method := { name := "requireNonNull", desc := "(Ljava/lang/Object;Ljava/lang/String;)Ljava/lang/Object;", sig := { parameters := [(.object "java/lang/Object"), (.object "java/lang/String")], returnType := some (.object "java/lang/Object") }, accessFlags := 9, code := some k13c1 }
/-- java/util/Objects -/
def k13 : Class := { plain "java/util/Objects" (some 0) with
  accessFlags := 49
  interfaces := #[]
  cf := some (fileOf pool13 42 #[] #[{ accessFlags := 2, nameIndex := 5, descriptorIndex := 6, attributes := #[] }, { accessFlags := 9, nameIndex := 45, descriptorIndex := 94, attributes := #[] }] 49 2 #[] #[])
  fields := #[]
  methods := #[k13m0, k13m1]
  instanceTypes := #[]
  staticTypes := #[]
  resolved := Array.replicate 184 none
  statics := none }

def pool14 : Array CpInfo := pool [(1, u "java/lang/Cloneable"), (0, .class_ 1), (0, u "java/lang/Object"), (0, .class_ 3)] 3

/-- java/lang/Cloneable -/
def k14 : Class := { plain "java/lang/Cloneable" (some 0) with
  accessFlags := 1537
  interfaces := #[]
  cf := some (fileOf pool14 2 #[] #[] 1537 4 #[] #[])
  fields := #[]
  methods := #[]
  instanceTypes := #[]
  staticTypes := #[]
  resolved := Array.replicate 8 none
  statics := none }

/-- the primitive byte -/
def k15 : Class := { plain "byte" none with kind := .primitive 'B', accessFlags := 0x411 }
/-- [B -/
def k16 : Class := { plain "[B" (some 0) with kind := .array 15 .byte, interfaces := #[14, 6], accessFlags := 1041 }

/-- the primitive int -/
def k17 : Class := { plain "int" none with kind := .primitive 'I', accessFlags := 0x411 }
/-- [I -/
def k18 : Class := { plain "[I" (some 0) with kind := .array 17 .int, interfaces := #[14, 6], accessFlags := 1041 }

def heap : Heap := #[{ cls := 8, slots := #[.null, .int 0, .int 0, .int 1, .null], vm := .none },
  { cls := 8, slots := #[.null, .int 0, .int 0, .int 1, .null], vm := .none },
  { cls := 8, slots := #[.null, .int 0, .int 0, .int 4, .null], vm := .none },
  { cls := 8, slots := #[.null, .int 0, .int 0, .int 8, .null], vm := .none },
  { cls := 8, slots := #[.null, .int 0, .int 0, .int 64, .null], vm := .none },
  { cls := 8, slots := #[.ref 0, .ref 1, .ref 4, .ref 3, .ref 2, .null], vm := .statics 8 },
  { cls := 9, slots := #[.null, .int 0, .int 0, .int 0], vm := .none },
  { cls := 9, slots := #[.ref 6, .null, .null], vm := .statics 9 }]
def classes : Array Class := #[k0, k1, k2, k3, k4, k5, k6, k7, k8, k9, k10, k11, k12, k13, k14, k15, k16, k17, k18]
def interned : List (Array UInt16 × Addr) := []
def slotsUsed : Nat := 38
def theMethod : MethodId := ⟨1, 1⟩
def args0 : Array Value := #[.int 5, .int 5, .int 5, .int 5]
def aboutOver (below : List Frame) : State where
  vm := { classes := classes, interned := interned.toArray }
  heap := heap
  slotsUsed := slotsUsed
  threads := #[{ frames := .invoking theMethod args0 :: below }]
def below0 : List Frame := [.native { method := ⟨0, 0⟩, args := #[] }]
def about1 : State := aboutOver below0
def p0 : Program := .bare "" "" ""
def e0 : Env := launch0.env 0 0 0
theorem w_frames : about1.frames = Frame.invoking theMethod args0 :: below0 := rfl
set_option maxRecDepth 65536 in
theorem w_args : argsFit about1.vm theMethod args0 = true := by decide +kernel
set_option maxRecDepth 65536 in
theorem w_heap : heapFits about1 = true := by decide +kernel
set_option maxRecDepth 65536 in
theorem w_runnable : about1.curStatus? = some .runnable := by decide +kernel
set_option maxRecDepth 65536 in
theorem w_alone : about1.alone = true := by decide +kernel
set_option maxRecDepth 65536 in
theorem w_named : about1.methodNamed? x = some theMethod := by decide +kernel
set_option maxRecDepth 65536 in
theorem w_hears : about1.hears theMethod below0 = true := by decide +kernel
set_option maxRecDepth 65536 in
theorem w_ripe : about1.ripe theMethod args0 below0 = true := by decide +kernel
theorem w_running : about1.status = .running := rfl
set_option maxRecDepth 65536 in
theorem w_room : about1.hasRoom e0.platform room_1 = true :=
  launch0.hasRoom_least _ room_1 (by decide +kernel) (by decide +kernel) (by decide +kernel) (by decide +kernel) (by decide +kernel) (by decide +kernel)
theorem allAtoms_all (ts : List Jvm.Cond) (a : Array Jvm.Value) (st : Jvm.State) : (allAtoms ts).before a st = ts.all (fun c => c.before a st) := by
  induction ts with
  | nil => rfl
  | cons c t ih =>
    show (Jvm.Cond.and c (allAtoms t)).before a st = _
    rw [Jvm.Cond.before_and, ih, List.all_cons]
def words1 : List Jvm.Cond := Jvm.Cond.code x code maxLocals ret :: tables_1
/-- a 'code' word, met by the world's own term for the bytes: nothing is compared byte by byte -/
theorem code_word {y : MethodName} {bytes : ByteArray} {mx : Nat} {rt : Option FieldType} {a : Array Value} {s : State} {m : MethodId} {meth : Method} {c : Code} (h1 : s.methodNamed? y = some m) (h2 : s.vm.method? m = some meth) (h3 : meth.code = some c) (h4 : c.code = bytes)
    (h5 : (c.maxLocals == mx && c.exceptionTable.isEmpty && decide (c.maxStack ≤ mostOperands) && decide (meth.sig.returnType = rt) && !meth.locks && decide (parseMethodDescriptor y.desc = some meth.sig)) = true) : (Jvm.Cond.code y bytes mx rt).before a s = true := by
  simp only [Bool.and_eq_true, beq_iff_eq, Bool.not_eq_true', decide_eq_true_eq] at h5
  obtain ⟨⟨⟨⟨⟨g1, g2⟩, g3⟩, g4⟩, g5⟩, g6⟩ := h5
  simp [Cond.before, Cond.holds, Cond.value, h1, h2, h3, h4, g1, g2, g3, g4, g5, g6]
def isCode : Jvm.Cond → Bool
  | .code _ _ _ _ => true
  | _ => false
theorem all_split {L : List Jvm.Cond} {P : Jvm.Cond → Bool} (h1 : L.all (fun c => isCode c || P c) = true) (h2 : ∀ c ∈ L.filter isCode, P c = true) : L.all P = true := by
  refine List.all_eq_true.mpr fun c hc => ?_
  have h := List.all_eq_true.mp h1 c hc
  rcases Bool.eq_false_or_eq_true (isCode c) with hi | hi
  · exact h2 c (List.mem_filter.mpr ⟨hc, hi⟩)
  · simpa [hi] using h
set_option maxRecDepth 65536 in
theorem w_c0 : (Jvm.Cond.code x code maxLocals ret).before args0 about1 = true := code_word (m := ⟨1, 1⟩) (meth := k1m1) (c := k1c1) (by decide +kernel) rfl rfl rfl (by decide +kernel)
set_option maxRecDepth 65536 in
theorem w_c1 : (Jvm.Cond.code ({ cls := "com/example/fading_filter/fadingfilter/model/Layout", name := "<init>", desc := "(III)V" } : Jvm.MethodName) prog_42_method_1_code (4 : Nat) (Option.none : Option Jvm.ClassFile.FieldType)).before args0 about1 = true := code_word (m := ⟨2, 0⟩) (meth := k2m0) (c := k2c0) (by decide +kernel) rfl rfl rfl (by decide +kernel)
set_option maxRecDepth 65536 in
theorem w_c2 : (Jvm.Cond.code ({ cls := "com/example/fading_filter/fadingfilter/model/Layout", name := "alike", desc := "(II)[I" } : Jvm.MethodName) prog_42_method_35_code (3 : Nat) (Option.some (Jvm.ClassFile.FieldType.array Jvm.ClassFile.FieldType.int))).before args0 about1 = true := code_word (m := ⟨2, 4⟩) (meth := k2m4) (c := k2c4) (by decide +kernel) rfl rfl rfl (by decide +kernel)
set_option maxRecDepth 65536 in
theorem w_c3 : (Jvm.Cond.code ({ cls := "java/util/Arrays", name := "fill", desc := "([II)V" } : Jvm.MethodName) jdk_65_method_103_code (4 : Nat) (Option.none : Option Jvm.ClassFile.FieldType)).before args0 about1 = true := code_word (m := ⟨3, 1⟩) (meth := k3m1) (c := k3c1) (by decide +kernel) rfl rfl rfl (by decide +kernel)
set_option maxRecDepth 65536 in
theorem w_c4 : (Jvm.Cond.code ({ cls := "com/example/fading_filter/fadingfilter/model/Layout", name := "<init>", desc := "([IILjava/time/Duration;Lcom/example/fading_filter/fadingfilter/model/Cells;Lcom/example/fading_filter/fadingfilter/model/Placement;)V" } : Jvm.MethodName) prog_42_method_4_code (6 : Nat) (Option.none : Option Jvm.ClassFile.FieldType)).before args0 about1 = true := code_word (m := ⟨2, 1⟩) (meth := k2m1) (c := k2c1) (by decide +kernel) rfl rfl rfl (by decide +kernel)
set_option maxRecDepth 65536 in
theorem w_c5 : (Jvm.Cond.code ({ cls := "java/lang/Object", name := "<init>", desc := "()V" } : Jvm.MethodName) object_method_1_code (1 : Nat) (Option.none : Option Jvm.ClassFile.FieldType)).before args0 about1 = true := code_word (m := ⟨0, 0⟩) (meth := k0m0) (c := k0c0) (by decide +kernel) rfl rfl rfl (by decide +kernel)
set_option maxRecDepth 65536 in
theorem w_c6 : (Jvm.Cond.code ({ cls := "com/example/fading_filter/fadingfilter/model/Layout", name := "withCells", desc := "(Lcom/example/fading_filter/fadingfilter/model/Cells;)Lcom/example/fading_filter/fadingfilter/model/Layout;" } : Jvm.MethodName) prog_42_method_5_code (2 : Nat) (Option.some (Jvm.ClassFile.FieldType.object "com/example/fading_filter/fadingfilter/model/Layout"))).before args0 about1 = true := code_word (m := ⟨2, 2⟩) (meth := k2m2) (c := k2c2) (by decide +kernel) rfl rfl rfl (by decide +kernel)
set_option maxRecDepth 65536 in
theorem w_c7 : (Jvm.Cond.code ({ cls := "java/util/Objects", name := "requireNonNull", desc := "(Ljava/lang/Object;Ljava/lang/String;)Ljava/lang/Object;" } : Jvm.MethodName) jdk_31_method_11_code (2 : Nat) (Option.some (Jvm.ClassFile.FieldType.object "java/lang/Object"))).before args0 about1 = true := code_word (m := ⟨13, 1⟩) (meth := k13m1) (c := k13c1) (by decide +kernel) rfl rfl rfl (by decide +kernel)
set_option maxRecDepth 65536 in
theorem w_c8 : (Jvm.Cond.code ({ cls := "com/example/fading_filter/fadingfilter/model/Layout", name := "totalBits", desc := "()J" } : Jvm.MethodName) prog_42_method_31_code (7 : Nat) (Option.some Jvm.ClassFile.FieldType.long)).before args0 about1 = true := code_word (m := ⟨2, 3⟩) (meth := k2m3) (c := k2c3) (by decide +kernel) rfl rfl rfl (by decide +kernel)
set_option maxRecDepth 65536 in
theorem w_c9 : (Jvm.Cond.code ({ cls := "com/example/fading_filter/fadingfilter/model/Cells", name := "bitsPerCell", desc := "()I" } : Jvm.MethodName) prog_38_method_4_code (1 : Nat) (Option.some Jvm.ClassFile.FieldType.int)).before args0 about1 = true := code_word (m := ⟨8, 0⟩) (meth := k8m0) (c := k8c0) (by decide +kernel) rfl rfl rfl (by decide +kernel)
def codes1 : List Jvm.Cond := [Jvm.Cond.code x code maxLocals ret, Jvm.Cond.code ({ cls := "com/example/fading_filter/fadingfilter/model/Layout", name := "<init>", desc := "(III)V" } : Jvm.MethodName) prog_42_method_1_code (4 : Nat) (Option.none : Option Jvm.ClassFile.FieldType), Jvm.Cond.code ({ cls := "com/example/fading_filter/fadingfilter/model/Layout", name := "alike", desc := "(II)[I" } : Jvm.MethodName) prog_42_method_35_code (3 : Nat) (Option.some (Jvm.ClassFile.FieldType.array Jvm.ClassFile.FieldType.int)), Jvm.Cond.code ({ cls := "java/util/Arrays", name := "fill", desc := "([II)V" } : Jvm.MethodName) jdk_65_method_103_code (4 : Nat) (Option.none : Option Jvm.ClassFile.FieldType), Jvm.Cond.code ({ cls := "com/example/fading_filter/fadingfilter/model/Layout", name := "<init>", desc := "([IILjava/time/Duration;Lcom/example/fading_filter/fadingfilter/model/Cells;Lcom/example/fading_filter/fadingfilter/model/Placement;)V" } : Jvm.MethodName) prog_42_method_4_code (6 : Nat) (Option.none : Option Jvm.ClassFile.FieldType), Jvm.Cond.code ({ cls := "java/lang/Object", name := "<init>", desc := "()V" } : Jvm.MethodName) object_method_1_code (1 : Nat) (Option.none : Option Jvm.ClassFile.FieldType), Jvm.Cond.code ({ cls := "com/example/fading_filter/fadingfilter/model/Layout", name := "withCells", desc := "(Lcom/example/fading_filter/fadingfilter/model/Cells;)Lcom/example/fading_filter/fadingfilter/model/Layout;" } : Jvm.MethodName) prog_42_method_5_code (2 : Nat) (Option.some (Jvm.ClassFile.FieldType.object "com/example/fading_filter/fadingfilter/model/Layout")), Jvm.Cond.code ({ cls := "java/util/Objects", name := "requireNonNull", desc := "(Ljava/lang/Object;Ljava/lang/String;)Ljava/lang/Object;" } : Jvm.MethodName) jdk_31_method_11_code (2 : Nat) (Option.some (Jvm.ClassFile.FieldType.object "java/lang/Object")), Jvm.Cond.code ({ cls := "com/example/fading_filter/fadingfilter/model/Layout", name := "totalBits", desc := "()J" } : Jvm.MethodName) prog_42_method_31_code (7 : Nat) (Option.some Jvm.ClassFile.FieldType.long), Jvm.Cond.code ({ cls := "com/example/fading_filter/fadingfilter/model/Cells", name := "bitsPerCell", desc := "()I" } : Jvm.MethodName) prog_38_method_4_code (1 : Nat) (Option.some Jvm.ClassFile.FieldType.int)]
set_option maxRecDepth 65536 in
theorem codes_eq : words1.filter isCode = codes1 := rfl
theorem w_codes : ∀ c ∈ words1.filter isCode, c.before args0 about1 = true := by
  rw [codes_eq]
  intro c hc
  simp only [codes1, List.mem_cons, List.not_mem_nil, or_false] at hc
  rcases hc with rfl | rfl | rfl | rfl | rfl | rfl | rfl | rfl | rfl | rfl
  · exact w_c0
  · exact w_c1
  · exact w_c2
  · exact w_c3
  · exact w_c4
  · exact w_c5
  · exact w_c6
  · exact w_c7
  · exact w_c8
  · exact w_c9
set_option maxRecDepth 65536 in
theorem w_t1 : (words1.take 24).all (fun c => isCode c || c.before args0 about1) = true := by decide +kernel
set_option maxRecDepth 65536 in
theorem w_t2 : ((words1.drop 24).take 24).all (fun c => isCode c || c.before args0 about1) = true := by decide +kernel
set_option maxRecDepth 65536 in
theorem w_t3 : (((words1.drop 24).drop 24).take 24).all (fun c => isCode c || c.before args0 about1) = true := by decide +kernel
set_option maxRecDepth 65536 in
theorem w_t4 : (((words1.drop 24).drop 24).drop 24).all (fun c => isCode c || c.before args0 about1) = true := by decide +kernel
theorem w_tables : (allAtoms (Jvm.Cond.code x code maxLocals ret :: tables_1)).before args0 about1 = true := by
  rw [allAtoms_all]
  show words1.all (fun c => c.before args0 about1) = true
  refine all_split ?_ w_codes
  rw [← List.take_append_drop 24 words1, List.all_append, w_t1, ← List.take_append_drop 24 (words1.drop 24), List.all_append, w_t2, ← List.take_append_drop 24 ((words1.drop 24).drop 24), List.all_append, w_t3, w_t4]
  rfl
set_option maxRecDepth 65536 in
theorem w_case : (Jvm.Cond.and given_1 narrow_1).before args0 about1 = true := by decide +kernel
theorem w_applies : (headSpec (Jvm.Cond.code x code maxLocals ret :: tables_1) room_1).applies x e0.platform about1 = true :=
  (Spec.applies_iff w_frames).mpr ⟨w_running, w_runnable, w_alone, w_named, w_hears, w_ripe, w_room, w_tables⟩
theorem atStart : AtStart classFile x code maxLocals ret World_1 tables_1 room_1 Calls_1 rest_1 Pre_1 launch0 p0 e0 about1 theMethod args0 below0 :=
  ⟨lists_1, trivial, launch0.admits_env _ _ _, launch0.least_env, fairChoices_fair.cas, fairChoices_fair.clock, w_frames, w_args, w_heap, w_applies, trivial, trivial, w_case⟩
end start1
theorem witness_1 : WitnessClaimed_1 := ⟨start1.p0, start1.e0, start1.about1, start1.theMethod, start1.args0, start1.below0, start1.atStart⟩
end Jvm.Pilot.@@N@@
