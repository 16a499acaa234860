import JvmDerived
import JvmDerived.Pilot.@@N@@Statement
import JvmDerived.Pilot.@@N@@Code
set_option linter.unusedVariables false
set_option linter.unusedSimpArgs false
namespace Jvm.Pilot.@@N@@
open Jvm Jvm.ClassFile Sem Op Lib Jvm.Free Jvm.Stand Jvm.LawKit Jvm.RoadKit Bundle Jvm.Pilot.@@N@@.Jvm.D
section Own
variable {p : Program} {l : Launch} {e : Env} {R : Room} {s : State} {m : MethodId} {args : Array Value} {below : List Frame} {meth : Method} {c : Code} {T T' : State} {locs : List Loc} {cells slots : Nat}
/-- from T with the frame f on top the method comes to its end; what it returns, the heap and the places written answer Q; at most C cells and N slots are new -/
def own_Fin (p : Program) (e : Env) (below : List Frame) (s : State) (C N : Nat) (Q : Option Value → Heap → List Loc → Prop) (T : State) (f : JFrame) : Prop :=
  ∃ s₂ o, Steps p.tables e below (T.setTop f) s₂ ∧ s₂.status = .running ∧ Ended s₂ below o ∧ ∃ v L, o = .returned v ∧ Q v s₂.heap L ∧ FrameEnd s o s₂ L C N
variable {C N : Nat} {Q : Option Value → Heap → List Loc → Prop} {f f' : JFrame}
theorem own_by (h : ∀ t, Steps p.tables e below (T'.setTop f') t → Steps p.tables e below (T.setTop f) t) (k : own_Fin p e below s C N Q T' f') : own_Fin p e below s C N Q T f := by
  obtain ⟨s2, o, h1, h2⟩ := k
  exact ⟨s2, o, h _ h1, h2⟩
theorem own_start (q : f = f') (k : own_Fin p e below s C N Q T f') : ∃ s₂ o, Steps p.tables e below (T.setTop f) s₂ ∧ s₂.status = .running ∧ Ended s₂ below o ∧ ∃ v L, o = .returned v ∧ Q v s₂.heap L ∧ FrameEnd s o s₂ L C N := by
  subst q; exact k
theorem own_leaf (X : Stand p l e R s m args below meth c T locs cells slots) (hlk : meth.locks = false) {v : Option Value} (hv : meth.sig.returnType = none → v = none)
    (hs : ∀ fs, (∀ (f : JFrame) (acts : List Action), f.method = m → f.locked = none → f.entered = [] → (doReturn e (T.setTop f) acts v).1 = T.setFrames fs) → Steps p.tables e below (T.setTop f) (T.setFrames fs))
    (hQ : Q v T.heap locs) (hc : cells ≤ C) (hn : slots ≤ N) : own_Fin p e below s C N Q T f := by
  obtain ⟨fs, hr, hrun, hended, hW, hsame⟩ := X.leave (v := v) hv hlk
  exact ⟨_, _, hs fs hr, hrun, hended, _, _, rfl, hQ, ⟨_, rfl⟩, hW, hsame.mono hc hn⟩
theorem own_retV (X : Stand p l e R s m args below meth c T locs cells slots) (hx : p.tables.exec = Jvm.exec) (hlk : meth.locks = false) {pc : Nat} {Ls : Array Slot} (hret : meth.sig.returnType = none) (hd : decode c.code pc = .ok (.return_, 1))
    (hQ : Q none T.heap locs) (hc : cells ≤ C) (hn : slots ≤ N) : own_Fin p e below s C N Q T (mkF m pc Ls []) :=
  own_leaf X hlk (fun _ => rfl) (fun fs hr => X.returnOut hx hret hd hr) hQ hc hn
theorem own_retZ (X : Stand p l e R s m args below meth c T locs cells slots) (hx : p.tables.exec = Jvm.exec) (hlk : meth.locks = false) {pc : Nat} {Ls : Array Slot} {z : Int32} {t : FieldType} {rest : List Value} (hret : meth.sig.returnType = some t) (ht : t = .boolean ∨ t = .byte ∨ t = .char ∨ t = .short) (hd : decode c.code pc = .ok (.ireturn, 1))
    (hQ : Q (some (.int (nar t z))) T.heap locs) (hc : cells ≤ C) (hn : slots ≤ N) : own_Fin p e below s C N Q T (mkF m pc Ls (.int z :: rest)) :=
  own_leaf X hlk (fun h => by rw [hret] at h; cases h) (fun fs hr => retN X hx hret ht hd hr) hQ hc hn
theorem own_retO (X : Stand p l e R s m args below meth c T locs cells slots) (hx : p.tables.exec = Jvm.exec) (hlk : meth.locks = false) {pc : Nat} {Ls : Array Slot} {w : Value} {t : FieldType} {i : Instr} {rest : List Value} (hret : meth.sig.returnType = some t) (hn' : narrow t w = w)
    (hi : (i = .ireturn ∧ (t = .int ∨ t = .boolean ∨ t = .byte ∨ t = .char ∨ t = .short) ∧ ∃ z, w = .int z) ∨ (i = .lreturn ∧ t = .long ∧ ∃ z, w = .long z) ∨ (i = .dreturn ∧ t = .double ∧ ∃ z, w = .double z) ∨ (i = .freturn ∧ t = .float ∧ ∃ z, w = .float z) ∨ (i = .areturn ∧ t.isReference = true ∧ w.isRef = true))
    (hd : decode c.code pc = .ok (i, 1)) (hQ : Q (some w) T.heap locs) (hc : cells ≤ C) (hn : slots ≤ N) : own_Fin p e below s C N Q T (mkF m pc Ls (w :: rest)) :=
  own_leaf X hlk (fun h => by rw [hret] at h; cases h) (fun fs hr => retOut X hx hret hn' hi hd hr) hQ hc hn
theorem own_retI (X : Stand p l e R s m args below meth c T locs cells slots) (hx : p.tables.exec = Jvm.exec) (hlk : meth.locks = false) {pc : Nat} {Ls : Array Slot} {z : Int32} {rest : List Value} (hret : meth.sig.returnType = some .int) (hd : decode c.code pc = .ok (.ireturn, 1))
    (hQ : Q (some (.int z)) T.heap locs) (hc : cells ≤ C) (hn : slots ≤ N) : own_Fin p e below s C N Q T (mkF m pc Ls (.int z :: rest)) :=
  own_retO X hx hlk hret rfl (Or.inl ⟨rfl, Or.inl rfl, _, rfl⟩) hd hQ hc hn
theorem own_retJ (X : Stand p l e R s m args below meth c T locs cells slots) (hx : p.tables.exec = Jvm.exec) (hlk : meth.locks = false) {pc : Nat} {Ls : Array Slot} {z : Int64} {rest : List Value} (hret : meth.sig.returnType = some .long) (hd : decode c.code pc = .ok (.lreturn, 1))
    (hQ : Q (some (.long z)) T.heap locs) (hc : cells ≤ C) (hn : slots ≤ N) : own_Fin p e below s C N Q T (mkF m pc Ls (.long z :: rest)) :=
  own_retO X hx hlk hret rfl (Or.inr (Or.inl ⟨rfl, rfl, _, rfl⟩)) hd hQ hc hn
theorem own_retA (X : Stand p l e R s m args below meth c T locs cells slots) (hx : p.tables.exec = Jvm.exec) (hlk : meth.locks = false) {pc : Nat} {Ls : Array Slot} {w : Value} {t : FieldType} {rest : List Value} (hret : meth.sig.returnType = some t) (hr : t.isReference = true) (hn' : narrow t w = w) (hw : w.isRef = true) (hd : decode c.code pc = .ok (.areturn, 1))
    (hQ : Q (some w) T.heap locs) (hc : cells ≤ C) (hn : slots ≤ N) : own_Fin p e below s C N Q T (mkF m pc Ls (w :: rest)) :=
  own_retO X hx hlk hret hn' (Or.inr (Or.inr (Or.inr (Or.inr ⟨rfl, hr, hw⟩)))) hd hQ hc hn
/-- a room by its four numbers -/
abbrev own_R (f c s l : Nat) : Room := { frames := f, cells := c, slots := s, locals := l }
/-- the contract's form: called with A at a heap h0 it returns, and Q holds of what it returns, the heap and the places written -/
abbrev own_Met (l : Launch) (Z : State) (y : MethodName) (code : ByteArray) (ml : Nat) (ret : Option FieldType) (ws : List Jvm.Cond) (R : Room) (A : Array Value) (h0 : Heap) (Q : Option Value → Heap → List Loc → Prop) : Prop :=
  MetFree l y (head1 (Jvm.Cond.code y code ml ret :: ws) R) (fun a U => a = A ∧ Z.Warmed39 U.vm ∧ U.heap = h0) (fun _ _ _ _ _ => True) (fun _ U o U' => ∃ v L, o = .returned v ∧ Q v U'.heap L ∧ FrameEnd U o U' L R.cells R.slots)
theorem own_enter {Z : State} {y : MethodName} {code : ByteArray} {ml : Nat} {ret : Option FieldType} {ws : List Jvm.Cond} {A : Array Value} {h0 : Heap} {f0 : MethodId → JFrame} (n0 : Nat) (hpn : plainName y.cls = true) (hef : ∀ m, entryFrame m A ml = f0 m)
    (H : ∀ (p : Program) (e : Env) (s : State) (m : MethodId) (below : List Frame) (meth : Method) (c : Code) (s₁ : State), p.tables.exec = Jvm.exec → c.code = code → meth.locks = false → c.maxLocals = ml → meth.sig.returnType = ret → s.vm.findClass y.cls = some m.cls → meth.name = y.name →
      Z.Warmed39 s.vm → Stand p l e R s m A below meth c s₁ [] 0 0 → s₁.heap = h0 → Fr n0 [] → own_Fin p e below s R.cells R.slots Q s₁ (f0 m)) : own_Met l Z y code ml ret ws R A h0 Q := by
  refine MetFree.of_bodySF (plainFor_of_name hpn) hisR ?_
  intro p e s m args below meth c s₁ Bd hml hP _
  obtain ⟨rfl, hZ, hh⟩ := hP
  have q := H p e s m below meth c s₁ Bd.exec Bd.bytes Bd.notSynchronized hml Bd.returns (findClass_of_methodNamed Bd.named) (name_of_methodNamed Bd.named Bd.method).1 hZ (Stand.of_body Bd) (by rw [← hh, Bd.state]; rfl) (Fr.nil n0)
  rw [hef m]
  exact q
end Own
theorem own_vi {a b : Int32} (h : a = b) : some (Value.int a) = some (Value.int b) := h ▸ rfl
def own_cp (cs : List Int32) : Nat → Nat → Nat → List Value → List Value
  | _, _, 0, vs => vs
  | t, f, k + 1, vs => own_cp cs (t + 1) (f + 1) k (vs.set t (.int (cs.getD f 0)))
theorem own_cpS (cs : List Int32) (t f k : Nat) (vs : List Value) : own_cp cs t f (k + 1) vs = own_cp cs (t + 1) (f + 1) k (vs.set t (.int (cs.getD f 0))) := rfl
theorem own_cp0 (cs : List Int32) (t f : Nat) (vs : List Value) : own_cp cs t f 0 vs = vs := rfl
theorem own_getD (cs : List Int32) (j : Nat) : (cs.map Value.int).getD j (.int 0) = .int (cs.getD j 0) := by
  simp only [List.getD_eq_getElem?_getD, List.getElem?_map]
  cases cs[j]? <;> rfl
def own_expd (j a b f n t u : Int32) : Int32 := if j < t then (u + j) else if j < (t + n) then (if ((f + j) - t) = (0 : Int32) then (a &&& (65535 : Int32)) else if ((f + j) - t) = (1 : Int32) then ((a.toUInt32 >>> ((16 : Int32) &&& 31).toUInt32).toInt32) else if ((f + j) - t) = (2 : Int32) then (b &&& (65535 : Int32)) else ((b.toUInt32 >>> ((16 : Int32) &&& 31).toUInt32).toInt32)) else (u + j)
theorem own_c16 (x : Int32) (h : 0 ≤ x.toInt ∧ x.toInt < 65536) : x.toUInt32.toUInt16.toUInt32.toInt32 = x := by
  have q := c_i2c x
  apply Int32.toInt_inj.mp
  omega
theorem own_c16a (x : Int32) : (x &&& (65535 : Int32)).toUInt32.toUInt16.toUInt32.toInt32 = (x &&& (65535 : Int32)) := by
  have m := c_and x 65535 (by decide)
  have k : (65535 : Int32).toInt = 65535 := by decide
  exact own_c16 _ (by omega)
theorem own_c16b (x : Int32) : ((x.toUInt32 >>> ((16 : Int32) &&& 31).toUInt32).toInt32).toUInt32.toUInt16.toUInt32.toInt32 = ((x.toUInt32 >>> ((16 : Int32) &&& 31).toUInt32).toInt32) := by
  have m := c_iushr x 16 16 (by decide) (by decide)
  apply own_c16
  rw [m]
  omega
theorem own_three (r : Int32) : ∃ f n t : Int32, ((r &&& (7 : Int32)) % (5 : Int32)) = f ∧ ¬ ((5 : Int32) - f) = 0 ∧ ((((r.toUInt32 >>> ((3 : Int32) &&& 31).toUInt32).toInt32) &&& (7 : Int32)) % ((5 : Int32) - f)) = n ∧ ¬ ((7 : Int32) - n) = 0 ∧ ((((r.toUInt32 >>> ((6 : Int32) &&& 31).toUInt32).toInt32) &&& (7 : Int32)) % ((7 : Int32) - n)) = t ∧ 0 ≤ f.toInt ∧ 0 ≤ n.toInt ∧ f.toInt + n.toInt ≤ 4 ∧ 0 ≤ t.toInt ∧ t.toInt + n.toInt ≤ 6 := by
  have k0 : (0 : Int32).toInt = 0 := by decide
  have k5 : (5 : Int32).toInt = 5 := by decide
  have k7 : (7 : Int32).toInt = 7 := by decide
  have m1 := c_and r 7 (by decide)
  have r1 := (c_iremV (r &&& 7) 5).1 m1.1 (by omega)
  obtain ⟨f, hf⟩ : ∃ f, f = (r &&& 7) % 5 := ⟨_, rfl⟩
  rw [← hf] at r1
  have s1 := c_isub 5 f
  have s1l := Int32.toInt_lt (5 - f)
  have s1g := Int32.le_toInt (5 - f)
  have e1 : (5 - f).toInt = 5 - f.toInt := by omega
  have m2 := c_and ((r.toUInt32 >>> ((3 : Int32) &&& 31).toUInt32).toInt32) 7 (by decide)
  have r2 := (c_iremV (((r.toUInt32 >>> ((3 : Int32) &&& 31).toUInt32).toInt32) &&& 7) (5 - f)).1 m2.1 (by omega)
  obtain ⟨n, hn⟩ : ∃ n, n = (((r.toUInt32 >>> ((3 : Int32) &&& 31).toUInt32).toInt32) &&& 7) % (5 - f) := ⟨_, rfl⟩
  rw [← hn] at r2
  have s2 := c_isub 7 n
  have s2l := Int32.toInt_lt (7 - n)
  have s2g := Int32.le_toInt (7 - n)
  have e2 : (7 - n).toInt = 7 - n.toInt := by omega
  have m3 := c_and ((r.toUInt32 >>> ((6 : Int32) &&& 31).toUInt32).toInt32) 7 (by decide)
  have r3 := (c_iremV (((r.toUInt32 >>> ((6 : Int32) &&& 31).toUInt32).toInt32) &&& 7) (7 - n)).1 m3.1 (by omega)
  refine ⟨f, n, _, hf.symm, ?_, hn.symm, ?_, rfl, by omega, by omega, by omega, by omega, by omega⟩
  · rw [← Int32.toInt_inj, e1]; omega
  · rw [← Int32.toInt_inj, e2]; omega
set_option maxHeartbeats 4000000 in
theorem own_plain (p1 p2 p4 f n t : Int32) (h0 : 0 ≤ f.toInt) (h1 : 0 ≤ n.toInt) (h2 : f.toInt + n.toInt ≤ 4) (h3 : 0 ≤ t.toInt) (h4 : t.toInt + n.toInt ≤ 6) : own_cp [(p1 &&& (65535 : Int32)), ((p1.toUInt32 >>> ((16 : Int32) &&& 31).toUInt32).toInt32), (p2 &&& (65535 : Int32)), ((p2.toUInt32 >>> ((16 : Int32) &&& 31).toUInt32).toInt32)] t.toInt.toNat f.toInt.toNat n.toInt.toNat [(.int p4), (.int (p4 + (1 : Int32))), (.int (p4 + (2 : Int32))), (.int (p4 + (3 : Int32))), (.int (p4 + (4 : Int32))), (.int (p4 + (5 : Int32)))] = [.int (own_expd (0 : Int32) p1 p2 f n t p4), .int (own_expd (1 : Int32) p1 p2 f n t p4), .int (own_expd (2 : Int32) p1 p2 f n t p4), .int (own_expd (3 : Int32) p1 p2 f n t p4), .int (own_expd (4 : Int32) p1 p2 f n t p4), .int (own_expd (5 : Int32) p1 p2 f n t p4)] := by
  have K : ∀ (x : Int32) (k : Int32), x.toInt = k.toInt → x = k := fun x k h => Int32.toInt_inj.mp h
  have e0 : (0 : Int32).toInt = 0 := by decide
  have e1 : (1 : Int32).toInt = 1 := by decide
  have e2 : (2 : Int32).toInt = 2 := by decide
  have e3 : (3 : Int32).toInt = 3 := by decide
  have e4 : (4 : Int32).toInt = 4 := by decide
  have e5 : (5 : Int32).toInt = 5 := by decide
  have e6 : (6 : Int32).toInt = 6 := by decide
  have hf : f = 0 ∨ f = 1 ∨ f = 2 ∨ f = 3 ∨ f = 4 := by
    simp only [← Int32.toInt_inj, e0, e1, e2, e3, e4]; omega
  have hn : n = 0 ∨ n = 1 ∨ n = 2 ∨ n = 3 ∨ n = 4 := by
    simp only [← Int32.toInt_inj, e0, e1, e2, e3, e4]; omega
  have ht : t = 0 ∨ t = 1 ∨ t = 2 ∨ t = 3 ∨ t = 4 ∨ t = 5 ∨ t = 6 := by
    simp only [← Int32.toInt_inj, e0, e1, e2, e3, e4, e5, e6]; omega
  rcases hf with rfl | rfl | rfl | rfl | rfl <;> rcases hn with rfl | rfl | rfl | rfl | rfl <;> rcases ht with rfl | rfl | rfl | rfl | rfl | rfl | rfl <;>
    first
    | (exfalso; revert h2 h4; decide)
    | (have a : p4 = p4 + 0 := by simp
       conv => lhs; rw [show (Value.int p4 : Value) = .int (p4 + 0) from congrArg Value.int a]
       rfl)
theorem own_pn1 : plainName "com/example/libsubstr/libsubstr/CharArrayTextCopyPinLaw" = true := by first | (simp [plainName, overriddenIn]; done) | decide +kernel
theorem d5_0 : decode method_3_code 0 = .ok (.iload_n 0, 1) := by decide +kernel
theorem d5_1 : decode method_3_code 1 = .ok (.iload 5, 2) := by decide +kernel
theorem d5_3 : decode method_3_code 3 = .ok (.if_icmp .lt 12, 3) := by decide +kernel
theorem d5_15 : decode method_3_code 15 = .ok (.iload 6, 2) := by decide +kernel
theorem d5_17 : decode method_3_code 17 = .ok (.iload_n 0, 1) := by decide +kernel
theorem d5_18 : decode method_3_code 18 = .ok (.iadd, 1) := by decide +kernel
theorem d5_19 : decode method_3_code 19 = .ok (.ireturn, 1) := by decide +kernel
theorem d5_6 : decode method_3_code 6 = .ok (.iload_n 0, 1) := by decide +kernel
theorem d5_7 : decode method_3_code 7 = .ok (.iload 5, 2) := by decide +kernel
theorem d5_9 : decode method_3_code 9 = .ok (.iload 4, 2) := by decide +kernel
theorem d5_11 : decode method_3_code 11 = .ok (.iadd, 1) := by decide +kernel
theorem d5_12 : decode method_3_code 12 = .ok (.if_icmp .lt 8, 3) := by decide +kernel
theorem d5_20 : decode method_3_code 20 = .ok (.iload_n 3, 1) := by decide +kernel
theorem d5_21 : decode method_3_code 21 = .ok (.iload_n 0, 1) := by decide +kernel
theorem d5_22 : decode method_3_code 22 = .ok (.iadd, 1) := by decide +kernel
theorem d5_23 : decode method_3_code 23 = .ok (.iload 5, 2) := by decide +kernel
theorem d5_25 : decode method_3_code 25 = .ok (.isub, 1) := by decide +kernel
theorem d5_26 : decode method_3_code 26 = .ok (.istore 7, 2) := by decide +kernel
theorem d5_28 : decode method_3_code 28 = .ok (.iload 7, 2) := by decide +kernel
theorem d5_30 : decode method_3_code 30 = .ok (.ifCond .ne 8, 3) := by decide +kernel
theorem d5_33 : decode method_3_code 33 = .ok (.iload_n 1, 1) := by decide +kernel
theorem d5_34 : decode method_3_code 34 = .ok (.ldc 7, 2) := by decide +kernel
theorem d5_36 : decode method_3_code 36 = .ok (.iand, 1) := by decide +kernel
theorem d5_37 : decode method_3_code 37 = .ok (.ireturn, 1) := by decide +kernel
theorem d5_38 : decode method_3_code 38 = .ok (.iload 7, 2) := by decide +kernel
theorem d5_40 : decode method_3_code 40 = .ok (.iconst 1, 1) := by decide +kernel
theorem d5_41 : decode method_3_code 41 = .ok (.if_icmp .ne 8, 3) := by decide +kernel
theorem d5_44 : decode method_3_code 44 = .ok (.iload_n 1, 1) := by decide +kernel
theorem d5_45 : decode method_3_code 45 = .ok (.bipush 16, 2) := by decide +kernel
theorem d5_47 : decode method_3_code 47 = .ok (.iushr, 1) := by decide +kernel
theorem d5_48 : decode method_3_code 48 = .ok (.ireturn, 1) := by decide +kernel
theorem d5_49 : decode method_3_code 49 = .ok (.iload 7, 2) := by decide +kernel
theorem d5_51 : decode method_3_code 51 = .ok (.iconst 2, 1) := by decide +kernel
theorem d5_52 : decode method_3_code 52 = .ok (.if_icmp .ne 8, 3) := by decide +kernel
theorem d5_55 : decode method_3_code 55 = .ok (.iload_n 2, 1) := by decide +kernel
theorem d5_56 : decode method_3_code 56 = .ok (.ldc 7, 2) := by decide +kernel
theorem d5_58 : decode method_3_code 58 = .ok (.iand, 1) := by decide +kernel
theorem d5_59 : decode method_3_code 59 = .ok (.ireturn, 1) := by decide +kernel
theorem d5_60 : decode method_3_code 60 = .ok (.iload_n 2, 1) := by decide +kernel
theorem d5_61 : decode method_3_code 61 = .ok (.bipush 16, 2) := by decide +kernel
theorem d5_63 : decode method_3_code 63 = .ok (.iushr, 1) := by decide +kernel
theorem d5_64 : decode method_3_code 64 = .ok (.ireturn, 1) := by decide +kernel
theorem ef_rm5 (m : MethodId) (x0 : Int32) (x1 : Int32) (x2 : Int32) (x3 : Int32) (x4 : Int32) (x5 : Int32) (x6 : Int32) : entryFrame m #[(.int x0), (.int x1), (.int x2), (.int x3), (.int x4), (.int x5), (.int x6)] 8 = mkF m 0 #[.val (.int x0), .val (.int x1), .val (.int x2), .val (.int x3), .val (.int x4), .val (.int x5), .val (.int x6), .unset] [] := by first | (simp [entryFrame, mkF, argsToLocals, Value.category]; done) | rfl
def own_Q5 (j a b f n t u : Int32) (h0 : Heap) (n0 : Nat) (v : Option Value) (h : Heap) (L : List Loc) : Prop := v = some (.int (own_expd j a b f n t u)) ∧ Fr n0 L ∧ h = h0
set_option maxRecDepth 65536 in
set_option maxHeartbeats 40000000 in
theorem rm5 (l : Launch) (Z : State) (a0 : Array Value) (hw : ∀ d ∈ tables_1, d.before a0 Z = true) (ws : List Jvm.Cond) (j a b f n t u : Int32) (h0 : Heap) (n0 : Nat) (Z0 : n0 ≤ h0.size)  : own_Met l Z (⟨"com/example/libsubstr/libsubstr/CharArrayTextCopyPinLaw", "expected", "(IIIIIII)I"⟩ : MethodName) method_3_code 8 (some .int) ws (own_R 0 0 0 0) #[(.int j), (.int a), (.int b), (.int f), (.int n), (.int t), (.int u)] h0 (own_Q5 j a b f n t u h0 n0) := by
  refine own_enter n0 own_pn1 (fun m => ef_rm5 m j a b f n t u ) (fun p e s m below meth c s₁ hx hby hlk hml hret hown hnm hZ X0 e0 N0 => ?_)
  show own_Fin p e below s _ _ _ s₁ (mkF m 0 #[.val (.int j), .val (.int a), .val (.int b), .val (.int f), .val (.int n), .val (.int t), .val (.int u), .unset] [])
  refine own_by (fun _ k => XS.iloadN X0.here hx rfl (hb hby d5_0) rfl (XS.iload X0.here hx rfl (hb hby d5_1) rfl k)) ?_
  show own_Fin p e below s _ _ _ s₁ (mkF m 3 #[.val (.int j), .val (.int a), .val (.int b), .val (.int f), .val (.int n), .val (.int t), .val (.int u), .unset] [(.int t), (.int j)])
  by_cases hc3_1 : j < t
  · show own_Fin p e below s _ _ _ s₁ (mkF m 3 #[.val (.int j), .val (.int a), .val (.int b), .val (.int f), .val (.int n), .val (.int t), .val (.int u), .unset] [(.int t), (.int j)])
    refine own_by (fun _ k => XS.icmpYes X0.here hx rfl (pc0 := 3) (pc' := 15) rfl (hb hby d5_3) rfl (tlt hc3_1).1 (by decide) (by decide) k) ?_
    show own_Fin p e below s _ _ _ s₁ (mkF m 15 #[.val (.int j), .val (.int a), .val (.int b), .val (.int f), .val (.int n), .val (.int t), .val (.int u), .unset] [])
    refine own_by (fun _ k => XS.iload X0.here hx rfl (hb hby d5_15) rfl (XS.iloadN X0.here hx rfl (hb hby d5_17) rfl (XS.iadd X0.here hx rfl (hb hby d5_18) rfl k))) ?_
    show own_Fin p e below s _ _ _ s₁ (mkF m 19 #[.val (.int j), .val (.int a), .val (.int b), .val (.int f), .val (.int n), .val (.int t), .val (.int u), .unset] [(.int (u + j))])
    exact own_retI X0 hx hlk hret (hb hby d5_19) ⟨own_vi (by show (u + j) = _; first | (simp only [own_expd, hc3_1, if_true, if_false]; done) | (simp only [own_expd, hc3_1, if_true, if_false]; decide) | simp [own_expd, hc3_1]), N0, e0⟩ (by decide) (by decide)
  · show own_Fin p e below s _ _ _ s₁ (mkF m 3 #[.val (.int j), .val (.int a), .val (.int b), .val (.int f), .val (.int n), .val (.int t), .val (.int u), .unset] [(.int t), (.int j)])
    refine own_by (fun _ k => XS.icmpNo X0.here hx rfl (hb hby d5_3) rfl (flt hc3_1).1 k) ?_
    show own_Fin p e below s _ _ _ s₁ (mkF m 6 #[.val (.int j), .val (.int a), .val (.int b), .val (.int f), .val (.int n), .val (.int t), .val (.int u), .unset] [])
    refine own_by (fun _ k => XS.iloadN X0.here hx rfl (hb hby d5_6) rfl (XS.iload X0.here hx rfl (hb hby d5_7) rfl (XS.iload X0.here hx rfl (hb hby d5_9) rfl (XS.iadd X0.here hx rfl (hb hby d5_11) rfl k)))) ?_
    show own_Fin p e below s _ _ _ s₁ (mkF m 12 #[.val (.int j), .val (.int a), .val (.int b), .val (.int f), .val (.int n), .val (.int t), .val (.int u), .unset] [(.int (t + n)), (.int j)])
    by_cases hc12_2 : j < (t + n)
    · show own_Fin p e below s _ _ _ s₁ (mkF m 12 #[.val (.int j), .val (.int a), .val (.int b), .val (.int f), .val (.int n), .val (.int t), .val (.int u), .unset] [(.int (t + n)), (.int j)])
      refine own_by (fun _ k => XS.icmpYes X0.here hx rfl (pc0 := 12) (pc' := 20) rfl (hb hby d5_12) rfl (tlt hc12_2).1 (by decide) (by decide) k) ?_
      show own_Fin p e below s _ _ _ s₁ (mkF m 20 #[.val (.int j), .val (.int a), .val (.int b), .val (.int f), .val (.int n), .val (.int t), .val (.int u), .unset] [])
      refine own_by (fun _ k => XS.iloadN X0.here hx rfl (hb hby d5_20) rfl (XS.iloadN X0.here hx rfl (hb hby d5_21) rfl (XS.iadd X0.here hx rfl (hb hby d5_22) rfl (XS.iload X0.here hx rfl (hb hby d5_23) rfl (XS.isub X0.here hx rfl (hb hby d5_25) rfl (XS.istore X0.here hx rfl (hb hby d5_26) rfl (l' := #[.val (.int j), .val (.int a), .val (.int b), .val (.int f), .val (.int n), .val (.int t), .val (.int u), .val (.int ((f + j) - t))]) rfl (XS.iload X0.here hx rfl (hb hby d5_28) rfl k))))))) ?_
      show own_Fin p e below s _ _ _ s₁ (mkF m 30 #[.val (.int j), .val (.int a), .val (.int b), .val (.int f), .val (.int n), .val (.int t), .val (.int u), .val (.int ((f + j) - t))] [(.int ((f + j) - t))])
      by_cases hc30_3 : ((f + j) - t) = (0 : Int32)
      · show own_Fin p e below s _ _ _ s₁ (mkF m 30 #[.val (.int j), .val (.int a), .val (.int b), .val (.int f), .val (.int n), .val (.int t), .val (.int u), .val (.int ((f + j) - t))] [(.int ((f + j) - t))])
        refine own_by (fun _ k => XS.ifNo X0.here hx rfl (hb hby d5_30) rfl ((if0 _ _).trans (teq hc30_3).2) k) ?_
        show own_Fin p e below s _ _ _ s₁ (mkF m 33 #[.val (.int j), .val (.int a), .val (.int b), .val (.int f), .val (.int n), .val (.int t), .val (.int u), .val (.int ((f + j) - t))] [])
        refine own_by (fun _ k => XS.iloadN X0.here hx rfl (hb hby d5_33) rfl k) ?_
        show own_Fin p e below s _ _ _ s₁ (mkF m 34 #[.val (.int j), .val (.int a), .val (.int b), .val (.int f), .val (.int n), .val (.int t), .val (.int u), .val (.int ((f + j) - t))] [(.int a)])
        refine own_by (fun _ k => X0.ldcInt hx hown (mvT hZ (hw _ (List.mem_of_getElem? (i := 1) rfl))) (g := (mkF m 34 #[.val (.int j), .val (.int a), .val (.int b), .val (.int f), .val (.int n), .val (.int t), .val (.int u), .val (.int ((f + j) - t))] [(.int a)])) rfl (hb hby d5_34) _ k) ?_
        show own_Fin p e below s _ _ _ s₁ (mkF m 36 #[.val (.int j), .val (.int a), .val (.int b), .val (.int f), .val (.int n), .val (.int t), .val (.int u), .val (.int ((f + j) - t))] [(.int (65535 : Int32)), (.int a)])
        refine own_by (fun _ k => XS.iand X0.here hx rfl (hb hby d5_36) rfl k) ?_
        show own_Fin p e below s _ _ _ s₁ (mkF m 37 #[.val (.int j), .val (.int a), .val (.int b), .val (.int f), .val (.int n), .val (.int t), .val (.int u), .val (.int ((f + j) - t))] [(.int (a &&& (65535 : Int32)))])
        exact own_retI X0 hx hlk hret (hb hby d5_37) ⟨own_vi (by show (a &&& (65535 : Int32)) = _; first | (simp only [own_expd, hc3_1, hc12_2, hc30_3, if_true, if_false]; done) | (simp only [own_expd, hc3_1, hc12_2, hc30_3, if_true, if_false]; decide) | simp [own_expd, hc3_1, hc12_2, hc30_3]), N0, e0⟩ (by decide) (by decide)
      · show own_Fin p e below s _ _ _ s₁ (mkF m 30 #[.val (.int j), .val (.int a), .val (.int b), .val (.int f), .val (.int n), .val (.int t), .val (.int u), .val (.int ((f + j) - t))] [(.int ((f + j) - t))])
        refine own_by (fun _ k => XS.ifYes X0.here hx rfl (pc0 := 30) (pc' := 38) rfl (hb hby d5_30) rfl ((if0 _ _).trans (feq hc30_3).2) (by decide) (by decide) k) ?_
        show own_Fin p e below s _ _ _ s₁ (mkF m 38 #[.val (.int j), .val (.int a), .val (.int b), .val (.int f), .val (.int n), .val (.int t), .val (.int u), .val (.int ((f + j) - t))] [])
        refine own_by (fun _ k => XS.iload X0.here hx rfl (hb hby d5_38) rfl (XS.iconst X0.here hx rfl (hb hby d5_40) k)) ?_
        show own_Fin p e below s _ _ _ s₁ (mkF m 41 #[.val (.int j), .val (.int a), .val (.int b), .val (.int f), .val (.int n), .val (.int t), .val (.int u), .val (.int ((f + j) - t))] [(.int (1 : Int32)), (.int ((f + j) - t))])
        by_cases hc41_4 : ((f + j) - t) = (1 : Int32)
        · show own_Fin p e below s _ _ _ s₁ (mkF m 41 #[.val (.int j), .val (.int a), .val (.int b), .val (.int f), .val (.int n), .val (.int t), .val (.int u), .val (.int ((f + j) - t))] [(.int (1 : Int32)), (.int ((f + j) - t))])
          refine own_by (fun _ k => XS.icmpNo X0.here hx rfl (hb hby d5_41) rfl (teq hc41_4).2 k) ?_
          show own_Fin p e below s _ _ _ s₁ (mkF m 44 #[.val (.int j), .val (.int a), .val (.int b), .val (.int f), .val (.int n), .val (.int t), .val (.int u), .val (.int ((f + j) - t))] [])
          refine own_by (fun _ k => XS.iloadN X0.here hx rfl (hb hby d5_44) rfl (XS.bipush X0.here hx rfl (hb hby d5_45) (XS.iushr X0.here hx rfl (hb hby d5_47) rfl k))) ?_
          show own_Fin p e below s _ _ _ s₁ (mkF m 48 #[.val (.int j), .val (.int a), .val (.int b), .val (.int f), .val (.int n), .val (.int t), .val (.int u), .val (.int ((f + j) - t))] [(.int ((a.toUInt32 >>> ((16 : Int32) &&& 31).toUInt32).toInt32))])
          exact own_retI X0 hx hlk hret (hb hby d5_48) ⟨own_vi (by show ((a.toUInt32 >>> ((16 : Int32) &&& 31).toUInt32).toInt32) = _; first | (simp only [own_expd, hc3_1, hc12_2, hc30_3, hc41_4, if_true, if_false]; done) | (simp only [own_expd, hc3_1, hc12_2, hc30_3, hc41_4, if_true, if_false]; decide) | simp [own_expd, hc3_1, hc12_2, hc30_3, hc41_4]), N0, e0⟩ (by decide) (by decide)
        · show own_Fin p e below s _ _ _ s₁ (mkF m 41 #[.val (.int j), .val (.int a), .val (.int b), .val (.int f), .val (.int n), .val (.int t), .val (.int u), .val (.int ((f + j) - t))] [(.int (1 : Int32)), (.int ((f + j) - t))])
          refine own_by (fun _ k => XS.icmpYes X0.here hx rfl (pc0 := 41) (pc' := 49) rfl (hb hby d5_41) rfl (feq hc41_4).2 (by decide) (by decide) k) ?_
          show own_Fin p e below s _ _ _ s₁ (mkF m 49 #[.val (.int j), .val (.int a), .val (.int b), .val (.int f), .val (.int n), .val (.int t), .val (.int u), .val (.int ((f + j) - t))] [])
          refine own_by (fun _ k => XS.iload X0.here hx rfl (hb hby d5_49) rfl (XS.iconst X0.here hx rfl (hb hby d5_51) k)) ?_
          show own_Fin p e below s _ _ _ s₁ (mkF m 52 #[.val (.int j), .val (.int a), .val (.int b), .val (.int f), .val (.int n), .val (.int t), .val (.int u), .val (.int ((f + j) - t))] [(.int (2 : Int32)), (.int ((f + j) - t))])
          by_cases hc52_5 : ((f + j) - t) = (2 : Int32)
          · show own_Fin p e below s _ _ _ s₁ (mkF m 52 #[.val (.int j), .val (.int a), .val (.int b), .val (.int f), .val (.int n), .val (.int t), .val (.int u), .val (.int ((f + j) - t))] [(.int (2 : Int32)), (.int ((f + j) - t))])
            refine own_by (fun _ k => XS.icmpNo X0.here hx rfl (hb hby d5_52) rfl (teq hc52_5).2 k) ?_
            show own_Fin p e below s _ _ _ s₁ (mkF m 55 #[.val (.int j), .val (.int a), .val (.int b), .val (.int f), .val (.int n), .val (.int t), .val (.int u), .val (.int ((f + j) - t))] [])
            refine own_by (fun _ k => XS.iloadN X0.here hx rfl (hb hby d5_55) rfl k) ?_
            show own_Fin p e below s _ _ _ s₁ (mkF m 56 #[.val (.int j), .val (.int a), .val (.int b), .val (.int f), .val (.int n), .val (.int t), .val (.int u), .val (.int ((f + j) - t))] [(.int b)])
            refine own_by (fun _ k => X0.ldcInt hx hown (mvT hZ (hw _ (List.mem_of_getElem? (i := 1) rfl))) (g := (mkF m 56 #[.val (.int j), .val (.int a), .val (.int b), .val (.int f), .val (.int n), .val (.int t), .val (.int u), .val (.int ((f + j) - t))] [(.int b)])) rfl (hb hby d5_56) _ k) ?_
            show own_Fin p e below s _ _ _ s₁ (mkF m 58 #[.val (.int j), .val (.int a), .val (.int b), .val (.int f), .val (.int n), .val (.int t), .val (.int u), .val (.int ((f + j) - t))] [(.int (65535 : Int32)), (.int b)])
            refine own_by (fun _ k => XS.iand X0.here hx rfl (hb hby d5_58) rfl k) ?_
            show own_Fin p e below s _ _ _ s₁ (mkF m 59 #[.val (.int j), .val (.int a), .val (.int b), .val (.int f), .val (.int n), .val (.int t), .val (.int u), .val (.int ((f + j) - t))] [(.int (b &&& (65535 : Int32)))])
            exact own_retI X0 hx hlk hret (hb hby d5_59) ⟨own_vi (by show (b &&& (65535 : Int32)) = _; first | (simp only [own_expd, hc3_1, hc12_2, hc30_3, hc41_4, hc52_5, if_true, if_false]; done) | (simp only [own_expd, hc3_1, hc12_2, hc30_3, hc41_4, hc52_5, if_true, if_false]; decide) | simp [own_expd, hc3_1, hc12_2, hc30_3, hc41_4, hc52_5]), N0, e0⟩ (by decide) (by decide)
          · show own_Fin p e below s _ _ _ s₁ (mkF m 52 #[.val (.int j), .val (.int a), .val (.int b), .val (.int f), .val (.int n), .val (.int t), .val (.int u), .val (.int ((f + j) - t))] [(.int (2 : Int32)), (.int ((f + j) - t))])
            refine own_by (fun _ k => XS.icmpYes X0.here hx rfl (pc0 := 52) (pc' := 60) rfl (hb hby d5_52) rfl (feq hc52_5).2 (by decide) (by decide) k) ?_
            show own_Fin p e below s _ _ _ s₁ (mkF m 60 #[.val (.int j), .val (.int a), .val (.int b), .val (.int f), .val (.int n), .val (.int t), .val (.int u), .val (.int ((f + j) - t))] [])
            refine own_by (fun _ k => XS.iloadN X0.here hx rfl (hb hby d5_60) rfl (XS.bipush X0.here hx rfl (hb hby d5_61) (XS.iushr X0.here hx rfl (hb hby d5_63) rfl k))) ?_
            show own_Fin p e below s _ _ _ s₁ (mkF m 64 #[.val (.int j), .val (.int a), .val (.int b), .val (.int f), .val (.int n), .val (.int t), .val (.int u), .val (.int ((f + j) - t))] [(.int ((b.toUInt32 >>> ((16 : Int32) &&& 31).toUInt32).toInt32))])
            exact own_retI X0 hx hlk hret (hb hby d5_64) ⟨own_vi (by show ((b.toUInt32 >>> ((16 : Int32) &&& 31).toUInt32).toInt32) = _; first | (simp only [own_expd, hc3_1, hc12_2, hc30_3, hc41_4, hc52_5, if_true, if_false]; done) | (simp only [own_expd, hc3_1, hc12_2, hc30_3, hc41_4, hc52_5, if_true, if_false]; decide) | simp [own_expd, hc3_1, hc12_2, hc30_3, hc41_4, hc52_5]), N0, e0⟩ (by decide) (by decide)
    · show own_Fin p e below s _ _ _ s₁ (mkF m 12 #[.val (.int j), .val (.int a), .val (.int b), .val (.int f), .val (.int n), .val (.int t), .val (.int u), .unset] [(.int (t + n)), (.int j)])
      refine own_by (fun _ k => XS.icmpNo X0.here hx rfl (hb hby d5_12) rfl (flt hc12_2).1 k) ?_
      show own_Fin p e below s _ _ _ s₁ (mkF m 15 #[.val (.int j), .val (.int a), .val (.int b), .val (.int f), .val (.int n), .val (.int t), .val (.int u), .unset] [])
      refine own_by (fun _ k => XS.iload X0.here hx rfl (hb hby d5_15) rfl (XS.iloadN X0.here hx rfl (hb hby d5_17) rfl (XS.iadd X0.here hx rfl (hb hby d5_18) rfl k))) ?_
      show own_Fin p e below s _ _ _ s₁ (mkF m 19 #[.val (.int j), .val (.int a), .val (.int b), .val (.int f), .val (.int n), .val (.int t), .val (.int u), .unset] [(.int (u + j))])
      exact own_retI X0 hx hlk hret (hb hby d5_19) ⟨own_vi (by show (u + j) = _; first | (simp only [own_expd, hc3_1, hc12_2, if_true, if_false]; done) | (simp only [own_expd, hc3_1, hc12_2, if_true, if_false]; decide) | simp [own_expd, hc3_1, hc12_2]), N0, e0⟩ (by decide) (by decide)
theorem own_pn45 : plainName "com/example/libsubstr/libsubstr/HeldText" = true := by first | (simp [plainName, overriddenIn]; done) | decide +kernel
theorem d2_0 : decode prog_29_method_1_code 0 = .ok (.aload_n 0, 1) := by decide +kernel
theorem d2_1 : decode prog_29_method_1_code 1 = .ok (.invokespecial 1, 3) := by decide +kernel
theorem d2_4 : decode prog_29_method_1_code 4 = .ok (.return_, 1) := by decide +kernel
theorem ef_rm2 (m : MethodId) (x0 : Addr) : entryFrame m #[(.ref x0)] 1 = mkF m 0 #[.val (.ref x0)] [] := by first | (simp [entryFrame, mkF, argsToLocals, Value.category]; done) | rfl
def own_Q2 (h0 : Heap) (n0 : Nat) (v : Option Value) (h : Heap) (L : List Loc) : Prop := v = none ∧ Fr n0 L ∧ h = h0
set_option maxRecDepth 65536 in
set_option maxHeartbeats 40000000 in
theorem rm2 (l : Launch) (Z : State) (a0 : Array Value) (hw : ∀ d ∈ tables_1, d.before a0 Z = true) (ws : List Jvm.Cond) (a1 : Addr) (h0 : Heap) (n0 : Nat) (Z0 : n0 ≤ h0.size)  : own_Met l Z (⟨"com/example/libsubstr/libsubstr/HeldText", "<init>", "()V"⟩ : MethodName) prog_29_method_1_code 1 none ws (own_R 1 0 0 12) #[(.ref a1)] h0 (own_Q2 h0 n0) := by
  refine own_enter n0 own_pn45 (fun m => ef_rm2 m a1 ) (fun p e s m below meth c s₁ hx hby hlk hml hret hown hnm hZ X0 e0 N0 => ?_)
  show own_Fin p e below s _ _ _ s₁ (mkF m 0 #[.val (.ref a1)] [])
  refine own_by (fun _ k => XS.aloadN X0.here hx rfl (hb hby d2_0) rfl rfl k) ?_
  show own_Fin p e below s _ _ _ s₁ (mkF m 1 #[.val (.ref a1)] [(.ref a1)])
  obtain ⟨T6, X6, e6, st6⟩ := initO X0 hx hZ hown (hw _ (List.mem_of_getElem? (i := 14) rfl)) (hw _ (List.mem_of_getElem? (i := 15) rfl)) (hw _ (List.mem_of_getElem? (i := 16) rfl)) e0 (g := (mkF m 1 #[.val (.ref a1)] [(.ref a1)])) rfl (by rw [hml]; rfl) rfl (hb hby d2_1) (by decide) (W := 0) (by show 2 * 0 + _ ≤ _; exact Nat.le_of_eq rfl) (by decide)
  refine own_by (fun _ k => st6 _ k) ?_
  show own_Fin p e below s _ _ _ T6 (mkF m 4 #[.val (.ref a1)] [])
  exact own_retV X6 hx hlk hret (hb hby d2_4) ⟨rfl, N0, e6⟩ (by decide) (by decide)
theorem own_pn50 : plainName "com/example/libsubstr/libsubstr/CharArrayText" = true := by first | (simp [plainName, overriddenIn]; done) | decide +kernel
theorem d1_0 : decode prog_15_method_1_code 0 = .ok (.aload_n 0, 1) := by decide +kernel
theorem d1_1 : decode prog_15_method_1_code 1 = .ok (.invokespecial 1, 3) := by decide +kernel
theorem own_pd53 : parseMethodDescriptor "()V" = some ⟨[], none⟩ := by decide +kernel
theorem d1_4 : decode prog_15_method_1_code 4 = .ok (.aload_n 0, 1) := by decide +kernel
theorem d1_5 : decode prog_15_method_1_code 5 = .ok (.aload_n 1, 1) := by decide +kernel
theorem d1_6 : decode prog_15_method_1_code 6 = .ok (.putfield 7, 3) := by decide +kernel
theorem d1_9 : decode prog_15_method_1_code 9 = .ok (.return_, 1) := by decide +kernel
theorem ef_rm1 (m : MethodId) (x0 : Addr) (x1 : Addr) : entryFrame m #[(.ref x0), (.ref x1)] 2 = mkF m 0 #[.val (.ref x0), .val (.ref x1)] [] := by first | (simp [entryFrame, mkF, argsToLocals, Value.category]; done) | rfl
def own_Q1 (Z : State) (a1 a2 : Addr) (h0 : Heap) (n0 : Nat) (v : Option Value) (h : Heap) (L : List Loc) : Prop := v = none ∧ Fr n0 L ∧ Keep h0 h [a1] ∧ Fld Z h a1 "com/example/libsubstr/libsubstr/CharArrayText" "chars" "[C" (.ref a2)
set_option maxRecDepth 65536 in
set_option maxHeartbeats 40000000 in
theorem rm1 (l : Launch) (Z : State) (a0 : Array Value) (hw : ∀ d ∈ tables_1, d.before a0 Z = true) (ws : List Jvm.Cond) (a1 a2 : Addr) (u1 : Value) (h0 : Heap) (n0 : Nat) (Z0 : n0 ≤ h0.size) (E_a1 : Exa Z h0 a1 "com/example/libsubstr/libsubstr/CharArrayText") (F_a1 : Fld Z h0 a1 "com/example/libsubstr/libsubstr/CharArrayText" "chars" "[C" u1) (g_a1 : n0 ≤ a1) : own_Met l Z (⟨"com/example/libsubstr/libsubstr/CharArrayText", "<init>", "([C)V"⟩ : MethodName) prog_15_method_1_code 2 none ws (own_R 2 0 0 24) #[(.ref a1), (.ref a2)] h0 (own_Q1 Z a1 a2 h0 n0) := by
  refine own_enter n0 own_pn50 (fun m => ef_rm1 m a1 a2 ) (fun p e s m below meth c s₁ hx hby hlk hml hret hown hnm hZ X0 e0 N0 => ?_)
  show own_Fin p e below s _ _ _ s₁ (mkF m 0 #[.val (.ref a1), .val (.ref a2)] [])
  have Kp7 : Keep h0 h0 [a1] := Keep.refl h0 _
  refine own_by (fun _ k => XS.aloadN X0.here hx rfl (hb hby d1_0) rfl rfl k) ?_
  show own_Fin p e below s _ _ _ s₁ (mkF m 1 #[.val (.ref a1), .val (.ref a2)] [(.ref a1)])
  obtain ⟨_, _, ⟨T8, L8, k8, n8⟩, -, X8, ⟨Lc8, hQ8, l8, y8, z8⟩, st8⟩ := X0.specialBack hx (y := (⟨"com/example/libsubstr/libsubstr/HeldText", "<init>", "()V"⟩ : MethodName)) rfl hown (mvT hZ (hw _ (List.mem_of_getElem? (i := 9) rfl))) (mvT hZ (hw _ (List.mem_of_getElem? (i := 10) rfl))) (mvT hZ (hw _ (List.mem_of_getElem? (i := 13) rfl))) (by decide) (backOf (W := 0) (rm2 l Z a0 hw [] a1 h0 n0 Z0 ) hZ (hw _ (List.mem_of_getElem? (i := 13) rfl)) (hw _ (List.mem_of_getElem? (i := 12) rfl)) (by decide) (by decide)) (g := (mkF m 1 #[.val (.ref a1), .val (.ref a2)] [(.ref a1)])) rfl (by rw [hml]; rfl) (Steps.refl _) (a := a1) (argsL := []) (rest := []) (lenOf own_pd53 rfl) rfl (by show 2 * 0 + _ ≤ _; exact Nat.le_of_eq rfl) (hb hby d1_1) (fun _ _ => ⟨rfl, e0, (by decide : 0 + 0 ≤ _), (by decide : 0 + 0 ≤ _)⟩)
  dsimp only [Pt.U, Pt.locs, Pt.cells, Pt.slots] at X8 l8 y8 z8 st8 hQ8
  subst l8 y8 z8
  obtain ⟨rfl, Nq8, eh8⟩ := hQ8
  have N8 := Fr.app N0 Nq8
  refine own_by (fun _ k => st8.trans k) ?_
  show own_Fin p e below s _ _ _ T8 (mkF m 4 #[.val (.ref a1), .val (.ref a2)] [])
  refine own_by (fun _ k => XS.aloadN X8.here hx rfl (hb hby d1_4) rfl rfl (XS.aloadN X8.here hx rfl (hb hby d1_5) rfl rfl k)) ?_
  show own_Fin p e below s _ _ _ T8 (mkF m 6 #[.val (.ref a1), .val (.ref a2)] [(.ref a2), (.ref a1)])
  obtain ⟨T9, h9, X9, e9, W9, st9⟩ := putF X8 hx hZ hown (host := "") (Or.inl (hw _ (List.mem_of_getElem? (i := 17) rfl))) Via.refl eh8 F_a1 E_a1 (Or.inr ⟨(hw _ (List.mem_of_getElem? (i := 18) rfl)), rfl, hnm⟩) (hw _ (List.mem_of_getElem? (i := 4) rfl)) (ty := (.array .char)) (by decide) rfl rfl (g := (mkF m 6 #[.val (.ref a1), .val (.ref a2)] [(.ref a2), (.ref a1)])) rfl rfl (hb hby d1_6)
  refine own_by (fun _ k => st9 _ k) ?_
  have Fw9 : Fld Z h9 a1 "com/example/libsubstr/libsubstr/CharArrayText" "chars" "[C" (.ref a2) := F_a1.same W9
  have Kp9 : Keep h0 h9 [a1] := Kp7.wr W9 (Or.inl (List.mem_of_getElem? (i := 0) rfl))
  have Zs9 : n0 ≤ h9.size := Nat.le_trans Z0 (Keep.of_wr W9).1
  have N9 := Fr.snoc X9 N8 g_a1
  have f10_0 : Exa Z h9 a1 "com/example/libsubstr/libsubstr/CharArrayText" := E_a1.wr W9
  show own_Fin p e below s _ _ _ T9 (mkF m 9 #[.val (.ref a1), .val (.ref a2)] [])
  exact own_retV X9 hx hlk hret (hb hby d1_9) (by rw [e9]; exact ⟨rfl, N9, Kp9, Fw9⟩) (by decide) (by decide)
theorem own_lt {i to : Int32} {fj k : Nat} (h1 : i.toInt = fj) (h2 : to.toInt = fj + (k + 1 : Nat)) : i < to := by rw [Int32.lt_iff_toInt_lt]; omega
theorem own_nlt {i to : Int32} {fj : Nat} (h1 : i.toInt = fj) (h2 : to.toInt = fj + (0 : Nat)) : ¬ i < to := by rw [Int32.lt_iff_toInt_lt]; omega
theorem own_inc {i : Int32} {fj : Nat} (h1 : i.toInt = fj) (h2 : fj < 100) : (i + (1 : Int32)).toInt = (fj + 1 : Nat) := by
  have a := c_iadd i 1
  have k1 : (1 : Int32).toInt = 1 := by decide
  have al := Int32.toInt_lt (i + 1)
  have ag := Int32.le_toInt (i + 1)
  omega
theorem own_ix {i f t : Int32} {fj tj : Nat} (h1 : i.toInt = fj) (h2 : t.toInt - f.toInt = tj - fj) (h3 : fj < 10) (h4 : tj < 6) (h5 : 0 ≤ t.toInt) (h6 : t.toInt < 10) : ¬ ((t + i) - f) < 0 ∧ ((t + i) - f) < 6 ∧ ((t + i) - f).toNatClampNeg = tj := by
  have a := c_iadd t i
  have b := c_isub (t + i) f
  have k0 : (0 : Int32).toInt = 0 := by decide
  have k6 : (6 : Int32).toInt = 6 := by decide
  have al := Int32.toInt_lt (t + i)
  have ag := Int32.le_toInt (t + i)
  have bl := Int32.toInt_lt (t + i - f)
  have bg := Int32.le_toInt (t + i - f)
  have e : (t + i - f).toInt = tj := by omega
  refine ⟨?_, ?_, ?_⟩
  · rw [Int32.lt_iff_toInt_lt]; omega
  · rw [Int32.lt_iff_toInt_lt]; omega
  · unfold Int32.toNatClampNeg; rw [e]; rfl
theorem own_i4 {i : Int32} {fj : Nat} (h1 : i.toInt = fj) (h2 : fj < 4) : ¬ i < 0 ∧ i < 4 := by
  have k0 : (0 : Int32).toInt = 0 := by decide
  have k4 : (4 : Int32).toInt = 4 := by decide
  constructor <;> rw [Int32.lt_iff_toInt_lt] <;> omega
theorem own_nc {i : Int32} {fj : Nat} (h1 : i.toInt = fj) : i.toNatClampNeg = fj := by unfold Int32.toNatClampNeg; rw [h1]; rfl
theorem d4_0 : decode prog_15_method_4_code 0 = .ok (.iload_n 1, 1) := by decide +kernel
theorem d4_1 : decode prog_15_method_4_code 1 = .ok (.istore 5, 2) := by decide +kernel
theorem d4_3 : decode prog_15_method_4_code 3 = .ok (.iload 5, 2) := by decide +kernel
theorem d4_5 : decode prog_15_method_4_code 5 = .ok (.iload_n 2, 1) := by decide +kernel
theorem d4_6 : decode prog_15_method_4_code 6 = .ok (.if_icmp .ge 25, 3) := by decide +kernel
theorem d4_31 : decode prog_15_method_4_code 31 = .ok (.return_, 1) := by decide +kernel
theorem d4_9 : decode prog_15_method_4_code 9 = .ok (.aload_n 3, 1) := by decide +kernel
theorem d4_10 : decode prog_15_method_4_code 10 = .ok (.iload 4, 2) := by decide +kernel
theorem d4_12 : decode prog_15_method_4_code 12 = .ok (.iload 5, 2) := by decide +kernel
theorem d4_14 : decode prog_15_method_4_code 14 = .ok (.iadd, 1) := by decide +kernel
theorem d4_15 : decode prog_15_method_4_code 15 = .ok (.iload_n 1, 1) := by decide +kernel
theorem d4_16 : decode prog_15_method_4_code 16 = .ok (.isub, 1) := by decide +kernel
theorem d4_17 : decode prog_15_method_4_code 17 = .ok (.aload_n 0, 1) := by decide +kernel
theorem d4_18 : decode prog_15_method_4_code 18 = .ok (.getfield 7, 3) := by decide +kernel
theorem d4_21 : decode prog_15_method_4_code 21 = .ok (.iload 5, 2) := by decide +kernel
theorem d4_23 : decode prog_15_method_4_code 23 = .ok (.caload, 1) := by decide +kernel
theorem d4_24 : decode prog_15_method_4_code 24 = .ok (.iastore, 1) := by decide +kernel
theorem d4_25 : decode prog_15_method_4_code 25 = .ok (.iinc 5 1, 3) := by decide +kernel
theorem d4_28 : decode prog_15_method_4_code 28 = .ok (.goto (-25), 3) := by decide +kernel
theorem ef_rm4 (m : MethodId) (x0 : Addr) (x1 : Int32) (x2 : Int32) (x3 : Addr) (x4 : Int32) : entryFrame m #[(.ref x0), (.int x1), (.int x2), (.ref x3), (.int x4)] 6 = mkF m 0 #[.val (.ref x0), .val (.int x1), .val (.int x2), .val (.ref x3), .val (.int x4), .unset] [] := by first | (simp [entryFrame, mkF, argsToLocals, Value.category]; done) | rfl
def own_Q4 (Z : State) (a3 : Addr) (k3 : ClassId) (vs : List Value) (h0 : Heap) (n0 : Nat) (v : Option Value) (h : Heap) (L : List Loc) : Prop := v = none ∧ Fr n0 L ∧ Keep h0 h [a3] ∧ Arv Z h a3 k3 .int (6 : Int32) vs (.int (0 : Int32))
set_option maxRecDepth 65536 in
set_option maxHeartbeats 40000000 in
theorem rm4 (l : Launch) (Z : State) (a0 : Array Value) (hw : ∀ d ∈ tables_1, d.before a0 Z = true) (ws : List Jvm.Cond) (a1 a3 ac : Addr) (k3 kc : ClassId) (pf pt pa : Int32) (cs : List Int32) (vs0 : List Value) (tN fN nN : Nat) (h0 : Heap) (n0 : Nat) (Z0 : n0 ≤ h0.size) (F_a1 : Fld Z h0 a1 "com/example/libsubstr/libsubstr/CharArrayText" "chars" "[C" (.ref ac)) (V_c : Arv Z h0 ac kc .char (4 : Int32) (cs.map Value.int) (.int (0 : Int32))) (V_3 : Arv Z h0 a3 k3 .int (6 : Int32) vs0 (.int (0 : Int32))) (ne1 : a1 ≠ a3) (ne2 : ac ≠ a3) (g_3 : n0 ≤ a3) (hlen0 : vs0.length = 6) (b1 : pf.toInt = fN) (b2 : pt.toInt = fN + nN) (b3 : pa.toInt = tN) (b4 : fN + nN ≤ 4) (b5 : tN + nN ≤ 6) : own_Met l Z (⟨"com/example/libsubstr/libsubstr/CharArrayText", "copy", "(II[II)V"⟩ : MethodName) prog_15_method_4_code 6 none ws (own_R 0 0 0 0) #[(.ref a1), (.int pf), (.int pt), (.ref a3), (.int pa)] h0 (own_Q4 Z a3 k3 (own_cp cs tN fN nN vs0) h0 n0) := by
  refine own_enter n0 own_pn50 (fun m => ef_rm4 m a1 pf pt a3 pa ) (fun p e s m below meth c s₁ hx hby hlk hml hret hown hnm hZ X0 e0 N0 => ?_)
  show own_Fin p e below s _ _ _ s₁ (mkF m 0 #[.val (.ref a1), .val (.int pf), .val (.int pt), .val (.ref a3), .val (.int pa), .unset] [])
  have Kp11 : Keep h0 h0 [a3] := Keep.refl h0 _
  refine own_by (fun _ k => XS.iloadN X0.here hx rfl (hb hby d4_0) rfl (XS.istore X0.here hx rfl (hb hby d4_1) rfl (l' := #[.val (.ref a1), .val (.int pf), .val (.int pt), .val (.ref a3), .val (.int pa), .val (.int pf)]) rfl k)) ?_
  show own_Fin p e below s _ _ _ s₁ (mkF m 3 #[.val (.ref a1), .val (.int pf), .val (.int pt), .val (.ref a3), .val (.int pa), .val (.int pf)] [])
  have loop : ∀ (k : Nat) (i : Int32) (vs : List Value) (T : State) (h : Heap) (fj tj : Nat) {locs : List Loc} (X : Stand p l e (own_R 0 0 0 0) s m #[(.ref a1), (.int pf), (.int pt), (.ref a3), (.int pa)] below meth c T locs 0 0) (eT : T.heap = h) (N : Fr n0 locs) (K : Keep h0 h [a3]) (Fi : Fld Z h a1 "com/example/libsubstr/libsubstr/CharArrayText" "chars" "[C" (.ref ac)) (Vi : Arv Z h ac kc .char (4 : Int32) (cs.map Value.int) (.int (0 : Int32))) (V3i : Arv Z h a3 k3 .int (6 : Int32) vs (.int (0 : Int32))) (hlen : vs.length = 6) (hR : own_cp cs tj fj k vs = own_cp cs tN fN nN vs0) (hi : i.toInt = fj) (hto : pt.toInt = fj + k) (htf : pa.toInt - pf.toInt = tj - fj) (hb4 : fj + k ≤ 4) (hb5 : tj + k ≤ 6), own_Fin p e below s (own_R 0 0 0 0).cells (own_R 0 0 0 0).slots (own_Q4 Z a3 k3 (own_cp cs tN fN nN vs0) h0 n0) T (mkF m 3 #[.val (.ref a1), .val (.int pf), .val (.int pt), .val (.ref a3), .val (.int pa), .val (.int i)] []) := by
    intro k
    induction k with
    | zero =>
      intro i vs T h fj tj locs X eT N K Fi Vi V3i hlen hR hi hto htf hb4 hb5
      show own_Fin p e below s _ _ _ T (mkF m 3 #[.val (.ref a1), .val (.int pf), .val (.int pt), .val (.ref a3), .val (.int pa), .val (.int i)] [])
      refine own_by (fun _ k => XS.iload X.here hx rfl (hb hby d4_3) rfl (XS.iloadN X.here hx rfl (hb hby d4_5) rfl k)) ?_
      show own_Fin p e below s _ _ _ T (mkF m 6 #[.val (.ref a1), .val (.int pf), .val (.int pt), .val (.ref a3), .val (.int pa), .val (.int i)] [(.int pt), (.int i)])
      refine own_by (fun _ k => XS.icmpYes X.here hx rfl (pc0 := 6) (pc' := 31) rfl (hb hby d4_6) rfl (flt (own_nlt hi hto)).2.1 (by decide) (by decide) k) ?_
      show own_Fin p e below s _ _ _ T (mkF m 31 #[.val (.ref a1), .val (.int pf), .val (.int pt), .val (.ref a3), .val (.int pa), .val (.int i)] [])
      exact own_retV X hx hlk hret (hb hby d4_31) (by rw [eT]; exact ⟨rfl, N, K, hR ▸ V3i⟩) (by decide) (by decide)
    | succ k ih =>
      intro i vs T h fj tj locs X eT N K Fi Vi V3i hlen hR hi hto htf hb4 hb5
      show own_Fin p e below s _ _ _ T (mkF m 3 #[.val (.ref a1), .val (.int pf), .val (.int pt), .val (.ref a3), .val (.int pa), .val (.int i)] [])
      refine own_by (fun _ k => XS.iload X.here hx rfl (hb hby d4_3) rfl (XS.iloadN X.here hx rfl (hb hby d4_5) rfl k)) ?_
      show own_Fin p e below s _ _ _ T (mkF m 6 #[.val (.ref a1), .val (.int pf), .val (.int pt), .val (.ref a3), .val (.int pa), .val (.int i)] [(.int pt), (.int i)])
      refine own_by (fun _ k => XS.icmpNo X.here hx rfl (hb hby d4_6) rfl (tlt (own_lt hi hto)).2.1 k) ?_
      show own_Fin p e below s _ _ _ T (mkF m 9 #[.val (.ref a1), .val (.int pf), .val (.int pt), .val (.ref a3), .val (.int pa), .val (.int i)] [])
      refine own_by (fun _ k => XS.aloadN X.here hx rfl (hb hby d4_9) rfl rfl (XS.iload X.here hx rfl (hb hby d4_10) rfl (XS.iload X.here hx rfl (hb hby d4_12) rfl (XS.iadd X.here hx rfl (hb hby d4_14) rfl (XS.iloadN X.here hx rfl (hb hby d4_15) rfl (XS.isub X.here hx rfl (hb hby d4_16) rfl (XS.aloadN X.here hx rfl (hb hby d4_17) rfl rfl k))))))) ?_
      show own_Fin p e below s _ _ _ T (mkF m 18 #[.val (.ref a1), .val (.int pf), .val (.int pt), .val (.ref a3), .val (.int pa), .val (.int i)] [(.ref a1), (.int ((pa + i) - pf)), (.ref a3)])
      obtain ⟨T12, X12, e12, st12⟩ := getF X hx hZ hown (host := "") (Or.inl (hw _ (List.mem_of_getElem? (i := 17) rfl))) Via.refl eT Fi (g := (mkF m 18 #[.val (.ref a1), .val (.int pf), .val (.int pt), .val (.ref a3), .val (.int pa), .val (.int i)] [(.ref a1), (.int ((pa + i) - pf)), (.ref a3)])) rfl rfl (hb hby d4_18)
      refine own_by (fun _ k => st12 _ k) ?_
      show own_Fin p e below s _ _ _ T12 (mkF m 21 #[.val (.ref a1), .val (.int pf), .val (.int pt), .val (.ref a3), .val (.int pa), .val (.int i)] [(.ref ac), (.int ((pa + i) - pf)), (.ref a3)])
      refine own_by (fun _ k => XS.iload X12.here hx rfl (hb hby d4_21) rfl k) ?_
      show own_Fin p e below s _ _ _ T12 (mkF m 23 #[.val (.ref a1), .val (.int pf), .val (.int pt), .val (.ref a3), .val (.int pa), .val (.int i)] [(.int i), (.ref ac), (.int ((pa + i) - pf)), (.ref a3)])
      obtain ⟨cl13, Ar13, -, S13, M13, H13, -⟩ := id Vi
      have hin13 : ¬ (i < 0 ∨ cl13.slots.size ≤ (i).toNatClampNeg) := inb_of S13 (own_i4 hi (by omega))
      have hat13 : cl13.slots[(i).toNatClampNeg]? = some (.int (cs.getD fj 0)) := Has.at H13 hin13 (by rw [own_nc hi]; exact own_getD cs fj)
      refine own_by (fun _ k => X12.caload hx (j := i) (v := (.int (cs.getD fj 0))) (by rw [e12]; exact Ar13.1) (State.isArrayOf_alike hZ.alike Ar13.2.1) Ar13.2.2 hin13 hat13 (g := (mkF m 23 #[.val (.ref a1), .val (.int pf), .val (.int pt), .val (.ref a3), .val (.int pa), .val (.int i)] [(.int i), (.ref ac), (.int ((pa + i) - pf)), (.ref a3)])) rfl rfl (hb hby d4_23) _ k) ?_
      show own_Fin p e below s _ _ _ T12 (mkF m 24 #[.val (.ref a1), .val (.int pf), .val (.int pt), .val (.ref a3), .val (.int pa), .val (.int i)] [(.int (cs.getD fj 0)), (.int ((pa + i) - pf)), (.ref a3)])
      obtain ⟨cl14, Ar14, q14, S14, M14, H14, G14⟩ := id V3i
      have hin14 : ¬ (((pa + i) - pf) < 0 ∨ cl14.slots.size ≤ (((pa + i) - pf)).toNatClampNeg) := inb_of S14 ⟨(own_ix hi htf (by omega) (by omega) (by omega) (by omega)).1, (own_ix hi htf (by omega) (by omega) (by omega) (by omega)).2.1⟩
      obtain ⟨T14, h14, X14, e14, W14, st14⟩ := stI X12 hx hZ e12 Ar14 (j := ((pa + i) - pf)) hin14 (g := (mkF m 24 #[.val (.ref a1), .val (.int pf), .val (.int pt), .val (.ref a3), .val (.int pa), .val (.int i)] [(.int (cs.getD fj 0)), (.int ((pa + i) - pf)), (.ref a3)])) rfl rfl (hb hby d4_24)
      refine own_by (fun _ k => st14 _ k) ?_
      have V14 : Arv Z h14 a3 k3 .int (6 : Int32) (vs.set tj (.int (cs.getD fj 0))) (.int (0 : Int32)) := Arv.set Ar14 q14 S14 M14 H14 G14 rfl W14 tj (own_ix hi htf (by omega) (by omega) (by omega) (by omega)).2.2 (by omega)
      have Kp14 : Keep h0 h14 [a3] := K.wr W14 (Or.inl (List.mem_of_getElem? (i := 0) rfl))
      have Zs14 : n0 ≤ h14.size := Nat.le_trans (Nat.le_trans Z0 K.1) (Keep.of_wr W14).1
      have N14 := Fr.snoc X14 N g_3
      have f15_0 : Fld Z h14 a1 "com/example/libsubstr/libsubstr/CharArrayText" "chars" "[C" (.ref ac) := Fi.other W14 (Or.inl ne1)
      have f15_1 : Arv Z h14 ac kc .char (4 : Int32) (cs.map Value.int) (.int (0 : Int32)) := Vi.other W14 ne2
      show own_Fin p e below s _ _ _ T14 (mkF m 25 #[.val (.ref a1), .val (.int pf), .val (.int pt), .val (.ref a3), .val (.int pa), .val (.int i)] [])
      refine own_by (fun _ k => XS.iinc X14.here hx rfl (hb hby d4_25) rfl (l' := #[.val (.ref a1), .val (.int pf), .val (.int pt), .val (.ref a3), .val (.int pa), .val (.int (i + (1 : Int32)))]) rfl (XS.goto X14.here hx rfl (pc0 := 28) (pc' := 3) rfl (hb hby d4_28) (by decide) (by decide) k)) ?_
      show own_Fin p e below s _ _ _ T14 (mkF m 3 #[.val (.ref a1), .val (.int pf), .val (.int pt), .val (.ref a3), .val (.int pa), .val (.int (i + (1 : Int32)))] [])
      exact ih (i + (1 : Int32)) _ T14 _ (fj + 1) (tj + 1) X14 e14 N14 Kp14 f15_0 f15_1 V14 (by rw [List.length_set]; exact hlen) (by rw [← hR]; rfl) (own_inc hi (by omega)) (by omega) (by omega) (by omega) (by omega)
  exact loop nN pf vs0 s₁ h0 fN tN X0 e0 N0 Kp11 F_a1 V_c V_3 hlen0 rfl b1 b2 (by omega) b4 b5
theorem own_pd79 : parseMethodDescriptor "([C)V" = some ⟨[(.array .char)], none⟩ := by decide +kernel
theorem own_pd80 : parseMethodDescriptor "(II[II)V" = some ⟨[.int, .int, (.array .int), .int], none⟩ := by decide +kernel
theorem own_pd81 : parseMethodDescriptor "(IIIIIII)I" = some ⟨[.int, .int, .int, .int, .int, .int, .int], some .int⟩ := by decide +kernel
theorem ef_rm0 (m : MethodId) (x0 : Int32) (x1 : Int32) (x2 : Int32) (x3 : Int32) : entryFrame m #[(.int x0), (.int x1), (.int x2), (.int x3)] maxLocals = mkF m 0 #[.val (.int x0), .val (.int x1), .val (.int x2), .val (.int x3), .unset, .unset, .unset, .unset, .unset, .unset, .unset] [] := by first | (simp [entryFrame, mkF, argsToLocals, Value.category, maxLocals]; done) | rfl
def own_Q0 (n0 : Nat) (v : Option Value) (h : Heap) (L : List Loc) : Prop := v = some (.int (1 : Int32)) ∧ Fr n0 L
set_option maxRecDepth 65536 in
set_option maxHeartbeats 40000000 in
theorem rm0 (l : Launch) (Z : State) (a0 : Array Value) (hw : ∀ d ∈ tables_1, d.before a0 Z = true) (ws : List Jvm.Cond) (p1 p2 p3 p4 : Int32) (h0 : Heap) (n0 : Nat) (Z0 : n0 ≤ h0.size)  :
    MetFree l x (head1 (Jvm.Cond.code x code maxLocals ret :: ws) room_1) (fun a U => a = #[(.int p1), (.int p2), (.int p3), (.int p4)] ∧ Z.Warmed39 U.vm ∧ U.heap = h0) (fun _ _ _ _ _ => True) (fun _ U o U' => ∃ v L, o = .returned v ∧ own_Q0 n0 v U'.heap L ∧ FrameEnd U o U' L room_1.cells room_1.slots) := by
  refine MetFree.of_bodySF (plainFor_of_name own_pn1) hisR ?_
  intro p e s m args below meth c s₁ Bd hml0 hP hK
  obtain ⟨rfl, hZ, hh⟩ := hP
  have hx := Bd.exec
  have hby := Bd.bytes
  have hlk := Bd.notSynchronized
  have hml : c.maxLocals = 11 := hml0
  have hown : s.vm.findClass "com/example/libsubstr/libsubstr/CharArrayTextCopyPinLaw" = some m.cls := findClass_of_methodNamed Bd.named
  have hnm := (name_of_methodNamed Bd.named Bd.method).1
  have X0 : Stand p l e room_1 s m #[(.int p1), (.int p2), (.int p3), (.int p4)] below meth c s₁ [] 0 0 := Stand.of_body Bd
  have e0 : s₁.heap = h0 := by rw [← hh, Bd.state]; rfl
  have N0 := Fr.nil n0
  refine own_start (Q := own_Q0 n0) (C := room_1.cells) (N := room_1.slots) (ef_rm0 m p1 p2 p3 p4 ) ?_
  show own_Fin p e below s _ _ _ s₁ (mkF m 0 #[.val (.int p1), .val (.int p2), .val (.int p3), .val (.int p4), .unset, .unset, .unset, .unset, .unset, .unset, .unset] [])
  obtain ⟨f, n, t, hf, hz1, hn, hz2, ht, q0, q1, q2, q3, q4⟩ := own_three p3
  refine own_by (fun _ k => XS.iconst X0.here hx rfl (hb hby at_0) k) ?_
  show own_Fin p e below s _ _ _ s₁ (mkF m 1 #[.val (.int p1), .val (.int p2), .val (.int p3), .val (.int p4), .unset, .unset, .unset, .unset, .unset, .unset, .unset] [(.int (4 : Int32))])
  obtain ⟨T16, h16, k16, X16, e16, E16, A16, st16⟩ := newP X0 hx hZ (hw _ (List.mem_of_getElem? (i := 0) rfl)) e0 (g := (mkF m 1 #[.val (.int p1), .val (.int p2), .val (.int p3), .val (.int p4), .unset, .unset, .unset, .unset, .unset, .unset, .unset] [(.int (4 : Int32))])) rfl (hb hby at_1) rfl (by decide) (cap := 4) (by decide) (by decide) (by decide) (by decide)
  obtain ⟨b16, g16⟩ : ∃ z, z = h0.size := ⟨_, rfl⟩
  rw [← g16] at A16 st16
  refine own_by (fun _ k => st16 _ k) ?_
  have V16 : Arv Z h16 b16 k16 .char (4 : Int32) [(.int (0 : Int32)), (.int (0 : Int32)), (.int (0 : Int32)), (.int (0 : Int32))] (.int (0 : Int32)) := (Arv.new A16 (by decide)).pad (pad_rep [] (.int (0 : Int32)) 4)
  have gf16 : n0 ≤ b16 := Nat.le_trans Z0 (Nat.le_of_eq g16.symm)
  have Zs16 : n0 ≤ h16.size := Nat.le_trans Z0 E16.1
  show own_Fin p e below s _ _ _ T16 (mkF m 3 #[.val (.int p1), .val (.int p2), .val (.int p3), .val (.int p4), .unset, .unset, .unset, .unset, .unset, .unset, .unset] [(.ref b16)])
  refine own_by (fun _ k => XS.astore X16.here hx rfl (hb hby at_3) rfl rfl (l' := #[.val (.int p1), .val (.int p2), .val (.int p3), .val (.int p4), .val (.ref b16), .unset, .unset, .unset, .unset, .unset, .unset]) rfl (XS.aload X16.here hx rfl (hb hby at_5) rfl rfl (XS.iconst X16.here hx rfl (hb hby at_7) (XS.iloadN X16.here hx rfl (hb hby at_8) rfl k)))) ?_
  show own_Fin p e below s _ _ _ T16 (mkF m 9 #[.val (.int p1), .val (.int p2), .val (.int p3), .val (.int p4), .val (.ref b16), .unset, .unset, .unset, .unset, .unset, .unset] [(.int p1), (.int (0 : Int32)), (.ref b16)])
  refine own_by (fun _ k => X16.ldcInt hx hown (mvT hZ (hw _ (List.mem_of_getElem? (i := 1) rfl))) (g := (mkF m 9 #[.val (.int p1), .val (.int p2), .val (.int p3), .val (.int p4), .val (.ref b16), .unset, .unset, .unset, .unset, .unset, .unset] [(.int p1), (.int (0 : Int32)), (.ref b16)])) rfl (hb hby at_9) _ k) ?_
  show own_Fin p e below s _ _ _ T16 (mkF m 11 #[.val (.int p1), .val (.int p2), .val (.int p3), .val (.int p4), .val (.ref b16), .unset, .unset, .unset, .unset, .unset, .unset] [(.int (65535 : Int32)), (.int p1), (.int (0 : Int32)), (.ref b16)])
  refine own_by (fun _ k => XS.iand X16.here hx rfl (hb hby at_11) rfl (XS.i2c X16.here hx rfl (hb hby at_12) rfl k)) ?_
  show own_Fin p e below s _ _ _ T16 (mkF m 13 #[.val (.int p1), .val (.int p2), .val (.int p3), .val (.int p4), .val (.ref b16), .unset, .unset, .unset, .unset, .unset, .unset] [(.int ((p1 &&& (65535 : Int32)).toUInt32.toUInt16.toUInt32.toInt32)), (.int (0 : Int32)), (.ref b16)])
  obtain ⟨cl18, Ar18, q18, S18, M18, H18, G18⟩ := id V16
  have hin18 : ¬ ((0 : Int32) < 0 ∨ cl18.slots.size ≤ ((0 : Int32)).toNatClampNeg) := inb_of S18 ⟨by decide, by decide⟩
  obtain ⟨T18, h18, X18, e18, W18, st18⟩ := stC X16 hx hZ e16 Ar18 (j := (0 : Int32)) hin18 (g := (mkF m 13 #[.val (.int p1), .val (.int p2), .val (.int p3), .val (.int p4), .val (.ref b16), .unset, .unset, .unset, .unset, .unset, .unset] [(.int ((p1 &&& (65535 : Int32)).toUInt32.toUInt16.toUInt32.toInt32)), (.int (0 : Int32)), (.ref b16)])) rfl rfl (hb hby at_13)
  refine own_by (fun _ k => st18 _ k) ?_
  have V18 : Arv Z h18 b16 k16 .char (4 : Int32) [(.int ((p1 &&& (65535 : Int32)).toUInt32.toUInt16.toUInt32.toInt32).toUInt32.toUInt16.toUInt32.toInt32), (.int (0 : Int32)), (.int (0 : Int32)), (.int (0 : Int32))] (.int (0 : Int32)) := Arv.set Ar18 q18 S18 M18 H18 G18 (fits_nar_char _) W18 0 rfl (Nat.le_of_ble_eq_true rfl)
  have Zs18 : n0 ≤ h18.size := Nat.le_trans Zs16 (Keep.of_wr W18).1
  have N18 := Fr.snoc X18 N0 gf16
  show own_Fin p e below s _ _ _ T18 (mkF m 14 #[.val (.int p1), .val (.int p2), .val (.int p3), .val (.int p4), .val (.ref b16), .unset, .unset, .unset, .unset, .unset, .unset] [])
  refine own_by (fun _ k => XS.aload X18.here hx rfl (hb hby at_14) rfl rfl (XS.iconst X18.here hx rfl (hb hby at_16) (XS.iloadN X18.here hx rfl (hb hby at_17) rfl (XS.bipush X18.here hx rfl (hb hby at_18) (XS.iushr X18.here hx rfl (hb hby at_20) rfl (XS.i2c X18.here hx rfl (hb hby at_21) rfl k)))))) ?_
  show own_Fin p e below s _ _ _ T18 (mkF m 22 #[.val (.int p1), .val (.int p2), .val (.int p3), .val (.int p4), .val (.ref b16), .unset, .unset, .unset, .unset, .unset, .unset] [(.int (((p1.toUInt32 >>> ((16 : Int32) &&& 31).toUInt32).toInt32).toUInt32.toUInt16.toUInt32.toInt32)), (.int (1 : Int32)), (.ref b16)])
  obtain ⟨cl20, Ar20, q20, S20, M20, H20, G20⟩ := id V18
  have hin20 : ¬ ((1 : Int32) < 0 ∨ cl20.slots.size ≤ ((1 : Int32)).toNatClampNeg) := inb_of S20 ⟨by decide, by decide⟩
  obtain ⟨T20, h20, X20, e20, W20, st20⟩ := stC X18 hx hZ e18 Ar20 (j := (1 : Int32)) hin20 (g := (mkF m 22 #[.val (.int p1), .val (.int p2), .val (.int p3), .val (.int p4), .val (.ref b16), .unset, .unset, .unset, .unset, .unset, .unset] [(.int (((p1.toUInt32 >>> ((16 : Int32) &&& 31).toUInt32).toInt32).toUInt32.toUInt16.toUInt32.toInt32)), (.int (1 : Int32)), (.ref b16)])) rfl rfl (hb hby at_22)
  refine own_by (fun _ k => st20 _ k) ?_
  have V20 : Arv Z h20 b16 k16 .char (4 : Int32) [(.int ((p1 &&& (65535 : Int32)).toUInt32.toUInt16.toUInt32.toInt32).toUInt32.toUInt16.toUInt32.toInt32), (.int (((p1.toUInt32 >>> ((16 : Int32) &&& 31).toUInt32).toInt32).toUInt32.toUInt16.toUInt32.toInt32).toUInt32.toUInt16.toUInt32.toInt32), (.int (0 : Int32)), (.int (0 : Int32))] (.int (0 : Int32)) := Arv.set Ar20 q20 S20 M20 H20 G20 (fits_nar_char _) W20 1 rfl (Nat.le_of_ble_eq_true rfl)
  have Zs20 : n0 ≤ h20.size := Nat.le_trans Zs18 (Keep.of_wr W20).1
  have N20 := Fr.snoc X20 N18 gf16
  show own_Fin p e below s _ _ _ T20 (mkF m 23 #[.val (.int p1), .val (.int p2), .val (.int p3), .val (.int p4), .val (.ref b16), .unset, .unset, .unset, .unset, .unset, .unset] [])
  refine own_by (fun _ k => XS.aload X20.here hx rfl (hb hby at_23) rfl rfl (XS.iconst X20.here hx rfl (hb hby at_25) (XS.iloadN X20.here hx rfl (hb hby at_26) rfl k))) ?_
  show own_Fin p e below s _ _ _ T20 (mkF m 27 #[.val (.int p1), .val (.int p2), .val (.int p3), .val (.int p4), .val (.ref b16), .unset, .unset, .unset, .unset, .unset, .unset] [(.int p2), (.int (2 : Int32)), (.ref b16)])
  refine own_by (fun _ k => X20.ldcInt hx hown (mvT hZ (hw _ (List.mem_of_getElem? (i := 1) rfl))) (g := (mkF m 27 #[.val (.int p1), .val (.int p2), .val (.int p3), .val (.int p4), .val (.ref b16), .unset, .unset, .unset, .unset, .unset, .unset] [(.int p2), (.int (2 : Int32)), (.ref b16)])) rfl (hb hby at_27) _ k) ?_
  show own_Fin p e below s _ _ _ T20 (mkF m 29 #[.val (.int p1), .val (.int p2), .val (.int p3), .val (.int p4), .val (.ref b16), .unset, .unset, .unset, .unset, .unset, .unset] [(.int (65535 : Int32)), (.int p2), (.int (2 : Int32)), (.ref b16)])
  refine own_by (fun _ k => XS.iand X20.here hx rfl (hb hby at_29) rfl (XS.i2c X20.here hx rfl (hb hby at_30) rfl k)) ?_
  show own_Fin p e below s _ _ _ T20 (mkF m 31 #[.val (.int p1), .val (.int p2), .val (.int p3), .val (.int p4), .val (.ref b16), .unset, .unset, .unset, .unset, .unset, .unset] [(.int ((p2 &&& (65535 : Int32)).toUInt32.toUInt16.toUInt32.toInt32)), (.int (2 : Int32)), (.ref b16)])
  obtain ⟨cl22, Ar22, q22, S22, M22, H22, G22⟩ := id V20
  have hin22 : ¬ ((2 : Int32) < 0 ∨ cl22.slots.size ≤ ((2 : Int32)).toNatClampNeg) := inb_of S22 ⟨by decide, by decide⟩
  obtain ⟨T22, h22, X22, e22, W22, st22⟩ := stC X20 hx hZ e20 Ar22 (j := (2 : Int32)) hin22 (g := (mkF m 31 #[.val (.int p1), .val (.int p2), .val (.int p3), .val (.int p4), .val (.ref b16), .unset, .unset, .unset, .unset, .unset, .unset] [(.int ((p2 &&& (65535 : Int32)).toUInt32.toUInt16.toUInt32.toInt32)), (.int (2 : Int32)), (.ref b16)])) rfl rfl (hb hby at_31)
  refine own_by (fun _ k => st22 _ k) ?_
  have V22 : Arv Z h22 b16 k16 .char (4 : Int32) [(.int ((p1 &&& (65535 : Int32)).toUInt32.toUInt16.toUInt32.toInt32).toUInt32.toUInt16.toUInt32.toInt32), (.int (((p1.toUInt32 >>> ((16 : Int32) &&& 31).toUInt32).toInt32).toUInt32.toUInt16.toUInt32.toInt32).toUInt32.toUInt16.toUInt32.toInt32), (.int ((p2 &&& (65535 : Int32)).toUInt32.toUInt16.toUInt32.toInt32).toUInt32.toUInt16.toUInt32.toInt32), (.int (0 : Int32))] (.int (0 : Int32)) := Arv.set Ar22 q22 S22 M22 H22 G22 (fits_nar_char _) W22 2 rfl (Nat.le_of_ble_eq_true rfl)
  have Zs22 : n0 ≤ h22.size := Nat.le_trans Zs20 (Keep.of_wr W22).1
  have N22 := Fr.snoc X22 N20 gf16
  show own_Fin p e below s _ _ _ T22 (mkF m 32 #[.val (.int p1), .val (.int p2), .val (.int p3), .val (.int p4), .val (.ref b16), .unset, .unset, .unset, .unset, .unset, .unset] [])
  refine own_by (fun _ k => XS.aload X22.here hx rfl (hb hby at_32) rfl rfl (XS.iconst X22.here hx rfl (hb hby at_34) (XS.iloadN X22.here hx rfl (hb hby at_35) rfl (XS.bipush X22.here hx rfl (hb hby at_36) (XS.iushr X22.here hx rfl (hb hby at_38) rfl (XS.i2c X22.here hx rfl (hb hby at_39) rfl k)))))) ?_
  show own_Fin p e below s _ _ _ T22 (mkF m 40 #[.val (.int p1), .val (.int p2), .val (.int p3), .val (.int p4), .val (.ref b16), .unset, .unset, .unset, .unset, .unset, .unset] [(.int (((p2.toUInt32 >>> ((16 : Int32) &&& 31).toUInt32).toInt32).toUInt32.toUInt16.toUInt32.toInt32)), (.int (3 : Int32)), (.ref b16)])
  obtain ⟨cl24, Ar24, q24, S24, M24, H24, G24⟩ := id V22
  have hin24 : ¬ ((3 : Int32) < 0 ∨ cl24.slots.size ≤ ((3 : Int32)).toNatClampNeg) := inb_of S24 ⟨by decide, by decide⟩
  obtain ⟨T24, h24, X24, e24, W24, st24⟩ := stC X22 hx hZ e22 Ar24 (j := (3 : Int32)) hin24 (g := (mkF m 40 #[.val (.int p1), .val (.int p2), .val (.int p3), .val (.int p4), .val (.ref b16), .unset, .unset, .unset, .unset, .unset, .unset] [(.int (((p2.toUInt32 >>> ((16 : Int32) &&& 31).toUInt32).toInt32).toUInt32.toUInt16.toUInt32.toInt32)), (.int (3 : Int32)), (.ref b16)])) rfl rfl (hb hby at_40)
  refine own_by (fun _ k => st24 _ k) ?_
  have V24 : Arv Z h24 b16 k16 .char (4 : Int32) [(.int ((p1 &&& (65535 : Int32)).toUInt32.toUInt16.toUInt32.toInt32).toUInt32.toUInt16.toUInt32.toInt32), (.int (((p1.toUInt32 >>> ((16 : Int32) &&& 31).toUInt32).toInt32).toUInt32.toUInt16.toUInt32.toInt32).toUInt32.toUInt16.toUInt32.toInt32), (.int ((p2 &&& (65535 : Int32)).toUInt32.toUInt16.toUInt32.toInt32).toUInt32.toUInt16.toUInt32.toInt32), (.int (((p2.toUInt32 >>> ((16 : Int32) &&& 31).toUInt32).toInt32).toUInt32.toUInt16.toUInt32.toInt32).toUInt32.toUInt16.toUInt32.toInt32)] (.int (0 : Int32)) := Arv.set Ar24 q24 S24 M24 H24 G24 (fits_nar_char _) W24 3 rfl (Nat.le_of_ble_eq_true rfl)
  have Zs24 : n0 ≤ h24.size := Nat.le_trans Zs22 (Keep.of_wr W24).1
  have N24 := Fr.snoc X24 N22 gf16
  show own_Fin p e below s _ _ _ T24 (mkF m 41 #[.val (.int p1), .val (.int p2), .val (.int p3), .val (.int p4), .val (.ref b16), .unset, .unset, .unset, .unset, .unset, .unset] [])
  have Vc : Arv Z h24 b16 k16 .char (4 : Int32) [(.int (p1 &&& (65535 : Int32))), (.int ((p1.toUInt32 >>> ((16 : Int32) &&& 31).toUInt32).toInt32)), (.int (p2 &&& (65535 : Int32))), (.int ((p2.toUInt32 >>> ((16 : Int32) &&& 31).toUInt32).toInt32))] (.int (0 : Int32)) := by have q := V24; simp only [own_c16a, own_c16b] at q; exact q
  refine own_by (fun _ k => XS.iloadN X24.here hx rfl (hb hby at_41) rfl (XS.bipush X24.here hx rfl (hb hby at_42) (XS.iand X24.here hx rfl (hb hby at_44) rfl (XS.iconst X24.here hx rfl (hb hby at_45) (iremM X24 hx rfl (hb hby at_46) rfl (by decide) k))))) ?_
  show own_Fin p e below s _ _ _ T24 (mkF m 47 #[.val (.int p1), .val (.int p2), .val (.int p3), .val (.int p4), .val (.ref b16), .unset, .unset, .unset, .unset, .unset, .unset] [(.int ((p3 &&& (7 : Int32)) % (5 : Int32)))])
  rw [hf]
  show own_Fin p e below s _ _ _ T24 (mkF m 47 #[.val (.int p1), .val (.int p2), .val (.int p3), .val (.int p4), .val (.ref b16), .unset, .unset, .unset, .unset, .unset, .unset] [(.int f)])
  refine own_by (fun _ k => XS.istore X24.here hx rfl (hb hby at_47) rfl (l' := #[.val (.int p1), .val (.int p2), .val (.int p3), .val (.int p4), .val (.ref b16), .val (.int f), .unset, .unset, .unset, .unset, .unset]) rfl (XS.iloadN X24.here hx rfl (hb hby at_49) rfl (XS.iconst X24.here hx rfl (hb hby at_50) (XS.iushr X24.here hx rfl (hb hby at_51) rfl (XS.bipush X24.here hx rfl (hb hby at_52) (XS.iand X24.here hx rfl (hb hby at_54) rfl (XS.iconst X24.here hx rfl (hb hby at_55) (XS.iload X24.here hx rfl (hb hby at_56) rfl (XS.isub X24.here hx rfl (hb hby at_58) rfl (iremM X24 hx rfl (hb hby at_59) rfl hz1 k)))))))))) ?_
  show own_Fin p e below s _ _ _ T24 (mkF m 60 #[.val (.int p1), .val (.int p2), .val (.int p3), .val (.int p4), .val (.ref b16), .val (.int f), .unset, .unset, .unset, .unset, .unset] [(.int ((((p3.toUInt32 >>> ((3 : Int32) &&& 31).toUInt32).toInt32) &&& (7 : Int32)) % ((5 : Int32) - f)))])
  rw [hn]
  show own_Fin p e below s _ _ _ T24 (mkF m 60 #[.val (.int p1), .val (.int p2), .val (.int p3), .val (.int p4), .val (.ref b16), .val (.int f), .unset, .unset, .unset, .unset, .unset] [(.int n)])
  refine own_by (fun _ k => XS.istore X24.here hx rfl (hb hby at_60) rfl (l' := #[.val (.int p1), .val (.int p2), .val (.int p3), .val (.int p4), .val (.ref b16), .val (.int f), .val (.int n), .unset, .unset, .unset, .unset]) rfl (XS.iload X24.here hx rfl (hb hby at_62) rfl (XS.iload X24.here hx rfl (hb hby at_64) rfl (XS.iadd X24.here hx rfl (hb hby at_66) rfl (XS.istore X24.here hx rfl (hb hby at_67) rfl (l' := #[.val (.int p1), .val (.int p2), .val (.int p3), .val (.int p4), .val (.ref b16), .val (.int f), .val (.int n), .val (.int (f + n)), .unset, .unset, .unset]) rfl (XS.iloadN X24.here hx rfl (hb hby at_69) rfl (XS.bipush X24.here hx rfl (hb hby at_70) (XS.iushr X24.here hx rfl (hb hby at_72) rfl (XS.bipush X24.here hx rfl (hb hby at_73) (XS.iand X24.here hx rfl (hb hby at_75) rfl k)))))))))) ?_
  show own_Fin p e below s _ _ _ T24 (mkF m 76 #[.val (.int p1), .val (.int p2), .val (.int p3), .val (.int p4), .val (.ref b16), .val (.int f), .val (.int n), .val (.int (f + n)), .unset, .unset, .unset] [(.int (((p3.toUInt32 >>> ((6 : Int32) &&& 31).toUInt32).toInt32) &&& (7 : Int32)))])
  refine own_by (fun _ k => XS.bipush X24.here hx rfl (hb hby at_76) (XS.iload X24.here hx rfl (hb hby at_78) rfl (XS.isub X24.here hx rfl (hb hby at_80) rfl (iremM X24 hx rfl (hb hby at_81) rfl hz2 k)))) ?_
  show own_Fin p e below s _ _ _ T24 (mkF m 82 #[.val (.int p1), .val (.int p2), .val (.int p3), .val (.int p4), .val (.ref b16), .val (.int f), .val (.int n), .val (.int (f + n)), .unset, .unset, .unset] [(.int ((((p3.toUInt32 >>> ((6 : Int32) &&& 31).toUInt32).toInt32) &&& (7 : Int32)) % ((7 : Int32) - n)))])
  rw [ht]
  show own_Fin p e below s _ _ _ T24 (mkF m 82 #[.val (.int p1), .val (.int p2), .val (.int p3), .val (.int p4), .val (.ref b16), .val (.int f), .val (.int n), .val (.int (f + n)), .unset, .unset, .unset] [(.int t)])
  refine own_by (fun _ k => XS.istore X24.here hx rfl (hb hby at_82) rfl (l' := #[.val (.int p1), .val (.int p2), .val (.int p3), .val (.int p4), .val (.ref b16), .val (.int f), .val (.int n), .val (.int (f + n)), .val (.int t), .unset, .unset]) rfl (XS.bipush X24.here hx rfl (hb hby at_84) k)) ?_
  show own_Fin p e below s _ _ _ T24 (mkF m 86 #[.val (.int p1), .val (.int p2), .val (.int p3), .val (.int p4), .val (.ref b16), .val (.int f), .val (.int n), .val (.int (f + n)), .val (.int t), .unset, .unset] [(.int (6 : Int32))])
  obtain ⟨T27, h27, k27, X27, e27, E27, A27, st27⟩ := newP X24 hx hZ (hw _ (List.mem_of_getElem? (i := 2) rfl)) e24 (g := (mkF m 86 #[.val (.int p1), .val (.int p2), .val (.int p3), .val (.int p4), .val (.ref b16), .val (.int f), .val (.int n), .val (.int (f + n)), .val (.int t), .unset, .unset] [(.int (6 : Int32))])) rfl (hb hby at_86) rfl (by decide) (cap := 6) (by decide) (by decide) (by decide) (by decide)
  obtain ⟨b27, g27⟩ : ∃ z, z = h24.size := ⟨_, rfl⟩
  rw [← g27] at A27 st27
  refine own_by (fun _ k => st27 _ k) ?_
  have V27 : Arv Z h27 b27 k27 .int (6 : Int32) [(.int (0 : Int32)), (.int (0 : Int32)), (.int (0 : Int32)), (.int (0 : Int32)), (.int (0 : Int32)), (.int (0 : Int32))] (.int (0 : Int32)) := (Arv.new A27 (by decide)).pad (pad_rep [] (.int (0 : Int32)) 6)
  have ne27_b16 : b16 ≠ b27 := Nat.ne_of_lt (Nat.lt_of_lt_of_le Vc.lt (Nat.le_of_eq g27.symm))
  have gf27 : n0 ≤ b27 := Nat.le_trans Zs24 (Nat.le_of_eq g27.symm)
  have Zs27 : n0 ≤ h27.size := Nat.le_trans Zs24 E27.1
  have f28_0 : Arv Z h27 b16 k16 .char (4 : Int32) [(.int (p1 &&& (65535 : Int32))), (.int ((p1.toUInt32 >>> ((16 : Int32) &&& 31).toUInt32).toInt32)), (.int (p2 &&& (65535 : Int32))), (.int ((p2.toUInt32 >>> ((16 : Int32) &&& 31).toUInt32).toInt32))] (.int (0 : Int32)) := Vc.ext E27
  show own_Fin p e below s _ _ _ T27 (mkF m 88 #[.val (.int p1), .val (.int p2), .val (.int p3), .val (.int p4), .val (.ref b16), .val (.int f), .val (.int n), .val (.int (f + n)), .val (.int t), .unset, .unset] [(.ref b27)])
  refine own_by (fun _ k => XS.astore X27.here hx rfl (hb hby at_88) rfl rfl (l' := #[.val (.int p1), .val (.int p2), .val (.int p3), .val (.int p4), .val (.ref b16), .val (.int f), .val (.int n), .val (.int (f + n)), .val (.int t), .val (.ref b27), .unset]) rfl (XS.aload X27.here hx rfl (hb hby at_90) rfl rfl (XS.iconst X27.here hx rfl (hb hby at_92) (XS.iloadN X27.here hx rfl (hb hby at_93) rfl k)))) ?_
  show own_Fin p e below s _ _ _ T27 (mkF m 94 #[.val (.int p1), .val (.int p2), .val (.int p3), .val (.int p4), .val (.ref b16), .val (.int f), .val (.int n), .val (.int (f + n)), .val (.int t), .val (.ref b27), .unset] [(.int p4), (.int (0 : Int32)), (.ref b27)])
  obtain ⟨cl29, Ar29, q29, S29, M29, H29, G29⟩ := id V27
  have hin29 : ¬ ((0 : Int32) < 0 ∨ cl29.slots.size ≤ ((0 : Int32)).toNatClampNeg) := inb_of S29 ⟨by decide, by decide⟩
  obtain ⟨T29, h29, X29, e29, W29, st29⟩ := stI X27 hx hZ e27 Ar29 (j := (0 : Int32)) hin29 (g := (mkF m 94 #[.val (.int p1), .val (.int p2), .val (.int p3), .val (.int p4), .val (.ref b16), .val (.int f), .val (.int n), .val (.int (f + n)), .val (.int t), .val (.ref b27), .unset] [(.int p4), (.int (0 : Int32)), (.ref b27)])) rfl rfl (hb hby at_94)
  refine own_by (fun _ k => st29 _ k) ?_
  have V29 : Arv Z h29 b27 k27 .int (6 : Int32) [(.int p4), (.int (0 : Int32)), (.int (0 : Int32)), (.int (0 : Int32)), (.int (0 : Int32)), (.int (0 : Int32))] (.int (0 : Int32)) := Arv.set Ar29 q29 S29 M29 H29 G29 rfl W29 0 rfl (Nat.le_of_ble_eq_true rfl)
  have Zs29 : n0 ≤ h29.size := Nat.le_trans Zs27 (Keep.of_wr W29).1
  have N29 := Fr.snoc X29 N24 gf27
  have f30_0 : Arv Z h29 b16 k16 .char (4 : Int32) [(.int (p1 &&& (65535 : Int32))), (.int ((p1.toUInt32 >>> ((16 : Int32) &&& 31).toUInt32).toInt32)), (.int (p2 &&& (65535 : Int32))), (.int ((p2.toUInt32 >>> ((16 : Int32) &&& 31).toUInt32).toInt32))] (.int (0 : Int32)) := f28_0.other W29 ne27_b16
  show own_Fin p e below s _ _ _ T29 (mkF m 95 #[.val (.int p1), .val (.int p2), .val (.int p3), .val (.int p4), .val (.ref b16), .val (.int f), .val (.int n), .val (.int (f + n)), .val (.int t), .val (.ref b27), .unset] [])
  refine own_by (fun _ k => XS.aload X29.here hx rfl (hb hby at_95) rfl rfl (XS.iconst X29.here hx rfl (hb hby at_97) (XS.iloadN X29.here hx rfl (hb hby at_98) rfl (XS.iconst X29.here hx rfl (hb hby at_99) (XS.iadd X29.here hx rfl (hb hby at_100) rfl k))))) ?_
  show own_Fin p e below s _ _ _ T29 (mkF m 101 #[.val (.int p1), .val (.int p2), .val (.int p3), .val (.int p4), .val (.ref b16), .val (.int f), .val (.int n), .val (.int (f + n)), .val (.int t), .val (.ref b27), .unset] [(.int (p4 + (1 : Int32))), (.int (1 : Int32)), (.ref b27)])
  obtain ⟨cl31, Ar31, q31, S31, M31, H31, G31⟩ := id V29
  have hin31 : ¬ ((1 : Int32) < 0 ∨ cl31.slots.size ≤ ((1 : Int32)).toNatClampNeg) := inb_of S31 ⟨by decide, by decide⟩
  obtain ⟨T31, h31, X31, e31, W31, st31⟩ := stI X29 hx hZ e29 Ar31 (j := (1 : Int32)) hin31 (g := (mkF m 101 #[.val (.int p1), .val (.int p2), .val (.int p3), .val (.int p4), .val (.ref b16), .val (.int f), .val (.int n), .val (.int (f + n)), .val (.int t), .val (.ref b27), .unset] [(.int (p4 + (1 : Int32))), (.int (1 : Int32)), (.ref b27)])) rfl rfl (hb hby at_101)
  refine own_by (fun _ k => st31 _ k) ?_
  have V31 : Arv Z h31 b27 k27 .int (6 : Int32) [(.int p4), (.int (p4 + (1 : Int32))), (.int (0 : Int32)), (.int (0 : Int32)), (.int (0 : Int32)), (.int (0 : Int32))] (.int (0 : Int32)) := Arv.set Ar31 q31 S31 M31 H31 G31 rfl W31 1 rfl (Nat.le_of_ble_eq_true rfl)
  have Zs31 : n0 ≤ h31.size := Nat.le_trans Zs29 (Keep.of_wr W31).1
  have N31 := Fr.snoc X31 N29 gf27
  have f32_0 : Arv Z h31 b16 k16 .char (4 : Int32) [(.int (p1 &&& (65535 : Int32))), (.int ((p1.toUInt32 >>> ((16 : Int32) &&& 31).toUInt32).toInt32)), (.int (p2 &&& (65535 : Int32))), (.int ((p2.toUInt32 >>> ((16 : Int32) &&& 31).toUInt32).toInt32))] (.int (0 : Int32)) := f30_0.other W31 ne27_b16
  show own_Fin p e below s _ _ _ T31 (mkF m 102 #[.val (.int p1), .val (.int p2), .val (.int p3), .val (.int p4), .val (.ref b16), .val (.int f), .val (.int n), .val (.int (f + n)), .val (.int t), .val (.ref b27), .unset] [])
  refine own_by (fun _ k => XS.aload X31.here hx rfl (hb hby at_102) rfl rfl (XS.iconst X31.here hx rfl (hb hby at_104) (XS.iloadN X31.here hx rfl (hb hby at_105) rfl (XS.iconst X31.here hx rfl (hb hby at_106) (XS.iadd X31.here hx rfl (hb hby at_107) rfl k))))) ?_
  show own_Fin p e below s _ _ _ T31 (mkF m 108 #[.val (.int p1), .val (.int p2), .val (.int p3), .val (.int p4), .val (.ref b16), .val (.int f), .val (.int n), .val (.int (f + n)), .val (.int t), .val (.ref b27), .unset] [(.int (p4 + (2 : Int32))), (.int (2 : Int32)), (.ref b27)])
  obtain ⟨cl33, Ar33, q33, S33, M33, H33, G33⟩ := id V31
  have hin33 : ¬ ((2 : Int32) < 0 ∨ cl33.slots.size ≤ ((2 : Int32)).toNatClampNeg) := inb_of S33 ⟨by decide, by decide⟩
  obtain ⟨T33, h33, X33, e33, W33, st33⟩ := stI X31 hx hZ e31 Ar33 (j := (2 : Int32)) hin33 (g := (mkF m 108 #[.val (.int p1), .val (.int p2), .val (.int p3), .val (.int p4), .val (.ref b16), .val (.int f), .val (.int n), .val (.int (f + n)), .val (.int t), .val (.ref b27), .unset] [(.int (p4 + (2 : Int32))), (.int (2 : Int32)), (.ref b27)])) rfl rfl (hb hby at_108)
  refine own_by (fun _ k => st33 _ k) ?_
  have V33 : Arv Z h33 b27 k27 .int (6 : Int32) [(.int p4), (.int (p4 + (1 : Int32))), (.int (p4 + (2 : Int32))), (.int (0 : Int32)), (.int (0 : Int32)), (.int (0 : Int32))] (.int (0 : Int32)) := Arv.set Ar33 q33 S33 M33 H33 G33 rfl W33 2 rfl (Nat.le_of_ble_eq_true rfl)
  have Zs33 : n0 ≤ h33.size := Nat.le_trans Zs31 (Keep.of_wr W33).1
  have N33 := Fr.snoc X33 N31 gf27
  have f34_0 : Arv Z h33 b16 k16 .char (4 : Int32) [(.int (p1 &&& (65535 : Int32))), (.int ((p1.toUInt32 >>> ((16 : Int32) &&& 31).toUInt32).toInt32)), (.int (p2 &&& (65535 : Int32))), (.int ((p2.toUInt32 >>> ((16 : Int32) &&& 31).toUInt32).toInt32))] (.int (0 : Int32)) := f32_0.other W33 ne27_b16
  show own_Fin p e below s _ _ _ T33 (mkF m 109 #[.val (.int p1), .val (.int p2), .val (.int p3), .val (.int p4), .val (.ref b16), .val (.int f), .val (.int n), .val (.int (f + n)), .val (.int t), .val (.ref b27), .unset] [])
  refine own_by (fun _ k => XS.aload X33.here hx rfl (hb hby at_109) rfl rfl (XS.iconst X33.here hx rfl (hb hby at_111) (XS.iloadN X33.here hx rfl (hb hby at_112) rfl (XS.iconst X33.here hx rfl (hb hby at_113) (XS.iadd X33.here hx rfl (hb hby at_114) rfl k))))) ?_
  show own_Fin p e below s _ _ _ T33 (mkF m 115 #[.val (.int p1), .val (.int p2), .val (.int p3), .val (.int p4), .val (.ref b16), .val (.int f), .val (.int n), .val (.int (f + n)), .val (.int t), .val (.ref b27), .unset] [(.int (p4 + (3 : Int32))), (.int (3 : Int32)), (.ref b27)])
  obtain ⟨cl35, Ar35, q35, S35, M35, H35, G35⟩ := id V33
  have hin35 : ¬ ((3 : Int32) < 0 ∨ cl35.slots.size ≤ ((3 : Int32)).toNatClampNeg) := inb_of S35 ⟨by decide, by decide⟩
  obtain ⟨T35, h35, X35, e35, W35, st35⟩ := stI X33 hx hZ e33 Ar35 (j := (3 : Int32)) hin35 (g := (mkF m 115 #[.val (.int p1), .val (.int p2), .val (.int p3), .val (.int p4), .val (.ref b16), .val (.int f), .val (.int n), .val (.int (f + n)), .val (.int t), .val (.ref b27), .unset] [(.int (p4 + (3 : Int32))), (.int (3 : Int32)), (.ref b27)])) rfl rfl (hb hby at_115)
  refine own_by (fun _ k => st35 _ k) ?_
  have V35 : Arv Z h35 b27 k27 .int (6 : Int32) [(.int p4), (.int (p4 + (1 : Int32))), (.int (p4 + (2 : Int32))), (.int (p4 + (3 : Int32))), (.int (0 : Int32)), (.int (0 : Int32))] (.int (0 : Int32)) := Arv.set Ar35 q35 S35 M35 H35 G35 rfl W35 3 rfl (Nat.le_of_ble_eq_true rfl)
  have Zs35 : n0 ≤ h35.size := Nat.le_trans Zs33 (Keep.of_wr W35).1
  have N35 := Fr.snoc X35 N33 gf27
  have f36_0 : Arv Z h35 b16 k16 .char (4 : Int32) [(.int (p1 &&& (65535 : Int32))), (.int ((p1.toUInt32 >>> ((16 : Int32) &&& 31).toUInt32).toInt32)), (.int (p2 &&& (65535 : Int32))), (.int ((p2.toUInt32 >>> ((16 : Int32) &&& 31).toUInt32).toInt32))] (.int (0 : Int32)) := f34_0.other W35 ne27_b16
  show own_Fin p e below s _ _ _ T35 (mkF m 116 #[.val (.int p1), .val (.int p2), .val (.int p3), .val (.int p4), .val (.ref b16), .val (.int f), .val (.int n), .val (.int (f + n)), .val (.int t), .val (.ref b27), .unset] [])
  refine own_by (fun _ k => XS.aload X35.here hx rfl (hb hby at_116) rfl rfl (XS.iconst X35.here hx rfl (hb hby at_118) (XS.iloadN X35.here hx rfl (hb hby at_119) rfl (XS.iconst X35.here hx rfl (hb hby at_120) (XS.iadd X35.here hx rfl (hb hby at_121) rfl k))))) ?_
  show own_Fin p e below s _ _ _ T35 (mkF m 122 #[.val (.int p1), .val (.int p2), .val (.int p3), .val (.int p4), .val (.ref b16), .val (.int f), .val (.int n), .val (.int (f + n)), .val (.int t), .val (.ref b27), .unset] [(.int (p4 + (4 : Int32))), (.int (4 : Int32)), (.ref b27)])
  obtain ⟨cl37, Ar37, q37, S37, M37, H37, G37⟩ := id V35
  have hin37 : ¬ ((4 : Int32) < 0 ∨ cl37.slots.size ≤ ((4 : Int32)).toNatClampNeg) := inb_of S37 ⟨by decide, by decide⟩
  obtain ⟨T37, h37, X37, e37, W37, st37⟩ := stI X35 hx hZ e35 Ar37 (j := (4 : Int32)) hin37 (g := (mkF m 122 #[.val (.int p1), .val (.int p2), .val (.int p3), .val (.int p4), .val (.ref b16), .val (.int f), .val (.int n), .val (.int (f + n)), .val (.int t), .val (.ref b27), .unset] [(.int (p4 + (4 : Int32))), (.int (4 : Int32)), (.ref b27)])) rfl rfl (hb hby at_122)
  refine own_by (fun _ k => st37 _ k) ?_
  have V37 : Arv Z h37 b27 k27 .int (6 : Int32) [(.int p4), (.int (p4 + (1 : Int32))), (.int (p4 + (2 : Int32))), (.int (p4 + (3 : Int32))), (.int (p4 + (4 : Int32))), (.int (0 : Int32))] (.int (0 : Int32)) := Arv.set Ar37 q37 S37 M37 H37 G37 rfl W37 4 rfl (Nat.le_of_ble_eq_true rfl)
  have Zs37 : n0 ≤ h37.size := Nat.le_trans Zs35 (Keep.of_wr W37).1
  have N37 := Fr.snoc X37 N35 gf27
  have f38_0 : Arv Z h37 b16 k16 .char (4 : Int32) [(.int (p1 &&& (65535 : Int32))), (.int ((p1.toUInt32 >>> ((16 : Int32) &&& 31).toUInt32).toInt32)), (.int (p2 &&& (65535 : Int32))), (.int ((p2.toUInt32 >>> ((16 : Int32) &&& 31).toUInt32).toInt32))] (.int (0 : Int32)) := f36_0.other W37 ne27_b16
  show own_Fin p e below s _ _ _ T37 (mkF m 123 #[.val (.int p1), .val (.int p2), .val (.int p3), .val (.int p4), .val (.ref b16), .val (.int f), .val (.int n), .val (.int (f + n)), .val (.int t), .val (.ref b27), .unset] [])
  refine own_by (fun _ k => XS.aload X37.here hx rfl (hb hby at_123) rfl rfl (XS.iconst X37.here hx rfl (hb hby at_125) (XS.iloadN X37.here hx rfl (hb hby at_126) rfl (XS.iconst X37.here hx rfl (hb hby at_127) (XS.iadd X37.here hx rfl (hb hby at_128) rfl k))))) ?_
  show own_Fin p e below s _ _ _ T37 (mkF m 129 #[.val (.int p1), .val (.int p2), .val (.int p3), .val (.int p4), .val (.ref b16), .val (.int f), .val (.int n), .val (.int (f + n)), .val (.int t), .val (.ref b27), .unset] [(.int (p4 + (5 : Int32))), (.int (5 : Int32)), (.ref b27)])
  obtain ⟨cl39, Ar39, q39, S39, M39, H39, G39⟩ := id V37
  have hin39 : ¬ ((5 : Int32) < 0 ∨ cl39.slots.size ≤ ((5 : Int32)).toNatClampNeg) := inb_of S39 ⟨by decide, by decide⟩
  obtain ⟨T39, h39, X39, e39, W39, st39⟩ := stI X37 hx hZ e37 Ar39 (j := (5 : Int32)) hin39 (g := (mkF m 129 #[.val (.int p1), .val (.int p2), .val (.int p3), .val (.int p4), .val (.ref b16), .val (.int f), .val (.int n), .val (.int (f + n)), .val (.int t), .val (.ref b27), .unset] [(.int (p4 + (5 : Int32))), (.int (5 : Int32)), (.ref b27)])) rfl rfl (hb hby at_129)
  refine own_by (fun _ k => st39 _ k) ?_
  have V39 : Arv Z h39 b27 k27 .int (6 : Int32) [(.int p4), (.int (p4 + (1 : Int32))), (.int (p4 + (2 : Int32))), (.int (p4 + (3 : Int32))), (.int (p4 + (4 : Int32))), (.int (p4 + (5 : Int32)))] (.int (0 : Int32)) := Arv.set Ar39 q39 S39 M39 H39 G39 rfl W39 5 rfl (Nat.le_of_ble_eq_true rfl)
  have Zs39 : n0 ≤ h39.size := Nat.le_trans Zs37 (Keep.of_wr W39).1
  have N39 := Fr.snoc X39 N37 gf27
  have f40_0 : Arv Z h39 b16 k16 .char (4 : Int32) [(.int (p1 &&& (65535 : Int32))), (.int ((p1.toUInt32 >>> ((16 : Int32) &&& 31).toUInt32).toInt32)), (.int (p2 &&& (65535 : Int32))), (.int ((p2.toUInt32 >>> ((16 : Int32) &&& 31).toUInt32).toInt32))] (.int (0 : Int32)) := f38_0.other W39 ne27_b16
  show own_Fin p e below s _ _ _ T39 (mkF m 130 #[.val (.int p1), .val (.int p2), .val (.int p3), .val (.int p4), .val (.ref b16), .val (.int f), .val (.int n), .val (.int (f + n)), .val (.int t), .val (.ref b27), .unset] [])
  obtain ⟨T41, h41, X41, e41, E41, A41, D41, -, st41⟩ := newO X39 hx hZ hown (hw _ (List.mem_of_getElem? (i := 3) rfl)) (hw _ (List.mem_of_getElem? (i := 4) rfl)) (hw _ (List.mem_of_getElem? (i := 5) rfl)) e39 (g := (mkF m 130 #[.val (.int p1), .val (.int p2), .val (.int p3), .val (.int p4), .val (.ref b16), .val (.int f), .val (.int n), .val (.int (f + n)), .val (.int t), .val (.ref b27), .unset] [])) rfl (hb hby at_130) (by decide) (by decide)
  obtain ⟨b41, g41⟩ : ∃ z, z = h39.size := ⟨_, rfl⟩
  rw [← g41] at A41 D41 st41
  refine own_by (fun _ k => st41 _ k) ?_
  have ne41_b16 : b16 ≠ b41 := Nat.ne_of_lt (Nat.lt_of_lt_of_le f40_0.lt (Nat.le_of_eq g41.symm))
  have ne41_b27 : b27 ≠ b41 := Nat.ne_of_lt (Nat.lt_of_lt_of_le V39.lt (Nat.le_of_eq g41.symm))
  have gf41 : n0 ≤ b41 := Nat.le_trans Zs39 (Nat.le_of_eq g41.symm)
  have Zs41 : n0 ≤ h41.size := Nat.le_trans Zs39 E41.1
  have f42_0 : Arv Z h41 b16 k16 .char (4 : Int32) [(.int (p1 &&& (65535 : Int32))), (.int ((p1.toUInt32 >>> ((16 : Int32) &&& 31).toUInt32).toInt32)), (.int (p2 &&& (65535 : Int32))), (.int ((p2.toUInt32 >>> ((16 : Int32) &&& 31).toUInt32).toInt32))] (.int (0 : Int32)) := f40_0.ext E41
  have f42_1 : Arv Z h41 b27 k27 .int (6 : Int32) [(.int p4), (.int (p4 + (1 : Int32))), (.int (p4 + (2 : Int32))), (.int (p4 + (3 : Int32))), (.int (p4 + (4 : Int32))), (.int (p4 + (5 : Int32)))] (.int (0 : Int32)) := V39.ext E41
  have F41_chars : Fld Z h41 b41 "com/example/libsubstr/libsubstr/CharArrayText" "chars" "[C" .null := D41 (Or.inr (hw _ (List.mem_of_getElem? (i := 18) rfl))) (ty := (.array .char)) (by decide)
  show own_Fin p e below s _ _ _ T41 (mkF m 133 #[.val (.int p1), .val (.int p2), .val (.int p3), .val (.int p4), .val (.ref b16), .val (.int f), .val (.int n), .val (.int (f + n)), .val (.int t), .val (.ref b27), .unset] [(.ref b41)])
  refine own_by (fun _ k => XS.dup X41.here hx rfl (hb hby at_133) rfl rfl (XS.aload X41.here hx rfl (hb hby at_134) rfl rfl k)) ?_
  show own_Fin p e below s _ _ _ T41 (mkF m 136 #[.val (.int p1), .val (.int p2), .val (.int p3), .val (.int p4), .val (.ref b16), .val (.int f), .val (.int n), .val (.int (f + n)), .val (.int t), .val (.ref b27), .unset] [(.ref b16), (.ref b41), (.ref b41)])
  obtain ⟨_, _, ⟨T43, L43, k43, n43⟩, -, X43, ⟨Lc43, hQ43, l43, y43, z43⟩, st43⟩ := X41.specialBack hx (y := (⟨"com/example/libsubstr/libsubstr/CharArrayText", "<init>", "([C)V"⟩ : MethodName)) rfl hown (mvT hZ (hw _ (List.mem_of_getElem? (i := 6) rfl))) (mvT hZ (hw _ (List.mem_of_getElem? (i := 7) rfl))) (mvT hZ (hw _ (List.mem_of_getElem? (i := 8) rfl))) (by decide) (backOf (W := 1) (rm1 l Z a0 hw [] b41 b16 _ h41 n0 Zs41 A41 F41_chars gf41) hZ (hw _ (List.mem_of_getElem? (i := 8) rfl)) (hw _ (List.mem_of_getElem? (i := 5) rfl)) (by decide) (by decide)) (g := (mkF m 136 #[.val (.int p1), .val (.int p2), .val (.int p3), .val (.int p4), .val (.ref b16), .val (.int f), .val (.int n), .val (.int (f + n)), .val (.int t), .val (.ref b27), .unset] [(.ref b16), (.ref b41), (.ref b41)])) rfl (by rw [hml]; rfl) (Steps.refl _) (a := b41) (argsL := [(.ref b16)]) (rest := [(.ref b41)]) (lenOf own_pd79 rfl) rfl (by show 2 * 0 + _ ≤ _; exact Nat.le_of_eq rfl) (hb hby at_136) (fun _ _ => ⟨rfl, e41, (by decide : 3 + 0 ≤ _), (by decide : 11 + 0 ≤ _)⟩)
  dsimp only [Pt.U, Pt.locs, Pt.cells, Pt.slots] at X43 l43 y43 z43 st43 hQ43
  subst l43 y43 z43
  obtain ⟨rfl, Nq43, K43, Fl43⟩ := hQ43
  have N43 := Fr.app N39 Nq43
  refine own_by (fun _ k => st43.trans k) ?_
  have Zs43 : n0 ≤ T43.heap.size := Nat.le_trans Zs41 K43.1
  have f44_0 : Arv Z T43.heap b16 k16 .char (4 : Int32) [(.int (p1 &&& (65535 : Int32))), (.int ((p1.toUInt32 >>> ((16 : Int32) &&& 31).toUInt32).toInt32)), (.int (p2 &&& (65535 : Int32))), (.int ((p2.toUInt32 >>> ((16 : Int32) &&& 31).toUInt32).toInt32))] (.int (0 : Int32)) := f42_0.keep K43 (ninS ne41_b16 nin0)
  have f44_1 : Arv Z T43.heap b27 k27 .int (6 : Int32) [(.int p4), (.int (p4 + (1 : Int32))), (.int (p4 + (2 : Int32))), (.int (p4 + (3 : Int32))), (.int (p4 + (4 : Int32))), (.int (p4 + (5 : Int32)))] (.int (0 : Int32)) := f42_1.keep K43 (ninS ne41_b27 nin0)
  have f44_2 : Exa Z T43.heap b41 "com/example/libsubstr/libsubstr/CharArrayText" := A41.keep K43
  show own_Fin p e below s _ _ _ T43 (mkF m 139 #[.val (.int p1), .val (.int p2), .val (.int p3), .val (.int p4), .val (.ref b16), .val (.int f), .val (.int n), .val (.int (f + n)), .val (.int t), .val (.ref b27), .unset] [(.ref b41)])
  refine own_by (fun _ k => XS.astore X43.here hx rfl (hb hby at_139) rfl rfl (l' := #[.val (.int p1), .val (.int p2), .val (.int p3), .val (.int p4), .val (.ref b16), .val (.int f), .val (.int n), .val (.int (f + n)), .val (.int t), .val (.ref b27), .val (.ref b41)]) rfl (XS.aload X43.here hx rfl (hb hby at_141) rfl rfl (XS.iload X43.here hx rfl (hb hby at_143) rfl (XS.iload X43.here hx rfl (hb hby at_145) rfl (XS.aload X43.here hx rfl (hb hby at_147) rfl rfl (XS.iload X43.here hx rfl (hb hby at_149) rfl k)))))) ?_
  show own_Fin p e below s _ _ _ T43 (mkF m 151 #[.val (.int p1), .val (.int p2), .val (.int p3), .val (.int p4), .val (.ref b16), .val (.int f), .val (.int n), .val (.int (f + n)), .val (.int t), .val (.ref b27), .val (.ref b41)] [(.int t), (.ref b27), (.int (f + n)), (.int f), (.ref b41)])
  have hto : (f + n).toInt = f.toInt + n.toInt := by have a := c_iadd f n; have al := Int32.toInt_lt (f + n); have ag := Int32.le_toInt (f + n); omega
  obtain ⟨cq45, kq45, q45a, q45b, q45c⟩ := isOf hZ rfl f44_2
  obtain ⟨_, _, ⟨T45, L45, k45, n45⟩, -, X45, ⟨Lc45, hQ45, l45, y45, z45⟩, st45⟩ := X43.virtualBack hx (y := (⟨"com/example/libsubstr/libsubstr/CharArrayText", "copy", "(II[II)V"⟩ : MethodName)) (z := (⟨"com/example/libsubstr/libsubstr/CharArrayText", "copy", "(II[II)V"⟩ : MethodName)) hown (mvT hZ (hw _ (List.mem_of_getElem? (i := 19) rfl))) (mvT hZ (hw _ (List.mem_of_getElem? (i := 20) rfl))) (notFace_of_selects (args := #[]) (mvT hZ (hw _ (List.mem_of_getElem? (i := 22) rfl)))) (mvT hZ (hw _ (List.mem_of_getElem? (i := 22) rfl))) (mvT hZ (hw _ (List.mem_of_getElem? (i := 21) rfl))) (by decide) (backOf (W := 0) (rm4 l Z a0 hw [] b41 b27 b16 k27 k16 f (f + n) t [(p1 &&& (65535 : Int32)), ((p1.toUInt32 >>> ((16 : Int32) &&& 31).toUInt32).toInt32), (p2 &&& (65535 : Int32)), ((p2.toUInt32 >>> ((16 : Int32) &&& 31).toUInt32).toInt32)] [(.int p4), (.int (p4 + (1 : Int32))), (.int (p4 + (2 : Int32))), (.int (p4 + (3 : Int32))), (.int (p4 + (4 : Int32))), (.int (p4 + (5 : Int32)))] t.toInt.toNat f.toInt.toNat n.toInt.toNat T43.heap n0 Zs43 Fl43 f44_0 f44_1 (Ne.symm ne41_b27) ne27_b16 gf27 rfl (by omega) (by omega) (by omega) (by omega) (by omega)) hZ (hw _ (List.mem_of_getElem? (i := 23) rfl)) (hw _ (List.mem_of_getElem? (i := 5) rfl)) (by decide) (by decide)) q45a q45c (g := (mkF m 151 #[.val (.int p1), .val (.int p2), .val (.int p3), .val (.int p4), .val (.ref b16), .val (.int f), .val (.int n), .val (.int (f + n)), .val (.int t), .val (.ref b27), .val (.ref b41)] [(.int t), (.ref b27), (.int (f + n)), (.int f), (.ref b41)])) rfl (by rw [hml]; rfl) (Steps.refl _) (argsL := [(.int f), (.int (f + n)), (.ref b27), (.int t)]) (rest := []) (lenOf own_pd80 rfl) rfl (by show 2 * 0 + _ ≤ _; exact Nat.le_of_eq rfl) (hb hby at_151) (fun _ _ => ⟨rfl, rfl, (by decide : 3 + 0 ≤ _), (by decide : 11 + 0 ≤ _)⟩)
  dsimp only [Pt.U, Pt.locs, Pt.cells, Pt.slots] at X45 l45 y45 z45 st45 hQ45
  subst l45 y45 z45
  obtain ⟨rfl, Nq45, K45, Vr45⟩ := hQ45
  have N45 := Fr.app N43 Nq45
  refine own_by (fun _ k => st45.trans k) ?_
  have Zs45 : n0 ≤ T45.heap.size := Nat.le_trans Zs43 K45.1
  have f46_0 : Arv Z T45.heap b16 k16 .char (4 : Int32) [(.int (p1 &&& (65535 : Int32))), (.int ((p1.toUInt32 >>> ((16 : Int32) &&& 31).toUInt32).toInt32)), (.int (p2 &&& (65535 : Int32))), (.int ((p2.toUInt32 >>> ((16 : Int32) &&& 31).toUInt32).toInt32))] (.int (0 : Int32)) := f44_0.keep K45 (ninS ne27_b16 nin0)
  have f46_2 : Exa Z T45.heap b41 "com/example/libsubstr/libsubstr/CharArrayText" := f44_2.keep K45
  have f46_3 : Fld Z T45.heap b41 "com/example/libsubstr/libsubstr/CharArrayText" "chars" "[C" (.ref b16) := Fl43.keep K45 (ninS (Ne.symm ne41_b27) nin0)
  rw [own_plain p1 p2 p4 f n t q0 q1 q2 q3 q4] at Vr45
  show own_Fin p e below s _ _ _ T45 (mkF m 154 #[.val (.int p1), .val (.int p2), .val (.int p3), .val (.int p4), .val (.ref b16), .val (.int f), .val (.int n), .val (.int (f + n)), .val (.int t), .val (.ref b27), .val (.ref b41)] [])
  refine own_by (fun _ k => XS.aload X45.here hx rfl (hb hby at_154) rfl rfl (XS.iconst X45.here hx rfl (hb hby at_156) k)) ?_
  show own_Fin p e below s _ _ _ T45 (mkF m 157 #[.val (.int p1), .val (.int p2), .val (.int p3), .val (.int p4), .val (.ref b16), .val (.int f), .val (.int n), .val (.int (f + n)), .val (.int t), .val (.ref b27), .val (.ref b41)] [(.int (0 : Int32)), (.ref b27)])
  obtain ⟨cl47, Ar47, -, S47, M47, H47, -⟩ := id Vr45
  have hin47 : ¬ ((0 : Int32) < 0 ∨ cl47.slots.size ≤ ((0 : Int32)).toNatClampNeg) := inb_of S47 ⟨by decide, by decide⟩
  have hat47 : cl47.slots[((0 : Int32)).toNatClampNeg]? = some (.int (own_expd (0 : Int32) p1 p2 f n t p4)) := Has.at H47 hin47 rfl
  refine own_by (fun _ k => X45.iaload hx (j := (0 : Int32)) (v := (.int (own_expd (0 : Int32) p1 p2 f n t p4))) Ar47.1 (State.isArrayOf_alike hZ.alike Ar47.2.1) Ar47.2.2 hin47 hat47 (g := (mkF m 157 #[.val (.int p1), .val (.int p2), .val (.int p3), .val (.int p4), .val (.ref b16), .val (.int f), .val (.int n), .val (.int (f + n)), .val (.int t), .val (.ref b27), .val (.ref b41)] [(.int (0 : Int32)), (.ref b27)])) rfl rfl (hb hby at_157) _ k) ?_
  show own_Fin p e below s _ _ _ T45 (mkF m 158 #[.val (.int p1), .val (.int p2), .val (.int p3), .val (.int p4), .val (.ref b16), .val (.int f), .val (.int n), .val (.int (f + n)), .val (.int t), .val (.ref b27), .val (.ref b41)] [(.int (own_expd (0 : Int32) p1 p2 f n t p4))])
  refine own_by (fun _ k => XS.iconst X45.here hx rfl (hb hby at_158) (XS.iloadN X45.here hx rfl (hb hby at_159) rfl (XS.iloadN X45.here hx rfl (hb hby at_160) rfl (XS.iload X45.here hx rfl (hb hby at_161) rfl (XS.iload X45.here hx rfl (hb hby at_163) rfl (XS.iload X45.here hx rfl (hb hby at_165) rfl (XS.iloadN X45.here hx rfl (hb hby at_167) rfl k))))))) ?_
  show own_Fin p e below s _ _ _ T45 (mkF m 168 #[.val (.int p1), .val (.int p2), .val (.int p3), .val (.int p4), .val (.ref b16), .val (.int f), .val (.int n), .val (.int (f + n)), .val (.int t), .val (.ref b27), .val (.ref b41)] [(.int p4), (.int t), (.int n), (.int f), (.int p2), (.int p1), (.int (0 : Int32)), (.int (own_expd (0 : Int32) p1 p2 f n t p4))])
  obtain ⟨_, _, ⟨T48, L48, k48, n48⟩, -, X48, ⟨Lc48, hQ48, l48, y48, z48⟩, st48⟩ := Jvm.LawKit.callS X45 hx (y := (⟨"com/example/libsubstr/libsubstr/CharArrayTextCopyPinLaw", "expected", "(IIIIIII)I"⟩ : MethodName)) hown (mvT hZ (hw _ (List.mem_of_getElem? (i := 24) rfl))) (mvT hZ (hw _ (List.mem_of_getElem? (i := 25) rfl))) (mvT hZ (hw _ (List.mem_of_getElem? (i := 26) rfl))) (mvT hZ (hw _ (List.mem_of_getElem? (i := 27) rfl))) (by decide) (backOf (W := 1) (rm5 l Z a0 hw [] (0 : Int32) p1 p2 f n t p4 T45.heap n0 Zs45 ) hZ (hw _ (List.mem_of_getElem? (i := 27) rfl)) (hw _ (List.mem_of_getElem? (i := 26) rfl)) (by decide) (by decide)) (g := (mkF m 168 #[.val (.int p1), .val (.int p2), .val (.int p3), .val (.int p4), .val (.ref b16), .val (.int f), .val (.int n), .val (.int (f + n)), .val (.int t), .val (.ref b27), .val (.ref b41)] [(.int p4), (.int t), (.int n), (.int f), (.int p2), (.int p1), (.int (0 : Int32)), (.int (own_expd (0 : Int32) p1 p2 f n t p4))])) rfl (by rw [hml]; rfl) (argsL := [(.int (0 : Int32)), (.int p1), (.int p2), (.int f), (.int n), (.int t), (.int p4)]) (rest := [(.int (own_expd (0 : Int32) p1 p2 f n t p4))]) (lenOf own_pd81 rfl) rfl (by show 2 * 0 + _ ≤ _; exact Nat.le_of_eq rfl) (hb hby at_168) (fun _ _ => ⟨rfl, rfl, (by decide : 3 + 0 ≤ _), (by decide : 11 + 0 ≤ _)⟩)
  dsimp only [Pt.U, Pt.locs, Pt.cells, Pt.slots] at X48 l48 y48 z48 st48 hQ48
  subst l48 y48 z48
  obtain ⟨rfl, Nq48, eh48⟩ := hQ48
  have N48 := Fr.app N45 Nq48
  refine own_by (fun _ k => st48 _ k) ?_
  show own_Fin p e below s _ _ _ T48 (mkF m 171 #[.val (.int p1), .val (.int p2), .val (.int p3), .val (.int p4), .val (.ref b16), .val (.int f), .val (.int n), .val (.int (f + n)), .val (.int t), .val (.ref b27), .val (.ref b41)] [(.int (own_expd (0 : Int32) p1 p2 f n t p4)), (.int (own_expd (0 : Int32) p1 p2 f n t p4))])
  refine own_by (fun _ k => XS.icmpNo X48.here hx rfl (hb hby at_171) rfl (teq (rfl : (own_expd (0 : Int32) p1 p2 f n t p4) = (own_expd (0 : Int32) p1 p2 f n t p4))).2 k) ?_
  show own_Fin p e below s _ _ _ T48 (mkF m 174 #[.val (.int p1), .val (.int p2), .val (.int p3), .val (.int p4), .val (.ref b16), .val (.int f), .val (.int n), .val (.int (f + n)), .val (.int t), .val (.ref b27), .val (.ref b41)] [])
  refine own_by (fun _ k => XS.aload X48.here hx rfl (hb hby at_174) rfl rfl (XS.iconst X48.here hx rfl (hb hby at_176) k)) ?_
  show own_Fin p e below s _ _ _ T48 (mkF m 177 #[.val (.int p1), .val (.int p2), .val (.int p3), .val (.int p4), .val (.ref b16), .val (.int f), .val (.int n), .val (.int (f + n)), .val (.int t), .val (.ref b27), .val (.ref b41)] [(.int (1 : Int32)), (.ref b27)])
  obtain ⟨cl49, Ar49, -, S49, M49, H49, -⟩ := id Vr45
  have hin49 : ¬ ((1 : Int32) < 0 ∨ cl49.slots.size ≤ ((1 : Int32)).toNatClampNeg) := inb_of S49 ⟨by decide, by decide⟩
  have hat49 : cl49.slots[((1 : Int32)).toNatClampNeg]? = some (.int (own_expd (1 : Int32) p1 p2 f n t p4)) := Has.at H49 hin49 rfl
  refine own_by (fun _ k => X48.iaload hx (j := (1 : Int32)) (v := (.int (own_expd (1 : Int32) p1 p2 f n t p4))) (by rw [eh48]; exact Ar49.1) (State.isArrayOf_alike hZ.alike Ar49.2.1) Ar49.2.2 hin49 hat49 (g := (mkF m 177 #[.val (.int p1), .val (.int p2), .val (.int p3), .val (.int p4), .val (.ref b16), .val (.int f), .val (.int n), .val (.int (f + n)), .val (.int t), .val (.ref b27), .val (.ref b41)] [(.int (1 : Int32)), (.ref b27)])) rfl rfl (hb hby at_177) _ k) ?_
  show own_Fin p e below s _ _ _ T48 (mkF m 178 #[.val (.int p1), .val (.int p2), .val (.int p3), .val (.int p4), .val (.ref b16), .val (.int f), .val (.int n), .val (.int (f + n)), .val (.int t), .val (.ref b27), .val (.ref b41)] [(.int (own_expd (1 : Int32) p1 p2 f n t p4))])
  refine own_by (fun _ k => XS.iconst X48.here hx rfl (hb hby at_178) (XS.iloadN X48.here hx rfl (hb hby at_179) rfl (XS.iloadN X48.here hx rfl (hb hby at_180) rfl (XS.iload X48.here hx rfl (hb hby at_181) rfl (XS.iload X48.here hx rfl (hb hby at_183) rfl (XS.iload X48.here hx rfl (hb hby at_185) rfl (XS.iloadN X48.here hx rfl (hb hby at_187) rfl k))))))) ?_
  show own_Fin p e below s _ _ _ T48 (mkF m 188 #[.val (.int p1), .val (.int p2), .val (.int p3), .val (.int p4), .val (.ref b16), .val (.int f), .val (.int n), .val (.int (f + n)), .val (.int t), .val (.ref b27), .val (.ref b41)] [(.int p4), (.int t), (.int n), (.int f), (.int p2), (.int p1), (.int (1 : Int32)), (.int (own_expd (1 : Int32) p1 p2 f n t p4))])
  obtain ⟨_, _, ⟨T50, L50, k50, n50⟩, -, X50, ⟨Lc50, hQ50, l50, y50, z50⟩, st50⟩ := Jvm.LawKit.callS X48 hx (y := (⟨"com/example/libsubstr/libsubstr/CharArrayTextCopyPinLaw", "expected", "(IIIIIII)I"⟩ : MethodName)) hown (mvT hZ (hw _ (List.mem_of_getElem? (i := 24) rfl))) (mvT hZ (hw _ (List.mem_of_getElem? (i := 25) rfl))) (mvT hZ (hw _ (List.mem_of_getElem? (i := 26) rfl))) (mvT hZ (hw _ (List.mem_of_getElem? (i := 27) rfl))) (by decide) (backOf (W := 1) (rm5 l Z a0 hw [] (1 : Int32) p1 p2 f n t p4 T45.heap n0 Zs45 ) hZ (hw _ (List.mem_of_getElem? (i := 27) rfl)) (hw _ (List.mem_of_getElem? (i := 26) rfl)) (by decide) (by decide)) (g := (mkF m 188 #[.val (.int p1), .val (.int p2), .val (.int p3), .val (.int p4), .val (.ref b16), .val (.int f), .val (.int n), .val (.int (f + n)), .val (.int t), .val (.ref b27), .val (.ref b41)] [(.int p4), (.int t), (.int n), (.int f), (.int p2), (.int p1), (.int (1 : Int32)), (.int (own_expd (1 : Int32) p1 p2 f n t p4))])) rfl (by rw [hml]; rfl) (argsL := [(.int (1 : Int32)), (.int p1), (.int p2), (.int f), (.int n), (.int t), (.int p4)]) (rest := [(.int (own_expd (1 : Int32) p1 p2 f n t p4))]) (lenOf own_pd81 rfl) rfl (by show 2 * 0 + _ ≤ _; exact Nat.le_of_eq rfl) (hb hby at_188) (fun _ _ => ⟨rfl, eh48, (by decide : 3 + 0 ≤ _), (by decide : 11 + 0 ≤ _)⟩)
  dsimp only [Pt.U, Pt.locs, Pt.cells, Pt.slots] at X50 l50 y50 z50 st50 hQ50
  subst l50 y50 z50
  obtain ⟨rfl, Nq50, eh50⟩ := hQ50
  have N50 := Fr.app N48 Nq50
  refine own_by (fun _ k => st50 _ k) ?_
  show own_Fin p e below s _ _ _ T50 (mkF m 191 #[.val (.int p1), .val (.int p2), .val (.int p3), .val (.int p4), .val (.ref b16), .val (.int f), .val (.int n), .val (.int (f + n)), .val (.int t), .val (.ref b27), .val (.ref b41)] [(.int (own_expd (1 : Int32) p1 p2 f n t p4)), (.int (own_expd (1 : Int32) p1 p2 f n t p4))])
  refine own_by (fun _ k => XS.icmpNo X50.here hx rfl (hb hby at_191) rfl (teq (rfl : (own_expd (1 : Int32) p1 p2 f n t p4) = (own_expd (1 : Int32) p1 p2 f n t p4))).2 k) ?_
  show own_Fin p e below s _ _ _ T50 (mkF m 194 #[.val (.int p1), .val (.int p2), .val (.int p3), .val (.int p4), .val (.ref b16), .val (.int f), .val (.int n), .val (.int (f + n)), .val (.int t), .val (.ref b27), .val (.ref b41)] [])
  refine own_by (fun _ k => XS.aload X50.here hx rfl (hb hby at_194) rfl rfl (XS.iconst X50.here hx rfl (hb hby at_196) k)) ?_
  show own_Fin p e below s _ _ _ T50 (mkF m 197 #[.val (.int p1), .val (.int p2), .val (.int p3), .val (.int p4), .val (.ref b16), .val (.int f), .val (.int n), .val (.int (f + n)), .val (.int t), .val (.ref b27), .val (.ref b41)] [(.int (2 : Int32)), (.ref b27)])
  obtain ⟨cl51, Ar51, -, S51, M51, H51, -⟩ := id Vr45
  have hin51 : ¬ ((2 : Int32) < 0 ∨ cl51.slots.size ≤ ((2 : Int32)).toNatClampNeg) := inb_of S51 ⟨by decide, by decide⟩
  have hat51 : cl51.slots[((2 : Int32)).toNatClampNeg]? = some (.int (own_expd (2 : Int32) p1 p2 f n t p4)) := Has.at H51 hin51 rfl
  refine own_by (fun _ k => X50.iaload hx (j := (2 : Int32)) (v := (.int (own_expd (2 : Int32) p1 p2 f n t p4))) (by rw [eh50]; exact Ar51.1) (State.isArrayOf_alike hZ.alike Ar51.2.1) Ar51.2.2 hin51 hat51 (g := (mkF m 197 #[.val (.int p1), .val (.int p2), .val (.int p3), .val (.int p4), .val (.ref b16), .val (.int f), .val (.int n), .val (.int (f + n)), .val (.int t), .val (.ref b27), .val (.ref b41)] [(.int (2 : Int32)), (.ref b27)])) rfl rfl (hb hby at_197) _ k) ?_
  show own_Fin p e below s _ _ _ T50 (mkF m 198 #[.val (.int p1), .val (.int p2), .val (.int p3), .val (.int p4), .val (.ref b16), .val (.int f), .val (.int n), .val (.int (f + n)), .val (.int t), .val (.ref b27), .val (.ref b41)] [(.int (own_expd (2 : Int32) p1 p2 f n t p4))])
  refine own_by (fun _ k => XS.iconst X50.here hx rfl (hb hby at_198) (XS.iloadN X50.here hx rfl (hb hby at_199) rfl (XS.iloadN X50.here hx rfl (hb hby at_200) rfl (XS.iload X50.here hx rfl (hb hby at_201) rfl (XS.iload X50.here hx rfl (hb hby at_203) rfl (XS.iload X50.here hx rfl (hb hby at_205) rfl (XS.iloadN X50.here hx rfl (hb hby at_207) rfl k))))))) ?_
  show own_Fin p e below s _ _ _ T50 (mkF m 208 #[.val (.int p1), .val (.int p2), .val (.int p3), .val (.int p4), .val (.ref b16), .val (.int f), .val (.int n), .val (.int (f + n)), .val (.int t), .val (.ref b27), .val (.ref b41)] [(.int p4), (.int t), (.int n), (.int f), (.int p2), (.int p1), (.int (2 : Int32)), (.int (own_expd (2 : Int32) p1 p2 f n t p4))])
  obtain ⟨_, _, ⟨T52, L52, k52, n52⟩, -, X52, ⟨Lc52, hQ52, l52, y52, z52⟩, st52⟩ := Jvm.LawKit.callS X50 hx (y := (⟨"com/example/libsubstr/libsubstr/CharArrayTextCopyPinLaw", "expected", "(IIIIIII)I"⟩ : MethodName)) hown (mvT hZ (hw _ (List.mem_of_getElem? (i := 24) rfl))) (mvT hZ (hw _ (List.mem_of_getElem? (i := 25) rfl))) (mvT hZ (hw _ (List.mem_of_getElem? (i := 26) rfl))) (mvT hZ (hw _ (List.mem_of_getElem? (i := 27) rfl))) (by decide) (backOf (W := 1) (rm5 l Z a0 hw [] (2 : Int32) p1 p2 f n t p4 T45.heap n0 Zs45 ) hZ (hw _ (List.mem_of_getElem? (i := 27) rfl)) (hw _ (List.mem_of_getElem? (i := 26) rfl)) (by decide) (by decide)) (g := (mkF m 208 #[.val (.int p1), .val (.int p2), .val (.int p3), .val (.int p4), .val (.ref b16), .val (.int f), .val (.int n), .val (.int (f + n)), .val (.int t), .val (.ref b27), .val (.ref b41)] [(.int p4), (.int t), (.int n), (.int f), (.int p2), (.int p1), (.int (2 : Int32)), (.int (own_expd (2 : Int32) p1 p2 f n t p4))])) rfl (by rw [hml]; rfl) (argsL := [(.int (2 : Int32)), (.int p1), (.int p2), (.int f), (.int n), (.int t), (.int p4)]) (rest := [(.int (own_expd (2 : Int32) p1 p2 f n t p4))]) (lenOf own_pd81 rfl) rfl (by show 2 * 0 + _ ≤ _; exact Nat.le_of_eq rfl) (hb hby at_208) (fun _ _ => ⟨rfl, eh50, (by decide : 3 + 0 ≤ _), (by decide : 11 + 0 ≤ _)⟩)
  dsimp only [Pt.U, Pt.locs, Pt.cells, Pt.slots] at X52 l52 y52 z52 st52 hQ52
  subst l52 y52 z52
  obtain ⟨rfl, Nq52, eh52⟩ := hQ52
  have N52 := Fr.app N50 Nq52
  refine own_by (fun _ k => st52 _ k) ?_
  show own_Fin p e below s _ _ _ T52 (mkF m 211 #[.val (.int p1), .val (.int p2), .val (.int p3), .val (.int p4), .val (.ref b16), .val (.int f), .val (.int n), .val (.int (f + n)), .val (.int t), .val (.ref b27), .val (.ref b41)] [(.int (own_expd (2 : Int32) p1 p2 f n t p4)), (.int (own_expd (2 : Int32) p1 p2 f n t p4))])
  refine own_by (fun _ k => XS.icmpNo X52.here hx rfl (hb hby at_211) rfl (teq (rfl : (own_expd (2 : Int32) p1 p2 f n t p4) = (own_expd (2 : Int32) p1 p2 f n t p4))).2 k) ?_
  show own_Fin p e below s _ _ _ T52 (mkF m 214 #[.val (.int p1), .val (.int p2), .val (.int p3), .val (.int p4), .val (.ref b16), .val (.int f), .val (.int n), .val (.int (f + n)), .val (.int t), .val (.ref b27), .val (.ref b41)] [])
  refine own_by (fun _ k => XS.aload X52.here hx rfl (hb hby at_214) rfl rfl (XS.iconst X52.here hx rfl (hb hby at_216) k)) ?_
  show own_Fin p e below s _ _ _ T52 (mkF m 217 #[.val (.int p1), .val (.int p2), .val (.int p3), .val (.int p4), .val (.ref b16), .val (.int f), .val (.int n), .val (.int (f + n)), .val (.int t), .val (.ref b27), .val (.ref b41)] [(.int (3 : Int32)), (.ref b27)])
  obtain ⟨cl53, Ar53, -, S53, M53, H53, -⟩ := id Vr45
  have hin53 : ¬ ((3 : Int32) < 0 ∨ cl53.slots.size ≤ ((3 : Int32)).toNatClampNeg) := inb_of S53 ⟨by decide, by decide⟩
  have hat53 : cl53.slots[((3 : Int32)).toNatClampNeg]? = some (.int (own_expd (3 : Int32) p1 p2 f n t p4)) := Has.at H53 hin53 rfl
  refine own_by (fun _ k => X52.iaload hx (j := (3 : Int32)) (v := (.int (own_expd (3 : Int32) p1 p2 f n t p4))) (by rw [eh52]; exact Ar53.1) (State.isArrayOf_alike hZ.alike Ar53.2.1) Ar53.2.2 hin53 hat53 (g := (mkF m 217 #[.val (.int p1), .val (.int p2), .val (.int p3), .val (.int p4), .val (.ref b16), .val (.int f), .val (.int n), .val (.int (f + n)), .val (.int t), .val (.ref b27), .val (.ref b41)] [(.int (3 : Int32)), (.ref b27)])) rfl rfl (hb hby at_217) _ k) ?_
  show own_Fin p e below s _ _ _ T52 (mkF m 218 #[.val (.int p1), .val (.int p2), .val (.int p3), .val (.int p4), .val (.ref b16), .val (.int f), .val (.int n), .val (.int (f + n)), .val (.int t), .val (.ref b27), .val (.ref b41)] [(.int (own_expd (3 : Int32) p1 p2 f n t p4))])
  refine own_by (fun _ k => XS.iconst X52.here hx rfl (hb hby at_218) (XS.iloadN X52.here hx rfl (hb hby at_219) rfl (XS.iloadN X52.here hx rfl (hb hby at_220) rfl (XS.iload X52.here hx rfl (hb hby at_221) rfl (XS.iload X52.here hx rfl (hb hby at_223) rfl (XS.iload X52.here hx rfl (hb hby at_225) rfl (XS.iloadN X52.here hx rfl (hb hby at_227) rfl k))))))) ?_
  show own_Fin p e below s _ _ _ T52 (mkF m 228 #[.val (.int p1), .val (.int p2), .val (.int p3), .val (.int p4), .val (.ref b16), .val (.int f), .val (.int n), .val (.int (f + n)), .val (.int t), .val (.ref b27), .val (.ref b41)] [(.int p4), (.int t), (.int n), (.int f), (.int p2), (.int p1), (.int (3 : Int32)), (.int (own_expd (3 : Int32) p1 p2 f n t p4))])
  obtain ⟨_, _, ⟨T54, L54, k54, n54⟩, -, X54, ⟨Lc54, hQ54, l54, y54, z54⟩, st54⟩ := Jvm.LawKit.callS X52 hx (y := (⟨"com/example/libsubstr/libsubstr/CharArrayTextCopyPinLaw", "expected", "(IIIIIII)I"⟩ : MethodName)) hown (mvT hZ (hw _ (List.mem_of_getElem? (i := 24) rfl))) (mvT hZ (hw _ (List.mem_of_getElem? (i := 25) rfl))) (mvT hZ (hw _ (List.mem_of_getElem? (i := 26) rfl))) (mvT hZ (hw _ (List.mem_of_getElem? (i := 27) rfl))) (by decide) (backOf (W := 1) (rm5 l Z a0 hw [] (3 : Int32) p1 p2 f n t p4 T45.heap n0 Zs45 ) hZ (hw _ (List.mem_of_getElem? (i := 27) rfl)) (hw _ (List.mem_of_getElem? (i := 26) rfl)) (by decide) (by decide)) (g := (mkF m 228 #[.val (.int p1), .val (.int p2), .val (.int p3), .val (.int p4), .val (.ref b16), .val (.int f), .val (.int n), .val (.int (f + n)), .val (.int t), .val (.ref b27), .val (.ref b41)] [(.int p4), (.int t), (.int n), (.int f), (.int p2), (.int p1), (.int (3 : Int32)), (.int (own_expd (3 : Int32) p1 p2 f n t p4))])) rfl (by rw [hml]; rfl) (argsL := [(.int (3 : Int32)), (.int p1), (.int p2), (.int f), (.int n), (.int t), (.int p4)]) (rest := [(.int (own_expd (3 : Int32) p1 p2 f n t p4))]) (lenOf own_pd81 rfl) rfl (by show 2 * 0 + _ ≤ _; exact Nat.le_of_eq rfl) (hb hby at_228) (fun _ _ => ⟨rfl, eh52, (by decide : 3 + 0 ≤ _), (by decide : 11 + 0 ≤ _)⟩)
  dsimp only [Pt.U, Pt.locs, Pt.cells, Pt.slots] at X54 l54 y54 z54 st54 hQ54
  subst l54 y54 z54
  obtain ⟨rfl, Nq54, eh54⟩ := hQ54
  have N54 := Fr.app N52 Nq54
  refine own_by (fun _ k => st54 _ k) ?_
  show own_Fin p e below s _ _ _ T54 (mkF m 231 #[.val (.int p1), .val (.int p2), .val (.int p3), .val (.int p4), .val (.ref b16), .val (.int f), .val (.int n), .val (.int (f + n)), .val (.int t), .val (.ref b27), .val (.ref b41)] [(.int (own_expd (3 : Int32) p1 p2 f n t p4)), (.int (own_expd (3 : Int32) p1 p2 f n t p4))])
  refine own_by (fun _ k => XS.icmpNo X54.here hx rfl (hb hby at_231) rfl (teq (rfl : (own_expd (3 : Int32) p1 p2 f n t p4) = (own_expd (3 : Int32) p1 p2 f n t p4))).2 k) ?_
  show own_Fin p e below s _ _ _ T54 (mkF m 234 #[.val (.int p1), .val (.int p2), .val (.int p3), .val (.int p4), .val (.ref b16), .val (.int f), .val (.int n), .val (.int (f + n)), .val (.int t), .val (.ref b27), .val (.ref b41)] [])
  refine own_by (fun _ k => XS.aload X54.here hx rfl (hb hby at_234) rfl rfl (XS.iconst X54.here hx rfl (hb hby at_236) k)) ?_
  show own_Fin p e below s _ _ _ T54 (mkF m 237 #[.val (.int p1), .val (.int p2), .val (.int p3), .val (.int p4), .val (.ref b16), .val (.int f), .val (.int n), .val (.int (f + n)), .val (.int t), .val (.ref b27), .val (.ref b41)] [(.int (4 : Int32)), (.ref b27)])
  obtain ⟨cl55, Ar55, -, S55, M55, H55, -⟩ := id Vr45
  have hin55 : ¬ ((4 : Int32) < 0 ∨ cl55.slots.size ≤ ((4 : Int32)).toNatClampNeg) := inb_of S55 ⟨by decide, by decide⟩
  have hat55 : cl55.slots[((4 : Int32)).toNatClampNeg]? = some (.int (own_expd (4 : Int32) p1 p2 f n t p4)) := Has.at H55 hin55 rfl
  refine own_by (fun _ k => X54.iaload hx (j := (4 : Int32)) (v := (.int (own_expd (4 : Int32) p1 p2 f n t p4))) (by rw [eh54]; exact Ar55.1) (State.isArrayOf_alike hZ.alike Ar55.2.1) Ar55.2.2 hin55 hat55 (g := (mkF m 237 #[.val (.int p1), .val (.int p2), .val (.int p3), .val (.int p4), .val (.ref b16), .val (.int f), .val (.int n), .val (.int (f + n)), .val (.int t), .val (.ref b27), .val (.ref b41)] [(.int (4 : Int32)), (.ref b27)])) rfl rfl (hb hby at_237) _ k) ?_
  show own_Fin p e below s _ _ _ T54 (mkF m 238 #[.val (.int p1), .val (.int p2), .val (.int p3), .val (.int p4), .val (.ref b16), .val (.int f), .val (.int n), .val (.int (f + n)), .val (.int t), .val (.ref b27), .val (.ref b41)] [(.int (own_expd (4 : Int32) p1 p2 f n t p4))])
  refine own_by (fun _ k => XS.iconst X54.here hx rfl (hb hby at_238) (XS.iloadN X54.here hx rfl (hb hby at_239) rfl (XS.iloadN X54.here hx rfl (hb hby at_240) rfl (XS.iload X54.here hx rfl (hb hby at_241) rfl (XS.iload X54.here hx rfl (hb hby at_243) rfl (XS.iload X54.here hx rfl (hb hby at_245) rfl (XS.iloadN X54.here hx rfl (hb hby at_247) rfl k))))))) ?_
  show own_Fin p e below s _ _ _ T54 (mkF m 248 #[.val (.int p1), .val (.int p2), .val (.int p3), .val (.int p4), .val (.ref b16), .val (.int f), .val (.int n), .val (.int (f + n)), .val (.int t), .val (.ref b27), .val (.ref b41)] [(.int p4), (.int t), (.int n), (.int f), (.int p2), (.int p1), (.int (4 : Int32)), (.int (own_expd (4 : Int32) p1 p2 f n t p4))])
  obtain ⟨_, _, ⟨T56, L56, k56, n56⟩, -, X56, ⟨Lc56, hQ56, l56, y56, z56⟩, st56⟩ := Jvm.LawKit.callS X54 hx (y := (⟨"com/example/libsubstr/libsubstr/CharArrayTextCopyPinLaw", "expected", "(IIIIIII)I"⟩ : MethodName)) hown (mvT hZ (hw _ (List.mem_of_getElem? (i := 24) rfl))) (mvT hZ (hw _ (List.mem_of_getElem? (i := 25) rfl))) (mvT hZ (hw _ (List.mem_of_getElem? (i := 26) rfl))) (mvT hZ (hw _ (List.mem_of_getElem? (i := 27) rfl))) (by decide) (backOf (W := 1) (rm5 l Z a0 hw [] (4 : Int32) p1 p2 f n t p4 T45.heap n0 Zs45 ) hZ (hw _ (List.mem_of_getElem? (i := 27) rfl)) (hw _ (List.mem_of_getElem? (i := 26) rfl)) (by decide) (by decide)) (g := (mkF m 248 #[.val (.int p1), .val (.int p2), .val (.int p3), .val (.int p4), .val (.ref b16), .val (.int f), .val (.int n), .val (.int (f + n)), .val (.int t), .val (.ref b27), .val (.ref b41)] [(.int p4), (.int t), (.int n), (.int f), (.int p2), (.int p1), (.int (4 : Int32)), (.int (own_expd (4 : Int32) p1 p2 f n t p4))])) rfl (by rw [hml]; rfl) (argsL := [(.int (4 : Int32)), (.int p1), (.int p2), (.int f), (.int n), (.int t), (.int p4)]) (rest := [(.int (own_expd (4 : Int32) p1 p2 f n t p4))]) (lenOf own_pd81 rfl) rfl (by show 2 * 0 + _ ≤ _; exact Nat.le_of_eq rfl) (hb hby at_248) (fun _ _ => ⟨rfl, eh54, (by decide : 3 + 0 ≤ _), (by decide : 11 + 0 ≤ _)⟩)
  dsimp only [Pt.U, Pt.locs, Pt.cells, Pt.slots] at X56 l56 y56 z56 st56 hQ56
  subst l56 y56 z56
  obtain ⟨rfl, Nq56, eh56⟩ := hQ56
  have N56 := Fr.app N54 Nq56
  refine own_by (fun _ k => st56 _ k) ?_
  show own_Fin p e below s _ _ _ T56 (mkF m 251 #[.val (.int p1), .val (.int p2), .val (.int p3), .val (.int p4), .val (.ref b16), .val (.int f), .val (.int n), .val (.int (f + n)), .val (.int t), .val (.ref b27), .val (.ref b41)] [(.int (own_expd (4 : Int32) p1 p2 f n t p4)), (.int (own_expd (4 : Int32) p1 p2 f n t p4))])
  refine own_by (fun _ k => XS.icmpNo X56.here hx rfl (hb hby at_251) rfl (teq (rfl : (own_expd (4 : Int32) p1 p2 f n t p4) = (own_expd (4 : Int32) p1 p2 f n t p4))).2 k) ?_
  show own_Fin p e below s _ _ _ T56 (mkF m 254 #[.val (.int p1), .val (.int p2), .val (.int p3), .val (.int p4), .val (.ref b16), .val (.int f), .val (.int n), .val (.int (f + n)), .val (.int t), .val (.ref b27), .val (.ref b41)] [])
  refine own_by (fun _ k => XS.aload X56.here hx rfl (hb hby at_254) rfl rfl (XS.iconst X56.here hx rfl (hb hby at_256) k)) ?_
  show own_Fin p e below s _ _ _ T56 (mkF m 257 #[.val (.int p1), .val (.int p2), .val (.int p3), .val (.int p4), .val (.ref b16), .val (.int f), .val (.int n), .val (.int (f + n)), .val (.int t), .val (.ref b27), .val (.ref b41)] [(.int (5 : Int32)), (.ref b27)])
  obtain ⟨cl57, Ar57, -, S57, M57, H57, -⟩ := id Vr45
  have hin57 : ¬ ((5 : Int32) < 0 ∨ cl57.slots.size ≤ ((5 : Int32)).toNatClampNeg) := inb_of S57 ⟨by decide, by decide⟩
  have hat57 : cl57.slots[((5 : Int32)).toNatClampNeg]? = some (.int (own_expd (5 : Int32) p1 p2 f n t p4)) := Has.at H57 hin57 rfl
  refine own_by (fun _ k => X56.iaload hx (j := (5 : Int32)) (v := (.int (own_expd (5 : Int32) p1 p2 f n t p4))) (by rw [eh56]; exact Ar57.1) (State.isArrayOf_alike hZ.alike Ar57.2.1) Ar57.2.2 hin57 hat57 (g := (mkF m 257 #[.val (.int p1), .val (.int p2), .val (.int p3), .val (.int p4), .val (.ref b16), .val (.int f), .val (.int n), .val (.int (f + n)), .val (.int t), .val (.ref b27), .val (.ref b41)] [(.int (5 : Int32)), (.ref b27)])) rfl rfl (hb hby at_257) _ k) ?_
  show own_Fin p e below s _ _ _ T56 (mkF m 258 #[.val (.int p1), .val (.int p2), .val (.int p3), .val (.int p4), .val (.ref b16), .val (.int f), .val (.int n), .val (.int (f + n)), .val (.int t), .val (.ref b27), .val (.ref b41)] [(.int (own_expd (5 : Int32) p1 p2 f n t p4))])
  refine own_by (fun _ k => XS.iconst X56.here hx rfl (hb hby at_258) (XS.iloadN X56.here hx rfl (hb hby at_259) rfl (XS.iloadN X56.here hx rfl (hb hby at_260) rfl (XS.iload X56.here hx rfl (hb hby at_261) rfl (XS.iload X56.here hx rfl (hb hby at_263) rfl (XS.iload X56.here hx rfl (hb hby at_265) rfl (XS.iloadN X56.here hx rfl (hb hby at_267) rfl k))))))) ?_
  show own_Fin p e below s _ _ _ T56 (mkF m 268 #[.val (.int p1), .val (.int p2), .val (.int p3), .val (.int p4), .val (.ref b16), .val (.int f), .val (.int n), .val (.int (f + n)), .val (.int t), .val (.ref b27), .val (.ref b41)] [(.int p4), (.int t), (.int n), (.int f), (.int p2), (.int p1), (.int (5 : Int32)), (.int (own_expd (5 : Int32) p1 p2 f n t p4))])
  obtain ⟨_, _, ⟨T58, L58, k58, n58⟩, -, X58, ⟨Lc58, hQ58, l58, y58, z58⟩, st58⟩ := Jvm.LawKit.callS X56 hx (y := (⟨"com/example/libsubstr/libsubstr/CharArrayTextCopyPinLaw", "expected", "(IIIIIII)I"⟩ : MethodName)) hown (mvT hZ (hw _ (List.mem_of_getElem? (i := 24) rfl))) (mvT hZ (hw _ (List.mem_of_getElem? (i := 25) rfl))) (mvT hZ (hw _ (List.mem_of_getElem? (i := 26) rfl))) (mvT hZ (hw _ (List.mem_of_getElem? (i := 27) rfl))) (by decide) (backOf (W := 1) (rm5 l Z a0 hw [] (5 : Int32) p1 p2 f n t p4 T45.heap n0 Zs45 ) hZ (hw _ (List.mem_of_getElem? (i := 27) rfl)) (hw _ (List.mem_of_getElem? (i := 26) rfl)) (by decide) (by decide)) (g := (mkF m 268 #[.val (.int p1), .val (.int p2), .val (.int p3), .val (.int p4), .val (.ref b16), .val (.int f), .val (.int n), .val (.int (f + n)), .val (.int t), .val (.ref b27), .val (.ref b41)] [(.int p4), (.int t), (.int n), (.int f), (.int p2), (.int p1), (.int (5 : Int32)), (.int (own_expd (5 : Int32) p1 p2 f n t p4))])) rfl (by rw [hml]; rfl) (argsL := [(.int (5 : Int32)), (.int p1), (.int p2), (.int f), (.int n), (.int t), (.int p4)]) (rest := [(.int (own_expd (5 : Int32) p1 p2 f n t p4))]) (lenOf own_pd81 rfl) rfl (by show 2 * 0 + _ ≤ _; exact Nat.le_of_eq rfl) (hb hby at_268) (fun _ _ => ⟨rfl, eh56, (by decide : 3 + 0 ≤ _), (by decide : 11 + 0 ≤ _)⟩)
  dsimp only [Pt.U, Pt.locs, Pt.cells, Pt.slots] at X58 l58 y58 z58 st58 hQ58
  subst l58 y58 z58
  obtain ⟨rfl, Nq58, eh58⟩ := hQ58
  have N58 := Fr.app N56 Nq58
  refine own_by (fun _ k => st58 _ k) ?_
  show own_Fin p e below s _ _ _ T58 (mkF m 271 #[.val (.int p1), .val (.int p2), .val (.int p3), .val (.int p4), .val (.ref b16), .val (.int f), .val (.int n), .val (.int (f + n)), .val (.int t), .val (.ref b27), .val (.ref b41)] [(.int (own_expd (5 : Int32) p1 p2 f n t p4)), (.int (own_expd (5 : Int32) p1 p2 f n t p4))])
  refine own_by (fun _ k => XS.icmpNo X58.here hx rfl (hb hby at_271) rfl (teq (rfl : (own_expd (5 : Int32) p1 p2 f n t p4) = (own_expd (5 : Int32) p1 p2 f n t p4))).2 k) ?_
  show own_Fin p e below s _ _ _ T58 (mkF m 274 #[.val (.int p1), .val (.int p2), .val (.int p3), .val (.int p4), .val (.ref b16), .val (.int f), .val (.int n), .val (.int (f + n)), .val (.int t), .val (.ref b27), .val (.ref b41)] [])
  refine own_by (fun _ k => XS.aload X58.here hx rfl (hb hby at_274) rfl rfl (XS.iconst X58.here hx rfl (hb hby at_276) k)) ?_
  show own_Fin p e below s _ _ _ T58 (mkF m 277 #[.val (.int p1), .val (.int p2), .val (.int p3), .val (.int p4), .val (.ref b16), .val (.int f), .val (.int n), .val (.int (f + n)), .val (.int t), .val (.ref b27), .val (.ref b41)] [(.int (0 : Int32)), (.ref b16)])
  obtain ⟨cl59, Ar59, -, S59, M59, H59, -⟩ := id f46_0
  have hin59 : ¬ ((0 : Int32) < 0 ∨ cl59.slots.size ≤ ((0 : Int32)).toNatClampNeg) := inb_of S59 ⟨by decide, by decide⟩
  have hat59 : cl59.slots[((0 : Int32)).toNatClampNeg]? = some (.int (p1 &&& (65535 : Int32))) := Has.at H59 hin59 rfl
  refine own_by (fun _ k => X58.caload hx (j := (0 : Int32)) (v := (.int (p1 &&& (65535 : Int32)))) (by rw [eh58]; exact Ar59.1) (State.isArrayOf_alike hZ.alike Ar59.2.1) Ar59.2.2 hin59 hat59 (g := (mkF m 277 #[.val (.int p1), .val (.int p2), .val (.int p3), .val (.int p4), .val (.ref b16), .val (.int f), .val (.int n), .val (.int (f + n)), .val (.int t), .val (.ref b27), .val (.ref b41)] [(.int (0 : Int32)), (.ref b16)])) rfl rfl (hb hby at_277) _ k) ?_
  show own_Fin p e below s _ _ _ T58 (mkF m 278 #[.val (.int p1), .val (.int p2), .val (.int p3), .val (.int p4), .val (.ref b16), .val (.int f), .val (.int n), .val (.int (f + n)), .val (.int t), .val (.ref b27), .val (.ref b41)] [(.int (p1 &&& (65535 : Int32)))])
  refine own_by (fun _ k => XS.iloadN X58.here hx rfl (hb hby at_278) rfl k) ?_
  show own_Fin p e below s _ _ _ T58 (mkF m 279 #[.val (.int p1), .val (.int p2), .val (.int p3), .val (.int p4), .val (.ref b16), .val (.int f), .val (.int n), .val (.int (f + n)), .val (.int t), .val (.ref b27), .val (.ref b41)] [(.int p1), (.int (p1 &&& (65535 : Int32)))])
  refine own_by (fun _ k => X58.ldcInt hx hown (mvT hZ (hw _ (List.mem_of_getElem? (i := 1) rfl))) (g := (mkF m 279 #[.val (.int p1), .val (.int p2), .val (.int p3), .val (.int p4), .val (.ref b16), .val (.int f), .val (.int n), .val (.int (f + n)), .val (.int t), .val (.ref b27), .val (.ref b41)] [(.int p1), (.int (p1 &&& (65535 : Int32)))])) rfl (hb hby at_279) _ k) ?_
  show own_Fin p e below s _ _ _ T58 (mkF m 281 #[.val (.int p1), .val (.int p2), .val (.int p3), .val (.int p4), .val (.ref b16), .val (.int f), .val (.int n), .val (.int (f + n)), .val (.int t), .val (.ref b27), .val (.ref b41)] [(.int (65535 : Int32)), (.int p1), (.int (p1 &&& (65535 : Int32)))])
  refine own_by (fun _ k => XS.iand X58.here hx rfl (hb hby at_281) rfl k) ?_
  show own_Fin p e below s _ _ _ T58 (mkF m 282 #[.val (.int p1), .val (.int p2), .val (.int p3), .val (.int p4), .val (.ref b16), .val (.int f), .val (.int n), .val (.int (f + n)), .val (.int t), .val (.ref b27), .val (.ref b41)] [(.int (p1 &&& (65535 : Int32))), (.int (p1 &&& (65535 : Int32)))])
  refine own_by (fun _ k => XS.icmpNo X58.here hx rfl (hb hby at_282) rfl (teq (rfl : (p1 &&& (65535 : Int32)) = (p1 &&& (65535 : Int32)))).2 k) ?_
  show own_Fin p e below s _ _ _ T58 (mkF m 285 #[.val (.int p1), .val (.int p2), .val (.int p3), .val (.int p4), .val (.ref b16), .val (.int f), .val (.int n), .val (.int (f + n)), .val (.int t), .val (.ref b27), .val (.ref b41)] [])
  refine own_by (fun _ k => XS.aload X58.here hx rfl (hb hby at_285) rfl rfl (XS.iconst X58.here hx rfl (hb hby at_287) k)) ?_
  show own_Fin p e below s _ _ _ T58 (mkF m 288 #[.val (.int p1), .val (.int p2), .val (.int p3), .val (.int p4), .val (.ref b16), .val (.int f), .val (.int n), .val (.int (f + n)), .val (.int t), .val (.ref b27), .val (.ref b41)] [(.int (1 : Int32)), (.ref b16)])
  obtain ⟨cl60, Ar60, -, S60, M60, H60, -⟩ := id f46_0
  have hin60 : ¬ ((1 : Int32) < 0 ∨ cl60.slots.size ≤ ((1 : Int32)).toNatClampNeg) := inb_of S60 ⟨by decide, by decide⟩
  have hat60 : cl60.slots[((1 : Int32)).toNatClampNeg]? = some (.int ((p1.toUInt32 >>> ((16 : Int32) &&& 31).toUInt32).toInt32)) := Has.at H60 hin60 rfl
  refine own_by (fun _ k => X58.caload hx (j := (1 : Int32)) (v := (.int ((p1.toUInt32 >>> ((16 : Int32) &&& 31).toUInt32).toInt32))) (by rw [eh58]; exact Ar60.1) (State.isArrayOf_alike hZ.alike Ar60.2.1) Ar60.2.2 hin60 hat60 (g := (mkF m 288 #[.val (.int p1), .val (.int p2), .val (.int p3), .val (.int p4), .val (.ref b16), .val (.int f), .val (.int n), .val (.int (f + n)), .val (.int t), .val (.ref b27), .val (.ref b41)] [(.int (1 : Int32)), (.ref b16)])) rfl rfl (hb hby at_288) _ k) ?_
  show own_Fin p e below s _ _ _ T58 (mkF m 289 #[.val (.int p1), .val (.int p2), .val (.int p3), .val (.int p4), .val (.ref b16), .val (.int f), .val (.int n), .val (.int (f + n)), .val (.int t), .val (.ref b27), .val (.ref b41)] [(.int ((p1.toUInt32 >>> ((16 : Int32) &&& 31).toUInt32).toInt32))])
  refine own_by (fun _ k => XS.iloadN X58.here hx rfl (hb hby at_289) rfl (XS.bipush X58.here hx rfl (hb hby at_290) (XS.iushr X58.here hx rfl (hb hby at_292) rfl k))) ?_
  show own_Fin p e below s _ _ _ T58 (mkF m 293 #[.val (.int p1), .val (.int p2), .val (.int p3), .val (.int p4), .val (.ref b16), .val (.int f), .val (.int n), .val (.int (f + n)), .val (.int t), .val (.ref b27), .val (.ref b41)] [(.int ((p1.toUInt32 >>> ((16 : Int32) &&& 31).toUInt32).toInt32)), (.int ((p1.toUInt32 >>> ((16 : Int32) &&& 31).toUInt32).toInt32))])
  refine own_by (fun _ k => XS.icmpNo X58.here hx rfl (hb hby at_293) rfl (teq (rfl : ((p1.toUInt32 >>> ((16 : Int32) &&& 31).toUInt32).toInt32) = ((p1.toUInt32 >>> ((16 : Int32) &&& 31).toUInt32).toInt32))).2 k) ?_
  show own_Fin p e below s _ _ _ T58 (mkF m 296 #[.val (.int p1), .val (.int p2), .val (.int p3), .val (.int p4), .val (.ref b16), .val (.int f), .val (.int n), .val (.int (f + n)), .val (.int t), .val (.ref b27), .val (.ref b41)] [])
  refine own_by (fun _ k => XS.aload X58.here hx rfl (hb hby at_296) rfl rfl (XS.iconst X58.here hx rfl (hb hby at_298) k)) ?_
  show own_Fin p e below s _ _ _ T58 (mkF m 299 #[.val (.int p1), .val (.int p2), .val (.int p3), .val (.int p4), .val (.ref b16), .val (.int f), .val (.int n), .val (.int (f + n)), .val (.int t), .val (.ref b27), .val (.ref b41)] [(.int (2 : Int32)), (.ref b16)])
  obtain ⟨cl61, Ar61, -, S61, M61, H61, -⟩ := id f46_0
  have hin61 : ¬ ((2 : Int32) < 0 ∨ cl61.slots.size ≤ ((2 : Int32)).toNatClampNeg) := inb_of S61 ⟨by decide, by decide⟩
  have hat61 : cl61.slots[((2 : Int32)).toNatClampNeg]? = some (.int (p2 &&& (65535 : Int32))) := Has.at H61 hin61 rfl
  refine own_by (fun _ k => X58.caload hx (j := (2 : Int32)) (v := (.int (p2 &&& (65535 : Int32)))) (by rw [eh58]; exact Ar61.1) (State.isArrayOf_alike hZ.alike Ar61.2.1) Ar61.2.2 hin61 hat61 (g := (mkF m 299 #[.val (.int p1), .val (.int p2), .val (.int p3), .val (.int p4), .val (.ref b16), .val (.int f), .val (.int n), .val (.int (f + n)), .val (.int t), .val (.ref b27), .val (.ref b41)] [(.int (2 : Int32)), (.ref b16)])) rfl rfl (hb hby at_299) _ k) ?_
  show own_Fin p e below s _ _ _ T58 (mkF m 300 #[.val (.int p1), .val (.int p2), .val (.int p3), .val (.int p4), .val (.ref b16), .val (.int f), .val (.int n), .val (.int (f + n)), .val (.int t), .val (.ref b27), .val (.ref b41)] [(.int (p2 &&& (65535 : Int32)))])
  refine own_by (fun _ k => XS.iloadN X58.here hx rfl (hb hby at_300) rfl k) ?_
  show own_Fin p e below s _ _ _ T58 (mkF m 301 #[.val (.int p1), .val (.int p2), .val (.int p3), .val (.int p4), .val (.ref b16), .val (.int f), .val (.int n), .val (.int (f + n)), .val (.int t), .val (.ref b27), .val (.ref b41)] [(.int p2), (.int (p2 &&& (65535 : Int32)))])
  refine own_by (fun _ k => X58.ldcInt hx hown (mvT hZ (hw _ (List.mem_of_getElem? (i := 1) rfl))) (g := (mkF m 301 #[.val (.int p1), .val (.int p2), .val (.int p3), .val (.int p4), .val (.ref b16), .val (.int f), .val (.int n), .val (.int (f + n)), .val (.int t), .val (.ref b27), .val (.ref b41)] [(.int p2), (.int (p2 &&& (65535 : Int32)))])) rfl (hb hby at_301) _ k) ?_
  show own_Fin p e below s _ _ _ T58 (mkF m 303 #[.val (.int p1), .val (.int p2), .val (.int p3), .val (.int p4), .val (.ref b16), .val (.int f), .val (.int n), .val (.int (f + n)), .val (.int t), .val (.ref b27), .val (.ref b41)] [(.int (65535 : Int32)), (.int p2), (.int (p2 &&& (65535 : Int32)))])
  refine own_by (fun _ k => XS.iand X58.here hx rfl (hb hby at_303) rfl k) ?_
  show own_Fin p e below s _ _ _ T58 (mkF m 304 #[.val (.int p1), .val (.int p2), .val (.int p3), .val (.int p4), .val (.ref b16), .val (.int f), .val (.int n), .val (.int (f + n)), .val (.int t), .val (.ref b27), .val (.ref b41)] [(.int (p2 &&& (65535 : Int32))), (.int (p2 &&& (65535 : Int32)))])
  refine own_by (fun _ k => XS.icmpNo X58.here hx rfl (hb hby at_304) rfl (teq (rfl : (p2 &&& (65535 : Int32)) = (p2 &&& (65535 : Int32)))).2 k) ?_
  show own_Fin p e below s _ _ _ T58 (mkF m 307 #[.val (.int p1), .val (.int p2), .val (.int p3), .val (.int p4), .val (.ref b16), .val (.int f), .val (.int n), .val (.int (f + n)), .val (.int t), .val (.ref b27), .val (.ref b41)] [])
  refine own_by (fun _ k => XS.aload X58.here hx rfl (hb hby at_307) rfl rfl (XS.iconst X58.here hx rfl (hb hby at_309) k)) ?_
  show own_Fin p e below s _ _ _ T58 (mkF m 310 #[.val (.int p1), .val (.int p2), .val (.int p3), .val (.int p4), .val (.ref b16), .val (.int f), .val (.int n), .val (.int (f + n)), .val (.int t), .val (.ref b27), .val (.ref b41)] [(.int (3 : Int32)), (.ref b16)])
  obtain ⟨cl62, Ar62, -, S62, M62, H62, -⟩ := id f46_0
  have hin62 : ¬ ((3 : Int32) < 0 ∨ cl62.slots.size ≤ ((3 : Int32)).toNatClampNeg) := inb_of S62 ⟨by decide, by decide⟩
  have hat62 : cl62.slots[((3 : Int32)).toNatClampNeg]? = some (.int ((p2.toUInt32 >>> ((16 : Int32) &&& 31).toUInt32).toInt32)) := Has.at H62 hin62 rfl
  refine own_by (fun _ k => X58.caload hx (j := (3 : Int32)) (v := (.int ((p2.toUInt32 >>> ((16 : Int32) &&& 31).toUInt32).toInt32))) (by rw [eh58]; exact Ar62.1) (State.isArrayOf_alike hZ.alike Ar62.2.1) Ar62.2.2 hin62 hat62 (g := (mkF m 310 #[.val (.int p1), .val (.int p2), .val (.int p3), .val (.int p4), .val (.ref b16), .val (.int f), .val (.int n), .val (.int (f + n)), .val (.int t), .val (.ref b27), .val (.ref b41)] [(.int (3 : Int32)), (.ref b16)])) rfl rfl (hb hby at_310) _ k) ?_
  show own_Fin p e below s _ _ _ T58 (mkF m 311 #[.val (.int p1), .val (.int p2), .val (.int p3), .val (.int p4), .val (.ref b16), .val (.int f), .val (.int n), .val (.int (f + n)), .val (.int t), .val (.ref b27), .val (.ref b41)] [(.int ((p2.toUInt32 >>> ((16 : Int32) &&& 31).toUInt32).toInt32))])
  refine own_by (fun _ k => XS.iloadN X58.here hx rfl (hb hby at_311) rfl (XS.bipush X58.here hx rfl (hb hby at_312) (XS.iushr X58.here hx rfl (hb hby at_314) rfl k))) ?_
  show own_Fin p e below s _ _ _ T58 (mkF m 315 #[.val (.int p1), .val (.int p2), .val (.int p3), .val (.int p4), .val (.ref b16), .val (.int f), .val (.int n), .val (.int (f + n)), .val (.int t), .val (.ref b27), .val (.ref b41)] [(.int ((p2.toUInt32 >>> ((16 : Int32) &&& 31).toUInt32).toInt32)), (.int ((p2.toUInt32 >>> ((16 : Int32) &&& 31).toUInt32).toInt32))])
  refine own_by (fun _ k => XS.icmpNo X58.here hx rfl (hb hby at_315) rfl (teq (rfl : ((p2.toUInt32 >>> ((16 : Int32) &&& 31).toUInt32).toInt32) = ((p2.toUInt32 >>> ((16 : Int32) &&& 31).toUInt32).toInt32))).2 k) ?_
  show own_Fin p e below s _ _ _ T58 (mkF m 318 #[.val (.int p1), .val (.int p2), .val (.int p3), .val (.int p4), .val (.ref b16), .val (.int f), .val (.int n), .val (.int (f + n)), .val (.int t), .val (.ref b27), .val (.ref b41)] [])
  refine own_by (fun _ k => XS.iconst X58.here hx rfl (hb hby at_318) (XS.goto X58.here hx rfl (pc0 := 319) (pc' := 323) rfl (hb hby at_319) (by decide) (by decide) k)) ?_
  show own_Fin p e below s _ _ _ T58 (mkF m 323 #[.val (.int p1), .val (.int p2), .val (.int p3), .val (.int p4), .val (.ref b16), .val (.int f), .val (.int n), .val (.int (f + n)), .val (.int t), .val (.ref b27), .val (.ref b41)] [(.int (1 : Int32))])
  exact own_retZ X58 hx hlk (t := .boolean) Bd.returns (by simp) (hb hby at_323) ⟨rfl, N58⟩ (by decide) (by decide)
set_option maxRecDepth 65536 in
set_option maxHeartbeats 40000000 in
theorem comes_1 {Post : Tables → Env → Array Value → State → Outcome → State → Prop} (hpost : ∀ tb e args s v u, (limb_1_1.after args s (.returned v) u = true ∧ limb_1_2.after args s (.returned v) u = true ∧ True) → FrameEnd s (.returned v) u (Jvm.fieldLocs frame_1_writes args s ++ Jvm.arrayLocs frame_1_arrays args s ++ Jvm.staticLocs frame_1_statics s) 16 128 → Post tb e args s (.returned v) u) :
    ArmFor flags0 classFile x code maxLocals ret World_1 tables_1 room_1 Calls_1 rest_1 Pre_1 Post := by
  intro l hfl _ _ p e ha hc hk s m args below hf hA hF happ hP
  obtain ⟨hcalls, hrest, hpre⟩ := hP
  obtain ⟨-, -, -, hnamed, -, -, -, hat⟩ := (Spec.applies_iff hf).mp happ
  obtain ⟨hg, hn⟩ := and_e (Cond.before_iff.mp (show (Jvm.Cond.and given_1 narrow_1).before args s = true from hpre))
  obtain ⟨gc, gr0⟩ := and_e hg
  obtain ⟨ga0, gr1⟩ := and_e gr0
  obtain ⟨ga1, gr2⟩ := and_e gr1
  obtain ⟨ga2, gr3⟩ := and_e gr2
  obtain ⟨w0, w1, w2, w3, rfl⟩ : ∃ w0 w1 w2 w3 : Value, args = #[w0, w1, w2, w3] := by
    have hs : args.size = 4 := by simpa [Cond.value, given_1] using gc
    obtain ⟨L⟩ := args
    match L, hs with
    | [w0, w1, w2, w3], _ => exact ⟨w0, w1, w2, w3, rfl⟩
  have hw := fun d (hd : d ∈ tables_1) => atoms_spec (ws := Jvm.Cond.code x code maxLocals ret :: tables_1) hat d (List.mem_cons_of_mem _ hd)
  have hfit : Fit s := fun {y c} hc i hi => by
    obtain ⟨ha, rfl⟩ := Array.getElem?_eq_some_iff.mp hc
    have q := List.all_eq_true.mp ((Array.all_eq_true_iff_forall_mem.mp hF) _ (Array.getElem_mem ha)) i (List.mem_range.mpr hi)
    simpa [Array.getElem?_eq_getElem hi] using q
  obtain ⟨i0, ei0⟩ := is_v ga0
  obtain rfl : w0 = (.int i0) := Option.some.inj ei0
  obtain ⟨i1, ei1⟩ := is_v ga1
  obtain rfl : w1 = (.int i1) := Option.some.inj ei1
  obtain ⟨i2, ei2⟩ := is_v ga2
  obtain rfl : w2 = (.int i2) := Option.some.inj ei2
  obtain ⟨i3, ei3⟩ := is_v gr3
  obtain rfl : w3 = (.int i3) := Option.some.inj ei3
  obtain ⟨n, o, h1, h2, h3, _, L, rfl, ⟨rfl, N⟩, hq⟩ := rm0 l s _ hw tables_1 i0 i1 i2 i3 s.heap s.heap.size (Nat.le_refl _) p e ha hc hk s m _ below hf ((Spec.applies_iff_loose hf).mp happ).1 ⟨rfl, State.Warmed39.refl s, rfl⟩ trivial
  refine ⟨n, _, h1, h2, h3, hpost _ _ _ _ _ _ ⟨Cond.after_iff.mpr rfl, Cond.after_iff.mpr (eq_i res_at (Term.int_eval (1)) rfl), trivial⟩ ⟨hq.1, hq.2.1, (hq.2.2.sift fun y hy => Or.inr (N y hy)).mono (by decide) (by decide)⟩⟩
theorem main_1_1 : Claimed_1_1 := comes_1 fun _ _ _ _ _ _ h hF => ⟨h.1, hF⟩
theorem main_1_2 : Claimed_1_2 := comes_1 fun _ _ _ _ _ _ h hF => ⟨h.2.1, hF⟩
end Jvm.Pilot.@@N@@
namespace Jvm.Pilot.@@N@@
open Jvm Jvm.ClassFile Sem Op Lib Jvm.Free Jvm.Stand Jvm.Pilot.@@N@@.Jvm.D
/-! MADE BY PROGRAM (witnessworld.py) out of the Statement's table words and the real class files: 13 classes; the members and pool entries that the words name. The judged class is class 1, her method 1. -/
namespace start1
open Jvm.ClassFile
def u (s : String) : CpInfo := .utf8 (stringToUtf16 s)
/-- a pool by its gaps: so many unusable entries, then the entry; so many at the end -/
def gap : Nat → List CpInfo → List CpInfo
  | 0, r => r
  | n + 1, r => .unusable :: gap n r
def poolList (es : List (Nat × CpInfo)) (last : Nat) : List CpInfo := es.foldr (fun e r => gap e.1 (e.2 :: r)) (gap last [])
def pool (es : List (Nat × CpInfo)) (last : Nat) : Array CpInfo := ⟨poolList es last⟩
def fileOf (pool : Array CpInfo) (this : Nat) (attrs : Array Attribute := #[]) (ms : Array MethodInfo := #[]) (fl : Nat := 33) (sup : Nat := 0) (ifs : Array Nat := #[]) (fds : Array FieldInfo := #[]) : ClassFile where
  minorVersion := 0
  majorVersion := 65
  constantPool := pool
  accessFlags := fl
  thisClass := this
  superClass := sup
  interfaces := ifs
  fields := fds
  methods := ms
  attributes := attrs
def plain (name : String) (sup : Option ClassId) : Class where
  name := name
  kind := .ordinary
  loader := none
  accessFlags := 33
  super := sup
  interfaces := #[]
  cf := none
  fields := #[]
  methods := #[]
  instanceTypes := #[]
  staticTypes := #[]
  resolved := #[]
  callSites := []
  init := .initialized
  statics := none
  mirror := none

def pool0 : Array CpInfo := pool [(5, u "<init>"), (0, u "()V"), (1, .class_ 10), (1, u "java/lang/Object")] 113

def k0c0 : Code := { maxStack := 0, maxLocals := 1, code := object_method_1_code, exceptionTable := #[], attributes := #[] }
def k0m0 : Method := { name := "<init>", desc := "()V", sig := { parameters := [], returnType := none }, accessFlags := 1, code := some k0c0 }
/-- java/lang/Object -/
def k0 : Class := { plain "java/lang/Object" none with
  accessFlags := 33
  interfaces := #[]
  cf := some (fileOf pool0 8 #[] #[{ accessFlags := 1, nameIndex := 5, descriptorIndex := 6, attributes := #[] }] 33 0 #[] #[])
  fields := #[]
  methods := #[k0m0]
  instanceTypes := #[]
  staticTypes := #[]
  resolved := Array.replicate 124 none
  statics := none }

def pool1 : Array CpInfo := pool [(2, .class_ 4), (1, u "java/lang/Object"), (0, u "<init>"), (0, u "()V"), (0, .integer 65535), (0, .class_ 9), (0, u "com/example/libsubstr/libsubstr/CharArrayText"), (0, .methodref 8 11), (0, .nameAndType 5 12), (0, u "([C)V"), (0, .methodref 8 14), (0, .nameAndType 15 16), (0, u "copy"), (0, u "(II[II)V"), (0, .methodref 18 19), (0, .class_ 20), (0, .nameAndType 21 22), (0, u "com/example/libsubstr/libsubstr/CharArrayTextCopyPinLaw"), (0, u "expected"), (0, u "(IIIIIII)I"), (2, u "law"), (0, u "(IIII)Z")] 7

def k1m0 : Method := { name := "<init>", desc := "()V", sig := { parameters := [], returnType := none }, accessFlags := 1, code := none }
def k1c1 : Code := { maxStack := 8, maxLocals := 11, code := code, exceptionTable := #[], attributes := #[] }
def k1m1 : Method := { name := "law", desc := "(IIII)Z", sig := { parameters := [.int, .int, .int, .int], returnType := some .boolean }, accessFlags := 9, code := some k1c1 }
def k1c2 : Code := { maxStack := 3, maxLocals := 8, code := method_3_code, exceptionTable := #[], attributes := #[] }
def k1m2 : Method := { name := "expected", desc := "(IIIIIII)I", sig := { parameters := [.int, .int, .int, .int, .int, .int, .int], returnType := some .int }, accessFlags := 10, code := some k1c2 }
/-- com/example/libsubstr/libsubstr/CharArrayTextCopyPinLaw -/
def k1 : Class := { plain "com/example/libsubstr/libsubstr/CharArrayTextCopyPinLaw" (some 0) with
  accessFlags := 49
  interfaces := #[]
  cf := some (fileOf pool1 18 #[] #[{ accessFlags := 1, nameIndex := 5, descriptorIndex := 6, attributes := #[] }, { accessFlags := 9, nameIndex := 25, descriptorIndex := 26, attributes := #[] }, { accessFlags := 10, nameIndex := 21, descriptorIndex := 22, attributes := #[] }] 49 2 #[] #[])
  fields := #[]
  methods := #[k1m0, k1m1, k1m2]
  instanceTypes := #[]
  staticTypes := #[]
  resolved := Array.replicate 34 none
  statics := none }

def pool2 : Array CpInfo := pool [(47, .class_ 49), (1, u "com/example/libsubstr/libsubstr/Text"), (12, .class_ 63), (0, u "java/lang/Object")] 13

/-- com/example/libsubstr/libsubstr/Text -/
def k2 : Class := { plain "com/example/libsubstr/libsubstr/Text" (some 0) with
  accessFlags := 1537
  interfaces := #[]
  cf := some (fileOf pool2 47 #[] #[] 1537 62 #[] #[])
  fields := #[]
  methods := #[]
  instanceTypes := #[]
  staticTypes := #[]
  resolved := Array.replicate 77 none
  statics := none }

def pool3 : Array CpInfo := pool [(1, .methodref 2 3), (0, .class_ 4), (0, .nameAndType 5 6), (0, u "java/lang/Object"), (0, u "<init>"), (0, u "()V"), (7, .class_ 16), (1, u "com/example/libsubstr/libsubstr/HeldText"), (18, .class_ 36), (0, u "com/example/libsubstr/libsubstr/Text")] 13

def k3c0 : Code := { maxStack := 1, maxLocals := 1, code := prog_29_method_1_code, exceptionTable := #[], attributes := #[] }
def k3m0 : Method := { name := "<init>", desc := "()V", sig := { parameters := [], returnType := none }, accessFlags := 0, code := some k3c0 }
/-- com/example/libsubstr/libsubstr/HeldText -/
def k3 : Class := { plain "com/example/libsubstr/libsubstr/HeldText" (some 0) with
  accessFlags := 1056
  interfaces := #[2]
  cf := some (fileOf pool3 14 #[] #[{ accessFlags := 0, nameIndex := 5, descriptorIndex := 6, attributes := #[] }] 1056 2 #[35] #[])
  fields := #[]
  methods := #[k3m0]
  instanceTypes := #[]
  staticTypes := #[]
  resolved := Array.replicate 50 none
  statics := none }

def pool4 : Array CpInfo := pool [(1, .methodref 2 3), (0, .class_ 4), (0, .nameAndType 5 6), (0, u "com/example/libsubstr/libsubstr/HeldText"), (0, u "<init>"), (0, u "()V"), (0, .fieldref 8 9), (0, .class_ 10), (0, .nameAndType 11 12), (0, u "com/example/libsubstr/libsubstr/CharArrayText"), (0, u "chars"), (0, u "[C"), (21, u "([C)V"), (6, u "copy"), (0, u "(II[II)V")] 10

def k4c0 : Code := { maxStack := 2, maxLocals := 2, code := prog_15_method_1_code, exceptionTable := #[], attributes := #[] }
def k4m0 : Method := { name := "<init>", desc := "([C)V", sig := { parameters := [(.array .char)], returnType := none }, accessFlags := 0, code := some k4c0 }
def k4c1 : Code := { maxStack := 4, maxLocals := 6, code := prog_15_method_4_code, exceptionTable := #[], attributes := #[] }
def k4m1 : Method := { name := "copy", desc := "(II[II)V", sig := { parameters := [.int, .int, (.array .int), .int], returnType := none }, accessFlags := 0, code := some k4c1 }
/-- com/example/libsubstr/libsubstr/CharArrayText -/
def k4 : Class := { plain "com/example/libsubstr/libsubstr/CharArrayText" (some 3) with
  accessFlags := 48
  interfaces := #[]
  cf := some (fileOf pool4 8 #[] #[{ accessFlags := 0, nameIndex := 5, descriptorIndex := 34, attributes := #[] }, { accessFlags := 0, nameIndex := 41, descriptorIndex := 42, attributes := #[] }] 48 2 #[] #[{ accessFlags := 18, nameIndex := 11, descriptorIndex := 12, attributes := #[] }])
  fields := #[{ name := "chars", type := (.array .char), accessFlags := 18, slot := 0, constantValue := 0 }]
  methods := #[k4m0, k4m1]
  instanceTypes := #[(.array .char)]
  staticTypes := #[]
  resolved := Array.replicate 53 none
  statics := none }

def pool5 : Array CpInfo := pool [(1, u "java/lang/Cloneable"), (0, .class_ 1), (0, u "java/lang/Object"), (0, .class_ 3)] 3

/-- java/lang/Cloneable -/
def k5 : Class := { plain "java/lang/Cloneable" (some 0) with
  accessFlags := 1537
  interfaces := #[]
  cf := some (fileOf pool5 2 #[] #[] 1537 4 #[] #[])
  fields := #[]
  methods := #[]
  instanceTypes := #[]
  staticTypes := #[]
  resolved := Array.replicate 8 none
  statics := none }

def pool6 : Array CpInfo := pool [(1, u "java/io/Serializable"), (0, .class_ 1), (0, u "java/lang/Object"), (0, .class_ 3)] 3

/-- java/io/Serializable -/
def k6 : Class := { plain "java/io/Serializable" (some 0) with
  accessFlags := 1537
  interfaces := #[]
  cf := some (fileOf pool6 2 #[] #[] 1537 4 #[] #[])
  fields := #[]
  methods := #[]
  instanceTypes := #[]
  staticTypes := #[]
  resolved := Array.replicate 8 none
  statics := none }

/-- the primitive byte -/
def k7 : Class := { plain "byte" none with kind := .primitive 'B', accessFlags := 0x411 }
/-- [B -/
def k8 : Class := { plain "[B" (some 0) with kind := .array 7 .byte, interfaces := #[5, 6], accessFlags := 1041 }

/-- the primitive char -/
def k9 : Class := { plain "char" none with kind := .primitive 'C', accessFlags := 0x411 }
/-- [C -/
def k10 : Class := { plain "[C" (some 0) with kind := .array 9 .char, interfaces := #[5, 6], accessFlags := 1041 }

/-- the primitive int -/
def k11 : Class := { plain "int" none with kind := .primitive 'I', accessFlags := 0x411 }
/-- [I -/
def k12 : Class := { plain "[I" (some 0) with kind := .array 11 .int, interfaces := #[5, 6], accessFlags := 1041 }

def heap : Heap := #[]
def classes : Array Class := #[k0, k1, k2, k3, k4, k5, k6, k7, k8, k9, k10, k11, k12]
def interned : List (Array UInt16 × Addr) := []
def slotsUsed : Nat := 0
def theMethod : MethodId := ⟨1, 1⟩
def args0 : Array Value := #[.int 5, .int 5, .int 5, .int 5]
def aboutOver (below : List Frame) : State where
  vm := { classes := classes, interned := interned.toArray }
  heap := heap
  slotsUsed := slotsUsed
  threads := #[{ frames := .invoking theMethod args0 :: below }]
def below0 : List Frame := [.native { method := ⟨0, 0⟩, args := #[] }]
def about1 : State := aboutOver below0
def p0 : Program := .bare "" "" ""
def e0 : Env := launch0.env 0 0 0
theorem w_frames : about1.frames = Frame.invoking theMethod args0 :: below0 := rfl
set_option maxRecDepth 65536 in
theorem w_args : argsFit about1.vm theMethod args0 = true := by decide +kernel
set_option maxRecDepth 65536 in
theorem w_heap : heapFits about1 = true := by decide +kernel
set_option maxRecDepth 65536 in
theorem w_runnable : about1.curStatus? = some .runnable := by decide +kernel
set_option maxRecDepth 65536 in
theorem w_alone : about1.alone = true := by decide +kernel
set_option maxRecDepth 65536 in
theorem w_named : about1.methodNamed? x = some theMethod := by decide +kernel
set_option maxRecDepth 65536 in
theorem w_hears : about1.hears theMethod below0 = true := by decide +kernel
set_option maxRecDepth 65536 in
theorem w_ripe : about1.ripe theMethod args0 below0 = true := by decide +kernel
theorem w_running : about1.status = .running := rfl
set_option maxRecDepth 65536 in
theorem w_room : about1.hasRoom e0.platform room_1 = true :=
  launch0.hasRoom_least _ room_1 (by decide +kernel) (by decide +kernel) (by decide +kernel) (by decide +kernel) (by decide +kernel) (by decide +kernel)
theorem allAtoms_all (ts : List Jvm.Cond) (a : Array Jvm.Value) (st : Jvm.State) : (allAtoms ts).before a st = ts.all (fun c => c.before a st) := by
  induction ts with
  | nil => rfl
  | cons c t ih =>
    show (Jvm.Cond.and c (allAtoms t)).before a st = _
    rw [Jvm.Cond.before_and, ih, List.all_cons]
def words1 : List Jvm.Cond := Jvm.Cond.code x code maxLocals ret :: tables_1
/-- a 'code' word, met by the world's own term for the bytes: nothing is compared byte by byte -/
theorem code_word {y : MethodName} {bytes : ByteArray} {mx : Nat} {rt : Option FieldType} {a : Array Value} {s : State} {m : MethodId} {meth : Method} {c : Code} (h1 : s.methodNamed? y = some m) (h2 : s.vm.method? m = some meth) (h3 : meth.code = some c) (h4 : c.code = bytes)
    (h5 : (c.maxLocals == mx && c.exceptionTable.isEmpty && decide (c.maxStack ≤ mostOperands) && decide (meth.sig.returnType = rt) && !meth.locks && decide (parseMethodDescriptor y.desc = some meth.sig)) = true) : (Jvm.Cond.code y bytes mx rt).before a s = true := by
  simp only [Bool.and_eq_true, beq_iff_eq, Bool.not_eq_true', decide_eq_true_eq] at h5
  obtain ⟨⟨⟨⟨⟨g1, g2⟩, g3⟩, g4⟩, g5⟩, g6⟩ := h5
  simp [Cond.before, Cond.holds, Cond.value, h1, h2, h3, h4, g1, g2, g3, g4, g5, g6]
def isCode : Jvm.Cond → Bool
  | .code _ _ _ _ => true
  | _ => false
theorem all_split {L : List Jvm.Cond} {P : Jvm.Cond → Bool} (h1 : L.all (fun c => isCode c || P c) = true) (h2 : ∀ c ∈ L.filter isCode, P c = true) : L.all P = true := by
  refine List.all_eq_true.mpr fun c hc => ?_
  have h := List.all_eq_true.mp h1 c hc
  rcases Bool.eq_false_or_eq_true (isCode c) with hi | hi
  · exact h2 c (List.mem_filter.mpr ⟨hc, hi⟩)
  · simpa [hi] using h
set_option maxRecDepth 65536 in
theorem w_c0 : (Jvm.Cond.code x code maxLocals ret).before args0 about1 = true := code_word (m := ⟨1, 1⟩) (meth := k1m1) (c := k1c1) (by decide +kernel) rfl rfl rfl (by decide +kernel)
set_option maxRecDepth 65536 in
theorem w_c1 : (Jvm.Cond.code ({ cls := "com/example/libsubstr/libsubstr/CharArrayText", name := "<init>", desc := "([C)V" } : Jvm.MethodName) prog_15_method_1_code (2 : Nat) (Option.none : Option Jvm.ClassFile.FieldType)).before args0 about1 = true := code_word (m := ⟨4, 0⟩) (meth := k4m0) (c := k4c0) (by decide +kernel) rfl rfl rfl (by decide +kernel)
set_option maxRecDepth 65536 in
theorem w_c2 : (Jvm.Cond.code ({ cls := "com/example/libsubstr/libsubstr/HeldText", name := "<init>", desc := "()V" } : Jvm.MethodName) prog_29_method_1_code (1 : Nat) (Option.none : Option Jvm.ClassFile.FieldType)).before args0 about1 = true := code_word (m := ⟨3, 0⟩) (meth := k3m0) (c := k3c0) (by decide +kernel) rfl rfl rfl (by decide +kernel)
set_option maxRecDepth 65536 in
theorem w_c3 : (Jvm.Cond.code ({ cls := "java/lang/Object", name := "<init>", desc := "()V" } : Jvm.MethodName) object_method_1_code (1 : Nat) (Option.none : Option Jvm.ClassFile.FieldType)).before args0 about1 = true := code_word (m := ⟨0, 0⟩) (meth := k0m0) (c := k0c0) (by decide +kernel) rfl rfl rfl (by decide +kernel)
set_option maxRecDepth 65536 in
theorem w_c4 : (Jvm.Cond.code ({ cls := "com/example/libsubstr/libsubstr/CharArrayText", name := "copy", desc := "(II[II)V" } : Jvm.MethodName) prog_15_method_4_code (6 : Nat) (Option.none : Option Jvm.ClassFile.FieldType)).before args0 about1 = true := code_word (m := ⟨4, 1⟩) (meth := k4m1) (c := k4c1) (by decide +kernel) rfl rfl rfl (by decide +kernel)
set_option maxRecDepth 65536 in
theorem w_c5 : (Jvm.Cond.code ({ cls := "com/example/libsubstr/libsubstr/CharArrayTextCopyPinLaw", name := "expected", desc := "(IIIIIII)I" } : Jvm.MethodName) method_3_code (8 : Nat) (Option.some Jvm.ClassFile.FieldType.int)).before args0 about1 = true := code_word (m := ⟨1, 2⟩) (meth := k1m2) (c := k1c2) (by decide +kernel) rfl rfl rfl (by decide +kernel)
def codes1 : List Jvm.Cond := [Jvm.Cond.code x code maxLocals ret, Jvm.Cond.code ({ cls := "com/example/libsubstr/libsubstr/CharArrayText", name := "<init>", desc := "([C)V" } : Jvm.MethodName) prog_15_method_1_code (2 : Nat) (Option.none : Option Jvm.ClassFile.FieldType), Jvm.Cond.code ({ cls := "com/example/libsubstr/libsubstr/HeldText", name := "<init>", desc := "()V" } : Jvm.MethodName) prog_29_method_1_code (1 : Nat) (Option.none : Option Jvm.ClassFile.FieldType), Jvm.Cond.code ({ cls := "java/lang/Object", name := "<init>", desc := "()V" } : Jvm.MethodName) object_method_1_code (1 : Nat) (Option.none : Option Jvm.ClassFile.FieldType), Jvm.Cond.code ({ cls := "com/example/libsubstr/libsubstr/CharArrayText", name := "copy", desc := "(II[II)V" } : Jvm.MethodName) prog_15_method_4_code (6 : Nat) (Option.none : Option Jvm.ClassFile.FieldType), Jvm.Cond.code ({ cls := "com/example/libsubstr/libsubstr/CharArrayTextCopyPinLaw", name := "expected", desc := "(IIIIIII)I" } : Jvm.MethodName) method_3_code (8 : Nat) (Option.some Jvm.ClassFile.FieldType.int)]
set_option maxRecDepth 65536 in
theorem codes_eq : words1.filter isCode = codes1 := rfl
theorem w_codes : ∀ c ∈ words1.filter isCode, c.before args0 about1 = true := by
  rw [codes_eq]
  intro c hc
  simp only [codes1, List.mem_cons, List.not_mem_nil, or_false] at hc
  rcases hc with rfl | rfl | rfl | rfl | rfl | rfl
  · exact w_c0
  · exact w_c1
  · exact w_c2
  · exact w_c3
  · exact w_c4
  · exact w_c5
set_option maxRecDepth 65536 in
theorem w_t1 : (words1.take 24).all (fun c => isCode c || c.before args0 about1) = true := by decide +kernel
set_option maxRecDepth 65536 in
theorem w_t2 : (words1.drop 24).all (fun c => isCode c || c.before args0 about1) = true := by decide +kernel
theorem w_tables : (allAtoms (Jvm.Cond.code x code maxLocals ret :: tables_1)).before args0 about1 = true := by
  rw [allAtoms_all]
  show words1.all (fun c => c.before args0 about1) = true
  refine all_split ?_ w_codes
  rw [← List.take_append_drop 24 words1, List.all_append, w_t1, w_t2]
  rfl
set_option maxRecDepth 65536 in
theorem w_case : (Jvm.Cond.and given_1 narrow_1).before args0 about1 = true := by decide +kernel
theorem w_applies : (headSpec (Jvm.Cond.code x code maxLocals ret :: tables_1) room_1).applies x e0.platform about1 = true :=
  (Spec.applies_iff w_frames).mpr ⟨w_running, w_runnable, w_alone, w_named, w_hears, w_ripe, w_room, w_tables⟩
theorem atStart : AtStart classFile x code maxLocals ret World_1 tables_1 room_1 Calls_1 rest_1 Pre_1 launch0 p0 e0 about1 theMethod args0 below0 :=
  ⟨lists_1, trivial, launch0.admits_env _ _ _, launch0.least_env, fairChoices_fair.cas, fairChoices_fair.clock, w_frames, w_args, w_heap, w_applies, trivial, trivial, w_case⟩
end start1
theorem witness_1 : WitnessClaimed_1 := ⟨start1.p0, start1.e0, start1.about1, start1.theMethod, start1.args0, start1.below0, start1.atStart⟩
end Jvm.Pilot.@@N@@
