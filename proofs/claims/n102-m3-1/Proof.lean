import JvmDerived
import JvmDerived.Pilot.@@N@@Statement
import JvmDerived.Pilot.@@N@@Code
set_option linter.unusedVariables false
set_option linter.unusedSimpArgs false
namespace Jvm.Pilot.@@N@@
open Jvm Jvm.ClassFile Sem Op Lib Jvm.Free Jvm.Stand Jvm.LawKit Jvm.RoadKit Bundle Jvm.Pilot.@@N@@.Jvm.D
section Own
variable {p : Program} {l : Launch} {e : Env} {R : Room} {s : State} {m : MethodId} {args : Array Value} {below : List Frame} {meth : Method} {c : Code} {T T' : State} {locs : List Loc} {cells slots : Nat}
/-- from T with the frame f on top the method comes to its end; what it returns, the heap and the places written answer Q; at most C cells and N slots are new -/
def own_Fin (p : Program) (e : Env) (below : List Frame) (s : State) (C N : Nat) (Q : Option Value → Heap → List Loc → Prop) (T : State) (f : JFrame) : Prop :=
  ∃ s₂ o, Steps p.tables e below (T.setTop f) s₂ ∧ s₂.status = .running ∧ Ended s₂ below o ∧ ∃ v L, o = .returned v ∧ Q v s₂.heap L ∧ FrameEnd s o s₂ L C N
variable {C N : Nat} {Q : Option Value → Heap → List Loc → Prop} {f f' : JFrame}
theorem own_by (h : ∀ t, Steps p.tables e below (T'.setTop f') t → Steps p.tables e below (T.setTop f) t) (k : own_Fin p e below s C N Q T' f') : own_Fin p e below s C N Q T f := by
  obtain ⟨s2, o, h1, h2⟩ := k
  exact ⟨s2, o, h _ h1, h2⟩
theorem own_start (q : f = f') (k : own_Fin p e below s C N Q T f') : ∃ s₂ o, Steps p.tables e below (T.setTop f) s₂ ∧ s₂.status = .running ∧ Ended s₂ below o ∧ ∃ v L, o = .returned v ∧ Q v s₂.heap L ∧ FrameEnd s o s₂ L C N := by
  subst q; exact k
theorem own_leaf (X : Stand p l e R s m args below meth c T locs cells slots) (hlk : meth.locks = false) {v : Option Value} (hv : meth.sig.returnType = none → v = none)
    (hs : ∀ fs, (∀ (f : JFrame) (acts : List Action), f.method = m → f.locked = none → f.entered = [] → (doReturn e (T.setTop f) acts v).1 = T.setFrames fs) → Steps p.tables e below (T.setTop f) (T.setFrames fs))
    (hQ : Q v T.heap locs) (hc : cells ≤ C) (hn : slots ≤ N) : own_Fin p e below s C N Q T f := by
  obtain ⟨fs, hr, hrun, hended, hW, hsame⟩ := X.leave (v := v) hv hlk
  exact ⟨_, _, hs fs hr, hrun, hended, _, _, rfl, hQ, ⟨_, rfl⟩, hW, hsame.mono hc hn⟩
theorem own_retV (X : Stand p l e R s m args below meth c T locs cells slots) (hx : p.tables.exec = Jvm.exec) (hlk : meth.locks = false) {pc : Nat} {Ls : Array Slot} (hret : meth.sig.returnType = none) (hd : decode c.code pc = .ok (.return_, 1))
    (hQ : Q none T.heap locs) (hc : cells ≤ C) (hn : slots ≤ N) : own_Fin p e below s C N Q T (mkF m pc Ls []) :=
  own_leaf X hlk (fun _ => rfl) (fun fs hr => X.returnOut hx hret hd hr) hQ hc hn
theorem own_retZ (X : Stand p l e R s m args below meth c T locs cells slots) (hx : p.tables.exec = Jvm.exec) (hlk : meth.locks = false) {pc : Nat} {Ls : Array Slot} {z : Int32} {t : FieldType} {rest : List Value} (hret : meth.sig.returnType = some t) (ht : t = .boolean ∨ t = .byte ∨ t = .char ∨ t = .short) (hd : decode c.code pc = .ok (.ireturn, 1))
    (hQ : Q (some (.int (nar t z))) T.heap locs) (hc : cells ≤ C) (hn : slots ≤ N) : own_Fin p e below s C N Q T (mkF m pc Ls (.int z :: rest)) :=
  own_leaf X hlk (fun h => by rw [hret] at h; cases h) (fun fs hr => retN X hx hret ht hd hr) hQ hc hn
theorem own_retO (X : Stand p l e R s m args below meth c T locs cells slots) (hx : p.tables.exec = Jvm.exec) (hlk : meth.locks = false) {pc : Nat} {Ls : Array Slot} {w : Value} {t : FieldType} {i : Instr} {rest : List Value} (hret : meth.sig.returnType = some t) (hn' : narrow t w = w)
    (hi : (i = .ireturn ∧ (t = .int ∨ t = .boolean ∨ t = .byte ∨ t = .char ∨ t = .short) ∧ ∃ z, w = .int z) ∨ (i = .lreturn ∧ t = .long ∧ ∃ z, w = .long z) ∨ (i = .dreturn ∧ t = .double ∧ ∃ z, w = .double z) ∨ (i = .freturn ∧ t = .float ∧ ∃ z, w = .float z) ∨ (i = .areturn ∧ t.isReference = true ∧ w.isRef = true))
    (hd : decode c.code pc = .ok (i, 1)) (hQ : Q (some w) T.heap locs) (hc : cells ≤ C) (hn : slots ≤ N) : own_Fin p e below s C N Q T (mkF m pc Ls (w :: rest)) :=
  own_leaf X hlk (fun h => by rw [hret] at h; cases h) (fun fs hr => retOut X hx hret hn' hi hd hr) hQ hc hn
theorem own_retI (X : Stand p l e R s m args below meth c T locs cells slots) (hx : p.tables.exec = Jvm.exec) (hlk : meth.locks = false) {pc : Nat} {Ls : Array Slot} {z : Int32} {rest : List Value} (hret : meth.sig.returnType = some .int) (hd : decode c.code pc = .ok (.ireturn, 1))
    (hQ : Q (some (.int z)) T.heap locs) (hc : cells ≤ C) (hn : slots ≤ N) : own_Fin p e below s C N Q T (mkF m pc Ls (.int z :: rest)) :=
  own_retO X hx hlk hret rfl (Or.inl ⟨rfl, Or.inl rfl, _, rfl⟩) hd hQ hc hn
theorem own_retJ (X : Stand p l e R s m args below meth c T locs cells slots) (hx : p.tables.exec = Jvm.exec) (hlk : meth.locks = false) {pc : Nat} {Ls : Array Slot} {z : Int64} {rest : List Value} (hret : meth.sig.returnType = some .long) (hd : decode c.code pc = .ok (.lreturn, 1))
    (hQ : Q (some (.long z)) T.heap locs) (hc : cells ≤ C) (hn : slots ≤ N) : own_Fin p e below s C N Q T (mkF m pc Ls (.long z :: rest)) :=
  own_retO X hx hlk hret rfl (Or.inr (Or.inl ⟨rfl, rfl, _, rfl⟩)) hd hQ hc hn
theorem own_retA (X : Stand p l e R s m args below meth c T locs cells slots) (hx : p.tables.exec = Jvm.exec) (hlk : meth.locks = false) {pc : Nat} {Ls : Array Slot} {w : Value} {t : FieldType} {rest : List Value} (hret : meth.sig.returnType = some t) (hr : t.isReference = true) (hn' : narrow t w = w) (hw : w.isRef = true) (hd : decode c.code pc = .ok (.areturn, 1))
    (hQ : Q (some w) T.heap locs) (hc : cells ≤ C) (hn : slots ≤ N) : own_Fin p e below s C N Q T (mkF m pc Ls (w :: rest)) :=
  own_retO X hx hlk hret hn' (Or.inr (Or.inr (Or.inr (Or.inr ⟨rfl, hr, hw⟩)))) hd hQ hc hn
/-- a room by its four numbers -/
abbrev own_R (f c s l : Nat) : Room := { frames := f, cells := c, slots := s, locals := l }
/-- the contract's form: called with A at a heap h0 it returns, and Q holds of what it returns, the heap and the places written -/
abbrev own_Met (l : Launch) (Z : State) (y : MethodName) (code : ByteArray) (ml : Nat) (ret : Option FieldType) (ws : List Jvm.Cond) (R : Room) (A : Array Value) (h0 : Heap) (Q : Option Value → Heap → List Loc → Prop) : Prop :=
  MetFree l y (head1 (Jvm.Cond.code y code ml ret :: ws) R) (fun a U => a = A ∧ Z.Warmed39 U.vm ∧ U.heap = h0) (fun _ _ _ _ _ => True) (fun _ U o U' => ∃ v L, o = .returned v ∧ Q v U'.heap L ∧ FrameEnd U o U' L R.cells R.slots)
theorem own_enter {Z : State} {y : MethodName} {code : ByteArray} {ml : Nat} {ret : Option FieldType} {ws : List Jvm.Cond} {A : Array Value} {h0 : Heap} {f0 : MethodId → JFrame} (n0 : Nat) (hpn : plainName y.cls = true) (hef : ∀ m, entryFrame m A ml = f0 m)
    (H : ∀ (p : Program) (e : Env) (s : State) (m : MethodId) (below : List Frame) (meth : Method) (c : Code) (s₁ : State), p.tables.exec = Jvm.exec → c.code = code → meth.locks = false → c.maxLocals = ml → meth.sig.returnType = ret → s.vm.findClass y.cls = some m.cls → meth.name = y.name →
      Z.Warmed39 s.vm → Stand p l e R s m A below meth c s₁ [] 0 0 → s₁.heap = h0 → Fr n0 [] → own_Fin p e below s R.cells R.slots Q s₁ (f0 m)) : own_Met l Z y code ml ret ws R A h0 Q := by
  refine MetFree.of_bodySF (plainFor_of_name hpn) hisR ?_
  intro p e s m args below meth c s₁ Bd hml hP _
  obtain ⟨rfl, hZ, hh⟩ := hP
  have q := H p e s m below meth c s₁ Bd.exec Bd.bytes Bd.notSynchronized hml Bd.returns (findClass_of_methodNamed Bd.named) (name_of_methodNamed Bd.named Bd.method).1 hZ (Stand.of_body Bd) (by rw [← hh, Bd.state]; rfl) (Fr.nil n0)
  rw [hef m]
  exact q
end Own
theorem own_vi {a b : Int32} (h : a = b) : some (Value.int a) = some (Value.int b) := h ▸ rfl
def own_Ty (Z : State) (t : Addr) (c : Int32) : Prop := Exa Z Z.heap t "com/example/mosub/mosub/model/OverlayMessage$Type" ∧ Fld Z Z.heap t "com/example/mosub/mosub/model/OverlayMessage$Type" "code" "I" (.int c)
def own_ok (c : Int32) : Prop := ¬ c < (1 : Int32) ∧ ¬ (20 : Int32) < c ∧ ¬ c = (13 : Int32)
theorem own_ext {Z : State} {h h' : Heap} (E : Ext Z.heap h) (K : Keep h h' []) : Ext Z.heap h' := ⟨Nat.le_trans E.1 K.1, fun a c q => K.2.1 a c (E.2 a c q) nin0⟩
theorem own_len {args : Array Value} {Z : State} {t : Term} {a : Addr} {c : Cell} {ty : FieldType} {n : Int32} (et : t.eval args Z none [] Z = some (.ref a)) (A : Arr Z Z.heap a c ty) (eL : (Term.length t).eval args Z none [] Z = some (.int n)) : c.slots.size < 2 ^ 31 ∧ c.slots.size.toInt32 = n := by
  have ha := A.fin (Vm.Alike.refl _)
  by_cases hl : c.slots.size < 2 ^ 31
  · have q := (len_f et ha hl).symm.trans eL
    exact ⟨hl, Value.int.inj (Option.some.inj q)⟩
  · simp [Term.eval, et, ha, hl] at eL
theorem own_el {args : Array Value} {Z : State} {t u : Term} {a x : Addr} {cl : Cell} {j : Int32} (et : t.eval args Z none [] Z = some (.ref a)) (hc : Z.heap[a]? = some cl) (eu : u.eval args Z none [] Z = some (.ref x)) (h : (Cond.eq (.elem t (.int j)) u).value args Z none Z [] = some true) : cl.slots[j.toNatClampNeg]? = some (.ref x) := by
  obtain ⟨v, y, e1, e2, k1, k2⟩ := cmp_v (Or.inl h)
  cases eu.symm.trans e2
  have q := elem_in e1 et (Term.int_eval j) hc
  have e : v = .ref x := gotT (eq_R e1 eu (by cases v <;> first | rfl | exact k1.1 | (obtain ⟨_, z⟩ := k1; cases z)) rfl) h
  rw [e] at q
  exact q.2
theorem own_all (c : Int32) (h1 : ¬ c < (1 : Int32)) (h2 : ¬ (20 : Int32) < c) (h3 : ¬ c = (13 : Int32)) (n1 : ¬ (1 : Int32) = c) (n2 : ¬ (2 : Int32) = c) (n3 : ¬ (3 : Int32) = c) (n4 : ¬ (4 : Int32) = c) (n5 : ¬ (5 : Int32) = c) (n6 : ¬ (6 : Int32) = c) (n7 : ¬ (7 : Int32) = c) (n8 : ¬ (8 : Int32) = c) (n9 : ¬ (9 : Int32) = c) (n10 : ¬ (10 : Int32) = c) (n11 : ¬ (11 : Int32) = c) (n12 : ¬ (12 : Int32) = c) (n14 : ¬ (14 : Int32) = c) (n15 : ¬ (15 : Int32) = c) (n16 : ¬ (16 : Int32) = c) (n17 : ¬ (17 : Int32) = c) (n18 : ¬ (18 : Int32) = c) (n19 : ¬ (19 : Int32) = c) (n20 : ¬ (20 : Int32) = c) : False := by
  rw [Int32.lt_iff_toInt_lt] at h1 h2
  have k1 : (1 : Int32).toInt = 1 := by decide
  have k2 : (20 : Int32).toInt = 20 := by decide
  rw [← Int32.toInt_inj] at h3 n1 n2 n3 n4 n5 n6 n7 n8 n9 n10 n11 n12 n14 n15 n16 n17 n18 n19 n20
  have e1 : (1 : Int32).toInt = 1 := by decide
  have e2 : (2 : Int32).toInt = 2 := by decide
  have e3 : (3 : Int32).toInt = 3 := by decide
  have e4 : (4 : Int32).toInt = 4 := by decide
  have e5 : (5 : Int32).toInt = 5 := by decide
  have e6 : (6 : Int32).toInt = 6 := by decide
  have e7 : (7 : Int32).toInt = 7 := by decide
  have e8 : (8 : Int32).toInt = 8 := by decide
  have e9 : (9 : Int32).toInt = 9 := by decide
  have e10 : (10 : Int32).toInt = 10 := by decide
  have e11 : (11 : Int32).toInt = 11 := by decide
  have e12 : (12 : Int32).toInt = 12 := by decide
  have e14 : (14 : Int32).toInt = 14 := by decide
  have e15 : (15 : Int32).toInt = 15 := by decide
  have e16 : (16 : Int32).toInt = 16 := by decide
  have e17 : (17 : Int32).toInt = 17 := by decide
  have e18 : (18 : Int32).toInt = 18 := by decide
  have e19 : (19 : Int32).toInt = 19 := by decide
  have e20 : (20 : Int32).toInt = 20 := by decide
  have e13 : (13 : Int32).toInt = 13 := by decide
  omega
theorem own_pn1 : plainName "com/example/mosub/mosub/model/OverlayMessage$Type" = true := by first | (simp [plainName, overriddenIn]; done) | decide +kernel
theorem d2_0 : decode prog_26_method_1_code 0 = .ok (.getstatic 61, 3) := by decide +kernel
theorem d2_3 : decode prog_26_method_1_code 3 = .ok (.invokevirtual 65, 3) := by decide +kernel
theorem d2_6 : decode prog_26_method_1_code 6 = .ok (.checkcast 66, 3) := by decide +kernel
theorem d2_9 : decode prog_26_method_1_code 9 = .ok (.areturn, 1) := by decide +kernel
theorem ef_rm2 (m : MethodId)  : entryFrame m #[] 0 = mkF m 0 #[] [] := by first | (simp [entryFrame, mkF, argsToLocals, Value.category]; done) | rfl
def own_Q2 (Z : State) (kv : ClassId) (t0 t1 t2 t3 t4 t5 t6 t7 t8 t9 t10 t11 t12 t13 t14 t15 t16 t17 t18 : Addr) (h0 : Heap) (n0 : Nat) (v : Option Value) (h : Heap) (L : List Loc) : Prop := ∃ b : Addr, v = some (.ref b) ∧ Fr n0 L ∧ Keep h0 h [] ∧ Arv Z h b kv (.object "com/example/mosub/mosub/model/OverlayMessage$Type") (19 : Int32) [(.ref t0), (.ref t1), (.ref t2), (.ref t3), (.ref t4), (.ref t5), (.ref t6), (.ref t7), (.ref t8), (.ref t9), (.ref t10), (.ref t11), (.ref t12), (.ref t13), (.ref t14), (.ref t15), (.ref t16), (.ref t17), (.ref t18)] .null
set_option maxRecDepth 65536 in
set_option maxHeartbeats 40000000 in
theorem rm2 (l : Launch) (Z : State) (a0 : Array Value) (hw : ∀ d ∈ tables_1, d.before a0 Z = true) (ws : List Jvm.Cond) (va : Addr) (kv : ClassId) (t0 t1 t2 t3 t4 t5 t6 t7 t8 t9 t10 t11 t12 t13 t14 t15 t16 t17 t18 : Addr) (h0 : Heap) (n0 : Nat) (Z0 : n0 ≤ h0.size) (S_v : Sta Z h0 "com/example/mosub/mosub/model/OverlayMessage$Type" "$VALUES" "[Lcom/example/mosub/mosub/model/OverlayMessage$Type;" (.ref va)) (V_v : Arv Z h0 va kv (.object "com/example/mosub/mosub/model/OverlayMessage$Type") (19 : Int32) [(.ref t0), (.ref t1), (.ref t2), (.ref t3), (.ref t4), (.ref t5), (.ref t6), (.ref t7), (.ref t8), (.ref t9), (.ref t10), (.ref t11), (.ref t12), (.ref t13), (.ref t14), (.ref t15), (.ref t16), (.ref t17), (.ref t18)] .null) (E_v : Exa Z h0 va "[Lcom/example/mosub/mosub/model/OverlayMessage$Type;") : own_Met l Z (⟨"com/example/mosub/mosub/model/OverlayMessage$Type", "values", "()[Lcom/example/mosub/mosub/model/OverlayMessage$Type;"⟩ : MethodName) prog_26_method_1_code 0 (some (.array (.object "com/example/mosub/mosub/model/OverlayMessage$Type"))) ws (own_R 1 1 19 14) #[] h0 (own_Q2 Z kv t0 t1 t2 t3 t4 t5 t6 t7 t8 t9 t10 t11 t12 t13 t14 t15 t16 t17 t18 h0 n0) := by
  refine own_enter n0 own_pn1 (fun m => ef_rm2 m  ) (fun p e s m below meth c s₁ hx hby hlk hml hret hown hnm hZ X0 e0 N0 => ?_)
  show own_Fin p e below s _ _ _ s₁ (mkF m 0 #[] [])
  have Kp1 : Keep h0 h0 [] := Keep.refl h0 _
  obtain ⟨T2, X2, e2, st2⟩ := getS2 X0 hx hZ hown (host := "") (Or.inl (hw _ (List.mem_of_getElem? (i := 7) rfl))) Via.refl e0 S_v (g := (mkF m 0 #[] [])) rfl (hb hby d2_0)
  refine own_by (fun _ k => st2 _ k) ?_
  show own_Fin p e below s _ _ _ T2 (mkF m 3 #[] [(.ref va)])
  obtain ⟨cl3, Ar3, q3, S3, M3, H3, G3⟩ := V_v
  obtain ⟨T3, h3, X3, e3, E3, A3, Ex3, st3⟩ := cloneA X2 hx hZ hown (hw _ (List.mem_of_getElem? (i := 9) rfl)) (hw _ (List.mem_of_getElem? (i := 10) rfl)) (hw _ (List.mem_of_getElem? (i := 14) rfl)) (hw _ (List.mem_of_getElem? (i := 12) rfl)) (hw _ (List.mem_of_getElem? (i := 13) rfl)) (hw _ (List.mem_of_getElem? (i := 15) rfl)) e2 Ar3 E_v (fitC_of Ar3 fun i hi v hv => by rw [H3 i hi] at hv; cases hv; exact G3 i hi) (g := (mkF m 3 #[] [(.ref va)])) rfl (by rw [hml]; rfl) rfl (hb hby d2_3) (by decide) (W := 0) (cap := 19) (by show 2 * 0 + _ ≤ _; exact Nat.le_of_eq rfl) (by decide) (by rw [S3]; decide) (by decide) (by decide)
  obtain ⟨b3, g3⟩ : ∃ z, z = h0.size := ⟨_, rfl⟩
  rw [← g3] at A3 Ex3 st3
  refine own_by (fun _ k => st3 _ k) ?_
  have V3 : Arv Z h3 b3 kv (.object "com/example/mosub/mosub/model/OverlayMessage$Type") (19 : Int32) [(.ref t0), (.ref t1), (.ref t2), (.ref t3), (.ref t4), (.ref t5), (.ref t6), (.ref t7), (.ref t8), (.ref t9), (.ref t10), (.ref t11), (.ref t12), (.ref t13), (.ref t14), (.ref t15), (.ref t16), (.ref t17), (.ref t18)] .null := ⟨_, A3, q3, S3, M3, H3, G3⟩
  have ne3_va : va ≠ b3 := Nat.ne_of_lt (Nat.lt_of_lt_of_le E_v.lt (Nat.le_of_eq g3.symm))
  have gf3 : n0 ≤ b3 := Nat.le_trans Z0 (Nat.le_of_eq g3.symm)
  have Zs3 : n0 ≤ h3.size := Nat.le_trans Z0 E3.1
  have Kp3 : Keep h0 h3 [] := Kp1.ext E3
  have sz_b3 : h0.size ≤ b3 := Nat.le_trans Kp1.1 (Nat.le_of_eq g3.symm)
  have f4_0 : Exa Z h3 va "[Lcom/example/mosub/mosub/model/OverlayMessage$Type;" := E_v.ext E3
  show own_Fin p e below s _ _ _ T3 (mkF m 6 #[] [(.ref b3)])
  obtain ⟨T5, X5, e5, st5⟩ := castY X3 hx hZ hown (hw _ (List.mem_of_getElem? (i := 36) rfl)) e3 (Ins.self Ex3) (g := (mkF m 6 #[] [(.ref b3)])) rfl rfl (hb hby d2_6)
  refine own_by (fun _ k => st5 _ k) ?_
  show own_Fin p e below s _ _ _ T5 (mkF m 9 #[] [(.ref b3)])
  exact own_retA X5 hx hlk (t := (.array (.object "com/example/mosub/mosub/model/OverlayMessage$Type"))) hret rfl rfl rfl (hb hby d2_9) (by rw [e5]; exact ⟨_, rfl, N0, Kp3, V3⟩) (by decide) (by decide)
theorem d1_0 : decode prog_26_method_4_code 0 = .ok (.invokestatic 88, 3) := by decide +kernel
theorem own_pd8 : parseMethodDescriptor "()[Lcom/example/mosub/mosub/model/OverlayMessage$Type;" = some ⟨[], some (.array (.object "com/example/mosub/mosub/model/OverlayMessage$Type"))⟩ := by decide +kernel
theorem d1_3 : decode prog_26_method_4_code 3 = .ok (.astore_n 1, 1) := by decide +kernel
theorem d1_4 : decode prog_26_method_4_code 4 = .ok (.aload_n 1, 1) := by decide +kernel
theorem d1_5 : decode prog_26_method_4_code 5 = .ok (.arraylength, 1) := by decide +kernel
theorem d1_6 : decode prog_26_method_4_code 6 = .ok (.istore_n 2, 1) := by decide +kernel
theorem d1_7 : decode prog_26_method_4_code 7 = .ok (.iconst 0, 1) := by decide +kernel
theorem d1_8 : decode prog_26_method_4_code 8 = .ok (.istore_n 3, 1) := by decide +kernel
theorem d1_9 : decode prog_26_method_4_code 9 = .ok (.iload_n 3, 1) := by decide +kernel
theorem d1_10 : decode prog_26_method_4_code 10 = .ok (.iload_n 2, 1) := by decide +kernel
theorem d1_11 : decode prog_26_method_4_code 11 = .ok (.if_icmp .ge 26, 3) := by decide +kernel
theorem d1_14 : decode prog_26_method_4_code 14 = .ok (.aload_n 1, 1) := by decide +kernel
theorem d1_15 : decode prog_26_method_4_code 15 = .ok (.iload_n 3, 1) := by decide +kernel
theorem d1_16 : decode prog_26_method_4_code 16 = .ok (.aaload, 1) := by decide +kernel
theorem d1_17 : decode prog_26_method_4_code 17 = .ok (.astore 4, 2) := by decide +kernel
theorem d1_19 : decode prog_26_method_4_code 19 = .ok (.aload 4, 2) := by decide +kernel
theorem d1_21 : decode prog_26_method_4_code 21 = .ok (.getfield 80, 3) := by decide +kernel
theorem d1_24 : decode prog_26_method_4_code 24 = .ok (.iload_n 0, 1) := by decide +kernel
theorem d1_25 : decode prog_26_method_4_code 25 = .ok (.if_icmp .ne 6, 3) := by decide +kernel
theorem d1_28 : decode prog_26_method_4_code 28 = .ok (.aload 4, 2) := by decide +kernel
theorem d1_30 : decode prog_26_method_4_code 30 = .ok (.areturn, 1) := by decide +kernel
theorem d1_31 : decode prog_26_method_4_code 31 = .ok (.iinc 3 1, 3) := by decide +kernel
theorem d1_34 : decode prog_26_method_4_code 34 = .ok (.goto (-25), 3) := by decide +kernel
theorem d1_37 : decode prog_26_method_4_code 37 = .ok (.aconst_null, 1) := by decide +kernel
theorem d1_38 : decode prog_26_method_4_code 38 = .ok (.areturn, 1) := by decide +kernel
theorem ef_rm1 (m : MethodId) (x0 : Int32) : entryFrame m #[(.int x0)] 5 = mkF m 0 #[.val (.int x0), .unset, .unset, .unset, .unset] [] := by first | (simp [entryFrame, mkF, argsToLocals, Value.category]; done) | rfl
def own_Q1 (Z : State) (p1 : Int32) (h0 : Heap) (n0 : Nat) (v : Option Value) (h : Heap) (L : List Loc) : Prop := ∃ r : Value, v = some r ∧ Fr n0 L ∧ Keep h0 h [] ∧ ((r = .null ∧ ∀ c, own_ok c → c = p1 → False) ∨ ∃ t : Addr, r = .ref t ∧ own_Ty Z t p1 ∧ own_ok p1)
set_option maxRecDepth 65536 in
set_option maxHeartbeats 40000000 in
theorem rm1 (l : Launch) (Z : State) (a0 : Array Value) (hw : ∀ d ∈ tables_1, d.before a0 Z = true) (ws : List Jvm.Cond) (p1 : Int32) (va : Addr) (kv : ClassId) (t0 t1 t2 t3 t4 t5 t6 t7 t8 t9 t10 t11 t12 t13 t14 t15 t16 t17 t18 : Addr) (h0 : Heap) (n0 : Nat) (Z0 : n0 ≤ h0.size) (S_v : Sta Z h0 "com/example/mosub/mosub/model/OverlayMessage$Type" "$VALUES" "[Lcom/example/mosub/mosub/model/OverlayMessage$Type;" (.ref va)) (V_v : Arv Z h0 va kv (.object "com/example/mosub/mosub/model/OverlayMessage$Type") (19 : Int32) [(.ref t0), (.ref t1), (.ref t2), (.ref t3), (.ref t4), (.ref t5), (.ref t6), (.ref t7), (.ref t8), (.ref t9), (.ref t10), (.ref t11), (.ref t12), (.ref t13), (.ref t14), (.ref t15), (.ref t16), (.ref t17), (.ref t18)] .null) (E_v : Exa Z h0 va "[Lcom/example/mosub/mosub/model/OverlayMessage$Type;") (Y0 : own_Ty Z t0 (1 : Int32)) (Y1 : own_Ty Z t1 (2 : Int32)) (Y2 : own_Ty Z t2 (3 : Int32)) (Y3 : own_Ty Z t3 (4 : Int32)) (Y4 : own_Ty Z t4 (5 : Int32)) (Y5 : own_Ty Z t5 (6 : Int32)) (Y6 : own_Ty Z t6 (7 : Int32)) (Y7 : own_Ty Z t7 (8 : Int32)) (Y8 : own_Ty Z t8 (9 : Int32)) (Y9 : own_Ty Z t9 (10 : Int32)) (Y10 : own_Ty Z t10 (11 : Int32)) (Y11 : own_Ty Z t11 (12 : Int32)) (Y12 : own_Ty Z t12 (14 : Int32)) (Y13 : own_Ty Z t13 (15 : Int32)) (Y14 : own_Ty Z t14 (16 : Int32)) (Y15 : own_Ty Z t15 (17 : Int32)) (Y16 : own_Ty Z t16 (18 : Int32)) (Y17 : own_Ty Z t17 (19 : Int32)) (Y18 : own_Ty Z t18 (20 : Int32)) (Eo : Ext Z.heap h0) : own_Met l Z (⟨"com/example/mosub/mosub/model/OverlayMessage$Type", "ofCode", "(I)Lcom/example/mosub/mosub/model/OverlayMessage$Type;"⟩ : MethodName) prog_26_method_4_code 5 (some (.object "com/example/mosub/mosub/model/OverlayMessage$Type")) ws (own_R 2 1 19 40) #[(.int p1)] h0 (own_Q1 Z p1 h0 n0) := by
  refine own_enter n0 own_pn1 (fun m => ef_rm1 m p1 ) (fun p e s m below meth c s₁ hx hby hlk hml hret hown hnm hZ X0 e0 N0 => ?_)
  show own_Fin p e below s _ _ _ s₁ (mkF m 0 #[.val (.int p1), .unset, .unset, .unset, .unset] [])
  have Kp6 : Keep h0 h0 [] := Keep.refl h0 _
  obtain ⟨_, _, ⟨T7, L7, k7, n7⟩, -, X7, ⟨Lc7, hQ7, l7, y7, z7⟩, st7⟩ := Jvm.LawKit.callS X0 hx (y := (⟨"com/example/mosub/mosub/model/OverlayMessage$Type", "values", "()[Lcom/example/mosub/mosub/model/OverlayMessage$Type;"⟩ : MethodName)) hown (mvT hZ (hw _ (List.mem_of_getElem? (i := 4) rfl))) (mvT hZ (hw _ (List.mem_of_getElem? (i := 5) rfl))) (mvT hZ (hw _ (List.mem_of_getElem? (i := 2) rfl))) (mvT hZ (hw _ (List.mem_of_getElem? (i := 6) rfl))) (by decide) (backOf (W := 0) (rm2 l Z a0 hw [] va kv t0 t1 t2 t3 t4 t5 t6 t7 t8 t9 t10 t11 t12 t13 t14 t15 t16 t17 t18 h0 n0 Z0 S_v V_v E_v) hZ (hw _ (List.mem_of_getElem? (i := 6) rfl)) (hw _ (List.mem_of_getElem? (i := 2) rfl)) (by decide) (by decide)) (g := (mkF m 0 #[.val (.int p1), .unset, .unset, .unset, .unset] [])) rfl (by rw [hml]; rfl) (argsL := []) (rest := []) (lenOf own_pd8 rfl) rfl (by show 2 * 0 + _ ≤ _; exact Nat.le_of_eq rfl) (hb hby d1_0) (fun _ _ => ⟨rfl, e0, (by decide : 0 + 1 ≤ _), (by decide : 0 + 19 ≤ _)⟩)
  dsimp only [Pt.U, Pt.locs, Pt.cells, Pt.slots] at X7 l7 y7 z7 st7 hQ7
  subst l7 y7 z7
  obtain ⟨b7, rfl, Nq7, K7, V7⟩ := hQ7
  have N7 := Fr.app N0 Nq7
  refine own_by (fun _ k => st7 _ k) ?_
  have Zs7 : n0 ≤ T7.heap.size := Nat.le_trans Z0 K7.1
  have Kp7 : Keep h0 T7.heap [] := Kp6.trans K7 all0
  have Eo7 : Ext Z.heap T7.heap := own_ext Eo K7
  show own_Fin p e below s _ _ _ T7 (mkF m 3 #[.val (.int p1), .unset, .unset, .unset, .unset] [(.ref b7)])
  refine own_by (fun _ k => XS.astoreN X7.here hx rfl (hb hby d1_3) rfl rfl (l' := #[.val (.int p1), .val (.ref b7), .unset, .unset, .unset]) rfl (XS.aloadN X7.here hx rfl (hb hby d1_4) rfl rfl k)) ?_
  show own_Fin p e below s _ _ _ T7 (mkF m 5 #[.val (.int p1), .val (.ref b7), .unset, .unset, .unset] [(.ref b7)])
  obtain ⟨cl9, Ar9, -, S9, M9, -, -⟩ := id V7
  refine own_by (fun _ k => X7.arraylength hx Ar9.1 (State.isArrayOf_alike hZ.alike Ar9.2.1) (g := (mkF m 5 #[.val (.int p1), .val (.ref b7), .unset, .unset, .unset] [(.ref b7)])) rfl rfl (hb hby d1_5) _ k) ?_
  rw [len_of S9 M9]
  show own_Fin p e below s _ _ _ T7 (mkF m 6 #[.val (.int p1), .val (.ref b7), .unset, .unset, .unset] [(.int (19 : Int32))])
  refine own_by (fun _ k => XS.istoreN X7.here hx rfl (hb hby d1_6) rfl (l' := #[.val (.int p1), .val (.ref b7), .val (.int (19 : Int32)), .unset, .unset]) rfl (XS.iconst X7.here hx rfl (hb hby d1_7) (XS.istoreN X7.here hx rfl (hb hby d1_8) rfl (l' := #[.val (.int p1), .val (.ref b7), .val (.int (19 : Int32)), .val (.int (0 : Int32)), .unset]) rfl (XS.iloadN X7.here hx rfl (hb hby d1_9) rfl (XS.iloadN X7.here hx rfl (hb hby d1_10) rfl k))))) ?_
  show own_Fin p e below s _ _ _ T7 (mkF m 11 #[.val (.int p1), .val (.ref b7), .val (.int (19 : Int32)), .val (.int (0 : Int32)), .unset] [(.int (19 : Int32)), (.int (0 : Int32))])
  refine own_by (fun _ k => XS.icmpNo X7.here hx rfl (hb hby d1_11) rfl (tlt (by decide : (0 : Int32) < (19 : Int32))).2.1 k) ?_
  show own_Fin p e below s _ _ _ T7 (mkF m 14 #[.val (.int p1), .val (.ref b7), .val (.int (19 : Int32)), .val (.int (0 : Int32)), .unset] [])
  refine own_by (fun _ k => XS.aloadN X7.here hx rfl (hb hby d1_14) rfl rfl (XS.iloadN X7.here hx rfl (hb hby d1_15) rfl k)) ?_
  show own_Fin p e below s _ _ _ T7 (mkF m 16 #[.val (.int p1), .val (.ref b7), .val (.int (19 : Int32)), .val (.int (0 : Int32)), .unset] [(.int (0 : Int32)), (.ref b7)])
  obtain ⟨cl10, Ar10, -, S10, M10, H10, -⟩ := id V7
  have hin10 : ¬ ((0 : Int32) < 0 ∨ cl10.slots.size ≤ ((0 : Int32)).toNatClampNeg) := inb_of S10 ⟨by decide, by decide⟩
  have hat10 : cl10.slots[((0 : Int32)).toNatClampNeg]? = some (.ref t0) := Has.at H10 hin10 rfl
  refine own_by (fun _ k => X7.aaload hx (j := (0 : Int32)) (v := (.ref t0)) Ar10.1 (State.isArrayOf_alike hZ.alike Ar10.2.1) rfl Ar10.2.2 hin10 hat10 (g := (mkF m 16 #[.val (.int p1), .val (.ref b7), .val (.int (19 : Int32)), .val (.int (0 : Int32)), .unset] [(.int (0 : Int32)), (.ref b7)])) rfl rfl (hb hby d1_16) _ k) ?_
  show own_Fin p e below s _ _ _ T7 (mkF m 17 #[.val (.int p1), .val (.ref b7), .val (.int (19 : Int32)), .val (.int (0 : Int32)), .unset] [(.ref t0)])
  refine own_by (fun _ k => XS.astore X7.here hx rfl (hb hby d1_17) rfl rfl (l' := #[.val (.int p1), .val (.ref b7), .val (.int (19 : Int32)), .val (.int (0 : Int32)), .val (.ref t0)]) rfl (XS.aload X7.here hx rfl (hb hby d1_19) rfl rfl k)) ?_
  show own_Fin p e below s _ _ _ T7 (mkF m 21 #[.val (.int p1), .val (.ref b7), .val (.int (19 : Int32)), .val (.int (0 : Int32)), .val (.ref t0)] [(.ref t0)])
  obtain ⟨T11, X11, e11, st11⟩ := getF X7 hx hZ hown (host := "") (Or.inl (hw _ (List.mem_of_getElem? (i := 38) rfl))) Via.refl rfl (Y0.2.ext Eo7) (g := (mkF m 21 #[.val (.int p1), .val (.ref b7), .val (.int (19 : Int32)), .val (.int (0 : Int32)), .val (.ref t0)] [(.ref t0)])) rfl rfl (hb hby d1_21)
  refine own_by (fun _ k => st11 _ k) ?_
  show own_Fin p e below s _ _ _ T11 (mkF m 24 #[.val (.int p1), .val (.ref b7), .val (.int (19 : Int32)), .val (.int (0 : Int32)), .val (.ref t0)] [(.int (1 : Int32))])
  refine own_by (fun _ k => XS.iloadN X11.here hx rfl (hb hby d1_24) rfl k) ?_
  show own_Fin p e below s _ _ _ T11 (mkF m 25 #[.val (.int p1), .val (.ref b7), .val (.int (19 : Int32)), .val (.int (0 : Int32)), .val (.ref t0)] [(.int p1), (.int (1 : Int32))])
  by_cases hc25_12 : (1 : Int32) = p1
  · show own_Fin p e below s _ _ _ T11 (mkF m 25 #[.val (.int p1), .val (.ref b7), .val (.int (19 : Int32)), .val (.int (0 : Int32)), .val (.ref t0)] [(.int p1), (.int (1 : Int32))])
    refine own_by (fun _ k => XS.icmpNo X11.here hx rfl (hb hby d1_25) rfl (teq hc25_12).2 k) ?_
    show own_Fin p e below s _ _ _ T11 (mkF m 28 #[.val (.int p1), .val (.ref b7), .val (.int (19 : Int32)), .val (.int (0 : Int32)), .val (.ref t0)] [])
    refine own_by (fun _ k => XS.aload X11.here hx rfl (hb hby d1_28) rfl rfl k) ?_
    show own_Fin p e below s _ _ _ T11 (mkF m 30 #[.val (.int p1), .val (.ref b7), .val (.int (19 : Int32)), .val (.int (0 : Int32)), .val (.ref t0)] [(.ref t0)])
    exact own_retA X11 hx hlk (t := (.object "com/example/mosub/mosub/model/OverlayMessage$Type")) hret rfl rfl rfl (hb hby d1_30) (by rw [e11]; exact ⟨_, rfl, N7, Kp7, Or.inr ⟨_, rfl, hc25_12 ▸ Y0, hc25_12 ▸ (by refine ⟨?_, ?_, ?_⟩ <;> decide : own_ok (1 : Int32))⟩⟩) (by decide) (by decide)
  · show own_Fin p e below s _ _ _ T11 (mkF m 25 #[.val (.int p1), .val (.ref b7), .val (.int (19 : Int32)), .val (.int (0 : Int32)), .val (.ref t0)] [(.int p1), (.int (1 : Int32))])
    refine own_by (fun _ k => XS.icmpYes X11.here hx rfl (pc0 := 25) (pc' := 31) rfl (hb hby d1_25) rfl (feq hc25_12).2 (by decide) (by decide) k) ?_
    show own_Fin p e below s _ _ _ T11 (mkF m 31 #[.val (.int p1), .val (.ref b7), .val (.int (19 : Int32)), .val (.int (0 : Int32)), .val (.ref t0)] [])
    refine own_by (fun _ k => XS.iinc X11.here hx rfl (hb hby d1_31) rfl (l' := #[.val (.int p1), .val (.ref b7), .val (.int (19 : Int32)), .val (.int ((0 : Int32) + (1 : Int32))), .val (.ref t0)]) rfl k) ?_
    show own_Fin p e below s _ _ _ T11 (mkF m 34 #[.val (.int p1), .val (.ref b7), .val (.int (19 : Int32)), .val (.int ((0 : Int32) + (1 : Int32))), .val (.ref t0)] [])
    rw [(by decide : ((0 : Int32) + (1 : Int32)) = (1 : Int32))]
    show own_Fin p e below s _ _ _ T11 (mkF m 34 #[.val (.int p1), .val (.ref b7), .val (.int (19 : Int32)), .val (.int (1 : Int32)), .val (.ref t0)] [])
    refine own_by (fun _ k => XS.goto X11.here hx rfl (pc0 := 34) (pc' := 9) rfl (hb hby d1_34) (by decide) (by decide) (XS.iloadN X11.here hx rfl (hb hby d1_9) rfl (XS.iloadN X11.here hx rfl (hb hby d1_10) rfl k))) ?_
    show own_Fin p e below s _ _ _ T11 (mkF m 11 #[.val (.int p1), .val (.ref b7), .val (.int (19 : Int32)), .val (.int (1 : Int32)), .val (.ref t0)] [(.int (19 : Int32)), (.int (1 : Int32))])
    refine own_by (fun _ k => XS.icmpNo X11.here hx rfl (hb hby d1_11) rfl (tlt (by decide : (1 : Int32) < (19 : Int32))).2.1 k) ?_
    show own_Fin p e below s _ _ _ T11 (mkF m 14 #[.val (.int p1), .val (.ref b7), .val (.int (19 : Int32)), .val (.int (1 : Int32)), .val (.ref t0)] [])
    refine own_by (fun _ k => XS.aloadN X11.here hx rfl (hb hby d1_14) rfl rfl (XS.iloadN X11.here hx rfl (hb hby d1_15) rfl k)) ?_
    show own_Fin p e below s _ _ _ T11 (mkF m 16 #[.val (.int p1), .val (.ref b7), .val (.int (19 : Int32)), .val (.int (1 : Int32)), .val (.ref t0)] [(.int (1 : Int32)), (.ref b7)])
    obtain ⟨cl13, Ar13, -, S13, M13, H13, -⟩ := id V7
    have hin13 : ¬ ((1 : Int32) < 0 ∨ cl13.slots.size ≤ ((1 : Int32)).toNatClampNeg) := inb_of S13 ⟨by decide, by decide⟩
    have hat13 : cl13.slots[((1 : Int32)).toNatClampNeg]? = some (.ref t1) := Has.at H13 hin13 rfl
    refine own_by (fun _ k => X11.aaload hx (j := (1 : Int32)) (v := (.ref t1)) (by rw [e11]; exact Ar13.1) (State.isArrayOf_alike hZ.alike Ar13.2.1) rfl Ar13.2.2 hin13 hat13 (g := (mkF m 16 #[.val (.int p1), .val (.ref b7), .val (.int (19 : Int32)), .val (.int (1 : Int32)), .val (.ref t0)] [(.int (1 : Int32)), (.ref b7)])) rfl rfl (hb hby d1_16) _ k) ?_
    show own_Fin p e below s _ _ _ T11 (mkF m 17 #[.val (.int p1), .val (.ref b7), .val (.int (19 : Int32)), .val (.int (1 : Int32)), .val (.ref t0)] [(.ref t1)])
    refine own_by (fun _ k => XS.astore X11.here hx rfl (hb hby d1_17) rfl rfl (l' := #[.val (.int p1), .val (.ref b7), .val (.int (19 : Int32)), .val (.int (1 : Int32)), .val (.ref t1)]) rfl (XS.aload X11.here hx rfl (hb hby d1_19) rfl rfl k)) ?_
    show own_Fin p e below s _ _ _ T11 (mkF m 21 #[.val (.int p1), .val (.ref b7), .val (.int (19 : Int32)), .val (.int (1 : Int32)), .val (.ref t1)] [(.ref t1)])
    obtain ⟨T14, X14, e14, st14⟩ := getF X11 hx hZ hown (host := "") (Or.inl (hw _ (List.mem_of_getElem? (i := 38) rfl))) Via.refl e11 (Y1.2.ext Eo7) (g := (mkF m 21 #[.val (.int p1), .val (.ref b7), .val (.int (19 : Int32)), .val (.int (1 : Int32)), .val (.ref t1)] [(.ref t1)])) rfl rfl (hb hby d1_21)
    refine own_by (fun _ k => st14 _ k) ?_
    show own_Fin p e below s _ _ _ T14 (mkF m 24 #[.val (.int p1), .val (.ref b7), .val (.int (19 : Int32)), .val (.int (1 : Int32)), .val (.ref t1)] [(.int (2 : Int32))])
    refine own_by (fun _ k => XS.iloadN X14.here hx rfl (hb hby d1_24) rfl k) ?_
    show own_Fin p e below s _ _ _ T14 (mkF m 25 #[.val (.int p1), .val (.ref b7), .val (.int (19 : Int32)), .val (.int (1 : Int32)), .val (.ref t1)] [(.int p1), (.int (2 : Int32))])
    by_cases hc25_15 : (2 : Int32) = p1
    · show own_Fin p e below s _ _ _ T14 (mkF m 25 #[.val (.int p1), .val (.ref b7), .val (.int (19 : Int32)), .val (.int (1 : Int32)), .val (.ref t1)] [(.int p1), (.int (2 : Int32))])
      refine own_by (fun _ k => XS.icmpNo X14.here hx rfl (hb hby d1_25) rfl (teq hc25_15).2 k) ?_
      show own_Fin p e below s _ _ _ T14 (mkF m 28 #[.val (.int p1), .val (.ref b7), .val (.int (19 : Int32)), .val (.int (1 : Int32)), .val (.ref t1)] [])
      refine own_by (fun _ k => XS.aload X14.here hx rfl (hb hby d1_28) rfl rfl k) ?_
      show own_Fin p e below s _ _ _ T14 (mkF m 30 #[.val (.int p1), .val (.ref b7), .val (.int (19 : Int32)), .val (.int (1 : Int32)), .val (.ref t1)] [(.ref t1)])
      exact own_retA X14 hx hlk (t := (.object "com/example/mosub/mosub/model/OverlayMessage$Type")) hret rfl rfl rfl (hb hby d1_30) (by rw [e14]; exact ⟨_, rfl, N7, Kp7, Or.inr ⟨_, rfl, hc25_15 ▸ Y1, hc25_15 ▸ (by refine ⟨?_, ?_, ?_⟩ <;> decide : own_ok (2 : Int32))⟩⟩) (by decide) (by decide)
    · show own_Fin p e below s _ _ _ T14 (mkF m 25 #[.val (.int p1), .val (.ref b7), .val (.int (19 : Int32)), .val (.int (1 : Int32)), .val (.ref t1)] [(.int p1), (.int (2 : Int32))])
      refine own_by (fun _ k => XS.icmpYes X14.here hx rfl (pc0 := 25) (pc' := 31) rfl (hb hby d1_25) rfl (feq hc25_15).2 (by decide) (by decide) k) ?_
      show own_Fin p e below s _ _ _ T14 (mkF m 31 #[.val (.int p1), .val (.ref b7), .val (.int (19 : Int32)), .val (.int (1 : Int32)), .val (.ref t1)] [])
      refine own_by (fun _ k => XS.iinc X14.here hx rfl (hb hby d1_31) rfl (l' := #[.val (.int p1), .val (.ref b7), .val (.int (19 : Int32)), .val (.int ((1 : Int32) + (1 : Int32))), .val (.ref t1)]) rfl k) ?_
      show own_Fin p e below s _ _ _ T14 (mkF m 34 #[.val (.int p1), .val (.ref b7), .val (.int (19 : Int32)), .val (.int ((1 : Int32) + (1 : Int32))), .val (.ref t1)] [])
      rw [(by decide : ((1 : Int32) + (1 : Int32)) = (2 : Int32))]
      show own_Fin p e below s _ _ _ T14 (mkF m 34 #[.val (.int p1), .val (.ref b7), .val (.int (19 : Int32)), .val (.int (2 : Int32)), .val (.ref t1)] [])
      refine own_by (fun _ k => XS.goto X14.here hx rfl (pc0 := 34) (pc' := 9) rfl (hb hby d1_34) (by decide) (by decide) (XS.iloadN X14.here hx rfl (hb hby d1_9) rfl (XS.iloadN X14.here hx rfl (hb hby d1_10) rfl k))) ?_
      show own_Fin p e below s _ _ _ T14 (mkF m 11 #[.val (.int p1), .val (.ref b7), .val (.int (19 : Int32)), .val (.int (2 : Int32)), .val (.ref t1)] [(.int (19 : Int32)), (.int (2 : Int32))])
      refine own_by (fun _ k => XS.icmpNo X14.here hx rfl (hb hby d1_11) rfl (tlt (by decide : (2 : Int32) < (19 : Int32))).2.1 k) ?_
      show own_Fin p e below s _ _ _ T14 (mkF m 14 #[.val (.int p1), .val (.ref b7), .val (.int (19 : Int32)), .val (.int (2 : Int32)), .val (.ref t1)] [])
      refine own_by (fun _ k => XS.aloadN X14.here hx rfl (hb hby d1_14) rfl rfl (XS.iloadN X14.here hx rfl (hb hby d1_15) rfl k)) ?_
      show own_Fin p e below s _ _ _ T14 (mkF m 16 #[.val (.int p1), .val (.ref b7), .val (.int (19 : Int32)), .val (.int (2 : Int32)), .val (.ref t1)] [(.int (2 : Int32)), (.ref b7)])
      obtain ⟨cl16, Ar16, -, S16, M16, H16, -⟩ := id V7
      have hin16 : ¬ ((2 : Int32) < 0 ∨ cl16.slots.size ≤ ((2 : Int32)).toNatClampNeg) := inb_of S16 ⟨by decide, by decide⟩
      have hat16 : cl16.slots[((2 : Int32)).toNatClampNeg]? = some (.ref t2) := Has.at H16 hin16 rfl
      refine own_by (fun _ k => X14.aaload hx (j := (2 : Int32)) (v := (.ref t2)) (by rw [e14]; exact Ar16.1) (State.isArrayOf_alike hZ.alike Ar16.2.1) rfl Ar16.2.2 hin16 hat16 (g := (mkF m 16 #[.val (.int p1), .val (.ref b7), .val (.int (19 : Int32)), .val (.int (2 : Int32)), .val (.ref t1)] [(.int (2 : Int32)), (.ref b7)])) rfl rfl (hb hby d1_16) _ k) ?_
      show own_Fin p e below s _ _ _ T14 (mkF m 17 #[.val (.int p1), .val (.ref b7), .val (.int (19 : Int32)), .val (.int (2 : Int32)), .val (.ref t1)] [(.ref t2)])
      refine own_by (fun _ k => XS.astore X14.here hx rfl (hb hby d1_17) rfl rfl (l' := #[.val (.int p1), .val (.ref b7), .val (.int (19 : Int32)), .val (.int (2 : Int32)), .val (.ref t2)]) rfl (XS.aload X14.here hx rfl (hb hby d1_19) rfl rfl k)) ?_
      show own_Fin p e below s _ _ _ T14 (mkF m 21 #[.val (.int p1), .val (.ref b7), .val (.int (19 : Int32)), .val (.int (2 : Int32)), .val (.ref t2)] [(.ref t2)])
      obtain ⟨T17, X17, e17, st17⟩ := getF X14 hx hZ hown (host := "") (Or.inl (hw _ (List.mem_of_getElem? (i := 38) rfl))) Via.refl e14 (Y2.2.ext Eo7) (g := (mkF m 21 #[.val (.int p1), .val (.ref b7), .val (.int (19 : Int32)), .val (.int (2 : Int32)), .val (.ref t2)] [(.ref t2)])) rfl rfl (hb hby d1_21)
      refine own_by (fun _ k => st17 _ k) ?_
      show own_Fin p e below s _ _ _ T17 (mkF m 24 #[.val (.int p1), .val (.ref b7), .val (.int (19 : Int32)), .val (.int (2 : Int32)), .val (.ref t2)] [(.int (3 : Int32))])
      refine own_by (fun _ k => XS.iloadN X17.here hx rfl (hb hby d1_24) rfl k) ?_
      show own_Fin p e below s _ _ _ T17 (mkF m 25 #[.val (.int p1), .val (.ref b7), .val (.int (19 : Int32)), .val (.int (2 : Int32)), .val (.ref t2)] [(.int p1), (.int (3 : Int32))])
      by_cases hc25_18 : (3 : Int32) = p1
      · show own_Fin p e below s _ _ _ T17 (mkF m 25 #[.val (.int p1), .val (.ref b7), .val (.int (19 : Int32)), .val (.int (2 : Int32)), .val (.ref t2)] [(.int p1), (.int (3 : Int32))])
        refine own_by (fun _ k => XS.icmpNo X17.here hx rfl (hb hby d1_25) rfl (teq hc25_18).2 k) ?_
        show own_Fin p e below s _ _ _ T17 (mkF m 28 #[.val (.int p1), .val (.ref b7), .val (.int (19 : Int32)), .val (.int (2 : Int32)), .val (.ref t2)] [])
        refine own_by (fun _ k => XS.aload X17.here hx rfl (hb hby d1_28) rfl rfl k) ?_
        show own_Fin p e below s _ _ _ T17 (mkF m 30 #[.val (.int p1), .val (.ref b7), .val (.int (19 : Int32)), .val (.int (2 : Int32)), .val (.ref t2)] [(.ref t2)])
        exact own_retA X17 hx hlk (t := (.object "com/example/mosub/mosub/model/OverlayMessage$Type")) hret rfl rfl rfl (hb hby d1_30) (by rw [e17]; exact ⟨_, rfl, N7, Kp7, Or.inr ⟨_, rfl, hc25_18 ▸ Y2, hc25_18 ▸ (by refine ⟨?_, ?_, ?_⟩ <;> decide : own_ok (3 : Int32))⟩⟩) (by decide) (by decide)
      · show own_Fin p e below s _ _ _ T17 (mkF m 25 #[.val (.int p1), .val (.ref b7), .val (.int (19 : Int32)), .val (.int (2 : Int32)), .val (.ref t2)] [(.int p1), (.int (3 : Int32))])
        refine own_by (fun _ k => XS.icmpYes X17.here hx rfl (pc0 := 25) (pc' := 31) rfl (hb hby d1_25) rfl (feq hc25_18).2 (by decide) (by decide) k) ?_
        show own_Fin p e below s _ _ _ T17 (mkF m 31 #[.val (.int p1), .val (.ref b7), .val (.int (19 : Int32)), .val (.int (2 : Int32)), .val (.ref t2)] [])
        refine own_by (fun _ k => XS.iinc X17.here hx rfl (hb hby d1_31) rfl (l' := #[.val (.int p1), .val (.ref b7), .val (.int (19 : Int32)), .val (.int ((2 : Int32) + (1 : Int32))), .val (.ref t2)]) rfl k) ?_
        show own_Fin p e below s _ _ _ T17 (mkF m 34 #[.val (.int p1), .val (.ref b7), .val (.int (19 : Int32)), .val (.int ((2 : Int32) + (1 : Int32))), .val (.ref t2)] [])
        rw [(by decide : ((2 : Int32) + (1 : Int32)) = (3 : Int32))]
        show own_Fin p e below s _ _ _ T17 (mkF m 34 #[.val (.int p1), .val (.ref b7), .val (.int (19 : Int32)), .val (.int (3 : Int32)), .val (.ref t2)] [])
        refine own_by (fun _ k => XS.goto X17.here hx rfl (pc0 := 34) (pc' := 9) rfl (hb hby d1_34) (by decide) (by decide) (XS.iloadN X17.here hx rfl (hb hby d1_9) rfl (XS.iloadN X17.here hx rfl (hb hby d1_10) rfl k))) ?_
        show own_Fin p e below s _ _ _ T17 (mkF m 11 #[.val (.int p1), .val (.ref b7), .val (.int (19 : Int32)), .val (.int (3 : Int32)), .val (.ref t2)] [(.int (19 : Int32)), (.int (3 : Int32))])
        refine own_by (fun _ k => XS.icmpNo X17.here hx rfl (hb hby d1_11) rfl (tlt (by decide : (3 : Int32) < (19 : Int32))).2.1 k) ?_
        show own_Fin p e below s _ _ _ T17 (mkF m 14 #[.val (.int p1), .val (.ref b7), .val (.int (19 : Int32)), .val (.int (3 : Int32)), .val (.ref t2)] [])
        refine own_by (fun _ k => XS.aloadN X17.here hx rfl (hb hby d1_14) rfl rfl (XS.iloadN X17.here hx rfl (hb hby d1_15) rfl k)) ?_
        show own_Fin p e below s _ _ _ T17 (mkF m 16 #[.val (.int p1), .val (.ref b7), .val (.int (19 : Int32)), .val (.int (3 : Int32)), .val (.ref t2)] [(.int (3 : Int32)), (.ref b7)])
        obtain ⟨cl19, Ar19, -, S19, M19, H19, -⟩ := id V7
        have hin19 : ¬ ((3 : Int32) < 0 ∨ cl19.slots.size ≤ ((3 : Int32)).toNatClampNeg) := inb_of S19 ⟨by decide, by decide⟩
        have hat19 : cl19.slots[((3 : Int32)).toNatClampNeg]? = some (.ref t3) := Has.at H19 hin19 rfl
        refine own_by (fun _ k => X17.aaload hx (j := (3 : Int32)) (v := (.ref t3)) (by rw [e17]; exact Ar19.1) (State.isArrayOf_alike hZ.alike Ar19.2.1) rfl Ar19.2.2 hin19 hat19 (g := (mkF m 16 #[.val (.int p1), .val (.ref b7), .val (.int (19 : Int32)), .val (.int (3 : Int32)), .val (.ref t2)] [(.int (3 : Int32)), (.ref b7)])) rfl rfl (hb hby d1_16) _ k) ?_
        show own_Fin p e below s _ _ _ T17 (mkF m 17 #[.val (.int p1), .val (.ref b7), .val (.int (19 : Int32)), .val (.int (3 : Int32)), .val (.ref t2)] [(.ref t3)])
        refine own_by (fun _ k => XS.astore X17.here hx rfl (hb hby d1_17) rfl rfl (l' := #[.val (.int p1), .val (.ref b7), .val (.int (19 : Int32)), .val (.int (3 : Int32)), .val (.ref t3)]) rfl (XS.aload X17.here hx rfl (hb hby d1_19) rfl rfl k)) ?_
        show own_Fin p e below s _ _ _ T17 (mkF m 21 #[.val (.int p1), .val (.ref b7), .val (.int (19 : Int32)), .val (.int (3 : Int32)), .val (.ref t3)] [(.ref t3)])
        obtain ⟨T20, X20, e20, st20⟩ := getF X17 hx hZ hown (host := "") (Or.inl (hw _ (List.mem_of_getElem? (i := 38) rfl))) Via.refl e17 (Y3.2.ext Eo7) (g := (mkF m 21 #[.val (.int p1), .val (.ref b7), .val (.int (19 : Int32)), .val (.int (3 : Int32)), .val (.ref t3)] [(.ref t3)])) rfl rfl (hb hby d1_21)
        refine own_by (fun _ k => st20 _ k) ?_
        show own_Fin p e below s _ _ _ T20 (mkF m 24 #[.val (.int p1), .val (.ref b7), .val (.int (19 : Int32)), .val (.int (3 : Int32)), .val (.ref t3)] [(.int (4 : Int32))])
        refine own_by (fun _ k => XS.iloadN X20.here hx rfl (hb hby d1_24) rfl k) ?_
        show own_Fin p e below s _ _ _ T20 (mkF m 25 #[.val (.int p1), .val (.ref b7), .val (.int (19 : Int32)), .val (.int (3 : Int32)), .val (.ref t3)] [(.int p1), (.int (4 : Int32))])
        by_cases hc25_21 : (4 : Int32) = p1
        · show own_Fin p e below s _ _ _ T20 (mkF m 25 #[.val (.int p1), .val (.ref b7), .val (.int (19 : Int32)), .val (.int (3 : Int32)), .val (.ref t3)] [(.int p1), (.int (4 : Int32))])
          refine own_by (fun _ k => XS.icmpNo X20.here hx rfl (hb hby d1_25) rfl (teq hc25_21).2 k) ?_
          show own_Fin p e below s _ _ _ T20 (mkF m 28 #[.val (.int p1), .val (.ref b7), .val (.int (19 : Int32)), .val (.int (3 : Int32)), .val (.ref t3)] [])
          refine own_by (fun _ k => XS.aload X20.here hx rfl (hb hby d1_28) rfl rfl k) ?_
          show own_Fin p e below s _ _ _ T20 (mkF m 30 #[.val (.int p1), .val (.ref b7), .val (.int (19 : Int32)), .val (.int (3 : Int32)), .val (.ref t3)] [(.ref t3)])
          exact own_retA X20 hx hlk (t := (.object "com/example/mosub/mosub/model/OverlayMessage$Type")) hret rfl rfl rfl (hb hby d1_30) (by rw [e20]; exact ⟨_, rfl, N7, Kp7, Or.inr ⟨_, rfl, hc25_21 ▸ Y3, hc25_21 ▸ (by refine ⟨?_, ?_, ?_⟩ <;> decide : own_ok (4 : Int32))⟩⟩) (by decide) (by decide)
        · show own_Fin p e below s _ _ _ T20 (mkF m 25 #[.val (.int p1), .val (.ref b7), .val (.int (19 : Int32)), .val (.int (3 : Int32)), .val (.ref t3)] [(.int p1), (.int (4 : Int32))])
          refine own_by (fun _ k => XS.icmpYes X20.here hx rfl (pc0 := 25) (pc' := 31) rfl (hb hby d1_25) rfl (feq hc25_21).2 (by decide) (by decide) k) ?_
          show own_Fin p e below s _ _ _ T20 (mkF m 31 #[.val (.int p1), .val (.ref b7), .val (.int (19 : Int32)), .val (.int (3 : Int32)), .val (.ref t3)] [])
          refine own_by (fun _ k => XS.iinc X20.here hx rfl (hb hby d1_31) rfl (l' := #[.val (.int p1), .val (.ref b7), .val (.int (19 : Int32)), .val (.int ((3 : Int32) + (1 : Int32))), .val (.ref t3)]) rfl k) ?_
          show own_Fin p e below s _ _ _ T20 (mkF m 34 #[.val (.int p1), .val (.ref b7), .val (.int (19 : Int32)), .val (.int ((3 : Int32) + (1 : Int32))), .val (.ref t3)] [])
          rw [(by decide : ((3 : Int32) + (1 : Int32)) = (4 : Int32))]
          show own_Fin p e below s _ _ _ T20 (mkF m 34 #[.val (.int p1), .val (.ref b7), .val (.int (19 : Int32)), .val (.int (4 : Int32)), .val (.ref t3)] [])
          refine own_by (fun _ k => XS.goto X20.here hx rfl (pc0 := 34) (pc' := 9) rfl (hb hby d1_34) (by decide) (by decide) (XS.iloadN X20.here hx rfl (hb hby d1_9) rfl (XS.iloadN X20.here hx rfl (hb hby d1_10) rfl k))) ?_
          show own_Fin p e below s _ _ _ T20 (mkF m 11 #[.val (.int p1), .val (.ref b7), .val (.int (19 : Int32)), .val (.int (4 : Int32)), .val (.ref t3)] [(.int (19 : Int32)), (.int (4 : Int32))])
          refine own_by (fun _ k => XS.icmpNo X20.here hx rfl (hb hby d1_11) rfl (tlt (by decide : (4 : Int32) < (19 : Int32))).2.1 k) ?_
          show own_Fin p e below s _ _ _ T20 (mkF m 14 #[.val (.int p1), .val (.ref b7), .val (.int (19 : Int32)), .val (.int (4 : Int32)), .val (.ref t3)] [])
          refine own_by (fun _ k => XS.aloadN X20.here hx rfl (hb hby d1_14) rfl rfl (XS.iloadN X20.here hx rfl (hb hby d1_15) rfl k)) ?_
          show own_Fin p e below s _ _ _ T20 (mkF m 16 #[.val (.int p1), .val (.ref b7), .val (.int (19 : Int32)), .val (.int (4 : Int32)), .val (.ref t3)] [(.int (4 : Int32)), (.ref b7)])
          obtain ⟨cl22, Ar22, -, S22, M22, H22, -⟩ := id V7
          have hin22 : ¬ ((4 : Int32) < 0 ∨ cl22.slots.size ≤ ((4 : Int32)).toNatClampNeg) := inb_of S22 ⟨by decide, by decide⟩
          have hat22 : cl22.slots[((4 : Int32)).toNatClampNeg]? = some (.ref t4) := Has.at H22 hin22 rfl
          refine own_by (fun _ k => X20.aaload hx (j := (4 : Int32)) (v := (.ref t4)) (by rw [e20]; exact Ar22.1) (State.isArrayOf_alike hZ.alike Ar22.2.1) rfl Ar22.2.2 hin22 hat22 (g := (mkF m 16 #[.val (.int p1), .val (.ref b7), .val (.int (19 : Int32)), .val (.int (4 : Int32)), .val (.ref t3)] [(.int (4 : Int32)), (.ref b7)])) rfl rfl (hb hby d1_16) _ k) ?_
          show own_Fin p e below s _ _ _ T20 (mkF m 17 #[.val (.int p1), .val (.ref b7), .val (.int (19 : Int32)), .val (.int (4 : Int32)), .val (.ref t3)] [(.ref t4)])
          refine own_by (fun _ k => XS.astore X20.here hx rfl (hb hby d1_17) rfl rfl (l' := #[.val (.int p1), .val (.ref b7), .val (.int (19 : Int32)), .val (.int (4 : Int32)), .val (.ref t4)]) rfl (XS.aload X20.here hx rfl (hb hby d1_19) rfl rfl k)) ?_
          show own_Fin p e below s _ _ _ T20 (mkF m 21 #[.val (.int p1), .val (.ref b7), .val (.int (19 : Int32)), .val (.int (4 : Int32)), .val (.ref t4)] [(.ref t4)])
          obtain ⟨T23, X23, e23, st23⟩ := getF X20 hx hZ hown (host := "") (Or.inl (hw _ (List.mem_of_getElem? (i := 38) rfl))) Via.refl e20 (Y4.2.ext Eo7) (g := (mkF m 21 #[.val (.int p1), .val (.ref b7), .val (.int (19 : Int32)), .val (.int (4 : Int32)), .val (.ref t4)] [(.ref t4)])) rfl rfl (hb hby d1_21)
          refine own_by (fun _ k => st23 _ k) ?_
          show own_Fin p e below s _ _ _ T23 (mkF m 24 #[.val (.int p1), .val (.ref b7), .val (.int (19 : Int32)), .val (.int (4 : Int32)), .val (.ref t4)] [(.int (5 : Int32))])
          refine own_by (fun _ k => XS.iloadN X23.here hx rfl (hb hby d1_24) rfl k) ?_
          show own_Fin p e below s _ _ _ T23 (mkF m 25 #[.val (.int p1), .val (.ref b7), .val (.int (19 : Int32)), .val (.int (4 : Int32)), .val (.ref t4)] [(.int p1), (.int (5 : Int32))])
          by_cases hc25_24 : (5 : Int32) = p1
          · show own_Fin p e below s _ _ _ T23 (mkF m 25 #[.val (.int p1), .val (.ref b7), .val (.int (19 : Int32)), .val (.int (4 : Int32)), .val (.ref t4)] [(.int p1), (.int (5 : Int32))])
            refine own_by (fun _ k => XS.icmpNo X23.here hx rfl (hb hby d1_25) rfl (teq hc25_24).2 k) ?_
            show own_Fin p e below s _ _ _ T23 (mkF m 28 #[.val (.int p1), .val (.ref b7), .val (.int (19 : Int32)), .val (.int (4 : Int32)), .val (.ref t4)] [])
            refine own_by (fun _ k => XS.aload X23.here hx rfl (hb hby d1_28) rfl rfl k) ?_
            show own_Fin p e below s _ _ _ T23 (mkF m 30 #[.val (.int p1), .val (.ref b7), .val (.int (19 : Int32)), .val (.int (4 : Int32)), .val (.ref t4)] [(.ref t4)])
            exact own_retA X23 hx hlk (t := (.object "com/example/mosub/mosub/model/OverlayMessage$Type")) hret rfl rfl rfl (hb hby d1_30) (by rw [e23]; exact ⟨_, rfl, N7, Kp7, Or.inr ⟨_, rfl, hc25_24 ▸ Y4, hc25_24 ▸ (by refine ⟨?_, ?_, ?_⟩ <;> decide : own_ok (5 : Int32))⟩⟩) (by decide) (by decide)
          · show own_Fin p e below s _ _ _ T23 (mkF m 25 #[.val (.int p1), .val (.ref b7), .val (.int (19 : Int32)), .val (.int (4 : Int32)), .val (.ref t4)] [(.int p1), (.int (5 : Int32))])
            refine own_by (fun _ k => XS.icmpYes X23.here hx rfl (pc0 := 25) (pc' := 31) rfl (hb hby d1_25) rfl (feq hc25_24).2 (by decide) (by decide) k) ?_
            show own_Fin p e below s _ _ _ T23 (mkF m 31 #[.val (.int p1), .val (.ref b7), .val (.int (19 : Int32)), .val (.int (4 : Int32)), .val (.ref t4)] [])
            refine own_by (fun _ k => XS.iinc X23.here hx rfl (hb hby d1_31) rfl (l' := #[.val (.int p1), .val (.ref b7), .val (.int (19 : Int32)), .val (.int ((4 : Int32) + (1 : Int32))), .val (.ref t4)]) rfl k) ?_
            show own_Fin p e below s _ _ _ T23 (mkF m 34 #[.val (.int p1), .val (.ref b7), .val (.int (19 : Int32)), .val (.int ((4 : Int32) + (1 : Int32))), .val (.ref t4)] [])
            rw [(by decide : ((4 : Int32) + (1 : Int32)) = (5 : Int32))]
            show own_Fin p e below s _ _ _ T23 (mkF m 34 #[.val (.int p1), .val (.ref b7), .val (.int (19 : Int32)), .val (.int (5 : Int32)), .val (.ref t4)] [])
            refine own_by (fun _ k => XS.goto X23.here hx rfl (pc0 := 34) (pc' := 9) rfl (hb hby d1_34) (by decide) (by decide) (XS.iloadN X23.here hx rfl (hb hby d1_9) rfl (XS.iloadN X23.here hx rfl (hb hby d1_10) rfl k))) ?_
            show own_Fin p e below s _ _ _ T23 (mkF m 11 #[.val (.int p1), .val (.ref b7), .val (.int (19 : Int32)), .val (.int (5 : Int32)), .val (.ref t4)] [(.int (19 : Int32)), (.int (5 : Int32))])
            refine own_by (fun _ k => XS.icmpNo X23.here hx rfl (hb hby d1_11) rfl (tlt (by decide : (5 : Int32) < (19 : Int32))).2.1 k) ?_
            show own_Fin p e below s _ _ _ T23 (mkF m 14 #[.val (.int p1), .val (.ref b7), .val (.int (19 : Int32)), .val (.int (5 : Int32)), .val (.ref t4)] [])
            refine own_by (fun _ k => XS.aloadN X23.here hx rfl (hb hby d1_14) rfl rfl (XS.iloadN X23.here hx rfl (hb hby d1_15) rfl k)) ?_
            show own_Fin p e below s _ _ _ T23 (mkF m 16 #[.val (.int p1), .val (.ref b7), .val (.int (19 : Int32)), .val (.int (5 : Int32)), .val (.ref t4)] [(.int (5 : Int32)), (.ref b7)])
            obtain ⟨cl25, Ar25, -, S25, M25, H25, -⟩ := id V7
            have hin25 : ¬ ((5 : Int32) < 0 ∨ cl25.slots.size ≤ ((5 : Int32)).toNatClampNeg) := inb_of S25 ⟨by decide, by decide⟩
            have hat25 : cl25.slots[((5 : Int32)).toNatClampNeg]? = some (.ref t5) := Has.at H25 hin25 rfl
            refine own_by (fun _ k => X23.aaload hx (j := (5 : Int32)) (v := (.ref t5)) (by rw [e23]; exact Ar25.1) (State.isArrayOf_alike hZ.alike Ar25.2.1) rfl Ar25.2.2 hin25 hat25 (g := (mkF m 16 #[.val (.int p1), .val (.ref b7), .val (.int (19 : Int32)), .val (.int (5 : Int32)), .val (.ref t4)] [(.int (5 : Int32)), (.ref b7)])) rfl rfl (hb hby d1_16) _ k) ?_
            show own_Fin p e below s _ _ _ T23 (mkF m 17 #[.val (.int p1), .val (.ref b7), .val (.int (19 : Int32)), .val (.int (5 : Int32)), .val (.ref t4)] [(.ref t5)])
            refine own_by (fun _ k => XS.astore X23.here hx rfl (hb hby d1_17) rfl rfl (l' := #[.val (.int p1), .val (.ref b7), .val (.int (19 : Int32)), .val (.int (5 : Int32)), .val (.ref t5)]) rfl (XS.aload X23.here hx rfl (hb hby d1_19) rfl rfl k)) ?_
            show own_Fin p e below s _ _ _ T23 (mkF m 21 #[.val (.int p1), .val (.ref b7), .val (.int (19 : Int32)), .val (.int (5 : Int32)), .val (.ref t5)] [(.ref t5)])
            obtain ⟨T26, X26, e26, st26⟩ := getF X23 hx hZ hown (host := "") (Or.inl (hw _ (List.mem_of_getElem? (i := 38) rfl))) Via.refl e23 (Y5.2.ext Eo7) (g := (mkF m 21 #[.val (.int p1), .val (.ref b7), .val (.int (19 : Int32)), .val (.int (5 : Int32)), .val (.ref t5)] [(.ref t5)])) rfl rfl (hb hby d1_21)
            refine own_by (fun _ k => st26 _ k) ?_
            show own_Fin p e below s _ _ _ T26 (mkF m 24 #[.val (.int p1), .val (.ref b7), .val (.int (19 : Int32)), .val (.int (5 : Int32)), .val (.ref t5)] [(.int (6 : Int32))])
            refine own_by (fun _ k => XS.iloadN X26.here hx rfl (hb hby d1_24) rfl k) ?_
            show own_Fin p e below s _ _ _ T26 (mkF m 25 #[.val (.int p1), .val (.ref b7), .val (.int (19 : Int32)), .val (.int (5 : Int32)), .val (.ref t5)] [(.int p1), (.int (6 : Int32))])
            by_cases hc25_27 : (6 : Int32) = p1
            · show own_Fin p e below s _ _ _ T26 (mkF m 25 #[.val (.int p1), .val (.ref b7), .val (.int (19 : Int32)), .val (.int (5 : Int32)), .val (.ref t5)] [(.int p1), (.int (6 : Int32))])
              refine own_by (fun _ k => XS.icmpNo X26.here hx rfl (hb hby d1_25) rfl (teq hc25_27).2 k) ?_
              show own_Fin p e below s _ _ _ T26 (mkF m 28 #[.val (.int p1), .val (.ref b7), .val (.int (19 : Int32)), .val (.int (5 : Int32)), .val (.ref t5)] [])
              refine own_by (fun _ k => XS.aload X26.here hx rfl (hb hby d1_28) rfl rfl k) ?_
              show own_Fin p e below s _ _ _ T26 (mkF m 30 #[.val (.int p1), .val (.ref b7), .val (.int (19 : Int32)), .val (.int (5 : Int32)), .val (.ref t5)] [(.ref t5)])
              exact own_retA X26 hx hlk (t := (.object "com/example/mosub/mosub/model/OverlayMessage$Type")) hret rfl rfl rfl (hb hby d1_30) (by rw [e26]; exact ⟨_, rfl, N7, Kp7, Or.inr ⟨_, rfl, hc25_27 ▸ Y5, hc25_27 ▸ (by refine ⟨?_, ?_, ?_⟩ <;> decide : own_ok (6 : Int32))⟩⟩) (by decide) (by decide)
            · show own_Fin p e below s _ _ _ T26 (mkF m 25 #[.val (.int p1), .val (.ref b7), .val (.int (19 : Int32)), .val (.int (5 : Int32)), .val (.ref t5)] [(.int p1), (.int (6 : Int32))])
              refine own_by (fun _ k => XS.icmpYes X26.here hx rfl (pc0 := 25) (pc' := 31) rfl (hb hby d1_25) rfl (feq hc25_27).2 (by decide) (by decide) k) ?_
              show own_Fin p e below s _ _ _ T26 (mkF m 31 #[.val (.int p1), .val (.ref b7), .val (.int (19 : Int32)), .val (.int (5 : Int32)), .val (.ref t5)] [])
              refine own_by (fun _ k => XS.iinc X26.here hx rfl (hb hby d1_31) rfl (l' := #[.val (.int p1), .val (.ref b7), .val (.int (19 : Int32)), .val (.int ((5 : Int32) + (1 : Int32))), .val (.ref t5)]) rfl k) ?_
              show own_Fin p e below s _ _ _ T26 (mkF m 34 #[.val (.int p1), .val (.ref b7), .val (.int (19 : Int32)), .val (.int ((5 : Int32) + (1 : Int32))), .val (.ref t5)] [])
              rw [(by decide : ((5 : Int32) + (1 : Int32)) = (6 : Int32))]
              show own_Fin p e below s _ _ _ T26 (mkF m 34 #[.val (.int p1), .val (.ref b7), .val (.int (19 : Int32)), .val (.int (6 : Int32)), .val (.ref t5)] [])
              refine own_by (fun _ k => XS.goto X26.here hx rfl (pc0 := 34) (pc' := 9) rfl (hb hby d1_34) (by decide) (by decide) (XS.iloadN X26.here hx rfl (hb hby d1_9) rfl (XS.iloadN X26.here hx rfl (hb hby d1_10) rfl k))) ?_
              show own_Fin p e below s _ _ _ T26 (mkF m 11 #[.val (.int p1), .val (.ref b7), .val (.int (19 : Int32)), .val (.int (6 : Int32)), .val (.ref t5)] [(.int (19 : Int32)), (.int (6 : Int32))])
              refine own_by (fun _ k => XS.icmpNo X26.here hx rfl (hb hby d1_11) rfl (tlt (by decide : (6 : Int32) < (19 : Int32))).2.1 k) ?_
              show own_Fin p e below s _ _ _ T26 (mkF m 14 #[.val (.int p1), .val (.ref b7), .val (.int (19 : Int32)), .val (.int (6 : Int32)), .val (.ref t5)] [])
              refine own_by (fun _ k => XS.aloadN X26.here hx rfl (hb hby d1_14) rfl rfl (XS.iloadN X26.here hx rfl (hb hby d1_15) rfl k)) ?_
              show own_Fin p e below s _ _ _ T26 (mkF m 16 #[.val (.int p1), .val (.ref b7), .val (.int (19 : Int32)), .val (.int (6 : Int32)), .val (.ref t5)] [(.int (6 : Int32)), (.ref b7)])
              obtain ⟨cl28, Ar28, -, S28, M28, H28, -⟩ := id V7
              have hin28 : ¬ ((6 : Int32) < 0 ∨ cl28.slots.size ≤ ((6 : Int32)).toNatClampNeg) := inb_of S28 ⟨by decide, by decide⟩
              have hat28 : cl28.slots[((6 : Int32)).toNatClampNeg]? = some (.ref t6) := Has.at H28 hin28 rfl
              refine own_by (fun _ k => X26.aaload hx (j := (6 : Int32)) (v := (.ref t6)) (by rw [e26]; exact Ar28.1) (State.isArrayOf_alike hZ.alike Ar28.2.1) rfl Ar28.2.2 hin28 hat28 (g := (mkF m 16 #[.val (.int p1), .val (.ref b7), .val (.int (19 : Int32)), .val (.int (6 : Int32)), .val (.ref t5)] [(.int (6 : Int32)), (.ref b7)])) rfl rfl (hb hby d1_16) _ k) ?_
              show own_Fin p e below s _ _ _ T26 (mkF m 17 #[.val (.int p1), .val (.ref b7), .val (.int (19 : Int32)), .val (.int (6 : Int32)), .val (.ref t5)] [(.ref t6)])
              refine own_by (fun _ k => XS.astore X26.here hx rfl (hb hby d1_17) rfl rfl (l' := #[.val (.int p1), .val (.ref b7), .val (.int (19 : Int32)), .val (.int (6 : Int32)), .val (.ref t6)]) rfl (XS.aload X26.here hx rfl (hb hby d1_19) rfl rfl k)) ?_
              show own_Fin p e below s _ _ _ T26 (mkF m 21 #[.val (.int p1), .val (.ref b7), .val (.int (19 : Int32)), .val (.int (6 : Int32)), .val (.ref t6)] [(.ref t6)])
              obtain ⟨T29, X29, e29, st29⟩ := getF X26 hx hZ hown (host := "") (Or.inl (hw _ (List.mem_of_getElem? (i := 38) rfl))) Via.refl e26 (Y6.2.ext Eo7) (g := (mkF m 21 #[.val (.int p1), .val (.ref b7), .val (.int (19 : Int32)), .val (.int (6 : Int32)), .val (.ref t6)] [(.ref t6)])) rfl rfl (hb hby d1_21)
              refine own_by (fun _ k => st29 _ k) ?_
              show own_Fin p e below s _ _ _ T29 (mkF m 24 #[.val (.int p1), .val (.ref b7), .val (.int (19 : Int32)), .val (.int (6 : Int32)), .val (.ref t6)] [(.int (7 : Int32))])
              refine own_by (fun _ k => XS.iloadN X29.here hx rfl (hb hby d1_24) rfl k) ?_
              show own_Fin p e below s _ _ _ T29 (mkF m 25 #[.val (.int p1), .val (.ref b7), .val (.int (19 : Int32)), .val (.int (6 : Int32)), .val (.ref t6)] [(.int p1), (.int (7 : Int32))])
              by_cases hc25_30 : (7 : Int32) = p1
              · show own_Fin p e below s _ _ _ T29 (mkF m 25 #[.val (.int p1), .val (.ref b7), .val (.int (19 : Int32)), .val (.int (6 : Int32)), .val (.ref t6)] [(.int p1), (.int (7 : Int32))])
                refine own_by (fun _ k => XS.icmpNo X29.here hx rfl (hb hby d1_25) rfl (teq hc25_30).2 k) ?_
                show own_Fin p e below s _ _ _ T29 (mkF m 28 #[.val (.int p1), .val (.ref b7), .val (.int (19 : Int32)), .val (.int (6 : Int32)), .val (.ref t6)] [])
                refine own_by (fun _ k => XS.aload X29.here hx rfl (hb hby d1_28) rfl rfl k) ?_
                show own_Fin p e below s _ _ _ T29 (mkF m 30 #[.val (.int p1), .val (.ref b7), .val (.int (19 : Int32)), .val (.int (6 : Int32)), .val (.ref t6)] [(.ref t6)])
                exact own_retA X29 hx hlk (t := (.object "com/example/mosub/mosub/model/OverlayMessage$Type")) hret rfl rfl rfl (hb hby d1_30) (by rw [e29]; exact ⟨_, rfl, N7, Kp7, Or.inr ⟨_, rfl, hc25_30 ▸ Y6, hc25_30 ▸ (by refine ⟨?_, ?_, ?_⟩ <;> decide : own_ok (7 : Int32))⟩⟩) (by decide) (by decide)
              · show own_Fin p e below s _ _ _ T29 (mkF m 25 #[.val (.int p1), .val (.ref b7), .val (.int (19 : Int32)), .val (.int (6 : Int32)), .val (.ref t6)] [(.int p1), (.int (7 : Int32))])
                refine own_by (fun _ k => XS.icmpYes X29.here hx rfl (pc0 := 25) (pc' := 31) rfl (hb hby d1_25) rfl (feq hc25_30).2 (by decide) (by decide) k) ?_
                show own_Fin p e below s _ _ _ T29 (mkF m 31 #[.val (.int p1), .val (.ref b7), .val (.int (19 : Int32)), .val (.int (6 : Int32)), .val (.ref t6)] [])
                refine own_by (fun _ k => XS.iinc X29.here hx rfl (hb hby d1_31) rfl (l' := #[.val (.int p1), .val (.ref b7), .val (.int (19 : Int32)), .val (.int ((6 : Int32) + (1 : Int32))), .val (.ref t6)]) rfl k) ?_
                show own_Fin p e below s _ _ _ T29 (mkF m 34 #[.val (.int p1), .val (.ref b7), .val (.int (19 : Int32)), .val (.int ((6 : Int32) + (1 : Int32))), .val (.ref t6)] [])
                rw [(by decide : ((6 : Int32) + (1 : Int32)) = (7 : Int32))]
                show own_Fin p e below s _ _ _ T29 (mkF m 34 #[.val (.int p1), .val (.ref b7), .val (.int (19 : Int32)), .val (.int (7 : Int32)), .val (.ref t6)] [])
                refine own_by (fun _ k => XS.goto X29.here hx rfl (pc0 := 34) (pc' := 9) rfl (hb hby d1_34) (by decide) (by decide) (XS.iloadN X29.here hx rfl (hb hby d1_9) rfl (XS.iloadN X29.here hx rfl (hb hby d1_10) rfl k))) ?_
                show own_Fin p e below s _ _ _ T29 (mkF m 11 #[.val (.int p1), .val (.ref b7), .val (.int (19 : Int32)), .val (.int (7 : Int32)), .val (.ref t6)] [(.int (19 : Int32)), (.int (7 : Int32))])
                refine own_by (fun _ k => XS.icmpNo X29.here hx rfl (hb hby d1_11) rfl (tlt (by decide : (7 : Int32) < (19 : Int32))).2.1 k) ?_
                show own_Fin p e below s _ _ _ T29 (mkF m 14 #[.val (.int p1), .val (.ref b7), .val (.int (19 : Int32)), .val (.int (7 : Int32)), .val (.ref t6)] [])
                refine own_by (fun _ k => XS.aloadN X29.here hx rfl (hb hby d1_14) rfl rfl (XS.iloadN X29.here hx rfl (hb hby d1_15) rfl k)) ?_
                show own_Fin p e below s _ _ _ T29 (mkF m 16 #[.val (.int p1), .val (.ref b7), .val (.int (19 : Int32)), .val (.int (7 : Int32)), .val (.ref t6)] [(.int (7 : Int32)), (.ref b7)])
                obtain ⟨cl31, Ar31, -, S31, M31, H31, -⟩ := id V7
                have hin31 : ¬ ((7 : Int32) < 0 ∨ cl31.slots.size ≤ ((7 : Int32)).toNatClampNeg) := inb_of S31 ⟨by decide, by decide⟩
                have hat31 : cl31.slots[((7 : Int32)).toNatClampNeg]? = some (.ref t7) := Has.at H31 hin31 rfl
                refine own_by (fun _ k => X29.aaload hx (j := (7 : Int32)) (v := (.ref t7)) (by rw [e29]; exact Ar31.1) (State.isArrayOf_alike hZ.alike Ar31.2.1) rfl Ar31.2.2 hin31 hat31 (g := (mkF m 16 #[.val (.int p1), .val (.ref b7), .val (.int (19 : Int32)), .val (.int (7 : Int32)), .val (.ref t6)] [(.int (7 : Int32)), (.ref b7)])) rfl rfl (hb hby d1_16) _ k) ?_
                show own_Fin p e below s _ _ _ T29 (mkF m 17 #[.val (.int p1), .val (.ref b7), .val (.int (19 : Int32)), .val (.int (7 : Int32)), .val (.ref t6)] [(.ref t7)])
                refine own_by (fun _ k => XS.astore X29.here hx rfl (hb hby d1_17) rfl rfl (l' := #[.val (.int p1), .val (.ref b7), .val (.int (19 : Int32)), .val (.int (7 : Int32)), .val (.ref t7)]) rfl (XS.aload X29.here hx rfl (hb hby d1_19) rfl rfl k)) ?_
                show own_Fin p e below s _ _ _ T29 (mkF m 21 #[.val (.int p1), .val (.ref b7), .val (.int (19 : Int32)), .val (.int (7 : Int32)), .val (.ref t7)] [(.ref t7)])
                obtain ⟨T32, X32, e32, st32⟩ := getF X29 hx hZ hown (host := "") (Or.inl (hw _ (List.mem_of_getElem? (i := 38) rfl))) Via.refl e29 (Y7.2.ext Eo7) (g := (mkF m 21 #[.val (.int p1), .val (.ref b7), .val (.int (19 : Int32)), .val (.int (7 : Int32)), .val (.ref t7)] [(.ref t7)])) rfl rfl (hb hby d1_21)
                refine own_by (fun _ k => st32 _ k) ?_
                show own_Fin p e below s _ _ _ T32 (mkF m 24 #[.val (.int p1), .val (.ref b7), .val (.int (19 : Int32)), .val (.int (7 : Int32)), .val (.ref t7)] [(.int (8 : Int32))])
                refine own_by (fun _ k => XS.iloadN X32.here hx rfl (hb hby d1_24) rfl k) ?_
                show own_Fin p e below s _ _ _ T32 (mkF m 25 #[.val (.int p1), .val (.ref b7), .val (.int (19 : Int32)), .val (.int (7 : Int32)), .val (.ref t7)] [(.int p1), (.int (8 : Int32))])
                by_cases hc25_33 : (8 : Int32) = p1
                · show own_Fin p e below s _ _ _ T32 (mkF m 25 #[.val (.int p1), .val (.ref b7), .val (.int (19 : Int32)), .val (.int (7 : Int32)), .val (.ref t7)] [(.int p1), (.int (8 : Int32))])
                  refine own_by (fun _ k => XS.icmpNo X32.here hx rfl (hb hby d1_25) rfl (teq hc25_33).2 k) ?_
                  show own_Fin p e below s _ _ _ T32 (mkF m 28 #[.val (.int p1), .val (.ref b7), .val (.int (19 : Int32)), .val (.int (7 : Int32)), .val (.ref t7)] [])
                  refine own_by (fun _ k => XS.aload X32.here hx rfl (hb hby d1_28) rfl rfl k) ?_
                  show own_Fin p e below s _ _ _ T32 (mkF m 30 #[.val (.int p1), .val (.ref b7), .val (.int (19 : Int32)), .val (.int (7 : Int32)), .val (.ref t7)] [(.ref t7)])
                  exact own_retA X32 hx hlk (t := (.object "com/example/mosub/mosub/model/OverlayMessage$Type")) hret rfl rfl rfl (hb hby d1_30) (by rw [e32]; exact ⟨_, rfl, N7, Kp7, Or.inr ⟨_, rfl, hc25_33 ▸ Y7, hc25_33 ▸ (by refine ⟨?_, ?_, ?_⟩ <;> decide : own_ok (8 : Int32))⟩⟩) (by decide) (by decide)
                · show own_Fin p e below s _ _ _ T32 (mkF m 25 #[.val (.int p1), .val (.ref b7), .val (.int (19 : Int32)), .val (.int (7 : Int32)), .val (.ref t7)] [(.int p1), (.int (8 : Int32))])
                  refine own_by (fun _ k => XS.icmpYes X32.here hx rfl (pc0 := 25) (pc' := 31) rfl (hb hby d1_25) rfl (feq hc25_33).2 (by decide) (by decide) k) ?_
                  show own_Fin p e below s _ _ _ T32 (mkF m 31 #[.val (.int p1), .val (.ref b7), .val (.int (19 : Int32)), .val (.int (7 : Int32)), .val (.ref t7)] [])
                  refine own_by (fun _ k => XS.iinc X32.here hx rfl (hb hby d1_31) rfl (l' := #[.val (.int p1), .val (.ref b7), .val (.int (19 : Int32)), .val (.int ((7 : Int32) + (1 : Int32))), .val (.ref t7)]) rfl k) ?_
                  show own_Fin p e below s _ _ _ T32 (mkF m 34 #[.val (.int p1), .val (.ref b7), .val (.int (19 : Int32)), .val (.int ((7 : Int32) + (1 : Int32))), .val (.ref t7)] [])
                  rw [(by decide : ((7 : Int32) + (1 : Int32)) = (8 : Int32))]
                  show own_Fin p e below s _ _ _ T32 (mkF m 34 #[.val (.int p1), .val (.ref b7), .val (.int (19 : Int32)), .val (.int (8 : Int32)), .val (.ref t7)] [])
                  refine own_by (fun _ k => XS.goto X32.here hx rfl (pc0 := 34) (pc' := 9) rfl (hb hby d1_34) (by decide) (by decide) (XS.iloadN X32.here hx rfl (hb hby d1_9) rfl (XS.iloadN X32.here hx rfl (hb hby d1_10) rfl k))) ?_
                  show own_Fin p e below s _ _ _ T32 (mkF m 11 #[.val (.int p1), .val (.ref b7), .val (.int (19 : Int32)), .val (.int (8 : Int32)), .val (.ref t7)] [(.int (19 : Int32)), (.int (8 : Int32))])
                  refine own_by (fun _ k => XS.icmpNo X32.here hx rfl (hb hby d1_11) rfl (tlt (by decide : (8 : Int32) < (19 : Int32))).2.1 k) ?_
                  show own_Fin p e below s _ _ _ T32 (mkF m 14 #[.val (.int p1), .val (.ref b7), .val (.int (19 : Int32)), .val (.int (8 : Int32)), .val (.ref t7)] [])
                  refine own_by (fun _ k => XS.aloadN X32.here hx rfl (hb hby d1_14) rfl rfl (XS.iloadN X32.here hx rfl (hb hby d1_15) rfl k)) ?_
                  show own_Fin p e below s _ _ _ T32 (mkF m 16 #[.val (.int p1), .val (.ref b7), .val (.int (19 : Int32)), .val (.int (8 : Int32)), .val (.ref t7)] [(.int (8 : Int32)), (.ref b7)])
                  obtain ⟨cl34, Ar34, -, S34, M34, H34, -⟩ := id V7
                  have hin34 : ¬ ((8 : Int32) < 0 ∨ cl34.slots.size ≤ ((8 : Int32)).toNatClampNeg) := inb_of S34 ⟨by decide, by decide⟩
                  have hat34 : cl34.slots[((8 : Int32)).toNatClampNeg]? = some (.ref t8) := Has.at H34 hin34 rfl
                  refine own_by (fun _ k => X32.aaload hx (j := (8 : Int32)) (v := (.ref t8)) (by rw [e32]; exact Ar34.1) (State.isArrayOf_alike hZ.alike Ar34.2.1) rfl Ar34.2.2 hin34 hat34 (g := (mkF m 16 #[.val (.int p1), .val (.ref b7), .val (.int (19 : Int32)), .val (.int (8 : Int32)), .val (.ref t7)] [(.int (8 : Int32)), (.ref b7)])) rfl rfl (hb hby d1_16) _ k) ?_
                  show own_Fin p e below s _ _ _ T32 (mkF m 17 #[.val (.int p1), .val (.ref b7), .val (.int (19 : Int32)), .val (.int (8 : Int32)), .val (.ref t7)] [(.ref t8)])
                  refine own_by (fun _ k => XS.astore X32.here hx rfl (hb hby d1_17) rfl rfl (l' := #[.val (.int p1), .val (.ref b7), .val (.int (19 : Int32)), .val (.int (8 : Int32)), .val (.ref t8)]) rfl (XS.aload X32.here hx rfl (hb hby d1_19) rfl rfl k)) ?_
                  show own_Fin p e below s _ _ _ T32 (mkF m 21 #[.val (.int p1), .val (.ref b7), .val (.int (19 : Int32)), .val (.int (8 : Int32)), .val (.ref t8)] [(.ref t8)])
                  obtain ⟨T35, X35, e35, st35⟩ := getF X32 hx hZ hown (host := "") (Or.inl (hw _ (List.mem_of_getElem? (i := 38) rfl))) Via.refl e32 (Y8.2.ext Eo7) (g := (mkF m 21 #[.val (.int p1), .val (.ref b7), .val (.int (19 : Int32)), .val (.int (8 : Int32)), .val (.ref t8)] [(.ref t8)])) rfl rfl (hb hby d1_21)
                  refine own_by (fun _ k => st35 _ k) ?_
                  show own_Fin p e below s _ _ _ T35 (mkF m 24 #[.val (.int p1), .val (.ref b7), .val (.int (19 : Int32)), .val (.int (8 : Int32)), .val (.ref t8)] [(.int (9 : Int32))])
                  refine own_by (fun _ k => XS.iloadN X35.here hx rfl (hb hby d1_24) rfl k) ?_
                  show own_Fin p e below s _ _ _ T35 (mkF m 25 #[.val (.int p1), .val (.ref b7), .val (.int (19 : Int32)), .val (.int (8 : Int32)), .val (.ref t8)] [(.int p1), (.int (9 : Int32))])
                  by_cases hc25_36 : (9 : Int32) = p1
                  · show own_Fin p e below s _ _ _ T35 (mkF m 25 #[.val (.int p1), .val (.ref b7), .val (.int (19 : Int32)), .val (.int (8 : Int32)), .val (.ref t8)] [(.int p1), (.int (9 : Int32))])
                    refine own_by (fun _ k => XS.icmpNo X35.here hx rfl (hb hby d1_25) rfl (teq hc25_36).2 k) ?_
                    show own_Fin p e below s _ _ _ T35 (mkF m 28 #[.val (.int p1), .val (.ref b7), .val (.int (19 : Int32)), .val (.int (8 : Int32)), .val (.ref t8)] [])
                    refine own_by (fun _ k => XS.aload X35.here hx rfl (hb hby d1_28) rfl rfl k) ?_
                    show own_Fin p e below s _ _ _ T35 (mkF m 30 #[.val (.int p1), .val (.ref b7), .val (.int (19 : Int32)), .val (.int (8 : Int32)), .val (.ref t8)] [(.ref t8)])
                    exact own_retA X35 hx hlk (t := (.object "com/example/mosub/mosub/model/OverlayMessage$Type")) hret rfl rfl rfl (hb hby d1_30) (by rw [e35]; exact ⟨_, rfl, N7, Kp7, Or.inr ⟨_, rfl, hc25_36 ▸ Y8, hc25_36 ▸ (by refine ⟨?_, ?_, ?_⟩ <;> decide : own_ok (9 : Int32))⟩⟩) (by decide) (by decide)
                  · show own_Fin p e below s _ _ _ T35 (mkF m 25 #[.val (.int p1), .val (.ref b7), .val (.int (19 : Int32)), .val (.int (8 : Int32)), .val (.ref t8)] [(.int p1), (.int (9 : Int32))])
                    refine own_by (fun _ k => XS.icmpYes X35.here hx rfl (pc0 := 25) (pc' := 31) rfl (hb hby d1_25) rfl (feq hc25_36).2 (by decide) (by decide) k) ?_
                    show own_Fin p e below s _ _ _ T35 (mkF m 31 #[.val (.int p1), .val (.ref b7), .val (.int (19 : Int32)), .val (.int (8 : Int32)), .val (.ref t8)] [])
                    refine own_by (fun _ k => XS.iinc X35.here hx rfl (hb hby d1_31) rfl (l' := #[.val (.int p1), .val (.ref b7), .val (.int (19 : Int32)), .val (.int ((8 : Int32) + (1 : Int32))), .val (.ref t8)]) rfl k) ?_
                    show own_Fin p e below s _ _ _ T35 (mkF m 34 #[.val (.int p1), .val (.ref b7), .val (.int (19 : Int32)), .val (.int ((8 : Int32) + (1 : Int32))), .val (.ref t8)] [])
                    rw [(by decide : ((8 : Int32) + (1 : Int32)) = (9 : Int32))]
                    show own_Fin p e below s _ _ _ T35 (mkF m 34 #[.val (.int p1), .val (.ref b7), .val (.int (19 : Int32)), .val (.int (9 : Int32)), .val (.ref t8)] [])
                    refine own_by (fun _ k => XS.goto X35.here hx rfl (pc0 := 34) (pc' := 9) rfl (hb hby d1_34) (by decide) (by decide) (XS.iloadN X35.here hx rfl (hb hby d1_9) rfl (XS.iloadN X35.here hx rfl (hb hby d1_10) rfl k))) ?_
                    show own_Fin p e below s _ _ _ T35 (mkF m 11 #[.val (.int p1), .val (.ref b7), .val (.int (19 : Int32)), .val (.int (9 : Int32)), .val (.ref t8)] [(.int (19 : Int32)), (.int (9 : Int32))])
                    refine own_by (fun _ k => XS.icmpNo X35.here hx rfl (hb hby d1_11) rfl (tlt (by decide : (9 : Int32) < (19 : Int32))).2.1 k) ?_
                    show own_Fin p e below s _ _ _ T35 (mkF m 14 #[.val (.int p1), .val (.ref b7), .val (.int (19 : Int32)), .val (.int (9 : Int32)), .val (.ref t8)] [])
                    refine own_by (fun _ k => XS.aloadN X35.here hx rfl (hb hby d1_14) rfl rfl (XS.iloadN X35.here hx rfl (hb hby d1_15) rfl k)) ?_
                    show own_Fin p e below s _ _ _ T35 (mkF m 16 #[.val (.int p1), .val (.ref b7), .val (.int (19 : Int32)), .val (.int (9 : Int32)), .val (.ref t8)] [(.int (9 : Int32)), (.ref b7)])
                    obtain ⟨cl37, Ar37, -, S37, M37, H37, -⟩ := id V7
                    have hin37 : ¬ ((9 : Int32) < 0 ∨ cl37.slots.size ≤ ((9 : Int32)).toNatClampNeg) := inb_of S37 ⟨by decide, by decide⟩
                    have hat37 : cl37.slots[((9 : Int32)).toNatClampNeg]? = some (.ref t9) := Has.at H37 hin37 rfl
                    refine own_by (fun _ k => X35.aaload hx (j := (9 : Int32)) (v := (.ref t9)) (by rw [e35]; exact Ar37.1) (State.isArrayOf_alike hZ.alike Ar37.2.1) rfl Ar37.2.2 hin37 hat37 (g := (mkF m 16 #[.val (.int p1), .val (.ref b7), .val (.int (19 : Int32)), .val (.int (9 : Int32)), .val (.ref t8)] [(.int (9 : Int32)), (.ref b7)])) rfl rfl (hb hby d1_16) _ k) ?_
                    show own_Fin p e below s _ _ _ T35 (mkF m 17 #[.val (.int p1), .val (.ref b7), .val (.int (19 : Int32)), .val (.int (9 : Int32)), .val (.ref t8)] [(.ref t9)])
                    refine own_by (fun _ k => XS.astore X35.here hx rfl (hb hby d1_17) rfl rfl (l' := #[.val (.int p1), .val (.ref b7), .val (.int (19 : Int32)), .val (.int (9 : Int32)), .val (.ref t9)]) rfl (XS.aload X35.here hx rfl (hb hby d1_19) rfl rfl k)) ?_
                    show own_Fin p e below s _ _ _ T35 (mkF m 21 #[.val (.int p1), .val (.ref b7), .val (.int (19 : Int32)), .val (.int (9 : Int32)), .val (.ref t9)] [(.ref t9)])
                    obtain ⟨T38, X38, e38, st38⟩ := getF X35 hx hZ hown (host := "") (Or.inl (hw _ (List.mem_of_getElem? (i := 38) rfl))) Via.refl e35 (Y9.2.ext Eo7) (g := (mkF m 21 #[.val (.int p1), .val (.ref b7), .val (.int (19 : Int32)), .val (.int (9 : Int32)), .val (.ref t9)] [(.ref t9)])) rfl rfl (hb hby d1_21)
                    refine own_by (fun _ k => st38 _ k) ?_
                    show own_Fin p e below s _ _ _ T38 (mkF m 24 #[.val (.int p1), .val (.ref b7), .val (.int (19 : Int32)), .val (.int (9 : Int32)), .val (.ref t9)] [(.int (10 : Int32))])
                    refine own_by (fun _ k => XS.iloadN X38.here hx rfl (hb hby d1_24) rfl k) ?_
                    show own_Fin p e below s _ _ _ T38 (mkF m 25 #[.val (.int p1), .val (.ref b7), .val (.int (19 : Int32)), .val (.int (9 : Int32)), .val (.ref t9)] [(.int p1), (.int (10 : Int32))])
                    by_cases hc25_39 : (10 : Int32) = p1
                    · show own_Fin p e below s _ _ _ T38 (mkF m 25 #[.val (.int p1), .val (.ref b7), .val (.int (19 : Int32)), .val (.int (9 : Int32)), .val (.ref t9)] [(.int p1), (.int (10 : Int32))])
                      refine own_by (fun _ k => XS.icmpNo X38.here hx rfl (hb hby d1_25) rfl (teq hc25_39).2 k) ?_
                      show own_Fin p e below s _ _ _ T38 (mkF m 28 #[.val (.int p1), .val (.ref b7), .val (.int (19 : Int32)), .val (.int (9 : Int32)), .val (.ref t9)] [])
                      refine own_by (fun _ k => XS.aload X38.here hx rfl (hb hby d1_28) rfl rfl k) ?_
                      show own_Fin p e below s _ _ _ T38 (mkF m 30 #[.val (.int p1), .val (.ref b7), .val (.int (19 : Int32)), .val (.int (9 : Int32)), .val (.ref t9)] [(.ref t9)])
                      exact own_retA X38 hx hlk (t := (.object "com/example/mosub/mosub/model/OverlayMessage$Type")) hret rfl rfl rfl (hb hby d1_30) (by rw [e38]; exact ⟨_, rfl, N7, Kp7, Or.inr ⟨_, rfl, hc25_39 ▸ Y9, hc25_39 ▸ (by refine ⟨?_, ?_, ?_⟩ <;> decide : own_ok (10 : Int32))⟩⟩) (by decide) (by decide)
                    · show own_Fin p e below s _ _ _ T38 (mkF m 25 #[.val (.int p1), .val (.ref b7), .val (.int (19 : Int32)), .val (.int (9 : Int32)), .val (.ref t9)] [(.int p1), (.int (10 : Int32))])
                      refine own_by (fun _ k => XS.icmpYes X38.here hx rfl (pc0 := 25) (pc' := 31) rfl (hb hby d1_25) rfl (feq hc25_39).2 (by decide) (by decide) k) ?_
                      show own_Fin p e below s _ _ _ T38 (mkF m 31 #[.val (.int p1), .val (.ref b7), .val (.int (19 : Int32)), .val (.int (9 : Int32)), .val (.ref t9)] [])
                      refine own_by (fun _ k => XS.iinc X38.here hx rfl (hb hby d1_31) rfl (l' := #[.val (.int p1), .val (.ref b7), .val (.int (19 : Int32)), .val (.int ((9 : Int32) + (1 : Int32))), .val (.ref t9)]) rfl k) ?_
                      show own_Fin p e below s _ _ _ T38 (mkF m 34 #[.val (.int p1), .val (.ref b7), .val (.int (19 : Int32)), .val (.int ((9 : Int32) + (1 : Int32))), .val (.ref t9)] [])
                      rw [(by decide : ((9 : Int32) + (1 : Int32)) = (10 : Int32))]
                      show own_Fin p e below s _ _ _ T38 (mkF m 34 #[.val (.int p1), .val (.ref b7), .val (.int (19 : Int32)), .val (.int (10 : Int32)), .val (.ref t9)] [])
                      refine own_by (fun _ k => XS.goto X38.here hx rfl (pc0 := 34) (pc' := 9) rfl (hb hby d1_34) (by decide) (by decide) (XS.iloadN X38.here hx rfl (hb hby d1_9) rfl (XS.iloadN X38.here hx rfl (hb hby d1_10) rfl k))) ?_
                      show own_Fin p e below s _ _ _ T38 (mkF m 11 #[.val (.int p1), .val (.ref b7), .val (.int (19 : Int32)), .val (.int (10 : Int32)), .val (.ref t9)] [(.int (19 : Int32)), (.int (10 : Int32))])
                      refine own_by (fun _ k => XS.icmpNo X38.here hx rfl (hb hby d1_11) rfl (tlt (by decide : (10 : Int32) < (19 : Int32))).2.1 k) ?_
                      show own_Fin p e below s _ _ _ T38 (mkF m 14 #[.val (.int p1), .val (.ref b7), .val (.int (19 : Int32)), .val (.int (10 : Int32)), .val (.ref t9)] [])
                      refine own_by (fun _ k => XS.aloadN X38.here hx rfl (hb hby d1_14) rfl rfl (XS.iloadN X38.here hx rfl (hb hby d1_15) rfl k)) ?_
                      show own_Fin p e below s _ _ _ T38 (mkF m 16 #[.val (.int p1), .val (.ref b7), .val (.int (19 : Int32)), .val (.int (10 : Int32)), .val (.ref t9)] [(.int (10 : Int32)), (.ref b7)])
                      obtain ⟨cl40, Ar40, -, S40, M40, H40, -⟩ := id V7
                      have hin40 : ¬ ((10 : Int32) < 0 ∨ cl40.slots.size ≤ ((10 : Int32)).toNatClampNeg) := inb_of S40 ⟨by decide, by decide⟩
                      have hat40 : cl40.slots[((10 : Int32)).toNatClampNeg]? = some (.ref t10) := Has.at H40 hin40 rfl
                      refine own_by (fun _ k => X38.aaload hx (j := (10 : Int32)) (v := (.ref t10)) (by rw [e38]; exact Ar40.1) (State.isArrayOf_alike hZ.alike Ar40.2.1) rfl Ar40.2.2 hin40 hat40 (g := (mkF m 16 #[.val (.int p1), .val (.ref b7), .val (.int (19 : Int32)), .val (.int (10 : Int32)), .val (.ref t9)] [(.int (10 : Int32)), (.ref b7)])) rfl rfl (hb hby d1_16) _ k) ?_
                      show own_Fin p e below s _ _ _ T38 (mkF m 17 #[.val (.int p1), .val (.ref b7), .val (.int (19 : Int32)), .val (.int (10 : Int32)), .val (.ref t9)] [(.ref t10)])
                      refine own_by (fun _ k => XS.astore X38.here hx rfl (hb hby d1_17) rfl rfl (l' := #[.val (.int p1), .val (.ref b7), .val (.int (19 : Int32)), .val (.int (10 : Int32)), .val (.ref t10)]) rfl (XS.aload X38.here hx rfl (hb hby d1_19) rfl rfl k)) ?_
                      show own_Fin p e below s _ _ _ T38 (mkF m 21 #[.val (.int p1), .val (.ref b7), .val (.int (19 : Int32)), .val (.int (10 : Int32)), .val (.ref t10)] [(.ref t10)])
                      obtain ⟨T41, X41, e41, st41⟩ := getF X38 hx hZ hown (host := "") (Or.inl (hw _ (List.mem_of_getElem? (i := 38) rfl))) Via.refl e38 (Y10.2.ext Eo7) (g := (mkF m 21 #[.val (.int p1), .val (.ref b7), .val (.int (19 : Int32)), .val (.int (10 : Int32)), .val (.ref t10)] [(.ref t10)])) rfl rfl (hb hby d1_21)
                      refine own_by (fun _ k => st41 _ k) ?_
                      show own_Fin p e below s _ _ _ T41 (mkF m 24 #[.val (.int p1), .val (.ref b7), .val (.int (19 : Int32)), .val (.int (10 : Int32)), .val (.ref t10)] [(.int (11 : Int32))])
                      refine own_by (fun _ k => XS.iloadN X41.here hx rfl (hb hby d1_24) rfl k) ?_
                      show own_Fin p e below s _ _ _ T41 (mkF m 25 #[.val (.int p1), .val (.ref b7), .val (.int (19 : Int32)), .val (.int (10 : Int32)), .val (.ref t10)] [(.int p1), (.int (11 : Int32))])
                      by_cases hc25_42 : (11 : Int32) = p1
                      · show own_Fin p e below s _ _ _ T41 (mkF m 25 #[.val (.int p1), .val (.ref b7), .val (.int (19 : Int32)), .val (.int (10 : Int32)), .val (.ref t10)] [(.int p1), (.int (11 : Int32))])
                        refine own_by (fun _ k => XS.icmpNo X41.here hx rfl (hb hby d1_25) rfl (teq hc25_42).2 k) ?_
                        show own_Fin p e below s _ _ _ T41 (mkF m 28 #[.val (.int p1), .val (.ref b7), .val (.int (19 : Int32)), .val (.int (10 : Int32)), .val (.ref t10)] [])
                        refine own_by (fun _ k => XS.aload X41.here hx rfl (hb hby d1_28) rfl rfl k) ?_
                        show own_Fin p e below s _ _ _ T41 (mkF m 30 #[.val (.int p1), .val (.ref b7), .val (.int (19 : Int32)), .val (.int (10 : Int32)), .val (.ref t10)] [(.ref t10)])
                        exact own_retA X41 hx hlk (t := (.object "com/example/mosub/mosub/model/OverlayMessage$Type")) hret rfl rfl rfl (hb hby d1_30) (by rw [e41]; exact ⟨_, rfl, N7, Kp7, Or.inr ⟨_, rfl, hc25_42 ▸ Y10, hc25_42 ▸ (by refine ⟨?_, ?_, ?_⟩ <;> decide : own_ok (11 : Int32))⟩⟩) (by decide) (by decide)
                      · show own_Fin p e below s _ _ _ T41 (mkF m 25 #[.val (.int p1), .val (.ref b7), .val (.int (19 : Int32)), .val (.int (10 : Int32)), .val (.ref t10)] [(.int p1), (.int (11 : Int32))])
                        refine own_by (fun _ k => XS.icmpYes X41.here hx rfl (pc0 := 25) (pc' := 31) rfl (hb hby d1_25) rfl (feq hc25_42).2 (by decide) (by decide) k) ?_
                        show own_Fin p e below s _ _ _ T41 (mkF m 31 #[.val (.int p1), .val (.ref b7), .val (.int (19 : Int32)), .val (.int (10 : Int32)), .val (.ref t10)] [])
                        refine own_by (fun _ k => XS.iinc X41.here hx rfl (hb hby d1_31) rfl (l' := #[.val (.int p1), .val (.ref b7), .val (.int (19 : Int32)), .val (.int ((10 : Int32) + (1 : Int32))), .val (.ref t10)]) rfl k) ?_
                        show own_Fin p e below s _ _ _ T41 (mkF m 34 #[.val (.int p1), .val (.ref b7), .val (.int (19 : Int32)), .val (.int ((10 : Int32) + (1 : Int32))), .val (.ref t10)] [])
                        rw [(by decide : ((10 : Int32) + (1 : Int32)) = (11 : Int32))]
                        show own_Fin p e below s _ _ _ T41 (mkF m 34 #[.val (.int p1), .val (.ref b7), .val (.int (19 : Int32)), .val (.int (11 : Int32)), .val (.ref t10)] [])
                        refine own_by (fun _ k => XS.goto X41.here hx rfl (pc0 := 34) (pc' := 9) rfl (hb hby d1_34) (by decide) (by decide) (XS.iloadN X41.here hx rfl (hb hby d1_9) rfl (XS.iloadN X41.here hx rfl (hb hby d1_10) rfl k))) ?_
                        show own_Fin p e below s _ _ _ T41 (mkF m 11 #[.val (.int p1), .val (.ref b7), .val (.int (19 : Int32)), .val (.int (11 : Int32)), .val (.ref t10)] [(.int (19 : Int32)), (.int (11 : Int32))])
                        refine own_by (fun _ k => XS.icmpNo X41.here hx rfl (hb hby d1_11) rfl (tlt (by decide : (11 : Int32) < (19 : Int32))).2.1 k) ?_
                        show own_Fin p e below s _ _ _ T41 (mkF m 14 #[.val (.int p1), .val (.ref b7), .val (.int (19 : Int32)), .val (.int (11 : Int32)), .val (.ref t10)] [])
                        refine own_by (fun _ k => XS.aloadN X41.here hx rfl (hb hby d1_14) rfl rfl (XS.iloadN X41.here hx rfl (hb hby d1_15) rfl k)) ?_
                        show own_Fin p e below s _ _ _ T41 (mkF m 16 #[.val (.int p1), .val (.ref b7), .val (.int (19 : Int32)), .val (.int (11 : Int32)), .val (.ref t10)] [(.int (11 : Int32)), (.ref b7)])
                        obtain ⟨cl43, Ar43, -, S43, M43, H43, -⟩ := id V7
                        have hin43 : ¬ ((11 : Int32) < 0 ∨ cl43.slots.size ≤ ((11 : Int32)).toNatClampNeg) := inb_of S43 ⟨by decide, by decide⟩
                        have hat43 : cl43.slots[((11 : Int32)).toNatClampNeg]? = some (.ref t11) := Has.at H43 hin43 rfl
                        refine own_by (fun _ k => X41.aaload hx (j := (11 : Int32)) (v := (.ref t11)) (by rw [e41]; exact Ar43.1) (State.isArrayOf_alike hZ.alike Ar43.2.1) rfl Ar43.2.2 hin43 hat43 (g := (mkF m 16 #[.val (.int p1), .val (.ref b7), .val (.int (19 : Int32)), .val (.int (11 : Int32)), .val (.ref t10)] [(.int (11 : Int32)), (.ref b7)])) rfl rfl (hb hby d1_16) _ k) ?_
                        show own_Fin p e below s _ _ _ T41 (mkF m 17 #[.val (.int p1), .val (.ref b7), .val (.int (19 : Int32)), .val (.int (11 : Int32)), .val (.ref t10)] [(.ref t11)])
                        refine own_by (fun _ k => XS.astore X41.here hx rfl (hb hby d1_17) rfl rfl (l' := #[.val (.int p1), .val (.ref b7), .val (.int (19 : Int32)), .val (.int (11 : Int32)), .val (.ref t11)]) rfl (XS.aload X41.here hx rfl (hb hby d1_19) rfl rfl k)) ?_
                        show own_Fin p e below s _ _ _ T41 (mkF m 21 #[.val (.int p1), .val (.ref b7), .val (.int (19 : Int32)), .val (.int (11 : Int32)), .val (.ref t11)] [(.ref t11)])
                        obtain ⟨T44, X44, e44, st44⟩ := getF X41 hx hZ hown (host := "") (Or.inl (hw _ (List.mem_of_getElem? (i := 38) rfl))) Via.refl e41 (Y11.2.ext Eo7) (g := (mkF m 21 #[.val (.int p1), .val (.ref b7), .val (.int (19 : Int32)), .val (.int (11 : Int32)), .val (.ref t11)] [(.ref t11)])) rfl rfl (hb hby d1_21)
                        refine own_by (fun _ k => st44 _ k) ?_
                        show own_Fin p e below s _ _ _ T44 (mkF m 24 #[.val (.int p1), .val (.ref b7), .val (.int (19 : Int32)), .val (.int (11 : Int32)), .val (.ref t11)] [(.int (12 : Int32))])
                        refine own_by (fun _ k => XS.iloadN X44.here hx rfl (hb hby d1_24) rfl k) ?_
                        show own_Fin p e below s _ _ _ T44 (mkF m 25 #[.val (.int p1), .val (.ref b7), .val (.int (19 : Int32)), .val (.int (11 : Int32)), .val (.ref t11)] [(.int p1), (.int (12 : Int32))])
                        by_cases hc25_45 : (12 : Int32) = p1
                        · show own_Fin p e below s _ _ _ T44 (mkF m 25 #[.val (.int p1), .val (.ref b7), .val (.int (19 : Int32)), .val (.int (11 : Int32)), .val (.ref t11)] [(.int p1), (.int (12 : Int32))])
                          refine own_by (fun _ k => XS.icmpNo X44.here hx rfl (hb hby d1_25) rfl (teq hc25_45).2 k) ?_
                          show own_Fin p e below s _ _ _ T44 (mkF m 28 #[.val (.int p1), .val (.ref b7), .val (.int (19 : Int32)), .val (.int (11 : Int32)), .val (.ref t11)] [])
                          refine own_by (fun _ k => XS.aload X44.here hx rfl (hb hby d1_28) rfl rfl k) ?_
                          show own_Fin p e below s _ _ _ T44 (mkF m 30 #[.val (.int p1), .val (.ref b7), .val (.int (19 : Int32)), .val (.int (11 : Int32)), .val (.ref t11)] [(.ref t11)])
                          exact own_retA X44 hx hlk (t := (.object "com/example/mosub/mosub/model/OverlayMessage$Type")) hret rfl rfl rfl (hb hby d1_30) (by rw [e44]; exact ⟨_, rfl, N7, Kp7, Or.inr ⟨_, rfl, hc25_45 ▸ Y11, hc25_45 ▸ (by refine ⟨?_, ?_, ?_⟩ <;> decide : own_ok (12 : Int32))⟩⟩) (by decide) (by decide)
                        · show own_Fin p e below s _ _ _ T44 (mkF m 25 #[.val (.int p1), .val (.ref b7), .val (.int (19 : Int32)), .val (.int (11 : Int32)), .val (.ref t11)] [(.int p1), (.int (12 : Int32))])
                          refine own_by (fun _ k => XS.icmpYes X44.here hx rfl (pc0 := 25) (pc' := 31) rfl (hb hby d1_25) rfl (feq hc25_45).2 (by decide) (by decide) k) ?_
                          show own_Fin p e below s _ _ _ T44 (mkF m 31 #[.val (.int p1), .val (.ref b7), .val (.int (19 : Int32)), .val (.int (11 : Int32)), .val (.ref t11)] [])
                          refine own_by (fun _ k => XS.iinc X44.here hx rfl (hb hby d1_31) rfl (l' := #[.val (.int p1), .val (.ref b7), .val (.int (19 : Int32)), .val (.int ((11 : Int32) + (1 : Int32))), .val (.ref t11)]) rfl k) ?_
                          show own_Fin p e below s _ _ _ T44 (mkF m 34 #[.val (.int p1), .val (.ref b7), .val (.int (19 : Int32)), .val (.int ((11 : Int32) + (1 : Int32))), .val (.ref t11)] [])
                          rw [(by decide : ((11 : Int32) + (1 : Int32)) = (12 : Int32))]
                          show own_Fin p e below s _ _ _ T44 (mkF m 34 #[.val (.int p1), .val (.ref b7), .val (.int (19 : Int32)), .val (.int (12 : Int32)), .val (.ref t11)] [])
                          refine own_by (fun _ k => XS.goto X44.here hx rfl (pc0 := 34) (pc' := 9) rfl (hb hby d1_34) (by decide) (by decide) (XS.iloadN X44.here hx rfl (hb hby d1_9) rfl (XS.iloadN X44.here hx rfl (hb hby d1_10) rfl k))) ?_
                          show own_Fin p e below s _ _ _ T44 (mkF m 11 #[.val (.int p1), .val (.ref b7), .val (.int (19 : Int32)), .val (.int (12 : Int32)), .val (.ref t11)] [(.int (19 : Int32)), (.int (12 : Int32))])
                          refine own_by (fun _ k => XS.icmpNo X44.here hx rfl (hb hby d1_11) rfl (tlt (by decide : (12 : Int32) < (19 : Int32))).2.1 k) ?_
                          show own_Fin p e below s _ _ _ T44 (mkF m 14 #[.val (.int p1), .val (.ref b7), .val (.int (19 : Int32)), .val (.int (12 : Int32)), .val (.ref t11)] [])
                          refine own_by (fun _ k => XS.aloadN X44.here hx rfl (hb hby d1_14) rfl rfl (XS.iloadN X44.here hx rfl (hb hby d1_15) rfl k)) ?_
                          show own_Fin p e below s _ _ _ T44 (mkF m 16 #[.val (.int p1), .val (.ref b7), .val (.int (19 : Int32)), .val (.int (12 : Int32)), .val (.ref t11)] [(.int (12 : Int32)), (.ref b7)])
                          obtain ⟨cl46, Ar46, -, S46, M46, H46, -⟩ := id V7
                          have hin46 : ¬ ((12 : Int32) < 0 ∨ cl46.slots.size ≤ ((12 : Int32)).toNatClampNeg) := inb_of S46 ⟨by decide, by decide⟩
                          have hat46 : cl46.slots[((12 : Int32)).toNatClampNeg]? = some (.ref t12) := Has.at H46 hin46 rfl
                          refine own_by (fun _ k => X44.aaload hx (j := (12 : Int32)) (v := (.ref t12)) (by rw [e44]; exact Ar46.1) (State.isArrayOf_alike hZ.alike Ar46.2.1) rfl Ar46.2.2 hin46 hat46 (g := (mkF m 16 #[.val (.int p1), .val (.ref b7), .val (.int (19 : Int32)), .val (.int (12 : Int32)), .val (.ref t11)] [(.int (12 : Int32)), (.ref b7)])) rfl rfl (hb hby d1_16) _ k) ?_
                          show own_Fin p e below s _ _ _ T44 (mkF m 17 #[.val (.int p1), .val (.ref b7), .val (.int (19 : Int32)), .val (.int (12 : Int32)), .val (.ref t11)] [(.ref t12)])
                          refine own_by (fun _ k => XS.astore X44.here hx rfl (hb hby d1_17) rfl rfl (l' := #[.val (.int p1), .val (.ref b7), .val (.int (19 : Int32)), .val (.int (12 : Int32)), .val (.ref t12)]) rfl (XS.aload X44.here hx rfl (hb hby d1_19) rfl rfl k)) ?_
                          show own_Fin p e below s _ _ _ T44 (mkF m 21 #[.val (.int p1), .val (.ref b7), .val (.int (19 : Int32)), .val (.int (12 : Int32)), .val (.ref t12)] [(.ref t12)])
                          obtain ⟨T47, X47, e47, st47⟩ := getF X44 hx hZ hown (host := "") (Or.inl (hw _ (List.mem_of_getElem? (i := 38) rfl))) Via.refl e44 (Y12.2.ext Eo7) (g := (mkF m 21 #[.val (.int p1), .val (.ref b7), .val (.int (19 : Int32)), .val (.int (12 : Int32)), .val (.ref t12)] [(.ref t12)])) rfl rfl (hb hby d1_21)
                          refine own_by (fun _ k => st47 _ k) ?_
                          show own_Fin p e below s _ _ _ T47 (mkF m 24 #[.val (.int p1), .val (.ref b7), .val (.int (19 : Int32)), .val (.int (12 : Int32)), .val (.ref t12)] [(.int (14 : Int32))])
                          refine own_by (fun _ k => XS.iloadN X47.here hx rfl (hb hby d1_24) rfl k) ?_
                          show own_Fin p e below s _ _ _ T47 (mkF m 25 #[.val (.int p1), .val (.ref b7), .val (.int (19 : Int32)), .val (.int (12 : Int32)), .val (.ref t12)] [(.int p1), (.int (14 : Int32))])
                          by_cases hc25_48 : (14 : Int32) = p1
                          · show own_Fin p e below s _ _ _ T47 (mkF m 25 #[.val (.int p1), .val (.ref b7), .val (.int (19 : Int32)), .val (.int (12 : Int32)), .val (.ref t12)] [(.int p1), (.int (14 : Int32))])
                            refine own_by (fun _ k => XS.icmpNo X47.here hx rfl (hb hby d1_25) rfl (teq hc25_48).2 k) ?_
                            show own_Fin p e below s _ _ _ T47 (mkF m 28 #[.val (.int p1), .val (.ref b7), .val (.int (19 : Int32)), .val (.int (12 : Int32)), .val (.ref t12)] [])
                            refine own_by (fun _ k => XS.aload X47.here hx rfl (hb hby d1_28) rfl rfl k) ?_
                            show own_Fin p e below s _ _ _ T47 (mkF m 30 #[.val (.int p1), .val (.ref b7), .val (.int (19 : Int32)), .val (.int (12 : Int32)), .val (.ref t12)] [(.ref t12)])
                            exact own_retA X47 hx hlk (t := (.object "com/example/mosub/mosub/model/OverlayMessage$Type")) hret rfl rfl rfl (hb hby d1_30) (by rw [e47]; exact ⟨_, rfl, N7, Kp7, Or.inr ⟨_, rfl, hc25_48 ▸ Y12, hc25_48 ▸ (by refine ⟨?_, ?_, ?_⟩ <;> decide : own_ok (14 : Int32))⟩⟩) (by decide) (by decide)
                          · show own_Fin p e below s _ _ _ T47 (mkF m 25 #[.val (.int p1), .val (.ref b7), .val (.int (19 : Int32)), .val (.int (12 : Int32)), .val (.ref t12)] [(.int p1), (.int (14 : Int32))])
                            refine own_by (fun _ k => XS.icmpYes X47.here hx rfl (pc0 := 25) (pc' := 31) rfl (hb hby d1_25) rfl (feq hc25_48).2 (by decide) (by decide) k) ?_
                            show own_Fin p e below s _ _ _ T47 (mkF m 31 #[.val (.int p1), .val (.ref b7), .val (.int (19 : Int32)), .val (.int (12 : Int32)), .val (.ref t12)] [])
                            refine own_by (fun _ k => XS.iinc X47.here hx rfl (hb hby d1_31) rfl (l' := #[.val (.int p1), .val (.ref b7), .val (.int (19 : Int32)), .val (.int ((12 : Int32) + (1 : Int32))), .val (.ref t12)]) rfl k) ?_
                            show own_Fin p e below s _ _ _ T47 (mkF m 34 #[.val (.int p1), .val (.ref b7), .val (.int (19 : Int32)), .val (.int ((12 : Int32) + (1 : Int32))), .val (.ref t12)] [])
                            rw [(by decide : ((12 : Int32) + (1 : Int32)) = (13 : Int32))]
                            show own_Fin p e below s _ _ _ T47 (mkF m 34 #[.val (.int p1), .val (.ref b7), .val (.int (19 : Int32)), .val (.int (13 : Int32)), .val (.ref t12)] [])
                            refine own_by (fun _ k => XS.goto X47.here hx rfl (pc0 := 34) (pc' := 9) rfl (hb hby d1_34) (by decide) (by decide) (XS.iloadN X47.here hx rfl (hb hby d1_9) rfl (XS.iloadN X47.here hx rfl (hb hby d1_10) rfl k))) ?_
                            show own_Fin p e below s _ _ _ T47 (mkF m 11 #[.val (.int p1), .val (.ref b7), .val (.int (19 : Int32)), .val (.int (13 : Int32)), .val (.ref t12)] [(.int (19 : Int32)), (.int (13 : Int32))])
                            refine own_by (fun _ k => XS.icmpNo X47.here hx rfl (hb hby d1_11) rfl (tlt (by decide : (13 : Int32) < (19 : Int32))).2.1 k) ?_
                            show own_Fin p e below s _ _ _ T47 (mkF m 14 #[.val (.int p1), .val (.ref b7), .val (.int (19 : Int32)), .val (.int (13 : Int32)), .val (.ref t12)] [])
                            refine own_by (fun _ k => XS.aloadN X47.here hx rfl (hb hby d1_14) rfl rfl (XS.iloadN X47.here hx rfl (hb hby d1_15) rfl k)) ?_
                            show own_Fin p e below s _ _ _ T47 (mkF m 16 #[.val (.int p1), .val (.ref b7), .val (.int (19 : Int32)), .val (.int (13 : Int32)), .val (.ref t12)] [(.int (13 : Int32)), (.ref b7)])
                            obtain ⟨cl49, Ar49, -, S49, M49, H49, -⟩ := id V7
                            have hin49 : ¬ ((13 : Int32) < 0 ∨ cl49.slots.size ≤ ((13 : Int32)).toNatClampNeg) := inb_of S49 ⟨by decide, by decide⟩
                            have hat49 : cl49.slots[((13 : Int32)).toNatClampNeg]? = some (.ref t13) := Has.at H49 hin49 rfl
                            refine own_by (fun _ k => X47.aaload hx (j := (13 : Int32)) (v := (.ref t13)) (by rw [e47]; exact Ar49.1) (State.isArrayOf_alike hZ.alike Ar49.2.1) rfl Ar49.2.2 hin49 hat49 (g := (mkF m 16 #[.val (.int p1), .val (.ref b7), .val (.int (19 : Int32)), .val (.int (13 : Int32)), .val (.ref t12)] [(.int (13 : Int32)), (.ref b7)])) rfl rfl (hb hby d1_16) _ k) ?_
                            show own_Fin p e below s _ _ _ T47 (mkF m 17 #[.val (.int p1), .val (.ref b7), .val (.int (19 : Int32)), .val (.int (13 : Int32)), .val (.ref t12)] [(.ref t13)])
                            refine own_by (fun _ k => XS.astore X47.here hx rfl (hb hby d1_17) rfl rfl (l' := #[.val (.int p1), .val (.ref b7), .val (.int (19 : Int32)), .val (.int (13 : Int32)), .val (.ref t13)]) rfl (XS.aload X47.here hx rfl (hb hby d1_19) rfl rfl k)) ?_
                            show own_Fin p e below s _ _ _ T47 (mkF m 21 #[.val (.int p1), .val (.ref b7), .val (.int (19 : Int32)), .val (.int (13 : Int32)), .val (.ref t13)] [(.ref t13)])
                            obtain ⟨T50, X50, e50, st50⟩ := getF X47 hx hZ hown (host := "") (Or.inl (hw _ (List.mem_of_getElem? (i := 38) rfl))) Via.refl e47 (Y13.2.ext Eo7) (g := (mkF m 21 #[.val (.int p1), .val (.ref b7), .val (.int (19 : Int32)), .val (.int (13 : Int32)), .val (.ref t13)] [(.ref t13)])) rfl rfl (hb hby d1_21)
                            refine own_by (fun _ k => st50 _ k) ?_
                            show own_Fin p e below s _ _ _ T50 (mkF m 24 #[.val (.int p1), .val (.ref b7), .val (.int (19 : Int32)), .val (.int (13 : Int32)), .val (.ref t13)] [(.int (15 : Int32))])
                            refine own_by (fun _ k => XS.iloadN X50.here hx rfl (hb hby d1_24) rfl k) ?_
                            show own_Fin p e below s _ _ _ T50 (mkF m 25 #[.val (.int p1), .val (.ref b7), .val (.int (19 : Int32)), .val (.int (13 : Int32)), .val (.ref t13)] [(.int p1), (.int (15 : Int32))])
                            by_cases hc25_51 : (15 : Int32) = p1
                            · show own_Fin p e below s _ _ _ T50 (mkF m 25 #[.val (.int p1), .val (.ref b7), .val (.int (19 : Int32)), .val (.int (13 : Int32)), .val (.ref t13)] [(.int p1), (.int (15 : Int32))])
                              refine own_by (fun _ k => XS.icmpNo X50.here hx rfl (hb hby d1_25) rfl (teq hc25_51).2 k) ?_
                              show own_Fin p e below s _ _ _ T50 (mkF m 28 #[.val (.int p1), .val (.ref b7), .val (.int (19 : Int32)), .val (.int (13 : Int32)), .val (.ref t13)] [])
                              refine own_by (fun _ k => XS.aload X50.here hx rfl (hb hby d1_28) rfl rfl k) ?_
                              show own_Fin p e below s _ _ _ T50 (mkF m 30 #[.val (.int p1), .val (.ref b7), .val (.int (19 : Int32)), .val (.int (13 : Int32)), .val (.ref t13)] [(.ref t13)])
                              exact own_retA X50 hx hlk (t := (.object "com/example/mosub/mosub/model/OverlayMessage$Type")) hret rfl rfl rfl (hb hby d1_30) (by rw [e50]; exact ⟨_, rfl, N7, Kp7, Or.inr ⟨_, rfl, hc25_51 ▸ Y13, hc25_51 ▸ (by refine ⟨?_, ?_, ?_⟩ <;> decide : own_ok (15 : Int32))⟩⟩) (by decide) (by decide)
                            · show own_Fin p e below s _ _ _ T50 (mkF m 25 #[.val (.int p1), .val (.ref b7), .val (.int (19 : Int32)), .val (.int (13 : Int32)), .val (.ref t13)] [(.int p1), (.int (15 : Int32))])
                              refine own_by (fun _ k => XS.icmpYes X50.here hx rfl (pc0 := 25) (pc' := 31) rfl (hb hby d1_25) rfl (feq hc25_51).2 (by decide) (by decide) k) ?_
                              show own_Fin p e below s _ _ _ T50 (mkF m 31 #[.val (.int p1), .val (.ref b7), .val (.int (19 : Int32)), .val (.int (13 : Int32)), .val (.ref t13)] [])
                              refine own_by (fun _ k => XS.iinc X50.here hx rfl (hb hby d1_31) rfl (l' := #[.val (.int p1), .val (.ref b7), .val (.int (19 : Int32)), .val (.int ((13 : Int32) + (1 : Int32))), .val (.ref t13)]) rfl k) ?_
                              show own_Fin p e below s _ _ _ T50 (mkF m 34 #[.val (.int p1), .val (.ref b7), .val (.int (19 : Int32)), .val (.int ((13 : Int32) + (1 : Int32))), .val (.ref t13)] [])
                              rw [(by decide : ((13 : Int32) + (1 : Int32)) = (14 : Int32))]
                              show own_Fin p e below s _ _ _ T50 (mkF m 34 #[.val (.int p1), .val (.ref b7), .val (.int (19 : Int32)), .val (.int (14 : Int32)), .val (.ref t13)] [])
                              refine own_by (fun _ k => XS.goto X50.here hx rfl (pc0 := 34) (pc' := 9) rfl (hb hby d1_34) (by decide) (by decide) (XS.iloadN X50.here hx rfl (hb hby d1_9) rfl (XS.iloadN X50.here hx rfl (hb hby d1_10) rfl k))) ?_
                              show own_Fin p e below s _ _ _ T50 (mkF m 11 #[.val (.int p1), .val (.ref b7), .val (.int (19 : Int32)), .val (.int (14 : Int32)), .val (.ref t13)] [(.int (19 : Int32)), (.int (14 : Int32))])
                              refine own_by (fun _ k => XS.icmpNo X50.here hx rfl (hb hby d1_11) rfl (tlt (by decide : (14 : Int32) < (19 : Int32))).2.1 k) ?_
                              show own_Fin p e below s _ _ _ T50 (mkF m 14 #[.val (.int p1), .val (.ref b7), .val (.int (19 : Int32)), .val (.int (14 : Int32)), .val (.ref t13)] [])
                              refine own_by (fun _ k => XS.aloadN X50.here hx rfl (hb hby d1_14) rfl rfl (XS.iloadN X50.here hx rfl (hb hby d1_15) rfl k)) ?_
                              show own_Fin p e below s _ _ _ T50 (mkF m 16 #[.val (.int p1), .val (.ref b7), .val (.int (19 : Int32)), .val (.int (14 : Int32)), .val (.ref t13)] [(.int (14 : Int32)), (.ref b7)])
                              obtain ⟨cl52, Ar52, -, S52, M52, H52, -⟩ := id V7
                              have hin52 : ¬ ((14 : Int32) < 0 ∨ cl52.slots.size ≤ ((14 : Int32)).toNatClampNeg) := inb_of S52 ⟨by decide, by decide⟩
                              have hat52 : cl52.slots[((14 : Int32)).toNatClampNeg]? = some (.ref t14) := Has.at H52 hin52 rfl
                              refine own_by (fun _ k => X50.aaload hx (j := (14 : Int32)) (v := (.ref t14)) (by rw [e50]; exact Ar52.1) (State.isArrayOf_alike hZ.alike Ar52.2.1) rfl Ar52.2.2 hin52 hat52 (g := (mkF m 16 #[.val (.int p1), .val (.ref b7), .val (.int (19 : Int32)), .val (.int (14 : Int32)), .val (.ref t13)] [(.int (14 : Int32)), (.ref b7)])) rfl rfl (hb hby d1_16) _ k) ?_
                              show own_Fin p e below s _ _ _ T50 (mkF m 17 #[.val (.int p1), .val (.ref b7), .val (.int (19 : Int32)), .val (.int (14 : Int32)), .val (.ref t13)] [(.ref t14)])
                              refine own_by (fun _ k => XS.astore X50.here hx rfl (hb hby d1_17) rfl rfl (l' := #[.val (.int p1), .val (.ref b7), .val (.int (19 : Int32)), .val (.int (14 : Int32)), .val (.ref t14)]) rfl (XS.aload X50.here hx rfl (hb hby d1_19) rfl rfl k)) ?_
                              show own_Fin p e below s _ _ _ T50 (mkF m 21 #[.val (.int p1), .val (.ref b7), .val (.int (19 : Int32)), .val (.int (14 : Int32)), .val (.ref t14)] [(.ref t14)])
                              obtain ⟨T53, X53, e53, st53⟩ := getF X50 hx hZ hown (host := "") (Or.inl (hw _ (List.mem_of_getElem? (i := 38) rfl))) Via.refl e50 (Y14.2.ext Eo7) (g := (mkF m 21 #[.val (.int p1), .val (.ref b7), .val (.int (19 : Int32)), .val (.int (14 : Int32)), .val (.ref t14)] [(.ref t14)])) rfl rfl (hb hby d1_21)
                              refine own_by (fun _ k => st53 _ k) ?_
                              show own_Fin p e below s _ _ _ T53 (mkF m 24 #[.val (.int p1), .val (.ref b7), .val (.int (19 : Int32)), .val (.int (14 : Int32)), .val (.ref t14)] [(.int (16 : Int32))])
                              refine own_by (fun _ k => XS.iloadN X53.here hx rfl (hb hby d1_24) rfl k) ?_
                              show own_Fin p e below s _ _ _ T53 (mkF m 25 #[.val (.int p1), .val (.ref b7), .val (.int (19 : Int32)), .val (.int (14 : Int32)), .val (.ref t14)] [(.int p1), (.int (16 : Int32))])
                              by_cases hc25_54 : (16 : Int32) = p1
                              · show own_Fin p e below s _ _ _ T53 (mkF m 25 #[.val (.int p1), .val (.ref b7), .val (.int (19 : Int32)), .val (.int (14 : Int32)), .val (.ref t14)] [(.int p1), (.int (16 : Int32))])
                                refine own_by (fun _ k => XS.icmpNo X53.here hx rfl (hb hby d1_25) rfl (teq hc25_54).2 k) ?_
                                show own_Fin p e below s _ _ _ T53 (mkF m 28 #[.val (.int p1), .val (.ref b7), .val (.int (19 : Int32)), .val (.int (14 : Int32)), .val (.ref t14)] [])
                                refine own_by (fun _ k => XS.aload X53.here hx rfl (hb hby d1_28) rfl rfl k) ?_
                                show own_Fin p e below s _ _ _ T53 (mkF m 30 #[.val (.int p1), .val (.ref b7), .val (.int (19 : Int32)), .val (.int (14 : Int32)), .val (.ref t14)] [(.ref t14)])
                                exact own_retA X53 hx hlk (t := (.object "com/example/mosub/mosub/model/OverlayMessage$Type")) hret rfl rfl rfl (hb hby d1_30) (by rw [e53]; exact ⟨_, rfl, N7, Kp7, Or.inr ⟨_, rfl, hc25_54 ▸ Y14, hc25_54 ▸ (by refine ⟨?_, ?_, ?_⟩ <;> decide : own_ok (16 : Int32))⟩⟩) (by decide) (by decide)
                              · show own_Fin p e below s _ _ _ T53 (mkF m 25 #[.val (.int p1), .val (.ref b7), .val (.int (19 : Int32)), .val (.int (14 : Int32)), .val (.ref t14)] [(.int p1), (.int (16 : Int32))])
                                refine own_by (fun _ k => XS.icmpYes X53.here hx rfl (pc0 := 25) (pc' := 31) rfl (hb hby d1_25) rfl (feq hc25_54).2 (by decide) (by decide) k) ?_
                                show own_Fin p e below s _ _ _ T53 (mkF m 31 #[.val (.int p1), .val (.ref b7), .val (.int (19 : Int32)), .val (.int (14 : Int32)), .val (.ref t14)] [])
                                refine own_by (fun _ k => XS.iinc X53.here hx rfl (hb hby d1_31) rfl (l' := #[.val (.int p1), .val (.ref b7), .val (.int (19 : Int32)), .val (.int ((14 : Int32) + (1 : Int32))), .val (.ref t14)]) rfl k) ?_
                                show own_Fin p e below s _ _ _ T53 (mkF m 34 #[.val (.int p1), .val (.ref b7), .val (.int (19 : Int32)), .val (.int ((14 : Int32) + (1 : Int32))), .val (.ref t14)] [])
                                rw [(by decide : ((14 : Int32) + (1 : Int32)) = (15 : Int32))]
                                show own_Fin p e below s _ _ _ T53 (mkF m 34 #[.val (.int p1), .val (.ref b7), .val (.int (19 : Int32)), .val (.int (15 : Int32)), .val (.ref t14)] [])
                                refine own_by (fun _ k => XS.goto X53.here hx rfl (pc0 := 34) (pc' := 9) rfl (hb hby d1_34) (by decide) (by decide) (XS.iloadN X53.here hx rfl (hb hby d1_9) rfl (XS.iloadN X53.here hx rfl (hb hby d1_10) rfl k))) ?_
                                show own_Fin p e below s _ _ _ T53 (mkF m 11 #[.val (.int p1), .val (.ref b7), .val (.int (19 : Int32)), .val (.int (15 : Int32)), .val (.ref t14)] [(.int (19 : Int32)), (.int (15 : Int32))])
                                refine own_by (fun _ k => XS.icmpNo X53.here hx rfl (hb hby d1_11) rfl (tlt (by decide : (15 : Int32) < (19 : Int32))).2.1 k) ?_
                                show own_Fin p e below s _ _ _ T53 (mkF m 14 #[.val (.int p1), .val (.ref b7), .val (.int (19 : Int32)), .val (.int (15 : Int32)), .val (.ref t14)] [])
                                refine own_by (fun _ k => XS.aloadN X53.here hx rfl (hb hby d1_14) rfl rfl (XS.iloadN X53.here hx rfl (hb hby d1_15) rfl k)) ?_
                                show own_Fin p e below s _ _ _ T53 (mkF m 16 #[.val (.int p1), .val (.ref b7), .val (.int (19 : Int32)), .val (.int (15 : Int32)), .val (.ref t14)] [(.int (15 : Int32)), (.ref b7)])
                                obtain ⟨cl55, Ar55, -, S55, M55, H55, -⟩ := id V7
                                have hin55 : ¬ ((15 : Int32) < 0 ∨ cl55.slots.size ≤ ((15 : Int32)).toNatClampNeg) := inb_of S55 ⟨by decide, by decide⟩
                                have hat55 : cl55.slots[((15 : Int32)).toNatClampNeg]? = some (.ref t15) := Has.at H55 hin55 rfl
                                refine own_by (fun _ k => X53.aaload hx (j := (15 : Int32)) (v := (.ref t15)) (by rw [e53]; exact Ar55.1) (State.isArrayOf_alike hZ.alike Ar55.2.1) rfl Ar55.2.2 hin55 hat55 (g := (mkF m 16 #[.val (.int p1), .val (.ref b7), .val (.int (19 : Int32)), .val (.int (15 : Int32)), .val (.ref t14)] [(.int (15 : Int32)), (.ref b7)])) rfl rfl (hb hby d1_16) _ k) ?_
                                show own_Fin p e below s _ _ _ T53 (mkF m 17 #[.val (.int p1), .val (.ref b7), .val (.int (19 : Int32)), .val (.int (15 : Int32)), .val (.ref t14)] [(.ref t15)])
                                refine own_by (fun _ k => XS.astore X53.here hx rfl (hb hby d1_17) rfl rfl (l' := #[.val (.int p1), .val (.ref b7), .val (.int (19 : Int32)), .val (.int (15 : Int32)), .val (.ref t15)]) rfl (XS.aload X53.here hx rfl (hb hby d1_19) rfl rfl k)) ?_
                                show own_Fin p e below s _ _ _ T53 (mkF m 21 #[.val (.int p1), .val (.ref b7), .val (.int (19 : Int32)), .val (.int (15 : Int32)), .val (.ref t15)] [(.ref t15)])
                                obtain ⟨T56, X56, e56, st56⟩ := getF X53 hx hZ hown (host := "") (Or.inl (hw _ (List.mem_of_getElem? (i := 38) rfl))) Via.refl e53 (Y15.2.ext Eo7) (g := (mkF m 21 #[.val (.int p1), .val (.ref b7), .val (.int (19 : Int32)), .val (.int (15 : Int32)), .val (.ref t15)] [(.ref t15)])) rfl rfl (hb hby d1_21)
                                refine own_by (fun _ k => st56 _ k) ?_
                                show own_Fin p e below s _ _ _ T56 (mkF m 24 #[.val (.int p1), .val (.ref b7), .val (.int (19 : Int32)), .val (.int (15 : Int32)), .val (.ref t15)] [(.int (17 : Int32))])
                                refine own_by (fun _ k => XS.iloadN X56.here hx rfl (hb hby d1_24) rfl k) ?_
                                show own_Fin p e below s _ _ _ T56 (mkF m 25 #[.val (.int p1), .val (.ref b7), .val (.int (19 : Int32)), .val (.int (15 : Int32)), .val (.ref t15)] [(.int p1), (.int (17 : Int32))])
                                by_cases hc25_57 : (17 : Int32) = p1
                                · show own_Fin p e below s _ _ _ T56 (mkF m 25 #[.val (.int p1), .val (.ref b7), .val (.int (19 : Int32)), .val (.int (15 : Int32)), .val (.ref t15)] [(.int p1), (.int (17 : Int32))])
                                  refine own_by (fun _ k => XS.icmpNo X56.here hx rfl (hb hby d1_25) rfl (teq hc25_57).2 k) ?_
                                  show own_Fin p e below s _ _ _ T56 (mkF m 28 #[.val (.int p1), .val (.ref b7), .val (.int (19 : Int32)), .val (.int (15 : Int32)), .val (.ref t15)] [])
                                  refine own_by (fun _ k => XS.aload X56.here hx rfl (hb hby d1_28) rfl rfl k) ?_
                                  show own_Fin p e below s _ _ _ T56 (mkF m 30 #[.val (.int p1), .val (.ref b7), .val (.int (19 : Int32)), .val (.int (15 : Int32)), .val (.ref t15)] [(.ref t15)])
                                  exact own_retA X56 hx hlk (t := (.object "com/example/mosub/mosub/model/OverlayMessage$Type")) hret rfl rfl rfl (hb hby d1_30) (by rw [e56]; exact ⟨_, rfl, N7, Kp7, Or.inr ⟨_, rfl, hc25_57 ▸ Y15, hc25_57 ▸ (by refine ⟨?_, ?_, ?_⟩ <;> decide : own_ok (17 : Int32))⟩⟩) (by decide) (by decide)
                                · show own_Fin p e below s _ _ _ T56 (mkF m 25 #[.val (.int p1), .val (.ref b7), .val (.int (19 : Int32)), .val (.int (15 : Int32)), .val (.ref t15)] [(.int p1), (.int (17 : Int32))])
                                  refine own_by (fun _ k => XS.icmpYes X56.here hx rfl (pc0 := 25) (pc' := 31) rfl (hb hby d1_25) rfl (feq hc25_57).2 (by decide) (by decide) k) ?_
                                  show own_Fin p e below s _ _ _ T56 (mkF m 31 #[.val (.int p1), .val (.ref b7), .val (.int (19 : Int32)), .val (.int (15 : Int32)), .val (.ref t15)] [])
                                  refine own_by (fun _ k => XS.iinc X56.here hx rfl (hb hby d1_31) rfl (l' := #[.val (.int p1), .val (.ref b7), .val (.int (19 : Int32)), .val (.int ((15 : Int32) + (1 : Int32))), .val (.ref t15)]) rfl k) ?_
                                  show own_Fin p e below s _ _ _ T56 (mkF m 34 #[.val (.int p1), .val (.ref b7), .val (.int (19 : Int32)), .val (.int ((15 : Int32) + (1 : Int32))), .val (.ref t15)] [])
                                  rw [(by decide : ((15 : Int32) + (1 : Int32)) = (16 : Int32))]
                                  show own_Fin p e below s _ _ _ T56 (mkF m 34 #[.val (.int p1), .val (.ref b7), .val (.int (19 : Int32)), .val (.int (16 : Int32)), .val (.ref t15)] [])
                                  refine own_by (fun _ k => XS.goto X56.here hx rfl (pc0 := 34) (pc' := 9) rfl (hb hby d1_34) (by decide) (by decide) (XS.iloadN X56.here hx rfl (hb hby d1_9) rfl (XS.iloadN X56.here hx rfl (hb hby d1_10) rfl k))) ?_
                                  show own_Fin p e below s _ _ _ T56 (mkF m 11 #[.val (.int p1), .val (.ref b7), .val (.int (19 : Int32)), .val (.int (16 : Int32)), .val (.ref t15)] [(.int (19 : Int32)), (.int (16 : Int32))])
                                  refine own_by (fun _ k => XS.icmpNo X56.here hx rfl (hb hby d1_11) rfl (tlt (by decide : (16 : Int32) < (19 : Int32))).2.1 k) ?_
                                  show own_Fin p e below s _ _ _ T56 (mkF m 14 #[.val (.int p1), .val (.ref b7), .val (.int (19 : Int32)), .val (.int (16 : Int32)), .val (.ref t15)] [])
                                  refine own_by (fun _ k => XS.aloadN X56.here hx rfl (hb hby d1_14) rfl rfl (XS.iloadN X56.here hx rfl (hb hby d1_15) rfl k)) ?_
                                  show own_Fin p e below s _ _ _ T56 (mkF m 16 #[.val (.int p1), .val (.ref b7), .val (.int (19 : Int32)), .val (.int (16 : Int32)), .val (.ref t15)] [(.int (16 : Int32)), (.ref b7)])
                                  obtain ⟨cl58, Ar58, -, S58, M58, H58, -⟩ := id V7
                                  have hin58 : ¬ ((16 : Int32) < 0 ∨ cl58.slots.size ≤ ((16 : Int32)).toNatClampNeg) := inb_of S58 ⟨by decide, by decide⟩
                                  have hat58 : cl58.slots[((16 : Int32)).toNatClampNeg]? = some (.ref t16) := Has.at H58 hin58 rfl
                                  refine own_by (fun _ k => X56.aaload hx (j := (16 : Int32)) (v := (.ref t16)) (by rw [e56]; exact Ar58.1) (State.isArrayOf_alike hZ.alike Ar58.2.1) rfl Ar58.2.2 hin58 hat58 (g := (mkF m 16 #[.val (.int p1), .val (.ref b7), .val (.int (19 : Int32)), .val (.int (16 : Int32)), .val (.ref t15)] [(.int (16 : Int32)), (.ref b7)])) rfl rfl (hb hby d1_16) _ k) ?_
                                  show own_Fin p e below s _ _ _ T56 (mkF m 17 #[.val (.int p1), .val (.ref b7), .val (.int (19 : Int32)), .val (.int (16 : Int32)), .val (.ref t15)] [(.ref t16)])
                                  refine own_by (fun _ k => XS.astore X56.here hx rfl (hb hby d1_17) rfl rfl (l' := #[.val (.int p1), .val (.ref b7), .val (.int (19 : Int32)), .val (.int (16 : Int32)), .val (.ref t16)]) rfl (XS.aload X56.here hx rfl (hb hby d1_19) rfl rfl k)) ?_
                                  show own_Fin p e below s _ _ _ T56 (mkF m 21 #[.val (.int p1), .val (.ref b7), .val (.int (19 : Int32)), .val (.int (16 : Int32)), .val (.ref t16)] [(.ref t16)])
                                  obtain ⟨T59, X59, e59, st59⟩ := getF X56 hx hZ hown (host := "") (Or.inl (hw _ (List.mem_of_getElem? (i := 38) rfl))) Via.refl e56 (Y16.2.ext Eo7) (g := (mkF m 21 #[.val (.int p1), .val (.ref b7), .val (.int (19 : Int32)), .val (.int (16 : Int32)), .val (.ref t16)] [(.ref t16)])) rfl rfl (hb hby d1_21)
                                  refine own_by (fun _ k => st59 _ k) ?_
                                  show own_Fin p e below s _ _ _ T59 (mkF m 24 #[.val (.int p1), .val (.ref b7), .val (.int (19 : Int32)), .val (.int (16 : Int32)), .val (.ref t16)] [(.int (18 : Int32))])
                                  refine own_by (fun _ k => XS.iloadN X59.here hx rfl (hb hby d1_24) rfl k) ?_
                                  show own_Fin p e below s _ _ _ T59 (mkF m 25 #[.val (.int p1), .val (.ref b7), .val (.int (19 : Int32)), .val (.int (16 : Int32)), .val (.ref t16)] [(.int p1), (.int (18 : Int32))])
                                  by_cases hc25_60 : (18 : Int32) = p1
                                  · show own_Fin p e below s _ _ _ T59 (mkF m 25 #[.val (.int p1), .val (.ref b7), .val (.int (19 : Int32)), .val (.int (16 : Int32)), .val (.ref t16)] [(.int p1), (.int (18 : Int32))])
                                    refine own_by (fun _ k => XS.icmpNo X59.here hx rfl (hb hby d1_25) rfl (teq hc25_60).2 k) ?_
                                    show own_Fin p e below s _ _ _ T59 (mkF m 28 #[.val (.int p1), .val (.ref b7), .val (.int (19 : Int32)), .val (.int (16 : Int32)), .val (.ref t16)] [])
                                    refine own_by (fun _ k => XS.aload X59.here hx rfl (hb hby d1_28) rfl rfl k) ?_
                                    show own_Fin p e below s _ _ _ T59 (mkF m 30 #[.val (.int p1), .val (.ref b7), .val (.int (19 : Int32)), .val (.int (16 : Int32)), .val (.ref t16)] [(.ref t16)])
                                    exact own_retA X59 hx hlk (t := (.object "com/example/mosub/mosub/model/OverlayMessage$Type")) hret rfl rfl rfl (hb hby d1_30) (by rw [e59]; exact ⟨_, rfl, N7, Kp7, Or.inr ⟨_, rfl, hc25_60 ▸ Y16, hc25_60 ▸ (by refine ⟨?_, ?_, ?_⟩ <;> decide : own_ok (18 : Int32))⟩⟩) (by decide) (by decide)
                                  · show own_Fin p e below s _ _ _ T59 (mkF m 25 #[.val (.int p1), .val (.ref b7), .val (.int (19 : Int32)), .val (.int (16 : Int32)), .val (.ref t16)] [(.int p1), (.int (18 : Int32))])
                                    refine own_by (fun _ k => XS.icmpYes X59.here hx rfl (pc0 := 25) (pc' := 31) rfl (hb hby d1_25) rfl (feq hc25_60).2 (by decide) (by decide) k) ?_
                                    show own_Fin p e below s _ _ _ T59 (mkF m 31 #[.val (.int p1), .val (.ref b7), .val (.int (19 : Int32)), .val (.int (16 : Int32)), .val (.ref t16)] [])
                                    refine own_by (fun _ k => XS.iinc X59.here hx rfl (hb hby d1_31) rfl (l' := #[.val (.int p1), .val (.ref b7), .val (.int (19 : Int32)), .val (.int ((16 : Int32) + (1 : Int32))), .val (.ref t16)]) rfl k) ?_
                                    show own_Fin p e below s _ _ _ T59 (mkF m 34 #[.val (.int p1), .val (.ref b7), .val (.int (19 : Int32)), .val (.int ((16 : Int32) + (1 : Int32))), .val (.ref t16)] [])
                                    rw [(by decide : ((16 : Int32) + (1 : Int32)) = (17 : Int32))]
                                    show own_Fin p e below s _ _ _ T59 (mkF m 34 #[.val (.int p1), .val (.ref b7), .val (.int (19 : Int32)), .val (.int (17 : Int32)), .val (.ref t16)] [])
                                    refine own_by (fun _ k => XS.goto X59.here hx rfl (pc0 := 34) (pc' := 9) rfl (hb hby d1_34) (by decide) (by decide) (XS.iloadN X59.here hx rfl (hb hby d1_9) rfl (XS.iloadN X59.here hx rfl (hb hby d1_10) rfl k))) ?_
                                    show own_Fin p e below s _ _ _ T59 (mkF m 11 #[.val (.int p1), .val (.ref b7), .val (.int (19 : Int32)), .val (.int (17 : Int32)), .val (.ref t16)] [(.int (19 : Int32)), (.int (17 : Int32))])
                                    refine own_by (fun _ k => XS.icmpNo X59.here hx rfl (hb hby d1_11) rfl (tlt (by decide : (17 : Int32) < (19 : Int32))).2.1 k) ?_
                                    show own_Fin p e below s _ _ _ T59 (mkF m 14 #[.val (.int p1), .val (.ref b7), .val (.int (19 : Int32)), .val (.int (17 : Int32)), .val (.ref t16)] [])
                                    refine own_by (fun _ k => XS.aloadN X59.here hx rfl (hb hby d1_14) rfl rfl (XS.iloadN X59.here hx rfl (hb hby d1_15) rfl k)) ?_
                                    show own_Fin p e below s _ _ _ T59 (mkF m 16 #[.val (.int p1), .val (.ref b7), .val (.int (19 : Int32)), .val (.int (17 : Int32)), .val (.ref t16)] [(.int (17 : Int32)), (.ref b7)])
                                    obtain ⟨cl61, Ar61, -, S61, M61, H61, -⟩ := id V7
                                    have hin61 : ¬ ((17 : Int32) < 0 ∨ cl61.slots.size ≤ ((17 : Int32)).toNatClampNeg) := inb_of S61 ⟨by decide, by decide⟩
                                    have hat61 : cl61.slots[((17 : Int32)).toNatClampNeg]? = some (.ref t17) := Has.at H61 hin61 rfl
                                    refine own_by (fun _ k => X59.aaload hx (j := (17 : Int32)) (v := (.ref t17)) (by rw [e59]; exact Ar61.1) (State.isArrayOf_alike hZ.alike Ar61.2.1) rfl Ar61.2.2 hin61 hat61 (g := (mkF m 16 #[.val (.int p1), .val (.ref b7), .val (.int (19 : Int32)), .val (.int (17 : Int32)), .val (.ref t16)] [(.int (17 : Int32)), (.ref b7)])) rfl rfl (hb hby d1_16) _ k) ?_
                                    show own_Fin p e below s _ _ _ T59 (mkF m 17 #[.val (.int p1), .val (.ref b7), .val (.int (19 : Int32)), .val (.int (17 : Int32)), .val (.ref t16)] [(.ref t17)])
                                    refine own_by (fun _ k => XS.astore X59.here hx rfl (hb hby d1_17) rfl rfl (l' := #[.val (.int p1), .val (.ref b7), .val (.int (19 : Int32)), .val (.int (17 : Int32)), .val (.ref t17)]) rfl (XS.aload X59.here hx rfl (hb hby d1_19) rfl rfl k)) ?_
                                    show own_Fin p e below s _ _ _ T59 (mkF m 21 #[.val (.int p1), .val (.ref b7), .val (.int (19 : Int32)), .val (.int (17 : Int32)), .val (.ref t17)] [(.ref t17)])
                                    obtain ⟨T62, X62, e62, st62⟩ := getF X59 hx hZ hown (host := "") (Or.inl (hw _ (List.mem_of_getElem? (i := 38) rfl))) Via.refl e59 (Y17.2.ext Eo7) (g := (mkF m 21 #[.val (.int p1), .val (.ref b7), .val (.int (19 : Int32)), .val (.int (17 : Int32)), .val (.ref t17)] [(.ref t17)])) rfl rfl (hb hby d1_21)
                                    refine own_by (fun _ k => st62 _ k) ?_
                                    show own_Fin p e below s _ _ _ T62 (mkF m 24 #[.val (.int p1), .val (.ref b7), .val (.int (19 : Int32)), .val (.int (17 : Int32)), .val (.ref t17)] [(.int (19 : Int32))])
                                    refine own_by (fun _ k => XS.iloadN X62.here hx rfl (hb hby d1_24) rfl k) ?_
                                    show own_Fin p e below s _ _ _ T62 (mkF m 25 #[.val (.int p1), .val (.ref b7), .val (.int (19 : Int32)), .val (.int (17 : Int32)), .val (.ref t17)] [(.int p1), (.int (19 : Int32))])
                                    by_cases hc25_63 : (19 : Int32) = p1
                                    · show own_Fin p e below s _ _ _ T62 (mkF m 25 #[.val (.int p1), .val (.ref b7), .val (.int (19 : Int32)), .val (.int (17 : Int32)), .val (.ref t17)] [(.int p1), (.int (19 : Int32))])
                                      refine own_by (fun _ k => XS.icmpNo X62.here hx rfl (hb hby d1_25) rfl (teq hc25_63).2 k) ?_
                                      show own_Fin p e below s _ _ _ T62 (mkF m 28 #[.val (.int p1), .val (.ref b7), .val (.int (19 : Int32)), .val (.int (17 : Int32)), .val (.ref t17)] [])
                                      refine own_by (fun _ k => XS.aload X62.here hx rfl (hb hby d1_28) rfl rfl k) ?_
                                      show own_Fin p e below s _ _ _ T62 (mkF m 30 #[.val (.int p1), .val (.ref b7), .val (.int (19 : Int32)), .val (.int (17 : Int32)), .val (.ref t17)] [(.ref t17)])
                                      exact own_retA X62 hx hlk (t := (.object "com/example/mosub/mosub/model/OverlayMessage$Type")) hret rfl rfl rfl (hb hby d1_30) (by rw [e62]; exact ⟨_, rfl, N7, Kp7, Or.inr ⟨_, rfl, hc25_63 ▸ Y17, hc25_63 ▸ (by refine ⟨?_, ?_, ?_⟩ <;> decide : own_ok (19 : Int32))⟩⟩) (by decide) (by decide)
                                    · show own_Fin p e below s _ _ _ T62 (mkF m 25 #[.val (.int p1), .val (.ref b7), .val (.int (19 : Int32)), .val (.int (17 : Int32)), .val (.ref t17)] [(.int p1), (.int (19 : Int32))])
                                      refine own_by (fun _ k => XS.icmpYes X62.here hx rfl (pc0 := 25) (pc' := 31) rfl (hb hby d1_25) rfl (feq hc25_63).2 (by decide) (by decide) k) ?_
                                      show own_Fin p e below s _ _ _ T62 (mkF m 31 #[.val (.int p1), .val (.ref b7), .val (.int (19 : Int32)), .val (.int (17 : Int32)), .val (.ref t17)] [])
                                      refine own_by (fun _ k => XS.iinc X62.here hx rfl (hb hby d1_31) rfl (l' := #[.val (.int p1), .val (.ref b7), .val (.int (19 : Int32)), .val (.int ((17 : Int32) + (1 : Int32))), .val (.ref t17)]) rfl k) ?_
                                      show own_Fin p e below s _ _ _ T62 (mkF m 34 #[.val (.int p1), .val (.ref b7), .val (.int (19 : Int32)), .val (.int ((17 : Int32) + (1 : Int32))), .val (.ref t17)] [])
                                      rw [(by decide : ((17 : Int32) + (1 : Int32)) = (18 : Int32))]
                                      show own_Fin p e below s _ _ _ T62 (mkF m 34 #[.val (.int p1), .val (.ref b7), .val (.int (19 : Int32)), .val (.int (18 : Int32)), .val (.ref t17)] [])
                                      refine own_by (fun _ k => XS.goto X62.here hx rfl (pc0 := 34) (pc' := 9) rfl (hb hby d1_34) (by decide) (by decide) (XS.iloadN X62.here hx rfl (hb hby d1_9) rfl (XS.iloadN X62.here hx rfl (hb hby d1_10) rfl k))) ?_
                                      show own_Fin p e below s _ _ _ T62 (mkF m 11 #[.val (.int p1), .val (.ref b7), .val (.int (19 : Int32)), .val (.int (18 : Int32)), .val (.ref t17)] [(.int (19 : Int32)), (.int (18 : Int32))])
                                      refine own_by (fun _ k => XS.icmpNo X62.here hx rfl (hb hby d1_11) rfl (tlt (by decide : (18 : Int32) < (19 : Int32))).2.1 k) ?_
                                      show own_Fin p e below s _ _ _ T62 (mkF m 14 #[.val (.int p1), .val (.ref b7), .val (.int (19 : Int32)), .val (.int (18 : Int32)), .val (.ref t17)] [])
                                      refine own_by (fun _ k => XS.aloadN X62.here hx rfl (hb hby d1_14) rfl rfl (XS.iloadN X62.here hx rfl (hb hby d1_15) rfl k)) ?_
                                      show own_Fin p e below s _ _ _ T62 (mkF m 16 #[.val (.int p1), .val (.ref b7), .val (.int (19 : Int32)), .val (.int (18 : Int32)), .val (.ref t17)] [(.int (18 : Int32)), (.ref b7)])
                                      obtain ⟨cl64, Ar64, -, S64, M64, H64, -⟩ := id V7
                                      have hin64 : ¬ ((18 : Int32) < 0 ∨ cl64.slots.size ≤ ((18 : Int32)).toNatClampNeg) := inb_of S64 ⟨by decide, by decide⟩
                                      have hat64 : cl64.slots[((18 : Int32)).toNatClampNeg]? = some (.ref t18) := Has.at H64 hin64 rfl
                                      refine own_by (fun _ k => X62.aaload hx (j := (18 : Int32)) (v := (.ref t18)) (by rw [e62]; exact Ar64.1) (State.isArrayOf_alike hZ.alike Ar64.2.1) rfl Ar64.2.2 hin64 hat64 (g := (mkF m 16 #[.val (.int p1), .val (.ref b7), .val (.int (19 : Int32)), .val (.int (18 : Int32)), .val (.ref t17)] [(.int (18 : Int32)), (.ref b7)])) rfl rfl (hb hby d1_16) _ k) ?_
                                      show own_Fin p e below s _ _ _ T62 (mkF m 17 #[.val (.int p1), .val (.ref b7), .val (.int (19 : Int32)), .val (.int (18 : Int32)), .val (.ref t17)] [(.ref t18)])
                                      refine own_by (fun _ k => XS.astore X62.here hx rfl (hb hby d1_17) rfl rfl (l' := #[.val (.int p1), .val (.ref b7), .val (.int (19 : Int32)), .val (.int (18 : Int32)), .val (.ref t18)]) rfl (XS.aload X62.here hx rfl (hb hby d1_19) rfl rfl k)) ?_
                                      show own_Fin p e below s _ _ _ T62 (mkF m 21 #[.val (.int p1), .val (.ref b7), .val (.int (19 : Int32)), .val (.int (18 : Int32)), .val (.ref t18)] [(.ref t18)])
                                      obtain ⟨T65, X65, e65, st65⟩ := getF X62 hx hZ hown (host := "") (Or.inl (hw _ (List.mem_of_getElem? (i := 38) rfl))) Via.refl e62 (Y18.2.ext Eo7) (g := (mkF m 21 #[.val (.int p1), .val (.ref b7), .val (.int (19 : Int32)), .val (.int (18 : Int32)), .val (.ref t18)] [(.ref t18)])) rfl rfl (hb hby d1_21)
                                      refine own_by (fun _ k => st65 _ k) ?_
                                      show own_Fin p e below s _ _ _ T65 (mkF m 24 #[.val (.int p1), .val (.ref b7), .val (.int (19 : Int32)), .val (.int (18 : Int32)), .val (.ref t18)] [(.int (20 : Int32))])
                                      refine own_by (fun _ k => XS.iloadN X65.here hx rfl (hb hby d1_24) rfl k) ?_
                                      show own_Fin p e below s _ _ _ T65 (mkF m 25 #[.val (.int p1), .val (.ref b7), .val (.int (19 : Int32)), .val (.int (18 : Int32)), .val (.ref t18)] [(.int p1), (.int (20 : Int32))])
                                      by_cases hc25_66 : (20 : Int32) = p1
                                      · show own_Fin p e below s _ _ _ T65 (mkF m 25 #[.val (.int p1), .val (.ref b7), .val (.int (19 : Int32)), .val (.int (18 : Int32)), .val (.ref t18)] [(.int p1), (.int (20 : Int32))])
                                        refine own_by (fun _ k => XS.icmpNo X65.here hx rfl (hb hby d1_25) rfl (teq hc25_66).2 k) ?_
                                        show own_Fin p e below s _ _ _ T65 (mkF m 28 #[.val (.int p1), .val (.ref b7), .val (.int (19 : Int32)), .val (.int (18 : Int32)), .val (.ref t18)] [])
                                        refine own_by (fun _ k => XS.aload X65.here hx rfl (hb hby d1_28) rfl rfl k) ?_
                                        show own_Fin p e below s _ _ _ T65 (mkF m 30 #[.val (.int p1), .val (.ref b7), .val (.int (19 : Int32)), .val (.int (18 : Int32)), .val (.ref t18)] [(.ref t18)])
                                        exact own_retA X65 hx hlk (t := (.object "com/example/mosub/mosub/model/OverlayMessage$Type")) hret rfl rfl rfl (hb hby d1_30) (by rw [e65]; exact ⟨_, rfl, N7, Kp7, Or.inr ⟨_, rfl, hc25_66 ▸ Y18, hc25_66 ▸ (by refine ⟨?_, ?_, ?_⟩ <;> decide : own_ok (20 : Int32))⟩⟩) (by decide) (by decide)
                                      · show own_Fin p e below s _ _ _ T65 (mkF m 25 #[.val (.int p1), .val (.ref b7), .val (.int (19 : Int32)), .val (.int (18 : Int32)), .val (.ref t18)] [(.int p1), (.int (20 : Int32))])
                                        refine own_by (fun _ k => XS.icmpYes X65.here hx rfl (pc0 := 25) (pc' := 31) rfl (hb hby d1_25) rfl (feq hc25_66).2 (by decide) (by decide) k) ?_
                                        show own_Fin p e below s _ _ _ T65 (mkF m 31 #[.val (.int p1), .val (.ref b7), .val (.int (19 : Int32)), .val (.int (18 : Int32)), .val (.ref t18)] [])
                                        refine own_by (fun _ k => XS.iinc X65.here hx rfl (hb hby d1_31) rfl (l' := #[.val (.int p1), .val (.ref b7), .val (.int (19 : Int32)), .val (.int ((18 : Int32) + (1 : Int32))), .val (.ref t18)]) rfl k) ?_
                                        show own_Fin p e below s _ _ _ T65 (mkF m 34 #[.val (.int p1), .val (.ref b7), .val (.int (19 : Int32)), .val (.int ((18 : Int32) + (1 : Int32))), .val (.ref t18)] [])
                                        rw [(by decide : ((18 : Int32) + (1 : Int32)) = (19 : Int32))]
                                        show own_Fin p e below s _ _ _ T65 (mkF m 34 #[.val (.int p1), .val (.ref b7), .val (.int (19 : Int32)), .val (.int (19 : Int32)), .val (.ref t18)] [])
                                        refine own_by (fun _ k => XS.goto X65.here hx rfl (pc0 := 34) (pc' := 9) rfl (hb hby d1_34) (by decide) (by decide) (XS.iloadN X65.here hx rfl (hb hby d1_9) rfl (XS.iloadN X65.here hx rfl (hb hby d1_10) rfl k))) ?_
                                        show own_Fin p e below s _ _ _ T65 (mkF m 11 #[.val (.int p1), .val (.ref b7), .val (.int (19 : Int32)), .val (.int (19 : Int32)), .val (.ref t18)] [(.int (19 : Int32)), (.int (19 : Int32))])
                                        refine own_by (fun _ k => XS.icmpYes X65.here hx rfl (pc0 := 11) (pc' := 37) rfl (hb hby d1_11) rfl (flt (by decide : ¬ ((19 : Int32) < (19 : Int32)))).2.1 (by decide) (by decide) k) ?_
                                        show own_Fin p e below s _ _ _ T65 (mkF m 37 #[.val (.int p1), .val (.ref b7), .val (.int (19 : Int32)), .val (.int (19 : Int32)), .val (.ref t18)] [])
                                        refine own_by (fun _ k => XS.aconstNull X65.here hx rfl (hb hby d1_37) k) ?_
                                        show own_Fin p e below s _ _ _ T65 (mkF m 38 #[.val (.int p1), .val (.ref b7), .val (.int (19 : Int32)), .val (.int (19 : Int32)), .val (.ref t18)] [.null])
                                        exact own_retA X65 hx hlk (t := (.object "com/example/mosub/mosub/model/OverlayMessage$Type")) hret rfl rfl rfl (hb hby d1_38) (by rw [e65]; exact ⟨_, rfl, N7, Kp7, Or.inl ⟨rfl, fun c hk q => own_all c hk.1 hk.2.1 hk.2.2 (fun z => hc25_12 (z.trans q)) (fun z => hc25_15 (z.trans q)) (fun z => hc25_18 (z.trans q)) (fun z => hc25_21 (z.trans q)) (fun z => hc25_24 (z.trans q)) (fun z => hc25_27 (z.trans q)) (fun z => hc25_30 (z.trans q)) (fun z => hc25_33 (z.trans q)) (fun z => hc25_36 (z.trans q)) (fun z => hc25_39 (z.trans q)) (fun z => hc25_42 (z.trans q)) (fun z => hc25_45 (z.trans q)) (fun z => hc25_48 (z.trans q)) (fun z => hc25_51 (z.trans q)) (fun z => hc25_54 (z.trans q)) (fun z => hc25_57 (z.trans q)) (fun z => hc25_60 (z.trans q)) (fun z => hc25_63 (z.trans q)) (fun z => hc25_66 (z.trans q))⟩⟩) (by decide) (by decide)
theorem d3_0 : decode prog_26_method_5_code 0 = .ok (.aload_n 0, 1) := by decide +kernel
theorem d3_1 : decode prog_26_method_5_code 1 = .ok (.getfield 80, 3) := by decide +kernel
theorem d3_4 : decode prog_26_method_5_code 4 = .ok (.ireturn, 1) := by decide +kernel
theorem ef_rm3 (m : MethodId) (x0 : Addr) : entryFrame m #[(.ref x0)] 1 = mkF m 0 #[.val (.ref x0)] [] := by first | (simp [entryFrame, mkF, argsToLocals, Value.category]; done) | rfl
def own_Q3 (c1 : Int32) (h0 : Heap) (n0 : Nat) (v : Option Value) (h : Heap) (L : List Loc) : Prop := v = some (.int c1) ∧ Fr n0 L ∧ h = h0
set_option maxRecDepth 65536 in
set_option maxHeartbeats 40000000 in
theorem rm3 (l : Launch) (Z : State) (a0 : Array Value) (hw : ∀ d ∈ tables_1, d.before a0 Z = true) (ws : List Jvm.Cond) (a1 : Addr) (c1 : Int32) (h0 : Heap) (n0 : Nat) (Z0 : n0 ≤ h0.size) (F1 : Fld Z h0 a1 "com/example/mosub/mosub/model/OverlayMessage$Type" "code" "I" (.int c1)) : own_Met l Z (⟨"com/example/mosub/mosub/model/OverlayMessage$Type", "code", "()I"⟩ : MethodName) prog_26_method_5_code 1 (some .int) ws (own_R 0 0 0 0) #[(.ref a1)] h0 (own_Q3 c1 h0 n0) := by
  refine own_enter n0 own_pn1 (fun m => ef_rm3 m a1 ) (fun p e s m below meth c s₁ hx hby hlk hml hret hown hnm hZ X0 e0 N0 => ?_)
  show own_Fin p e below s _ _ _ s₁ (mkF m 0 #[.val (.ref a1)] [])
  refine own_by (fun _ k => XS.aloadN X0.here hx rfl (hb hby d3_0) rfl rfl k) ?_
  show own_Fin p e below s _ _ _ s₁ (mkF m 1 #[.val (.ref a1)] [(.ref a1)])
  obtain ⟨T67, X67, e67, st67⟩ := getF X0 hx hZ hown (host := "") (Or.inl (hw _ (List.mem_of_getElem? (i := 38) rfl))) Via.refl e0 F1 (g := (mkF m 1 #[.val (.ref a1)] [(.ref a1)])) rfl rfl (hb hby d3_1)
  refine own_by (fun _ k => st67 _ k) ?_
  show own_Fin p e below s _ _ _ T67 (mkF m 4 #[.val (.ref a1)] [(.int c1)])
  exact own_retI X67 hx hlk hret (hb hby d3_4) ⟨rfl, N0, e67⟩ (by decide) (by decide)
theorem own_pn37 : plainName "com/example/mosub/mosub/model/TypeOfCodePinLaw" = true := by first | (simp [plainName, overriddenIn]; done) | decide +kernel
theorem own_pd38 : parseMethodDescriptor "(I)Lcom/example/mosub/mosub/model/OverlayMessage$Type;" = some ⟨[.int], some (.object "com/example/mosub/mosub/model/OverlayMessage$Type")⟩ := by decide +kernel
theorem own_pd39 : parseMethodDescriptor "()I" = some ⟨[], some .int⟩ := by decide +kernel
theorem ef_rm0 (m : MethodId) (x0 : Int32) : entryFrame m #[(.int x0)] maxLocals = mkF m 0 #[.val (.int x0), .unset, .unset] [] := by first | (simp [entryFrame, mkF, argsToLocals, Value.category, maxLocals]; done) | rfl
def own_Q0 (n0 : Nat) (v : Option Value) (h : Heap) (L : List Loc) : Prop := v = some (.int (1 : Int32)) ∧ Fr n0 L
set_option maxRecDepth 65536 in
set_option maxHeartbeats 40000000 in
theorem rm0 (l : Launch) (Z : State) (a0 : Array Value) (hw : ∀ d ∈ tables_1, d.before a0 Z = true) (ws : List Jvm.Cond) (p1 : Int32) (va : Addr) (kv : ClassId) (t0 t1 t2 t3 t4 t5 t6 t7 t8 t9 t10 t11 t12 t13 t14 t15 t16 t17 t18 : Addr) (h0 : Heap) (n0 : Nat) (Z0 : n0 ≤ h0.size) (S_v : Sta Z h0 "com/example/mosub/mosub/model/OverlayMessage$Type" "$VALUES" "[Lcom/example/mosub/mosub/model/OverlayMessage$Type;" (.ref va)) (V_v : Arv Z h0 va kv (.object "com/example/mosub/mosub/model/OverlayMessage$Type") (19 : Int32) [(.ref t0), (.ref t1), (.ref t2), (.ref t3), (.ref t4), (.ref t5), (.ref t6), (.ref t7), (.ref t8), (.ref t9), (.ref t10), (.ref t11), (.ref t12), (.ref t13), (.ref t14), (.ref t15), (.ref t16), (.ref t17), (.ref t18)] .null) (E_v : Exa Z h0 va "[Lcom/example/mosub/mosub/model/OverlayMessage$Type;") (Y0 : own_Ty Z t0 (1 : Int32)) (Y1 : own_Ty Z t1 (2 : Int32)) (Y2 : own_Ty Z t2 (3 : Int32)) (Y3 : own_Ty Z t3 (4 : Int32)) (Y4 : own_Ty Z t4 (5 : Int32)) (Y5 : own_Ty Z t5 (6 : Int32)) (Y6 : own_Ty Z t6 (7 : Int32)) (Y7 : own_Ty Z t7 (8 : Int32)) (Y8 : own_Ty Z t8 (9 : Int32)) (Y9 : own_Ty Z t9 (10 : Int32)) (Y10 : own_Ty Z t10 (11 : Int32)) (Y11 : own_Ty Z t11 (12 : Int32)) (Y12 : own_Ty Z t12 (14 : Int32)) (Y13 : own_Ty Z t13 (15 : Int32)) (Y14 : own_Ty Z t14 (16 : Int32)) (Y15 : own_Ty Z t15 (17 : Int32)) (Y16 : own_Ty Z t16 (18 : Int32)) (Y17 : own_Ty Z t17 (19 : Int32)) (Y18 : own_Ty Z t18 (20 : Int32)) (Eo : Ext Z.heap h0) :
    MetFree l x (head1 (Jvm.Cond.code x code maxLocals ret :: ws) room_1) (fun a U => a = #[(.int p1)] ∧ Z.Warmed39 U.vm ∧ U.heap = h0) (fun _ _ _ _ _ => True) (fun _ U o U' => ∃ v L, o = .returned v ∧ own_Q0 n0 v U'.heap L ∧ FrameEnd U o U' L room_1.cells room_1.slots) := by
  refine MetFree.of_bodySF (plainFor_of_name own_pn37) hisR ?_
  intro p e s m args below meth c s₁ Bd hml0 hP hK
  obtain ⟨rfl, hZ, hh⟩ := hP
  have hx := Bd.exec
  have hby := Bd.bytes
  have hlk := Bd.notSynchronized
  have hml : c.maxLocals = 3 := hml0
  have hown : s.vm.findClass "com/example/mosub/mosub/model/TypeOfCodePinLaw" = some m.cls := findClass_of_methodNamed Bd.named
  have hnm := (name_of_methodNamed Bd.named Bd.method).1
  have X0 : Stand p l e room_1 s m #[(.int p1)] below meth c s₁ [] 0 0 := Stand.of_body Bd
  have e0 : s₁.heap = h0 := by rw [← hh, Bd.state]; rfl
  have N0 := Fr.nil n0
  refine own_start (Q := own_Q0 n0) (C := room_1.cells) (N := room_1.slots) (ef_rm0 m p1 ) ?_
  show own_Fin p e below s _ _ _ s₁ (mkF m 0 #[.val (.int p1), .unset, .unset] [])
  refine own_by (fun _ k => XS.iloadN X0.here hx rfl (hb hby at_0) rfl k) ?_
  show own_Fin p e below s _ _ _ s₁ (mkF m 1 #[.val (.int p1), .unset, .unset] [(.int p1)])
  obtain ⟨_, _, ⟨T68, L68, k68, n68⟩, -, X68, ⟨Lc68, hQ68, l68, y68, z68⟩, st68⟩ := Jvm.LawKit.callS X0 hx (y := (⟨"com/example/mosub/mosub/model/OverlayMessage$Type", "ofCode", "(I)Lcom/example/mosub/mosub/model/OverlayMessage$Type;"⟩ : MethodName)) hown (mvT hZ (hw _ (List.mem_of_getElem? (i := 0) rfl))) (mvT hZ (hw _ (List.mem_of_getElem? (i := 1) rfl))) (mvT hZ (hw _ (List.mem_of_getElem? (i := 2) rfl))) (mvT hZ (hw _ (List.mem_of_getElem? (i := 3) rfl))) (by decide) (backOf (W := 0) (rm1 l Z a0 hw [] p1 va kv t0 t1 t2 t3 t4 t5 t6 t7 t8 t9 t10 t11 t12 t13 t14 t15 t16 t17 t18 h0 n0 Z0 S_v V_v E_v Y0 Y1 Y2 Y3 Y4 Y5 Y6 Y7 Y8 Y9 Y10 Y11 Y12 Y13 Y14 Y15 Y16 Y17 Y18 Eo) hZ (hw _ (List.mem_of_getElem? (i := 3) rfl)) (hw _ (List.mem_of_getElem? (i := 2) rfl)) (by decide) (by decide)) (g := (mkF m 1 #[.val (.int p1), .unset, .unset] [(.int p1)])) rfl (by rw [hml]; rfl) (argsL := [(.int p1)]) (rest := []) (lenOf own_pd38 rfl) rfl (by show 2 * 0 + _ ≤ _; exact Nat.le_of_eq rfl) (hb hby at_1) (fun _ _ => ⟨rfl, e0, (by decide : 0 + 1 ≤ _), (by decide : 0 + 19 ≤ _)⟩)
  dsimp only [Pt.U, Pt.locs, Pt.cells, Pt.slots] at X68 l68 y68 z68 st68 hQ68
  subst l68 y68 z68
  obtain ⟨r68, rfl, Nq68, K68, hd68⟩ := hQ68
  have N68 := Fr.app N0 Nq68
  refine own_by (fun _ k => st68 _ k) ?_
  have Zs68 : n0 ≤ T68.heap.size := Nat.le_trans Z0 K68.1
  have Eo68 : Ext Z.heap T68.heap := own_ext Eo K68
  rcases hd68 with ⟨rfl, hn68⟩ | ⟨tt, rfl, Yt, hk⟩
  · show own_Fin p e below s _ _ _ T68 (mkF m 4 #[.val (.int p1), .unset, .unset] [.null])
    refine own_by (fun _ k => XS.astoreN X68.here hx rfl (hb hby at_4) rfl rfl (l' := #[.val (.int p1), .val .null, .unset]) rfl (XS.iloadN X68.here hx rfl (hb hby at_5) rfl (XS.iconst X68.here hx rfl (hb hby at_6) k))) ?_
    show own_Fin p e below s _ _ _ T68 (mkF m 7 #[.val (.int p1), .val .null, .unset] [(.int (1 : Int32)), (.int p1)])
    by_cases hc7_70 : p1 < (1 : Int32)
    · show own_Fin p e below s _ _ _ T68 (mkF m 7 #[.val (.int p1), .val .null, .unset] [(.int (1 : Int32)), (.int p1)])
      refine own_by (fun _ k => XS.icmpYes X68.here hx rfl (pc0 := 7) (pc' := 26) rfl (hb hby at_7) rfl (tlt hc7_70).1 (by decide) (by decide) k) ?_
      show own_Fin p e below s _ _ _ T68 (mkF m 26 #[.val (.int p1), .val .null, .unset] [])
      refine own_by (fun _ k => XS.iconst X68.here hx rfl (hb hby at_26) (XS.istoreN X68.here hx rfl (hb hby at_27) rfl (l' := #[.val (.int p1), .val .null, .val (.int (0 : Int32))]) rfl (XS.iloadN X68.here hx rfl (hb hby at_28) rfl k))) ?_
      show own_Fin p e below s _ _ _ T68 (mkF m 29 #[.val (.int p1), .val .null, .val (.int (0 : Int32))] [(.int (0 : Int32))])
      refine own_by (fun _ k => XS.ifNo X68.here hx rfl (hb hby at_29) rfl ((if0 _ _).trans (teq (by decide : (0 : Int32) = (0 : Int32))).2) k) ?_
      show own_Fin p e below s _ _ _ T68 (mkF m 32 #[.val (.int p1), .val .null, .val (.int (0 : Int32))] [])
      refine own_by (fun _ k => XS.aloadN X68.here hx rfl (hb hby at_32) rfl rfl k) ?_
      show own_Fin p e below s _ _ _ T68 (mkF m 33 #[.val (.int p1), .val .null, .val (.int (0 : Int32))] [.null])
      refine own_by (fun _ k => XS.ifnonnullNo X68.here hx rfl (hb hby at_33) rfl k) ?_
      show own_Fin p e below s _ _ _ T68 (mkF m 36 #[.val (.int p1), .val .null, .val (.int (0 : Int32))] [])
      refine own_by (fun _ k => XS.iconst X68.here hx rfl (hb hby at_36) (XS.goto X68.here hx rfl (pc0 := 37) (pc' := 41) rfl (hb hby at_37) (by decide) (by decide) k)) ?_
      show own_Fin p e below s _ _ _ T68 (mkF m 41 #[.val (.int p1), .val .null, .val (.int (0 : Int32))] [(.int (1 : Int32))])
      exact own_retZ X68 hx hlk (t := .boolean) Bd.returns (by simp) (hb hby at_41) ⟨rfl, N68⟩ (by decide) (by decide)
    · show own_Fin p e below s _ _ _ T68 (mkF m 7 #[.val (.int p1), .val .null, .unset] [(.int (1 : Int32)), (.int p1)])
      refine own_by (fun _ k => XS.icmpNo X68.here hx rfl (hb hby at_7) rfl (flt hc7_70).1 k) ?_
      show own_Fin p e below s _ _ _ T68 (mkF m 10 #[.val (.int p1), .val .null, .unset] [])
      refine own_by (fun _ k => XS.iloadN X68.here hx rfl (hb hby at_10) rfl (XS.bipush X68.here hx rfl (hb hby at_11) k)) ?_
      show own_Fin p e below s _ _ _ T68 (mkF m 13 #[.val (.int p1), .val .null, .unset] [(.int (20 : Int32)), (.int p1)])
      by_cases hc13_71 : (20 : Int32) < p1
      · show own_Fin p e below s _ _ _ T68 (mkF m 13 #[.val (.int p1), .val .null, .unset] [(.int (20 : Int32)), (.int p1)])
        refine own_by (fun _ k => XS.icmpYes X68.here hx rfl (pc0 := 13) (pc' := 26) rfl (hb hby at_13) rfl (tlt hc13_71).2.2.1 (by decide) (by decide) k) ?_
        show own_Fin p e below s _ _ _ T68 (mkF m 26 #[.val (.int p1), .val .null, .unset] [])
        refine own_by (fun _ k => XS.iconst X68.here hx rfl (hb hby at_26) (XS.istoreN X68.here hx rfl (hb hby at_27) rfl (l' := #[.val (.int p1), .val .null, .val (.int (0 : Int32))]) rfl (XS.iloadN X68.here hx rfl (hb hby at_28) rfl k))) ?_
        show own_Fin p e below s _ _ _ T68 (mkF m 29 #[.val (.int p1), .val .null, .val (.int (0 : Int32))] [(.int (0 : Int32))])
        refine own_by (fun _ k => XS.ifNo X68.here hx rfl (hb hby at_29) rfl ((if0 _ _).trans (teq (by decide : (0 : Int32) = (0 : Int32))).2) k) ?_
        show own_Fin p e below s _ _ _ T68 (mkF m 32 #[.val (.int p1), .val .null, .val (.int (0 : Int32))] [])
        refine own_by (fun _ k => XS.aloadN X68.here hx rfl (hb hby at_32) rfl rfl k) ?_
        show own_Fin p e below s _ _ _ T68 (mkF m 33 #[.val (.int p1), .val .null, .val (.int (0 : Int32))] [.null])
        refine own_by (fun _ k => XS.ifnonnullNo X68.here hx rfl (hb hby at_33) rfl k) ?_
        show own_Fin p e below s _ _ _ T68 (mkF m 36 #[.val (.int p1), .val .null, .val (.int (0 : Int32))] [])
        refine own_by (fun _ k => XS.iconst X68.here hx rfl (hb hby at_36) (XS.goto X68.here hx rfl (pc0 := 37) (pc' := 41) rfl (hb hby at_37) (by decide) (by decide) k)) ?_
        show own_Fin p e below s _ _ _ T68 (mkF m 41 #[.val (.int p1), .val .null, .val (.int (0 : Int32))] [(.int (1 : Int32))])
        exact own_retZ X68 hx hlk (t := .boolean) Bd.returns (by simp) (hb hby at_41) ⟨rfl, N68⟩ (by decide) (by decide)
      · show own_Fin p e below s _ _ _ T68 (mkF m 13 #[.val (.int p1), .val .null, .unset] [(.int (20 : Int32)), (.int p1)])
        refine own_by (fun _ k => XS.icmpNo X68.here hx rfl (hb hby at_13) rfl (flt hc13_71).2.2.1 k) ?_
        show own_Fin p e below s _ _ _ T68 (mkF m 16 #[.val (.int p1), .val .null, .unset] [])
        refine own_by (fun _ k => XS.iloadN X68.here hx rfl (hb hby at_16) rfl (XS.bipush X68.here hx rfl (hb hby at_17) k)) ?_
        show own_Fin p e below s _ _ _ T68 (mkF m 19 #[.val (.int p1), .val .null, .unset] [(.int (13 : Int32)), (.int p1)])
        by_cases hc19_72 : p1 = (13 : Int32)
        · show own_Fin p e below s _ _ _ T68 (mkF m 19 #[.val (.int p1), .val .null, .unset] [(.int (13 : Int32)), (.int p1)])
          refine own_by (fun _ k => XS.icmpYes X68.here hx rfl (pc0 := 19) (pc' := 26) rfl (hb hby at_19) rfl (teq hc19_72).1 (by decide) (by decide) k) ?_
          show own_Fin p e below s _ _ _ T68 (mkF m 26 #[.val (.int p1), .val .null, .unset] [])
          refine own_by (fun _ k => XS.iconst X68.here hx rfl (hb hby at_26) (XS.istoreN X68.here hx rfl (hb hby at_27) rfl (l' := #[.val (.int p1), .val .null, .val (.int (0 : Int32))]) rfl (XS.iloadN X68.here hx rfl (hb hby at_28) rfl k))) ?_
          show own_Fin p e below s _ _ _ T68 (mkF m 29 #[.val (.int p1), .val .null, .val (.int (0 : Int32))] [(.int (0 : Int32))])
          refine own_by (fun _ k => XS.ifNo X68.here hx rfl (hb hby at_29) rfl ((if0 _ _).trans (teq (by decide : (0 : Int32) = (0 : Int32))).2) k) ?_
          show own_Fin p e below s _ _ _ T68 (mkF m 32 #[.val (.int p1), .val .null, .val (.int (0 : Int32))] [])
          refine own_by (fun _ k => XS.aloadN X68.here hx rfl (hb hby at_32) rfl rfl k) ?_
          show own_Fin p e below s _ _ _ T68 (mkF m 33 #[.val (.int p1), .val .null, .val (.int (0 : Int32))] [.null])
          refine own_by (fun _ k => XS.ifnonnullNo X68.here hx rfl (hb hby at_33) rfl k) ?_
          show own_Fin p e below s _ _ _ T68 (mkF m 36 #[.val (.int p1), .val .null, .val (.int (0 : Int32))] [])
          refine own_by (fun _ k => XS.iconst X68.here hx rfl (hb hby at_36) (XS.goto X68.here hx rfl (pc0 := 37) (pc' := 41) rfl (hb hby at_37) (by decide) (by decide) k)) ?_
          show own_Fin p e below s _ _ _ T68 (mkF m 41 #[.val (.int p1), .val .null, .val (.int (0 : Int32))] [(.int (1 : Int32))])
          exact own_retZ X68 hx hlk (t := .boolean) Bd.returns (by simp) (hb hby at_41) ⟨rfl, N68⟩ (by decide) (by decide)
        · show own_Fin p e below s _ _ _ T68 (mkF m 19 #[.val (.int p1), .val .null, .unset] [(.int (13 : Int32)), (.int p1)])
          refine own_by (fun _ k => XS.icmpNo X68.here hx rfl (hb hby at_19) rfl (feq hc19_72).1 k) ?_
          show own_Fin p e below s _ _ _ T68 (mkF m 22 #[.val (.int p1), .val .null, .unset] [])
          exact (hn68 p1 ⟨hc7_70, hc13_71, hc19_72⟩ rfl).elim
  · show own_Fin p e below s _ _ _ T68 (mkF m 4 #[.val (.int p1), .unset, .unset] [(.ref tt)])
    refine own_by (fun _ k => XS.astoreN X68.here hx rfl (hb hby at_4) rfl rfl (l' := #[.val (.int p1), .val (.ref tt), .unset]) rfl (XS.iloadN X68.here hx rfl (hb hby at_5) rfl (XS.iconst X68.here hx rfl (hb hby at_6) k))) ?_
    show own_Fin p e below s _ _ _ T68 (mkF m 7 #[.val (.int p1), .val (.ref tt), .unset] [(.int (1 : Int32)), (.int p1)])
    refine own_by (fun _ k => XS.icmpNo X68.here hx rfl (hb hby at_7) rfl (flt hk.1).1 k) ?_
    show own_Fin p e below s _ _ _ T68 (mkF m 10 #[.val (.int p1), .val (.ref tt), .unset] [])
    refine own_by (fun _ k => XS.iloadN X68.here hx rfl (hb hby at_10) rfl (XS.bipush X68.here hx rfl (hb hby at_11) k)) ?_
    show own_Fin p e below s _ _ _ T68 (mkF m 13 #[.val (.int p1), .val (.ref tt), .unset] [(.int (20 : Int32)), (.int p1)])
    refine own_by (fun _ k => XS.icmpNo X68.here hx rfl (hb hby at_13) rfl (flt hk.2.1).2.2.1 k) ?_
    show own_Fin p e below s _ _ _ T68 (mkF m 16 #[.val (.int p1), .val (.ref tt), .unset] [])
    refine own_by (fun _ k => XS.iloadN X68.here hx rfl (hb hby at_16) rfl (XS.bipush X68.here hx rfl (hb hby at_17) k)) ?_
    show own_Fin p e below s _ _ _ T68 (mkF m 19 #[.val (.int p1), .val (.ref tt), .unset] [(.int (13 : Int32)), (.int p1)])
    refine own_by (fun _ k => XS.icmpNo X68.here hx rfl (hb hby at_19) rfl (feq hk.2.2).1 k) ?_
    show own_Fin p e below s _ _ _ T68 (mkF m 22 #[.val (.int p1), .val (.ref tt), .unset] [])
    refine own_by (fun _ k => XS.iconst X68.here hx rfl (hb hby at_22) (XS.goto X68.here hx rfl (pc0 := 23) (pc' := 27) rfl (hb hby at_23) (by decide) (by decide) (XS.istoreN X68.here hx rfl (hb hby at_27) rfl (l' := #[.val (.int p1), .val (.ref tt), .val (.int (1 : Int32))]) rfl (XS.iloadN X68.here hx rfl (hb hby at_28) rfl k)))) ?_
    show own_Fin p e below s _ _ _ T68 (mkF m 29 #[.val (.int p1), .val (.ref tt), .val (.int (1 : Int32))] [(.int (1 : Int32))])
    refine own_by (fun _ k => XS.ifYes X68.here hx rfl (pc0 := 29) (pc' := 42) rfl (hb hby at_29) rfl ((if0 _ _).trans (feq (by decide : ¬ ((1 : Int32) = (0 : Int32)))).2) (by decide) (by decide) k) ?_
    show own_Fin p e below s _ _ _ T68 (mkF m 42 #[.val (.int p1), .val (.ref tt), .val (.int (1 : Int32))] [])
    refine own_by (fun _ k => XS.aloadN X68.here hx rfl (hb hby at_42) rfl rfl k) ?_
    show own_Fin p e below s _ _ _ T68 (mkF m 43 #[.val (.int p1), .val (.ref tt), .val (.int (1 : Int32))] [(.ref tt)])
    refine own_by (fun _ k => XS.ifnullNo X68.here hx rfl (hb hby at_43) rfl k) ?_
    show own_Fin p e below s _ _ _ T68 (mkF m 46 #[.val (.int p1), .val (.ref tt), .val (.int (1 : Int32))] [])
    refine own_by (fun _ k => XS.aloadN X68.here hx rfl (hb hby at_46) rfl rfl k) ?_
    show own_Fin p e below s _ _ _ T68 (mkF m 47 #[.val (.int p1), .val (.ref tt), .val (.int (1 : Int32))] [(.ref tt)])
    obtain ⟨cq73, kq73, q73a, q73b, q73c⟩ := isOf hZ rfl (Yt.1.ext Eo68)
    obtain ⟨_, _, ⟨T73, L73, k73, n73⟩, -, X73, ⟨Lc73, hQ73, l73, y73, z73⟩, st73⟩ := X68.virtualBack hx (y := (⟨"com/example/mosub/mosub/model/OverlayMessage$Type", "code", "()I"⟩ : MethodName)) (z := (⟨"com/example/mosub/mosub/model/OverlayMessage$Type", "code", "()I"⟩ : MethodName)) hown (mvT hZ (hw _ (List.mem_of_getElem? (i := 40) rfl))) (mvT hZ (hw _ (List.mem_of_getElem? (i := 41) rfl))) (notFace_of_selects (args := #[]) (mvT hZ (hw _ (List.mem_of_getElem? (i := 43) rfl)))) (mvT hZ (hw _ (List.mem_of_getElem? (i := 43) rfl))) (mvT hZ (hw _ (List.mem_of_getElem? (i := 42) rfl))) (by decide) (backOf (W := 0) (rm3 l Z a0 hw [] tt p1 T68.heap n0 Zs68 (Yt.2.ext Eo68)) hZ (hw _ (List.mem_of_getElem? (i := 44) rfl)) (hw _ (List.mem_of_getElem? (i := 2) rfl)) (by decide) (by decide)) q73a q73c (g := (mkF m 47 #[.val (.int p1), .val (.ref tt), .val (.int (1 : Int32))] [(.ref tt)])) rfl (by rw [hml]; rfl) (Steps.refl _) (argsL := []) (rest := []) (lenOf own_pd39 rfl) rfl (by show 2 * 0 + _ ≤ _; exact Nat.le_of_eq rfl) (hb hby at_47) (fun _ _ => ⟨rfl, rfl, (by decide : 1 + 0 ≤ _), (by decide : 19 + 0 ≤ _)⟩)
    dsimp only [Pt.U, Pt.locs, Pt.cells, Pt.slots] at X73 l73 y73 z73 st73 hQ73
    subst l73 y73 z73
    obtain ⟨rfl, Nq73, eh73⟩ := hQ73
    have N73 := Fr.app N68 Nq73
    refine own_by (fun _ k => st73.trans k) ?_
    show own_Fin p e below s _ _ _ T73 (mkF m 50 #[.val (.int p1), .val (.ref tt), .val (.int (1 : Int32))] [(.int p1)])
    refine own_by (fun _ k => XS.iloadN X73.here hx rfl (hb hby at_50) rfl k) ?_
    show own_Fin p e below s _ _ _ T73 (mkF m 51 #[.val (.int p1), .val (.ref tt), .val (.int (1 : Int32))] [(.int p1), (.int p1)])
    refine own_by (fun _ k => XS.icmpNo X73.here hx rfl (hb hby at_51) rfl (teq (rfl : p1 = p1)).2 k) ?_
    show own_Fin p e below s _ _ _ T73 (mkF m 54 #[.val (.int p1), .val (.ref tt), .val (.int (1 : Int32))] [])
    refine own_by (fun _ k => XS.iconst X73.here hx rfl (hb hby at_54) (XS.goto X73.here hx rfl (pc0 := 55) (pc' := 59) rfl (hb hby at_55) (by decide) (by decide) k)) ?_
    show own_Fin p e below s _ _ _ T73 (mkF m 59 #[.val (.int p1), .val (.ref tt), .val (.int (1 : Int32))] [(.int (1 : Int32))])
    exact own_retZ X73 hx hlk (t := .boolean) Bd.returns (by simp) (hb hby at_59) ⟨rfl, N73⟩ (by decide) (by decide)
set_option maxRecDepth 65536 in
set_option maxHeartbeats 40000000 in
theorem comes_1 {Post : Tables → Env → Array Value → State → Outcome → State → Prop} (hpost : ∀ tb e args s v u, (limb_1_1.after args s (.returned v) u = true ∧ limb_1_2.after args s (.returned v) u = true ∧ True) → FrameEnd s (.returned v) u (Jvm.fieldLocs frame_1_writes args s ++ Jvm.arrayLocs frame_1_arrays args s ++ Jvm.staticLocs frame_1_statics s) 16 128 → Post tb e args s (.returned v) u) :
    ArmFor flags0 classFile x code maxLocals ret World_1 tables_1 room_1 Calls_1 rest_1 Pre_1 Post := by
  intro l hfl _ _ p e ha hc hk s m args below hf hA hF happ hP
  obtain ⟨hcalls, hrest, hpre⟩ := hP
  obtain ⟨-, -, -, hnamed, -, -, -, hat⟩ := (Spec.applies_iff hf).mp happ
  obtain ⟨hg, hn⟩ := and_e (Cond.before_iff.mp (show (Jvm.Cond.and given_1 narrow_1).before args s = true from hpre))
  obtain ⟨gc, gr0⟩ := and_e hg
  obtain ⟨w0, rfl⟩ : ∃ w0 : Value, args = #[w0] := by
    have hs : args.size = 1 := by simpa [Cond.value, given_1] using gc
    obtain ⟨L⟩ := args
    match L, hs with
    | [w0], _ => exact ⟨w0, rfl⟩
  have hw := fun d (hd : d ∈ tables_1) => atoms_spec (ws := Jvm.Cond.code x code maxLocals ret :: tables_1) hat d (List.mem_cons_of_mem _ hd)
  have hfit : Fit s := fun {y c} hc i hi => by
    obtain ⟨ha, rfl⟩ := Array.getElem?_eq_some_iff.mp hc
    have q := List.all_eq_true.mp ((Array.all_eq_true_iff_forall_mem.mp hF) _ (Array.getElem_mem ha)) i (List.mem_range.mpr hi)
    simpa [Array.getElem?_eq_getElem hi] using q
  obtain ⟨i0, ei0⟩ := is_v gr0
  obtain rfl : w0 = (.int i0) := Option.some.inj ei0
  obtain ⟨na, nr0⟩ := and_e hn
  obtain ⟨nx, nr1⟩ := and_e nr0
  obtain ⟨nl, nr2⟩ := and_e nr1
  obtain ⟨nx0, nr3⟩ := and_e nr2
  obtain ⟨ne0, nr4⟩ := and_e nr3
  obtain ⟨nx1, nr5⟩ := and_e nr4
  obtain ⟨ne1, nr6⟩ := and_e nr5
  obtain ⟨nx2, nr7⟩ := and_e nr6
  obtain ⟨ne2, nr8⟩ := and_e nr7
  obtain ⟨nx3, nr9⟩ := and_e nr8
  obtain ⟨ne3, nr10⟩ := and_e nr9
  obtain ⟨nx4, nr11⟩ := and_e nr10
  obtain ⟨ne4, nr12⟩ := and_e nr11
  obtain ⟨nx5, nr13⟩ := and_e nr12
  obtain ⟨ne5, nr14⟩ := and_e nr13
  obtain ⟨nx6, nr15⟩ := and_e nr14
  obtain ⟨ne6, nr16⟩ := and_e nr15
  obtain ⟨nx7, nr17⟩ := and_e nr16
  obtain ⟨ne7, nr18⟩ := and_e nr17
  obtain ⟨nx8, nr19⟩ := and_e nr18
  obtain ⟨ne8, nr20⟩ := and_e nr19
  obtain ⟨nx9, nr21⟩ := and_e nr20
  obtain ⟨ne9, nr22⟩ := and_e nr21
  obtain ⟨nx10, nr23⟩ := and_e nr22
  obtain ⟨ne10, nr24⟩ := and_e nr23
  obtain ⟨nx11, nr25⟩ := and_e nr24
  obtain ⟨ne11, nr26⟩ := and_e nr25
  obtain ⟨nx12, nr27⟩ := and_e nr26
  obtain ⟨ne12, nr28⟩ := and_e nr27
  obtain ⟨nx13, nr29⟩ := and_e nr28
  obtain ⟨ne13, nr30⟩ := and_e nr29
  obtain ⟨nx14, nr31⟩ := and_e nr30
  obtain ⟨ne14, nr32⟩ := and_e nr31
  obtain ⟨nx15, nr33⟩ := and_e nr32
  obtain ⟨ne15, nr34⟩ := and_e nr33
  obtain ⟨nx16, nr35⟩ := and_e nr34
  obtain ⟨ne16, nr36⟩ := and_e nr35
  obtain ⟨nx17, nr37⟩ := and_e nr36
  obtain ⟨ne17, nr38⟩ := and_e nr37
  obtain ⟨nx18, nr39⟩ := and_e nr38
  obtain ⟨ne18, nr40⟩ := and_e nr39
  obtain ⟨nc0, nr41⟩ := and_e nr40
  obtain ⟨nc1, nr42⟩ := and_e nr41
  obtain ⟨nc2, nr43⟩ := and_e nr42
  obtain ⟨nc3, nr44⟩ := and_e nr43
  obtain ⟨nc4, nr45⟩ := and_e nr44
  obtain ⟨nc5, nr46⟩ := and_e nr45
  obtain ⟨nc6, nr47⟩ := and_e nr46
  obtain ⟨nc7, nr48⟩ := and_e nr47
  obtain ⟨nc8, nr49⟩ := and_e nr48
  obtain ⟨nc9, nr50⟩ := and_e nr49
  obtain ⟨nc10, nr51⟩ := and_e nr50
  obtain ⟨nc11, nr52⟩ := and_e nr51
  obtain ⟨nc12, nr53⟩ := and_e nr52
  obtain ⟨nc13, nr54⟩ := and_e nr53
  obtain ⟨nc14, nr55⟩ := and_e nr54
  obtain ⟨nc15, nr56⟩ := and_e nr55
  obtain ⟨nc16, nr57⟩ := and_e nr56
  obtain ⟨nc17, nr58⟩ := and_e nr57
  have nc18 := nr58
  obtain ⟨va, eva⟩ := arr_v na
  have Sv : Sta s s.heap "com/example/mosub/mosub/model/OverlayMessage$Type" "$VALUES" "[Lcom/example/mosub/mosub/model/OverlayMessage$Type;" (.ref va) := Sta.start eva (Or.inl (hw _ (List.mem_of_getElem? (i := 35) rfl)))
  obtain ⟨cv, Acv⟩ := Arr.start eva na
  have Ev := Exa.start eva nx
  obtain ⟨hl1, hl2⟩ := own_len eva Acv (eqv_i (Term.int_eval (19)) nl)
  obtain ⟨t0, et0⟩ := exa_v nx0
  have y0 : own_Ty s t0 (1 : Int32) := ⟨Exa.start et0 nx0, Fld.start ((fld_at et0).symm.trans (eqv_i (Term.int_eval (1)) nc0))⟩
  obtain ⟨t1, et1⟩ := exa_v nx1
  have y1 : own_Ty s t1 (2 : Int32) := ⟨Exa.start et1 nx1, Fld.start ((fld_at et1).symm.trans (eqv_i (Term.int_eval (2)) nc1))⟩
  obtain ⟨t2, et2⟩ := exa_v nx2
  have y2 : own_Ty s t2 (3 : Int32) := ⟨Exa.start et2 nx2, Fld.start ((fld_at et2).symm.trans (eqv_i (Term.int_eval (3)) nc2))⟩
  obtain ⟨t3, et3⟩ := exa_v nx3
  have y3 : own_Ty s t3 (4 : Int32) := ⟨Exa.start et3 nx3, Fld.start ((fld_at et3).symm.trans (eqv_i (Term.int_eval (4)) nc3))⟩
  obtain ⟨t4, et4⟩ := exa_v nx4
  have y4 : own_Ty s t4 (5 : Int32) := ⟨Exa.start et4 nx4, Fld.start ((fld_at et4).symm.trans (eqv_i (Term.int_eval (5)) nc4))⟩
  obtain ⟨t5, et5⟩ := exa_v nx5
  have y5 : own_Ty s t5 (6 : Int32) := ⟨Exa.start et5 nx5, Fld.start ((fld_at et5).symm.trans (eqv_i (Term.int_eval (6)) nc5))⟩
  obtain ⟨t6, et6⟩ := exa_v nx6
  have y6 : own_Ty s t6 (7 : Int32) := ⟨Exa.start et6 nx6, Fld.start ((fld_at et6).symm.trans (eqv_i (Term.int_eval (7)) nc6))⟩
  obtain ⟨t7, et7⟩ := exa_v nx7
  have y7 : own_Ty s t7 (8 : Int32) := ⟨Exa.start et7 nx7, Fld.start ((fld_at et7).symm.trans (eqv_i (Term.int_eval (8)) nc7))⟩
  obtain ⟨t8, et8⟩ := exa_v nx8
  have y8 : own_Ty s t8 (9 : Int32) := ⟨Exa.start et8 nx8, Fld.start ((fld_at et8).symm.trans (eqv_i (Term.int_eval (9)) nc8))⟩
  obtain ⟨t9, et9⟩ := exa_v nx9
  have y9 : own_Ty s t9 (10 : Int32) := ⟨Exa.start et9 nx9, Fld.start ((fld_at et9).symm.trans (eqv_i (Term.int_eval (10)) nc9))⟩
  obtain ⟨t10, et10⟩ := exa_v nx10
  have y10 : own_Ty s t10 (11 : Int32) := ⟨Exa.start et10 nx10, Fld.start ((fld_at et10).symm.trans (eqv_i (Term.int_eval (11)) nc10))⟩
  obtain ⟨t11, et11⟩ := exa_v nx11
  have y11 : own_Ty s t11 (12 : Int32) := ⟨Exa.start et11 nx11, Fld.start ((fld_at et11).symm.trans (eqv_i (Term.int_eval (12)) nc11))⟩
  obtain ⟨t12, et12⟩ := exa_v nx12
  have y12 : own_Ty s t12 (14 : Int32) := ⟨Exa.start et12 nx12, Fld.start ((fld_at et12).symm.trans (eqv_i (Term.int_eval (14)) nc12))⟩
  obtain ⟨t13, et13⟩ := exa_v nx13
  have y13 : own_Ty s t13 (15 : Int32) := ⟨Exa.start et13 nx13, Fld.start ((fld_at et13).symm.trans (eqv_i (Term.int_eval (15)) nc13))⟩
  obtain ⟨t14, et14⟩ := exa_v nx14
  have y14 : own_Ty s t14 (16 : Int32) := ⟨Exa.start et14 nx14, Fld.start ((fld_at et14).symm.trans (eqv_i (Term.int_eval (16)) nc14))⟩
  obtain ⟨t15, et15⟩ := exa_v nx15
  have y15 : own_Ty s t15 (17 : Int32) := ⟨Exa.start et15 nx15, Fld.start ((fld_at et15).symm.trans (eqv_i (Term.int_eval (17)) nc15))⟩
  obtain ⟨t16, et16⟩ := exa_v nx16
  have y16 : own_Ty s t16 (18 : Int32) := ⟨Exa.start et16 nx16, Fld.start ((fld_at et16).symm.trans (eqv_i (Term.int_eval (18)) nc16))⟩
  obtain ⟨t17, et17⟩ := exa_v nx17
  have y17 : own_Ty s t17 (19 : Int32) := ⟨Exa.start et17 nx17, Fld.start ((fld_at et17).symm.trans (eqv_i (Term.int_eval (19)) nc17))⟩
  obtain ⟨t18, et18⟩ := exa_v nx18
  have y18 : own_Ty s t18 (20 : Int32) := ⟨Exa.start et18 nx18, Fld.start ((fld_at et18).symm.trans (eqv_i (Term.int_eval (20)) nc18))⟩
  have Vv : Arv s s.heap va cv.cls (.object "com/example/mosub/mosub/model/OverlayMessage$Type") (19 : Int32) [(.ref t0), (.ref t1), (.ref t2), (.ref t3), (.ref t4), (.ref t5), (.ref t6), (.ref t7), (.ref t8), (.ref t9), (.ref t10), (.ref t11), (.ref t12), (.ref t13), (.ref t14), (.ref t15), (.ref t16), (.ref t17), (.ref t18)] .null := Arv.start hfit Acv hl1 hl2 (by decide) (by rfl) ⟨own_el eva Acv.1 et0 ne0, own_el eva Acv.1 et1 ne1, own_el eva Acv.1 et2 ne2, own_el eva Acv.1 et3 ne3, own_el eva Acv.1 et4 ne4, own_el eva Acv.1 et5 ne5, own_el eva Acv.1 et6 ne6, own_el eva Acv.1 et7 ne7, own_el eva Acv.1 et8 ne8, own_el eva Acv.1 et9 ne9, own_el eva Acv.1 et10 ne10, own_el eva Acv.1 et11 ne11, own_el eva Acv.1 et12 ne12, own_el eva Acv.1 et13 ne13, own_el eva Acv.1 et14 ne14, own_el eva Acv.1 et15 ne15, own_el eva Acv.1 et16 ne16, own_el eva Acv.1 et17 ne17, own_el eva Acv.1 et18 ne18, trivial⟩
  obtain ⟨n, o, h1, h2, h3, _, L, rfl, ⟨rfl, N⟩, hq⟩ := rm0 l s _ hw tables_1 i0 va cv.cls t0 t1 t2 t3 t4 t5 t6 t7 t8 t9 t10 t11 t12 t13 t14 t15 t16 t17 t18 s.heap s.heap.size (Nat.le_refl _) Sv Vv Ev y0 y1 y2 y3 y4 y5 y6 y7 y8 y9 y10 y11 y12 y13 y14 y15 y16 y17 y18 ⟨Nat.le_refl _, fun _ _ q => q⟩ p e ha hc hk s m _ below hf ((Spec.applies_iff_loose hf).mp happ).1 ⟨rfl, State.Warmed39.refl s, rfl⟩ trivial
  refine ⟨n, _, h1, h2, h3, hpost _ _ _ _ _ _ ⟨Cond.after_iff.mpr rfl, Cond.after_iff.mpr (eq_i res_at (Term.int_eval (1)) rfl), trivial⟩ ⟨hq.1, hq.2.1, (hq.2.2.sift fun y hy => Or.inr (N y hy)).mono (by decide) (by decide)⟩⟩
theorem main_1_1 : Claimed_1_1 := comes_1 fun _ _ _ _ _ _ h hF => ⟨h.1, hF⟩
theorem main_1_2 : Claimed_1_2 := comes_1 fun _ _ _ _ _ _ h hF => ⟨h.2.1, hF⟩
end Jvm.Pilot.@@N@@
namespace Jvm.Pilot.@@N@@
open Jvm Jvm.ClassFile Sem Op Lib Jvm.Free Jvm.Stand Jvm.Pilot.@@N@@.Jvm.D
/-! MADE BY PROGRAM (witnessworld.py) out of the Statement's table words and the real class files: 12 classes; the members and pool entries that the words name. The judged class is class 1, her method 1. -/
namespace start1
open Jvm.ClassFile
def u (s : String) : CpInfo := .utf8 (stringToUtf16 s)
/-- a pool by its gaps: so many unusable entries, then the entry; so many at the end -/
def gap : Nat → List CpInfo → List CpInfo
  | 0, r => r
  | n + 1, r => .unusable :: gap n r
def poolList (es : List (Nat × CpInfo)) (last : Nat) : List CpInfo := es.foldr (fun e r => gap e.1 (e.2 :: r)) (gap last [])
def pool (es : List (Nat × CpInfo)) (last : Nat) : Array CpInfo := ⟨poolList es last⟩
def fileOf (pool : Array CpInfo) (this : Nat) (attrs : Array Attribute := #[]) (ms : Array MethodInfo := #[]) (fl : Nat := 33) (sup : Nat := 0) (ifs : Array Nat := #[]) (fds : Array FieldInfo := #[]) : ClassFile where
  minorVersion := 0
  majorVersion := 65
  constantPool := pool
  accessFlags := fl
  thisClass := this
  superClass := sup
  interfaces := ifs
  fields := fds
  methods := ms
  attributes := attrs
def plain (name : String) (sup : Option ClassId) : Class where
  name := name
  kind := .ordinary
  loader := none
  accessFlags := 33
  super := sup
  interfaces := #[]
  cf := none
  fields := #[]
  methods := #[]
  instanceTypes := #[]
  staticTypes := #[]
  resolved := #[]
  callSites := []
  init := .initialized
  statics := none
  mirror := none

def pool0 : Array CpInfo := pool [(5, u "<init>"), (0, u "()V"), (1, .class_ 10), (1, u "java/lang/Object"), (85, u "clone"), (0, u "()Ljava/lang/Object;")] 26

def k0m0 : Method := { name := "<init>", desc := "()V", sig := { parameters := [], returnType := none }, accessFlags := 1, code := none }
def k0m1 : Method := { name := "clone", desc := "()Ljava/lang/Object;", sig := { parameters := [], returnType := some (.object "java/lang/Object") }, accessFlags := 260, code := none }
/-- java/lang/Object -/
def k0 : Class := { plain "java/lang/Object" none with
  accessFlags := 33
  interfaces := #[]
  cf := some (fileOf pool0 8 #[] #[{ accessFlags := 1, nameIndex := 5, descriptorIndex := 6, attributes := #[] }, { accessFlags := 260, nameIndex := 96, descriptorIndex := 97, attributes := #[] }] 33 0 #[] #[])
  fields := #[]
  methods := #[k0m0, k0m1]
  instanceTypes := #[]
  staticTypes := #[]
  resolved := Array.replicate 124 none
  statics := none }

def pool1 : Array CpInfo := pool [(2, .class_ 4), (1, u "java/lang/Object"), (0, u "<init>"), (0, u "()V"), (0, .methodref 8 9), (0, .class_ 10), (0, .nameAndType 11 12), (0, u "com/example/mosub/mosub/model/OverlayMessage$Type"), (0, u "ofCode"), (0, u "(I)Lcom/example/mosub/mosub/model/OverlayMessage$Type;"), (0, .methodref 8 14), (0, .nameAndType 15 16), (0, u "code"), (0, u "()I"), (0, .class_ 18), (0, u "com/example/mosub/mosub/model/TypeOfCodePinLaw"), (2, u "law"), (0, u "(I)Z")] 7

def k1m0 : Method := { name := "<init>", desc := "()V", sig := { parameters := [], returnType := none }, accessFlags := 1, code := none }
def k1c1 : Code := { maxStack := 2, maxLocals := 3, code := code, exceptionTable := #[], attributes := #[] }
def k1m1 : Method := { name := "law", desc := "(I)Z", sig := { parameters := [.int], returnType := some .boolean }, accessFlags := 9, code := some k1c1 }
/-- com/example/mosub/mosub/model/TypeOfCodePinLaw -/
def k1 : Class := { plain "com/example/mosub/mosub/model/TypeOfCodePinLaw" (some 0) with
  accessFlags := 49
  interfaces := #[]
  cf := some (fileOf pool1 17 #[] #[{ accessFlags := 1, nameIndex := 5, descriptorIndex := 6, attributes := #[] }, { accessFlags := 9, nameIndex := 21, descriptorIndex := 22, attributes := #[] }] 49 2 #[] #[])
  fields := #[]
  methods := #[k1m0, k1m1]
  instanceTypes := #[]
  staticTypes := #[]
  resolved := Array.replicate 30 none
  statics := none }

def pool2 : Array CpInfo := pool [(1, .class_ 2), (0, u "java/lang/constant/Constable"), (0, .class_ 4), (0, u "java/lang/Object")] 6

/-- java/lang/constant/Constable -/
def k2 : Class := { plain "java/lang/constant/Constable" (some 0) with
  accessFlags := 1537
  interfaces := #[]
  cf := some (fileOf pool2 1 #[] #[] 1537 3 #[] #[])
  fields := #[]
  methods := #[]
  instanceTypes := #[]
  staticTypes := #[]
  resolved := Array.replicate 11 none
  statics := none }

def pool3 : Array CpInfo := pool [(1, .class_ 2), (0, u "java/lang/Comparable"), (0, .class_ 4), (0, u "java/lang/Object")] 7

/-- java/lang/Comparable -/
def k3 : Class := { plain "java/lang/Comparable" (some 0) with
  accessFlags := 1537
  interfaces := #[]
  cf := some (fileOf pool3 1 #[] #[] 1537 3 #[] #[])
  fields := #[]
  methods := #[]
  instanceTypes := #[]
  staticTypes := #[]
  resolved := Array.replicate 12 none
  statics := none }

def pool4 : Array CpInfo := pool [(1, .class_ 2), (0, u "java/io/Serializable"), (0, .class_ 4), (0, u "java/lang/Object")] 2

/-- java/io/Serializable -/
def k4 : Class := { plain "java/io/Serializable" (some 0) with
  accessFlags := 1537
  interfaces := #[]
  cf := some (fileOf pool4 1 #[] #[] 1537 3 #[] #[])
  fields := #[]
  methods := #[]
  instanceTypes := #[]
  staticTypes := #[]
  resolved := Array.replicate 7 none
  statics := none }

def pool5 : Array CpInfo := pool [(2, .class_ 4), (1, u "java/lang/Enum"), (0, u "name"), (0, u "Ljava/lang/String;"), (2, u "ordinal"), (0, u "I"), (1, .class_ 14), (1, u "java/lang/Object"), (4, u "hash"), (86, .class_ 108), (1, u "java/lang/Enum$EnumDesc"), (2, .class_ 112), (0, u "java/lang/constant/Constable"), (0, .class_ 114), (0, u "java/lang/Comparable"), (0, .class_ 116), (0, u "java/io/Serializable")] 87

/-- java/lang/Enum -/
def k5 : Class := { plain "java/lang/Enum" (some 0) with
  accessFlags := 1057
  interfaces := #[2, 3, 4]
  cf := some (fileOf pool5 2 #[.nestMembers #[106]] #[] 1057 12 #[111, 113, 115] #[{ accessFlags := 18, nameIndex := 5, descriptorIndex := 6, attributes := #[] }, { accessFlags := 18, nameIndex := 9, descriptorIndex := 10, attributes := #[] }, { accessFlags := 2, nameIndex := 19, descriptorIndex := 10, attributes := #[] }])
  fields := #[{ name := "name", type := (.object "java/lang/String"), accessFlags := 18, slot := 0, constantValue := 0 }, { name := "ordinal", type := .int, accessFlags := 18, slot := 1, constantValue := 0 }, { name := "hash", type := .int, accessFlags := 2, slot := 2, constantValue := 0 }]
  methods := #[]
  instanceTypes := #[(.object "java/lang/String"), .int, .int]
  staticTypes := #[]
  resolved := Array.replicate 204 none
  statics := none }

def pool6 : Array CpInfo := pool [(1, .class_ 2), (0, u "com/example/mosub/mosub/model/OverlayMessage$Type"), (2, u "HELLO"), (0, u "Lcom/example/mosub/mosub/model/OverlayMessage$Type;"), (2, u "INTEREST"), (2, u "ANSWER"), (2, u "PUBLICATION"), (2, u "SESSION_PRESENT"), (2, u "SESSION_ENDED"), (2, u "HANDOFF_REQUEST"), (2, u "HANDOFF_DISCARD"), (2, u "HANDOFF_NONE"), (2, u "SESSION_MOVE"), (2, u "MOVED_MESSAGE"), (2, u "HANDOFF_ACK"), (2, u "HEARTBEAT"), (2, u "RETAINED"), (2, u "REACH"), (2, u "CHALLENGE"), (2, u "PROOF"), (2, u "SESSION_JOIN"), (2, u "HANDOFF_HELD"), (0, .fieldref 1 62), (0, .nameAndType 63 64), (0, u "$VALUES"), (0, u "[Lcom/example/mosub/mosub/model/OverlayMessage$Type;"), (0, .methodref 66 67), (0, .class_ 64), (0, .nameAndType 68 69), (0, u "clone"), (0, u "()Ljava/lang/Object;"), (1, .class_ 73), (1, u "java/lang/Enum"), (6, .fieldref 1 81), (0, .nameAndType 82 83), (0, u "code"), (0, u "I"), (2, u "signal"), (0, u "Z"), (0, .methodref 1 89), (0, .nameAndType 90 91), (0, u "values"), (0, u "()[Lcom/example/mosub/mosub/model/OverlayMessage$Type;"), (31, u "ofCode"), (0, u "(I)Lcom/example/mosub/mosub/model/OverlayMessage$Type;"), (1, u "()I"), (7, .class_ 135), (0, u "com/example/mosub/mosub/model/OverlayMessage")] 2

def k6c0 : Code := { maxStack := 1, maxLocals := 0, code := prog_26_method_1_code, exceptionTable := #[], attributes := #[] }
def k6m0 : Method := { name := "values", desc := "()[Lcom/example/mosub/mosub/model/OverlayMessage$Type;", sig := { parameters := [], returnType := some (.array (.object "com/example/mosub/mosub/model/OverlayMessage$Type")) }, accessFlags := 9, code := some k6c0 }
def k6c1 : Code := { maxStack := 2, maxLocals := 5, code := prog_26_method_4_code, exceptionTable := #[], attributes := #[] }
def k6m1 : Method := { name := "ofCode", desc := "(I)Lcom/example/mosub/mosub/model/OverlayMessage$Type;", sig := { parameters := [.int], returnType := some (.object "com/example/mosub/mosub/model/OverlayMessage$Type") }, accessFlags := 9, code := some k6c1 }
def k6c2 : Code := { maxStack := 1, maxLocals := 1, code := prog_26_method_5_code, exceptionTable := #[], attributes := #[] }
def k6m2 : Method := { name := "code", desc := "()I", sig := { parameters := [], returnType := some .int }, accessFlags := 1, code := some k6c2 }
/-- com/example/mosub/mosub/model/OverlayMessage$Type -/
def k6 : Class := { plain "com/example/mosub/mosub/model/OverlayMessage$Type" (some 5) with
  accessFlags := 16433
  interfaces := #[]
  cf := some (fileOf pool6 1 #[.nestHost 134] #[{ accessFlags := 9, nameIndex := 90, descriptorIndex := 91, attributes := #[] }, { accessFlags := 9, nameIndex := 123, descriptorIndex := 124, attributes := #[] }, { accessFlags := 1, nameIndex := 82, descriptorIndex := 126, attributes := #[] }] 16433 71 #[] #[{ accessFlags := 16409, nameIndex := 5, descriptorIndex := 6, attributes := #[] }, { accessFlags := 16409, nameIndex := 9, descriptorIndex := 6, attributes := #[] }, { accessFlags := 16409, nameIndex := 12, descriptorIndex := 6, attributes := #[] }, { accessFlags := 16409, nameIndex := 15, descriptorIndex := 6, attributes := #[] }, { accessFlags := 16409, nameIndex := 18, descriptorIndex := 6, attributes := #[] }, { accessFlags := 16409, nameIndex := 21, descriptorIndex := 6, attributes := #[] }, { accessFlags := 16409, nameIndex := 24, descriptorIndex := 6, attributes := #[] }, { accessFlags := 16409, nameIndex := 27, descriptorIndex := 6, attributes := #[] }, { accessFlags := 16409, nameIndex := 30, descriptorIndex := 6, attributes := #[] }, { accessFlags := 16409, nameIndex := 33, descriptorIndex := 6, attributes := #[] }, { accessFlags := 16409, nameIndex := 36, descriptorIndex := 6, attributes := #[] }, { accessFlags := 16409, nameIndex := 39, descriptorIndex := 6, attributes := #[] }, { accessFlags := 16409, nameIndex := 42, descriptorIndex := 6, attributes := #[] }, { accessFlags := 16409, nameIndex := 45, descriptorIndex := 6, attributes := #[] }, { accessFlags := 16409, nameIndex := 48, descriptorIndex := 6, attributes := #[] }, { accessFlags := 16409, nameIndex := 51, descriptorIndex := 6, attributes := #[] }, { accessFlags := 16409, nameIndex := 54, descriptorIndex := 6, attributes := #[] }, { accessFlags := 16409, nameIndex := 57, descriptorIndex := 6, attributes := #[] }, { accessFlags := 16409, nameIndex := 60, descriptorIndex := 6, attributes := #[] }, { accessFlags := 18, nameIndex := 82, descriptorIndex := 83, attributes := #[] }, { accessFlags := 18, nameIndex := 86, descriptorIndex := 87, attributes := #[] }, { accessFlags := 4122, nameIndex := 63, descriptorIndex := 64, attributes := #[] }])
  fields := #[{ name := "HELLO", type := (.object "com/example/mosub/mosub/model/OverlayMessage$Type"), accessFlags := 16409, slot := 0, constantValue := 0 }, { name := "INTEREST", type := (.object "com/example/mosub/mosub/model/OverlayMessage$Type"), accessFlags := 16409, slot := 1, constantValue := 0 }, { name := "ANSWER", type := (.object "com/example/mosub/mosub/model/OverlayMessage$Type"), accessFlags := 16409, slot := 2, constantValue := 0 }, { name := "PUBLICATION", type := (.object "com/example/mosub/mosub/model/OverlayMessage$Type"), accessFlags := 16409, slot := 3, constantValue := 0 }, { name := "SESSION_PRESENT", type := (.object "com/example/mosub/mosub/model/OverlayMessage$Type"), accessFlags := 16409, slot := 4, constantValue := 0 }, { name := "SESSION_ENDED", type := (.object "com/example/mosub/mosub/model/OverlayMessage$Type"), accessFlags := 16409, slot := 5, constantValue := 0 }, { name := "HANDOFF_REQUEST", type := (.object "com/example/mosub/mosub/model/OverlayMessage$Type"), accessFlags := 16409, slot := 6, constantValue := 0 }, { name := "HANDOFF_DISCARD", type := (.object "com/example/mosub/mosub/model/OverlayMessage$Type"), accessFlags := 16409, slot := 7, constantValue := 0 }, { name := "HANDOFF_NONE", type := (.object "com/example/mosub/mosub/model/OverlayMessage$Type"), accessFlags := 16409, slot := 8, constantValue := 0 }, { name := "SESSION_MOVE", type := (.object "com/example/mosub/mosub/model/OverlayMessage$Type"), accessFlags := 16409, slot := 9, constantValue := 0 }, { name := "MOVED_MESSAGE", type := (.object "com/example/mosub/mosub/model/OverlayMessage$Type"), accessFlags := 16409, slot := 10, constantValue := 0 }, { name := "HANDOFF_ACK", type := (.object "com/example/mosub/mosub/model/OverlayMessage$Type"), accessFlags := 16409, slot := 11, constantValue := 0 }, { name := "HEARTBEAT", type := (.object "com/example/mosub/mosub/model/OverlayMessage$Type"), accessFlags := 16409, slot := 12, constantValue := 0 }, { name := "RETAINED", type := (.object "com/example/mosub/mosub/model/OverlayMessage$Type"), accessFlags := 16409, slot := 13, constantValue := 0 }, { name := "REACH", type := (.object "com/example/mosub/mosub/model/OverlayMessage$Type"), accessFlags := 16409, slot := 14, constantValue := 0 }, { name := "CHALLENGE", type := (.object "com/example/mosub/mosub/model/OverlayMessage$Type"), accessFlags := 16409, slot := 15, constantValue := 0 }, { name := "PROOF", type := (.object "com/example/mosub/mosub/model/OverlayMessage$Type"), accessFlags := 16409, slot := 16, constantValue := 0 }, { name := "SESSION_JOIN", type := (.object "com/example/mosub/mosub/model/OverlayMessage$Type"), accessFlags := 16409, slot := 17, constantValue := 0 }, { name := "HANDOFF_HELD", type := (.object "com/example/mosub/mosub/model/OverlayMessage$Type"), accessFlags := 16409, slot := 18, constantValue := 0 }, { name := "code", type := .int, accessFlags := 18, slot := 3, constantValue := 0 }, { name := "signal", type := .boolean, accessFlags := 18, slot := 4, constantValue := 0 }, { name := "$VALUES", type := (.array (.object "com/example/mosub/mosub/model/OverlayMessage$Type")), accessFlags := 4122, slot := 19, constantValue := 0 }]
  methods := #[k6m0, k6m1, k6m2]
  instanceTypes := #[(.object "java/lang/String"), .int, .int, .int, .boolean]
  staticTypes := #[(.object "com/example/mosub/mosub/model/OverlayMessage$Type"), (.object "com/example/mosub/mosub/model/OverlayMessage$Type"), (.object "com/example/mosub/mosub/model/OverlayMessage$Type"), (.object "com/example/mosub/mosub/model/OverlayMessage$Type"), (.object "com/example/mosub/mosub/model/OverlayMessage$Type"), (.object "com/example/mosub/mosub/model/OverlayMessage$Type"), (.object "com/example/mosub/mosub/model/OverlayMessage$Type"), (.object "com/example/mosub/mosub/model/OverlayMessage$Type"), (.object "com/example/mosub/mosub/model/OverlayMessage$Type"), (.object "com/example/mosub/mosub/model/OverlayMessage$Type"), (.object "com/example/mosub/mosub/model/OverlayMessage$Type"), (.object "com/example/mosub/mosub/model/OverlayMessage$Type"), (.object "com/example/mosub/mosub/model/OverlayMessage$Type"), (.object "com/example/mosub/mosub/model/OverlayMessage$Type"), (.object "com/example/mosub/mosub/model/OverlayMessage$Type"), (.object "com/example/mosub/mosub/model/OverlayMessage$Type"), (.object "com/example/mosub/mosub/model/OverlayMessage$Type"), (.object "com/example/mosub/mosub/model/OverlayMessage$Type"), (.object "com/example/mosub/mosub/model/OverlayMessage$Type"), (.array (.object "com/example/mosub/mosub/model/OverlayMessage$Type"))]
  resolved := Array.replicate 138 none
  statics := some 0 }

def pool7 : Array CpInfo := pool [(1, .class_ 2), (0, u "java/lang/Cloneable"), (0, .class_ 4), (0, u "java/lang/Object")] 2

/-- java/lang/Cloneable -/
def k7 : Class := { plain "java/lang/Cloneable" (some 0) with
  accessFlags := 1537
  interfaces := #[]
  cf := some (fileOf pool7 1 #[] #[] 1537 3 #[] #[])
  fields := #[]
  methods := #[]
  instanceTypes := #[]
  staticTypes := #[]
  resolved := Array.replicate 7 none
  statics := none }

/-- the primitive byte -/
def k8 : Class := { plain "byte" none with kind := .primitive 'B', accessFlags := 0x411 }
/-- [B -/
def k9 : Class := { plain "[B" (some 0) with kind := .array 8 .byte, interfaces := #[7, 4], accessFlags := 1041 }

/-- the primitive int -/
def k10 : Class := { plain "int" none with kind := .primitive 'I', accessFlags := 0x411 }
/-- [I -/
def k11 : Class := { plain "[I" (some 0) with kind := .array 10 .int, interfaces := #[7, 4], accessFlags := 1041 }

/-- [L..Type; -/
def k12 : Class := { plain "[Lcom/example/mosub/mosub/model/OverlayMessage$Type;" (some 0) with kind := .array 6 (.object "com/example/mosub/mosub/model/OverlayMessage$Type"), interfaces := #[7, 4], accessFlags := 1041 }
def heap : Heap := #[{ cls := 6, slots := #[.ref 2, .ref 3, .ref 4, .ref 5, .ref 6, .ref 7, .ref 8, .ref 9, .ref 10, .ref 11, .ref 12, .ref 13, .ref 14, .ref 15, .ref 16, .ref 17, .ref 18, .ref 19, .ref 20, .ref 1], vm := .statics 6 },
  { cls := 12, slots := #[.ref 2, .ref 3, .ref 4, .ref 5, .ref 6, .ref 7, .ref 8, .ref 9, .ref 10, .ref 11, .ref 12, .ref 13, .ref 14, .ref 15, .ref 16, .ref 17, .ref 18, .ref 19, .ref 20], vm := .none },
  { cls := 6, slots := #[.null, .int 0, .int 0, .int 1, .int 0], vm := .none },
  { cls := 6, slots := #[.null, .int 1, .int 0, .int 2, .int 0], vm := .none },
  { cls := 6, slots := #[.null, .int 2, .int 0, .int 3, .int 0], vm := .none },
  { cls := 6, slots := #[.null, .int 3, .int 0, .int 4, .int 0], vm := .none },
  { cls := 6, slots := #[.null, .int 4, .int 0, .int 5, .int 0], vm := .none },
  { cls := 6, slots := #[.null, .int 5, .int 0, .int 6, .int 0], vm := .none },
  { cls := 6, slots := #[.null, .int 6, .int 0, .int 7, .int 0], vm := .none },
  { cls := 6, slots := #[.null, .int 7, .int 0, .int 8, .int 0], vm := .none },
  { cls := 6, slots := #[.null, .int 8, .int 0, .int 9, .int 0], vm := .none },
  { cls := 6, slots := #[.null, .int 9, .int 0, .int 10, .int 0], vm := .none },
  { cls := 6, slots := #[.null, .int 10, .int 0, .int 11, .int 0], vm := .none },
  { cls := 6, slots := #[.null, .int 11, .int 0, .int 12, .int 0], vm := .none },
  { cls := 6, slots := #[.null, .int 12, .int 0, .int 14, .int 0], vm := .none },
  { cls := 6, slots := #[.null, .int 13, .int 0, .int 15, .int 0], vm := .none },
  { cls := 6, slots := #[.null, .int 14, .int 0, .int 16, .int 0], vm := .none },
  { cls := 6, slots := #[.null, .int 15, .int 0, .int 17, .int 0], vm := .none },
  { cls := 6, slots := #[.null, .int 16, .int 0, .int 18, .int 0], vm := .none },
  { cls := 6, slots := #[.null, .int 17, .int 0, .int 19, .int 0], vm := .none },
  { cls := 6, slots := #[.null, .int 18, .int 0, .int 20, .int 0], vm := .none }]
def classes : Array Class := #[k0, k1, k2, k3, k4, k5, k6, k7, k8, k9, k10, k11, k12]
def interned : List (Array UInt16 × Addr) := []
def slotsUsed : Nat := 134
def theMethod : MethodId := ⟨1, 1⟩
def args0 : Array Value := #[.int 5]
def aboutOver (below : List Frame) : State where
  vm := { classes := classes, interned := interned.toArray }
  heap := heap
  slotsUsed := slotsUsed
  threads := #[{ frames := .invoking theMethod args0 :: below }]
def below0 : List Frame := [.native { method := ⟨0, 0⟩, args := #[] }]
def about1 : State := aboutOver below0
def p0 : Program := .bare "" "" ""
def e0 : Env := launch0.env 0 0 0
theorem w_frames : about1.frames = Frame.invoking theMethod args0 :: below0 := rfl
set_option maxRecDepth 65536 in
theorem w_args : argsFit about1.vm theMethod args0 = true := by decide +kernel
set_option maxRecDepth 65536 in
theorem w_heap : heapFits about1 = true := by decide +kernel
set_option maxRecDepth 65536 in
theorem w_runnable : about1.curStatus? = some .runnable := by decide +kernel
set_option maxRecDepth 65536 in
theorem w_alone : about1.alone = true := by decide +kernel
set_option maxRecDepth 65536 in
theorem w_named : about1.methodNamed? x = some theMethod := by decide +kernel
set_option maxRecDepth 65536 in
theorem w_hears : about1.hears theMethod below0 = true := by decide +kernel
set_option maxRecDepth 65536 in
theorem w_ripe : about1.ripe theMethod args0 below0 = true := by decide +kernel
theorem w_running : about1.status = .running := rfl
set_option maxRecDepth 65536 in
theorem w_room : about1.hasRoom e0.platform room_1 = true :=
  launch0.hasRoom_least _ room_1 (by decide +kernel) (by decide +kernel) (by decide +kernel) (by decide +kernel) (by decide +kernel) (by decide +kernel)
theorem allAtoms_all (ts : List Jvm.Cond) (a : Array Jvm.Value) (st : Jvm.State) : (allAtoms ts).before a st = ts.all (fun c => c.before a st) := by
  induction ts with
  | nil => rfl
  | cons c t ih =>
    show (Jvm.Cond.and c (allAtoms t)).before a st = _
    rw [Jvm.Cond.before_and, ih, List.all_cons]
def words1 : List Jvm.Cond := Jvm.Cond.code x code maxLocals ret :: tables_1
/-- a 'code' word, met by the world's own term for the bytes: nothing is compared byte by byte -/
theorem code_word {y : MethodName} {bytes : ByteArray} {mx : Nat} {rt : Option FieldType} {a : Array Value} {s : State} {m : MethodId} {meth : Method} {c : Code} (h1 : s.methodNamed? y = some m) (h2 : s.vm.method? m = some meth) (h3 : meth.code = some c) (h4 : c.code = bytes)
    (h5 : (c.maxLocals == mx && c.exceptionTable.isEmpty && decide (c.maxStack ≤ mostOperands) && decide (meth.sig.returnType = rt) && !meth.locks && decide (parseMethodDescriptor y.desc = some meth.sig)) = true) : (Jvm.Cond.code y bytes mx rt).before a s = true := by
  simp only [Bool.and_eq_true, beq_iff_eq, Bool.not_eq_true', decide_eq_true_eq] at h5
  obtain ⟨⟨⟨⟨⟨g1, g2⟩, g3⟩, g4⟩, g5⟩, g6⟩ := h5
  simp [Cond.before, Cond.holds, Cond.value, h1, h2, h3, h4, g1, g2, g3, g4, g5, g6]
def isCode : Jvm.Cond → Bool
  | .code _ _ _ _ => true
  | _ => false
theorem all_split {L : List Jvm.Cond} {P : Jvm.Cond → Bool} (h1 : L.all (fun c => isCode c || P c) = true) (h2 : ∀ c ∈ L.filter isCode, P c = true) : L.all P = true := by
  refine List.all_eq_true.mpr fun c hc => ?_
  have h := List.all_eq_true.mp h1 c hc
  rcases Bool.eq_false_or_eq_true (isCode c) with hi | hi
  · exact h2 c (List.mem_filter.mpr ⟨hc, hi⟩)
  · simpa [hi] using h
set_option maxRecDepth 65536 in
theorem w_c0 : (Jvm.Cond.code x code maxLocals ret).before args0 about1 = true := code_word (m := ⟨1, 1⟩) (meth := k1m1) (c := k1c1) (by decide +kernel) rfl rfl rfl (by decide +kernel)
set_option maxRecDepth 65536 in
theorem w_c1 : (Jvm.Cond.code ({ cls := "com/example/mosub/mosub/model/OverlayMessage$Type", name := "ofCode", desc := "(I)Lcom/example/mosub/mosub/model/OverlayMessage$Type;" } : Jvm.MethodName) prog_26_method_4_code (5 : Nat) (Option.some (Jvm.ClassFile.FieldType.object "com/example/mosub/mosub/model/OverlayMessage$Type"))).before args0 about1 = true := code_word (m := ⟨6, 1⟩) (meth := k6m1) (c := k6c1) (by decide +kernel) rfl rfl rfl (by decide +kernel)
set_option maxRecDepth 65536 in
theorem w_c2 : (Jvm.Cond.code ({ cls := "com/example/mosub/mosub/model/OverlayMessage$Type", name := "values", desc := "()[Lcom/example/mosub/mosub/model/OverlayMessage$Type;" } : Jvm.MethodName) prog_26_method_1_code (0 : Nat) (Option.some (Jvm.ClassFile.FieldType.array (Jvm.ClassFile.FieldType.object "com/example/mosub/mosub/model/OverlayMessage$Type")))).before args0 about1 = true := code_word (m := ⟨6, 0⟩) (meth := k6m0) (c := k6c0) (by decide +kernel) rfl rfl rfl (by decide +kernel)
set_option maxRecDepth 65536 in
theorem w_c3 : (Jvm.Cond.code ({ cls := "com/example/mosub/mosub/model/OverlayMessage$Type", name := "code", desc := "()I" } : Jvm.MethodName) prog_26_method_5_code (1 : Nat) (Option.some Jvm.ClassFile.FieldType.int)).before args0 about1 = true := code_word (m := ⟨6, 2⟩) (meth := k6m2) (c := k6c2) (by decide +kernel) rfl rfl rfl (by decide +kernel)
def codes1 : List Jvm.Cond := [Jvm.Cond.code x code maxLocals ret, Jvm.Cond.code ({ cls := "com/example/mosub/mosub/model/OverlayMessage$Type", name := "ofCode", desc := "(I)Lcom/example/mosub/mosub/model/OverlayMessage$Type;" } : Jvm.MethodName) prog_26_method_4_code (5 : Nat) (Option.some (Jvm.ClassFile.FieldType.object "com/example/mosub/mosub/model/OverlayMessage$Type")), Jvm.Cond.code ({ cls := "com/example/mosub/mosub/model/OverlayMessage$Type", name := "values", desc := "()[Lcom/example/mosub/mosub/model/OverlayMessage$Type;" } : Jvm.MethodName) prog_26_method_1_code (0 : Nat) (Option.some (Jvm.ClassFile.FieldType.array (Jvm.ClassFile.FieldType.object "com/example/mosub/mosub/model/OverlayMessage$Type"))), Jvm.Cond.code ({ cls := "com/example/mosub/mosub/model/OverlayMessage$Type", name := "code", desc := "()I" } : Jvm.MethodName) prog_26_method_5_code (1 : Nat) (Option.some Jvm.ClassFile.FieldType.int)]
set_option maxRecDepth 65536 in
theorem codes_eq : words1.filter isCode = codes1 := rfl
theorem w_codes : ∀ c ∈ words1.filter isCode, c.before args0 about1 = true := by
  rw [codes_eq]
  intro c hc
  simp only [codes1, List.mem_cons, List.not_mem_nil, or_false] at hc
  rcases hc with rfl | rfl | rfl | rfl
  · exact w_c0
  · exact w_c1
  · exact w_c2
  · exact w_c3
set_option maxRecDepth 65536 in
theorem w_t1 : (words1.take 24).all (fun c => isCode c || c.before args0 about1) = true := by decide +kernel
set_option maxRecDepth 65536 in
theorem w_t2 : (words1.drop 24).all (fun c => isCode c || c.before args0 about1) = true := by decide +kernel
theorem w_tables : (allAtoms (Jvm.Cond.code x code maxLocals ret :: tables_1)).before args0 about1 = true := by
  rw [allAtoms_all]
  show words1.all (fun c => c.before args0 about1) = true
  refine all_split ?_ w_codes
  rw [← List.take_append_drop 24 words1, List.all_append, w_t1, w_t2]
  rfl
set_option maxRecDepth 65536 in
theorem w_case : (Jvm.Cond.and given_1 narrow_1).before args0 about1 = true := by decide +kernel
theorem w_applies : (headSpec (Jvm.Cond.code x code maxLocals ret :: tables_1) room_1).applies x e0.platform about1 = true :=
  (Spec.applies_iff w_frames).mpr ⟨w_running, w_runnable, w_alone, w_named, w_hears, w_ripe, w_room, w_tables⟩
theorem atStart : AtStart classFile x code maxLocals ret World_1 tables_1 room_1 Calls_1 rest_1 Pre_1 launch0 p0 e0 about1 theMethod args0 below0 :=
  ⟨lists_1, trivial, launch0.admits_env _ _ _, launch0.least_env, fairChoices_fair.cas, fairChoices_fair.clock, w_frames, w_args, w_heap, w_applies, trivial, trivial, w_case⟩
end start1
theorem witness_1 : WitnessClaimed_1 := ⟨start1.p0, start1.e0, start1.about1, start1.theMethod, start1.args0, start1.below0, start1.atStart⟩
end Jvm.Pilot.@@N@@
