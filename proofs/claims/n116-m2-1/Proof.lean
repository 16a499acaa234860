import JvmDerived
import JvmDerived.Pilot.@@N@@Statement
import JvmDerived.Pilot.@@N@@Code
set_option linter.unusedVariables false
set_option linter.unusedSimpArgs false
namespace Jvm.Pilot.@@N@@
open Jvm Jvm.ClassFile Sem Op Lib Jvm.Free Jvm.Stand Jvm.LawKit Jvm.RoadKit Bundle Jvm.Pilot.@@N@@.Jvm.D
section Own
variable {p : Program} {l : Launch} {e : Env} {R : Room} {s : State} {m : MethodId} {args : Array Value} {below : List Frame} {meth : Method} {c : Code} {T T' : State} {locs : List Loc} {cells slots : Nat}
/-- from T with the frame f on top the method comes to its end; what it returns, the heap and the places written answer Q; at most C cells and N slots are new -/
def own_Fin (p : Program) (e : Env) (below : List Frame) (s : State) (C N : Nat) (Q : Option Value → Heap → List Loc → Prop) (T : State) (f : JFrame) : Prop :=
  ∃ s₂ o, Steps p.tables e below (T.setTop f) s₂ ∧ s₂.status = .running ∧ Ended s₂ below o ∧ ∃ v L, o = .returned v ∧ Q v s₂.heap L ∧ FrameEnd s o s₂ L C N
variable {C N : Nat} {Q : Option Value → Heap → List Loc → Prop} {f f' : JFrame}
theorem own_by (h : ∀ t, Steps p.tables e below (T'.setTop f') t → Steps p.tables e below (T.setTop f) t) (k : own_Fin p e below s C N Q T' f') : own_Fin p e below s C N Q T f := by
  obtain ⟨s2, o, h1, h2⟩ := k
  exact ⟨s2, o, h _ h1, h2⟩
theorem own_start (q : f = f') (k : own_Fin p e below s C N Q T f') : ∃ s₂ o, Steps p.tables e below (T.setTop f) s₂ ∧ s₂.status = .running ∧ Ended s₂ below o ∧ ∃ v L, o = .returned v ∧ Q v s₂.heap L ∧ FrameEnd s o s₂ L C N := by
  subst q; exact k
theorem own_leaf (X : Stand p l e R s m args below meth c T locs cells slots) (hlk : meth.locks = false) {v : Option Value} (hv : meth.sig.returnType = none → v = none)
    (hs : ∀ fs, (∀ (f : JFrame) (acts : List Action), f.method = m → f.locked = none → f.entered = [] → (doReturn e (T.setTop f) acts v).1 = T.setFrames fs) → Steps p.tables e below (T.setTop f) (T.setFrames fs))
    (hQ : Q v T.heap locs) (hc : cells ≤ C) (hn : slots ≤ N) : own_Fin p e below s C N Q T f := by
  obtain ⟨fs, hr, hrun, hended, hW, hsame⟩ := X.leave (v := v) hv hlk
  exact ⟨_, _, hs fs hr, hrun, hended, _, _, rfl, hQ, ⟨_, rfl⟩, hW, hsame.mono hc hn⟩
theorem own_retV (X : Stand p l e R s m args below meth c T locs cells slots) (hx : p.tables.exec = Jvm.exec) (hlk : meth.locks = false) {pc : Nat} {Ls : Array Slot} (hret : meth.sig.returnType = none) (hd : decode c.code pc = .ok (.return_, 1))
    (hQ : Q none T.heap locs) (hc : cells ≤ C) (hn : slots ≤ N) : own_Fin p e below s C N Q T (mkF m pc Ls []) :=
  own_leaf X hlk (fun _ => rfl) (fun fs hr => X.returnOut hx hret hd hr) hQ hc hn
theorem own_retZ (X : Stand p l e R s m args below meth c T locs cells slots) (hx : p.tables.exec = Jvm.exec) (hlk : meth.locks = false) {pc : Nat} {Ls : Array Slot} {z : Int32} {t : FieldType} {rest : List Value} (hret : meth.sig.returnType = some t) (ht : t = .boolean ∨ t = .byte ∨ t = .char ∨ t = .short) (hd : decode c.code pc = .ok (.ireturn, 1))
    (hQ : Q (some (.int (nar t z))) T.heap locs) (hc : cells ≤ C) (hn : slots ≤ N) : own_Fin p e below s C N Q T (mkF m pc Ls (.int z :: rest)) :=
  own_leaf X hlk (fun h => by rw [hret] at h; cases h) (fun fs hr => retN X hx hret ht hd hr) hQ hc hn
theorem own_retO (X : Stand p l e R s m args below meth c T locs cells slots) (hx : p.tables.exec = Jvm.exec) (hlk : meth.locks = false) {pc : Nat} {Ls : Array Slot} {w : Value} {t : FieldType} {i : Instr} {rest : List Value} (hret : meth.sig.returnType = some t) (hn' : narrow t w = w)
    (hi : (i = .ireturn ∧ (t = .int ∨ t = .boolean ∨ t = .byte ∨ t = .char ∨ t = .short) ∧ ∃ z, w = .int z) ∨ (i = .lreturn ∧ t = .long ∧ ∃ z, w = .long z) ∨ (i = .dreturn ∧ t = .double ∧ ∃ z, w = .double z) ∨ (i = .freturn ∧ t = .float ∧ ∃ z, w = .float z) ∨ (i = .areturn ∧ t.isReference = true ∧ w.isRef = true))
    (hd : decode c.code pc = .ok (i, 1)) (hQ : Q (some w) T.heap locs) (hc : cells ≤ C) (hn : slots ≤ N) : own_Fin p e below s C N Q T (mkF m pc Ls (w :: rest)) :=
  own_leaf X hlk (fun h => by rw [hret] at h; cases h) (fun fs hr => retOut X hx hret hn' hi hd hr) hQ hc hn
theorem own_retI (X : Stand p l e R s m args below meth c T locs cells slots) (hx : p.tables.exec = Jvm.exec) (hlk : meth.locks = false) {pc : Nat} {Ls : Array Slot} {z : Int32} {rest : List Value} (hret : meth.sig.returnType = some .int) (hd : decode c.code pc = .ok (.ireturn, 1))
    (hQ : Q (some (.int z)) T.heap locs) (hc : cells ≤ C) (hn : slots ≤ N) : own_Fin p e below s C N Q T (mkF m pc Ls (.int z :: rest)) :=
  own_retO X hx hlk hret rfl (Or.inl ⟨rfl, Or.inl rfl, _, rfl⟩) hd hQ hc hn
theorem own_retJ (X : Stand p l e R s m args below meth c T locs cells slots) (hx : p.tables.exec = Jvm.exec) (hlk : meth.locks = false) {pc : Nat} {Ls : Array Slot} {z : Int64} {rest : List Value} (hret : meth.sig.returnType = some .long) (hd : decode c.code pc = .ok (.lreturn, 1))
    (hQ : Q (some (.long z)) T.heap locs) (hc : cells ≤ C) (hn : slots ≤ N) : own_Fin p e below s C N Q T (mkF m pc Ls (.long z :: rest)) :=
  own_retO X hx hlk hret rfl (Or.inr (Or.inl ⟨rfl, rfl, _, rfl⟩)) hd hQ hc hn
theorem own_retA (X : Stand p l e R s m args below meth c T locs cells slots) (hx : p.tables.exec = Jvm.exec) (hlk : meth.locks = false) {pc : Nat} {Ls : Array Slot} {w : Value} {t : FieldType} {rest : List Value} (hret : meth.sig.returnType = some t) (hr : t.isReference = true) (hn' : narrow t w = w) (hw : w.isRef = true) (hd : decode c.code pc = .ok (.areturn, 1))
    (hQ : Q (some w) T.heap locs) (hc : cells ≤ C) (hn : slots ≤ N) : own_Fin p e below s C N Q T (mkF m pc Ls (w :: rest)) :=
  own_retO X hx hlk hret hn' (Or.inr (Or.inr (Or.inr (Or.inr ⟨rfl, hr, hw⟩)))) hd hQ hc hn
/-- a room by its four numbers -/
abbrev own_R (f c s l : Nat) : Room := { frames := f, cells := c, slots := s, locals := l }
/-- the contract's form: called with A at a heap h0 it returns, and Q holds of what it returns, the heap and the places written -/
abbrev own_Met (l : Launch) (Z : State) (y : MethodName) (code : ByteArray) (ml : Nat) (ret : Option FieldType) (ws : List Jvm.Cond) (R : Room) (A : Array Value) (h0 : Heap) (Q : Option Value → Heap → List Loc → Prop) : Prop :=
  MetFree l y (head1 (Jvm.Cond.code y code ml ret :: ws) R) (fun a U => a = A ∧ Z.Warmed39 U.vm ∧ U.heap = h0) (fun _ _ _ _ _ => True) (fun _ U o U' => ∃ v L, o = .returned v ∧ Q v U'.heap L ∧ FrameEnd U o U' L R.cells R.slots)
theorem own_enter {Z : State} {y : MethodName} {code : ByteArray} {ml : Nat} {ret : Option FieldType} {ws : List Jvm.Cond} {A : Array Value} {h0 : Heap} {f0 : MethodId → JFrame} (n0 : Nat) (hpn : plainName y.cls = true) (hef : ∀ m, entryFrame m A ml = f0 m)
    (H : ∀ (p : Program) (e : Env) (s : State) (m : MethodId) (below : List Frame) (meth : Method) (c : Code) (s₁ : State), p.tables.exec = Jvm.exec → c.code = code → meth.locks = false → c.maxLocals = ml → meth.sig.returnType = ret → s.vm.findClass y.cls = some m.cls → meth.name = y.name →
      Z.Warmed39 s.vm → Stand p l e R s m A below meth c s₁ [] 0 0 → s₁.heap = h0 → Fr n0 [] → own_Fin p e below s R.cells R.slots Q s₁ (f0 m)) : own_Met l Z y code ml ret ws R A h0 Q := by
  refine MetFree.of_bodySF (plainFor_of_name hpn) hisR ?_
  intro p e s m args below meth c s₁ Bd hml hP _
  obtain ⟨rfl, hZ, hh⟩ := hP
  have q := H p e s m below meth c s₁ Bd.exec Bd.bytes Bd.notSynchronized hml Bd.returns (findClass_of_methodNamed Bd.named) (name_of_methodNamed Bd.named Bd.method).1 hZ (Stand.of_body Bd) (by rw [← hh, Bd.state]; rfl) (Fr.nil n0)
  rw [hef m]
  exact q
end Own
theorem own_vi {a b : Int32} (h : a = b) : some (Value.int a) = some (Value.int b) := h ▸ rfl
def own_oeq (i p j q : Int32) : Int32 := if j = i then (if q = p then 1 else 0) else 0
theorem own_oeq_t {a b c d : Int32} (h : a = c) (h' : b = d) : own_oeq a b c d = 1 := by subst h h'; simp [own_oeq]
theorem own_oeq_f {a b c d : Int32} (h : ¬ a = c) : own_oeq a b c d = 0 := by simp [own_oeq, Ne.symm h]
theorem own_oeq_g {a b c d : Int32} (h : ¬ b = d) : own_oeq a b c d = 0 := by simp [own_oeq, Ne.symm h]
theorem own_oeq_s {a b : Int32} : ¬ own_oeq a b a b = (0 : Int32) := by simp [own_oeq]
theorem own_in (x : Int32) (h1 : ¬ x < (-128 : Int32)) (h2 : ¬ (127 : Int32) < x) : ¬ (x + (128 : Int32)) < 0 ∧ (x + (128 : Int32)) < 256 := by
  have a := c_iadd x 128
  have al := Int32.toInt_lt (x + 128)
  have ag := Int32.le_toInt (x + 128)
  have k1 : (-128 : Int32).toInt = -128 := by decide
  have k2 : (127 : Int32).toInt = 127 := by decide
  have k3 : (128 : Int32).toInt = 128 := by decide
  have k4 : (256 : Int32).toInt = 256 := by decide
  have k5 : (0 : Int32).toInt = 0 := by decide
  rw [Int32.lt_iff_toInt_lt] at h1 h2 ⊢
  rw [Int32.lt_iff_toInt_lt]
  omega
theorem own_len {args : Array Value} {Z : State} {t : Term} {a : Addr} {c : Cell} {ty : FieldType} {n : Int32} (et : t.eval args Z none [] Z = some (.ref a)) (A : Arr Z Z.heap a c ty) (eL : (Term.length t).eval args Z none [] Z = some (.int n)) : c.slots.size < 2 ^ 31 ∧ c.slots.size.toInt32 = n := by
  have ha := A.fin (Vm.Alike.refl _)
  by_cases hl : c.slots.size < 2 ^ 31
  · have q := (len_f et ha hl).symm.trans eL
    exact ⟨hl, Value.int.inj (Option.some.inj q)⟩
  · obtain ⟨a', cell', h1, h2, h3⟩ := Term.length_spec eL
    have hn := hl
    simp [Term.eval, et, ha, hl] at eL
theorem own_notOcc {Z : State} {a0 : Array Value} {A B O K : String} {n : Nat} (w1 : (Cond.superclass A B).before a0 Z = true) (w2 : (Cond.superclass B O).before a0 Z = true) (w3 : (Cond.noSuperclass O).before a0 Z = true) (wi : (Cond.instantiable K n).before a0 Z = true)
    (hA : A ≠ K) (hB : B ≠ K) (hO : O ≠ K) : ∃ c t, Z.vm.findClass A = some c ∧ Z.vm.findClass K = some t ∧ Z.vm.assignable c t = false := by
  obtain ⟨t, kt, t1, t2, t3, t4, -⟩ := Cond.instantiable_spec wi
  have nO : NS Z O K := by
    obtain ⟨c, k, h1, h2, h3, -, -⟩ := Cond.noSuperclass_spec w3
    have ne := ids_ne h1 t1 hO
    refine ⟨c, t, h1, t1, fun fuel => ?_⟩
    cases fuel with
    | zero => rfl
    | succ f => simp [Vm.isSubclassAux, ne, h2, h3]
  have nA : NS Z A K := NS.step w1 (NS.step w2 nO hB) hA
  obtain ⟨c, t', h0, g0, n3⟩ := nA
  cases t1.symm.trans g0
  obtain ⟨p, k, kp, h1, h2, h3, h4, h5, -, h7⟩ := Cond.superclass_spec h0 w1
  have ne := ids_ne h0 t1 hA
  have t5 : kt.isInterface = false := by
    cases hi : kt.isInterface with
    | false => rfl
    | true => rw [hi] at t4; simp at t4
  refine ⟨c, t, h0, t1, ?_⟩
  show Z.vm.assignableAux (255 + 1) c t = false
  simp [Vm.assignableAux, ne, h2, t2, h5, t3, t5, Vm.isSubclass, n3]
theorem own_pn1 : plainName "com/example/libsubstr/libsubstr/PatternSet$Occurrence" = true := by first | (simp [plainName, overriddenIn]; done) | decide +kernel
theorem d3_0 : decode prog_36_method_4_code 0 = .ok (.aload_n 1, 1) := by decide +kernel
theorem d3_1 : decode prog_36_method_4_code 1 = .ok (.instanceof 8, 3) := by decide +kernel
theorem d3_4 : decode prog_36_method_4_code 4 = .ok (.ifCond .eq 35, 3) := by decide +kernel
theorem d3_7 : decode prog_36_method_4_code 7 = .ok (.aload_n 1, 1) := by decide +kernel
theorem d3_8 : decode prog_36_method_4_code 8 = .ok (.checkcast 8, 3) := by decide +kernel
theorem d3_11 : decode prog_36_method_4_code 11 = .ok (.getfield 7, 3) := by decide +kernel
theorem d3_14 : decode prog_36_method_4_code 14 = .ok (.aload_n 0, 1) := by decide +kernel
theorem d3_15 : decode prog_36_method_4_code 15 = .ok (.getfield 7, 3) := by decide +kernel
theorem d3_18 : decode prog_36_method_4_code 18 = .ok (.if_icmp .ne 21, 3) := by decide +kernel
theorem d3_21 : decode prog_36_method_4_code 21 = .ok (.aload_n 1, 1) := by decide +kernel
theorem d3_22 : decode prog_36_method_4_code 22 = .ok (.checkcast 8, 3) := by decide +kernel
theorem d3_25 : decode prog_36_method_4_code 25 = .ok (.getfield 13, 3) := by decide +kernel
theorem d3_28 : decode prog_36_method_4_code 28 = .ok (.aload_n 0, 1) := by decide +kernel
theorem d3_29 : decode prog_36_method_4_code 29 = .ok (.getfield 13, 3) := by decide +kernel
theorem d3_32 : decode prog_36_method_4_code 32 = .ok (.if_icmp .ne 7, 3) := by decide +kernel
theorem d3_35 : decode prog_36_method_4_code 35 = .ok (.iconst 1, 1) := by decide +kernel
theorem d3_36 : decode prog_36_method_4_code 36 = .ok (.goto 4, 3) := by decide +kernel
theorem d3_40 : decode prog_36_method_4_code 40 = .ok (.ireturn, 1) := by decide +kernel
theorem d3_39 : decode prog_36_method_4_code 39 = .ok (.iconst 0, 1) := by decide +kernel
theorem ef_rmE (m : MethodId) (x0 : Addr) (x1 : Addr) : entryFrame m #[(.ref x0), (.ref x1)] 2 = mkF m 0 #[.val (.ref x0), .val (.ref x1)] [] := by first | (simp [entryFrame, mkF, argsToLocals, Value.category]; done) | rfl
def own_Q3 (l1 c1 l2 c2 : Int32) (h0 : Heap) (n0 : Nat) (v : Option Value) (h : Heap) (L : List Loc) : Prop := v = some (.int (own_oeq l1 c1 l2 c2)) ∧ Fr n0 L ∧ h = h0
set_option maxRecDepth 65536 in
set_option maxHeartbeats 40000000 in
theorem rmE (l : Launch) (Z : State) (a0 : Array Value) (hw : ∀ d ∈ tables_1, d.before a0 Z = true) (ws : List Jvm.Cond) (a1 a2 : Addr) (l1 c1 l2 c2 : Int32) (h0 : Heap) (n0 : Nat) (Z0 : n0 ≤ h0.size) (E_a2 : Exa Z h0 a2 "com/example/libsubstr/libsubstr/PatternSet$Occurrence") (F_index_a1 : Fld Z h0 a1 "com/example/libsubstr/libsubstr/PatternSet$Occurrence" "index" "I" (.int l1)) (F_pattern_a1 : Fld Z h0 a1 "com/example/libsubstr/libsubstr/PatternSet$Occurrence" "pattern" "I" (.int c1)) (F_index_a2 : Fld Z h0 a2 "com/example/libsubstr/libsubstr/PatternSet$Occurrence" "index" "I" (.int l2)) (F_pattern_a2 : Fld Z h0 a2 "com/example/libsubstr/libsubstr/PatternSet$Occurrence" "pattern" "I" (.int c2)) : own_Met l Z (⟨"com/example/libsubstr/libsubstr/PatternSet$Occurrence", "equals", "(Ljava/lang/Object;)Z"⟩ : MethodName) prog_36_method_4_code 2 (some .boolean) ws (own_R 0 0 0 0) #[(.ref a1), (.ref a2)] h0 (own_Q3 l1 c1 l2 c2 h0 n0) := by
  refine own_enter n0 own_pn1 (fun m => ef_rmE m a1 a2 ) (fun p e s m below meth c s₁ hx hby hlk hml hret hown hnm hZ X0 e0 N0 => ?_)
  show own_Fin p e below s _ _ _ s₁ (mkF m 0 #[.val (.ref a1), .val (.ref a2)] [])
  refine own_by (fun _ k => XS.aloadN X0.here hx rfl (hb hby d3_0) rfl rfl k) ?_
  show own_Fin p e below s _ _ _ s₁ (mkF m 1 #[.val (.ref a1), .val (.ref a2)] [(.ref a2)])
  obtain ⟨T1, X1, e1, st1⟩ := instY X0 hx hZ hown (hw _ (List.mem_of_getElem? (i := 18) rfl)) e0 (Ins.self E_a2) (g := (mkF m 1 #[.val (.ref a1), .val (.ref a2)] [(.ref a2)])) rfl rfl (hb hby d3_1)
  refine own_by (fun _ k => st1 _ k) ?_
  show own_Fin p e below s _ _ _ T1 (mkF m 4 #[.val (.ref a1), .val (.ref a2)] [(.int (1 : Int32))])
  refine own_by (fun _ k => XS.ifNo X1.here hx rfl (hb hby d3_4) rfl ((if0 _ _).trans (feq (by decide : ¬ ((1 : Int32) = (0 : Int32)))).1) k) ?_
  show own_Fin p e below s _ _ _ T1 (mkF m 7 #[.val (.ref a1), .val (.ref a2)] [])
  refine own_by (fun _ k => XS.aloadN X1.here hx rfl (hb hby d3_7) rfl rfl k) ?_
  show own_Fin p e below s _ _ _ T1 (mkF m 8 #[.val (.ref a1), .val (.ref a2)] [(.ref a2)])
  obtain ⟨T2, X2, e2, st2⟩ := castY X1 hx hZ hown (hw _ (List.mem_of_getElem? (i := 18) rfl)) e1 (Ins.self E_a2) (g := (mkF m 8 #[.val (.ref a1), .val (.ref a2)] [(.ref a2)])) rfl rfl (hb hby d3_8)
  refine own_by (fun _ k => st2 _ k) ?_
  show own_Fin p e below s _ _ _ T2 (mkF m 11 #[.val (.ref a1), .val (.ref a2)] [(.ref a2)])
  obtain ⟨T3, X3, e3, st3⟩ := getF X2 hx hZ hown (host := "") (Or.inl (hw _ (List.mem_of_getElem? (i := 9) rfl))) Via.refl e2 F_index_a2 (g := (mkF m 11 #[.val (.ref a1), .val (.ref a2)] [(.ref a2)])) rfl rfl (hb hby d3_11)
  refine own_by (fun _ k => st3 _ k) ?_
  show own_Fin p e below s _ _ _ T3 (mkF m 14 #[.val (.ref a1), .val (.ref a2)] [(.int l2)])
  refine own_by (fun _ k => XS.aloadN X3.here hx rfl (hb hby d3_14) rfl rfl k) ?_
  show own_Fin p e below s _ _ _ T3 (mkF m 15 #[.val (.ref a1), .val (.ref a2)] [(.ref a1), (.int l2)])
  obtain ⟨T4, X4, e4, st4⟩ := getF X3 hx hZ hown (host := "") (Or.inl (hw _ (List.mem_of_getElem? (i := 9) rfl))) Via.refl e3 F_index_a1 (g := (mkF m 15 #[.val (.ref a1), .val (.ref a2)] [(.ref a1), (.int l2)])) rfl rfl (hb hby d3_15)
  refine own_by (fun _ k => st4 _ k) ?_
  show own_Fin p e below s _ _ _ T4 (mkF m 18 #[.val (.ref a1), .val (.ref a2)] [(.int l1), (.int l2)])
  by_cases hc18_5 : l2 = l1
  · show own_Fin p e below s _ _ _ T4 (mkF m 18 #[.val (.ref a1), .val (.ref a2)] [(.int l1), (.int l2)])
    refine own_by (fun _ k => XS.icmpNo X4.here hx rfl (hb hby d3_18) rfl (teq hc18_5).2 k) ?_
    show own_Fin p e below s _ _ _ T4 (mkF m 21 #[.val (.ref a1), .val (.ref a2)] [])
    refine own_by (fun _ k => XS.aloadN X4.here hx rfl (hb hby d3_21) rfl rfl k) ?_
    show own_Fin p e below s _ _ _ T4 (mkF m 22 #[.val (.ref a1), .val (.ref a2)] [(.ref a2)])
    obtain ⟨T6, X6, e6, st6⟩ := castY X4 hx hZ hown (hw _ (List.mem_of_getElem? (i := 18) rfl)) e4 (Ins.self E_a2) (g := (mkF m 22 #[.val (.ref a1), .val (.ref a2)] [(.ref a2)])) rfl rfl (hb hby d3_22)
    refine own_by (fun _ k => st6 _ k) ?_
    show own_Fin p e below s _ _ _ T6 (mkF m 25 #[.val (.ref a1), .val (.ref a2)] [(.ref a2)])
    obtain ⟨T7, X7, e7, st7⟩ := getF X6 hx hZ hown (host := "") (Or.inl (hw _ (List.mem_of_getElem? (i := 11) rfl))) Via.refl e6 F_pattern_a2 (g := (mkF m 25 #[.val (.ref a1), .val (.ref a2)] [(.ref a2)])) rfl rfl (hb hby d3_25)
    refine own_by (fun _ k => st7 _ k) ?_
    show own_Fin p e below s _ _ _ T7 (mkF m 28 #[.val (.ref a1), .val (.ref a2)] [(.int c2)])
    refine own_by (fun _ k => XS.aloadN X7.here hx rfl (hb hby d3_28) rfl rfl k) ?_
    show own_Fin p e below s _ _ _ T7 (mkF m 29 #[.val (.ref a1), .val (.ref a2)] [(.ref a1), (.int c2)])
    obtain ⟨T8, X8, e8, st8⟩ := getF X7 hx hZ hown (host := "") (Or.inl (hw _ (List.mem_of_getElem? (i := 11) rfl))) Via.refl e7 F_pattern_a1 (g := (mkF m 29 #[.val (.ref a1), .val (.ref a2)] [(.ref a1), (.int c2)])) rfl rfl (hb hby d3_29)
    refine own_by (fun _ k => st8 _ k) ?_
    show own_Fin p e below s _ _ _ T8 (mkF m 32 #[.val (.ref a1), .val (.ref a2)] [(.int c1), (.int c2)])
    by_cases hc32_9 : c2 = c1
    · show own_Fin p e below s _ _ _ T8 (mkF m 32 #[.val (.ref a1), .val (.ref a2)] [(.int c1), (.int c2)])
      refine own_by (fun _ k => XS.icmpNo X8.here hx rfl (hb hby d3_32) rfl (teq hc32_9).2 k) ?_
      show own_Fin p e below s _ _ _ T8 (mkF m 35 #[.val (.ref a1), .val (.ref a2)] [])
      refine own_by (fun _ k => XS.iconst X8.here hx rfl (hb hby d3_35) (XS.goto X8.here hx rfl (pc0 := 36) (pc' := 40) rfl (hb hby d3_36) (by decide) (by decide) k)) ?_
      show own_Fin p e below s _ _ _ T8 (mkF m 40 #[.val (.ref a1), .val (.ref a2)] [(.int (1 : Int32))])
      exact own_retZ X8 hx hlk (t := .boolean) hret (by simp) (hb hby d3_40) ⟨own_vi (by show (1 : Int32) = _; first | (simp only [own_oeq, hc18_5, hc32_9, if_true, if_false]; done) | (simp only [own_oeq, hc18_5, hc32_9, if_true, if_false]; decide) | simp [own_oeq, hc18_5, hc32_9]), N0, e8⟩ (by decide) (by decide)
    · show own_Fin p e below s _ _ _ T8 (mkF m 32 #[.val (.ref a1), .val (.ref a2)] [(.int c1), (.int c2)])
      refine own_by (fun _ k => XS.icmpYes X8.here hx rfl (pc0 := 32) (pc' := 39) rfl (hb hby d3_32) rfl (feq hc32_9).2 (by decide) (by decide) k) ?_
      show own_Fin p e below s _ _ _ T8 (mkF m 39 #[.val (.ref a1), .val (.ref a2)] [])
      refine own_by (fun _ k => XS.iconst X8.here hx rfl (hb hby d3_39) k) ?_
      show own_Fin p e below s _ _ _ T8 (mkF m 40 #[.val (.ref a1), .val (.ref a2)] [(.int (0 : Int32))])
      exact own_retZ X8 hx hlk (t := .boolean) hret (by simp) (hb hby d3_40) ⟨own_vi (by show (0 : Int32) = _; first | (simp only [own_oeq, hc18_5, hc32_9, if_true, if_false]; done) | (simp only [own_oeq, hc18_5, hc32_9, if_true, if_false]; decide) | simp [own_oeq, hc18_5, hc32_9]), N0, e8⟩ (by decide) (by decide)
  · show own_Fin p e below s _ _ _ T4 (mkF m 18 #[.val (.ref a1), .val (.ref a2)] [(.int l1), (.int l2)])
    refine own_by (fun _ k => XS.icmpYes X4.here hx rfl (pc0 := 18) (pc' := 39) rfl (hb hby d3_18) rfl (feq hc18_5).2 (by decide) (by decide) k) ?_
    show own_Fin p e below s _ _ _ T4 (mkF m 39 #[.val (.ref a1), .val (.ref a2)] [])
    refine own_by (fun _ k => XS.iconst X4.here hx rfl (hb hby d3_39) k) ?_
    show own_Fin p e below s _ _ _ T4 (mkF m 40 #[.val (.ref a1), .val (.ref a2)] [(.int (0 : Int32))])
    exact own_retZ X4 hx hlk (t := .boolean) hret (by simp) (hb hby d3_40) ⟨own_vi (by show (0 : Int32) = _; first | (simp only [own_oeq, hc18_5, if_true, if_false]; done) | (simp only [own_oeq, hc18_5, if_true, if_false]; decide) | simp [own_oeq, hc18_5]), N0, e4⟩ (by decide) (by decide)
theorem ef_rmN (m : MethodId) (x0 : Addr) : entryFrame m #[(.ref x0), .null] 2 = mkF m 0 #[.val (.ref x0), .val .null] [] := by first | (simp [entryFrame, mkF, argsToLocals, Value.category]; done) | rfl
def own_Qn (h0 : Heap) (n0 : Nat) (v : Option Value) (h : Heap) (L : List Loc) : Prop := v = some (.int (0 : Int32)) ∧ Fr n0 L ∧ h = h0
set_option maxRecDepth 65536 in
set_option maxHeartbeats 40000000 in
theorem rmN (l : Launch) (Z : State) (a0 : Array Value) (hw : ∀ d ∈ tables_1, d.before a0 Z = true) (ws : List Jvm.Cond) (a1 : Addr) (h0 : Heap) (n0 : Nat) (Z0 : n0 ≤ h0.size)  : own_Met l Z (⟨"com/example/libsubstr/libsubstr/PatternSet$Occurrence", "equals", "(Ljava/lang/Object;)Z"⟩ : MethodName) prog_36_method_4_code 2 (some .boolean) ws (own_R 0 0 0 0) #[(.ref a1), .null] h0 (own_Qn h0 n0) := by
  refine own_enter n0 own_pn1 (fun m => ef_rmN m a1 ) (fun p e s m below meth c s₁ hx hby hlk hml hret hown hnm hZ X0 e0 N0 => ?_)
  show own_Fin p e below s _ _ _ s₁ (mkF m 0 #[.val (.ref a1), .val .null] [])
  refine own_by (fun _ k => XS.aloadN X0.here hx rfl (hb hby d3_0) rfl rfl k) ?_
  show own_Fin p e below s _ _ _ s₁ (mkF m 1 #[.val (.ref a1), .val .null] [.null])
  refine own_by (fun _ k => X0.instanceofNull hx (g := (mkF m 1 #[.val (.ref a1), .val .null] [.null])) rfl rfl (hb hby d3_1) _ k) ?_
  show own_Fin p e below s _ _ _ s₁ (mkF m 4 #[.val (.ref a1), .val .null] [(.int (0 : Int32))])
  refine own_by (fun _ k => XS.ifYes X0.here hx rfl (pc0 := 4) (pc' := 39) rfl (hb hby d3_4) rfl ((if0 _ _).trans (teq (by decide : (0 : Int32) = (0 : Int32))).1) (by decide) (by decide) k) ?_
  show own_Fin p e below s _ _ _ s₁ (mkF m 39 #[.val (.ref a1), .val .null] [])
  refine own_by (fun _ k => XS.iconst X0.here hx rfl (hb hby d3_39) k) ?_
  show own_Fin p e below s _ _ _ s₁ (mkF m 40 #[.val (.ref a1), .val .null] [(.int (0 : Int32))])
  exact own_retZ X0 hx hlk (t := .boolean) hret (by simp) (hb hby d3_40) ⟨rfl, N0, e0⟩ (by decide) (by decide)
theorem ef_rmB (m : MethodId) (x0 : Addr) (x1 : Addr) : entryFrame m #[(.ref x0), (.ref x1)] 2 = mkF m 0 #[.val (.ref x0), .val (.ref x1)] [] := by first | (simp [entryFrame, mkF, argsToLocals, Value.category]; done) | rfl
set_option maxRecDepth 65536 in
set_option maxHeartbeats 40000000 in
theorem rmB (l : Launch) (Z : State) (a0 : Array Value) (hw : ∀ d ∈ tables_1, d.before a0 Z = true) (ws : List Jvm.Cond) (a1 a2 : Addr) (h0 : Heap) (n0 : Nat) (Z0 : n0 ≤ h0.size) (E_a2 : Exa Z h0 a2 "java/lang/Integer") : own_Met l Z (⟨"com/example/libsubstr/libsubstr/PatternSet$Occurrence", "equals", "(Ljava/lang/Object;)Z"⟩ : MethodName) prog_36_method_4_code 2 (some .boolean) ws (own_R 0 0 0 0) #[(.ref a1), (.ref a2)] h0 (own_Qn h0 n0) := by
  refine own_enter n0 own_pn1 (fun m => ef_rmB m a1 a2 ) (fun p e s m below meth c s₁ hx hby hlk hml hret hown hnm hZ X0 e0 N0 => ?_)
  show own_Fin p e below s _ _ _ s₁ (mkF m 0 #[.val (.ref a1), .val (.ref a2)] [])
  refine own_by (fun _ k => XS.aloadN X0.here hx rfl (hb hby d3_0) rfl rfl k) ?_
  show own_Fin p e below s _ _ _ s₁ (mkF m 1 #[.val (.ref a1), .val (.ref a2)] [(.ref a2)])
  obtain ⟨T11, X11, e11, st11⟩ := instNo X0 hx hZ hown (hw _ (List.mem_of_getElem? (i := 18) rfl)) e0 E_a2 (own_notOcc (hw _ (List.mem_of_getElem? (i := 27) rfl)) (hw _ (List.mem_of_getElem? (i := 28) rfl)) (hw _ (List.mem_of_getElem? (i := 29) rfl)) (hw _ (List.mem_of_getElem? (i := 1) rfl)) (by decide) (by decide) (by decide)) (g := (mkF m 1 #[.val (.ref a1), .val (.ref a2)] [(.ref a2)])) rfl rfl (hb hby d3_1)
  refine own_by (fun _ k => st11 _ k) ?_
  show own_Fin p e below s _ _ _ T11 (mkF m 4 #[.val (.ref a1), .val (.ref a2)] [(.int (0 : Int32))])
  refine own_by (fun _ k => XS.ifYes X11.here hx rfl (pc0 := 4) (pc' := 39) rfl (hb hby d3_4) rfl ((if0 _ _).trans (teq (by decide : (0 : Int32) = (0 : Int32))).1) (by decide) (by decide) k) ?_
  show own_Fin p e below s _ _ _ T11 (mkF m 39 #[.val (.ref a1), .val (.ref a2)] [])
  refine own_by (fun _ k => XS.iconst X11.here hx rfl (hb hby d3_39) k) ?_
  show own_Fin p e below s _ _ _ T11 (mkF m 40 #[.val (.ref a1), .val (.ref a2)] [(.int (0 : Int32))])
  exact own_retZ X11 hx hlk (t := .boolean) hret (by simp) (hb hby d3_40) ⟨rfl, N0, e11⟩ (by decide) (by decide)
theorem d1_0 : decode prog_36_method_1_code 0 = .ok (.aload_n 0, 1) := by decide +kernel
theorem d1_1 : decode prog_36_method_1_code 1 = .ok (.invokespecial 1, 3) := by decide +kernel
theorem d1_4 : decode prog_36_method_1_code 4 = .ok (.aload_n 0, 1) := by decide +kernel
theorem d1_5 : decode prog_36_method_1_code 5 = .ok (.iload_n 1, 1) := by decide +kernel
theorem d1_6 : decode prog_36_method_1_code 6 = .ok (.putfield 7, 3) := by decide +kernel
theorem d1_9 : decode prog_36_method_1_code 9 = .ok (.aload_n 0, 1) := by decide +kernel
theorem d1_10 : decode prog_36_method_1_code 10 = .ok (.iload_n 2, 1) := by decide +kernel
theorem d1_11 : decode prog_36_method_1_code 11 = .ok (.putfield 13, 3) := by decide +kernel
theorem d1_14 : decode prog_36_method_1_code 14 = .ok (.return_, 1) := by decide +kernel
theorem ef_rm1 (m : MethodId) (x0 : Addr) (x1 : Int32) (x2 : Int32) : entryFrame m #[(.ref x0), (.int x1), (.int x2)] 3 = mkF m 0 #[.val (.ref x0), .val (.int x1), .val (.int x2)] [] := by first | (simp [entryFrame, mkF, argsToLocals, Value.category]; done) | rfl
def own_Q1 (Z : State) (a1 : Addr) (p2 p3 : Int32) (h0 : Heap) (n0 : Nat) (v : Option Value) (h : Heap) (L : List Loc) : Prop := v = none ∧ Fr n0 L ∧ Keep h0 h [a1] ∧ Fld Z h a1 "com/example/libsubstr/libsubstr/PatternSet$Occurrence" "index" "I" (.int p2) ∧ Fld Z h a1 "com/example/libsubstr/libsubstr/PatternSet$Occurrence" "pattern" "I" (.int p3)
set_option maxRecDepth 65536 in
set_option maxHeartbeats 40000000 in
theorem rm1 (l : Launch) (Z : State) (a0 : Array Value) (hw : ∀ d ∈ tables_1, d.before a0 Z = true) (ws : List Jvm.Cond) (a1 : Addr) (p2 p3 : Int32) (u1 u2 : Value) (h0 : Heap) (n0 : Nat) (Z0 : n0 ≤ h0.size) (E_a1 : Exa Z h0 a1 "com/example/libsubstr/libsubstr/PatternSet$Occurrence") (F_index_a1 : Fld Z h0 a1 "com/example/libsubstr/libsubstr/PatternSet$Occurrence" "index" "I" u1) (F_pattern_a1 : Fld Z h0 a1 "com/example/libsubstr/libsubstr/PatternSet$Occurrence" "pattern" "I" u2) (g_a1 : n0 ≤ a1) : own_Met l Z (⟨"com/example/libsubstr/libsubstr/PatternSet$Occurrence", "<init>", "(II)V"⟩ : MethodName) prog_36_method_1_code 3 none ws (own_R 1 0 0 12) #[(.ref a1), (.int p2), (.int p3)] h0 (own_Q1 Z a1 p2 p3 h0 n0) := by
  refine own_enter n0 own_pn1 (fun m => ef_rm1 m a1 p2 p3 ) (fun p e s m below meth c s₁ hx hby hlk hml hret hown hnm hZ X0 e0 N0 => ?_)
  show own_Fin p e below s _ _ _ s₁ (mkF m 0 #[.val (.ref a1), .val (.int p2), .val (.int p3)] [])
  have Kp12 : Keep h0 h0 [a1] := Keep.refl h0 _
  refine own_by (fun _ k => XS.aloadN X0.here hx rfl (hb hby d1_0) rfl rfl k) ?_
  show own_Fin p e below s _ _ _ s₁ (mkF m 1 #[.val (.ref a1), .val (.int p2), .val (.int p3)] [(.ref a1)])
  obtain ⟨T13, X13, e13, st13⟩ := initO X0 hx hZ hown (hw _ (List.mem_of_getElem? (i := 6) rfl)) (hw _ (List.mem_of_getElem? (i := 7) rfl)) (hw _ (List.mem_of_getElem? (i := 8) rfl)) e0 (g := (mkF m 1 #[.val (.ref a1), .val (.int p2), .val (.int p3)] [(.ref a1)])) rfl (by rw [hml]; rfl) rfl (hb hby d1_1) (by decide) (W := 0) (by show 2 * 0 + _ ≤ _; exact Nat.le_of_eq rfl) (by decide)
  refine own_by (fun _ k => st13 _ k) ?_
  show own_Fin p e below s _ _ _ T13 (mkF m 4 #[.val (.ref a1), .val (.int p2), .val (.int p3)] [])
  refine own_by (fun _ k => XS.aloadN X13.here hx rfl (hb hby d1_4) rfl rfl (XS.iloadN X13.here hx rfl (hb hby d1_5) rfl k)) ?_
  show own_Fin p e below s _ _ _ T13 (mkF m 6 #[.val (.ref a1), .val (.int p2), .val (.int p3)] [(.int p2), (.ref a1)])
  obtain ⟨T14, h14, X14, e14, W14, st14⟩ := putF X13 hx hZ hown (host := "") (Or.inl (hw _ (List.mem_of_getElem? (i := 9) rfl))) Via.refl e13 F_index_a1 E_a1 (Or.inr ⟨(hw _ (List.mem_of_getElem? (i := 10) rfl)), rfl, hnm⟩) (hw _ (List.mem_of_getElem? (i := 1) rfl)) (ty := .int) (by decide) rfl rfl (g := (mkF m 6 #[.val (.ref a1), .val (.int p2), .val (.int p3)] [(.int p2), (.ref a1)])) rfl rfl (hb hby d1_6)
  refine own_by (fun _ k => st14 _ k) ?_
  have Fw14 : Fld Z h14 a1 "com/example/libsubstr/libsubstr/PatternSet$Occurrence" "index" "I" (.int p2) := F_index_a1.same W14
  have Kp14 : Keep h0 h14 [a1] := Kp12.wr W14 (Or.inl (List.mem_of_getElem? (i := 0) rfl))
  have Zs14 : n0 ≤ h14.size := Nat.le_trans Z0 (Keep.of_wr W14).1
  have N14 := Fr.snoc X14 N0 g_a1
  have f15_0 : Exa Z h14 a1 "com/example/libsubstr/libsubstr/PatternSet$Occurrence" := E_a1.wr W14
  have f15_2 : Fld Z h14 a1 "com/example/libsubstr/libsubstr/PatternSet$Occurrence" "pattern" "I" u2 := F_pattern_a1.other W14 (Or.inr (slot_ne (Or.inr (hw _ (List.mem_of_getElem? (i := 12) rfl))) (Or.inr (hw _ (List.mem_of_getElem? (i := 10) rfl))) (by decide) (t := .int) (t' := .int) (by decide) (by decide)))
  show own_Fin p e below s _ _ _ T14 (mkF m 9 #[.val (.ref a1), .val (.int p2), .val (.int p3)] [])
  refine own_by (fun _ k => XS.aloadN X14.here hx rfl (hb hby d1_9) rfl rfl (XS.iloadN X14.here hx rfl (hb hby d1_10) rfl k)) ?_
  show own_Fin p e below s _ _ _ T14 (mkF m 11 #[.val (.ref a1), .val (.int p2), .val (.int p3)] [(.int p3), (.ref a1)])
  obtain ⟨T16, h16, X16, e16, W16, st16⟩ := putF X14 hx hZ hown (host := "") (Or.inl (hw _ (List.mem_of_getElem? (i := 11) rfl))) Via.refl e14 f15_2 f15_0 (Or.inr ⟨(hw _ (List.mem_of_getElem? (i := 12) rfl)), rfl, hnm⟩) (hw _ (List.mem_of_getElem? (i := 1) rfl)) (ty := .int) (by decide) rfl rfl (g := (mkF m 11 #[.val (.ref a1), .val (.int p2), .val (.int p3)] [(.int p3), (.ref a1)])) rfl rfl (hb hby d1_11)
  refine own_by (fun _ k => st16 _ k) ?_
  have Fw16 : Fld Z h16 a1 "com/example/libsubstr/libsubstr/PatternSet$Occurrence" "pattern" "I" (.int p3) := f15_2.same W16
  have Kp16 : Keep h0 h16 [a1] := Kp14.wr W16 (Or.inl (List.mem_of_getElem? (i := 0) rfl))
  have Zs16 : n0 ≤ h16.size := Nat.le_trans Zs14 (Keep.of_wr W16).1
  have N16 := Fr.snoc X16 N14 g_a1
  have f17_0 : Exa Z h16 a1 "com/example/libsubstr/libsubstr/PatternSet$Occurrence" := f15_0.wr W16
  have f17_2 : Fld Z h16 a1 "com/example/libsubstr/libsubstr/PatternSet$Occurrence" "index" "I" (.int p2) := Fw14.other W16 (Or.inr (slot_ne (Or.inr (hw _ (List.mem_of_getElem? (i := 10) rfl))) (Or.inr (hw _ (List.mem_of_getElem? (i := 12) rfl))) (by decide) (t := .int) (t' := .int) (by decide) (by decide)))
  show own_Fin p e below s _ _ _ T16 (mkF m 14 #[.val (.ref a1), .val (.int p2), .val (.int p3)] [])
  exact own_retV X16 hx hlk hret (hb hby d1_14) (by rw [e16]; exact ⟨rfl, N16, Kp16, f17_2, Fw16⟩) (by decide) (by decide)
theorem own_pn34 : plainName "java/lang/Number" = true := by first | (simp [plainName, overriddenIn]; done) | decide +kernel
theorem d6_0 : decode jdk_18_method_1_code 0 = .ok (.aload_n 0, 1) := by decide +kernel
theorem d6_1 : decode jdk_18_method_1_code 1 = .ok (.invokespecial 1, 3) := by decide +kernel
theorem d6_4 : decode jdk_18_method_1_code 4 = .ok (.return_, 1) := by decide +kernel
theorem ef_rm6 (m : MethodId) (x0 : Addr) : entryFrame m #[(.ref x0)] 1 = mkF m 0 #[.val (.ref x0)] [] := by first | (simp [entryFrame, mkF, argsToLocals, Value.category]; done) | rfl
def own_Q6 (h0 : Heap) (n0 : Nat) (v : Option Value) (h : Heap) (L : List Loc) : Prop := v = none ∧ Fr n0 L ∧ h = h0
set_option maxRecDepth 65536 in
set_option maxHeartbeats 40000000 in
theorem rm6 (l : Launch) (Z : State) (a0 : Array Value) (hw : ∀ d ∈ tables_1, d.before a0 Z = true) (ws : List Jvm.Cond) (a1 : Addr) (h0 : Heap) (n0 : Nat) (Z0 : n0 ≤ h0.size)  : own_Met l Z (⟨"java/lang/Number", "<init>", "()V"⟩ : MethodName) jdk_18_method_1_code 1 none ws (own_R 1 0 0 12) #[(.ref a1)] h0 (own_Q6 h0 n0) := by
  refine own_enter n0 own_pn34 (fun m => ef_rm6 m a1 ) (fun p e s m below meth c s₁ hx hby hlk hml hret hown hnm hZ X0 e0 N0 => ?_)
  show own_Fin p e below s _ _ _ s₁ (mkF m 0 #[.val (.ref a1)] [])
  refine own_by (fun _ k => XS.aloadN X0.here hx rfl (hb hby d6_0) rfl rfl k) ?_
  show own_Fin p e below s _ _ _ s₁ (mkF m 1 #[.val (.ref a1)] [(.ref a1)])
  obtain ⟨T18, X18, e18, st18⟩ := initO X0 hx hZ hown (hw _ (List.mem_of_getElem? (i := 42) rfl)) (hw _ (List.mem_of_getElem? (i := 7) rfl)) (hw _ (List.mem_of_getElem? (i := 8) rfl)) e0 (g := (mkF m 1 #[.val (.ref a1)] [(.ref a1)])) rfl (by rw [hml]; rfl) rfl (hb hby d6_1) (by decide) (W := 0) (by show 2 * 0 + _ ≤ _; exact Nat.le_of_eq rfl) (by decide)
  refine own_by (fun _ k => st18 _ k) ?_
  show own_Fin p e below s _ _ _ T18 (mkF m 4 #[.val (.ref a1)] [])
  exact own_retV X18 hx hlk hret (hb hby d6_4) ⟨rfl, N0, e18⟩ (by decide) (by decide)
theorem own_pn39 : plainName "java/lang/Integer" = true := by first | (simp [plainName, overriddenIn]; done) | decide +kernel
theorem d5_0 : decode jdk_33_method_23_code 0 = .ok (.aload_n 0, 1) := by decide +kernel
theorem d5_1 : decode jdk_33_method_23_code 1 = .ok (.invokespecial 202, 3) := by decide +kernel
theorem own_pd42 : parseMethodDescriptor "()V" = some ⟨[], none⟩ := by decide +kernel
theorem d5_4 : decode jdk_33_method_23_code 4 = .ok (.aload_n 0, 1) := by decide +kernel
theorem d5_5 : decode jdk_33_method_23_code 5 = .ok (.iload_n 1, 1) := by decide +kernel
theorem d5_6 : decode jdk_33_method_23_code 6 = .ok (.putfield 205, 3) := by decide +kernel
theorem d5_9 : decode jdk_33_method_23_code 9 = .ok (.return_, 1) := by decide +kernel
theorem ef_rm5 (m : MethodId) (x0 : Addr) (x1 : Int32) : entryFrame m #[(.ref x0), (.int x1)] 2 = mkF m 0 #[.val (.ref x0), .val (.int x1)] [] := by first | (simp [entryFrame, mkF, argsToLocals, Value.category]; done) | rfl
def own_Q5 (Z : State) (a1 : Addr) (p2 : Int32) (h0 : Heap) (n0 : Nat) (v : Option Value) (h : Heap) (L : List Loc) : Prop := v = none ∧ Fr n0 L ∧ Keep h0 h [a1]
set_option maxRecDepth 65536 in
set_option maxHeartbeats 40000000 in
theorem rm5 (l : Launch) (Z : State) (a0 : Array Value) (hw : ∀ d ∈ tables_1, d.before a0 Z = true) (ws : List Jvm.Cond) (a1 : Addr) (p2 : Int32) (u1 : Value) (h0 : Heap) (n0 : Nat) (Z0 : n0 ≤ h0.size) (E_a1 : Exa Z h0 a1 "java/lang/Integer") (F_value_a1 : Fld Z h0 a1 "java/lang/Integer" "value" "I" u1) (g_a1 : n0 ≤ a1) : own_Met l Z (⟨"java/lang/Integer", "<init>", "(I)V"⟩ : MethodName) jdk_33_method_23_code 2 none ws (own_R 2 0 0 24) #[(.ref a1), (.int p2)] h0 (own_Q5 Z a1 p2 h0 n0) := by
  refine own_enter n0 own_pn39 (fun m => ef_rm5 m a1 p2 ) (fun p e s m below meth c s₁ hx hby hlk hml hret hown hnm hZ X0 e0 N0 => ?_)
  show own_Fin p e below s _ _ _ s₁ (mkF m 0 #[.val (.ref a1), .val (.int p2)] [])
  have Kp19 : Keep h0 h0 [a1] := Keep.refl h0 _
  refine own_by (fun _ k => XS.aloadN X0.here hx rfl (hb hby d5_0) rfl rfl k) ?_
  show own_Fin p e below s _ _ _ s₁ (mkF m 1 #[.val (.ref a1), .val (.int p2)] [(.ref a1)])
  obtain ⟨_, _, ⟨T20, L20, k20, n20⟩, -, X20, ⟨Lc20, hQ20, l20, y20, z20⟩, st20⟩ := X0.specialBack hx (y := (⟨"java/lang/Number", "<init>", "()V"⟩ : MethodName)) rfl hown (mvT hZ (hw _ (List.mem_of_getElem? (i := 36) rfl))) (mvT hZ (hw _ (List.mem_of_getElem? (i := 37) rfl))) (mvT hZ (hw _ (List.mem_of_getElem? (i := 41) rfl))) (by decide) (backOf (W := 0) (rm6 l Z a0 hw [] a1 h0 n0 Z0 ) hZ (hw _ (List.mem_of_getElem? (i := 41) rfl)) (hw _ (List.mem_of_getElem? (i := 40) rfl)) (by decide) (by decide)) (g := (mkF m 1 #[.val (.ref a1), .val (.int p2)] [(.ref a1)])) rfl (by rw [hml]; rfl) (Steps.refl _) (a := a1) (argsL := []) (rest := []) (lenOf own_pd42 rfl) rfl (by show 2 * 0 + _ ≤ _; exact Nat.le_of_eq rfl) (hb hby d5_1) (fun _ _ => ⟨rfl, e0, (by decide : 0 + 0 ≤ _), (by decide : 0 + 0 ≤ _)⟩)
  dsimp only [Pt.U, Pt.locs, Pt.cells, Pt.slots] at X20 l20 y20 z20 st20 hQ20
  subst l20 y20 z20
  obtain ⟨rfl, Nq20, eh20⟩ := hQ20
  have N20 := Fr.app N0 Nq20
  refine own_by (fun _ k => st20.trans k) ?_
  show own_Fin p e below s _ _ _ T20 (mkF m 4 #[.val (.ref a1), .val (.int p2)] [])
  refine own_by (fun _ k => XS.aloadN X20.here hx rfl (hb hby d5_4) rfl rfl (XS.iloadN X20.here hx rfl (hb hby d5_5) rfl k)) ?_
  show own_Fin p e below s _ _ _ T20 (mkF m 6 #[.val (.ref a1), .val (.int p2)] [(.int p2), (.ref a1)])
  obtain ⟨T21, h21, X21, e21, W21, st21⟩ := putF X20 hx hZ hown (host := "") (Or.inl (hw _ (List.mem_of_getElem? (i := 43) rfl))) Via.refl eh20 F_value_a1 E_a1 (Or.inr ⟨(hw _ (List.mem_of_getElem? (i := 44) rfl)), rfl, hnm⟩) (hw _ (List.mem_of_getElem? (i := 31) rfl)) (ty := .int) (by decide) rfl rfl (g := (mkF m 6 #[.val (.ref a1), .val (.int p2)] [(.int p2), (.ref a1)])) rfl rfl (hb hby d5_6)
  refine own_by (fun _ k => st21 _ k) ?_
  have Fw21 : Fld Z h21 a1 "java/lang/Integer" "value" "I" (.int p2) := F_value_a1.same W21
  have Kp21 : Keep h0 h21 [a1] := Kp19.wr W21 (Or.inl (List.mem_of_getElem? (i := 0) rfl))
  have Zs21 : n0 ≤ h21.size := Nat.le_trans Z0 (Keep.of_wr W21).1
  have N21 := Fr.snoc X21 N20 g_a1
  have f22_0 : Exa Z h21 a1 "java/lang/Integer" := E_a1.wr W21
  show own_Fin p e below s _ _ _ T21 (mkF m 9 #[.val (.ref a1), .val (.int p2)] [])
  exact own_retV X21 hx hlk hret (hb hby d5_9) (by rw [e21]; exact ⟨rfl, N21, Kp21⟩) (by decide) (by decide)
theorem d4_0 : decode jdk_33_method_22_code 0 = .ok (.iload_n 0, 1) := by decide +kernel
theorem d4_1 : decode jdk_33_method_22_code 1 = .ok (.bipush (-128), 2) := by decide +kernel
theorem d4_3 : decode jdk_33_method_22_code 3 = .ok (.if_icmp .lt 20, 3) := by decide +kernel
theorem d4_23 : decode jdk_33_method_22_code 23 = .ok (.new 1, 3) := by decide +kernel
theorem d4_26 : decode jdk_33_method_22_code 26 = .ok (.dup, 1) := by decide +kernel
theorem d4_27 : decode jdk_33_method_22_code 27 = .ok (.iload_n 0, 1) := by decide +kernel
theorem d4_28 : decode jdk_33_method_22_code 28 = .ok (.invokespecial 199, 3) := by decide +kernel
theorem own_pd55 : parseMethodDescriptor "(I)V" = some ⟨[.int], none⟩ := by decide +kernel
theorem d4_31 : decode jdk_33_method_22_code 31 = .ok (.areturn, 1) := by decide +kernel
theorem d4_6 : decode jdk_33_method_22_code 6 = .ok (.iload_n 0, 1) := by decide +kernel
theorem d4_7 : decode jdk_33_method_22_code 7 = .ok (.getstatic 191, 3) := by decide +kernel
theorem d4_10 : decode jdk_33_method_22_code 10 = .ok (.if_icmp .gt 13, 3) := by decide +kernel
theorem d4_13 : decode jdk_33_method_22_code 13 = .ok (.getstatic 195, 3) := by decide +kernel
theorem d4_16 : decode jdk_33_method_22_code 16 = .ok (.iload_n 0, 1) := by decide +kernel
theorem d4_17 : decode jdk_33_method_22_code 17 = .ok (.sipush 128, 3) := by decide +kernel
theorem d4_20 : decode jdk_33_method_22_code 20 = .ok (.iadd, 1) := by decide +kernel
theorem d4_21 : decode jdk_33_method_22_code 21 = .ok (.aaload, 1) := by decide +kernel
theorem d4_22 : decode jdk_33_method_22_code 22 = .ok (.areturn, 1) := by decide +kernel
theorem ef_rm4 (m : MethodId) (x0 : Int32) : entryFrame m #[(.int x0)] 1 = mkF m 0 #[.val (.int x0)] [] := by first | (simp [entryFrame, mkF, argsToLocals, Value.category]; done) | rfl
def own_Q4 (Z : State) (h0 : Heap) (n0 : Nat) (v : Option Value) (h : Heap) (L : List Loc) : Prop := ∃ a : Addr, v = some (.ref a) ∧ Fr n0 L ∧ Keep h0 h [] ∧ Exa Z h a "java/lang/Integer"
set_option maxRecDepth 65536 in
set_option maxHeartbeats 40000000 in
theorem rm4 (l : Launch) (Z : State) (a0 : Array Value) (hw : ∀ d ∈ tables_1, d.before a0 Z = true) (ws : List Jvm.Cond) (p1 : Int32) (ca : Addr) (cl : Cell) (val : Int32 → Value) (h0 : Heap) (n0 : Nat) (Z0 : n0 ≤ h0.size) (S_high : Sta Z h0 "java/lang/Integer$IntegerCache" "high" "I" (.int (127 : Int32))) (S_cache : Sta Z h0 "java/lang/Integer$IntegerCache" "cache" "[Ljava/lang/Integer;" (.ref ca)) (Bx : Bxs Z ca cl "java/lang/Integer" "I" (256 : Int32) val) (Eo : Ext Z.heap h0) : own_Met l Z (⟨"java/lang/Integer", "valueOf", "(I)Ljava/lang/Integer;"⟩ : MethodName) jdk_33_method_22_code 1 (some (.object "java/lang/Integer")) ws (own_R 3 1 1 40) #[(.int p1)] h0 (own_Q4 Z h0 n0) := by
  refine own_enter n0 own_pn39 (fun m => ef_rm4 m p1 ) (fun p e s m below meth c s₁ hx hby hlk hml hret hown hnm hZ X0 e0 N0 => ?_)
  show own_Fin p e below s _ _ _ s₁ (mkF m 0 #[.val (.int p1)] [])
  have Kp23 : Keep h0 h0 [] := Keep.refl h0 _
  refine own_by (fun _ k => XS.iloadN X0.here hx rfl (hb hby d4_0) rfl (XS.bipush X0.here hx rfl (hb hby d4_1) k)) ?_
  show own_Fin p e below s _ _ _ s₁ (mkF m 3 #[.val (.int p1)] [(.int (-128 : Int32)), (.int p1)])
  by_cases hc3_24 : p1 < (-128 : Int32)
  · show own_Fin p e below s _ _ _ s₁ (mkF m 3 #[.val (.int p1)] [(.int (-128 : Int32)), (.int p1)])
    refine own_by (fun _ k => XS.icmpYes X0.here hx rfl (pc0 := 3) (pc' := 23) rfl (hb hby d4_3) rfl (tlt hc3_24).1 (by decide) (by decide) k) ?_
    show own_Fin p e below s _ _ _ s₁ (mkF m 23 #[.val (.int p1)] [])
    obtain ⟨T25, h25, X25, e25, E25, A25, D25, -, st25⟩ := newO X0 hx hZ hown (hw _ (List.mem_of_getElem? (i := 30) rfl)) (hw _ (List.mem_of_getElem? (i := 31) rfl)) (hw _ (List.mem_of_getElem? (i := 22) rfl)) e0 (g := (mkF m 23 #[.val (.int p1)] [])) rfl (hb hby d4_23) (by decide) (by decide)
    obtain ⟨b25, g25⟩ : ∃ z, z = h0.size := ⟨_, rfl⟩
    rw [← g25] at A25 D25 st25
    refine own_by (fun _ k => st25 _ k) ?_
    have gf25 : n0 ≤ b25 := Nat.le_trans Z0 (Nat.le_of_eq g25.symm)
    have Zs25 : n0 ≤ h25.size := Nat.le_trans Z0 E25.1
    have Kp25 : Keep h0 h25 [] := Kp23.ext E25
    have sz_b25 : h0.size ≤ b25 := Nat.le_trans Kp23.1 (Nat.le_of_eq g25.symm)
    have F25_value : Fld Z h25 b25 "java/lang/Integer" "value" "I" (.int (0 : Int32)) := D25 (Or.inr (hw _ (List.mem_of_getElem? (i := 44) rfl))) (ty := .int) (by decide)
    show own_Fin p e below s _ _ _ T25 (mkF m 26 #[.val (.int p1)] [(.ref b25)])
    refine own_by (fun _ k => XS.dup X25.here hx rfl (hb hby d4_26) rfl rfl (XS.iloadN X25.here hx rfl (hb hby d4_27) rfl k)) ?_
    show own_Fin p e below s _ _ _ T25 (mkF m 28 #[.val (.int p1)] [(.int p1), (.ref b25), (.ref b25)])
    obtain ⟨_, _, ⟨T27, L27, k27, n27⟩, -, X27, ⟨Lc27, hQ27, l27, y27, z27⟩, st27⟩ := X25.specialBack hx (y := (⟨"java/lang/Integer", "<init>", "(I)V"⟩ : MethodName)) rfl hown (mvT hZ (hw _ (List.mem_of_getElem? (i := 32) rfl))) (mvT hZ (hw _ (List.mem_of_getElem? (i := 33) rfl))) (mvT hZ (hw _ (List.mem_of_getElem? (i := 35) rfl))) (by decide) (backOf (W := 1) (rm5 l Z a0 hw [] b25 p1 _ h25 n0 Zs25 A25 F25_value gf25) hZ (hw _ (List.mem_of_getElem? (i := 35) rfl)) (hw _ (List.mem_of_getElem? (i := 22) rfl)) (by decide) (by decide)) (g := (mkF m 28 #[.val (.int p1)] [(.int p1), (.ref b25), (.ref b25)])) rfl (by rw [hml]; rfl) (Steps.refl _) (a := b25) (argsL := [(.int p1)]) (rest := [(.ref b25)]) (lenOf own_pd55 rfl) rfl (by show 2 * 0 + _ ≤ _; exact Nat.le_of_eq rfl) (hb hby d4_28) (fun _ _ => ⟨rfl, e25, (by decide : 1 + 0 ≤ _), (by decide : 1 + 0 ≤ _)⟩)
    dsimp only [Pt.U, Pt.locs, Pt.cells, Pt.slots] at X27 l27 y27 z27 st27 hQ27
    subst l27 y27 z27
    obtain ⟨rfl, Nq27, K27⟩ := hQ27
    have N27 := Fr.app N0 Nq27
    refine own_by (fun _ k => st27.trans k) ?_
    have Zs27 : n0 ≤ T27.heap.size := Nat.le_trans Zs25 K27.1
    have Kp27 : Keep h0 T27.heap [] := Kp25.trans K27 (allS (Or.inr sz_b25) all0)
    have f28_0 : Exa Z T27.heap b25 "java/lang/Integer" := A25.keep K27
    show own_Fin p e below s _ _ _ T27 (mkF m 31 #[.val (.int p1)] [(.ref b25)])
    exact own_retA X27 hx hlk (t := (.object "java/lang/Integer")) hret rfl rfl rfl (hb hby d4_31) ⟨_, rfl, N27, Kp27, f28_0⟩ (by decide) (by decide)
  · show own_Fin p e below s _ _ _ s₁ (mkF m 3 #[.val (.int p1)] [(.int (-128 : Int32)), (.int p1)])
    refine own_by (fun _ k => XS.icmpNo X0.here hx rfl (hb hby d4_3) rfl (flt hc3_24).1 k) ?_
    show own_Fin p e below s _ _ _ s₁ (mkF m 6 #[.val (.int p1)] [])
    refine own_by (fun _ k => XS.iloadN X0.here hx rfl (hb hby d4_6) rfl k) ?_
    show own_Fin p e below s _ _ _ s₁ (mkF m 7 #[.val (.int p1)] [(.int p1)])
    obtain ⟨T29, X29, e29, st29⟩ := getS2 X0 hx hZ hown (host := "") (Or.inl (hw _ (List.mem_of_getElem? (i := 24) rfl))) Via.refl e0 S_high (g := (mkF m 7 #[.val (.int p1)] [(.int p1)])) rfl (hb hby d4_7)
    refine own_by (fun _ k => st29 _ k) ?_
    show own_Fin p e below s _ _ _ T29 (mkF m 10 #[.val (.int p1)] [(.int (127 : Int32)), (.int p1)])
    by_cases hc10_30 : (127 : Int32) < p1
    · show own_Fin p e below s _ _ _ T29 (mkF m 10 #[.val (.int p1)] [(.int (127 : Int32)), (.int p1)])
      refine own_by (fun _ k => XS.icmpYes X29.here hx rfl (pc0 := 10) (pc' := 23) rfl (hb hby d4_10) rfl (tlt hc10_30).2.2.1 (by decide) (by decide) k) ?_
      show own_Fin p e below s _ _ _ T29 (mkF m 23 #[.val (.int p1)] [])
      obtain ⟨T31, h31, X31, e31, E31, A31, D31, -, st31⟩ := newO X29 hx hZ hown (hw _ (List.mem_of_getElem? (i := 30) rfl)) (hw _ (List.mem_of_getElem? (i := 31) rfl)) (hw _ (List.mem_of_getElem? (i := 22) rfl)) e29 (g := (mkF m 23 #[.val (.int p1)] [])) rfl (hb hby d4_23) (by decide) (by decide)
      obtain ⟨b31, g31⟩ : ∃ z, z = h0.size := ⟨_, rfl⟩
      rw [← g31] at A31 D31 st31
      refine own_by (fun _ k => st31 _ k) ?_
      have gf31 : n0 ≤ b31 := Nat.le_trans Z0 (Nat.le_of_eq g31.symm)
      have Zs31 : n0 ≤ h31.size := Nat.le_trans Z0 E31.1
      have Kp31 : Keep h0 h31 [] := Kp23.ext E31
      have sz_b31 : h0.size ≤ b31 := Nat.le_trans Kp23.1 (Nat.le_of_eq g31.symm)
      have F31_value : Fld Z h31 b31 "java/lang/Integer" "value" "I" (.int (0 : Int32)) := D31 (Or.inr (hw _ (List.mem_of_getElem? (i := 44) rfl))) (ty := .int) (by decide)
      show own_Fin p e below s _ _ _ T31 (mkF m 26 #[.val (.int p1)] [(.ref b31)])
      refine own_by (fun _ k => XS.dup X31.here hx rfl (hb hby d4_26) rfl rfl (XS.iloadN X31.here hx rfl (hb hby d4_27) rfl k)) ?_
      show own_Fin p e below s _ _ _ T31 (mkF m 28 #[.val (.int p1)] [(.int p1), (.ref b31), (.ref b31)])
      obtain ⟨_, _, ⟨T33, L33, k33, n33⟩, -, X33, ⟨Lc33, hQ33, l33, y33, z33⟩, st33⟩ := X31.specialBack hx (y := (⟨"java/lang/Integer", "<init>", "(I)V"⟩ : MethodName)) rfl hown (mvT hZ (hw _ (List.mem_of_getElem? (i := 32) rfl))) (mvT hZ (hw _ (List.mem_of_getElem? (i := 33) rfl))) (mvT hZ (hw _ (List.mem_of_getElem? (i := 35) rfl))) (by decide) (backOf (W := 1) (rm5 l Z a0 hw [] b31 p1 _ h31 n0 Zs31 A31 F31_value gf31) hZ (hw _ (List.mem_of_getElem? (i := 35) rfl)) (hw _ (List.mem_of_getElem? (i := 22) rfl)) (by decide) (by decide)) (g := (mkF m 28 #[.val (.int p1)] [(.int p1), (.ref b31), (.ref b31)])) rfl (by rw [hml]; rfl) (Steps.refl _) (a := b31) (argsL := [(.int p1)]) (rest := [(.ref b31)]) (lenOf own_pd55 rfl) rfl (by show 2 * 0 + _ ≤ _; exact Nat.le_of_eq rfl) (hb hby d4_28) (fun _ _ => ⟨rfl, e31, (by decide : 1 + 0 ≤ _), (by decide : 1 + 0 ≤ _)⟩)
      dsimp only [Pt.U, Pt.locs, Pt.cells, Pt.slots] at X33 l33 y33 z33 st33 hQ33
      subst l33 y33 z33
      obtain ⟨rfl, Nq33, K33⟩ := hQ33
      have N33 := Fr.app N0 Nq33
      refine own_by (fun _ k => st33.trans k) ?_
      have Zs33 : n0 ≤ T33.heap.size := Nat.le_trans Zs31 K33.1
      have Kp33 : Keep h0 T33.heap [] := Kp31.trans K33 (allS (Or.inr sz_b31) all0)
      have f34_0 : Exa Z T33.heap b31 "java/lang/Integer" := A31.keep K33
      show own_Fin p e below s _ _ _ T33 (mkF m 31 #[.val (.int p1)] [(.ref b31)])
      exact own_retA X33 hx hlk (t := (.object "java/lang/Integer")) hret rfl rfl rfl (hb hby d4_31) ⟨_, rfl, N33, Kp33, f34_0⟩ (by decide) (by decide)
    · show own_Fin p e below s _ _ _ T29 (mkF m 10 #[.val (.int p1)] [(.int (127 : Int32)), (.int p1)])
      refine own_by (fun _ k => XS.icmpNo X29.here hx rfl (hb hby d4_10) rfl (flt hc10_30).2.2.1 k) ?_
      show own_Fin p e below s _ _ _ T29 (mkF m 13 #[.val (.int p1)] [])
      obtain ⟨T35, X35, e35, st35⟩ := getS2 X29 hx hZ hown (host := "") (Or.inl (hw _ (List.mem_of_getElem? (i := 26) rfl))) Via.refl e29 S_cache (g := (mkF m 13 #[.val (.int p1)] [])) rfl (hb hby d4_13)
      refine own_by (fun _ k => st35 _ k) ?_
      show own_Fin p e below s _ _ _ T35 (mkF m 16 #[.val (.int p1)] [(.ref ca)])
      refine own_by (fun _ k => XS.iloadN X35.here hx rfl (hb hby d4_16) rfl (XS.sipush X35.here hx rfl (hb hby d4_17) (XS.iadd X35.here hx rfl (hb hby d4_20) rfl k))) ?_
      show own_Fin p e below s _ _ _ T35 (mkF m 21 #[.val (.int p1)] [(.int (p1 + (128 : Int32))), (.ref ca)])
      have hin36 : ¬ ((p1 + (128 : Int32)) < 0 ∨ cl.slots.size ≤ ((p1 + (128 : Int32))).toNatClampNeg) := inb_of Bx.2.1 (own_in p1 hc3_24 hc10_30)
      obtain ⟨bx, hbx, Ebx, -⟩ := Bx.2.2.2 (p1 + (128 : Int32)) hin36
      refine own_by (fun _ k => X35.aaload hx (j := (p1 + (128 : Int32))) (v := .ref bx) (by rw [e35]; exact (Bx.ext Eo).1.1) (State.isArrayOf_alike hZ.alike (Bx.ext Eo).1.2.1) rfl (Bx.ext Eo).1.2.2 hin36 hbx (g := (mkF m 21 #[.val (.int p1)] [(.int (p1 + (128 : Int32))), (.ref ca)])) rfl rfl (hb hby d4_21) _ k) ?_
      show own_Fin p e below s _ _ _ T35 (mkF m 22 #[.val (.int p1)] [(.ref bx)])
      exact own_retA X35 hx hlk (t := (.object "java/lang/Integer")) hret rfl rfl rfl (hb hby d4_22) (by rw [e35]; exact ⟨_, rfl, N0, Kp23, (Ebx.ext Eo)⟩) (by decide) (by decide)
theorem own_pn67 : plainName "com/example/libsubstr/libsubstr/OccurrenceEqualsPinLaw" = true := by first | (simp [plainName, overriddenIn]; done) | decide +kernel
theorem own_pd68 : parseMethodDescriptor "(II)V" = some ⟨[.int, .int], none⟩ := by decide +kernel
theorem own_pd69 : parseMethodDescriptor "(Ljava/lang/Object;)Z" = some ⟨[(.object "java/lang/Object")], some .boolean⟩ := by decide +kernel
theorem own_pd70 : parseMethodDescriptor "(I)Ljava/lang/Integer;" = some ⟨[.int], some (.object "java/lang/Integer")⟩ := by decide +kernel
theorem ef_rm0 (m : MethodId) (x0 : Int32) (x1 : Int32) (x2 : Int32) (x3 : Int32) (x4 : Int32) : entryFrame m #[(.int x0), (.int x1), (.int x2), (.int x3), (.int x4)] maxLocals = mkF m 0 #[.val (.int x0), .val (.int x1), .val (.int x2), .val (.int x3), .val (.int x4), .unset, .unset, .unset, .unset, .unset, .unset] [] := by first | (simp [entryFrame, mkF, argsToLocals, Value.category, maxLocals]; done) | rfl
def own_Q0 (n0 : Nat) (v : Option Value) (h : Heap) (L : List Loc) : Prop := v = some (.int (1 : Int32)) ∧ Fr n0 L
set_option maxRecDepth 65536 in
set_option maxHeartbeats 40000000 in
theorem rm0 (l : Launch) (Z : State) (a0 : Array Value) (hw : ∀ d ∈ tables_1, d.before a0 Z = true) (ws : List Jvm.Cond) (p1 p2 p3 p4 p5 : Int32) (ca : Addr) (cl : Cell) (val : Int32 → Value) (h0 : Heap) (n0 : Nat) (Z0 : n0 ≤ h0.size) (S_high : Sta Z Z.heap "java/lang/Integer$IntegerCache" "high" "I" (.int (127 : Int32))) (S_cache : Sta Z Z.heap "java/lang/Integer$IntegerCache" "cache" "[Ljava/lang/Integer;" (.ref ca)) (Bx : Bxs Z ca cl "java/lang/Integer" "I" (256 : Int32) val) (Od : Old Z n0 h0) :
    MetFree l x (head1 (Jvm.Cond.code x code maxLocals ret :: ws) room_1) (fun a U => a = #[(.int p1), (.int p2), (.int p3), (.int p4), (.int p5)] ∧ Z.Warmed39 U.vm ∧ U.heap = h0) (fun _ _ _ _ _ => True) (fun _ U o U' => ∃ v L, o = .returned v ∧ own_Q0 n0 v U'.heap L ∧ FrameEnd U o U' L room_1.cells room_1.slots) := by
  refine MetFree.of_bodySF (plainFor_of_name own_pn67) hisR ?_
  intro p e s m args below meth c s₁ Bd hml0 hP hK
  obtain ⟨rfl, hZ, hh⟩ := hP
  have hx := Bd.exec
  have hby := Bd.bytes
  have hlk := Bd.notSynchronized
  have hml : c.maxLocals = 11 := hml0
  have hown : s.vm.findClass "com/example/libsubstr/libsubstr/OccurrenceEqualsPinLaw" = some m.cls := findClass_of_methodNamed Bd.named
  have hnm := (name_of_methodNamed Bd.named Bd.method).1
  have X0 : Stand p l e room_1 s m #[(.int p1), (.int p2), (.int p3), (.int p4), (.int p5)] below meth c s₁ [] 0 0 := Stand.of_body Bd
  have e0 : s₁.heap = h0 := by rw [← hh, Bd.state]; rfl
  have N0 := Fr.nil n0
  refine own_start (Q := own_Q0 n0) (C := room_1.cells) (N := room_1.slots) (ef_rm0 m p1 p2 p3 p4 p5 ) ?_
  show own_Fin p e below s _ _ _ s₁ (mkF m 0 #[.val (.int p1), .val (.int p2), .val (.int p3), .val (.int p4), .val (.int p5), .unset, .unset, .unset, .unset, .unset, .unset] [])
  have J28_37 : ∀ (r1 : Int32) (r2 : Int32) , own_Fin p e below s room_1.cells room_1.slots (own_Q0 n0) s₁ (mkF m 28 #[.val (.int p1), .val (.int p2), .val (.int p3), .val (.int p4), .val (.int p5), .val (.int r1), .val (.int r2), .unset, .unset, .unset, .unset] []) := by
    intro r1 r2
    show own_Fin p e below s _ _ _ s₁ (mkF m 28 #[.val (.int p1), .val (.int p2), .val (.int p3), .val (.int p4), .val (.int p5), .val (.int r1), .val (.int r2), .unset, .unset, .unset, .unset] [])
    obtain ⟨T38, h38, X38, e38, E38, A38, D38, -, st38⟩ := newO X0 hx hZ hown (hw _ (List.mem_of_getElem? (i := 0) rfl)) (hw _ (List.mem_of_getElem? (i := 1) rfl)) (hw _ (List.mem_of_getElem? (i := 2) rfl)) e0 (g := (mkF m 28 #[.val (.int p1), .val (.int p2), .val (.int p3), .val (.int p4), .val (.int p5), .val (.int r1), .val (.int r2), .unset, .unset, .unset, .unset] [])) rfl (hb hby at_28) (by decide) (by decide)
    obtain ⟨b38, g38⟩ : ∃ z, z = h0.size := ⟨_, rfl⟩
    rw [← g38] at A38 D38 st38
    refine own_by (fun _ k => st38 _ k) ?_
    have gf38 : n0 ≤ b38 := Nat.le_trans Z0 (Nat.le_of_eq g38.symm)
    have Zs38 : n0 ≤ h38.size := Nat.le_trans Z0 E38.1
    have f39_0 : Old Z n0 h38 := Od.ext E38
    have F38_index : Fld Z h38 b38 "com/example/libsubstr/libsubstr/PatternSet$Occurrence" "index" "I" (.int (0 : Int32)) := D38 (Or.inr (hw _ (List.mem_of_getElem? (i := 10) rfl))) (ty := .int) (by decide)
    have F38_pattern : Fld Z h38 b38 "com/example/libsubstr/libsubstr/PatternSet$Occurrence" "pattern" "I" (.int (0 : Int32)) := D38 (Or.inr (hw _ (List.mem_of_getElem? (i := 12) rfl))) (ty := .int) (by decide)
    show own_Fin p e below s _ _ _ T38 (mkF m 31 #[.val (.int p1), .val (.int p2), .val (.int p3), .val (.int p4), .val (.int p5), .val (.int r1), .val (.int r2), .unset, .unset, .unset, .unset] [(.ref b38)])
    refine own_by (fun _ k => XS.dup X38.here hx rfl (hb hby at_31) rfl rfl (XS.iloadN X38.here hx rfl (hb hby at_32) rfl (XS.iloadN X38.here hx rfl (hb hby at_33) rfl k))) ?_
    show own_Fin p e below s _ _ _ T38 (mkF m 34 #[.val (.int p1), .val (.int p2), .val (.int p3), .val (.int p4), .val (.int p5), .val (.int r1), .val (.int r2), .unset, .unset, .unset, .unset] [(.int p2), (.int p1), (.ref b38), (.ref b38)])
    obtain ⟨_, _, ⟨T40, L40, k40, n40⟩, -, X40, ⟨Lc40, hQ40, l40, y40, z40⟩, st40⟩ := X38.specialBack hx (y := (⟨"com/example/libsubstr/libsubstr/PatternSet$Occurrence", "<init>", "(II)V"⟩ : MethodName)) rfl hown (mvT hZ (hw _ (List.mem_of_getElem? (i := 3) rfl))) (mvT hZ (hw _ (List.mem_of_getElem? (i := 4) rfl))) (mvT hZ (hw _ (List.mem_of_getElem? (i := 5) rfl))) (by decide) (backOf (W := 1) (rm1 l Z a0 hw [] b38 p1 p2 _ _ h38 n0 Zs38 A38 F38_index F38_pattern gf38) hZ (hw _ (List.mem_of_getElem? (i := 5) rfl)) (hw _ (List.mem_of_getElem? (i := 2) rfl)) (by decide) (by decide)) (g := (mkF m 34 #[.val (.int p1), .val (.int p2), .val (.int p3), .val (.int p4), .val (.int p5), .val (.int r1), .val (.int r2), .unset, .unset, .unset, .unset] [(.int p2), (.int p1), (.ref b38), (.ref b38)])) rfl (by rw [hml]; rfl) (Steps.refl _) (a := b38) (argsL := [(.int p1), (.int p2)]) (rest := [(.ref b38)]) (lenOf own_pd68 rfl) rfl (by show 2 * 0 + _ ≤ _; exact Nat.le_of_eq rfl) (hb hby at_34) (fun _ _ => ⟨rfl, e38, (by decide : 1 + 0 ≤ _), (by decide : 2 + 0 ≤ _)⟩)
    dsimp only [Pt.U, Pt.locs, Pt.cells, Pt.slots] at X40 l40 y40 z40 st40 hQ40
    subst l40 y40 z40
    obtain ⟨rfl, Nq40, K40, Fl40, Fc40⟩ := hQ40
    have N40 := Fr.app N0 Nq40
    refine own_by (fun _ k => st40.trans k) ?_
    have Zs40 : n0 ≤ T40.heap.size := Nat.le_trans Zs38 K40.1
    have f41_0 : Old Z n0 T40.heap := f39_0.keep K40 (allS gf38 all0)
    have f41_1 : Exa Z T40.heap b38 "com/example/libsubstr/libsubstr/PatternSet$Occurrence" := A38.keep K40
    show own_Fin p e below s _ _ _ T40 (mkF m 37 #[.val (.int p1), .val (.int p2), .val (.int p3), .val (.int p4), .val (.int p5), .val (.int r1), .val (.int r2), .unset, .unset, .unset, .unset] [(.ref b38)])
    refine own_by (fun _ k => XS.astore X40.here hx rfl (hb hby at_37) rfl rfl (l' := #[.val (.int p1), .val (.int p2), .val (.int p3), .val (.int p4), .val (.int p5), .val (.int r1), .val (.int r2), .val (.ref b38), .unset, .unset, .unset]) rfl k) ?_
    show own_Fin p e below s _ _ _ T40 (mkF m 39 #[.val (.int p1), .val (.int p2), .val (.int p3), .val (.int p4), .val (.int p5), .val (.int r1), .val (.int r2), .val (.ref b38), .unset, .unset, .unset] [])
    obtain ⟨T42, h42, X42, e42, E42, A42, D42, -, st42⟩ := newO X40 hx hZ hown (hw _ (List.mem_of_getElem? (i := 0) rfl)) (hw _ (List.mem_of_getElem? (i := 1) rfl)) (hw _ (List.mem_of_getElem? (i := 2) rfl)) rfl (g := (mkF m 39 #[.val (.int p1), .val (.int p2), .val (.int p3), .val (.int p4), .val (.int p5), .val (.int r1), .val (.int r2), .val (.ref b38), .unset, .unset, .unset] [])) rfl (hb hby at_39) (by decide) (by decide)
    obtain ⟨b42, g42⟩ : ∃ z, z = T40.heap.size := ⟨_, rfl⟩
    rw [← g42] at A42 D42 st42
    refine own_by (fun _ k => st42 _ k) ?_
    have ne42_b38 : b38 ≠ b42 := Nat.ne_of_lt (Nat.lt_of_lt_of_le f41_1.lt (Nat.le_of_eq g42.symm))
    have gf42 : n0 ≤ b42 := Nat.le_trans Zs40 (Nat.le_of_eq g42.symm)
    have Zs42 : n0 ≤ h42.size := Nat.le_trans Zs40 E42.1
    have f43_0 : Old Z n0 h42 := f41_0.ext E42
    have f43_1 : Exa Z h42 b38 "com/example/libsubstr/libsubstr/PatternSet$Occurrence" := f41_1.ext E42
    have f43_2 : Fld Z h42 b38 "com/example/libsubstr/libsubstr/PatternSet$Occurrence" "index" "I" (.int p1) := Fl40.ext E42
    have f43_3 : Fld Z h42 b38 "com/example/libsubstr/libsubstr/PatternSet$Occurrence" "pattern" "I" (.int p2) := Fc40.ext E42
    have F42_index : Fld Z h42 b42 "com/example/libsubstr/libsubstr/PatternSet$Occurrence" "index" "I" (.int (0 : Int32)) := D42 (Or.inr (hw _ (List.mem_of_getElem? (i := 10) rfl))) (ty := .int) (by decide)
    have F42_pattern : Fld Z h42 b42 "com/example/libsubstr/libsubstr/PatternSet$Occurrence" "pattern" "I" (.int (0 : Int32)) := D42 (Or.inr (hw _ (List.mem_of_getElem? (i := 12) rfl))) (ty := .int) (by decide)
    show own_Fin p e below s _ _ _ T42 (mkF m 42 #[.val (.int p1), .val (.int p2), .val (.int p3), .val (.int p4), .val (.int p5), .val (.int r1), .val (.int r2), .val (.ref b38), .unset, .unset, .unset] [(.ref b42)])
    refine own_by (fun _ k => XS.dup X42.here hx rfl (hb hby at_42) rfl rfl (XS.iload X42.here hx rfl (hb hby at_43) rfl (XS.iload X42.here hx rfl (hb hby at_45) rfl k))) ?_
    show own_Fin p e below s _ _ _ T42 (mkF m 47 #[.val (.int p1), .val (.int p2), .val (.int p3), .val (.int p4), .val (.int p5), .val (.int r1), .val (.int r2), .val (.ref b38), .unset, .unset, .unset] [(.int r2), (.int r1), (.ref b42), (.ref b42)])
    obtain ⟨_, _, ⟨T44, L44, k44, n44⟩, -, X44, ⟨Lc44, hQ44, l44, y44, z44⟩, st44⟩ := X42.specialBack hx (y := (⟨"com/example/libsubstr/libsubstr/PatternSet$Occurrence", "<init>", "(II)V"⟩ : MethodName)) rfl hown (mvT hZ (hw _ (List.mem_of_getElem? (i := 3) rfl))) (mvT hZ (hw _ (List.mem_of_getElem? (i := 4) rfl))) (mvT hZ (hw _ (List.mem_of_getElem? (i := 5) rfl))) (by decide) (backOf (W := 1) (rm1 l Z a0 hw [] b42 r1 r2 _ _ h42 n0 Zs42 A42 F42_index F42_pattern gf42) hZ (hw _ (List.mem_of_getElem? (i := 5) rfl)) (hw _ (List.mem_of_getElem? (i := 2) rfl)) (by decide) (by decide)) (g := (mkF m 47 #[.val (.int p1), .val (.int p2), .val (.int p3), .val (.int p4), .val (.int p5), .val (.int r1), .val (.int r2), .val (.ref b38), .unset, .unset, .unset] [(.int r2), (.int r1), (.ref b42), (.ref b42)])) rfl (by rw [hml]; rfl) (Steps.refl _) (a := b42) (argsL := [(.int r1), (.int r2)]) (rest := [(.ref b42)]) (lenOf own_pd68 rfl) rfl (by show 2 * 0 + _ ≤ _; exact Nat.le_of_eq rfl) (hb hby at_47) (fun _ _ => ⟨rfl, e42, (by decide : 2 + 0 ≤ _), (by decide : 4 + 0 ≤ _)⟩)
    dsimp only [Pt.U, Pt.locs, Pt.cells, Pt.slots] at X44 l44 y44 z44 st44 hQ44
    subst l44 y44 z44
    obtain ⟨rfl, Nq44, K44, Fl44, Fc44⟩ := hQ44
    have N44 := Fr.app N40 Nq44
    refine own_by (fun _ k => st44.trans k) ?_
    have Zs44 : n0 ≤ T44.heap.size := Nat.le_trans Zs42 K44.1
    have f45_0 : Old Z n0 T44.heap := f43_0.keep K44 (allS gf42 all0)
    have f45_1 : Exa Z T44.heap b38 "com/example/libsubstr/libsubstr/PatternSet$Occurrence" := f43_1.keep K44
    have f45_2 : Fld Z T44.heap b38 "com/example/libsubstr/libsubstr/PatternSet$Occurrence" "index" "I" (.int p1) := f43_2.keep K44 (ninS ne42_b38 nin0)
    have f45_3 : Fld Z T44.heap b38 "com/example/libsubstr/libsubstr/PatternSet$Occurrence" "pattern" "I" (.int p2) := f43_3.keep K44 (ninS ne42_b38 nin0)
    have f45_4 : Exa Z T44.heap b42 "com/example/libsubstr/libsubstr/PatternSet$Occurrence" := A42.keep K44
    show own_Fin p e below s _ _ _ T44 (mkF m 50 #[.val (.int p1), .val (.int p2), .val (.int p3), .val (.int p4), .val (.int p5), .val (.int r1), .val (.int r2), .val (.ref b38), .unset, .unset, .unset] [(.ref b42)])
    refine own_by (fun _ k => XS.astore X44.here hx rfl (hb hby at_50) rfl rfl (l' := #[.val (.int p1), .val (.int p2), .val (.int p3), .val (.int p4), .val (.int p5), .val (.int r1), .val (.int r2), .val (.ref b38), .val (.ref b42), .unset, .unset]) rfl k) ?_
    show own_Fin p e below s _ _ _ T44 (mkF m 52 #[.val (.int p1), .val (.int p2), .val (.int p3), .val (.int p4), .val (.int p5), .val (.int r1), .val (.int r2), .val (.ref b38), .val (.ref b42), .unset, .unset] [])
    have J71_46 : ∀ (ex : Int32) (he1 : (own_oeq p1 p2 r1 r2) = ex) (he2 : (own_oeq r1 r2 p1 p2) = ex), own_Fin p e below s room_1.cells room_1.slots (own_Q0 n0) T44 (mkF m 71 #[.val (.int p1), .val (.int p2), .val (.int p3), .val (.int p4), .val (.int p5), .val (.int r1), .val (.int r2), .val (.ref b38), .val (.ref b42), .val (.int ex), .unset] []) := by
      intro ex he1 he2
      show own_Fin p e below s _ _ _ T44 (mkF m 71 #[.val (.int p1), .val (.int p2), .val (.int p3), .val (.int p4), .val (.int p5), .val (.int r1), .val (.int r2), .val (.ref b38), .val (.ref b42), .val (.int ex), .unset] [])
      refine own_by (fun _ k => XS.aconstNull X44.here hx rfl (hb hby at_71) (XS.astore X44.here hx rfl (hb hby at_72) rfl rfl (l' := #[.val (.int p1), .val (.int p2), .val (.int p3), .val (.int p4), .val (.int p5), .val (.int r1), .val (.int r2), .val (.ref b38), .val (.ref b42), .val (.int ex), .val .null]) rfl (XS.aload X44.here hx rfl (hb hby at_74) rfl rfl (XS.aload X44.here hx rfl (hb hby at_76) rfl rfl k)))) ?_
      show own_Fin p e below s _ _ _ T44 (mkF m 78 #[.val (.int p1), .val (.int p2), .val (.int p3), .val (.int p4), .val (.int p5), .val (.int r1), .val (.int r2), .val (.ref b38), .val (.ref b42), .val (.int ex), .val .null] [(.ref b42), (.ref b38)])
      obtain ⟨cq47, kq47, q47a, q47b, q47c⟩ := isOf hZ rfl f45_1
      obtain ⟨_, _, ⟨T47, L47, k47, n47⟩, -, X47, ⟨Lc47, hQ47, l47, y47, z47⟩, st47⟩ := X44.virtualBack hx (y := (⟨"com/example/libsubstr/libsubstr/PatternSet$Occurrence", "equals", "(Ljava/lang/Object;)Z"⟩ : MethodName)) (z := (⟨"com/example/libsubstr/libsubstr/PatternSet$Occurrence", "equals", "(Ljava/lang/Object;)Z"⟩ : MethodName)) hown (mvT hZ (hw _ (List.mem_of_getElem? (i := 13) rfl))) (mvT hZ (hw _ (List.mem_of_getElem? (i := 14) rfl))) (notFace_of_selects (args := #[]) (mvT hZ (hw _ (List.mem_of_getElem? (i := 16) rfl)))) (mvT hZ (hw _ (List.mem_of_getElem? (i := 16) rfl))) (mvT hZ (hw _ (List.mem_of_getElem? (i := 15) rfl))) (by decide) (backOf (W := 0) (rmE l Z a0 hw [] b38 b42 p1 p2 r1 r2 T44.heap n0 Zs44 f45_4 f45_2 f45_3 Fl44 Fc44) hZ (hw _ (List.mem_of_getElem? (i := 17) rfl)) (hw _ (List.mem_of_getElem? (i := 2) rfl)) (by decide) (by decide)) q47a q47c (g := (mkF m 78 #[.val (.int p1), .val (.int p2), .val (.int p3), .val (.int p4), .val (.int p5), .val (.int r1), .val (.int r2), .val (.ref b38), .val (.ref b42), .val (.int ex), .val .null] [(.ref b42), (.ref b38)])) rfl (by rw [hml]; rfl) (Steps.refl _) (argsL := [(.ref b42)]) (rest := []) (lenOf own_pd69 rfl) rfl (by show 2 * 0 + _ ≤ _; exact Nat.le_of_eq rfl) (hb hby at_78) (fun _ _ => ⟨rfl, rfl, (by decide : 2 + 0 ≤ _), (by decide : 4 + 0 ≤ _)⟩)
      dsimp only [Pt.U, Pt.locs, Pt.cells, Pt.slots] at X47 l47 y47 z47 st47 hQ47
      subst l47 y47 z47
      obtain ⟨rfl, Nq47, eh47⟩ := hQ47
      have N47 := Fr.app N44 Nq47
      refine own_by (fun _ k => st47.trans k) ?_
      show own_Fin p e below s _ _ _ T47 (mkF m 81 #[.val (.int p1), .val (.int p2), .val (.int p3), .val (.int p4), .val (.int p5), .val (.int r1), .val (.int r2), .val (.ref b38), .val (.ref b42), .val (.int ex), .val .null] [(.int (own_oeq p1 p2 r1 r2))])
      refine own_by (fun _ k => XS.iload X47.here hx rfl (hb hby at_81) rfl k) ?_
      show own_Fin p e below s _ _ _ T47 (mkF m 83 #[.val (.int p1), .val (.int p2), .val (.int p3), .val (.int p4), .val (.int p5), .val (.int r1), .val (.int r2), .val (.ref b38), .val (.ref b42), .val (.int ex), .val .null] [(.int ex), (.int (own_oeq p1 p2 r1 r2))])
      refine own_by (fun _ k => XS.icmpNo X47.here hx rfl (hb hby at_83) rfl (teq he1).2 k) ?_
      show own_Fin p e below s _ _ _ T47 (mkF m 86 #[.val (.int p1), .val (.int p2), .val (.int p3), .val (.int p4), .val (.int p5), .val (.int r1), .val (.int r2), .val (.ref b38), .val (.ref b42), .val (.int ex), .val .null] [])
      refine own_by (fun _ k => XS.aload X47.here hx rfl (hb hby at_86) rfl rfl (XS.aload X47.here hx rfl (hb hby at_88) rfl rfl k)) ?_
      show own_Fin p e below s _ _ _ T47 (mkF m 90 #[.val (.int p1), .val (.int p2), .val (.int p3), .val (.int p4), .val (.int p5), .val (.int r1), .val (.int r2), .val (.ref b38), .val (.ref b42), .val (.int ex), .val .null] [(.ref b38), (.ref b42)])
      obtain ⟨cq48, kq48, q48a, q48b, q48c⟩ := isOf hZ eh47 f45_4
      obtain ⟨_, _, ⟨T48, L48, k48, n48⟩, -, X48, ⟨Lc48, hQ48, l48, y48, z48⟩, st48⟩ := X47.virtualBack hx (y := (⟨"com/example/libsubstr/libsubstr/PatternSet$Occurrence", "equals", "(Ljava/lang/Object;)Z"⟩ : MethodName)) (z := (⟨"com/example/libsubstr/libsubstr/PatternSet$Occurrence", "equals", "(Ljava/lang/Object;)Z"⟩ : MethodName)) hown (mvT hZ (hw _ (List.mem_of_getElem? (i := 13) rfl))) (mvT hZ (hw _ (List.mem_of_getElem? (i := 14) rfl))) (notFace_of_selects (args := #[]) (mvT hZ (hw _ (List.mem_of_getElem? (i := 16) rfl)))) (mvT hZ (hw _ (List.mem_of_getElem? (i := 16) rfl))) (mvT hZ (hw _ (List.mem_of_getElem? (i := 15) rfl))) (by decide) (backOf (W := 0) (rmE l Z a0 hw [] b42 b38 r1 r2 p1 p2 T44.heap n0 Zs44 f45_1 Fl44 Fc44 f45_2 f45_3) hZ (hw _ (List.mem_of_getElem? (i := 17) rfl)) (hw _ (List.mem_of_getElem? (i := 2) rfl)) (by decide) (by decide)) q48a q48c (g := (mkF m 90 #[.val (.int p1), .val (.int p2), .val (.int p3), .val (.int p4), .val (.int p5), .val (.int r1), .val (.int r2), .val (.ref b38), .val (.ref b42), .val (.int ex), .val .null] [(.ref b38), (.ref b42)])) rfl (by rw [hml]; rfl) (Steps.refl _) (argsL := [(.ref b38)]) (rest := []) (lenOf own_pd69 rfl) rfl (by show 2 * 0 + _ ≤ _; exact Nat.le_of_eq rfl) (hb hby at_90) (fun _ _ => ⟨rfl, eh47, (by decide : 2 + 0 ≤ _), (by decide : 4 + 0 ≤ _)⟩)
      dsimp only [Pt.U, Pt.locs, Pt.cells, Pt.slots] at X48 l48 y48 z48 st48 hQ48
      subst l48 y48 z48
      obtain ⟨rfl, Nq48, eh48⟩ := hQ48
      have N48 := Fr.app N47 Nq48
      refine own_by (fun _ k => st48.trans k) ?_
      show own_Fin p e below s _ _ _ T48 (mkF m 93 #[.val (.int p1), .val (.int p2), .val (.int p3), .val (.int p4), .val (.int p5), .val (.int r1), .val (.int r2), .val (.ref b38), .val (.ref b42), .val (.int ex), .val .null] [(.int (own_oeq r1 r2 p1 p2))])
      refine own_by (fun _ k => XS.iload X48.here hx rfl (hb hby at_93) rfl k) ?_
      show own_Fin p e below s _ _ _ T48 (mkF m 95 #[.val (.int p1), .val (.int p2), .val (.int p3), .val (.int p4), .val (.int p5), .val (.int r1), .val (.int r2), .val (.ref b38), .val (.ref b42), .val (.int ex), .val .null] [(.int ex), (.int (own_oeq r1 r2 p1 p2))])
      refine own_by (fun _ k => XS.icmpNo X48.here hx rfl (hb hby at_95) rfl (teq he2).2 k) ?_
      show own_Fin p e below s _ _ _ T48 (mkF m 98 #[.val (.int p1), .val (.int p2), .val (.int p3), .val (.int p4), .val (.int p5), .val (.int r1), .val (.int r2), .val (.ref b38), .val (.ref b42), .val (.int ex), .val .null] [])
      refine own_by (fun _ k => XS.aload X48.here hx rfl (hb hby at_98) rfl rfl (XS.aload X48.here hx rfl (hb hby at_100) rfl rfl k)) ?_
      show own_Fin p e below s _ _ _ T48 (mkF m 102 #[.val (.int p1), .val (.int p2), .val (.int p3), .val (.int p4), .val (.int p5), .val (.int r1), .val (.int r2), .val (.ref b38), .val (.ref b42), .val (.int ex), .val .null] [(.ref b38), (.ref b38)])
      obtain ⟨cq49, kq49, q49a, q49b, q49c⟩ := isOf hZ eh48 f45_1
      obtain ⟨_, _, ⟨T49, L49, k49, n49⟩, -, X49, ⟨Lc49, hQ49, l49, y49, z49⟩, st49⟩ := X48.virtualBack hx (y := (⟨"com/example/libsubstr/libsubstr/PatternSet$Occurrence", "equals", "(Ljava/lang/Object;)Z"⟩ : MethodName)) (z := (⟨"com/example/libsubstr/libsubstr/PatternSet$Occurrence", "equals", "(Ljava/lang/Object;)Z"⟩ : MethodName)) hown (mvT hZ (hw _ (List.mem_of_getElem? (i := 13) rfl))) (mvT hZ (hw _ (List.mem_of_getElem? (i := 14) rfl))) (notFace_of_selects (args := #[]) (mvT hZ (hw _ (List.mem_of_getElem? (i := 16) rfl)))) (mvT hZ (hw _ (List.mem_of_getElem? (i := 16) rfl))) (mvT hZ (hw _ (List.mem_of_getElem? (i := 15) rfl))) (by decide) (backOf (W := 0) (rmE l Z a0 hw [] b38 b38 p1 p2 p1 p2 T44.heap n0 Zs44 f45_1 f45_2 f45_3 f45_2 f45_3) hZ (hw _ (List.mem_of_getElem? (i := 17) rfl)) (hw _ (List.mem_of_getElem? (i := 2) rfl)) (by decide) (by decide)) q49a q49c (g := (mkF m 102 #[.val (.int p1), .val (.int p2), .val (.int p3), .val (.int p4), .val (.int p5), .val (.int r1), .val (.int r2), .val (.ref b38), .val (.ref b42), .val (.int ex), .val .null] [(.ref b38), (.ref b38)])) rfl (by rw [hml]; rfl) (Steps.refl _) (argsL := [(.ref b38)]) (rest := []) (lenOf own_pd69 rfl) rfl (by show 2 * 0 + _ ≤ _; exact Nat.le_of_eq rfl) (hb hby at_102) (fun _ _ => ⟨rfl, eh48, (by decide : 2 + 0 ≤ _), (by decide : 4 + 0 ≤ _)⟩)
      dsimp only [Pt.U, Pt.locs, Pt.cells, Pt.slots] at X49 l49 y49 z49 st49 hQ49
      subst l49 y49 z49
      obtain ⟨rfl, Nq49, eh49⟩ := hQ49
      have N49 := Fr.app N48 Nq49
      refine own_by (fun _ k => st49.trans k) ?_
      show own_Fin p e below s _ _ _ T49 (mkF m 105 #[.val (.int p1), .val (.int p2), .val (.int p3), .val (.int p4), .val (.int p5), .val (.int r1), .val (.int r2), .val (.ref b38), .val (.ref b42), .val (.int ex), .val .null] [(.int (own_oeq p1 p2 p1 p2))])
      refine own_by (fun _ k => XS.ifNo X49.here hx rfl (hb hby at_105) rfl ((if0 _ _).trans (feq own_oeq_s).1) k) ?_
      show own_Fin p e below s _ _ _ T49 (mkF m 108 #[.val (.int p1), .val (.int p2), .val (.int p3), .val (.int p4), .val (.int p5), .val (.int r1), .val (.int r2), .val (.ref b38), .val (.ref b42), .val (.int ex), .val .null] [])
      refine own_by (fun _ k => XS.aload X49.here hx rfl (hb hby at_108) rfl rfl (XS.aload X49.here hx rfl (hb hby at_110) rfl rfl k)) ?_
      show own_Fin p e below s _ _ _ T49 (mkF m 112 #[.val (.int p1), .val (.int p2), .val (.int p3), .val (.int p4), .val (.int p5), .val (.int r1), .val (.int r2), .val (.ref b38), .val (.ref b42), .val (.int ex), .val .null] [.null, (.ref b38)])
      obtain ⟨cq50, kq50, q50a, q50b, q50c⟩ := isOf hZ eh49 f45_1
      obtain ⟨_, _, ⟨T50, L50, k50, n50⟩, -, X50, ⟨Lc50, hQ50, l50, y50, z50⟩, st50⟩ := X49.virtualBack hx (y := (⟨"com/example/libsubstr/libsubstr/PatternSet$Occurrence", "equals", "(Ljava/lang/Object;)Z"⟩ : MethodName)) (z := (⟨"com/example/libsubstr/libsubstr/PatternSet$Occurrence", "equals", "(Ljava/lang/Object;)Z"⟩ : MethodName)) hown (mvT hZ (hw _ (List.mem_of_getElem? (i := 13) rfl))) (mvT hZ (hw _ (List.mem_of_getElem? (i := 14) rfl))) (notFace_of_selects (args := #[]) (mvT hZ (hw _ (List.mem_of_getElem? (i := 16) rfl)))) (mvT hZ (hw _ (List.mem_of_getElem? (i := 16) rfl))) (mvT hZ (hw _ (List.mem_of_getElem? (i := 15) rfl))) (by decide) (backOf (W := 0) (rmN l Z a0 hw [] b38 T44.heap n0 Zs44 ) hZ (hw _ (List.mem_of_getElem? (i := 17) rfl)) (hw _ (List.mem_of_getElem? (i := 2) rfl)) (by decide) (by decide)) q50a q50c (g := (mkF m 112 #[.val (.int p1), .val (.int p2), .val (.int p3), .val (.int p4), .val (.int p5), .val (.int r1), .val (.int r2), .val (.ref b38), .val (.ref b42), .val (.int ex), .val .null] [.null, (.ref b38)])) rfl (by rw [hml]; rfl) (Steps.refl _) (argsL := [.null]) (rest := []) (lenOf own_pd69 rfl) rfl (by show 2 * 0 + _ ≤ _; exact Nat.le_of_eq rfl) (hb hby at_112) (fun _ _ => ⟨rfl, eh49, (by decide : 2 + 0 ≤ _), (by decide : 4 + 0 ≤ _)⟩)
      dsimp only [Pt.U, Pt.locs, Pt.cells, Pt.slots] at X50 l50 y50 z50 st50 hQ50
      subst l50 y50 z50
      obtain ⟨rfl, Nq50, eh50⟩ := hQ50
      have N50 := Fr.app N49 Nq50
      refine own_by (fun _ k => st50.trans k) ?_
      show own_Fin p e below s _ _ _ T50 (mkF m 115 #[.val (.int p1), .val (.int p2), .val (.int p3), .val (.int p4), .val (.int p5), .val (.int r1), .val (.int r2), .val (.ref b38), .val (.ref b42), .val (.int ex), .val .null] [(.int (0 : Int32))])
      refine own_by (fun _ k => XS.ifNo X50.here hx rfl (hb hby at_115) rfl ((if0 _ _).trans (teq (by decide : (0 : Int32) = (0 : Int32))).2) k) ?_
      show own_Fin p e below s _ _ _ T50 (mkF m 118 #[.val (.int p1), .val (.int p2), .val (.int p3), .val (.int p4), .val (.int p5), .val (.int r1), .val (.int r2), .val (.ref b38), .val (.ref b42), .val (.int ex), .val .null] [])
      refine own_by (fun _ k => XS.aload X50.here hx rfl (hb hby at_118) rfl rfl (XS.iloadN X50.here hx rfl (hb hby at_120) rfl k)) ?_
      show own_Fin p e below s _ _ _ T50 (mkF m 121 #[.val (.int p1), .val (.int p2), .val (.int p3), .val (.int p4), .val (.int p5), .val (.int r1), .val (.int r2), .val (.ref b38), .val (.ref b42), .val (.int ex), .val .null] [(.int p1), (.ref b38)])
      obtain ⟨_, _, ⟨T51, L51, k51, n51⟩, -, X51, ⟨Lc51, hQ51, l51, y51, z51⟩, st51⟩ := Jvm.LawKit.callS X50 hx (y := (⟨"java/lang/Integer", "valueOf", "(I)Ljava/lang/Integer;"⟩ : MethodName)) hown (mvT hZ (hw _ (List.mem_of_getElem? (i := 20) rfl))) (mvT hZ (hw _ (List.mem_of_getElem? (i := 21) rfl))) (mvT hZ (hw _ (List.mem_of_getElem? (i := 22) rfl))) (mvT hZ (hw _ (List.mem_of_getElem? (i := 23) rfl))) (by decide) (backOf (W := 1) (rm4 l Z a0 hw [] p1 ca cl val T44.heap n0 Zs44 (S_high.ext f45_0.2) (S_cache.ext f45_0.2) Bx f45_0.2) hZ (hw _ (List.mem_of_getElem? (i := 23) rfl)) (hw _ (List.mem_of_getElem? (i := 22) rfl)) (by decide) (by decide)) (g := (mkF m 121 #[.val (.int p1), .val (.int p2), .val (.int p3), .val (.int p4), .val (.int p5), .val (.int r1), .val (.int r2), .val (.ref b38), .val (.ref b42), .val (.int ex), .val .null] [(.int p1), (.ref b38)])) rfl (by rw [hml]; rfl) (argsL := [(.int p1)]) (rest := [(.ref b38)]) (lenOf own_pd70 rfl) rfl (by show 2 * 0 + _ ≤ _; exact Nat.le_of_eq rfl) (hb hby at_121) (fun _ _ => ⟨rfl, eh50, (by decide : 2 + 1 ≤ _), (by decide : 4 + 1 ≤ _)⟩)
      dsimp only [Pt.U, Pt.locs, Pt.cells, Pt.slots] at X51 l51 y51 z51 st51 hQ51
      subst l51 y51 z51
      obtain ⟨b51, rfl, Nq51, K51, Eb51⟩ := hQ51
      have N51 := Fr.app N50 Nq51
      refine own_by (fun _ k => st51 _ k) ?_
      have Zs51 : n0 ≤ T51.heap.size := Nat.le_trans Zs44 K51.1
      have f52_0 : Old Z n0 T51.heap := f45_0.keep K51 all0
      have f52_1 : Exa Z T51.heap b38 "com/example/libsubstr/libsubstr/PatternSet$Occurrence" := f45_1.keep K51
      have f52_2 : Fld Z T51.heap b38 "com/example/libsubstr/libsubstr/PatternSet$Occurrence" "index" "I" (.int p1) := f45_2.keep K51 nin0
      have f52_3 : Fld Z T51.heap b38 "com/example/libsubstr/libsubstr/PatternSet$Occurrence" "pattern" "I" (.int p2) := f45_3.keep K51 nin0
      have f52_4 : Exa Z T51.heap b42 "com/example/libsubstr/libsubstr/PatternSet$Occurrence" := f45_4.keep K51
      have f52_5 : Fld Z T51.heap b42 "com/example/libsubstr/libsubstr/PatternSet$Occurrence" "index" "I" (.int r1) := Fl44.keep K51 nin0
      have f52_6 : Fld Z T51.heap b42 "com/example/libsubstr/libsubstr/PatternSet$Occurrence" "pattern" "I" (.int r2) := Fc44.keep K51 nin0
      show own_Fin p e below s _ _ _ T51 (mkF m 124 #[.val (.int p1), .val (.int p2), .val (.int p3), .val (.int p4), .val (.int p5), .val (.int r1), .val (.int r2), .val (.ref b38), .val (.ref b42), .val (.int ex), .val .null] [(.ref b51), (.ref b38)])
      obtain ⟨cq53, kq53, q53a, q53b, q53c⟩ := isOf hZ rfl f52_1
      obtain ⟨_, _, ⟨T53, L53, k53, n53⟩, -, X53, ⟨Lc53, hQ53, l53, y53, z53⟩, st53⟩ := X51.virtualBack hx (y := (⟨"com/example/libsubstr/libsubstr/PatternSet$Occurrence", "equals", "(Ljava/lang/Object;)Z"⟩ : MethodName)) (z := (⟨"com/example/libsubstr/libsubstr/PatternSet$Occurrence", "equals", "(Ljava/lang/Object;)Z"⟩ : MethodName)) hown (mvT hZ (hw _ (List.mem_of_getElem? (i := 13) rfl))) (mvT hZ (hw _ (List.mem_of_getElem? (i := 14) rfl))) (notFace_of_selects (args := #[]) (mvT hZ (hw _ (List.mem_of_getElem? (i := 16) rfl)))) (mvT hZ (hw _ (List.mem_of_getElem? (i := 16) rfl))) (mvT hZ (hw _ (List.mem_of_getElem? (i := 15) rfl))) (by decide) (backOf (W := 0) (rmB l Z a0 hw [] b38 b51 T51.heap n0 Zs51 Eb51) hZ (hw _ (List.mem_of_getElem? (i := 17) rfl)) (hw _ (List.mem_of_getElem? (i := 2) rfl)) (by decide) (by decide)) q53a q53c (g := (mkF m 124 #[.val (.int p1), .val (.int p2), .val (.int p3), .val (.int p4), .val (.int p5), .val (.int r1), .val (.int r2), .val (.ref b38), .val (.ref b42), .val (.int ex), .val .null] [(.ref b51), (.ref b38)])) rfl (by rw [hml]; rfl) (Steps.refl _) (argsL := [(.ref b51)]) (rest := []) (lenOf own_pd69 rfl) rfl (by show 2 * 0 + _ ≤ _; exact Nat.le_of_eq rfl) (hb hby at_124) (fun _ _ => ⟨rfl, rfl, (by decide : 3 + 0 ≤ _), (by decide : 5 + 0 ≤ _)⟩)
      dsimp only [Pt.U, Pt.locs, Pt.cells, Pt.slots] at X53 l53 y53 z53 st53 hQ53
      subst l53 y53 z53
      obtain ⟨rfl, Nq53, eh53⟩ := hQ53
      have N53 := Fr.app N51 Nq53
      refine own_by (fun _ k => st53.trans k) ?_
      show own_Fin p e below s _ _ _ T53 (mkF m 127 #[.val (.int p1), .val (.int p2), .val (.int p3), .val (.int p4), .val (.int p5), .val (.int r1), .val (.int r2), .val (.ref b38), .val (.ref b42), .val (.int ex), .val .null] [(.int (0 : Int32))])
      refine own_by (fun _ k => XS.ifNo X53.here hx rfl (hb hby at_127) rfl ((if0 _ _).trans (teq (by decide : (0 : Int32) = (0 : Int32))).2) k) ?_
      show own_Fin p e below s _ _ _ T53 (mkF m 130 #[.val (.int p1), .val (.int p2), .val (.int p3), .val (.int p4), .val (.int p5), .val (.int r1), .val (.int r2), .val (.ref b38), .val (.ref b42), .val (.int ex), .val .null] [])
      refine own_by (fun _ k => XS.iconst X53.here hx rfl (hb hby at_130) (XS.goto X53.here hx rfl (pc0 := 131) (pc' := 135) rfl (hb hby at_131) (by decide) (by decide) k)) ?_
      show own_Fin p e below s _ _ _ T53 (mkF m 135 #[.val (.int p1), .val (.int p2), .val (.int p3), .val (.int p4), .val (.int p5), .val (.int r1), .val (.int r2), .val (.ref b38), .val (.ref b42), .val (.int ex), .val .null] [(.int (1 : Int32))])
      exact own_retZ X53 hx hlk (t := .boolean) Bd.returns (by simp) (hb hby at_135) ⟨rfl, N53⟩ (by decide) (by decide)
    show own_Fin p e below s _ _ _ T44 (mkF m 52 #[.val (.int p1), .val (.int p2), .val (.int p3), .val (.int p4), .val (.int p5), .val (.int r1), .val (.int r2), .val (.ref b38), .val (.ref b42), .unset, .unset] [])
    refine own_by (fun _ k => XS.iloadN X44.here hx rfl (hb hby at_52) rfl (XS.iload X44.here hx rfl (hb hby at_53) rfl k)) ?_
    show own_Fin p e below s _ _ _ T44 (mkF m 55 #[.val (.int p1), .val (.int p2), .val (.int p3), .val (.int p4), .val (.int p5), .val (.int r1), .val (.int r2), .val (.ref b38), .val (.ref b42), .unset, .unset] [(.int r1), (.int p1)])
    by_cases hc55_54 : p1 = r1
    · show own_Fin p e below s _ _ _ T44 (mkF m 55 #[.val (.int p1), .val (.int p2), .val (.int p3), .val (.int p4), .val (.int p5), .val (.int r1), .val (.int r2), .val (.ref b38), .val (.ref b42), .unset, .unset] [(.int r1), (.int p1)])
      refine own_by (fun _ k => XS.icmpNo X44.here hx rfl (hb hby at_55) rfl (teq hc55_54).2 k) ?_
      show own_Fin p e below s _ _ _ T44 (mkF m 58 #[.val (.int p1), .val (.int p2), .val (.int p3), .val (.int p4), .val (.int p5), .val (.int r1), .val (.int r2), .val (.ref b38), .val (.ref b42), .unset, .unset] [])
      refine own_by (fun _ k => XS.iloadN X44.here hx rfl (hb hby at_58) rfl (XS.iload X44.here hx rfl (hb hby at_59) rfl k)) ?_
      show own_Fin p e below s _ _ _ T44 (mkF m 61 #[.val (.int p1), .val (.int p2), .val (.int p3), .val (.int p4), .val (.int p5), .val (.int r1), .val (.int r2), .val (.ref b38), .val (.ref b42), .unset, .unset] [(.int r2), (.int p2)])
      by_cases hc61_55 : p2 = r2
      · show own_Fin p e below s _ _ _ T44 (mkF m 61 #[.val (.int p1), .val (.int p2), .val (.int p3), .val (.int p4), .val (.int p5), .val (.int r1), .val (.int r2), .val (.ref b38), .val (.ref b42), .unset, .unset] [(.int r2), (.int p2)])
        refine own_by (fun _ k => XS.icmpNo X44.here hx rfl (hb hby at_61) rfl (teq hc61_55).2 k) ?_
        show own_Fin p e below s _ _ _ T44 (mkF m 64 #[.val (.int p1), .val (.int p2), .val (.int p3), .val (.int p4), .val (.int p5), .val (.int r1), .val (.int r2), .val (.ref b38), .val (.ref b42), .unset, .unset] [])
        refine own_by (fun _ k => XS.iconst X44.here hx rfl (hb hby at_64) (XS.goto X44.here hx rfl (pc0 := 65) (pc' := 69) rfl (hb hby at_65) (by decide) (by decide) (XS.istore X44.here hx rfl (hb hby at_69) rfl (l' := #[.val (.int p1), .val (.int p2), .val (.int p3), .val (.int p4), .val (.int p5), .val (.int r1), .val (.int r2), .val (.ref b38), .val (.ref b42), .val (.int (1 : Int32)), .unset]) rfl k))) ?_
        show own_Fin p e below s _ _ _ T44 (mkF m 71 #[.val (.int p1), .val (.int p2), .val (.int p3), .val (.int p4), .val (.int p5), .val (.int r1), .val (.int r2), .val (.ref b38), .val (.ref b42), .val (.int (1 : Int32)), .unset] [])
        exact J71_46 ((1 : Int32)) (own_oeq_t hc55_54 hc61_55) (own_oeq_t hc55_54.symm hc61_55.symm)
      · show own_Fin p e below s _ _ _ T44 (mkF m 61 #[.val (.int p1), .val (.int p2), .val (.int p3), .val (.int p4), .val (.int p5), .val (.int r1), .val (.int r2), .val (.ref b38), .val (.ref b42), .unset, .unset] [(.int r2), (.int p2)])
        refine own_by (fun _ k => XS.icmpYes X44.here hx rfl (pc0 := 61) (pc' := 68) rfl (hb hby at_61) rfl (feq hc61_55).2 (by decide) (by decide) k) ?_
        show own_Fin p e below s _ _ _ T44 (mkF m 68 #[.val (.int p1), .val (.int p2), .val (.int p3), .val (.int p4), .val (.int p5), .val (.int r1), .val (.int r2), .val (.ref b38), .val (.ref b42), .unset, .unset] [])
        refine own_by (fun _ k => XS.iconst X44.here hx rfl (hb hby at_68) (XS.istore X44.here hx rfl (hb hby at_69) rfl (l' := #[.val (.int p1), .val (.int p2), .val (.int p3), .val (.int p4), .val (.int p5), .val (.int r1), .val (.int r2), .val (.ref b38), .val (.ref b42), .val (.int (0 : Int32)), .unset]) rfl k)) ?_
        show own_Fin p e below s _ _ _ T44 (mkF m 71 #[.val (.int p1), .val (.int p2), .val (.int p3), .val (.int p4), .val (.int p5), .val (.int r1), .val (.int r2), .val (.ref b38), .val (.ref b42), .val (.int (0 : Int32)), .unset] [])
        exact J71_46 ((0 : Int32)) (own_oeq_g hc61_55) (own_oeq_g (Ne.symm hc61_55))
    · show own_Fin p e below s _ _ _ T44 (mkF m 55 #[.val (.int p1), .val (.int p2), .val (.int p3), .val (.int p4), .val (.int p5), .val (.int r1), .val (.int r2), .val (.ref b38), .val (.ref b42), .unset, .unset] [(.int r1), (.int p1)])
      refine own_by (fun _ k => XS.icmpYes X44.here hx rfl (pc0 := 55) (pc' := 68) rfl (hb hby at_55) rfl (feq hc55_54).2 (by decide) (by decide) k) ?_
      show own_Fin p e below s _ _ _ T44 (mkF m 68 #[.val (.int p1), .val (.int p2), .val (.int p3), .val (.int p4), .val (.int p5), .val (.int r1), .val (.int r2), .val (.ref b38), .val (.ref b42), .unset, .unset] [])
      refine own_by (fun _ k => XS.iconst X44.here hx rfl (hb hby at_68) (XS.istore X44.here hx rfl (hb hby at_69) rfl (l' := #[.val (.int p1), .val (.int p2), .val (.int p3), .val (.int p4), .val (.int p5), .val (.int r1), .val (.int r2), .val (.ref b38), .val (.ref b42), .val (.int (0 : Int32)), .unset]) rfl k)) ?_
      show own_Fin p e below s _ _ _ T44 (mkF m 71 #[.val (.int p1), .val (.int p2), .val (.int p3), .val (.int p4), .val (.int p5), .val (.int r1), .val (.int r2), .val (.ref b38), .val (.ref b42), .val (.int (0 : Int32)), .unset] [])
      exact J71_46 ((0 : Int32)) (own_oeq_f hc55_54) (own_oeq_f (Ne.symm hc55_54))
  show own_Fin p e below s _ _ _ s₁ (mkF m 0 #[.val (.int p1), .val (.int p2), .val (.int p3), .val (.int p4), .val (.int p5), .unset, .unset, .unset, .unset, .unset, .unset] [])
  refine own_by (fun _ k => XS.iload X0.here hx rfl (hb hby at_0) rfl (XS.iconst X0.here hx rfl (hb hby at_2) (XS.iand X0.here hx rfl (hb hby at_3) rfl k))) ?_
  show own_Fin p e below s _ _ _ s₁ (mkF m 4 #[.val (.int p1), .val (.int p2), .val (.int p3), .val (.int p4), .val (.int p5), .unset, .unset, .unset, .unset, .unset, .unset] [(.int (p5 &&& (1 : Int32)))])
  by_cases hc4_56 : (p5 &&& (1 : Int32)) = (0 : Int32)
  · show own_Fin p e below s _ _ _ s₁ (mkF m 4 #[.val (.int p1), .val (.int p2), .val (.int p3), .val (.int p4), .val (.int p5), .unset, .unset, .unset, .unset, .unset, .unset] [(.int (p5 &&& (1 : Int32)))])
    refine own_by (fun _ k => XS.ifYes X0.here hx rfl (pc0 := 4) (pc' := 11) rfl (hb hby at_4) rfl ((if0 _ _).trans (teq hc4_56).1) (by decide) (by decide) k) ?_
    show own_Fin p e below s _ _ _ s₁ (mkF m 11 #[.val (.int p1), .val (.int p2), .val (.int p3), .val (.int p4), .val (.int p5), .unset, .unset, .unset, .unset, .unset, .unset] [])
    refine own_by (fun _ k => XS.iloadN X0.here hx rfl (hb hby at_11) rfl (XS.istore X0.here hx rfl (hb hby at_12) rfl (l' := #[.val (.int p1), .val (.int p2), .val (.int p3), .val (.int p4), .val (.int p5), .val (.int p3), .unset, .unset, .unset, .unset, .unset]) rfl (XS.iload X0.here hx rfl (hb hby at_14) rfl (XS.iconst X0.here hx rfl (hb hby at_16) (XS.iand X0.here hx rfl (hb hby at_17) rfl k))))) ?_
    show own_Fin p e below s _ _ _ s₁ (mkF m 18 #[.val (.int p1), .val (.int p2), .val (.int p3), .val (.int p4), .val (.int p5), .val (.int p3), .unset, .unset, .unset, .unset, .unset] [(.int (p5 &&& (2 : Int32)))])
    by_cases hc18_57 : (p5 &&& (2 : Int32)) = (0 : Int32)
    · show own_Fin p e below s _ _ _ s₁ (mkF m 18 #[.val (.int p1), .val (.int p2), .val (.int p3), .val (.int p4), .val (.int p5), .val (.int p3), .unset, .unset, .unset, .unset, .unset] [(.int (p5 &&& (2 : Int32)))])
      refine own_by (fun _ k => XS.ifYes X0.here hx rfl (pc0 := 18) (pc' := 25) rfl (hb hby at_18) rfl ((if0 _ _).trans (teq hc18_57).1) (by decide) (by decide) k) ?_
      show own_Fin p e below s _ _ _ s₁ (mkF m 25 #[.val (.int p1), .val (.int p2), .val (.int p3), .val (.int p4), .val (.int p5), .val (.int p3), .unset, .unset, .unset, .unset, .unset] [])
      refine own_by (fun _ k => XS.iloadN X0.here hx rfl (hb hby at_25) rfl (XS.istore X0.here hx rfl (hb hby at_26) rfl (l' := #[.val (.int p1), .val (.int p2), .val (.int p3), .val (.int p4), .val (.int p5), .val (.int p3), .val (.int p4), .unset, .unset, .unset, .unset]) rfl k)) ?_
      show own_Fin p e below s _ _ _ s₁ (mkF m 28 #[.val (.int p1), .val (.int p2), .val (.int p3), .val (.int p4), .val (.int p5), .val (.int p3), .val (.int p4), .unset, .unset, .unset, .unset] [])
      exact J28_37 (p3) (p4) 
    · show own_Fin p e below s _ _ _ s₁ (mkF m 18 #[.val (.int p1), .val (.int p2), .val (.int p3), .val (.int p4), .val (.int p5), .val (.int p3), .unset, .unset, .unset, .unset, .unset] [(.int (p5 &&& (2 : Int32)))])
      refine own_by (fun _ k => XS.ifNo X0.here hx rfl (hb hby at_18) rfl ((if0 _ _).trans (feq hc18_57).1) k) ?_
      show own_Fin p e below s _ _ _ s₁ (mkF m 21 #[.val (.int p1), .val (.int p2), .val (.int p3), .val (.int p4), .val (.int p5), .val (.int p3), .unset, .unset, .unset, .unset, .unset] [])
      refine own_by (fun _ k => XS.iloadN X0.here hx rfl (hb hby at_21) rfl (XS.goto X0.here hx rfl (pc0 := 22) (pc' := 26) rfl (hb hby at_22) (by decide) (by decide) (XS.istore X0.here hx rfl (hb hby at_26) rfl (l' := #[.val (.int p1), .val (.int p2), .val (.int p3), .val (.int p4), .val (.int p5), .val (.int p3), .val (.int p2), .unset, .unset, .unset, .unset]) rfl k))) ?_
      show own_Fin p e below s _ _ _ s₁ (mkF m 28 #[.val (.int p1), .val (.int p2), .val (.int p3), .val (.int p4), .val (.int p5), .val (.int p3), .val (.int p2), .unset, .unset, .unset, .unset] [])
      exact J28_37 (p3) (p2) 
  · show own_Fin p e below s _ _ _ s₁ (mkF m 4 #[.val (.int p1), .val (.int p2), .val (.int p3), .val (.int p4), .val (.int p5), .unset, .unset, .unset, .unset, .unset, .unset] [(.int (p5 &&& (1 : Int32)))])
    refine own_by (fun _ k => XS.ifNo X0.here hx rfl (hb hby at_4) rfl ((if0 _ _).trans (feq hc4_56).1) k) ?_
    show own_Fin p e below s _ _ _ s₁ (mkF m 7 #[.val (.int p1), .val (.int p2), .val (.int p3), .val (.int p4), .val (.int p5), .unset, .unset, .unset, .unset, .unset, .unset] [])
    refine own_by (fun _ k => XS.iloadN X0.here hx rfl (hb hby at_7) rfl (XS.goto X0.here hx rfl (pc0 := 8) (pc' := 12) rfl (hb hby at_8) (by decide) (by decide) (XS.istore X0.here hx rfl (hb hby at_12) rfl (l' := #[.val (.int p1), .val (.int p2), .val (.int p3), .val (.int p4), .val (.int p5), .val (.int p1), .unset, .unset, .unset, .unset, .unset]) rfl (XS.iload X0.here hx rfl (hb hby at_14) rfl (XS.iconst X0.here hx rfl (hb hby at_16) (XS.iand X0.here hx rfl (hb hby at_17) rfl k)))))) ?_
    show own_Fin p e below s _ _ _ s₁ (mkF m 18 #[.val (.int p1), .val (.int p2), .val (.int p3), .val (.int p4), .val (.int p5), .val (.int p1), .unset, .unset, .unset, .unset, .unset] [(.int (p5 &&& (2 : Int32)))])
    by_cases hc18_58 : (p5 &&& (2 : Int32)) = (0 : Int32)
    · show own_Fin p e below s _ _ _ s₁ (mkF m 18 #[.val (.int p1), .val (.int p2), .val (.int p3), .val (.int p4), .val (.int p5), .val (.int p1), .unset, .unset, .unset, .unset, .unset] [(.int (p5 &&& (2 : Int32)))])
      refine own_by (fun _ k => XS.ifYes X0.here hx rfl (pc0 := 18) (pc' := 25) rfl (hb hby at_18) rfl ((if0 _ _).trans (teq hc18_58).1) (by decide) (by decide) k) ?_
      show own_Fin p e below s _ _ _ s₁ (mkF m 25 #[.val (.int p1), .val (.int p2), .val (.int p3), .val (.int p4), .val (.int p5), .val (.int p1), .unset, .unset, .unset, .unset, .unset] [])
      refine own_by (fun _ k => XS.iloadN X0.here hx rfl (hb hby at_25) rfl (XS.istore X0.here hx rfl (hb hby at_26) rfl (l' := #[.val (.int p1), .val (.int p2), .val (.int p3), .val (.int p4), .val (.int p5), .val (.int p1), .val (.int p4), .unset, .unset, .unset, .unset]) rfl k)) ?_
      show own_Fin p e below s _ _ _ s₁ (mkF m 28 #[.val (.int p1), .val (.int p2), .val (.int p3), .val (.int p4), .val (.int p5), .val (.int p1), .val (.int p4), .unset, .unset, .unset, .unset] [])
      exact J28_37 (p1) (p4) 
    · show own_Fin p e below s _ _ _ s₁ (mkF m 18 #[.val (.int p1), .val (.int p2), .val (.int p3), .val (.int p4), .val (.int p5), .val (.int p1), .unset, .unset, .unset, .unset, .unset] [(.int (p5 &&& (2 : Int32)))])
      refine own_by (fun _ k => XS.ifNo X0.here hx rfl (hb hby at_18) rfl ((if0 _ _).trans (feq hc18_58).1) k) ?_
      show own_Fin p e below s _ _ _ s₁ (mkF m 21 #[.val (.int p1), .val (.int p2), .val (.int p3), .val (.int p4), .val (.int p5), .val (.int p1), .unset, .unset, .unset, .unset, .unset] [])
      refine own_by (fun _ k => XS.iloadN X0.here hx rfl (hb hby at_21) rfl (XS.goto X0.here hx rfl (pc0 := 22) (pc' := 26) rfl (hb hby at_22) (by decide) (by decide) (XS.istore X0.here hx rfl (hb hby at_26) rfl (l' := #[.val (.int p1), .val (.int p2), .val (.int p3), .val (.int p4), .val (.int p5), .val (.int p1), .val (.int p2), .unset, .unset, .unset, .unset]) rfl k))) ?_
      show own_Fin p e below s _ _ _ s₁ (mkF m 28 #[.val (.int p1), .val (.int p2), .val (.int p3), .val (.int p4), .val (.int p5), .val (.int p1), .val (.int p2), .unset, .unset, .unset, .unset] [])
      exact J28_37 (p1) (p2) 
set_option maxRecDepth 65536 in
set_option maxHeartbeats 40000000 in
theorem comes_1 {Post : Tables → Env → Array Value → State → Outcome → State → Prop} (hpost : ∀ tb e args s v u, (limb_1_1.after args s (.returned v) u = true ∧ limb_1_2.after args s (.returned v) u = true ∧ True) → FrameEnd s (.returned v) u (Jvm.fieldLocs frame_1_writes args s ++ Jvm.arrayLocs frame_1_arrays args s ++ Jvm.staticLocs frame_1_statics s) 16 128 → Post tb e args s (.returned v) u) :
    ArmFor flags0 classFile x code maxLocals ret World_1 tables_1 room_1 Calls_1 rest_1 Pre_1 Post := by
  intro l hfl _ _ p e ha hc hk s m args below hf hA hF happ hP
  obtain ⟨hcalls, hrest, hpre⟩ := hP
  obtain ⟨-, -, -, hnamed, -, -, -, hat⟩ := (Spec.applies_iff hf).mp happ
  obtain ⟨hg, hn⟩ := and_e (Cond.before_iff.mp (show (Jvm.Cond.and given_1 narrow_1).before args s = true from hpre))
  obtain ⟨gc, gr0⟩ := and_e hg
  obtain ⟨ga0, gr1⟩ := and_e gr0
  obtain ⟨ga1, gr2⟩ := and_e gr1
  obtain ⟨ga2, gr3⟩ := and_e gr2
  obtain ⟨ga3, gr4⟩ := and_e gr3
  obtain ⟨w0, w1, w2, w3, w4, rfl⟩ : ∃ w0 w1 w2 w3 w4 : Value, args = #[w0, w1, w2, w3, w4] := by
    have hs : args.size = 5 := by simpa [Cond.value, given_1] using gc
    obtain ⟨L⟩ := args
    match L, hs with
    | [w0, w1, w2, w3, w4], _ => exact ⟨w0, w1, w2, w3, w4, rfl⟩
  have hw := fun d (hd : d ∈ tables_1) => atoms_spec (ws := Jvm.Cond.code x code maxLocals ret :: tables_1) hat d (List.mem_cons_of_mem _ hd)
  obtain ⟨hsets, hown0⟩ := atoms_of _ (rest_1_c_eq ▸ (show rest_1_c.before _ s = true from hrest))
  have hr0 := Cond.before_iff.mp hown0
  have hfit : Fit s := fun {y c} hc i hi => by
    obtain ⟨ha, rfl⟩ := Array.getElem?_eq_some_iff.mp hc
    have q := List.all_eq_true.mp ((Array.all_eq_true_iff_forall_mem.mp hF) _ (Array.getElem_mem ha)) i (List.mem_range.mpr hi)
    simpa [Array.getElem?_eq_getElem hi] using q
  obtain ⟨i0, ei0⟩ := is_v ga0
  obtain rfl : w0 = (.int i0) := Option.some.inj ei0
  obtain ⟨i1, ei1⟩ := is_v ga1
  obtain rfl : w1 = (.int i1) := Option.some.inj ei1
  obtain ⟨i2, ei2⟩ := is_v ga2
  obtain rfl : w2 = (.int i2) := Option.some.inj ei2
  obtain ⟨i3, ei3⟩ := is_v ga3
  obtain rfl : w3 = (.int i3) := Option.some.inj ei3
  obtain ⟨i4, ei4⟩ := is_v gr4
  obtain rfl : w4 = (.int i4) := Option.some.inj ei4
  have eh := eqv_i (Term.int_eval (127)) (Cond.before_iff.mp (hsets _ (List.mem_of_getElem? (i := 3) rfl)))
  have Sh : Sta s s.heap "java/lang/Integer$IntegerCache" "high" "I" (.int (127 : Int32)) := Sta.start eh (Or.inl (hsets _ (List.mem_of_getElem? (i := 1) rfl)))
  obtain ⟨ca, eca⟩ := arr_v (Cond.before_iff.mp (hsets _ (List.mem_of_getElem? (i := 4) rfl)))
  have Sc : Sta s s.heap "java/lang/Integer$IntegerCache" "cache" "[Ljava/lang/Integer;" (.ref ca) := Sta.start eca (Or.inr ⟨(hw _ (List.mem_of_getElem? (i := 25) rfl)), hsets _ (List.mem_of_getElem? (i := 2) rfl)⟩)
  obtain ⟨cl, Acl⟩ := Arr.start eca (Cond.before_iff.mp (hsets _ (List.mem_of_getElem? (i := 4) rfl)))
  have eL := eqv_i (Term.int_eval (256)) (Cond.before_iff.mp (hsets _ (List.mem_of_getElem? (i := 6) rfl)))
  obtain ⟨hl1, hl2⟩ := own_len eca Acl eL
  have Bx : Bxs s ca cl "java/lang/Integer" "I" (256 : Int32) (fun j => .int (j - (128 : Int32))) := Bxs.start (fun idx => by simpa [Term.eval] using eca) Acl hl1 hl2 (by decide) (Cond.before_iff.mp (hsets _ (List.mem_of_getElem? (i := 7) rfl))) (fun X j hj h => eqv_i (Term.sub_int (idx_at hj) (Term.int_eval (128))) h)
  obtain ⟨n, o, h1, h2, h3, _, L, rfl, ⟨rfl, N⟩, hq⟩ := rm0 l s _ hw tables_1 i0 i1 i2 i3 i4 ca cl _ s.heap s.heap.size (Nat.le_refl _) Sh Sc Bx (Old.start s) p e ha hc hk s m _ below hf ((Spec.applies_iff_loose hf).mp happ).1 ⟨rfl, State.Warmed39.refl s, rfl⟩ trivial
  refine ⟨n, _, h1, h2, h3, hpost _ _ _ _ _ _ ⟨Cond.after_iff.mpr rfl, Cond.after_iff.mpr (eq_i res_at (Term.int_eval (1)) rfl), trivial⟩ ⟨hq.1, hq.2.1, (hq.2.2.sift fun y hy => Or.inr (N y hy)).mono (by decide) (by decide)⟩⟩
theorem main_1_1 : Claimed_1_1 := comes_1 fun _ _ _ _ _ _ h hF => ⟨h.1, hF⟩
theorem main_1_2 : Claimed_1_2 := comes_1 fun _ _ _ _ _ _ h hF => ⟨h.2.1, hF⟩
end Jvm.Pilot.@@N@@
namespace Jvm.Pilot.@@N@@
open Jvm Jvm.ClassFile Sem Op Lib Jvm.Free Jvm.Stand Jvm.Pilot.@@N@@.Jvm.D
/-! MADE BY PROGRAM (witnessworld.py) out of the Statement's table words and the real class files: 16 classes; the members and pool entries that the words name. The judged class is class 1, her method 1. -/
namespace start1
open Jvm.ClassFile
def u (s : String) : CpInfo := .utf8 (stringToUtf16 s)
/-- a pool by its gaps: so many unusable entries, then the entry; so many at the end -/
def gap : Nat → List CpInfo → List CpInfo
  | 0, r => r
  | n + 1, r => .unusable :: gap n r
def poolList (es : List (Nat × CpInfo)) (last : Nat) : List CpInfo := es.foldr (fun e r => gap e.1 (e.2 :: r)) (gap last [])
def pool (es : List (Nat × CpInfo)) (last : Nat) : Array CpInfo := ⟨poolList es last⟩
def fileOf (pool : Array CpInfo) (this : Nat) (attrs : Array Attribute := #[]) (ms : Array MethodInfo := #[]) (fl : Nat := 33) (sup : Nat := 0) (ifs : Array Nat := #[]) (fds : Array FieldInfo := #[]) : ClassFile where
  minorVersion := 0
  majorVersion := 65
  constantPool := pool
  accessFlags := fl
  thisClass := this
  superClass := sup
  interfaces := ifs
  fields := fds
  methods := ms
  attributes := attrs
def plain (name : String) (sup : Option ClassId) : Class where
  name := name
  kind := .ordinary
  loader := none
  accessFlags := 33
  super := sup
  interfaces := #[]
  cf := none
  fields := #[]
  methods := #[]
  instanceTypes := #[]
  staticTypes := #[]
  resolved := #[]
  callSites := []
  init := .initialized
  statics := none
  mirror := none

def pool0 : Array CpInfo := pool [(5, u "<init>"), (0, u "()V"), (1, .class_ 10), (1, u "java/lang/Object")] 113

def k0c0 : Code := { maxStack := 0, maxLocals := 1, code := object_method_1_code, exceptionTable := #[], attributes := #[] }
def k0m0 : Method := { name := "<init>", desc := "()V", sig := { parameters := [], returnType := none }, accessFlags := 1, code := some k0c0 }
/-- java/lang/Object -/
def k0 : Class := { plain "java/lang/Object" none with
  accessFlags := 33
  interfaces := #[]
  cf := some (fileOf pool0 8 #[] #[{ accessFlags := 1, nameIndex := 5, descriptorIndex := 6, attributes := #[] }] 33 0 #[] #[])
  fields := #[]
  methods := #[k0m0]
  instanceTypes := #[]
  staticTypes := #[]
  resolved := Array.replicate 124 none
  statics := none }

def pool1 : Array CpInfo := pool [(2, .class_ 4), (1, u "java/lang/Object"), (0, u "<init>"), (0, u "()V"), (0, .class_ 8), (0, u "com/example/libsubstr/libsubstr/PatternSet$Occurrence"), (0, .methodref 7 10), (0, .nameAndType 5 11), (0, u "(II)V"), (0, .methodref 7 13), (0, .nameAndType 14 15), (0, u "equals"), (0, u "(Ljava/lang/Object;)Z"), (0, .methodref 17 18), (0, .class_ 19), (0, .nameAndType 20 21), (0, u "java/lang/Integer"), (0, u "valueOf"), (0, u "(I)Ljava/lang/Integer;"), (0, .class_ 23), (0, u "com/example/libsubstr/libsubstr/OccurrenceEqualsPinLaw"), (2, u "law"), (0, u "(IIIII)Z")] 7

def k1m0 : Method := { name := "<init>", desc := "()V", sig := { parameters := [], returnType := none }, accessFlags := 1, code := none }
def k1c1 : Code := { maxStack := 4, maxLocals := 11, code := code, exceptionTable := #[], attributes := #[] }
def k1m1 : Method := { name := "law", desc := "(IIIII)Z", sig := { parameters := [.int, .int, .int, .int, .int], returnType := some .boolean }, accessFlags := 9, code := some k1c1 }
/-- com/example/libsubstr/libsubstr/OccurrenceEqualsPinLaw -/
def k1 : Class := { plain "com/example/libsubstr/libsubstr/OccurrenceEqualsPinLaw" (some 0) with
  accessFlags := 49
  interfaces := #[]
  cf := some (fileOf pool1 22 #[] #[{ accessFlags := 1, nameIndex := 5, descriptorIndex := 6, attributes := #[] }, { accessFlags := 9, nameIndex := 26, descriptorIndex := 27, attributes := #[] }] 49 2 #[] #[])
  fields := #[]
  methods := #[k1m0, k1m1]
  instanceTypes := #[]
  staticTypes := #[]
  resolved := Array.replicate 35 none
  statics := none }

def pool2 : Array CpInfo := pool [(1, .methodref 2 3), (0, .class_ 4), (0, .nameAndType 5 6), (0, u "java/lang/Object"), (0, u "<init>"), (0, u "()V"), (0, .fieldref 8 9), (0, .class_ 10), (0, .nameAndType 11 12), (0, u "com/example/libsubstr/libsubstr/PatternSet$Occurrence"), (0, u "index"), (0, u "I"), (0, .fieldref 8 14), (0, .nameAndType 15 12), (0, u "pattern"), (4, u "(II)V"), (3, u "equals"), (0, u "(Ljava/lang/Object;)Z"), (7, .class_ 34), (0, u "com/example/libsubstr/libsubstr/PatternSet")] 16

def k2c0 : Code := { maxStack := 2, maxLocals := 3, code := prog_36_method_1_code, exceptionTable := #[], attributes := #[] }
def k2m0 : Method := { name := "<init>", desc := "(II)V", sig := { parameters := [.int, .int], returnType := none }, accessFlags := 1, code := some k2c0 }
def k2c1 : Code := { maxStack := 2, maxLocals := 2, code := prog_36_method_4_code, exceptionTable := #[], attributes := #[] }
def k2m1 : Method := { name := "equals", desc := "(Ljava/lang/Object;)Z", sig := { parameters := [(.object "java/lang/Object")], returnType := some .boolean }, accessFlags := 1, code := some k2c1 }
/-- com/example/libsubstr/libsubstr/PatternSet$Occurrence -/
def k2 : Class := { plain "com/example/libsubstr/libsubstr/PatternSet$Occurrence" (some 0) with
  accessFlags := 49
  interfaces := #[]
  cf := some (fileOf pool2 8 #[.nestHost 33] #[{ accessFlags := 1, nameIndex := 5, descriptorIndex := 20, attributes := #[] }, { accessFlags := 1, nameIndex := 24, descriptorIndex := 25, attributes := #[] }] 49 2 #[] #[{ accessFlags := 18, nameIndex := 11, descriptorIndex := 12, attributes := #[] }, { accessFlags := 18, nameIndex := 15, descriptorIndex := 12, attributes := #[] }])
  fields := #[{ name := "index", type := .int, accessFlags := 18, slot := 0, constantValue := 0 }, { name := "pattern", type := .int, accessFlags := 18, slot := 1, constantValue := 0 }]
  methods := #[k2m0, k2m1]
  instanceTypes := #[.int, .int]
  staticTypes := #[]
  resolved := Array.replicate 51 none
  statics := none }

def pool3 : Array CpInfo := pool [(1, .class_ 2), (0, u "java/io/Serializable"), (0, .class_ 4), (0, u "java/lang/Object")] 2

/-- java/io/Serializable -/
def k3 : Class := { plain "java/io/Serializable" (some 0) with
  accessFlags := 1537
  interfaces := #[]
  cf := some (fileOf pool3 1 #[] #[] 1537 3 #[] #[])
  fields := #[]
  methods := #[]
  instanceTypes := #[]
  staticTypes := #[]
  resolved := Array.replicate 7 none
  statics := none }

def pool4 : Array CpInfo := pool [(1, .methodref 2 3), (0, .class_ 4), (0, .nameAndType 5 6), (0, u "java/lang/Object"), (0, u "<init>"), (0, u "()V"), (1, .class_ 10), (1, u "java/lang/Number"), (2, .class_ 14), (0, u "java/io/Serializable"), (0, u "serialVersionUID"), (0, u "J")] 20

def k4c0 : Code := { maxStack := 1, maxLocals := 1, code := jdk_18_method_1_code, exceptionTable := #[], attributes := #[] }
def k4m0 : Method := { name := "<init>", desc := "()V", sig := { parameters := [], returnType := none }, accessFlags := 1, code := some k4c0 }
/-- java/lang/Number -/
def k4 : Class := { plain "java/lang/Number" (some 0) with
  accessFlags := 1057
  interfaces := #[3]
  cf := some (fileOf pool4 8 #[] #[{ accessFlags := 1, nameIndex := 5, descriptorIndex := 6, attributes := #[] }] 1057 2 #[13] #[{ accessFlags := 26, nameIndex := 15, descriptorIndex := 16, attributes := #[] }])
  fields := #[{ name := "serialVersionUID", type := .long, accessFlags := 26, slot := 0, constantValue := 0 }]
  methods := #[k4m0]
  instanceTypes := #[]
  staticTypes := #[.long]
  resolved := Array.replicate 37 none
  statics := none }

def pool5 : Array CpInfo := pool [(1, .class_ 2), (0, u "java/lang/Comparable"), (0, .class_ 4), (0, u "java/lang/Object")] 7

/-- java/lang/Comparable -/
def k5 : Class := { plain "java/lang/Comparable" (some 0) with
  accessFlags := 1537
  interfaces := #[]
  cf := some (fileOf pool5 1 #[] #[] 1537 3 #[] #[])
  fields := #[]
  methods := #[]
  instanceTypes := #[]
  staticTypes := #[]
  resolved := Array.replicate 12 none
  statics := none }

def pool6 : Array CpInfo := pool [(1, .class_ 2), (0, u "java/lang/constant/Constable"), (0, .class_ 4), (0, u "java/lang/Object")] 6

/-- java/lang/constant/Constable -/
def k6 : Class := { plain "java/lang/constant/Constable" (some 0) with
  accessFlags := 1537
  interfaces := #[]
  cf := some (fileOf pool6 1 #[] #[] 1537 3 #[] #[])
  fields := #[]
  methods := #[]
  instanceTypes := #[]
  staticTypes := #[]
  resolved := Array.replicate 11 none
  statics := none }

def pool7 : Array CpInfo := pool [(1, .class_ 2), (0, u "java/lang/constant/ConstantDesc"), (0, .class_ 4), (0, u "java/lang/Object")] 32

/-- java/lang/constant/ConstantDesc -/
def k7 : Class := { plain "java/lang/constant/ConstantDesc" (some 0) with
  accessFlags := 1537
  interfaces := #[]
  cf := some (fileOf pool7 1 #[] #[] 1537 3 #[] #[])
  fields := #[]
  methods := #[]
  instanceTypes := #[]
  staticTypes := #[]
  resolved := Array.replicate 37 none
  statics := none }

def pool8 : Array CpInfo := pool [(1, .class_ 2), (0, u "java/lang/Integer"), (16, u "digits"), (0, u "[C"), (46, u "<init>"), (17, u "DigitOnes"), (0, u "[B"), (2, u "DigitTens"), (10, .nameAndType 67 101), (0, u "()V"), (85, u "valueOf"), (0, u "(I)Ljava/lang/Integer;"), (0, .class_ 190), (0, u "java/lang/Integer$IntegerCache"), (0, .fieldref 189 192), (0, .nameAndType 193 194), (0, u "high"), (0, u "I"), (0, .fieldref 189 196), (0, .nameAndType 197 198), (0, u "cache"), (0, u "[Ljava/lang/Integer;"), (0, .methodref 1 200), (0, .nameAndType 67 201), (0, u "(I)V"), (0, .methodref 203 100), (0, .class_ 204), (0, u "java/lang/Number"), (0, .fieldref 1 206), (0, .nameAndType 207 194), (0, u "value"), (94, u "TYPE"), (0, u "Ljava/lang/Class;"), (0, .class_ 305), (0, u "java/lang/Comparable"), (0, .class_ 307), (0, u "java/lang/constant/Constable"), (0, .class_ 309), (0, u "java/lang/constant/ConstantDesc"), (0, u "MIN_VALUE"), (1, u "MAX_VALUE"), (3, u "SIZE"), (1, u "BYTES"), (1, u "serialVersionUID"), (0, u "J")] 131

def k8c0 : Code := { maxStack := 3, maxLocals := 1, code := jdk_33_method_22_code, exceptionTable := #[], attributes := #[] }
def k8m0 : Method := { name := "valueOf", desc := "(I)Ljava/lang/Integer;", sig := { parameters := [.int], returnType := some (.object "java/lang/Integer") }, accessFlags := 9, code := some k8c0 }
def k8c1 : Code := { maxStack := 2, maxLocals := 2, code := jdk_33_method_23_code, exceptionTable := #[], attributes := #[] }
def k8m1 : Method := { name := "<init>", desc := "(I)V", sig := { parameters := [.int], returnType := none }, accessFlags := 1, code := some k8c1 }
/-- java/lang/Integer -/
def k8 : Class := { plain "java/lang/Integer" (some 4) with
  accessFlags := 49
  interfaces := #[5, 6, 7]
  cf := some (fileOf pool8 1 #[.nestMembers #[189]] #[{ accessFlags := 9, nameIndex := 187, descriptorIndex := 188, attributes := #[] }, { accessFlags := 1, nameIndex := 67, descriptorIndex := 201, attributes := #[] }] 49 203 #[304, 306, 308] #[{ accessFlags := 25, nameIndex := 310, descriptorIndex := 194, attributes := #[] }, { accessFlags := 25, nameIndex := 312, descriptorIndex := 194, attributes := #[] }, { accessFlags := 25, nameIndex := 302, descriptorIndex := 303, attributes := #[] }, { accessFlags := 24, nameIndex := 19, descriptorIndex := 20, attributes := #[] }, { accessFlags := 24, nameIndex := 89, descriptorIndex := 86, attributes := #[] }, { accessFlags := 24, nameIndex := 85, descriptorIndex := 86, attributes := #[] }, { accessFlags := 18, nameIndex := 207, descriptorIndex := 194, attributes := #[] }, { accessFlags := 25, nameIndex := 316, descriptorIndex := 194, attributes := #[] }, { accessFlags := 25, nameIndex := 318, descriptorIndex := 194, attributes := #[] }, { accessFlags := 26, nameIndex := 320, descriptorIndex := 321, attributes := #[] }])
  fields := #[{ name := "MIN_VALUE", type := .int, accessFlags := 25, slot := 0, constantValue := 0 }, { name := "MAX_VALUE", type := .int, accessFlags := 25, slot := 1, constantValue := 0 }, { name := "TYPE", type := (.object "java/lang/Class"), accessFlags := 25, slot := 2, constantValue := 0 }, { name := "digits", type := (.array .char), accessFlags := 24, slot := 3, constantValue := 0 }, { name := "DigitTens", type := (.array .byte), accessFlags := 24, slot := 4, constantValue := 0 }, { name := "DigitOnes", type := (.array .byte), accessFlags := 24, slot := 5, constantValue := 0 }, { name := "value", type := .int, accessFlags := 18, slot := 0, constantValue := 0 }, { name := "SIZE", type := .int, accessFlags := 25, slot := 6, constantValue := 0 }, { name := "BYTES", type := .int, accessFlags := 25, slot := 7, constantValue := 0 }, { name := "serialVersionUID", type := .long, accessFlags := 26, slot := 8, constantValue := 0 }]
  methods := #[k8m0, k8m1]
  instanceTypes := #[.int]
  staticTypes := #[.int, .int, (.object "java/lang/Class"), (.array .char), (.array .byte), (.array .byte), .int, .int, .long]
  resolved := Array.replicate 453 none
  statics := none }

def pool9 : Array CpInfo := pool [(2, .class_ 4), (1, u "java/lang/Object"), (0, u "<init>"), (0, u "()V"), (0, .class_ 8), (0, u "java/lang/Integer"), (7, .class_ 18), (1, u "java/lang/Integer$IntegerCache"), (0, u "$assertionsDisabled"), (0, u "Z"), (26, u "high"), (0, u "I"), (8, u "archivedCache"), (0, u "[Ljava/lang/Integer;"), (12, u "cache"), (0, u "low")] 27

def k9m0 : Method := { name := "<init>", desc := "()V", sig := { parameters := [], returnType := none }, accessFlags := 2, code := none }
/-- java/lang/Integer$IntegerCache -/
def k9 : Class := { plain "java/lang/Integer$IntegerCache" (some 0) with
  accessFlags := 48
  interfaces := #[]
  cf := some (fileOf pool9 16 #[.nestHost 7] #[{ accessFlags := 2, nameIndex := 5, descriptorIndex := 6, attributes := #[] }] 48 2 #[] #[{ accessFlags := 24, nameIndex := 72, descriptorIndex := 48, attributes := #[] }, { accessFlags := 24, nameIndex := 47, descriptorIndex := 48, attributes := #[] }, { accessFlags := 24, nameIndex := 71, descriptorIndex := 58, attributes := #[] }, { accessFlags := 8, nameIndex := 57, descriptorIndex := 58, attributes := #[] }, { accessFlags := 4120, nameIndex := 19, descriptorIndex := 20, attributes := #[] }])
  fields := #[{ name := "low", type := .int, accessFlags := 24, slot := 0, constantValue := 0 }, { name := "high", type := .int, accessFlags := 24, slot := 1, constantValue := 0 }, { name := "cache", type := (.array (.object "java/lang/Integer")), accessFlags := 24, slot := 2, constantValue := 0 }, { name := "archivedCache", type := (.array (.object "java/lang/Integer")), accessFlags := 8, slot := 3, constantValue := 0 }, { name := "$assertionsDisabled", type := .boolean, accessFlags := 4120, slot := 4, constantValue := 0 }]
  methods := #[k9m0]
  instanceTypes := #[]
  staticTypes := #[.int, .int, (.array (.object "java/lang/Integer")), (.array (.object "java/lang/Integer")), .boolean]
  resolved := Array.replicate 100 none
  statics := some 0 }

def pool10 : Array CpInfo := pool [(1, u "java/lang/Cloneable"), (0, .class_ 1), (0, u "java/lang/Object"), (0, .class_ 3)] 3

/-- java/lang/Cloneable -/
def k10 : Class := { plain "java/lang/Cloneable" (some 0) with
  accessFlags := 1537
  interfaces := #[]
  cf := some (fileOf pool10 2 #[] #[] 1537 4 #[] #[])
  fields := #[]
  methods := #[]
  instanceTypes := #[]
  staticTypes := #[]
  resolved := Array.replicate 8 none
  statics := none }

/-- the primitive byte -/
def k11 : Class := { plain "byte" none with kind := .primitive 'B', accessFlags := 0x411 }
/-- [B -/
def k12 : Class := { plain "[B" (some 0) with kind := .array 11 .byte, interfaces := #[10, 3], accessFlags := 1041 }

/-- the primitive int -/
def k13 : Class := { plain "int" none with kind := .primitive 'I', accessFlags := 0x411 }
/-- [I -/
def k14 : Class := { plain "[I" (some 0) with kind := .array 13 .int, interfaces := #[10, 3], accessFlags := 1041 }

/-- [Ljava/lang/Integer; -/
def k15 : Class := { plain "[Ljava/lang/Integer;" (some 0) with kind := .array 8 (.object "java/lang/Integer"), interfaces := #[10, 3], accessFlags := 1041 }

def heap : Heap := (([{ cls := 9, slots := #[.int 0, .int 127, .ref 1, .null, .int 0], vm := .statics 9 }, { cls := 15, slots := ((List.range 256).map (fun i => Value.ref (i + 2))).toArray, vm := .none }] : List Cell) ++ (List.range 256).map (fun (i : Nat) => ({ cls := 8, slots := #[.int (Int32.ofInt ((i : Int) - 128))], vm := .none } : Cell))).toArray
def classes : Array Class := #[k0, k1, k2, k3, k4, k5, k6, k7, k8, k9, k10, k11, k12, k13, k14, k15]
def interned : List (Array UInt16 × Addr) := []
def slotsUsed : Nat := 517
def theMethod : MethodId := ⟨1, 1⟩
def args0 : Array Value := #[.int 5, .int 5, .int 5, .int 5, .int 5]
def aboutOver (below : List Frame) : State where
  vm := { classes := classes, interned := interned.toArray }
  heap := heap
  slotsUsed := slotsUsed
  threads := #[{ frames := .invoking theMethod args0 :: below }]
def below0 : List Frame := [.native { method := ⟨0, 0⟩, args := #[] }]
def about1 : State := aboutOver below0
def p0 : Program := .bare "" "" ""
def e0 : Env := launch0.env 0 0 0
theorem w_frames : about1.frames = Frame.invoking theMethod args0 :: below0 := rfl
set_option maxRecDepth 65536 in
theorem w_args : argsFit about1.vm theMethod args0 = true := by decide +kernel
set_option maxRecDepth 65536 in
theorem w_heap : heapFits about1 = true := by decide +kernel
set_option maxRecDepth 65536 in
theorem w_runnable : about1.curStatus? = some .runnable := by decide +kernel
set_option maxRecDepth 65536 in
theorem w_alone : about1.alone = true := by decide +kernel
set_option maxRecDepth 65536 in
theorem w_named : about1.methodNamed? x = some theMethod := by decide +kernel
set_option maxRecDepth 65536 in
theorem w_hears : about1.hears theMethod below0 = true := by decide +kernel
set_option maxRecDepth 65536 in
theorem w_ripe : about1.ripe theMethod args0 below0 = true := by decide +kernel
theorem w_running : about1.status = .running := rfl
set_option maxRecDepth 65536 in
theorem w_room : about1.hasRoom e0.platform room_1 = true :=
  launch0.hasRoom_least _ room_1 (by decide +kernel) (by decide +kernel) (by decide +kernel) (by decide +kernel) (by decide +kernel) (by decide +kernel)
theorem allAtoms_all (ts : List Jvm.Cond) (a : Array Jvm.Value) (st : Jvm.State) : (allAtoms ts).before a st = ts.all (fun c => c.before a st) := by
  induction ts with
  | nil => rfl
  | cons c t ih =>
    show (Jvm.Cond.and c (allAtoms t)).before a st = _
    rw [Jvm.Cond.before_and, ih, List.all_cons]
def words1 : List Jvm.Cond := Jvm.Cond.code x code maxLocals ret :: tables_1
/-- a 'code' word, met by the world's own term for the bytes: nothing is compared byte by byte -/
theorem code_word {y : MethodName} {bytes : ByteArray} {mx : Nat} {rt : Option FieldType} {a : Array Value} {s : State} {m : MethodId} {meth : Method} {c : Code} (h1 : s.methodNamed? y = some m) (h2 : s.vm.method? m = some meth) (h3 : meth.code = some c) (h4 : c.code = bytes)
    (h5 : (c.maxLocals == mx && c.exceptionTable.isEmpty && decide (c.maxStack ≤ mostOperands) && decide (meth.sig.returnType = rt) && !meth.locks && decide (parseMethodDescriptor y.desc = some meth.sig)) = true) : (Jvm.Cond.code y bytes mx rt).before a s = true := by
  simp only [Bool.and_eq_true, beq_iff_eq, Bool.not_eq_true', decide_eq_true_eq] at h5
  obtain ⟨⟨⟨⟨⟨g1, g2⟩, g3⟩, g4⟩, g5⟩, g6⟩ := h5
  simp [Cond.before, Cond.holds, Cond.value, h1, h2, h3, h4, g1, g2, g3, g4, g5, g6]
def isCode : Jvm.Cond → Bool
  | .code _ _ _ _ => true
  | _ => false
theorem all_split {L : List Jvm.Cond} {P : Jvm.Cond → Bool} (h1 : L.all (fun c => isCode c || P c) = true) (h2 : ∀ c ∈ L.filter isCode, P c = true) : L.all P = true := by
  refine List.all_eq_true.mpr fun c hc => ?_
  have h := List.all_eq_true.mp h1 c hc
  rcases Bool.eq_false_or_eq_true (isCode c) with hi | hi
  · exact h2 c (List.mem_filter.mpr ⟨hc, hi⟩)
  · simpa [hi] using h
set_option maxRecDepth 65536 in
theorem w_c0 : (Jvm.Cond.code x code maxLocals ret).before args0 about1 = true := code_word (m := ⟨1, 1⟩) (meth := k1m1) (c := k1c1) (by decide +kernel) rfl rfl rfl (by decide +kernel)
set_option maxRecDepth 65536 in
theorem w_c1 : (Jvm.Cond.code ({ cls := "com/example/libsubstr/libsubstr/PatternSet$Occurrence", name := "<init>", desc := "(II)V" } : Jvm.MethodName) prog_36_method_1_code (3 : Nat) (Option.none : Option Jvm.ClassFile.FieldType)).before args0 about1 = true := code_word (m := ⟨2, 0⟩) (meth := k2m0) (c := k2c0) (by decide +kernel) rfl rfl rfl (by decide +kernel)
set_option maxRecDepth 65536 in
theorem w_c2 : (Jvm.Cond.code ({ cls := "java/lang/Object", name := "<init>", desc := "()V" } : Jvm.MethodName) object_method_1_code (1 : Nat) (Option.none : Option Jvm.ClassFile.FieldType)).before args0 about1 = true := code_word (m := ⟨0, 0⟩) (meth := k0m0) (c := k0c0) (by decide +kernel) rfl rfl rfl (by decide +kernel)
set_option maxRecDepth 65536 in
theorem w_c3 : (Jvm.Cond.code ({ cls := "com/example/libsubstr/libsubstr/PatternSet$Occurrence", name := "equals", desc := "(Ljava/lang/Object;)Z" } : Jvm.MethodName) prog_36_method_4_code (2 : Nat) (Option.some Jvm.ClassFile.FieldType.boolean)).before args0 about1 = true := code_word (m := ⟨2, 1⟩) (meth := k2m1) (c := k2c1) (by decide +kernel) rfl rfl rfl (by decide +kernel)
set_option maxRecDepth 65536 in
theorem w_c4 : (Jvm.Cond.code ({ cls := "java/lang/Integer", name := "valueOf", desc := "(I)Ljava/lang/Integer;" } : Jvm.MethodName) jdk_33_method_22_code (1 : Nat) (Option.some (Jvm.ClassFile.FieldType.object "java/lang/Integer"))).before args0 about1 = true := code_word (m := ⟨8, 0⟩) (meth := k8m0) (c := k8c0) (by decide +kernel) rfl rfl rfl (by decide +kernel)
set_option maxRecDepth 65536 in
theorem w_c5 : (Jvm.Cond.code ({ cls := "java/lang/Integer", name := "<init>", desc := "(I)V" } : Jvm.MethodName) jdk_33_method_23_code (2 : Nat) (Option.none : Option Jvm.ClassFile.FieldType)).before args0 about1 = true := code_word (m := ⟨8, 1⟩) (meth := k8m1) (c := k8c1) (by decide +kernel) rfl rfl rfl (by decide +kernel)
set_option maxRecDepth 65536 in
theorem w_c6 : (Jvm.Cond.code ({ cls := "java/lang/Number", name := "<init>", desc := "()V" } : Jvm.MethodName) jdk_18_method_1_code (1 : Nat) (Option.none : Option Jvm.ClassFile.FieldType)).before args0 about1 = true := code_word (m := ⟨4, 0⟩) (meth := k4m0) (c := k4c0) (by decide +kernel) rfl rfl rfl (by decide +kernel)
def codes1 : List Jvm.Cond := [Jvm.Cond.code x code maxLocals ret, Jvm.Cond.code ({ cls := "com/example/libsubstr/libsubstr/PatternSet$Occurrence", name := "<init>", desc := "(II)V" } : Jvm.MethodName) prog_36_method_1_code (3 : Nat) (Option.none : Option Jvm.ClassFile.FieldType), Jvm.Cond.code ({ cls := "java/lang/Object", name := "<init>", desc := "()V" } : Jvm.MethodName) object_method_1_code (1 : Nat) (Option.none : Option Jvm.ClassFile.FieldType), Jvm.Cond.code ({ cls := "com/example/libsubstr/libsubstr/PatternSet$Occurrence", name := "equals", desc := "(Ljava/lang/Object;)Z" } : Jvm.MethodName) prog_36_method_4_code (2 : Nat) (Option.some Jvm.ClassFile.FieldType.boolean), Jvm.Cond.code ({ cls := "java/lang/Integer", name := "valueOf", desc := "(I)Ljava/lang/Integer;" } : Jvm.MethodName) jdk_33_method_22_code (1 : Nat) (Option.some (Jvm.ClassFile.FieldType.object "java/lang/Integer")), Jvm.Cond.code ({ cls := "java/lang/Integer", name := "<init>", desc := "(I)V" } : Jvm.MethodName) jdk_33_method_23_code (2 : Nat) (Option.none : Option Jvm.ClassFile.FieldType), Jvm.Cond.code ({ cls := "java/lang/Number", name := "<init>", desc := "()V" } : Jvm.MethodName) jdk_18_method_1_code (1 : Nat) (Option.none : Option Jvm.ClassFile.FieldType)]
set_option maxRecDepth 65536 in
theorem codes_eq : words1.filter isCode = codes1 := rfl
theorem w_codes : ∀ c ∈ words1.filter isCode, c.before args0 about1 = true := by
  rw [codes_eq]
  intro c hc
  simp only [codes1, List.mem_cons, List.not_mem_nil, or_false] at hc
  rcases hc with rfl | rfl | rfl | rfl | rfl | rfl | rfl
  · exact w_c0
  · exact w_c1
  · exact w_c2
  · exact w_c3
  · exact w_c4
  · exact w_c5
  · exact w_c6
set_option maxRecDepth 65536 in
theorem w_t1 : (words1.take 24).all (fun c => isCode c || c.before args0 about1) = true := by decide +kernel
set_option maxRecDepth 65536 in
theorem w_t2 : (words1.drop 24).all (fun c => isCode c || c.before args0 about1) = true := by decide +kernel
theorem w_tables : (allAtoms (Jvm.Cond.code x code maxLocals ret :: tables_1)).before args0 about1 = true := by
  rw [allAtoms_all]
  show words1.all (fun c => c.before args0 about1) = true
  refine all_split ?_ w_codes
  rw [← List.take_append_drop 24 words1, List.all_append, w_t1, w_t2]
  rfl
set_option maxRecDepth 65536 in
theorem w_rest : rest_1_c.before args0 about1 = true := by decide +kernel
set_option maxRecDepth 65536 in
theorem w_case : (Jvm.Cond.and given_1 narrow_1).before args0 about1 = true := by decide +kernel
theorem w_applies : (headSpec (Jvm.Cond.code x code maxLocals ret :: tables_1) room_1).applies x e0.platform about1 = true :=
  (Spec.applies_iff w_frames).mpr ⟨w_running, w_runnable, w_alone, w_named, w_hears, w_ripe, w_room, w_tables⟩
theorem atStart : AtStart classFile x code maxLocals ret World_1 tables_1 room_1 Calls_1 rest_1 Pre_1 launch0 p0 e0 about1 theMethod args0 below0 :=
  ⟨lists_1, trivial, launch0.admits_env _ _ _, launch0.least_env, fairChoices_fair.cas, fairChoices_fair.clock, w_frames, w_args, w_heap, w_applies, trivial, w_rest, w_case⟩
end start1
theorem witness_1 : WitnessClaimed_1 := ⟨start1.p0, start1.e0, start1.about1, start1.theMethod, start1.args0, start1.below0, start1.atStart⟩
end Jvm.Pilot.@@N@@
