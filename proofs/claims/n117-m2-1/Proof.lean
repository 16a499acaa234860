import JvmDerived
import JvmDerived.Pilot.@@N@@Statement
import JvmDerived.Pilot.@@N@@Code
set_option linter.unusedVariables false
set_option linter.unusedSimpArgs false
namespace Jvm.Pilot.@@N@@
open Jvm Jvm.ClassFile Sem Op Lib Jvm.Free Jvm.Stand Jvm.LawKit Jvm.RoadKit Bundle Jvm.Pilot.@@N@@.Jvm.D
section Own
variable {p : Program} {l : Launch} {e : Env} {R : Room} {s : State} {m : MethodId} {args : Array Value} {below : List Frame} {meth : Method} {c : Code} {T T' : State} {locs : List Loc} {cells slots : Nat}
/-- from T with the frame f on top the method comes to its end; what it returns, the heap and the places written answer Q; at most C cells and N slots are new -/
def own_Fin (p : Program) (e : Env) (below : List Frame) (s : State) (C N : Nat) (Q : Option Value → Heap → List Loc → Prop) (T : State) (f : JFrame) : Prop :=
  ∃ s₂ o, Steps p.tables e below (T.setTop f) s₂ ∧ s₂.status = .running ∧ Ended s₂ below o ∧ ∃ v L, o = .returned v ∧ Q v s₂.heap L ∧ FrameEnd s o s₂ L C N
variable {C N : Nat} {Q : Option Value → Heap → List Loc → Prop} {f f' : JFrame}
theorem own_by (h : ∀ t, Steps p.tables e below (T'.setTop f') t → Steps p.tables e below (T.setTop f) t) (k : own_Fin p e below s C N Q T' f') : own_Fin p e below s C N Q T f := by
  obtain ⟨s2, o, h1, h2⟩ := k
  exact ⟨s2, o, h _ h1, h2⟩
theorem own_start (q : f = f') (k : own_Fin p e below s C N Q T f') : ∃ s₂ o, Steps p.tables e below (T.setTop f) s₂ ∧ s₂.status = .running ∧ Ended s₂ below o ∧ ∃ v L, o = .returned v ∧ Q v s₂.heap L ∧ FrameEnd s o s₂ L C N := by
  subst q; exact k
theorem own_leaf (X : Stand p l e R s m args below meth c T locs cells slots) (hlk : meth.locks = false) {v : Option Value} (hv : meth.sig.returnType = none → v = none)
    (hs : ∀ fs, (∀ (f : JFrame) (acts : List Action), f.method = m → f.locked = none → f.entered = [] → (doReturn e (T.setTop f) acts v).1 = T.setFrames fs) → Steps p.tables e below (T.setTop f) (T.setFrames fs))
    (hQ : Q v T.heap locs) (hc : cells ≤ C) (hn : slots ≤ N) : own_Fin p e below s C N Q T f := by
  obtain ⟨fs, hr, hrun, hended, hW, hsame⟩ := X.leave (v := v) hv hlk
  exact ⟨_, _, hs fs hr, hrun, hended, _, _, rfl, hQ, ⟨_, rfl⟩, hW, hsame.mono hc hn⟩
theorem own_retV (X : Stand p l e R s m args below meth c T locs cells slots) (hx : p.tables.exec = Jvm.exec) (hlk : meth.locks = false) {pc : Nat} {Ls : Array Slot} (hret : meth.sig.returnType = none) (hd : decode c.code pc = .ok (.return_, 1))
    (hQ : Q none T.heap locs) (hc : cells ≤ C) (hn : slots ≤ N) : own_Fin p e below s C N Q T (mkF m pc Ls []) :=
  own_leaf X hlk (fun _ => rfl) (fun fs hr => X.returnOut hx hret hd hr) hQ hc hn
theorem own_retZ (X : Stand p l e R s m args below meth c T locs cells slots) (hx : p.tables.exec = Jvm.exec) (hlk : meth.locks = false) {pc : Nat} {Ls : Array Slot} {z : Int32} {t : FieldType} {rest : List Value} (hret : meth.sig.returnType = some t) (ht : t = .boolean ∨ t = .byte ∨ t = .char ∨ t = .short) (hd : decode c.code pc = .ok (.ireturn, 1))
    (hQ : Q (some (.int (nar t z))) T.heap locs) (hc : cells ≤ C) (hn : slots ≤ N) : own_Fin p e below s C N Q T (mkF m pc Ls (.int z :: rest)) :=
  own_leaf X hlk (fun h => by rw [hret] at h; cases h) (fun fs hr => retN X hx hret ht hd hr) hQ hc hn
theorem own_retO (X : Stand p l e R s m args below meth c T locs cells slots) (hx : p.tables.exec = Jvm.exec) (hlk : meth.locks = false) {pc : Nat} {Ls : Array Slot} {w : Value} {t : FieldType} {i : Instr} {rest : List Value} (hret : meth.sig.returnType = some t) (hn' : narrow t w = w)
    (hi : (i = .ireturn ∧ (t = .int ∨ t = .boolean ∨ t = .byte ∨ t = .char ∨ t = .short) ∧ ∃ z, w = .int z) ∨ (i = .lreturn ∧ t = .long ∧ ∃ z, w = .long z) ∨ (i = .dreturn ∧ t = .double ∧ ∃ z, w = .double z) ∨ (i = .freturn ∧ t = .float ∧ ∃ z, w = .float z) ∨ (i = .areturn ∧ t.isReference = true ∧ w.isRef = true))
    (hd : decode c.code pc = .ok (i, 1)) (hQ : Q (some w) T.heap locs) (hc : cells ≤ C) (hn : slots ≤ N) : own_Fin p e below s C N Q T (mkF m pc Ls (w :: rest)) :=
  own_leaf X hlk (fun h => by rw [hret] at h; cases h) (fun fs hr => retOut X hx hret hn' hi hd hr) hQ hc hn
theorem own_retI (X : Stand p l e R s m args below meth c T locs cells slots) (hx : p.tables.exec = Jvm.exec) (hlk : meth.locks = false) {pc : Nat} {Ls : Array Slot} {z : Int32} {rest : List Value} (hret : meth.sig.returnType = some .int) (hd : decode c.code pc = .ok (.ireturn, 1))
    (hQ : Q (some (.int z)) T.heap locs) (hc : cells ≤ C) (hn : slots ≤ N) : own_Fin p e below s C N Q T (mkF m pc Ls (.int z :: rest)) :=
  own_retO X hx hlk hret rfl (Or.inl ⟨rfl, Or.inl rfl, _, rfl⟩) hd hQ hc hn
theorem own_retJ (X : Stand p l e R s m args below meth c T locs cells slots) (hx : p.tables.exec = Jvm.exec) (hlk : meth.locks = false) {pc : Nat} {Ls : Array Slot} {z : Int64} {rest : List Value} (hret : meth.sig.returnType = some .long) (hd : decode c.code pc = .ok (.lreturn, 1))
    (hQ : Q (some (.long z)) T.heap locs) (hc : cells ≤ C) (hn : slots ≤ N) : own_Fin p e below s C N Q T (mkF m pc Ls (.long z :: rest)) :=
  own_retO X hx hlk hret rfl (Or.inr (Or.inl ⟨rfl, rfl, _, rfl⟩)) hd hQ hc hn
theorem own_retA (X : Stand p l e R s m args below meth c T locs cells slots) (hx : p.tables.exec = Jvm.exec) (hlk : meth.locks = false) {pc : Nat} {Ls : Array Slot} {w : Value} {t : FieldType} {rest : List Value} (hret : meth.sig.returnType = some t) (hr : t.isReference = true) (hn' : narrow t w = w) (hw : w.isRef = true) (hd : decode c.code pc = .ok (.areturn, 1))
    (hQ : Q (some w) T.heap locs) (hc : cells ≤ C) (hn : slots ≤ N) : own_Fin p e below s C N Q T (mkF m pc Ls (w :: rest)) :=
  own_retO X hx hlk hret hn' (Or.inr (Or.inr (Or.inr (Or.inr ⟨rfl, hr, hw⟩)))) hd hQ hc hn
/-- a room by its four numbers -/
abbrev own_R (f c s l : Nat) : Room := { frames := f, cells := c, slots := s, locals := l }
/-- the contract's form: called with A at a heap h0 it returns, and Q holds of what it returns, the heap and the places written -/
abbrev own_Met (l : Launch) (Z : State) (y : MethodName) (code : ByteArray) (ml : Nat) (ret : Option FieldType) (ws : List Jvm.Cond) (R : Room) (A : Array Value) (h0 : Heap) (Q : Option Value → Heap → List Loc → Prop) : Prop :=
  MetFree l y (head1 (Jvm.Cond.code y code ml ret :: ws) R) (fun a U => a = A ∧ Z.Warmed39 U.vm ∧ U.heap = h0) (fun _ _ _ _ _ => True) (fun _ U o U' => ∃ v L, o = .returned v ∧ Q v U'.heap L ∧ FrameEnd U o U' L R.cells R.slots)
theorem own_enter {Z : State} {y : MethodName} {code : ByteArray} {ml : Nat} {ret : Option FieldType} {ws : List Jvm.Cond} {A : Array Value} {h0 : Heap} {f0 : MethodId → JFrame} (n0 : Nat) (hpn : plainName y.cls = true) (hef : ∀ m, entryFrame m A ml = f0 m)
    (H : ∀ (p : Program) (e : Env) (s : State) (m : MethodId) (below : List Frame) (meth : Method) (c : Code) (s₁ : State), p.tables.exec = Jvm.exec → c.code = code → meth.locks = false → c.maxLocals = ml → meth.sig.returnType = ret → s.vm.findClass y.cls = some m.cls → meth.name = y.name →
      Z.Warmed39 s.vm → Stand p l e R s m A below meth c s₁ [] 0 0 → s₁.heap = h0 → Fr n0 [] → own_Fin p e below s R.cells R.slots Q s₁ (f0 m)) : own_Met l Z y code ml ret ws R A h0 Q := by
  refine MetFree.of_bodySF (plainFor_of_name hpn) hisR ?_
  intro p e s m args below meth c s₁ Bd hml hP _
  obtain ⟨rfl, hZ, hh⟩ := hP
  have q := H p e s m below meth c s₁ Bd.exec Bd.bytes Bd.notSynchronized hml Bd.returns (findClass_of_methodNamed Bd.named) (name_of_methodNamed Bd.named Bd.method).1 hZ (Stand.of_body Bd) (by rw [← hh, Bd.state]; rfl) (Fr.nil n0)
  rw [hef m]
  exact q
end Own
theorem own_vi {a b : Int32} (h : a = b) : some (Value.int a) = some (Value.int b) := h ▸ rfl
def own_cmp (x y : Int32) : Int32 := if x < y then -1 else if x = y then 0 else 1
def own_cto (a b c d : Int32) : Int32 := if own_cmp a c = (0 : Int32) then own_cmp b d else own_cmp a c
def own_eqv (a b c d : Int32) : Int32 := if own_cto a b c d = (0 : Int32) then 1 else 0
theorem own_cmp0 {x y : Int32} (h : own_cmp x y = 0) : x = y := by
  unfold own_cmp at h
  split at h
  · exact absurd h (by decide)
  · split at h
    · assumption
    · exact absurd h (by decide)
theorem own_hash {a b c d : Int32} (h : ¬ own_eqv a b c d = (0 : Int32)) : (((31 : Int32) * a) + b) = (((31 : Int32) * c) + d) := by
  unfold own_eqv at h
  split at h
  · rename_i q
    unfold own_cto at q
    split at q
    · rename_i r
      rw [own_cmp0 r, own_cmp0 q]
    · rename_i r; exact absurd q r
  · exact absurd rfl h
theorem own_pn1 : plainName "java/lang/Integer" = true := by first | (simp [plainName, overriddenIn]; done) | decide +kernel
theorem d6_0 : decode jdk_33_method_40_code 0 = .ok (.iload_n 0, 1) := by decide +kernel
theorem d6_1 : decode jdk_33_method_40_code 1 = .ok (.iload_n 1, 1) := by decide +kernel
theorem d6_2 : decode jdk_33_method_40_code 2 = .ok (.if_icmp .ge 7, 3) := by decide +kernel
theorem d6_5 : decode jdk_33_method_40_code 5 = .ok (.iconst (-1), 1) := by decide +kernel
theorem d6_6 : decode jdk_33_method_40_code 6 = .ok (.goto 13, 3) := by decide +kernel
theorem d6_19 : decode jdk_33_method_40_code 19 = .ok (.ireturn, 1) := by decide +kernel
theorem d6_9 : decode jdk_33_method_40_code 9 = .ok (.iload_n 0, 1) := by decide +kernel
theorem d6_10 : decode jdk_33_method_40_code 10 = .ok (.iload_n 1, 1) := by decide +kernel
theorem d6_11 : decode jdk_33_method_40_code 11 = .ok (.if_icmp .ne 7, 3) := by decide +kernel
theorem d6_14 : decode jdk_33_method_40_code 14 = .ok (.iconst 0, 1) := by decide +kernel
theorem d6_15 : decode jdk_33_method_40_code 15 = .ok (.goto 4, 3) := by decide +kernel
theorem d6_18 : decode jdk_33_method_40_code 18 = .ok (.iconst 1, 1) := by decide +kernel
theorem ef_rm6 (m : MethodId) (x0 : Int32) (x1 : Int32) : entryFrame m #[(.int x0), (.int x1)] 2 = mkF m 0 #[.val (.int x0), .val (.int x1)] [] := by first | (simp [entryFrame, mkF, argsToLocals, Value.category]; done) | rfl
def own_Q6 (p1 p2 : Int32) (h0 : Heap) (n0 : Nat) (v : Option Value) (h : Heap) (L : List Loc) : Prop := v = some (.int (own_cmp p1 p2)) ∧ Fr n0 L ∧ h = h0
set_option maxRecDepth 65536 in
set_option maxHeartbeats 40000000 in
theorem rm6 (l : Launch) (Z : State) (a0 : Array Value) (hw : ∀ d ∈ tables_1, d.before a0 Z = true) (ws : List Jvm.Cond) (p1 p2 : Int32) (h0 : Heap) (n0 : Nat) (Z0 : n0 ≤ h0.size)  : own_Met l Z (⟨"java/lang/Integer", "compare", "(II)I"⟩ : MethodName) jdk_33_method_40_code 2 (some .int) ws (own_R 0 0 0 0) #[(.int p1), (.int p2)] h0 (own_Q6 p1 p2 h0 n0) := by
  refine own_enter n0 own_pn1 (fun m => ef_rm6 m p1 p2 ) (fun p e s m below meth c s₁ hx hby hlk hml hret hown hnm hZ X0 e0 N0 => ?_)
  show own_Fin p e below s _ _ _ s₁ (mkF m 0 #[.val (.int p1), .val (.int p2)] [])
  refine own_by (fun _ k => XS.iloadN X0.here hx rfl (hb hby d6_0) rfl (XS.iloadN X0.here hx rfl (hb hby d6_1) rfl k)) ?_
  show own_Fin p e below s _ _ _ s₁ (mkF m 2 #[.val (.int p1), .val (.int p2)] [(.int p2), (.int p1)])
  by_cases hc2_1 : p1 < p2
  · show own_Fin p e below s _ _ _ s₁ (mkF m 2 #[.val (.int p1), .val (.int p2)] [(.int p2), (.int p1)])
    refine own_by (fun _ k => XS.icmpNo X0.here hx rfl (hb hby d6_2) rfl (tlt hc2_1).2.1 k) ?_
    show own_Fin p e below s _ _ _ s₁ (mkF m 5 #[.val (.int p1), .val (.int p2)] [])
    refine own_by (fun _ k => XS.iconst X0.here hx rfl (hb hby d6_5) (XS.goto X0.here hx rfl (pc0 := 6) (pc' := 19) rfl (hb hby d6_6) (by decide) (by decide) k)) ?_
    show own_Fin p e below s _ _ _ s₁ (mkF m 19 #[.val (.int p1), .val (.int p2)] [(.int (-1 : Int32))])
    exact own_retI X0 hx hlk hret (hb hby d6_19) ⟨own_vi (by show (-1 : Int32) = _; simp [own_cmp, hc2_1]), N0, e0⟩ (by decide) (by decide)
  · show own_Fin p e below s _ _ _ s₁ (mkF m 2 #[.val (.int p1), .val (.int p2)] [(.int p2), (.int p1)])
    refine own_by (fun _ k => XS.icmpYes X0.here hx rfl (pc0 := 2) (pc' := 9) rfl (hb hby d6_2) rfl (flt hc2_1).2.1 (by decide) (by decide) k) ?_
    show own_Fin p e below s _ _ _ s₁ (mkF m 9 #[.val (.int p1), .val (.int p2)] [])
    refine own_by (fun _ k => XS.iloadN X0.here hx rfl (hb hby d6_9) rfl (XS.iloadN X0.here hx rfl (hb hby d6_10) rfl k)) ?_
    show own_Fin p e below s _ _ _ s₁ (mkF m 11 #[.val (.int p1), .val (.int p2)] [(.int p2), (.int p1)])
    by_cases hc11_2 : p1 = p2
    · show own_Fin p e below s _ _ _ s₁ (mkF m 11 #[.val (.int p1), .val (.int p2)] [(.int p2), (.int p1)])
      refine own_by (fun _ k => XS.icmpNo X0.here hx rfl (hb hby d6_11) rfl (teq hc11_2).2 k) ?_
      show own_Fin p e below s _ _ _ s₁ (mkF m 14 #[.val (.int p1), .val (.int p2)] [])
      refine own_by (fun _ k => XS.iconst X0.here hx rfl (hb hby d6_14) (XS.goto X0.here hx rfl (pc0 := 15) (pc' := 19) rfl (hb hby d6_15) (by decide) (by decide) k)) ?_
      show own_Fin p e below s _ _ _ s₁ (mkF m 19 #[.val (.int p1), .val (.int p2)] [(.int (0 : Int32))])
      exact own_retI X0 hx hlk hret (hb hby d6_19) ⟨own_vi (by show (0 : Int32) = _; simp [own_cmp, hc2_1, hc11_2]), N0, e0⟩ (by decide) (by decide)
    · show own_Fin p e below s _ _ _ s₁ (mkF m 11 #[.val (.int p1), .val (.int p2)] [(.int p2), (.int p1)])
      refine own_by (fun _ k => XS.icmpYes X0.here hx rfl (pc0 := 11) (pc' := 18) rfl (hb hby d6_11) rfl (feq hc11_2).2 (by decide) (by decide) k) ?_
      show own_Fin p e below s _ _ _ s₁ (mkF m 18 #[.val (.int p1), .val (.int p2)] [])
      refine own_by (fun _ k => XS.iconst X0.here hx rfl (hb hby d6_18) k) ?_
      show own_Fin p e below s _ _ _ s₁ (mkF m 19 #[.val (.int p1), .val (.int p2)] [(.int (1 : Int32))])
      exact own_retI X0 hx hlk hret (hb hby d6_19) ⟨own_vi (by show (1 : Int32) = _; simp [own_cmp, hc2_1, hc11_2]), N0, e0⟩ (by decide) (by decide)
theorem own_pn15 : plainName "com/example/hinta/hinta/input/Position" = true := by first | (simp [plainName, overriddenIn]; done) | decide +kernel
theorem d5_0 : decode prog_8_method_4_code 0 = .ok (.aload_n 0, 1) := by decide +kernel
theorem d5_1 : decode prog_8_method_4_code 1 = .ok (.getfield 7, 3) := by decide +kernel
theorem d5_4 : decode prog_8_method_4_code 4 = .ok (.aload_n 1, 1) := by decide +kernel
theorem d5_5 : decode prog_8_method_4_code 5 = .ok (.getfield 7, 3) := by decide +kernel
theorem d5_8 : decode prog_8_method_4_code 8 = .ok (.invokestatic 16, 3) := by decide +kernel
theorem own_pd21 : parseMethodDescriptor "(II)I" = some ⟨[.int, .int], some .int⟩ := by decide +kernel
theorem d5_11 : decode prog_8_method_4_code 11 = .ok (.istore_n 2, 1) := by decide +kernel
theorem d5_12 : decode prog_8_method_4_code 12 = .ok (.iload_n 2, 1) := by decide +kernel
theorem d5_13 : decode prog_8_method_4_code 13 = .ok (.ifCond .eq 7, 3) := by decide +kernel
theorem d5_20 : decode prog_8_method_4_code 20 = .ok (.aload_n 0, 1) := by decide +kernel
theorem d5_21 : decode prog_8_method_4_code 21 = .ok (.getfield 13, 3) := by decide +kernel
theorem d5_24 : decode prog_8_method_4_code 24 = .ok (.aload_n 1, 1) := by decide +kernel
theorem d5_25 : decode prog_8_method_4_code 25 = .ok (.getfield 13, 3) := by decide +kernel
theorem d5_28 : decode prog_8_method_4_code 28 = .ok (.invokestatic 16, 3) := by decide +kernel
theorem d5_31 : decode prog_8_method_4_code 31 = .ok (.ireturn, 1) := by decide +kernel
theorem d5_16 : decode prog_8_method_4_code 16 = .ok (.iload_n 2, 1) := by decide +kernel
theorem d5_17 : decode prog_8_method_4_code 17 = .ok (.goto 14, 3) := by decide +kernel
theorem ef_rm5 (m : MethodId) (x0 : Addr) (x1 : Addr) : entryFrame m #[(.ref x0), (.ref x1)] 3 = mkF m 0 #[.val (.ref x0), .val (.ref x1), .unset] [] := by first | (simp [entryFrame, mkF, argsToLocals, Value.category]; done) | rfl
def own_Q5 (l1 c1 l2 c2 : Int32) (h0 : Heap) (n0 : Nat) (v : Option Value) (h : Heap) (L : List Loc) : Prop := v = some (.int (own_cto l1 c1 l2 c2)) ∧ Fr n0 L ∧ h = h0
set_option maxRecDepth 65536 in
set_option maxHeartbeats 40000000 in
theorem rm5 (l : Launch) (Z : State) (a0 : Array Value) (hw : ∀ d ∈ tables_1, d.before a0 Z = true) (ws : List Jvm.Cond) (a1 a2 : Addr) (l1 c1 l2 c2 : Int32) (h0 : Heap) (n0 : Nat) (Z0 : n0 ≤ h0.size) (F_line_a1 : Fld Z h0 a1 "com/example/hinta/hinta/input/Position" "line" "I" (.int l1)) (F_column_a1 : Fld Z h0 a1 "com/example/hinta/hinta/input/Position" "column" "I" (.int c1)) (F_line_a2 : Fld Z h0 a2 "com/example/hinta/hinta/input/Position" "line" "I" (.int l2)) (F_column_a2 : Fld Z h0 a2 "com/example/hinta/hinta/input/Position" "column" "I" (.int c2)) : own_Met l Z (⟨"com/example/hinta/hinta/input/Position", "compareTo", "(Lcom/example/hinta/hinta/input/Position;)I"⟩ : MethodName) prog_8_method_4_code 3 (some .int) ws (own_R 1 0 0 13) #[(.ref a1), (.ref a2)] h0 (own_Q5 l1 c1 l2 c2 h0 n0) := by
  refine own_enter n0 own_pn15 (fun m => ef_rm5 m a1 a2 ) (fun p e s m below meth c s₁ hx hby hlk hml hret hown hnm hZ X0 e0 N0 => ?_)
  show own_Fin p e below s _ _ _ s₁ (mkF m 0 #[.val (.ref a1), .val (.ref a2), .unset] [])
  refine own_by (fun _ k => XS.aloadN X0.here hx rfl (hb hby d5_0) rfl rfl k) ?_
  show own_Fin p e below s _ _ _ s₁ (mkF m 1 #[.val (.ref a1), .val (.ref a2), .unset] [(.ref a1)])
  obtain ⟨T3, X3, e3, st3⟩ := getF X0 hx hZ hown (host := "") (Or.inl (hw _ (List.mem_of_getElem? (i := 9) rfl))) Via.refl e0 F_line_a1 (g := (mkF m 1 #[.val (.ref a1), .val (.ref a2), .unset] [(.ref a1)])) rfl rfl (hb hby d5_1)
  refine own_by (fun _ k => st3 _ k) ?_
  show own_Fin p e below s _ _ _ T3 (mkF m 4 #[.val (.ref a1), .val (.ref a2), .unset] [(.int l1)])
  refine own_by (fun _ k => XS.aloadN X3.here hx rfl (hb hby d5_4) rfl rfl k) ?_
  show own_Fin p e below s _ _ _ T3 (mkF m 5 #[.val (.ref a1), .val (.ref a2), .unset] [(.ref a2), (.int l1)])
  obtain ⟨T4, X4, e4, st4⟩ := getF X3 hx hZ hown (host := "") (Or.inl (hw _ (List.mem_of_getElem? (i := 9) rfl))) Via.refl e3 F_line_a2 (g := (mkF m 5 #[.val (.ref a1), .val (.ref a2), .unset] [(.ref a2), (.int l1)])) rfl rfl (hb hby d5_5)
  refine own_by (fun _ k => st4 _ k) ?_
  show own_Fin p e below s _ _ _ T4 (mkF m 8 #[.val (.ref a1), .val (.ref a2), .unset] [(.int l2), (.int l1)])
  obtain ⟨_, _, ⟨T5, L5, k5, n5⟩, -, X5, ⟨Lc5, hQ5, l5, y5, z5⟩, st5⟩ := Jvm.LawKit.callS X4 hx (y := (⟨"java/lang/Integer", "compare", "(II)I"⟩ : MethodName)) hown (mvT hZ (hw _ (List.mem_of_getElem? (i := 30) rfl))) (mvT hZ (hw _ (List.mem_of_getElem? (i := 31) rfl))) (mvT hZ (hw _ (List.mem_of_getElem? (i := 32) rfl))) (mvT hZ (hw _ (List.mem_of_getElem? (i := 33) rfl))) (by decide) (backOf (W := 0) (rm6 l Z a0 hw [] l1 l2 h0 n0 Z0 ) hZ (hw _ (List.mem_of_getElem? (i := 33) rfl)) (hw _ (List.mem_of_getElem? (i := 32) rfl)) (by decide) (by decide)) (g := (mkF m 8 #[.val (.ref a1), .val (.ref a2), .unset] [(.int l2), (.int l1)])) rfl (by rw [hml]; rfl) (argsL := [(.int l1), (.int l2)]) (rest := []) (lenOf own_pd21 rfl) rfl (by show 2 * 0 + _ ≤ _; exact Nat.le_of_eq rfl) (hb hby d5_8) (fun _ _ => ⟨rfl, e4, (by decide : 0 + 0 ≤ _), (by decide : 0 + 0 ≤ _)⟩)
  dsimp only [Pt.U, Pt.locs, Pt.cells, Pt.slots] at X5 l5 y5 z5 st5 hQ5
  subst l5 y5 z5
  obtain ⟨rfl, Nq5, eh5⟩ := hQ5
  have N5 := Fr.app N0 Nq5
  refine own_by (fun _ k => st5 _ k) ?_
  show own_Fin p e below s _ _ _ T5 (mkF m 11 #[.val (.ref a1), .val (.ref a2), .unset] [(.int (own_cmp l1 l2))])
  refine own_by (fun _ k => XS.istoreN X5.here hx rfl (hb hby d5_11) rfl (l' := #[.val (.ref a1), .val (.ref a2), .val (.int (own_cmp l1 l2))]) rfl (XS.iloadN X5.here hx rfl (hb hby d5_12) rfl k)) ?_
  show own_Fin p e below s _ _ _ T5 (mkF m 13 #[.val (.ref a1), .val (.ref a2), .val (.int (own_cmp l1 l2))] [(.int (own_cmp l1 l2))])
  by_cases hc13_6 : (own_cmp l1 l2) = (0 : Int32)
  · show own_Fin p e below s _ _ _ T5 (mkF m 13 #[.val (.ref a1), .val (.ref a2), .val (.int (own_cmp l1 l2))] [(.int (own_cmp l1 l2))])
    refine own_by (fun _ k => XS.ifYes X5.here hx rfl (pc0 := 13) (pc' := 20) rfl (hb hby d5_13) rfl ((if0 _ _).trans (teq hc13_6).1) (by decide) (by decide) k) ?_
    show own_Fin p e below s _ _ _ T5 (mkF m 20 #[.val (.ref a1), .val (.ref a2), .val (.int (own_cmp l1 l2))] [])
    refine own_by (fun _ k => XS.aloadN X5.here hx rfl (hb hby d5_20) rfl rfl k) ?_
    show own_Fin p e below s _ _ _ T5 (mkF m 21 #[.val (.ref a1), .val (.ref a2), .val (.int (own_cmp l1 l2))] [(.ref a1)])
    obtain ⟨T7, X7, e7, st7⟩ := getF X5 hx hZ hown (host := "") (Or.inl (hw _ (List.mem_of_getElem? (i := 11) rfl))) Via.refl eh5 F_column_a1 (g := (mkF m 21 #[.val (.ref a1), .val (.ref a2), .val (.int (own_cmp l1 l2))] [(.ref a1)])) rfl rfl (hb hby d5_21)
    refine own_by (fun _ k => st7 _ k) ?_
    show own_Fin p e below s _ _ _ T7 (mkF m 24 #[.val (.ref a1), .val (.ref a2), .val (.int (own_cmp l1 l2))] [(.int c1)])
    refine own_by (fun _ k => XS.aloadN X7.here hx rfl (hb hby d5_24) rfl rfl k) ?_
    show own_Fin p e below s _ _ _ T7 (mkF m 25 #[.val (.ref a1), .val (.ref a2), .val (.int (own_cmp l1 l2))] [(.ref a2), (.int c1)])
    obtain ⟨T8, X8, e8, st8⟩ := getF X7 hx hZ hown (host := "") (Or.inl (hw _ (List.mem_of_getElem? (i := 11) rfl))) Via.refl e7 F_column_a2 (g := (mkF m 25 #[.val (.ref a1), .val (.ref a2), .val (.int (own_cmp l1 l2))] [(.ref a2), (.int c1)])) rfl rfl (hb hby d5_25)
    refine own_by (fun _ k => st8 _ k) ?_
    show own_Fin p e below s _ _ _ T8 (mkF m 28 #[.val (.ref a1), .val (.ref a2), .val (.int (own_cmp l1 l2))] [(.int c2), (.int c1)])
    obtain ⟨_, _, ⟨T9, L9, k9, n9⟩, -, X9, ⟨Lc9, hQ9, l9, y9, z9⟩, st9⟩ := Jvm.LawKit.callS X8 hx (y := (⟨"java/lang/Integer", "compare", "(II)I"⟩ : MethodName)) hown (mvT hZ (hw _ (List.mem_of_getElem? (i := 30) rfl))) (mvT hZ (hw _ (List.mem_of_getElem? (i := 31) rfl))) (mvT hZ (hw _ (List.mem_of_getElem? (i := 32) rfl))) (mvT hZ (hw _ (List.mem_of_getElem? (i := 33) rfl))) (by decide) (backOf (W := 0) (rm6 l Z a0 hw [] c1 c2 h0 n0 Z0 ) hZ (hw _ (List.mem_of_getElem? (i := 33) rfl)) (hw _ (List.mem_of_getElem? (i := 32) rfl)) (by decide) (by decide)) (g := (mkF m 28 #[.val (.ref a1), .val (.ref a2), .val (.int (own_cmp l1 l2))] [(.int c2), (.int c1)])) rfl (by rw [hml]; rfl) (argsL := [(.int c1), (.int c2)]) (rest := []) (lenOf own_pd21 rfl) rfl (by show 2 * 0 + _ ≤ _; exact Nat.le_of_eq rfl) (hb hby d5_28) (fun _ _ => ⟨rfl, e8, (by decide : 0 + 0 ≤ _), (by decide : 0 + 0 ≤ _)⟩)
    dsimp only [Pt.U, Pt.locs, Pt.cells, Pt.slots] at X9 l9 y9 z9 st9 hQ9
    subst l9 y9 z9
    obtain ⟨rfl, Nq9, eh9⟩ := hQ9
    have N9 := Fr.app N5 Nq9
    refine own_by (fun _ k => st9 _ k) ?_
    show own_Fin p e below s _ _ _ T9 (mkF m 31 #[.val (.ref a1), .val (.ref a2), .val (.int (own_cmp l1 l2))] [(.int (own_cmp c1 c2))])
    exact own_retI X9 hx hlk hret (hb hby d5_31) ⟨own_vi (by show (own_cmp c1 c2) = _; simp [own_cto, hc13_6]), N9, eh9⟩ (by decide) (by decide)
  · show own_Fin p e below s _ _ _ T5 (mkF m 13 #[.val (.ref a1), .val (.ref a2), .val (.int (own_cmp l1 l2))] [(.int (own_cmp l1 l2))])
    refine own_by (fun _ k => XS.ifNo X5.here hx rfl (hb hby d5_13) rfl ((if0 _ _).trans (feq hc13_6).1) k) ?_
    show own_Fin p e below s _ _ _ T5 (mkF m 16 #[.val (.ref a1), .val (.ref a2), .val (.int (own_cmp l1 l2))] [])
    refine own_by (fun _ k => XS.iloadN X5.here hx rfl (hb hby d5_16) rfl (XS.goto X5.here hx rfl (pc0 := 17) (pc' := 31) rfl (hb hby d5_17) (by decide) (by decide) k)) ?_
    show own_Fin p e below s _ _ _ T5 (mkF m 31 #[.val (.ref a1), .val (.ref a2), .val (.int (own_cmp l1 l2))] [(.int (own_cmp l1 l2))])
    exact own_retI X5 hx hlk hret (hb hby d5_31) ⟨own_vi (by show (own_cmp l1 l2) = _; simp [own_cto, hc13_6]), N5, eh5⟩ (by decide) (by decide)
theorem d4_0 : decode prog_8_method_5_code 0 = .ok (.aload_n 1, 1) := by decide +kernel
theorem d4_1 : decode prog_8_method_5_code 1 = .ok (.instanceof 8, 3) := by decide +kernel
theorem d4_4 : decode prog_8_method_5_code 4 = .ok (.ifCond .eq 18, 3) := by decide +kernel
theorem d4_7 : decode prog_8_method_5_code 7 = .ok (.aload_n 0, 1) := by decide +kernel
theorem d4_8 : decode prog_8_method_5_code 8 = .ok (.aload_n 1, 1) := by decide +kernel
theorem d4_9 : decode prog_8_method_5_code 9 = .ok (.checkcast 8, 3) := by decide +kernel
theorem d4_12 : decode prog_8_method_5_code 12 = .ok (.invokevirtual 22, 3) := by decide +kernel
theorem own_pd41 : parseMethodDescriptor "(Lcom/example/hinta/hinta/input/Position;)I" = some ⟨[(.object "com/example/hinta/hinta/input/Position")], some .int⟩ := by decide +kernel
theorem d4_15 : decode prog_8_method_5_code 15 = .ok (.ifCond .ne 7, 3) := by decide +kernel
theorem d4_18 : decode prog_8_method_5_code 18 = .ok (.iconst 1, 1) := by decide +kernel
theorem d4_19 : decode prog_8_method_5_code 19 = .ok (.goto 4, 3) := by decide +kernel
theorem d4_23 : decode prog_8_method_5_code 23 = .ok (.ireturn, 1) := by decide +kernel
theorem d4_22 : decode prog_8_method_5_code 22 = .ok (.iconst 0, 1) := by decide +kernel
theorem ef_rm4 (m : MethodId) (x0 : Addr) (x1 : Addr) : entryFrame m #[(.ref x0), (.ref x1)] 2 = mkF m 0 #[.val (.ref x0), .val (.ref x1)] [] := by first | (simp [entryFrame, mkF, argsToLocals, Value.category]; done) | rfl
def own_Q4 (l1 c1 l2 c2 : Int32) (h0 : Heap) (n0 : Nat) (v : Option Value) (h : Heap) (L : List Loc) : Prop := v = some (.int (own_eqv l1 c1 l2 c2)) ∧ Fr n0 L ∧ h = h0
set_option maxRecDepth 65536 in
set_option maxHeartbeats 40000000 in
theorem rm4 (l : Launch) (Z : State) (a0 : Array Value) (hw : ∀ d ∈ tables_1, d.before a0 Z = true) (ws : List Jvm.Cond) (a1 a2 : Addr) (l1 c1 l2 c2 : Int32) (h0 : Heap) (n0 : Nat) (Z0 : n0 ≤ h0.size) (E_a1 : Exa Z h0 a1 "com/example/hinta/hinta/input/Position") (E_a2 : Exa Z h0 a2 "com/example/hinta/hinta/input/Position") (F_line_a1 : Fld Z h0 a1 "com/example/hinta/hinta/input/Position" "line" "I" (.int l1)) (F_column_a1 : Fld Z h0 a1 "com/example/hinta/hinta/input/Position" "column" "I" (.int c1)) (F_line_a2 : Fld Z h0 a2 "com/example/hinta/hinta/input/Position" "line" "I" (.int l2)) (F_column_a2 : Fld Z h0 a2 "com/example/hinta/hinta/input/Position" "column" "I" (.int c2)) : own_Met l Z (⟨"com/example/hinta/hinta/input/Position", "equals", "(Ljava/lang/Object;)Z"⟩ : MethodName) prog_8_method_5_code 2 (some .boolean) ws (own_R 2 0 0 40) #[(.ref a1), (.ref a2)] h0 (own_Q4 l1 c1 l2 c2 h0 n0) := by
  refine own_enter n0 own_pn15 (fun m => ef_rm4 m a1 a2 ) (fun p e s m below meth c s₁ hx hby hlk hml hret hown hnm hZ X0 e0 N0 => ?_)
  show own_Fin p e below s _ _ _ s₁ (mkF m 0 #[.val (.ref a1), .val (.ref a2)] [])
  refine own_by (fun _ k => XS.aloadN X0.here hx rfl (hb hby d4_0) rfl rfl k) ?_
  show own_Fin p e below s _ _ _ s₁ (mkF m 1 #[.val (.ref a1), .val (.ref a2)] [(.ref a2)])
  obtain ⟨T10, X10, e10, st10⟩ := instY X0 hx hZ hown (hw _ (List.mem_of_getElem? (i := 23) rfl)) e0 (Ins.self E_a2) (g := (mkF m 1 #[.val (.ref a1), .val (.ref a2)] [(.ref a2)])) rfl rfl (hb hby d4_1)
  refine own_by (fun _ k => st10 _ k) ?_
  show own_Fin p e below s _ _ _ T10 (mkF m 4 #[.val (.ref a1), .val (.ref a2)] [(.int (1 : Int32))])
  refine own_by (fun _ k => XS.ifNo X10.here hx rfl (hb hby d4_4) rfl ((if0 _ _).trans (feq (by decide : ¬ ((1 : Int32) = (0 : Int32)))).1) k) ?_
  show own_Fin p e below s _ _ _ T10 (mkF m 7 #[.val (.ref a1), .val (.ref a2)] [])
  refine own_by (fun _ k => XS.aloadN X10.here hx rfl (hb hby d4_7) rfl rfl (XS.aloadN X10.here hx rfl (hb hby d4_8) rfl rfl k)) ?_
  show own_Fin p e below s _ _ _ T10 (mkF m 9 #[.val (.ref a1), .val (.ref a2)] [(.ref a2), (.ref a1)])
  obtain ⟨T11, X11, e11, st11⟩ := castY X10 hx hZ hown (hw _ (List.mem_of_getElem? (i := 23) rfl)) e10 (Ins.self E_a2) (g := (mkF m 9 #[.val (.ref a1), .val (.ref a2)] [(.ref a2), (.ref a1)])) rfl rfl (hb hby d4_9)
  refine own_by (fun _ k => st11 _ k) ?_
  show own_Fin p e below s _ _ _ T11 (mkF m 12 #[.val (.ref a1), .val (.ref a2)] [(.ref a2), (.ref a1)])
  obtain ⟨cq12, kq12, q12a, q12b, q12c⟩ := isOf hZ e11 E_a1
  obtain ⟨_, _, ⟨T12, L12, k12, n12⟩, -, X12, ⟨Lc12, hQ12, l12, y12, z12⟩, st12⟩ := X11.virtualBack hx (y := (⟨"com/example/hinta/hinta/input/Position", "compareTo", "(Lcom/example/hinta/hinta/input/Position;)I"⟩ : MethodName)) (z := (⟨"com/example/hinta/hinta/input/Position", "compareTo", "(Lcom/example/hinta/hinta/input/Position;)I"⟩ : MethodName)) hown (mvT hZ (hw _ (List.mem_of_getElem? (i := 25) rfl))) (mvT hZ (hw _ (List.mem_of_getElem? (i := 26) rfl))) (notFace_of_selects (args := #[]) (mvT hZ (hw _ (List.mem_of_getElem? (i := 28) rfl)))) (mvT hZ (hw _ (List.mem_of_getElem? (i := 28) rfl))) (mvT hZ (hw _ (List.mem_of_getElem? (i := 27) rfl))) (by decide) (backOf (W := 0) (rm5 l Z a0 hw [] a1 a2 l1 c1 l2 c2 h0 n0 Z0 F_line_a1 F_column_a1 F_line_a2 F_column_a2) hZ (hw _ (List.mem_of_getElem? (i := 29) rfl)) (hw _ (List.mem_of_getElem? (i := 2) rfl)) (by decide) (by decide)) q12a q12c (g := (mkF m 12 #[.val (.ref a1), .val (.ref a2)] [(.ref a2), (.ref a1)])) rfl (by rw [hml]; rfl) (Steps.refl _) (argsL := [(.ref a2)]) (rest := []) (lenOf own_pd41 rfl) rfl (by show 2 * 0 + _ ≤ _; exact Nat.le_of_eq rfl) (hb hby d4_12) (fun _ _ => ⟨rfl, e11, (by decide : 0 + 0 ≤ _), (by decide : 0 + 0 ≤ _)⟩)
  dsimp only [Pt.U, Pt.locs, Pt.cells, Pt.slots] at X12 l12 y12 z12 st12 hQ12
  subst l12 y12 z12
  obtain ⟨rfl, Nq12, eh12⟩ := hQ12
  have N12 := Fr.app N0 Nq12
  refine own_by (fun _ k => st12.trans k) ?_
  show own_Fin p e below s _ _ _ T12 (mkF m 15 #[.val (.ref a1), .val (.ref a2)] [(.int (own_cto l1 c1 l2 c2))])
  by_cases hc15_13 : (own_cto l1 c1 l2 c2) = (0 : Int32)
  · show own_Fin p e below s _ _ _ T12 (mkF m 15 #[.val (.ref a1), .val (.ref a2)] [(.int (own_cto l1 c1 l2 c2))])
    refine own_by (fun _ k => XS.ifNo X12.here hx rfl (hb hby d4_15) rfl ((if0 _ _).trans (teq hc15_13).2) k) ?_
    show own_Fin p e below s _ _ _ T12 (mkF m 18 #[.val (.ref a1), .val (.ref a2)] [])
    refine own_by (fun _ k => XS.iconst X12.here hx rfl (hb hby d4_18) (XS.goto X12.here hx rfl (pc0 := 19) (pc' := 23) rfl (hb hby d4_19) (by decide) (by decide) k)) ?_
    show own_Fin p e below s _ _ _ T12 (mkF m 23 #[.val (.ref a1), .val (.ref a2)] [(.int (1 : Int32))])
    exact own_retZ X12 hx hlk (t := .boolean) hret (by simp) (hb hby d4_23) ⟨own_vi (by show (1 : Int32) = _; simp [own_eqv, hc15_13]), N12, eh12⟩ (by decide) (by decide)
  · show own_Fin p e below s _ _ _ T12 (mkF m 15 #[.val (.ref a1), .val (.ref a2)] [(.int (own_cto l1 c1 l2 c2))])
    refine own_by (fun _ k => XS.ifYes X12.here hx rfl (pc0 := 15) (pc' := 22) rfl (hb hby d4_15) rfl ((if0 _ _).trans (feq hc15_13).2) (by decide) (by decide) k) ?_
    show own_Fin p e below s _ _ _ T12 (mkF m 22 #[.val (.ref a1), .val (.ref a2)] [])
    refine own_by (fun _ k => XS.iconst X12.here hx rfl (hb hby d4_22) k) ?_
    show own_Fin p e below s _ _ _ T12 (mkF m 23 #[.val (.ref a1), .val (.ref a2)] [(.int (0 : Int32))])
    exact own_retZ X12 hx hlk (t := .boolean) hret (by simp) (hb hby d4_23) ⟨own_vi (by show (0 : Int32) = _; simp [own_eqv, hc15_13]), N12, eh12⟩ (by decide) (by decide)
theorem d3_0 : decode prog_8_method_6_code 0 = .ok (.bipush 31, 2) := by decide +kernel
theorem d3_2 : decode prog_8_method_6_code 2 = .ok (.aload_n 0, 1) := by decide +kernel
theorem d3_3 : decode prog_8_method_6_code 3 = .ok (.getfield 7, 3) := by decide +kernel
theorem d3_6 : decode prog_8_method_6_code 6 = .ok (.imul, 1) := by decide +kernel
theorem d3_7 : decode prog_8_method_6_code 7 = .ok (.aload_n 0, 1) := by decide +kernel
theorem d3_8 : decode prog_8_method_6_code 8 = .ok (.getfield 13, 3) := by decide +kernel
theorem d3_11 : decode prog_8_method_6_code 11 = .ok (.iadd, 1) := by decide +kernel
theorem d3_12 : decode prog_8_method_6_code 12 = .ok (.ireturn, 1) := by decide +kernel
theorem ef_rm3 (m : MethodId) (x0 : Addr) : entryFrame m #[(.ref x0)] 1 = mkF m 0 #[.val (.ref x0)] [] := by first | (simp [entryFrame, mkF, argsToLocals, Value.category]; done) | rfl
def own_Q3 (l1 c1 : Int32) (h0 : Heap) (n0 : Nat) (v : Option Value) (h : Heap) (L : List Loc) : Prop := v = some (.int (((31 : Int32) * l1) + c1)) ∧ Fr n0 L ∧ h = h0
set_option maxRecDepth 65536 in
set_option maxHeartbeats 40000000 in
theorem rm3 (l : Launch) (Z : State) (a0 : Array Value) (hw : ∀ d ∈ tables_1, d.before a0 Z = true) (ws : List Jvm.Cond) (a1 : Addr) (l1 c1 : Int32) (h0 : Heap) (n0 : Nat) (Z0 : n0 ≤ h0.size) (F_line_a1 : Fld Z h0 a1 "com/example/hinta/hinta/input/Position" "line" "I" (.int l1)) (F_column_a1 : Fld Z h0 a1 "com/example/hinta/hinta/input/Position" "column" "I" (.int c1)) : own_Met l Z (⟨"com/example/hinta/hinta/input/Position", "hashCode", "()I"⟩ : MethodName) prog_8_method_6_code 1 (some .int) ws (own_R 0 0 0 0) #[(.ref a1)] h0 (own_Q3 l1 c1 h0 n0) := by
  refine own_enter n0 own_pn15 (fun m => ef_rm3 m a1 ) (fun p e s m below meth c s₁ hx hby hlk hml hret hown hnm hZ X0 e0 N0 => ?_)
  show own_Fin p e below s _ _ _ s₁ (mkF m 0 #[.val (.ref a1)] [])
  refine own_by (fun _ k => XS.bipush X0.here hx rfl (hb hby d3_0) (XS.aloadN X0.here hx rfl (hb hby d3_2) rfl rfl k)) ?_
  show own_Fin p e below s _ _ _ s₁ (mkF m 3 #[.val (.ref a1)] [(.ref a1), (.int (31 : Int32))])
  obtain ⟨T14, X14, e14, st14⟩ := getF X0 hx hZ hown (host := "") (Or.inl (hw _ (List.mem_of_getElem? (i := 9) rfl))) Via.refl e0 F_line_a1 (g := (mkF m 3 #[.val (.ref a1)] [(.ref a1), (.int (31 : Int32))])) rfl rfl (hb hby d3_3)
  refine own_by (fun _ k => st14 _ k) ?_
  show own_Fin p e below s _ _ _ T14 (mkF m 6 #[.val (.ref a1)] [(.int l1), (.int (31 : Int32))])
  refine own_by (fun _ k => XS.imul X14.here hx rfl (hb hby d3_6) rfl (XS.aloadN X14.here hx rfl (hb hby d3_7) rfl rfl k)) ?_
  show own_Fin p e below s _ _ _ T14 (mkF m 8 #[.val (.ref a1)] [(.ref a1), (.int ((31 : Int32) * l1))])
  obtain ⟨T15, X15, e15, st15⟩ := getF X14 hx hZ hown (host := "") (Or.inl (hw _ (List.mem_of_getElem? (i := 11) rfl))) Via.refl e14 F_column_a1 (g := (mkF m 8 #[.val (.ref a1)] [(.ref a1), (.int ((31 : Int32) * l1))])) rfl rfl (hb hby d3_8)
  refine own_by (fun _ k => st15 _ k) ?_
  show own_Fin p e below s _ _ _ T15 (mkF m 11 #[.val (.ref a1)] [(.int c1), (.int ((31 : Int32) * l1))])
  refine own_by (fun _ k => XS.iadd X15.here hx rfl (hb hby d3_11) rfl k) ?_
  show own_Fin p e below s _ _ _ T15 (mkF m 12 #[.val (.ref a1)] [(.int (((31 : Int32) * l1) + c1))])
  exact own_retI X15 hx hlk hret (hb hby d3_12) ⟨rfl, N0, e15⟩ (by decide) (by decide)
theorem d1_0 : decode prog_8_method_1_code 0 = .ok (.aload_n 0, 1) := by decide +kernel
theorem d1_1 : decode prog_8_method_1_code 1 = .ok (.invokespecial 1, 3) := by decide +kernel
theorem d1_4 : decode prog_8_method_1_code 4 = .ok (.aload_n 0, 1) := by decide +kernel
theorem d1_5 : decode prog_8_method_1_code 5 = .ok (.iload_n 1, 1) := by decide +kernel
theorem d1_6 : decode prog_8_method_1_code 6 = .ok (.putfield 7, 3) := by decide +kernel
theorem d1_9 : decode prog_8_method_1_code 9 = .ok (.aload_n 0, 1) := by decide +kernel
theorem d1_10 : decode prog_8_method_1_code 10 = .ok (.iload_n 2, 1) := by decide +kernel
theorem d1_11 : decode prog_8_method_1_code 11 = .ok (.putfield 13, 3) := by decide +kernel
theorem d1_14 : decode prog_8_method_1_code 14 = .ok (.return_, 1) := by decide +kernel
theorem ef_rm1 (m : MethodId) (x0 : Addr) (x1 : Int32) (x2 : Int32) : entryFrame m #[(.ref x0), (.int x1), (.int x2)] 3 = mkF m 0 #[.val (.ref x0), .val (.int x1), .val (.int x2)] [] := by first | (simp [entryFrame, mkF, argsToLocals, Value.category]; done) | rfl
def own_Q1 (Z : State) (a1 : Addr) (p2 p3 : Int32) (h0 : Heap) (n0 : Nat) (v : Option Value) (h : Heap) (L : List Loc) : Prop := v = none ∧ Fr n0 L ∧ Keep h0 h [a1] ∧ Fld Z h a1 "com/example/hinta/hinta/input/Position" "line" "I" (.int p2) ∧ Fld Z h a1 "com/example/hinta/hinta/input/Position" "column" "I" (.int p3)
set_option maxRecDepth 65536 in
set_option maxHeartbeats 40000000 in
theorem rm1 (l : Launch) (Z : State) (a0 : Array Value) (hw : ∀ d ∈ tables_1, d.before a0 Z = true) (ws : List Jvm.Cond) (a1 : Addr) (p2 p3 : Int32) (u1 u2 : Value) (h0 : Heap) (n0 : Nat) (Z0 : n0 ≤ h0.size) (E_a1 : Exa Z h0 a1 "com/example/hinta/hinta/input/Position") (F_line_a1 : Fld Z h0 a1 "com/example/hinta/hinta/input/Position" "line" "I" u1) (F_column_a1 : Fld Z h0 a1 "com/example/hinta/hinta/input/Position" "column" "I" u2) (g_a1 : n0 ≤ a1) : own_Met l Z (⟨"com/example/hinta/hinta/input/Position", "<init>", "(II)V"⟩ : MethodName) prog_8_method_1_code 3 none ws (own_R 1 0 0 12) #[(.ref a1), (.int p2), (.int p3)] h0 (own_Q1 Z a1 p2 p3 h0 n0) := by
  refine own_enter n0 own_pn15 (fun m => ef_rm1 m a1 p2 p3 ) (fun p e s m below meth c s₁ hx hby hlk hml hret hown hnm hZ X0 e0 N0 => ?_)
  show own_Fin p e below s _ _ _ s₁ (mkF m 0 #[.val (.ref a1), .val (.int p2), .val (.int p3)] [])
  have Kp16 : Keep h0 h0 [a1] := Keep.refl h0 _
  refine own_by (fun _ k => XS.aloadN X0.here hx rfl (hb hby d1_0) rfl rfl k) ?_
  show own_Fin p e below s _ _ _ s₁ (mkF m 1 #[.val (.ref a1), .val (.int p2), .val (.int p3)] [(.ref a1)])
  obtain ⟨T17, X17, e17, st17⟩ := initO X0 hx hZ hown (hw _ (List.mem_of_getElem? (i := 6) rfl)) (hw _ (List.mem_of_getElem? (i := 7) rfl)) (hw _ (List.mem_of_getElem? (i := 8) rfl)) e0 (g := (mkF m 1 #[.val (.ref a1), .val (.int p2), .val (.int p3)] [(.ref a1)])) rfl (by rw [hml]; rfl) rfl (hb hby d1_1) (by decide) (W := 0) (by show 2 * 0 + _ ≤ _; exact Nat.le_of_eq rfl) (by decide)
  refine own_by (fun _ k => st17 _ k) ?_
  show own_Fin p e below s _ _ _ T17 (mkF m 4 #[.val (.ref a1), .val (.int p2), .val (.int p3)] [])
  refine own_by (fun _ k => XS.aloadN X17.here hx rfl (hb hby d1_4) rfl rfl (XS.iloadN X17.here hx rfl (hb hby d1_5) rfl k)) ?_
  show own_Fin p e below s _ _ _ T17 (mkF m 6 #[.val (.ref a1), .val (.int p2), .val (.int p3)] [(.int p2), (.ref a1)])
  obtain ⟨T18, h18, X18, e18, W18, st18⟩ := putF X17 hx hZ hown (host := "") (Or.inl (hw _ (List.mem_of_getElem? (i := 9) rfl))) Via.refl e17 F_line_a1 E_a1 (Or.inr ⟨(hw _ (List.mem_of_getElem? (i := 10) rfl)), rfl, hnm⟩) (hw _ (List.mem_of_getElem? (i := 1) rfl)) (ty := .int) (by decide) rfl rfl (g := (mkF m 6 #[.val (.ref a1), .val (.int p2), .val (.int p3)] [(.int p2), (.ref a1)])) rfl rfl (hb hby d1_6)
  refine own_by (fun _ k => st18 _ k) ?_
  have Fw18 : Fld Z h18 a1 "com/example/hinta/hinta/input/Position" "line" "I" (.int p2) := F_line_a1.same W18
  have Kp18 : Keep h0 h18 [a1] := Kp16.wr W18 (Or.inl (List.mem_of_getElem? (i := 0) rfl))
  have Zs18 : n0 ≤ h18.size := Nat.le_trans Z0 (Keep.of_wr W18).1
  have N18 := Fr.snoc X18 N0 g_a1
  have f19_0 : Exa Z h18 a1 "com/example/hinta/hinta/input/Position" := E_a1.wr W18
  have f19_2 : Fld Z h18 a1 "com/example/hinta/hinta/input/Position" "column" "I" u2 := F_column_a1.other W18 (Or.inr (slot_ne (Or.inr (hw _ (List.mem_of_getElem? (i := 12) rfl))) (Or.inr (hw _ (List.mem_of_getElem? (i := 10) rfl))) (by decide) (t := .int) (t' := .int) (by decide) (by decide)))
  show own_Fin p e below s _ _ _ T18 (mkF m 9 #[.val (.ref a1), .val (.int p2), .val (.int p3)] [])
  refine own_by (fun _ k => XS.aloadN X18.here hx rfl (hb hby d1_9) rfl rfl (XS.iloadN X18.here hx rfl (hb hby d1_10) rfl k)) ?_
  show own_Fin p e below s _ _ _ T18 (mkF m 11 #[.val (.ref a1), .val (.int p2), .val (.int p3)] [(.int p3), (.ref a1)])
  obtain ⟨T20, h20, X20, e20, W20, st20⟩ := putF X18 hx hZ hown (host := "") (Or.inl (hw _ (List.mem_of_getElem? (i := 11) rfl))) Via.refl e18 f19_2 f19_0 (Or.inr ⟨(hw _ (List.mem_of_getElem? (i := 12) rfl)), rfl, hnm⟩) (hw _ (List.mem_of_getElem? (i := 1) rfl)) (ty := .int) (by decide) rfl rfl (g := (mkF m 11 #[.val (.ref a1), .val (.int p2), .val (.int p3)] [(.int p3), (.ref a1)])) rfl rfl (hb hby d1_11)
  refine own_by (fun _ k => st20 _ k) ?_
  have Fw20 : Fld Z h20 a1 "com/example/hinta/hinta/input/Position" "column" "I" (.int p3) := f19_2.same W20
  have Kp20 : Keep h0 h20 [a1] := Kp18.wr W20 (Or.inl (List.mem_of_getElem? (i := 0) rfl))
  have Zs20 : n0 ≤ h20.size := Nat.le_trans Zs18 (Keep.of_wr W20).1
  have N20 := Fr.snoc X20 N18 g_a1
  have f21_0 : Exa Z h20 a1 "com/example/hinta/hinta/input/Position" := f19_0.wr W20
  have f21_2 : Fld Z h20 a1 "com/example/hinta/hinta/input/Position" "line" "I" (.int p2) := Fw18.other W20 (Or.inr (slot_ne (Or.inr (hw _ (List.mem_of_getElem? (i := 10) rfl))) (Or.inr (hw _ (List.mem_of_getElem? (i := 12) rfl))) (by decide) (t := .int) (t' := .int) (by decide) (by decide)))
  show own_Fin p e below s _ _ _ T20 (mkF m 14 #[.val (.ref a1), .val (.int p2), .val (.int p3)] [])
  exact own_retV X20 hx hlk hret (hb hby d1_14) (by rw [e20]; exact ⟨rfl, N20, Kp20, f21_2, Fw20⟩) (by decide) (by decide)
theorem own_pn67 : plainName "com/example/hinta/hinta/input/PositionHashCodePinLaw" = true := by first | (simp [plainName, overriddenIn]; done) | decide +kernel
theorem own_pd68 : parseMethodDescriptor "(II)V" = some ⟨[.int, .int], none⟩ := by decide +kernel
theorem own_pd69 : parseMethodDescriptor "()I" = some ⟨[], some .int⟩ := by decide +kernel
theorem own_pd70 : parseMethodDescriptor "(Ljava/lang/Object;)Z" = some ⟨[(.object "java/lang/Object")], some .boolean⟩ := by decide +kernel
theorem ef_rm0 (m : MethodId) (x0 : Int32) (x1 : Int32) (x2 : Int32) (x3 : Int32) (x4 : Int32) : entryFrame m #[(.int x0), (.int x1), (.int x2), (.int x3), (.int x4)] maxLocals = mkF m 0 #[.val (.int x0), .val (.int x1), .val (.int x2), .val (.int x3), .val (.int x4), .unset, .unset, .unset, .unset, .unset, .unset, .unset, .unset, .unset, .unset, .unset, .unset] [] := by first | (simp [entryFrame, mkF, argsToLocals, Value.category, maxLocals]; done) | rfl
def own_Q0 (n0 : Nat) (v : Option Value) (h : Heap) (L : List Loc) : Prop := v = some (.int (1 : Int32)) ∧ Fr n0 L
set_option maxRecDepth 65536 in
set_option maxHeartbeats 40000000 in
theorem rm0 (l : Launch) (Z : State) (a0 : Array Value) (hw : ∀ d ∈ tables_1, d.before a0 Z = true) (ws : List Jvm.Cond) (p1 p2 p3 p4 p5 : Int32) (h0 : Heap) (n0 : Nat) (Z0 : n0 ≤ h0.size)  :
    MetFree l x (head1 (Jvm.Cond.code x code maxLocals ret :: ws) room_1) (fun a U => a = #[(.int p1), (.int p2), (.int p3), (.int p4), (.int p5)] ∧ Z.Warmed39 U.vm ∧ U.heap = h0) (fun _ _ _ _ _ => True) (fun _ U o U' => ∃ v L, o = .returned v ∧ own_Q0 n0 v U'.heap L ∧ FrameEnd U o U' L room_1.cells room_1.slots) := by
  refine MetFree.of_bodySF (plainFor_of_name own_pn67) hisR ?_
  intro p e s m args below meth c s₁ Bd hml0 hP hK
  obtain ⟨rfl, hZ, hh⟩ := hP
  have hx := Bd.exec
  have hby := Bd.bytes
  have hlk := Bd.notSynchronized
  have hml : c.maxLocals = 17 := hml0
  have hown : s.vm.findClass "com/example/hinta/hinta/input/PositionHashCodePinLaw" = some m.cls := findClass_of_methodNamed Bd.named
  have hnm := (name_of_methodNamed Bd.named Bd.method).1
  have X0 : Stand p l e room_1 s m #[(.int p1), (.int p2), (.int p3), (.int p4), (.int p5)] below meth c s₁ [] 0 0 := Stand.of_body Bd
  have e0 : s₁.heap = h0 := by rw [← hh, Bd.state]; rfl
  have N0 := Fr.nil n0
  refine own_start (Q := own_Q0 n0) (C := room_1.cells) (N := room_1.slots) (ef_rm0 m p1 p2 p3 p4 p5 ) ?_
  show own_Fin p e below s _ _ _ s₁ (mkF m 0 #[.val (.int p1), .val (.int p2), .val (.int p3), .val (.int p4), .val (.int p5), .unset, .unset, .unset, .unset, .unset, .unset, .unset, .unset, .unset, .unset, .unset, .unset] [])
  have J52_22 : ∀ (f5 : Int32) (f6 : Int32) (r1 : Int32) (r2 : Int32) , own_Fin p e below s room_1.cells room_1.slots (own_Q0 n0) s₁ (mkF m 52 #[.val (.int p1), .val (.int p2), .val (.int p3), .val (.int p4), .val (.int p5), .val (.int f5), .val (.int f6), .val (.int r1), .val (.int r2), .unset, .unset, .unset, .unset, .unset, .unset, .unset, .unset] []) := by
    intro f5 f6 r1 r2
    show own_Fin p e below s _ _ _ s₁ (mkF m 52 #[.val (.int p1), .val (.int p2), .val (.int p3), .val (.int p4), .val (.int p5), .val (.int f5), .val (.int f6), .val (.int r1), .val (.int r2), .unset, .unset, .unset, .unset, .unset, .unset, .unset, .unset] [])
    obtain ⟨T23, h23, X23, e23, E23, A23, D23, -, st23⟩ := newO X0 hx hZ hown (hw _ (List.mem_of_getElem? (i := 0) rfl)) (hw _ (List.mem_of_getElem? (i := 1) rfl)) (hw _ (List.mem_of_getElem? (i := 2) rfl)) e0 (g := (mkF m 52 #[.val (.int p1), .val (.int p2), .val (.int p3), .val (.int p4), .val (.int p5), .val (.int f5), .val (.int f6), .val (.int r1), .val (.int r2), .unset, .unset, .unset, .unset, .unset, .unset, .unset, .unset] [])) rfl (hb hby at_52) (by decide) (by decide)
    obtain ⟨b23, g23⟩ : ∃ z, z = h0.size := ⟨_, rfl⟩
    rw [← g23] at A23 D23 st23
    refine own_by (fun _ k => st23 _ k) ?_
    have gf23 : n0 ≤ b23 := Nat.le_trans Z0 (Nat.le_of_eq g23.symm)
    have Zs23 : n0 ≤ h23.size := Nat.le_trans Z0 E23.1
    have F23_line : Fld Z h23 b23 "com/example/hinta/hinta/input/Position" "line" "I" (.int (0 : Int32)) := D23 (Or.inr (hw _ (List.mem_of_getElem? (i := 10) rfl))) (ty := .int) (by decide)
    have F23_column : Fld Z h23 b23 "com/example/hinta/hinta/input/Position" "column" "I" (.int (0 : Int32)) := D23 (Or.inr (hw _ (List.mem_of_getElem? (i := 12) rfl))) (ty := .int) (by decide)
    show own_Fin p e below s _ _ _ T23 (mkF m 55 #[.val (.int p1), .val (.int p2), .val (.int p3), .val (.int p4), .val (.int p5), .val (.int f5), .val (.int f6), .val (.int r1), .val (.int r2), .unset, .unset, .unset, .unset, .unset, .unset, .unset, .unset] [(.ref b23)])
    refine own_by (fun _ k => XS.dup X23.here hx rfl (hb hby at_55) rfl rfl (XS.iloadN X23.here hx rfl (hb hby at_56) rfl (XS.iloadN X23.here hx rfl (hb hby at_57) rfl k))) ?_
    show own_Fin p e below s _ _ _ T23 (mkF m 58 #[.val (.int p1), .val (.int p2), .val (.int p3), .val (.int p4), .val (.int p5), .val (.int f5), .val (.int f6), .val (.int r1), .val (.int r2), .unset, .unset, .unset, .unset, .unset, .unset, .unset, .unset] [(.int p2), (.int p1), (.ref b23), (.ref b23)])
    obtain ⟨_, _, ⟨T25, L25, k25, n25⟩, -, X25, ⟨Lc25, hQ25, l25, y25, z25⟩, st25⟩ := X23.specialBack hx (y := (⟨"com/example/hinta/hinta/input/Position", "<init>", "(II)V"⟩ : MethodName)) rfl hown (mvT hZ (hw _ (List.mem_of_getElem? (i := 3) rfl))) (mvT hZ (hw _ (List.mem_of_getElem? (i := 4) rfl))) (mvT hZ (hw _ (List.mem_of_getElem? (i := 5) rfl))) (by decide) (backOf (W := 1) (rm1 l Z a0 hw [] b23 p1 p2 _ _ h23 n0 Zs23 A23 F23_line F23_column gf23) hZ (hw _ (List.mem_of_getElem? (i := 5) rfl)) (hw _ (List.mem_of_getElem? (i := 2) rfl)) (by decide) (by decide)) (g := (mkF m 58 #[.val (.int p1), .val (.int p2), .val (.int p3), .val (.int p4), .val (.int p5), .val (.int f5), .val (.int f6), .val (.int r1), .val (.int r2), .unset, .unset, .unset, .unset, .unset, .unset, .unset, .unset] [(.int p2), (.int p1), (.ref b23), (.ref b23)])) rfl (by rw [hml]; rfl) (Steps.refl _) (a := b23) (argsL := [(.int p1), (.int p2)]) (rest := [(.ref b23)]) (lenOf own_pd68 rfl) rfl (by show 2 * 0 + _ ≤ _; exact Nat.le_of_eq rfl) (hb hby at_58) (fun _ _ => ⟨rfl, e23, (by decide : 1 + 0 ≤ _), (by decide : 2 + 0 ≤ _)⟩)
    dsimp only [Pt.U, Pt.locs, Pt.cells, Pt.slots] at X25 l25 y25 z25 st25 hQ25
    subst l25 y25 z25
    obtain ⟨rfl, Nq25, K25, Fl25, Fc25⟩ := hQ25
    have N25 := Fr.app N0 Nq25
    refine own_by (fun _ k => st25.trans k) ?_
    have Zs25 : n0 ≤ T25.heap.size := Nat.le_trans Zs23 K25.1
    have f26_0 : Exa Z T25.heap b23 "com/example/hinta/hinta/input/Position" := A23.keep K25
    show own_Fin p e below s _ _ _ T25 (mkF m 61 #[.val (.int p1), .val (.int p2), .val (.int p3), .val (.int p4), .val (.int p5), .val (.int f5), .val (.int f6), .val (.int r1), .val (.int r2), .unset, .unset, .unset, .unset, .unset, .unset, .unset, .unset] [(.ref b23)])
    refine own_by (fun _ k => XS.astore X25.here hx rfl (hb hby at_61) rfl rfl (l' := #[.val (.int p1), .val (.int p2), .val (.int p3), .val (.int p4), .val (.int p5), .val (.int f5), .val (.int f6), .val (.int r1), .val (.int r2), .val (.ref b23), .unset, .unset, .unset, .unset, .unset, .unset, .unset]) rfl k) ?_
    show own_Fin p e below s _ _ _ T25 (mkF m 63 #[.val (.int p1), .val (.int p2), .val (.int p3), .val (.int p4), .val (.int p5), .val (.int f5), .val (.int f6), .val (.int r1), .val (.int r2), .val (.ref b23), .unset, .unset, .unset, .unset, .unset, .unset, .unset] [])
    obtain ⟨T27, h27, X27, e27, E27, A27, D27, -, st27⟩ := newO X25 hx hZ hown (hw _ (List.mem_of_getElem? (i := 0) rfl)) (hw _ (List.mem_of_getElem? (i := 1) rfl)) (hw _ (List.mem_of_getElem? (i := 2) rfl)) rfl (g := (mkF m 63 #[.val (.int p1), .val (.int p2), .val (.int p3), .val (.int p4), .val (.int p5), .val (.int f5), .val (.int f6), .val (.int r1), .val (.int r2), .val (.ref b23), .unset, .unset, .unset, .unset, .unset, .unset, .unset] [])) rfl (hb hby at_63) (by decide) (by decide)
    obtain ⟨b27, g27⟩ : ∃ z, z = T25.heap.size := ⟨_, rfl⟩
    rw [← g27] at A27 D27 st27
    refine own_by (fun _ k => st27 _ k) ?_
    have ne27_b23 : b23 ≠ b27 := Nat.ne_of_lt (Nat.lt_of_lt_of_le f26_0.lt (Nat.le_of_eq g27.symm))
    have gf27 : n0 ≤ b27 := Nat.le_trans Zs25 (Nat.le_of_eq g27.symm)
    have Zs27 : n0 ≤ h27.size := Nat.le_trans Zs25 E27.1
    have f28_0 : Exa Z h27 b23 "com/example/hinta/hinta/input/Position" := f26_0.ext E27
    have f28_1 : Fld Z h27 b23 "com/example/hinta/hinta/input/Position" "line" "I" (.int p1) := Fl25.ext E27
    have f28_2 : Fld Z h27 b23 "com/example/hinta/hinta/input/Position" "column" "I" (.int p2) := Fc25.ext E27
    have F27_line : Fld Z h27 b27 "com/example/hinta/hinta/input/Position" "line" "I" (.int (0 : Int32)) := D27 (Or.inr (hw _ (List.mem_of_getElem? (i := 10) rfl))) (ty := .int) (by decide)
    have F27_column : Fld Z h27 b27 "com/example/hinta/hinta/input/Position" "column" "I" (.int (0 : Int32)) := D27 (Or.inr (hw _ (List.mem_of_getElem? (i := 12) rfl))) (ty := .int) (by decide)
    show own_Fin p e below s _ _ _ T27 (mkF m 66 #[.val (.int p1), .val (.int p2), .val (.int p3), .val (.int p4), .val (.int p5), .val (.int f5), .val (.int f6), .val (.int r1), .val (.int r2), .val (.ref b23), .unset, .unset, .unset, .unset, .unset, .unset, .unset] [(.ref b27)])
    refine own_by (fun _ k => XS.dup X27.here hx rfl (hb hby at_66) rfl rfl (XS.iloadN X27.here hx rfl (hb hby at_67) rfl (XS.iloadN X27.here hx rfl (hb hby at_68) rfl k))) ?_
    show own_Fin p e below s _ _ _ T27 (mkF m 69 #[.val (.int p1), .val (.int p2), .val (.int p3), .val (.int p4), .val (.int p5), .val (.int f5), .val (.int f6), .val (.int r1), .val (.int r2), .val (.ref b23), .unset, .unset, .unset, .unset, .unset, .unset, .unset] [(.int p2), (.int p1), (.ref b27), (.ref b27)])
    obtain ⟨_, _, ⟨T29, L29, k29, n29⟩, -, X29, ⟨Lc29, hQ29, l29, y29, z29⟩, st29⟩ := X27.specialBack hx (y := (⟨"com/example/hinta/hinta/input/Position", "<init>", "(II)V"⟩ : MethodName)) rfl hown (mvT hZ (hw _ (List.mem_of_getElem? (i := 3) rfl))) (mvT hZ (hw _ (List.mem_of_getElem? (i := 4) rfl))) (mvT hZ (hw _ (List.mem_of_getElem? (i := 5) rfl))) (by decide) (backOf (W := 1) (rm1 l Z a0 hw [] b27 p1 p2 _ _ h27 n0 Zs27 A27 F27_line F27_column gf27) hZ (hw _ (List.mem_of_getElem? (i := 5) rfl)) (hw _ (List.mem_of_getElem? (i := 2) rfl)) (by decide) (by decide)) (g := (mkF m 69 #[.val (.int p1), .val (.int p2), .val (.int p3), .val (.int p4), .val (.int p5), .val (.int f5), .val (.int f6), .val (.int r1), .val (.int r2), .val (.ref b23), .unset, .unset, .unset, .unset, .unset, .unset, .unset] [(.int p2), (.int p1), (.ref b27), (.ref b27)])) rfl (by rw [hml]; rfl) (Steps.refl _) (a := b27) (argsL := [(.int p1), (.int p2)]) (rest := [(.ref b27)]) (lenOf own_pd68 rfl) rfl (by show 2 * 0 + _ ≤ _; exact Nat.le_of_eq rfl) (hb hby at_69) (fun _ _ => ⟨rfl, e27, (by decide : 2 + 0 ≤ _), (by decide : 4 + 0 ≤ _)⟩)
    dsimp only [Pt.U, Pt.locs, Pt.cells, Pt.slots] at X29 l29 y29 z29 st29 hQ29
    subst l29 y29 z29
    obtain ⟨rfl, Nq29, K29, Fl29, Fc29⟩ := hQ29
    have N29 := Fr.app N25 Nq29
    refine own_by (fun _ k => st29.trans k) ?_
    have Zs29 : n0 ≤ T29.heap.size := Nat.le_trans Zs27 K29.1
    have f30_0 : Exa Z T29.heap b23 "com/example/hinta/hinta/input/Position" := f28_0.keep K29
    have f30_1 : Fld Z T29.heap b23 "com/example/hinta/hinta/input/Position" "line" "I" (.int p1) := f28_1.keep K29 (ninS ne27_b23 nin0)
    have f30_2 : Fld Z T29.heap b23 "com/example/hinta/hinta/input/Position" "column" "I" (.int p2) := f28_2.keep K29 (ninS ne27_b23 nin0)
    have f30_3 : Exa Z T29.heap b27 "com/example/hinta/hinta/input/Position" := A27.keep K29
    show own_Fin p e below s _ _ _ T29 (mkF m 72 #[.val (.int p1), .val (.int p2), .val (.int p3), .val (.int p4), .val (.int p5), .val (.int f5), .val (.int f6), .val (.int r1), .val (.int r2), .val (.ref b23), .unset, .unset, .unset, .unset, .unset, .unset, .unset] [(.ref b27)])
    refine own_by (fun _ k => XS.astore X29.here hx rfl (hb hby at_72) rfl rfl (l' := #[.val (.int p1), .val (.int p2), .val (.int p3), .val (.int p4), .val (.int p5), .val (.int f5), .val (.int f6), .val (.int r1), .val (.int r2), .val (.ref b23), .val (.ref b27), .unset, .unset, .unset, .unset, .unset, .unset]) rfl k) ?_
    show own_Fin p e below s _ _ _ T29 (mkF m 74 #[.val (.int p1), .val (.int p2), .val (.int p3), .val (.int p4), .val (.int p5), .val (.int f5), .val (.int f6), .val (.int r1), .val (.int r2), .val (.ref b23), .val (.ref b27), .unset, .unset, .unset, .unset, .unset, .unset] [])
    obtain ⟨T31, h31, X31, e31, E31, A31, D31, -, st31⟩ := newO X29 hx hZ hown (hw _ (List.mem_of_getElem? (i := 0) rfl)) (hw _ (List.mem_of_getElem? (i := 1) rfl)) (hw _ (List.mem_of_getElem? (i := 2) rfl)) rfl (g := (mkF m 74 #[.val (.int p1), .val (.int p2), .val (.int p3), .val (.int p4), .val (.int p5), .val (.int f5), .val (.int f6), .val (.int r1), .val (.int r2), .val (.ref b23), .val (.ref b27), .unset, .unset, .unset, .unset, .unset, .unset] [])) rfl (hb hby at_74) (by decide) (by decide)
    obtain ⟨b31, g31⟩ : ∃ z, z = T29.heap.size := ⟨_, rfl⟩
    rw [← g31] at A31 D31 st31
    refine own_by (fun _ k => st31 _ k) ?_
    have ne31_b23 : b23 ≠ b31 := Nat.ne_of_lt (Nat.lt_of_lt_of_le f30_0.lt (Nat.le_of_eq g31.symm))
    have ne31_b27 : b27 ≠ b31 := Nat.ne_of_lt (Nat.lt_of_lt_of_le f30_3.lt (Nat.le_of_eq g31.symm))
    have gf31 : n0 ≤ b31 := Nat.le_trans Zs29 (Nat.le_of_eq g31.symm)
    have Zs31 : n0 ≤ h31.size := Nat.le_trans Zs29 E31.1
    have f32_0 : Exa Z h31 b23 "com/example/hinta/hinta/input/Position" := f30_0.ext E31
    have f32_1 : Fld Z h31 b23 "com/example/hinta/hinta/input/Position" "line" "I" (.int p1) := f30_1.ext E31
    have f32_2 : Fld Z h31 b23 "com/example/hinta/hinta/input/Position" "column" "I" (.int p2) := f30_2.ext E31
    have f32_3 : Exa Z h31 b27 "com/example/hinta/hinta/input/Position" := f30_3.ext E31
    have f32_4 : Fld Z h31 b27 "com/example/hinta/hinta/input/Position" "line" "I" (.int p1) := Fl29.ext E31
    have f32_5 : Fld Z h31 b27 "com/example/hinta/hinta/input/Position" "column" "I" (.int p2) := Fc29.ext E31
    have F31_line : Fld Z h31 b31 "com/example/hinta/hinta/input/Position" "line" "I" (.int (0 : Int32)) := D31 (Or.inr (hw _ (List.mem_of_getElem? (i := 10) rfl))) (ty := .int) (by decide)
    have F31_column : Fld Z h31 b31 "com/example/hinta/hinta/input/Position" "column" "I" (.int (0 : Int32)) := D31 (Or.inr (hw _ (List.mem_of_getElem? (i := 12) rfl))) (ty := .int) (by decide)
    show own_Fin p e below s _ _ _ T31 (mkF m 77 #[.val (.int p1), .val (.int p2), .val (.int p3), .val (.int p4), .val (.int p5), .val (.int f5), .val (.int f6), .val (.int r1), .val (.int r2), .val (.ref b23), .val (.ref b27), .unset, .unset, .unset, .unset, .unset, .unset] [(.ref b31)])
    refine own_by (fun _ k => XS.dup X31.here hx rfl (hb hby at_77) rfl rfl (XS.iload X31.here hx rfl (hb hby at_78) rfl (XS.iload X31.here hx rfl (hb hby at_80) rfl k))) ?_
    show own_Fin p e below s _ _ _ T31 (mkF m 82 #[.val (.int p1), .val (.int p2), .val (.int p3), .val (.int p4), .val (.int p5), .val (.int f5), .val (.int f6), .val (.int r1), .val (.int r2), .val (.ref b23), .val (.ref b27), .unset, .unset, .unset, .unset, .unset, .unset] [(.int r2), (.int r1), (.ref b31), (.ref b31)])
    obtain ⟨_, _, ⟨T33, L33, k33, n33⟩, -, X33, ⟨Lc33, hQ33, l33, y33, z33⟩, st33⟩ := X31.specialBack hx (y := (⟨"com/example/hinta/hinta/input/Position", "<init>", "(II)V"⟩ : MethodName)) rfl hown (mvT hZ (hw _ (List.mem_of_getElem? (i := 3) rfl))) (mvT hZ (hw _ (List.mem_of_getElem? (i := 4) rfl))) (mvT hZ (hw _ (List.mem_of_getElem? (i := 5) rfl))) (by decide) (backOf (W := 1) (rm1 l Z a0 hw [] b31 r1 r2 _ _ h31 n0 Zs31 A31 F31_line F31_column gf31) hZ (hw _ (List.mem_of_getElem? (i := 5) rfl)) (hw _ (List.mem_of_getElem? (i := 2) rfl)) (by decide) (by decide)) (g := (mkF m 82 #[.val (.int p1), .val (.int p2), .val (.int p3), .val (.int p4), .val (.int p5), .val (.int f5), .val (.int f6), .val (.int r1), .val (.int r2), .val (.ref b23), .val (.ref b27), .unset, .unset, .unset, .unset, .unset, .unset] [(.int r2), (.int r1), (.ref b31), (.ref b31)])) rfl (by rw [hml]; rfl) (Steps.refl _) (a := b31) (argsL := [(.int r1), (.int r2)]) (rest := [(.ref b31)]) (lenOf own_pd68 rfl) rfl (by show 2 * 0 + _ ≤ _; exact Nat.le_of_eq rfl) (hb hby at_82) (fun _ _ => ⟨rfl, e31, (by decide : 3 + 0 ≤ _), (by decide : 6 + 0 ≤ _)⟩)
    dsimp only [Pt.U, Pt.locs, Pt.cells, Pt.slots] at X33 l33 y33 z33 st33 hQ33
    subst l33 y33 z33
    obtain ⟨rfl, Nq33, K33, Fl33, Fc33⟩ := hQ33
    have N33 := Fr.app N29 Nq33
    refine own_by (fun _ k => st33.trans k) ?_
    have Zs33 : n0 ≤ T33.heap.size := Nat.le_trans Zs31 K33.1
    have f34_0 : Exa Z T33.heap b23 "com/example/hinta/hinta/input/Position" := f32_0.keep K33
    have f34_1 : Fld Z T33.heap b23 "com/example/hinta/hinta/input/Position" "line" "I" (.int p1) := f32_1.keep K33 (ninS ne31_b23 nin0)
    have f34_2 : Fld Z T33.heap b23 "com/example/hinta/hinta/input/Position" "column" "I" (.int p2) := f32_2.keep K33 (ninS ne31_b23 nin0)
    have f34_3 : Exa Z T33.heap b27 "com/example/hinta/hinta/input/Position" := f32_3.keep K33
    have f34_4 : Fld Z T33.heap b27 "com/example/hinta/hinta/input/Position" "line" "I" (.int p1) := f32_4.keep K33 (ninS ne31_b27 nin0)
    have f34_5 : Fld Z T33.heap b27 "com/example/hinta/hinta/input/Position" "column" "I" (.int p2) := f32_5.keep K33 (ninS ne31_b27 nin0)
    have f34_6 : Exa Z T33.heap b31 "com/example/hinta/hinta/input/Position" := A31.keep K33
    show own_Fin p e below s _ _ _ T33 (mkF m 85 #[.val (.int p1), .val (.int p2), .val (.int p3), .val (.int p4), .val (.int p5), .val (.int f5), .val (.int f6), .val (.int r1), .val (.int r2), .val (.ref b23), .val (.ref b27), .unset, .unset, .unset, .unset, .unset, .unset] [(.ref b31)])
    refine own_by (fun _ k => XS.astore X33.here hx rfl (hb hby at_85) rfl rfl (l' := #[.val (.int p1), .val (.int p2), .val (.int p3), .val (.int p4), .val (.int p5), .val (.int f5), .val (.int f6), .val (.int r1), .val (.int r2), .val (.ref b23), .val (.ref b27), .val (.ref b31), .unset, .unset, .unset, .unset, .unset]) rfl (XS.aload X33.here hx rfl (hb hby at_87) rfl rfl k)) ?_
    show own_Fin p e below s _ _ _ T33 (mkF m 89 #[.val (.int p1), .val (.int p2), .val (.int p3), .val (.int p4), .val (.int p5), .val (.int f5), .val (.int f6), .val (.int r1), .val (.int r2), .val (.ref b23), .val (.ref b27), .val (.ref b31), .unset, .unset, .unset, .unset, .unset] [(.ref b23)])
    obtain ⟨cq35, kq35, q35a, q35b, q35c⟩ := isOf hZ rfl f34_0
    obtain ⟨_, _, ⟨T35, L35, k35, n35⟩, -, X35, ⟨Lc35, hQ35, l35, y35, z35⟩, st35⟩ := X33.virtualBack hx (y := (⟨"com/example/hinta/hinta/input/Position", "hashCode", "()I"⟩ : MethodName)) (z := (⟨"com/example/hinta/hinta/input/Position", "hashCode", "()I"⟩ : MethodName)) hown (mvT hZ (hw _ (List.mem_of_getElem? (i := 13) rfl))) (mvT hZ (hw _ (List.mem_of_getElem? (i := 14) rfl))) (notFace_of_selects (args := #[]) (mvT hZ (hw _ (List.mem_of_getElem? (i := 16) rfl)))) (mvT hZ (hw _ (List.mem_of_getElem? (i := 16) rfl))) (mvT hZ (hw _ (List.mem_of_getElem? (i := 15) rfl))) (by decide) (backOf (W := 0) (rm3 l Z a0 hw [] b23 p1 p2 T33.heap n0 Zs33 f34_1 f34_2) hZ (hw _ (List.mem_of_getElem? (i := 17) rfl)) (hw _ (List.mem_of_getElem? (i := 2) rfl)) (by decide) (by decide)) q35a q35c (g := (mkF m 89 #[.val (.int p1), .val (.int p2), .val (.int p3), .val (.int p4), .val (.int p5), .val (.int f5), .val (.int f6), .val (.int r1), .val (.int r2), .val (.ref b23), .val (.ref b27), .val (.ref b31), .unset, .unset, .unset, .unset, .unset] [(.ref b23)])) rfl (by rw [hml]; rfl) (Steps.refl _) (argsL := []) (rest := []) (lenOf own_pd69 rfl) rfl (by show 2 * 0 + _ ≤ _; exact Nat.le_of_eq rfl) (hb hby at_89) (fun _ _ => ⟨rfl, rfl, (by decide : 3 + 0 ≤ _), (by decide : 6 + 0 ≤ _)⟩)
    dsimp only [Pt.U, Pt.locs, Pt.cells, Pt.slots] at X35 l35 y35 z35 st35 hQ35
    subst l35 y35 z35
    obtain ⟨rfl, Nq35, eh35⟩ := hQ35
    have N35 := Fr.app N33 Nq35
    refine own_by (fun _ k => st35.trans k) ?_
    show own_Fin p e below s _ _ _ T35 (mkF m 92 #[.val (.int p1), .val (.int p2), .val (.int p3), .val (.int p4), .val (.int p5), .val (.int f5), .val (.int f6), .val (.int r1), .val (.int r2), .val (.ref b23), .val (.ref b27), .val (.ref b31), .unset, .unset, .unset, .unset, .unset] [(.int (((31 : Int32) * p1) + p2))])
    refine own_by (fun _ k => XS.istore X35.here hx rfl (hb hby at_92) rfl (l' := #[.val (.int p1), .val (.int p2), .val (.int p3), .val (.int p4), .val (.int p5), .val (.int f5), .val (.int f6), .val (.int r1), .val (.int r2), .val (.ref b23), .val (.ref b27), .val (.ref b31), .val (.int (((31 : Int32) * p1) + p2)), .unset, .unset, .unset, .unset]) rfl (XS.aload X35.here hx rfl (hb hby at_94) rfl rfl k)) ?_
    show own_Fin p e below s _ _ _ T35 (mkF m 96 #[.val (.int p1), .val (.int p2), .val (.int p3), .val (.int p4), .val (.int p5), .val (.int f5), .val (.int f6), .val (.int r1), .val (.int r2), .val (.ref b23), .val (.ref b27), .val (.ref b31), .val (.int (((31 : Int32) * p1) + p2)), .unset, .unset, .unset, .unset] [(.ref b23)])
    obtain ⟨cq36, kq36, q36a, q36b, q36c⟩ := isOf hZ eh35 f34_0
    obtain ⟨_, _, ⟨T36, L36, k36, n36⟩, -, X36, ⟨Lc36, hQ36, l36, y36, z36⟩, st36⟩ := X35.virtualBack hx (y := (⟨"com/example/hinta/hinta/input/Position", "hashCode", "()I"⟩ : MethodName)) (z := (⟨"com/example/hinta/hinta/input/Position", "hashCode", "()I"⟩ : MethodName)) hown (mvT hZ (hw _ (List.mem_of_getElem? (i := 13) rfl))) (mvT hZ (hw _ (List.mem_of_getElem? (i := 14) rfl))) (notFace_of_selects (args := #[]) (mvT hZ (hw _ (List.mem_of_getElem? (i := 16) rfl)))) (mvT hZ (hw _ (List.mem_of_getElem? (i := 16) rfl))) (mvT hZ (hw _ (List.mem_of_getElem? (i := 15) rfl))) (by decide) (backOf (W := 0) (rm3 l Z a0 hw [] b23 p1 p2 T33.heap n0 Zs33 f34_1 f34_2) hZ (hw _ (List.mem_of_getElem? (i := 17) rfl)) (hw _ (List.mem_of_getElem? (i := 2) rfl)) (by decide) (by decide)) q36a q36c (g := (mkF m 96 #[.val (.int p1), .val (.int p2), .val (.int p3), .val (.int p4), .val (.int p5), .val (.int f5), .val (.int f6), .val (.int r1), .val (.int r2), .val (.ref b23), .val (.ref b27), .val (.ref b31), .val (.int (((31 : Int32) * p1) + p2)), .unset, .unset, .unset, .unset] [(.ref b23)])) rfl (by rw [hml]; rfl) (Steps.refl _) (argsL := []) (rest := []) (lenOf own_pd69 rfl) rfl (by show 2 * 0 + _ ≤ _; exact Nat.le_of_eq rfl) (hb hby at_96) (fun _ _ => ⟨rfl, eh35, (by decide : 3 + 0 ≤ _), (by decide : 6 + 0 ≤ _)⟩)
    dsimp only [Pt.U, Pt.locs, Pt.cells, Pt.slots] at X36 l36 y36 z36 st36 hQ36
    subst l36 y36 z36
    obtain ⟨rfl, Nq36, eh36⟩ := hQ36
    have N36 := Fr.app N35 Nq36
    refine own_by (fun _ k => st36.trans k) ?_
    show own_Fin p e below s _ _ _ T36 (mkF m 99 #[.val (.int p1), .val (.int p2), .val (.int p3), .val (.int p4), .val (.int p5), .val (.int f5), .val (.int f6), .val (.int r1), .val (.int r2), .val (.ref b23), .val (.ref b27), .val (.ref b31), .val (.int (((31 : Int32) * p1) + p2)), .unset, .unset, .unset, .unset] [(.int (((31 : Int32) * p1) + p2))])
    refine own_by (fun _ k => XS.istore X36.here hx rfl (hb hby at_99) rfl (l' := #[.val (.int p1), .val (.int p2), .val (.int p3), .val (.int p4), .val (.int p5), .val (.int f5), .val (.int f6), .val (.int r1), .val (.int r2), .val (.ref b23), .val (.ref b27), .val (.ref b31), .val (.int (((31 : Int32) * p1) + p2)), .val (.int (((31 : Int32) * p1) + p2)), .unset, .unset, .unset]) rfl (XS.aload X36.here hx rfl (hb hby at_101) rfl rfl k)) ?_
    show own_Fin p e below s _ _ _ T36 (mkF m 103 #[.val (.int p1), .val (.int p2), .val (.int p3), .val (.int p4), .val (.int p5), .val (.int f5), .val (.int f6), .val (.int r1), .val (.int r2), .val (.ref b23), .val (.ref b27), .val (.ref b31), .val (.int (((31 : Int32) * p1) + p2)), .val (.int (((31 : Int32) * p1) + p2)), .unset, .unset, .unset] [(.ref b27)])
    obtain ⟨cq37, kq37, q37a, q37b, q37c⟩ := isOf hZ eh36 f34_3
    obtain ⟨_, _, ⟨T37, L37, k37, n37⟩, -, X37, ⟨Lc37, hQ37, l37, y37, z37⟩, st37⟩ := X36.virtualBack hx (y := (⟨"com/example/hinta/hinta/input/Position", "hashCode", "()I"⟩ : MethodName)) (z := (⟨"com/example/hinta/hinta/input/Position", "hashCode", "()I"⟩ : MethodName)) hown (mvT hZ (hw _ (List.mem_of_getElem? (i := 13) rfl))) (mvT hZ (hw _ (List.mem_of_getElem? (i := 14) rfl))) (notFace_of_selects (args := #[]) (mvT hZ (hw _ (List.mem_of_getElem? (i := 16) rfl)))) (mvT hZ (hw _ (List.mem_of_getElem? (i := 16) rfl))) (mvT hZ (hw _ (List.mem_of_getElem? (i := 15) rfl))) (by decide) (backOf (W := 0) (rm3 l Z a0 hw [] b27 p1 p2 T33.heap n0 Zs33 f34_4 f34_5) hZ (hw _ (List.mem_of_getElem? (i := 17) rfl)) (hw _ (List.mem_of_getElem? (i := 2) rfl)) (by decide) (by decide)) q37a q37c (g := (mkF m 103 #[.val (.int p1), .val (.int p2), .val (.int p3), .val (.int p4), .val (.int p5), .val (.int f5), .val (.int f6), .val (.int r1), .val (.int r2), .val (.ref b23), .val (.ref b27), .val (.ref b31), .val (.int (((31 : Int32) * p1) + p2)), .val (.int (((31 : Int32) * p1) + p2)), .unset, .unset, .unset] [(.ref b27)])) rfl (by rw [hml]; rfl) (Steps.refl _) (argsL := []) (rest := []) (lenOf own_pd69 rfl) rfl (by show 2 * 0 + _ ≤ _; exact Nat.le_of_eq rfl) (hb hby at_103) (fun _ _ => ⟨rfl, eh36, (by decide : 3 + 0 ≤ _), (by decide : 6 + 0 ≤ _)⟩)
    dsimp only [Pt.U, Pt.locs, Pt.cells, Pt.slots] at X37 l37 y37 z37 st37 hQ37
    subst l37 y37 z37
    obtain ⟨rfl, Nq37, eh37⟩ := hQ37
    have N37 := Fr.app N36 Nq37
    refine own_by (fun _ k => st37.trans k) ?_
    show own_Fin p e below s _ _ _ T37 (mkF m 106 #[.val (.int p1), .val (.int p2), .val (.int p3), .val (.int p4), .val (.int p5), .val (.int f5), .val (.int f6), .val (.int r1), .val (.int r2), .val (.ref b23), .val (.ref b27), .val (.ref b31), .val (.int (((31 : Int32) * p1) + p2)), .val (.int (((31 : Int32) * p1) + p2)), .unset, .unset, .unset] [(.int (((31 : Int32) * p1) + p2))])
    refine own_by (fun _ k => XS.istore X37.here hx rfl (hb hby at_106) rfl (l' := #[.val (.int p1), .val (.int p2), .val (.int p3), .val (.int p4), .val (.int p5), .val (.int f5), .val (.int f6), .val (.int r1), .val (.int r2), .val (.ref b23), .val (.ref b27), .val (.ref b31), .val (.int (((31 : Int32) * p1) + p2)), .val (.int (((31 : Int32) * p1) + p2)), .val (.int (((31 : Int32) * p1) + p2)), .unset, .unset]) rfl (XS.aload X37.here hx rfl (hb hby at_108) rfl rfl k)) ?_
    show own_Fin p e below s _ _ _ T37 (mkF m 110 #[.val (.int p1), .val (.int p2), .val (.int p3), .val (.int p4), .val (.int p5), .val (.int f5), .val (.int f6), .val (.int r1), .val (.int r2), .val (.ref b23), .val (.ref b27), .val (.ref b31), .val (.int (((31 : Int32) * p1) + p2)), .val (.int (((31 : Int32) * p1) + p2)), .val (.int (((31 : Int32) * p1) + p2)), .unset, .unset] [(.ref b31)])
    obtain ⟨cq38, kq38, q38a, q38b, q38c⟩ := isOf hZ eh37 f34_6
    obtain ⟨_, _, ⟨T38, L38, k38, n38⟩, -, X38, ⟨Lc38, hQ38, l38, y38, z38⟩, st38⟩ := X37.virtualBack hx (y := (⟨"com/example/hinta/hinta/input/Position", "hashCode", "()I"⟩ : MethodName)) (z := (⟨"com/example/hinta/hinta/input/Position", "hashCode", "()I"⟩ : MethodName)) hown (mvT hZ (hw _ (List.mem_of_getElem? (i := 13) rfl))) (mvT hZ (hw _ (List.mem_of_getElem? (i := 14) rfl))) (notFace_of_selects (args := #[]) (mvT hZ (hw _ (List.mem_of_getElem? (i := 16) rfl)))) (mvT hZ (hw _ (List.mem_of_getElem? (i := 16) rfl))) (mvT hZ (hw _ (List.mem_of_getElem? (i := 15) rfl))) (by decide) (backOf (W := 0) (rm3 l Z a0 hw [] b31 r1 r2 T33.heap n0 Zs33 Fl33 Fc33) hZ (hw _ (List.mem_of_getElem? (i := 17) rfl)) (hw _ (List.mem_of_getElem? (i := 2) rfl)) (by decide) (by decide)) q38a q38c (g := (mkF m 110 #[.val (.int p1), .val (.int p2), .val (.int p3), .val (.int p4), .val (.int p5), .val (.int f5), .val (.int f6), .val (.int r1), .val (.int r2), .val (.ref b23), .val (.ref b27), .val (.ref b31), .val (.int (((31 : Int32) * p1) + p2)), .val (.int (((31 : Int32) * p1) + p2)), .val (.int (((31 : Int32) * p1) + p2)), .unset, .unset] [(.ref b31)])) rfl (by rw [hml]; rfl) (Steps.refl _) (argsL := []) (rest := []) (lenOf own_pd69 rfl) rfl (by show 2 * 0 + _ ≤ _; exact Nat.le_of_eq rfl) (hb hby at_110) (fun _ _ => ⟨rfl, eh37, (by decide : 3 + 0 ≤ _), (by decide : 6 + 0 ≤ _)⟩)
    dsimp only [Pt.U, Pt.locs, Pt.cells, Pt.slots] at X38 l38 y38 z38 st38 hQ38
    subst l38 y38 z38
    obtain ⟨rfl, Nq38, eh38⟩ := hQ38
    have N38 := Fr.app N37 Nq38
    refine own_by (fun _ k => st38.trans k) ?_
    show own_Fin p e below s _ _ _ T38 (mkF m 113 #[.val (.int p1), .val (.int p2), .val (.int p3), .val (.int p4), .val (.int p5), .val (.int f5), .val (.int f6), .val (.int r1), .val (.int r2), .val (.ref b23), .val (.ref b27), .val (.ref b31), .val (.int (((31 : Int32) * p1) + p2)), .val (.int (((31 : Int32) * p1) + p2)), .val (.int (((31 : Int32) * p1) + p2)), .unset, .unset] [(.int (((31 : Int32) * r1) + r2))])
    refine own_by (fun _ k => XS.istore X38.here hx rfl (hb hby at_113) rfl (l' := #[.val (.int p1), .val (.int p2), .val (.int p3), .val (.int p4), .val (.int p5), .val (.int f5), .val (.int f6), .val (.int r1), .val (.int r2), .val (.ref b23), .val (.ref b27), .val (.ref b31), .val (.int (((31 : Int32) * p1) + p2)), .val (.int (((31 : Int32) * p1) + p2)), .val (.int (((31 : Int32) * p1) + p2)), .val (.int (((31 : Int32) * r1) + r2)), .unset]) rfl (XS.iload X38.here hx rfl (hb hby at_115) rfl (XS.iload X38.here hx rfl (hb hby at_117) rfl k))) ?_
    show own_Fin p e below s _ _ _ T38 (mkF m 119 #[.val (.int p1), .val (.int p2), .val (.int p3), .val (.int p4), .val (.int p5), .val (.int f5), .val (.int f6), .val (.int r1), .val (.int r2), .val (.ref b23), .val (.ref b27), .val (.ref b31), .val (.int (((31 : Int32) * p1) + p2)), .val (.int (((31 : Int32) * p1) + p2)), .val (.int (((31 : Int32) * p1) + p2)), .val (.int (((31 : Int32) * r1) + r2)), .unset] [(.int (((31 : Int32) * p1) + p2)), (.int (((31 : Int32) * p1) + p2))])
    refine own_by (fun _ k => XS.icmpYes X38.here hx rfl (pc0 := 119) (pc' := 124) rfl (hb hby at_119) rfl (teq (rfl : (((31 : Int32) * p1) + p2) = (((31 : Int32) * p1) + p2))).1 (by decide) (by decide) k) ?_
    show own_Fin p e below s _ _ _ T38 (mkF m 124 #[.val (.int p1), .val (.int p2), .val (.int p3), .val (.int p4), .val (.int p5), .val (.int f5), .val (.int f6), .val (.int r1), .val (.int r2), .val (.ref b23), .val (.ref b27), .val (.ref b31), .val (.int (((31 : Int32) * p1) + p2)), .val (.int (((31 : Int32) * p1) + p2)), .val (.int (((31 : Int32) * p1) + p2)), .val (.int (((31 : Int32) * r1) + r2)), .unset] [])
    refine own_by (fun _ k => XS.iload X38.here hx rfl (hb hby at_124) rfl (XS.iload X38.here hx rfl (hb hby at_126) rfl k)) ?_
    show own_Fin p e below s _ _ _ T38 (mkF m 128 #[.val (.int p1), .val (.int p2), .val (.int p3), .val (.int p4), .val (.int p5), .val (.int f5), .val (.int f6), .val (.int r1), .val (.int r2), .val (.ref b23), .val (.ref b27), .val (.ref b31), .val (.int (((31 : Int32) * p1) + p2)), .val (.int (((31 : Int32) * p1) + p2)), .val (.int (((31 : Int32) * p1) + p2)), .val (.int (((31 : Int32) * r1) + r2)), .unset] [(.int (((31 : Int32) * p1) + p2)), (.int (((31 : Int32) * p1) + p2))])
    refine own_by (fun _ k => XS.icmpYes X38.here hx rfl (pc0 := 128) (pc' := 133) rfl (hb hby at_128) rfl (teq (rfl : (((31 : Int32) * p1) + p2) = (((31 : Int32) * p1) + p2))).1 (by decide) (by decide) k) ?_
    show own_Fin p e below s _ _ _ T38 (mkF m 133 #[.val (.int p1), .val (.int p2), .val (.int p3), .val (.int p4), .val (.int p5), .val (.int f5), .val (.int f6), .val (.int r1), .val (.int r2), .val (.ref b23), .val (.ref b27), .val (.ref b31), .val (.int (((31 : Int32) * p1) + p2)), .val (.int (((31 : Int32) * p1) + p2)), .val (.int (((31 : Int32) * p1) + p2)), .val (.int (((31 : Int32) * r1) + r2)), .unset] [])
    refine own_by (fun _ k => XS.aload X38.here hx rfl (hb hby at_133) rfl rfl (XS.aload X38.here hx rfl (hb hby at_135) rfl rfl k)) ?_
    show own_Fin p e below s _ _ _ T38 (mkF m 137 #[.val (.int p1), .val (.int p2), .val (.int p3), .val (.int p4), .val (.int p5), .val (.int f5), .val (.int f6), .val (.int r1), .val (.int r2), .val (.ref b23), .val (.ref b27), .val (.ref b31), .val (.int (((31 : Int32) * p1) + p2)), .val (.int (((31 : Int32) * p1) + p2)), .val (.int (((31 : Int32) * p1) + p2)), .val (.int (((31 : Int32) * r1) + r2)), .unset] [(.ref b31), (.ref b23)])
    obtain ⟨cq39, kq39, q39a, q39b, q39c⟩ := isOf hZ eh38 f34_0
    obtain ⟨_, _, ⟨T39, L39, k39, n39⟩, -, X39, ⟨Lc39, hQ39, l39, y39, z39⟩, st39⟩ := X38.virtualBack hx (y := (⟨"com/example/hinta/hinta/input/Position", "equals", "(Ljava/lang/Object;)Z"⟩ : MethodName)) (z := (⟨"com/example/hinta/hinta/input/Position", "equals", "(Ljava/lang/Object;)Z"⟩ : MethodName)) hown (mvT hZ (hw _ (List.mem_of_getElem? (i := 18) rfl))) (mvT hZ (hw _ (List.mem_of_getElem? (i := 19) rfl))) (notFace_of_selects (args := #[]) (mvT hZ (hw _ (List.mem_of_getElem? (i := 21) rfl)))) (mvT hZ (hw _ (List.mem_of_getElem? (i := 21) rfl))) (mvT hZ (hw _ (List.mem_of_getElem? (i := 20) rfl))) (by decide) (backOf (W := 0) (rm4 l Z a0 hw [] b23 b31 p1 p2 r1 r2 T33.heap n0 Zs33 f34_0 f34_6 f34_1 f34_2 Fl33 Fc33) hZ (hw _ (List.mem_of_getElem? (i := 22) rfl)) (hw _ (List.mem_of_getElem? (i := 2) rfl)) (by decide) (by decide)) q39a q39c (g := (mkF m 137 #[.val (.int p1), .val (.int p2), .val (.int p3), .val (.int p4), .val (.int p5), .val (.int f5), .val (.int f6), .val (.int r1), .val (.int r2), .val (.ref b23), .val (.ref b27), .val (.ref b31), .val (.int (((31 : Int32) * p1) + p2)), .val (.int (((31 : Int32) * p1) + p2)), .val (.int (((31 : Int32) * p1) + p2)), .val (.int (((31 : Int32) * r1) + r2)), .unset] [(.ref b31), (.ref b23)])) rfl (by rw [hml]; rfl) (Steps.refl _) (argsL := [(.ref b31)]) (rest := []) (lenOf own_pd70 rfl) rfl (by show 2 * 0 + _ ≤ _; exact Nat.le_of_eq rfl) (hb hby at_137) (fun _ _ => ⟨rfl, eh38, (by decide : 3 + 0 ≤ _), (by decide : 6 + 0 ≤ _)⟩)
    dsimp only [Pt.U, Pt.locs, Pt.cells, Pt.slots] at X39 l39 y39 z39 st39 hQ39
    subst l39 y39 z39
    obtain ⟨rfl, Nq39, eh39⟩ := hQ39
    have N39 := Fr.app N38 Nq39
    refine own_by (fun _ k => st39.trans k) ?_
    show own_Fin p e below s _ _ _ T39 (mkF m 140 #[.val (.int p1), .val (.int p2), .val (.int p3), .val (.int p4), .val (.int p5), .val (.int f5), .val (.int f6), .val (.int r1), .val (.int r2), .val (.ref b23), .val (.ref b27), .val (.ref b31), .val (.int (((31 : Int32) * p1) + p2)), .val (.int (((31 : Int32) * p1) + p2)), .val (.int (((31 : Int32) * p1) + p2)), .val (.int (((31 : Int32) * r1) + r2)), .unset] [(.int (own_eqv p1 p2 r1 r2))])
    refine own_by (fun _ k => XS.istore X39.here hx rfl (hb hby at_140) rfl (l' := #[.val (.int p1), .val (.int p2), .val (.int p3), .val (.int p4), .val (.int p5), .val (.int f5), .val (.int f6), .val (.int r1), .val (.int r2), .val (.ref b23), .val (.ref b27), .val (.ref b31), .val (.int (((31 : Int32) * p1) + p2)), .val (.int (((31 : Int32) * p1) + p2)), .val (.int (((31 : Int32) * p1) + p2)), .val (.int (((31 : Int32) * r1) + r2)), .val (.int (own_eqv p1 p2 r1 r2))]) rfl (XS.iload X39.here hx rfl (hb hby at_142) rfl k)) ?_
    show own_Fin p e below s _ _ _ T39 (mkF m 144 #[.val (.int p1), .val (.int p2), .val (.int p3), .val (.int p4), .val (.int p5), .val (.int f5), .val (.int f6), .val (.int r1), .val (.int r2), .val (.ref b23), .val (.ref b27), .val (.ref b31), .val (.int (((31 : Int32) * p1) + p2)), .val (.int (((31 : Int32) * p1) + p2)), .val (.int (((31 : Int32) * p1) + p2)), .val (.int (((31 : Int32) * r1) + r2)), .val (.int (own_eqv p1 p2 r1 r2))] [(.int (own_eqv p1 p2 r1 r2))])
    by_cases hc144_40 : (own_eqv p1 p2 r1 r2) = (0 : Int32)
    · show own_Fin p e below s _ _ _ T39 (mkF m 144 #[.val (.int p1), .val (.int p2), .val (.int p3), .val (.int p4), .val (.int p5), .val (.int f5), .val (.int f6), .val (.int r1), .val (.int r2), .val (.ref b23), .val (.ref b27), .val (.ref b31), .val (.int (((31 : Int32) * p1) + p2)), .val (.int (((31 : Int32) * p1) + p2)), .val (.int (((31 : Int32) * p1) + p2)), .val (.int (((31 : Int32) * r1) + r2)), .val (.int (own_eqv p1 p2 r1 r2))] [(.int (own_eqv p1 p2 r1 r2))])
      refine own_by (fun _ k => XS.ifYes X39.here hx rfl (pc0 := 144) (pc' := 156) rfl (hb hby at_144) rfl ((if0 _ _).trans (teq hc144_40).1) (by decide) (by decide) k) ?_
      show own_Fin p e below s _ _ _ T39 (mkF m 156 #[.val (.int p1), .val (.int p2), .val (.int p3), .val (.int p4), .val (.int p5), .val (.int f5), .val (.int f6), .val (.int r1), .val (.int r2), .val (.ref b23), .val (.ref b27), .val (.ref b31), .val (.int (((31 : Int32) * p1) + p2)), .val (.int (((31 : Int32) * p1) + p2)), .val (.int (((31 : Int32) * p1) + p2)), .val (.int (((31 : Int32) * r1) + r2)), .val (.int (own_eqv p1 p2 r1 r2))] [])
      refine own_by (fun _ k => XS.iconst X39.here hx rfl (hb hby at_156) k) ?_
      show own_Fin p e below s _ _ _ T39 (mkF m 157 #[.val (.int p1), .val (.int p2), .val (.int p3), .val (.int p4), .val (.int p5), .val (.int f5), .val (.int f6), .val (.int r1), .val (.int r2), .val (.ref b23), .val (.ref b27), .val (.ref b31), .val (.int (((31 : Int32) * p1) + p2)), .val (.int (((31 : Int32) * p1) + p2)), .val (.int (((31 : Int32) * p1) + p2)), .val (.int (((31 : Int32) * r1) + r2)), .val (.int (own_eqv p1 p2 r1 r2))] [(.int (1 : Int32))])
      exact own_retZ X39 hx hlk (t := .boolean) Bd.returns (by simp) (hb hby at_157) ⟨rfl, N39⟩ (by decide) (by decide)
    · show own_Fin p e below s _ _ _ T39 (mkF m 144 #[.val (.int p1), .val (.int p2), .val (.int p3), .val (.int p4), .val (.int p5), .val (.int f5), .val (.int f6), .val (.int r1), .val (.int r2), .val (.ref b23), .val (.ref b27), .val (.ref b31), .val (.int (((31 : Int32) * p1) + p2)), .val (.int (((31 : Int32) * p1) + p2)), .val (.int (((31 : Int32) * p1) + p2)), .val (.int (((31 : Int32) * r1) + r2)), .val (.int (own_eqv p1 p2 r1 r2))] [(.int (own_eqv p1 p2 r1 r2))])
      refine own_by (fun _ k => XS.ifNo X39.here hx rfl (hb hby at_144) rfl ((if0 _ _).trans (feq hc144_40).1) k) ?_
      show own_Fin p e below s _ _ _ T39 (mkF m 147 #[.val (.int p1), .val (.int p2), .val (.int p3), .val (.int p4), .val (.int p5), .val (.int f5), .val (.int f6), .val (.int r1), .val (.int r2), .val (.ref b23), .val (.ref b27), .val (.ref b31), .val (.int (((31 : Int32) * p1) + p2)), .val (.int (((31 : Int32) * p1) + p2)), .val (.int (((31 : Int32) * p1) + p2)), .val (.int (((31 : Int32) * r1) + r2)), .val (.int (own_eqv p1 p2 r1 r2))] [])
      refine own_by (fun _ k => XS.iload X39.here hx rfl (hb hby at_147) rfl (XS.iload X39.here hx rfl (hb hby at_149) rfl k)) ?_
      show own_Fin p e below s _ _ _ T39 (mkF m 151 #[.val (.int p1), .val (.int p2), .val (.int p3), .val (.int p4), .val (.int p5), .val (.int f5), .val (.int f6), .val (.int r1), .val (.int r2), .val (.ref b23), .val (.ref b27), .val (.ref b31), .val (.int (((31 : Int32) * p1) + p2)), .val (.int (((31 : Int32) * p1) + p2)), .val (.int (((31 : Int32) * p1) + p2)), .val (.int (((31 : Int32) * r1) + r2)), .val (.int (own_eqv p1 p2 r1 r2))] [(.int (((31 : Int32) * r1) + r2)), (.int (((31 : Int32) * p1) + p2))])
      refine own_by (fun _ k => XS.icmpYes X39.here hx rfl (pc0 := 151) (pc' := 156) rfl (hb hby at_151) rfl (teq (own_hash hc144_40)).1 (by decide) (by decide) k) ?_
      show own_Fin p e below s _ _ _ T39 (mkF m 156 #[.val (.int p1), .val (.int p2), .val (.int p3), .val (.int p4), .val (.int p5), .val (.int f5), .val (.int f6), .val (.int r1), .val (.int r2), .val (.ref b23), .val (.ref b27), .val (.ref b31), .val (.int (((31 : Int32) * p1) + p2)), .val (.int (((31 : Int32) * p1) + p2)), .val (.int (((31 : Int32) * p1) + p2)), .val (.int (((31 : Int32) * r1) + r2)), .val (.int (own_eqv p1 p2 r1 r2))] [])
      refine own_by (fun _ k => XS.iconst X39.here hx rfl (hb hby at_156) k) ?_
      show own_Fin p e below s _ _ _ T39 (mkF m 157 #[.val (.int p1), .val (.int p2), .val (.int p3), .val (.int p4), .val (.int p5), .val (.int f5), .val (.int f6), .val (.int r1), .val (.int r2), .val (.ref b23), .val (.ref b27), .val (.ref b31), .val (.int (((31 : Int32) * p1) + p2)), .val (.int (((31 : Int32) * p1) + p2)), .val (.int (((31 : Int32) * p1) + p2)), .val (.int (((31 : Int32) * r1) + r2)), .val (.int (own_eqv p1 p2 r1 r2))] [(.int (1 : Int32))])
      exact own_retZ X39 hx hlk (t := .boolean) Bd.returns (by simp) (hb hby at_157) ⟨rfl, N39⟩ (by decide) (by decide)
  show own_Fin p e below s _ _ _ s₁ (mkF m 0 #[.val (.int p1), .val (.int p2), .val (.int p3), .val (.int p4), .val (.int p5), .unset, .unset, .unset, .unset, .unset, .unset, .unset, .unset, .unset, .unset, .unset, .unset] [])
  refine own_by (fun _ k => XS.iload X0.here hx rfl (hb hby at_0) rfl (XS.iconst X0.here hx rfl (hb hby at_2) (XS.iand X0.here hx rfl (hb hby at_3) rfl k))) ?_
  show own_Fin p e below s _ _ _ s₁ (mkF m 4 #[.val (.int p1), .val (.int p2), .val (.int p3), .val (.int p4), .val (.int p5), .unset, .unset, .unset, .unset, .unset, .unset, .unset, .unset, .unset, .unset, .unset, .unset] [(.int (p5 &&& (1 : Int32)))])
  by_cases hc4_41 : (p5 &&& (1 : Int32)) = (0 : Int32)
  · show own_Fin p e below s _ _ _ s₁ (mkF m 4 #[.val (.int p1), .val (.int p2), .val (.int p3), .val (.int p4), .val (.int p5), .unset, .unset, .unset, .unset, .unset, .unset, .unset, .unset, .unset, .unset, .unset, .unset] [(.int (p5 &&& (1 : Int32)))])
    refine own_by (fun _ k => XS.ifYes X0.here hx rfl (pc0 := 4) (pc' := 11) rfl (hb hby at_4) rfl ((if0 _ _).trans (teq hc4_41).1) (by decide) (by decide) k) ?_
    show own_Fin p e below s _ _ _ s₁ (mkF m 11 #[.val (.int p1), .val (.int p2), .val (.int p3), .val (.int p4), .val (.int p5), .unset, .unset, .unset, .unset, .unset, .unset, .unset, .unset, .unset, .unset, .unset, .unset] [])
    refine own_by (fun _ k => XS.iconst X0.here hx rfl (hb hby at_11) (XS.istore X0.here hx rfl (hb hby at_12) rfl (l' := #[.val (.int p1), .val (.int p2), .val (.int p3), .val (.int p4), .val (.int p5), .val (.int (0 : Int32)), .unset, .unset, .unset, .unset, .unset, .unset, .unset, .unset, .unset, .unset, .unset]) rfl (XS.iload X0.here hx rfl (hb hby at_14) rfl (XS.iconst X0.here hx rfl (hb hby at_16) (XS.iand X0.here hx rfl (hb hby at_17) rfl k))))) ?_
    show own_Fin p e below s _ _ _ s₁ (mkF m 18 #[.val (.int p1), .val (.int p2), .val (.int p3), .val (.int p4), .val (.int p5), .val (.int (0 : Int32)), .unset, .unset, .unset, .unset, .unset, .unset, .unset, .unset, .unset, .unset, .unset] [(.int (p5 &&& (2 : Int32)))])
    by_cases hc18_42 : (p5 &&& (2 : Int32)) = (0 : Int32)
    · show own_Fin p e below s _ _ _ s₁ (mkF m 18 #[.val (.int p1), .val (.int p2), .val (.int p3), .val (.int p4), .val (.int p5), .val (.int (0 : Int32)), .unset, .unset, .unset, .unset, .unset, .unset, .unset, .unset, .unset, .unset, .unset] [(.int (p5 &&& (2 : Int32)))])
      refine own_by (fun _ k => XS.ifYes X0.here hx rfl (pc0 := 18) (pc' := 25) rfl (hb hby at_18) rfl ((if0 _ _).trans (teq hc18_42).1) (by decide) (by decide) k) ?_
      show own_Fin p e below s _ _ _ s₁ (mkF m 25 #[.val (.int p1), .val (.int p2), .val (.int p3), .val (.int p4), .val (.int p5), .val (.int (0 : Int32)), .unset, .unset, .unset, .unset, .unset, .unset, .unset, .unset, .unset, .unset, .unset] [])
      refine own_by (fun _ k => XS.iconst X0.here hx rfl (hb hby at_25) (XS.istore X0.here hx rfl (hb hby at_26) rfl (l' := #[.val (.int p1), .val (.int p2), .val (.int p3), .val (.int p4), .val (.int p5), .val (.int (0 : Int32)), .val (.int (0 : Int32)), .unset, .unset, .unset, .unset, .unset, .unset, .unset, .unset, .unset, .unset]) rfl (XS.iload X0.here hx rfl (hb hby at_28) rfl k))) ?_
      show own_Fin p e below s _ _ _ s₁ (mkF m 30 #[.val (.int p1), .val (.int p2), .val (.int p3), .val (.int p4), .val (.int p5), .val (.int (0 : Int32)), .val (.int (0 : Int32)), .unset, .unset, .unset, .unset, .unset, .unset, .unset, .unset, .unset, .unset] [(.int (0 : Int32))])
      refine own_by (fun _ k => XS.ifYes X0.here hx rfl (pc0 := 30) (pc' := 37) rfl (hb hby at_30) rfl ((if0 _ _).trans (teq (by decide : (0 : Int32) = (0 : Int32))).1) (by decide) (by decide) k) ?_
      show own_Fin p e below s _ _ _ s₁ (mkF m 37 #[.val (.int p1), .val (.int p2), .val (.int p3), .val (.int p4), .val (.int p5), .val (.int (0 : Int32)), .val (.int (0 : Int32)), .unset, .unset, .unset, .unset, .unset, .unset, .unset, .unset, .unset, .unset] [])
      refine own_by (fun _ k => XS.iloadN X0.here hx rfl (hb hby at_37) rfl (XS.istore X0.here hx rfl (hb hby at_38) rfl (l' := #[.val (.int p1), .val (.int p2), .val (.int p3), .val (.int p4), .val (.int p5), .val (.int (0 : Int32)), .val (.int (0 : Int32)), .val (.int p3), .unset, .unset, .unset, .unset, .unset, .unset, .unset, .unset, .unset]) rfl (XS.iload X0.here hx rfl (hb hby at_40) rfl k))) ?_
      show own_Fin p e below s _ _ _ s₁ (mkF m 42 #[.val (.int p1), .val (.int p2), .val (.int p3), .val (.int p4), .val (.int p5), .val (.int (0 : Int32)), .val (.int (0 : Int32)), .val (.int p3), .unset, .unset, .unset, .unset, .unset, .unset, .unset, .unset, .unset] [(.int (0 : Int32))])
      refine own_by (fun _ k => XS.ifYes X0.here hx rfl (pc0 := 42) (pc' := 49) rfl (hb hby at_42) rfl ((if0 _ _).trans (teq (by decide : (0 : Int32) = (0 : Int32))).1) (by decide) (by decide) k) ?_
      show own_Fin p e below s _ _ _ s₁ (mkF m 49 #[.val (.int p1), .val (.int p2), .val (.int p3), .val (.int p4), .val (.int p5), .val (.int (0 : Int32)), .val (.int (0 : Int32)), .val (.int p3), .unset, .unset, .unset, .unset, .unset, .unset, .unset, .unset, .unset] [])
      refine own_by (fun _ k => XS.iloadN X0.here hx rfl (hb hby at_49) rfl (XS.istore X0.here hx rfl (hb hby at_50) rfl (l' := #[.val (.int p1), .val (.int p2), .val (.int p3), .val (.int p4), .val (.int p5), .val (.int (0 : Int32)), .val (.int (0 : Int32)), .val (.int p3), .val (.int p4), .unset, .unset, .unset, .unset, .unset, .unset, .unset, .unset]) rfl k)) ?_
      show own_Fin p e below s _ _ _ s₁ (mkF m 52 #[.val (.int p1), .val (.int p2), .val (.int p3), .val (.int p4), .val (.int p5), .val (.int (0 : Int32)), .val (.int (0 : Int32)), .val (.int p3), .val (.int p4), .unset, .unset, .unset, .unset, .unset, .unset, .unset, .unset] [])
      exact J52_22 ((0 : Int32)) ((0 : Int32)) (p3) (p4) 
    · show own_Fin p e below s _ _ _ s₁ (mkF m 18 #[.val (.int p1), .val (.int p2), .val (.int p3), .val (.int p4), .val (.int p5), .val (.int (0 : Int32)), .unset, .unset, .unset, .unset, .unset, .unset, .unset, .unset, .unset, .unset, .unset] [(.int (p5 &&& (2 : Int32)))])
      refine own_by (fun _ k => XS.ifNo X0.here hx rfl (hb hby at_18) rfl ((if0 _ _).trans (feq hc18_42).1) k) ?_
      show own_Fin p e below s _ _ _ s₁ (mkF m 21 #[.val (.int p1), .val (.int p2), .val (.int p3), .val (.int p4), .val (.int p5), .val (.int (0 : Int32)), .unset, .unset, .unset, .unset, .unset, .unset, .unset, .unset, .unset, .unset, .unset] [])
      refine own_by (fun _ k => XS.iconst X0.here hx rfl (hb hby at_21) (XS.goto X0.here hx rfl (pc0 := 22) (pc' := 26) rfl (hb hby at_22) (by decide) (by decide) (XS.istore X0.here hx rfl (hb hby at_26) rfl (l' := #[.val (.int p1), .val (.int p2), .val (.int p3), .val (.int p4), .val (.int p5), .val (.int (0 : Int32)), .val (.int (1 : Int32)), .unset, .unset, .unset, .unset, .unset, .unset, .unset, .unset, .unset, .unset]) rfl (XS.iload X0.here hx rfl (hb hby at_28) rfl k)))) ?_
      show own_Fin p e below s _ _ _ s₁ (mkF m 30 #[.val (.int p1), .val (.int p2), .val (.int p3), .val (.int p4), .val (.int p5), .val (.int (0 : Int32)), .val (.int (1 : Int32)), .unset, .unset, .unset, .unset, .unset, .unset, .unset, .unset, .unset, .unset] [(.int (0 : Int32))])
      refine own_by (fun _ k => XS.ifYes X0.here hx rfl (pc0 := 30) (pc' := 37) rfl (hb hby at_30) rfl ((if0 _ _).trans (teq (by decide : (0 : Int32) = (0 : Int32))).1) (by decide) (by decide) k) ?_
      show own_Fin p e below s _ _ _ s₁ (mkF m 37 #[.val (.int p1), .val (.int p2), .val (.int p3), .val (.int p4), .val (.int p5), .val (.int (0 : Int32)), .val (.int (1 : Int32)), .unset, .unset, .unset, .unset, .unset, .unset, .unset, .unset, .unset, .unset] [])
      refine own_by (fun _ k => XS.iloadN X0.here hx rfl (hb hby at_37) rfl (XS.istore X0.here hx rfl (hb hby at_38) rfl (l' := #[.val (.int p1), .val (.int p2), .val (.int p3), .val (.int p4), .val (.int p5), .val (.int (0 : Int32)), .val (.int (1 : Int32)), .val (.int p3), .unset, .unset, .unset, .unset, .unset, .unset, .unset, .unset, .unset]) rfl (XS.iload X0.here hx rfl (hb hby at_40) rfl k))) ?_
      show own_Fin p e below s _ _ _ s₁ (mkF m 42 #[.val (.int p1), .val (.int p2), .val (.int p3), .val (.int p4), .val (.int p5), .val (.int (0 : Int32)), .val (.int (1 : Int32)), .val (.int p3), .unset, .unset, .unset, .unset, .unset, .unset, .unset, .unset, .unset] [(.int (1 : Int32))])
      refine own_by (fun _ k => XS.ifNo X0.here hx rfl (hb hby at_42) rfl ((if0 _ _).trans (feq (by decide : ¬ ((1 : Int32) = (0 : Int32)))).1) k) ?_
      show own_Fin p e below s _ _ _ s₁ (mkF m 45 #[.val (.int p1), .val (.int p2), .val (.int p3), .val (.int p4), .val (.int p5), .val (.int (0 : Int32)), .val (.int (1 : Int32)), .val (.int p3), .unset, .unset, .unset, .unset, .unset, .unset, .unset, .unset, .unset] [])
      refine own_by (fun _ k => XS.iloadN X0.here hx rfl (hb hby at_45) rfl (XS.goto X0.here hx rfl (pc0 := 46) (pc' := 50) rfl (hb hby at_46) (by decide) (by decide) (XS.istore X0.here hx rfl (hb hby at_50) rfl (l' := #[.val (.int p1), .val (.int p2), .val (.int p3), .val (.int p4), .val (.int p5), .val (.int (0 : Int32)), .val (.int (1 : Int32)), .val (.int p3), .val (.int p2), .unset, .unset, .unset, .unset, .unset, .unset, .unset, .unset]) rfl k))) ?_
      show own_Fin p e below s _ _ _ s₁ (mkF m 52 #[.val (.int p1), .val (.int p2), .val (.int p3), .val (.int p4), .val (.int p5), .val (.int (0 : Int32)), .val (.int (1 : Int32)), .val (.int p3), .val (.int p2), .unset, .unset, .unset, .unset, .unset, .unset, .unset, .unset] [])
      exact J52_22 ((0 : Int32)) ((1 : Int32)) (p3) (p2) 
  · show own_Fin p e below s _ _ _ s₁ (mkF m 4 #[.val (.int p1), .val (.int p2), .val (.int p3), .val (.int p4), .val (.int p5), .unset, .unset, .unset, .unset, .unset, .unset, .unset, .unset, .unset, .unset, .unset, .unset] [(.int (p5 &&& (1 : Int32)))])
    refine own_by (fun _ k => XS.ifNo X0.here hx rfl (hb hby at_4) rfl ((if0 _ _).trans (feq hc4_41).1) k) ?_
    show own_Fin p e below s _ _ _ s₁ (mkF m 7 #[.val (.int p1), .val (.int p2), .val (.int p3), .val (.int p4), .val (.int p5), .unset, .unset, .unset, .unset, .unset, .unset, .unset, .unset, .unset, .unset, .unset, .unset] [])
    refine own_by (fun _ k => XS.iconst X0.here hx rfl (hb hby at_7) (XS.goto X0.here hx rfl (pc0 := 8) (pc' := 12) rfl (hb hby at_8) (by decide) (by decide) (XS.istore X0.here hx rfl (hb hby at_12) rfl (l' := #[.val (.int p1), .val (.int p2), .val (.int p3), .val (.int p4), .val (.int p5), .val (.int (1 : Int32)), .unset, .unset, .unset, .unset, .unset, .unset, .unset, .unset, .unset, .unset, .unset]) rfl (XS.iload X0.here hx rfl (hb hby at_14) rfl (XS.iconst X0.here hx rfl (hb hby at_16) (XS.iand X0.here hx rfl (hb hby at_17) rfl k)))))) ?_
    show own_Fin p e below s _ _ _ s₁ (mkF m 18 #[.val (.int p1), .val (.int p2), .val (.int p3), .val (.int p4), .val (.int p5), .val (.int (1 : Int32)), .unset, .unset, .unset, .unset, .unset, .unset, .unset, .unset, .unset, .unset, .unset] [(.int (p5 &&& (2 : Int32)))])
    by_cases hc18_43 : (p5 &&& (2 : Int32)) = (0 : Int32)
    · show own_Fin p e below s _ _ _ s₁ (mkF m 18 #[.val (.int p1), .val (.int p2), .val (.int p3), .val (.int p4), .val (.int p5), .val (.int (1 : Int32)), .unset, .unset, .unset, .unset, .unset, .unset, .unset, .unset, .unset, .unset, .unset] [(.int (p5 &&& (2 : Int32)))])
      refine own_by (fun _ k => XS.ifYes X0.here hx rfl (pc0 := 18) (pc' := 25) rfl (hb hby at_18) rfl ((if0 _ _).trans (teq hc18_43).1) (by decide) (by decide) k) ?_
      show own_Fin p e below s _ _ _ s₁ (mkF m 25 #[.val (.int p1), .val (.int p2), .val (.int p3), .val (.int p4), .val (.int p5), .val (.int (1 : Int32)), .unset, .unset, .unset, .unset, .unset, .unset, .unset, .unset, .unset, .unset, .unset] [])
      refine own_by (fun _ k => XS.iconst X0.here hx rfl (hb hby at_25) (XS.istore X0.here hx rfl (hb hby at_26) rfl (l' := #[.val (.int p1), .val (.int p2), .val (.int p3), .val (.int p4), .val (.int p5), .val (.int (1 : Int32)), .val (.int (0 : Int32)), .unset, .unset, .unset, .unset, .unset, .unset, .unset, .unset, .unset, .unset]) rfl (XS.iload X0.here hx rfl (hb hby at_28) rfl k))) ?_
      show own_Fin p e below s _ _ _ s₁ (mkF m 30 #[.val (.int p1), .val (.int p2), .val (.int p3), .val (.int p4), .val (.int p5), .val (.int (1 : Int32)), .val (.int (0 : Int32)), .unset, .unset, .unset, .unset, .unset, .unset, .unset, .unset, .unset, .unset] [(.int (1 : Int32))])
      refine own_by (fun _ k => XS.ifNo X0.here hx rfl (hb hby at_30) rfl ((if0 _ _).trans (feq (by decide : ¬ ((1 : Int32) = (0 : Int32)))).1) k) ?_
      show own_Fin p e below s _ _ _ s₁ (mkF m 33 #[.val (.int p1), .val (.int p2), .val (.int p3), .val (.int p4), .val (.int p5), .val (.int (1 : Int32)), .val (.int (0 : Int32)), .unset, .unset, .unset, .unset, .unset, .unset, .unset, .unset, .unset, .unset] [])
      refine own_by (fun _ k => XS.iloadN X0.here hx rfl (hb hby at_33) rfl (XS.goto X0.here hx rfl (pc0 := 34) (pc' := 38) rfl (hb hby at_34) (by decide) (by decide) (XS.istore X0.here hx rfl (hb hby at_38) rfl (l' := #[.val (.int p1), .val (.int p2), .val (.int p3), .val (.int p4), .val (.int p5), .val (.int (1 : Int32)), .val (.int (0 : Int32)), .val (.int p1), .unset, .unset, .unset, .unset, .unset, .unset, .unset, .unset, .unset]) rfl (XS.iload X0.here hx rfl (hb hby at_40) rfl k)))) ?_
      show own_Fin p e below s _ _ _ s₁ (mkF m 42 #[.val (.int p1), .val (.int p2), .val (.int p3), .val (.int p4), .val (.int p5), .val (.int (1 : Int32)), .val (.int (0 : Int32)), .val (.int p1), .unset, .unset, .unset, .unset, .unset, .unset, .unset, .unset, .unset] [(.int (0 : Int32))])
      refine own_by (fun _ k => XS.ifYes X0.here hx rfl (pc0 := 42) (pc' := 49) rfl (hb hby at_42) rfl ((if0 _ _).trans (teq (by decide : (0 : Int32) = (0 : Int32))).1) (by decide) (by decide) k) ?_
      show own_Fin p e below s _ _ _ s₁ (mkF m 49 #[.val (.int p1), .val (.int p2), .val (.int p3), .val (.int p4), .val (.int p5), .val (.int (1 : Int32)), .val (.int (0 : Int32)), .val (.int p1), .unset, .unset, .unset, .unset, .unset, .unset, .unset, .unset, .unset] [])
      refine own_by (fun _ k => XS.iloadN X0.here hx rfl (hb hby at_49) rfl (XS.istore X0.here hx rfl (hb hby at_50) rfl (l' := #[.val (.int p1), .val (.int p2), .val (.int p3), .val (.int p4), .val (.int p5), .val (.int (1 : Int32)), .val (.int (0 : Int32)), .val (.int p1), .val (.int p4), .unset, .unset, .unset, .unset, .unset, .unset, .unset, .unset]) rfl k)) ?_
      show own_Fin p e below s _ _ _ s₁ (mkF m 52 #[.val (.int p1), .val (.int p2), .val (.int p3), .val (.int p4), .val (.int p5), .val (.int (1 : Int32)), .val (.int (0 : Int32)), .val (.int p1), .val (.int p4), .unset, .unset, .unset, .unset, .unset, .unset, .unset, .unset] [])
      exact J52_22 ((1 : Int32)) ((0 : Int32)) (p1) (p4) 
    · show own_Fin p e below s _ _ _ s₁ (mkF m 18 #[.val (.int p1), .val (.int p2), .val (.int p3), .val (.int p4), .val (.int p5), .val (.int (1 : Int32)), .unset, .unset, .unset, .unset, .unset, .unset, .unset, .unset, .unset, .unset, .unset] [(.int (p5 &&& (2 : Int32)))])
      refine own_by (fun _ k => XS.ifNo X0.here hx rfl (hb hby at_18) rfl ((if0 _ _).trans (feq hc18_43).1) k) ?_
      show own_Fin p e below s _ _ _ s₁ (mkF m 21 #[.val (.int p1), .val (.int p2), .val (.int p3), .val (.int p4), .val (.int p5), .val (.int (1 : Int32)), .unset, .unset, .unset, .unset, .unset, .unset, .unset, .unset, .unset, .unset, .unset] [])
      refine own_by (fun _ k => XS.iconst X0.here hx rfl (hb hby at_21) (XS.goto X0.here hx rfl (pc0 := 22) (pc' := 26) rfl (hb hby at_22) (by decide) (by decide) (XS.istore X0.here hx rfl (hb hby at_26) rfl (l' := #[.val (.int p1), .val (.int p2), .val (.int p3), .val (.int p4), .val (.int p5), .val (.int (1 : Int32)), .val (.int (1 : Int32)), .unset, .unset, .unset, .unset, .unset, .unset, .unset, .unset, .unset, .unset]) rfl (XS.iload X0.here hx rfl (hb hby at_28) rfl k)))) ?_
      show own_Fin p e below s _ _ _ s₁ (mkF m 30 #[.val (.int p1), .val (.int p2), .val (.int p3), .val (.int p4), .val (.int p5), .val (.int (1 : Int32)), .val (.int (1 : Int32)), .unset, .unset, .unset, .unset, .unset, .unset, .unset, .unset, .unset, .unset] [(.int (1 : Int32))])
      refine own_by (fun _ k => XS.ifNo X0.here hx rfl (hb hby at_30) rfl ((if0 _ _).trans (feq (by decide : ¬ ((1 : Int32) = (0 : Int32)))).1) k) ?_
      show own_Fin p e below s _ _ _ s₁ (mkF m 33 #[.val (.int p1), .val (.int p2), .val (.int p3), .val (.int p4), .val (.int p5), .val (.int (1 : Int32)), .val (.int (1 : Int32)), .unset, .unset, .unset, .unset, .unset, .unset, .unset, .unset, .unset, .unset] [])
      refine own_by (fun _ k => XS.iloadN X0.here hx rfl (hb hby at_33) rfl (XS.goto X0.here hx rfl (pc0 := 34) (pc' := 38) rfl (hb hby at_34) (by decide) (by decide) (XS.istore X0.here hx rfl (hb hby at_38) rfl (l' := #[.val (.int p1), .val (.int p2), .val (.int p3), .val (.int p4), .val (.int p5), .val (.int (1 : Int32)), .val (.int (1 : Int32)), .val (.int p1), .unset, .unset, .unset, .unset, .unset, .unset, .unset, .unset, .unset]) rfl (XS.iload X0.here hx rfl (hb hby at_40) rfl k)))) ?_
      show own_Fin p e below s _ _ _ s₁ (mkF m 42 #[.val (.int p1), .val (.int p2), .val (.int p3), .val (.int p4), .val (.int p5), .val (.int (1 : Int32)), .val (.int (1 : Int32)), .val (.int p1), .unset, .unset, .unset, .unset, .unset, .unset, .unset, .unset, .unset] [(.int (1 : Int32))])
      refine own_by (fun _ k => XS.ifNo X0.here hx rfl (hb hby at_42) rfl ((if0 _ _).trans (feq (by decide : ¬ ((1 : Int32) = (0 : Int32)))).1) k) ?_
      show own_Fin p e below s _ _ _ s₁ (mkF m 45 #[.val (.int p1), .val (.int p2), .val (.int p3), .val (.int p4), .val (.int p5), .val (.int (1 : Int32)), .val (.int (1 : Int32)), .val (.int p1), .unset, .unset, .unset, .unset, .unset, .unset, .unset, .unset, .unset] [])
      refine own_by (fun _ k => XS.iloadN X0.here hx rfl (hb hby at_45) rfl (XS.goto X0.here hx rfl (pc0 := 46) (pc' := 50) rfl (hb hby at_46) (by decide) (by decide) (XS.istore X0.here hx rfl (hb hby at_50) rfl (l' := #[.val (.int p1), .val (.int p2), .val (.int p3), .val (.int p4), .val (.int p5), .val (.int (1 : Int32)), .val (.int (1 : Int32)), .val (.int p1), .val (.int p2), .unset, .unset, .unset, .unset, .unset, .unset, .unset, .unset]) rfl k))) ?_
      show own_Fin p e below s _ _ _ s₁ (mkF m 52 #[.val (.int p1), .val (.int p2), .val (.int p3), .val (.int p4), .val (.int p5), .val (.int (1 : Int32)), .val (.int (1 : Int32)), .val (.int p1), .val (.int p2), .unset, .unset, .unset, .unset, .unset, .unset, .unset, .unset] [])
      exact J52_22 ((1 : Int32)) ((1 : Int32)) (p1) (p2) 
set_option maxRecDepth 65536 in
set_option maxHeartbeats 40000000 in
theorem comes_1 {Post : Tables → Env → Array Value → State → Outcome → State → Prop} (hpost : ∀ tb e args s v u, (limb_1_1.after args s (.returned v) u = true ∧ limb_1_2.after args s (.returned v) u = true ∧ True) → FrameEnd s (.returned v) u (Jvm.fieldLocs frame_1_writes args s ++ Jvm.arrayLocs frame_1_arrays args s ++ Jvm.staticLocs frame_1_statics s) 16 128 → Post tb e args s (.returned v) u) :
    ArmFor flags0 classFile x code maxLocals ret World_1 tables_1 room_1 Calls_1 rest_1 Pre_1 Post := by
  intro l hfl _ _ p e ha hc hk s m args below hf hA hF happ hP
  obtain ⟨hcalls, hrest, hpre⟩ := hP
  obtain ⟨-, -, -, hnamed, -, -, -, hat⟩ := (Spec.applies_iff hf).mp happ
  obtain ⟨hg, hn⟩ := and_e (Cond.before_iff.mp (show (Jvm.Cond.and given_1 narrow_1).before args s = true from hpre))
  obtain ⟨gc, gr0⟩ := and_e hg
  obtain ⟨ga0, gr1⟩ := and_e gr0
  obtain ⟨ga1, gr2⟩ := and_e gr1
  obtain ⟨ga2, gr3⟩ := and_e gr2
  obtain ⟨ga3, gr4⟩ := and_e gr3
  obtain ⟨w0, w1, w2, w3, w4, rfl⟩ : ∃ w0 w1 w2 w3 w4 : Value, args = #[w0, w1, w2, w3, w4] := by
    have hs : args.size = 5 := by simpa [Cond.value, given_1] using gc
    obtain ⟨L⟩ := args
    match L, hs with
    | [w0, w1, w2, w3, w4], _ => exact ⟨w0, w1, w2, w3, w4, rfl⟩
  have hw := fun d (hd : d ∈ tables_1) => atoms_spec (ws := Jvm.Cond.code x code maxLocals ret :: tables_1) hat d (List.mem_cons_of_mem _ hd)
  have hfit : Fit s := fun {y c} hc i hi => by
    obtain ⟨ha, rfl⟩ := Array.getElem?_eq_some_iff.mp hc
    have q := List.all_eq_true.mp ((Array.all_eq_true_iff_forall_mem.mp hF) _ (Array.getElem_mem ha)) i (List.mem_range.mpr hi)
    simpa [Array.getElem?_eq_getElem hi] using q
  obtain ⟨i0, ei0⟩ := is_v ga0
  obtain rfl : w0 = (.int i0) := Option.some.inj ei0
  obtain ⟨i1, ei1⟩ := is_v ga1
  obtain rfl : w1 = (.int i1) := Option.some.inj ei1
  obtain ⟨i2, ei2⟩ := is_v ga2
  obtain rfl : w2 = (.int i2) := Option.some.inj ei2
  obtain ⟨i3, ei3⟩ := is_v ga3
  obtain rfl : w3 = (.int i3) := Option.some.inj ei3
  obtain ⟨i4, ei4⟩ := is_v gr4
  obtain rfl : w4 = (.int i4) := Option.some.inj ei4
  obtain ⟨n, o, h1, h2, h3, _, L, rfl, ⟨rfl, N⟩, hq⟩ := rm0 l s _ hw tables_1 i0 i1 i2 i3 i4 s.heap s.heap.size (Nat.le_refl _) p e ha hc hk s m _ below hf ((Spec.applies_iff_loose hf).mp happ).1 ⟨rfl, State.Warmed39.refl s, rfl⟩ trivial
  refine ⟨n, _, h1, h2, h3, hpost _ _ _ _ _ _ ⟨Cond.after_iff.mpr rfl, Cond.after_iff.mpr (eq_i res_at (Term.int_eval (1)) rfl), trivial⟩ ⟨hq.1, hq.2.1, (hq.2.2.sift fun y hy => Or.inr (N y hy)).mono (by decide) (by decide)⟩⟩
theorem main_1_1 : Claimed_1_1 := comes_1 fun _ _ _ _ _ _ h hF => ⟨h.1, hF⟩
theorem main_1_2 : Claimed_1_2 := comes_1 fun _ _ _ _ _ _ h hF => ⟨h.2.1, hF⟩
end Jvm.Pilot.@@N@@
namespace Jvm.Pilot.@@N@@
open Jvm Jvm.ClassFile Sem Op Lib Jvm.Free Jvm.Stand Jvm.Pilot.@@N@@.Jvm.D
/-! MADE BY PROGRAM (witnessworld.py) out of the Statement's table words and the real class files: 14 classes; the members and pool entries that the words name. The judged class is class 1, her method 1. -/
namespace start1
open Jvm.ClassFile
def u (s : String) : CpInfo := .utf8 (stringToUtf16 s)
/-- a pool by its gaps: so many unusable entries, then the entry; so many at the end -/
def gap : Nat → List CpInfo → List CpInfo
  | 0, r => r
  | n + 1, r => .unusable :: gap n r
def poolList (es : List (Nat × CpInfo)) (last : Nat) : List CpInfo := es.foldr (fun e r => gap e.1 (e.2 :: r)) (gap last [])
def pool (es : List (Nat × CpInfo)) (last : Nat) : Array CpInfo := ⟨poolList es last⟩
def fileOf (pool : Array CpInfo) (this : Nat) (attrs : Array Attribute := #[]) (ms : Array MethodInfo := #[]) (fl : Nat := 33) (sup : Nat := 0) (ifs : Array Nat := #[]) (fds : Array FieldInfo := #[]) : ClassFile where
  minorVersion := 0
  majorVersion := 65
  constantPool := pool
  accessFlags := fl
  thisClass := this
  superClass := sup
  interfaces := ifs
  fields := fds
  methods := ms
  attributes := attrs
def plain (name : String) (sup : Option ClassId) : Class where
  name := name
  kind := .ordinary
  loader := none
  accessFlags := 33
  super := sup
  interfaces := #[]
  cf := none
  fields := #[]
  methods := #[]
  instanceTypes := #[]
  staticTypes := #[]
  resolved := #[]
  callSites := []
  init := .initialized
  statics := none
  mirror := none

def pool0 : Array CpInfo := pool [(5, u "<init>"), (0, u "()V"), (1, .class_ 10), (1, u "java/lang/Object")] 113

def k0c0 : Code := { maxStack := 0, maxLocals := 1, code := object_method_1_code, exceptionTable := #[], attributes := #[] }
def k0m0 : Method := { name := "<init>", desc := "()V", sig := { parameters := [], returnType := none }, accessFlags := 1, code := some k0c0 }
/-- java/lang/Object -/
def k0 : Class := { plain "java/lang/Object" none with
  accessFlags := 33
  interfaces := #[]
  cf := some (fileOf pool0 8 #[] #[{ accessFlags := 1, nameIndex := 5, descriptorIndex := 6, attributes := #[] }] 33 0 #[] #[])
  fields := #[]
  methods := #[k0m0]
  instanceTypes := #[]
  staticTypes := #[]
  resolved := Array.replicate 124 none
  statics := none }

def pool1 : Array CpInfo := pool [(2, .class_ 4), (1, u "java/lang/Object"), (0, u "<init>"), (0, u "()V"), (0, .class_ 8), (0, u "com/example/hinta/hinta/input/Position"), (0, .methodref 7 10), (0, .nameAndType 5 11), (0, u "(II)V"), (0, .methodref 7 13), (0, .nameAndType 14 15), (0, u "hashCode"), (0, u "()I"), (0, .methodref 7 17), (0, .nameAndType 18 19), (0, u "equals"), (0, u "(Ljava/lang/Object;)Z"), (0, .class_ 21), (0, u "com/example/hinta/hinta/input/PositionHashCodePinLaw"), (2, u "law"), (0, u "(IIIII)Z")] 3

def k1m0 : Method := { name := "<init>", desc := "()V", sig := { parameters := [], returnType := none }, accessFlags := 1, code := none }
def k1c1 : Code := { maxStack := 4, maxLocals := 17, code := code, exceptionTable := #[], attributes := #[] }
def k1m1 : Method := { name := "law", desc := "(IIIII)Z", sig := { parameters := [.int, .int, .int, .int, .int], returnType := some .boolean }, accessFlags := 9, code := some k1c1 }
/-- com/example/hinta/hinta/input/PositionHashCodePinLaw -/
def k1 : Class := { plain "com/example/hinta/hinta/input/PositionHashCodePinLaw" (some 0) with
  accessFlags := 49
  interfaces := #[]
  cf := some (fileOf pool1 20 #[] #[{ accessFlags := 1, nameIndex := 5, descriptorIndex := 6, attributes := #[] }, { accessFlags := 9, nameIndex := 24, descriptorIndex := 25, attributes := #[] }] 49 2 #[] #[])
  fields := #[]
  methods := #[k1m0, k1m1]
  instanceTypes := #[]
  staticTypes := #[]
  resolved := Array.replicate 29 none
  statics := none }

def pool2 : Array CpInfo := pool [(1, .class_ 2), (0, u "java/lang/Comparable"), (0, .class_ 4), (0, u "java/lang/Object")] 7

/-- java/lang/Comparable -/
def k2 : Class := { plain "java/lang/Comparable" (some 0) with
  accessFlags := 1537
  interfaces := #[]
  cf := some (fileOf pool2 1 #[] #[] 1537 3 #[] #[])
  fields := #[]
  methods := #[]
  instanceTypes := #[]
  staticTypes := #[]
  resolved := Array.replicate 12 none
  statics := none }

def pool3 : Array CpInfo := pool [(1, .methodref 2 3), (0, .class_ 4), (0, .nameAndType 5 6), (0, u "java/lang/Object"), (0, u "<init>"), (0, u "()V"), (0, .fieldref 8 9), (0, .class_ 10), (0, .nameAndType 11 12), (0, u "com/example/hinta/hinta/input/Position"), (0, u "line"), (0, u "I"), (0, .fieldref 8 14), (0, .nameAndType 15 12), (0, u "column"), (0, .methodref 17 18), (0, .class_ 19), (0, .nameAndType 20 21), (0, u "java/lang/Integer"), (0, u "compare"), (0, u "(II)I"), (0, .methodref 8 23), (0, .nameAndType 24 25), (0, u "compareTo"), (0, u "(Lcom/example/hinta/hinta/input/Position;)I"), (4, .class_ 31), (0, u "java/lang/Comparable"), (0, u "(II)V"), (3, u "()I"), (2, u "equals"), (0, u "(Ljava/lang/Object;)Z"), (0, u "hashCode")] 23

def k3c0 : Code := { maxStack := 2, maxLocals := 3, code := prog_8_method_1_code, exceptionTable := #[], attributes := #[] }
def k3m0 : Method := { name := "<init>", desc := "(II)V", sig := { parameters := [.int, .int], returnType := none }, accessFlags := 1, code := some k3c0 }
def k3c1 : Code := { maxStack := 2, maxLocals := 3, code := prog_8_method_4_code, exceptionTable := #[], attributes := #[] }
def k3m1 : Method := { name := "compareTo", desc := "(Lcom/example/hinta/hinta/input/Position;)I", sig := { parameters := [(.object "com/example/hinta/hinta/input/Position")], returnType := some .int }, accessFlags := 1, code := some k3c1 }
def k3c2 : Code := { maxStack := 2, maxLocals := 2, code := prog_8_method_5_code, exceptionTable := #[], attributes := #[] }
def k3m2 : Method := { name := "equals", desc := "(Ljava/lang/Object;)Z", sig := { parameters := [(.object "java/lang/Object")], returnType := some .boolean }, accessFlags := 1, code := some k3c2 }
def k3c3 : Code := { maxStack := 2, maxLocals := 1, code := prog_8_method_6_code, exceptionTable := #[], attributes := #[] }
def k3m3 : Method := { name := "hashCode", desc := "()I", sig := { parameters := [], returnType := some .int }, accessFlags := 1, code := some k3c3 }
/-- com/example/hinta/hinta/input/Position -/
def k3 : Class := { plain "com/example/hinta/hinta/input/Position" (some 0) with
  accessFlags := 49
  interfaces := #[2]
  cf := some (fileOf pool3 8 #[] #[{ accessFlags := 1, nameIndex := 5, descriptorIndex := 32, attributes := #[] }, { accessFlags := 1, nameIndex := 24, descriptorIndex := 25, attributes := #[] }, { accessFlags := 1, nameIndex := 39, descriptorIndex := 40, attributes := #[] }, { accessFlags := 1, nameIndex := 41, descriptorIndex := 36, attributes := #[] }] 49 2 #[30] #[{ accessFlags := 18, nameIndex := 11, descriptorIndex := 12, attributes := #[] }, { accessFlags := 18, nameIndex := 15, descriptorIndex := 12, attributes := #[] }])
  fields := #[{ name := "line", type := .int, accessFlags := 18, slot := 0, constantValue := 0 }, { name := "column", type := .int, accessFlags := 18, slot := 1, constantValue := 0 }]
  methods := #[k3m0, k3m1, k3m2, k3m3]
  instanceTypes := #[.int, .int]
  staticTypes := #[]
  resolved := Array.replicate 65 none
  statics := none }

def pool4 : Array CpInfo := pool [(1, .class_ 2), (0, u "java/io/Serializable"), (0, .class_ 4), (0, u "java/lang/Object")] 2

/-- java/io/Serializable -/
def k4 : Class := { plain "java/io/Serializable" (some 0) with
  accessFlags := 1537
  interfaces := #[]
  cf := some (fileOf pool4 1 #[] #[] 1537 3 #[] #[])
  fields := #[]
  methods := #[]
  instanceTypes := #[]
  staticTypes := #[]
  resolved := Array.replicate 7 none
  statics := none }

def pool5 : Array CpInfo := pool [(2, .class_ 4), (1, u "java/lang/Object"), (0, u "<init>"), (0, u "()V"), (1, .class_ 10), (1, u "java/lang/Number"), (2, .class_ 14), (0, u "java/io/Serializable"), (0, u "serialVersionUID"), (0, u "J")] 20

def k5m0 : Method := { name := "<init>", desc := "()V", sig := { parameters := [], returnType := none }, accessFlags := 1, code := none }
/-- java/lang/Number -/
def k5 : Class := { plain "java/lang/Number" (some 0) with
  accessFlags := 1057
  interfaces := #[4]
  cf := some (fileOf pool5 8 #[] #[{ accessFlags := 1, nameIndex := 5, descriptorIndex := 6, attributes := #[] }] 1057 2 #[13] #[{ accessFlags := 26, nameIndex := 15, descriptorIndex := 16, attributes := #[] }])
  fields := #[{ name := "serialVersionUID", type := .long, accessFlags := 26, slot := 0, constantValue := 0 }]
  methods := #[k5m0]
  instanceTypes := #[]
  staticTypes := #[.long]
  resolved := Array.replicate 37 none
  statics := none }

def pool6 : Array CpInfo := pool [(1, .class_ 2), (0, u "java/lang/constant/Constable"), (0, .class_ 4), (0, u "java/lang/Object")] 6

/-- java/lang/constant/Constable -/
def k6 : Class := { plain "java/lang/constant/Constable" (some 0) with
  accessFlags := 1537
  interfaces := #[]
  cf := some (fileOf pool6 1 #[] #[] 1537 3 #[] #[])
  fields := #[]
  methods := #[]
  instanceTypes := #[]
  staticTypes := #[]
  resolved := Array.replicate 11 none
  statics := none }

def pool7 : Array CpInfo := pool [(1, .class_ 2), (0, u "java/lang/constant/ConstantDesc"), (0, .class_ 4), (0, u "java/lang/Object")] 32

/-- java/lang/constant/ConstantDesc -/
def k7 : Class := { plain "java/lang/constant/ConstantDesc" (some 0) with
  accessFlags := 1537
  interfaces := #[]
  cf := some (fileOf pool7 1 #[] #[] 1537 3 #[] #[])
  fields := #[]
  methods := #[]
  instanceTypes := #[]
  staticTypes := #[]
  resolved := Array.replicate 37 none
  statics := none }

def pool8 : Array CpInfo := pool [(1, .class_ 2), (0, u "java/lang/Integer"), (16, u "digits"), (0, u "[C"), (39, u "(II)I"), (24, u "DigitOnes"), (0, u "[B"), (2, u "DigitTens"), (99, .class_ 190), (0, u "java/lang/Integer$IntegerCache"), (3, u "I"), (8, .class_ 204), (0, u "java/lang/Number"), (2, u "value"), (53, u "compare"), (40, u "TYPE"), (0, u "Ljava/lang/Class;"), (0, .class_ 305), (0, u "java/lang/Comparable"), (0, .class_ 307), (0, u "java/lang/constant/Constable"), (0, .class_ 309), (0, u "java/lang/constant/ConstantDesc"), (0, u "MIN_VALUE"), (1, u "MAX_VALUE"), (3, u "SIZE"), (1, u "BYTES"), (1, u "serialVersionUID"), (0, u "J")] 131

def k8c0 : Code := { maxStack := 2, maxLocals := 2, code := jdk_33_method_40_code, exceptionTable := #[], attributes := #[] }
def k8m0 : Method := { name := "compare", desc := "(II)I", sig := { parameters := [.int, .int], returnType := some .int }, accessFlags := 9, code := some k8c0 }
/-- java/lang/Integer -/
def k8 : Class := { plain "java/lang/Integer" (some 5) with
  accessFlags := 49
  interfaces := #[2, 6, 7]
  cf := some (fileOf pool8 1 #[.nestMembers #[189]] #[{ accessFlags := 9, nameIndex := 261, descriptorIndex := 60, attributes := #[] }] 49 203 #[304, 306, 308] #[{ accessFlags := 25, nameIndex := 310, descriptorIndex := 194, attributes := #[] }, { accessFlags := 25, nameIndex := 312, descriptorIndex := 194, attributes := #[] }, { accessFlags := 25, nameIndex := 302, descriptorIndex := 303, attributes := #[] }, { accessFlags := 24, nameIndex := 19, descriptorIndex := 20, attributes := #[] }, { accessFlags := 24, nameIndex := 89, descriptorIndex := 86, attributes := #[] }, { accessFlags := 24, nameIndex := 85, descriptorIndex := 86, attributes := #[] }, { accessFlags := 18, nameIndex := 207, descriptorIndex := 194, attributes := #[] }, { accessFlags := 25, nameIndex := 316, descriptorIndex := 194, attributes := #[] }, { accessFlags := 25, nameIndex := 318, descriptorIndex := 194, attributes := #[] }, { accessFlags := 26, nameIndex := 320, descriptorIndex := 321, attributes := #[] }])
  fields := #[{ name := "MIN_VALUE", type := .int, accessFlags := 25, slot := 0, constantValue := 0 }, { name := "MAX_VALUE", type := .int, accessFlags := 25, slot := 1, constantValue := 0 }, { name := "TYPE", type := (.object "java/lang/Class"), accessFlags := 25, slot := 2, constantValue := 0 }, { name := "digits", type := (.array .char), accessFlags := 24, slot := 3, constantValue := 0 }, { name := "DigitTens", type := (.array .byte), accessFlags := 24, slot := 4, constantValue := 0 }, { name := "DigitOnes", type := (.array .byte), accessFlags := 24, slot := 5, constantValue := 0 }, { name := "value", type := .int, accessFlags := 18, slot := 0, constantValue := 0 }, { name := "SIZE", type := .int, accessFlags := 25, slot := 6, constantValue := 0 }, { name := "BYTES", type := .int, accessFlags := 25, slot := 7, constantValue := 0 }, { name := "serialVersionUID", type := .long, accessFlags := 26, slot := 8, constantValue := 0 }]
  methods := #[k8m0]
  instanceTypes := #[.int]
  staticTypes := #[.int, .int, (.object "java/lang/Class"), (.array .char), (.array .byte), (.array .byte), .int, .int, .long]
  resolved := Array.replicate 453 none
  statics := none }

def pool9 : Array CpInfo := pool [(1, u "java/lang/Cloneable"), (0, .class_ 1), (0, u "java/lang/Object"), (0, .class_ 3)] 3

/-- java/lang/Cloneable -/
def k9 : Class := { plain "java/lang/Cloneable" (some 0) with
  accessFlags := 1537
  interfaces := #[]
  cf := some (fileOf pool9 2 #[] #[] 1537 4 #[] #[])
  fields := #[]
  methods := #[]
  instanceTypes := #[]
  staticTypes := #[]
  resolved := Array.replicate 8 none
  statics := none }

/-- the primitive byte -/
def k10 : Class := { plain "byte" none with kind := .primitive 'B', accessFlags := 0x411 }
/-- [B -/
def k11 : Class := { plain "[B" (some 0) with kind := .array 10 .byte, interfaces := #[9, 4], accessFlags := 1041 }

/-- the primitive int -/
def k12 : Class := { plain "int" none with kind := .primitive 'I', accessFlags := 0x411 }
/-- [I -/
def k13 : Class := { plain "[I" (some 0) with kind := .array 12 .int, interfaces := #[9, 4], accessFlags := 1041 }

def heap : Heap := #[]
def classes : Array Class := #[k0, k1, k2, k3, k4, k5, k6, k7, k8, k9, k10, k11, k12, k13]
def interned : List (Array UInt16 × Addr) := []
def slotsUsed : Nat := 0
def theMethod : MethodId := ⟨1, 1⟩
def args0 : Array Value := #[.int 5, .int 5, .int 5, .int 5, .int 5]
def aboutOver (below : List Frame) : State where
  vm := { classes := classes, interned := interned.toArray }
  heap := heap
  slotsUsed := slotsUsed
  threads := #[{ frames := .invoking theMethod args0 :: below }]
def below0 : List Frame := [.native { method := ⟨0, 0⟩, args := #[] }]
def about1 : State := aboutOver below0
def p0 : Program := .bare "" "" ""
def e0 : Env := launch0.env 0 0 0
theorem w_frames : about1.frames = Frame.invoking theMethod args0 :: below0 := rfl
set_option maxRecDepth 65536 in
theorem w_args : argsFit about1.vm theMethod args0 = true := by decide +kernel
set_option maxRecDepth 65536 in
theorem w_heap : heapFits about1 = true := by decide +kernel
set_option maxRecDepth 65536 in
theorem w_runnable : about1.curStatus? = some .runnable := by decide +kernel
set_option maxRecDepth 65536 in
theorem w_alone : about1.alone = true := by decide +kernel
set_option maxRecDepth 65536 in
theorem w_named : about1.methodNamed? x = some theMethod := by decide +kernel
set_option maxRecDepth 65536 in
theorem w_hears : about1.hears theMethod below0 = true := by decide +kernel
set_option maxRecDepth 65536 in
theorem w_ripe : about1.ripe theMethod args0 below0 = true := by decide +kernel
theorem w_running : about1.status = .running := rfl
set_option maxRecDepth 65536 in
theorem w_room : about1.hasRoom e0.platform room_1 = true :=
  launch0.hasRoom_least _ room_1 (by decide +kernel) (by decide +kernel) (by decide +kernel) (by decide +kernel) (by decide +kernel) (by decide +kernel)
theorem allAtoms_all (ts : List Jvm.Cond) (a : Array Jvm.Value) (st : Jvm.State) : (allAtoms ts).before a st = ts.all (fun c => c.before a st) := by
  induction ts with
  | nil => rfl
  | cons c t ih =>
    show (Jvm.Cond.and c (allAtoms t)).before a st = _
    rw [Jvm.Cond.before_and, ih, List.all_cons]
def words1 : List Jvm.Cond := Jvm.Cond.code x code maxLocals ret :: tables_1
/-- a 'code' word, met by the world's own term for the bytes: nothing is compared byte by byte -/
theorem code_word {y : MethodName} {bytes : ByteArray} {mx : Nat} {rt : Option FieldType} {a : Array Value} {s : State} {m : MethodId} {meth : Method} {c : Code} (h1 : s.methodNamed? y = some m) (h2 : s.vm.method? m = some meth) (h3 : meth.code = some c) (h4 : c.code = bytes)
    (h5 : (c.maxLocals == mx && c.exceptionTable.isEmpty && decide (c.maxStack ≤ mostOperands) && decide (meth.sig.returnType = rt) && !meth.locks && decide (parseMethodDescriptor y.desc = some meth.sig)) = true) : (Jvm.Cond.code y bytes mx rt).before a s = true := by
  simp only [Bool.and_eq_true, beq_iff_eq, Bool.not_eq_true', decide_eq_true_eq] at h5
  obtain ⟨⟨⟨⟨⟨g1, g2⟩, g3⟩, g4⟩, g5⟩, g6⟩ := h5
  simp [Cond.before, Cond.holds, Cond.value, h1, h2, h3, h4, g1, g2, g3, g4, g5, g6]
def isCode : Jvm.Cond → Bool
  | .code _ _ _ _ => true
  | _ => false
theorem all_split {L : List Jvm.Cond} {P : Jvm.Cond → Bool} (h1 : L.all (fun c => isCode c || P c) = true) (h2 : ∀ c ∈ L.filter isCode, P c = true) : L.all P = true := by
  refine List.all_eq_true.mpr fun c hc => ?_
  have h := List.all_eq_true.mp h1 c hc
  rcases Bool.eq_false_or_eq_true (isCode c) with hi | hi
  · exact h2 c (List.mem_filter.mpr ⟨hc, hi⟩)
  · simpa [hi] using h
set_option maxRecDepth 65536 in
theorem w_c0 : (Jvm.Cond.code x code maxLocals ret).before args0 about1 = true := code_word (m := ⟨1, 1⟩) (meth := k1m1) (c := k1c1) (by decide +kernel) rfl rfl rfl (by decide +kernel)
set_option maxRecDepth 65536 in
theorem w_c1 : (Jvm.Cond.code ({ cls := "com/example/hinta/hinta/input/Position", name := "<init>", desc := "(II)V" } : Jvm.MethodName) prog_8_method_1_code (3 : Nat) (Option.none : Option Jvm.ClassFile.FieldType)).before args0 about1 = true := code_word (m := ⟨3, 0⟩) (meth := k3m0) (c := k3c0) (by decide +kernel) rfl rfl rfl (by decide +kernel)
set_option maxRecDepth 65536 in
theorem w_c2 : (Jvm.Cond.code ({ cls := "java/lang/Object", name := "<init>", desc := "()V" } : Jvm.MethodName) object_method_1_code (1 : Nat) (Option.none : Option Jvm.ClassFile.FieldType)).before args0 about1 = true := code_word (m := ⟨0, 0⟩) (meth := k0m0) (c := k0c0) (by decide +kernel) rfl rfl rfl (by decide +kernel)
set_option maxRecDepth 65536 in
theorem w_c3 : (Jvm.Cond.code ({ cls := "com/example/hinta/hinta/input/Position", name := "hashCode", desc := "()I" } : Jvm.MethodName) prog_8_method_6_code (1 : Nat) (Option.some Jvm.ClassFile.FieldType.int)).before args0 about1 = true := code_word (m := ⟨3, 3⟩) (meth := k3m3) (c := k3c3) (by decide +kernel) rfl rfl rfl (by decide +kernel)
set_option maxRecDepth 65536 in
theorem w_c4 : (Jvm.Cond.code ({ cls := "com/example/hinta/hinta/input/Position", name := "equals", desc := "(Ljava/lang/Object;)Z" } : Jvm.MethodName) prog_8_method_5_code (2 : Nat) (Option.some Jvm.ClassFile.FieldType.boolean)).before args0 about1 = true := code_word (m := ⟨3, 2⟩) (meth := k3m2) (c := k3c2) (by decide +kernel) rfl rfl rfl (by decide +kernel)
set_option maxRecDepth 65536 in
theorem w_c5 : (Jvm.Cond.code ({ cls := "com/example/hinta/hinta/input/Position", name := "compareTo", desc := "(Lcom/example/hinta/hinta/input/Position;)I" } : Jvm.MethodName) prog_8_method_4_code (3 : Nat) (Option.some Jvm.ClassFile.FieldType.int)).before args0 about1 = true := code_word (m := ⟨3, 1⟩) (meth := k3m1) (c := k3c1) (by decide +kernel) rfl rfl rfl (by decide +kernel)
set_option maxRecDepth 65536 in
theorem w_c6 : (Jvm.Cond.code ({ cls := "java/lang/Integer", name := "compare", desc := "(II)I" } : Jvm.MethodName) jdk_33_method_40_code (2 : Nat) (Option.some Jvm.ClassFile.FieldType.int)).before args0 about1 = true := code_word (m := ⟨8, 0⟩) (meth := k8m0) (c := k8c0) (by decide +kernel) rfl rfl rfl (by decide +kernel)
def codes1 : List Jvm.Cond := [Jvm.Cond.code x code maxLocals ret, Jvm.Cond.code ({ cls := "com/example/hinta/hinta/input/Position", name := "<init>", desc := "(II)V" } : Jvm.MethodName) prog_8_method_1_code (3 : Nat) (Option.none : Option Jvm.ClassFile.FieldType), Jvm.Cond.code ({ cls := "java/lang/Object", name := "<init>", desc := "()V" } : Jvm.MethodName) object_method_1_code (1 : Nat) (Option.none : Option Jvm.ClassFile.FieldType), Jvm.Cond.code ({ cls := "com/example/hinta/hinta/input/Position", name := "hashCode", desc := "()I" } : Jvm.MethodName) prog_8_method_6_code (1 : Nat) (Option.some Jvm.ClassFile.FieldType.int), Jvm.Cond.code ({ cls := "com/example/hinta/hinta/input/Position", name := "equals", desc := "(Ljava/lang/Object;)Z" } : Jvm.MethodName) prog_8_method_5_code (2 : Nat) (Option.some Jvm.ClassFile.FieldType.boolean), Jvm.Cond.code ({ cls := "com/example/hinta/hinta/input/Position", name := "compareTo", desc := "(Lcom/example/hinta/hinta/input/Position;)I" } : Jvm.MethodName) prog_8_method_4_code (3 : Nat) (Option.some Jvm.ClassFile.FieldType.int), Jvm.Cond.code ({ cls := "java/lang/Integer", name := "compare", desc := "(II)I" } : Jvm.MethodName) jdk_33_method_40_code (2 : Nat) (Option.some Jvm.ClassFile.FieldType.int)]
set_option maxRecDepth 65536 in
theorem codes_eq : words1.filter isCode = codes1 := rfl
theorem w_codes : ∀ c ∈ words1.filter isCode, c.before args0 about1 = true := by
  rw [codes_eq]
  intro c hc
  simp only [codes1, List.mem_cons, List.not_mem_nil, or_false] at hc
  rcases hc with rfl | rfl | rfl | rfl | rfl | rfl | rfl
  · exact w_c0
  · exact w_c1
  · exact w_c2
  · exact w_c3
  · exact w_c4
  · exact w_c5
  · exact w_c6
set_option maxRecDepth 65536 in
theorem w_t1 : (words1.take 24).all (fun c => isCode c || c.before args0 about1) = true := by decide +kernel
set_option maxRecDepth 65536 in
theorem w_t2 : (words1.drop 24).all (fun c => isCode c || c.before args0 about1) = true := by decide +kernel
theorem w_tables : (allAtoms (Jvm.Cond.code x code maxLocals ret :: tables_1)).before args0 about1 = true := by
  rw [allAtoms_all]
  show words1.all (fun c => c.before args0 about1) = true
  refine all_split ?_ w_codes
  rw [← List.take_append_drop 24 words1, List.all_append, w_t1, w_t2]
  rfl
set_option maxRecDepth 65536 in
theorem w_case : (Jvm.Cond.and given_1 narrow_1).before args0 about1 = true := by decide +kernel
theorem w_applies : (headSpec (Jvm.Cond.code x code maxLocals ret :: tables_1) room_1).applies x e0.platform about1 = true :=
  (Spec.applies_iff w_frames).mpr ⟨w_running, w_runnable, w_alone, w_named, w_hears, w_ripe, w_room, w_tables⟩
theorem atStart : AtStart classFile x code maxLocals ret World_1 tables_1 room_1 Calls_1 rest_1 Pre_1 launch0 p0 e0 about1 theMethod args0 below0 :=
  ⟨lists_1, trivial, launch0.admits_env _ _ _, launch0.least_env, fairChoices_fair.cas, fairChoices_fair.clock, w_frames, w_args, w_heap, w_applies, trivial, trivial, w_case⟩
end start1
theorem witness_1 : WitnessClaimed_1 := ⟨start1.p0, start1.e0, start1.about1, start1.theMethod, start1.args0, start1.below0, start1.atStart⟩
end Jvm.Pilot.@@N@@
