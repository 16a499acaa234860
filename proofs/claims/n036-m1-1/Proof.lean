import JvmDerived
import JvmDerived.Pilot.@@N@@Statement
import JvmDerived.Pilot.@@N@@Code
set_option linter.unusedVariables false
set_option linter.unusedSimpArgs false
namespace Jvm.Pilot.@@N@@
open Jvm Jvm.ClassFile Sem Op Lib Jvm.Free Jvm.Stand Jvm.LawKit Jvm.RoadKit Bundle Jvm.Pilot.@@N@@.Jvm.D
section Own
variable {p : Program} {l : Launch} {e : Env} {R : Room} {s : State} {m : MethodId} {args : Array Value} {below : List Frame} {meth : Method} {c : Code} {T T' : State} {locs : List Loc} {cells slots : Nat}
/-- from T with the frame f on top the method comes to its end; what it returns, the heap and the places written answer Q; at most C cells and N slots are new -/
def own_Fin (p : Program) (e : Env) (below : List Frame) (s : State) (C N : Nat) (Q : Option Value → Heap → List Loc → Prop) (T : State) (f : JFrame) : Prop :=
  ∃ s₂ o, Steps p.tables e below (T.setTop f) s₂ ∧ s₂.status = .running ∧ Ended s₂ below o ∧ ∃ v L, o = .returned v ∧ Q v s₂.heap L ∧ FrameEnd s o s₂ L C N
variable {C N : Nat} {Q : Option Value → Heap → List Loc → Prop} {f f' : JFrame}
theorem own_by (h : ∀ t, Steps p.tables e below (T'.setTop f') t → Steps p.tables e below (T.setTop f) t) (k : own_Fin p e below s C N Q T' f') : own_Fin p e below s C N Q T f := by
  obtain ⟨s2, o, h1, h2⟩ := k
  exact ⟨s2, o, h _ h1, h2⟩
theorem own_start (q : f = f') (k : own_Fin p e below s C N Q T f') : ∃ s₂ o, Steps p.tables e below (T.setTop f) s₂ ∧ s₂.status = .running ∧ Ended s₂ below o ∧ ∃ v L, o = .returned v ∧ Q v s₂.heap L ∧ FrameEnd s o s₂ L C N := by
  subst q; exact k
theorem own_leaf (X : Stand p l e R s m args below meth c T locs cells slots) (hlk : meth.locks = false) {v : Option Value} (hv : meth.sig.returnType = none → v = none)
    (hs : ∀ fs, (∀ (f : JFrame) (acts : List Action), f.method = m → f.locked = none → f.entered = [] → (doReturn e (T.setTop f) acts v).1 = T.setFrames fs) → Steps p.tables e below (T.setTop f) (T.setFrames fs))
    (hQ : Q v T.heap locs) (hc : cells ≤ C) (hn : slots ≤ N) : own_Fin p e below s C N Q T f := by
  obtain ⟨fs, hr, hrun, hended, hW, hsame⟩ := X.leave (v := v) hv hlk
  exact ⟨_, _, hs fs hr, hrun, hended, _, _, rfl, hQ, ⟨_, rfl⟩, hW, hsame.mono hc hn⟩
theorem own_retV (X : Stand p l e R s m args below meth c T locs cells slots) (hx : p.tables.exec = Jvm.exec) (hlk : meth.locks = false) {pc : Nat} {Ls : Array Slot} (hret : meth.sig.returnType = none) (hd : decode c.code pc = .ok (.return_, 1))
    (hQ : Q none T.heap locs) (hc : cells ≤ C) (hn : slots ≤ N) : own_Fin p e below s C N Q T (mkF m pc Ls []) :=
  own_leaf X hlk (fun _ => rfl) (fun fs hr => X.returnOut hx hret hd hr) hQ hc hn
theorem own_retZ (X : Stand p l e R s m args below meth c T locs cells slots) (hx : p.tables.exec = Jvm.exec) (hlk : meth.locks = false) {pc : Nat} {Ls : Array Slot} {z : Int32} {t : FieldType} {rest : List Value} (hret : meth.sig.returnType = some t) (ht : t = .boolean ∨ t = .byte ∨ t = .char ∨ t = .short) (hd : decode c.code pc = .ok (.ireturn, 1))
    (hQ : Q (some (.int (nar t z))) T.heap locs) (hc : cells ≤ C) (hn : slots ≤ N) : own_Fin p e below s C N Q T (mkF m pc Ls (.int z :: rest)) :=
  own_leaf X hlk (fun h => by rw [hret] at h; cases h) (fun fs hr => retN X hx hret ht hd hr) hQ hc hn
theorem own_retO (X : Stand p l e R s m args below meth c T locs cells slots) (hx : p.tables.exec = Jvm.exec) (hlk : meth.locks = false) {pc : Nat} {Ls : Array Slot} {w : Value} {t : FieldType} {i : Instr} {rest : List Value} (hret : meth.sig.returnType = some t) (hn' : narrow t w = w)
    (hi : (i = .ireturn ∧ (t = .int ∨ t = .boolean ∨ t = .byte ∨ t = .char ∨ t = .short) ∧ ∃ z, w = .int z) ∨ (i = .lreturn ∧ t = .long ∧ ∃ z, w = .long z) ∨ (i = .dreturn ∧ t = .double ∧ ∃ z, w = .double z) ∨ (i = .freturn ∧ t = .float ∧ ∃ z, w = .float z) ∨ (i = .areturn ∧ t.isReference = true ∧ w.isRef = true))
    (hd : decode c.code pc = .ok (i, 1)) (hQ : Q (some w) T.heap locs) (hc : cells ≤ C) (hn : slots ≤ N) : own_Fin p e below s C N Q T (mkF m pc Ls (w :: rest)) :=
  own_leaf X hlk (fun h => by rw [hret] at h; cases h) (fun fs hr => retOut X hx hret hn' hi hd hr) hQ hc hn
theorem own_retI (X : Stand p l e R s m args below meth c T locs cells slots) (hx : p.tables.exec = Jvm.exec) (hlk : meth.locks = false) {pc : Nat} {Ls : Array Slot} {z : Int32} {rest : List Value} (hret : meth.sig.returnType = some .int) (hd : decode c.code pc = .ok (.ireturn, 1))
    (hQ : Q (some (.int z)) T.heap locs) (hc : cells ≤ C) (hn : slots ≤ N) : own_Fin p e below s C N Q T (mkF m pc Ls (.int z :: rest)) :=
  own_retO X hx hlk hret rfl (Or.inl ⟨rfl, Or.inl rfl, _, rfl⟩) hd hQ hc hn
theorem own_retJ (X : Stand p l e R s m args below meth c T locs cells slots) (hx : p.tables.exec = Jvm.exec) (hlk : meth.locks = false) {pc : Nat} {Ls : Array Slot} {z : Int64} {rest : List Value} (hret : meth.sig.returnType = some .long) (hd : decode c.code pc = .ok (.lreturn, 1))
    (hQ : Q (some (.long z)) T.heap locs) (hc : cells ≤ C) (hn : slots ≤ N) : own_Fin p e below s C N Q T (mkF m pc Ls (.long z :: rest)) :=
  own_retO X hx hlk hret rfl (Or.inr (Or.inl ⟨rfl, rfl, _, rfl⟩)) hd hQ hc hn
theorem own_retA (X : Stand p l e R s m args below meth c T locs cells slots) (hx : p.tables.exec = Jvm.exec) (hlk : meth.locks = false) {pc : Nat} {Ls : Array Slot} {w : Value} {t : FieldType} {rest : List Value} (hret : meth.sig.returnType = some t) (hr : t.isReference = true) (hn' : narrow t w = w) (hw : w.isRef = true) (hd : decode c.code pc = .ok (.areturn, 1))
    (hQ : Q (some w) T.heap locs) (hc : cells ≤ C) (hn : slots ≤ N) : own_Fin p e below s C N Q T (mkF m pc Ls (w :: rest)) :=
  own_retO X hx hlk hret hn' (Or.inr (Or.inr (Or.inr (Or.inr ⟨rfl, hr, hw⟩)))) hd hQ hc hn
/-- a room by its four numbers -/
abbrev own_R (f c s l : Nat) : Room := { frames := f, cells := c, slots := s, locals := l }
/-- the contract's form: called with A at a heap h0 it returns, and Q holds of what it returns, the heap and the places written -/
abbrev own_Met (l : Launch) (Z : State) (y : MethodName) (code : ByteArray) (ml : Nat) (ret : Option FieldType) (ws : List Jvm.Cond) (R : Room) (A : Array Value) (h0 : Heap) (Q : Option Value → Heap → List Loc → Prop) : Prop :=
  MetFree l y (head1 (Jvm.Cond.code y code ml ret :: ws) R) (fun a U => a = A ∧ Z.Warmed39 U.vm ∧ U.heap = h0) (fun _ _ _ _ _ => True) (fun _ U o U' => ∃ v L, o = .returned v ∧ Q v U'.heap L ∧ FrameEnd U o U' L R.cells R.slots)
theorem own_enter {Z : State} {y : MethodName} {code : ByteArray} {ml : Nat} {ret : Option FieldType} {ws : List Jvm.Cond} {A : Array Value} {h0 : Heap} {f0 : MethodId → JFrame} (n0 : Nat) (hpn : plainName y.cls = true) (hef : ∀ m, entryFrame m A ml = f0 m)
    (H : ∀ (p : Program) (e : Env) (s : State) (m : MethodId) (below : List Frame) (meth : Method) (c : Code) (s₁ : State), p.tables.exec = Jvm.exec → c.code = code → meth.locks = false → c.maxLocals = ml → meth.sig.returnType = ret → s.vm.findClass y.cls = some m.cls → meth.name = y.name →
      Z.Warmed39 s.vm → Stand p l e R s m A below meth c s₁ [] 0 0 → s₁.heap = h0 → Fr n0 [] → own_Fin p e below s R.cells R.slots Q s₁ (f0 m)) : own_Met l Z y code ml ret ws R A h0 Q := by
  refine MetFree.of_bodySF (plainFor_of_name hpn) hisR ?_
  intro p e s m args below meth c s₁ Bd hml hP _
  obtain ⟨rfl, hZ, hh⟩ := hP
  have q := H p e s m below meth c s₁ Bd.exec Bd.bytes Bd.notSynchronized hml Bd.returns (findClass_of_methodNamed Bd.named) (name_of_methodNamed Bd.named Bd.method).1 hZ (Stand.of_body Bd) (by rw [← hh, Bd.state]; rfl) (Fr.nil n0)
  rw [hef m]
  exact q
end Own
theorem own_vi {a b : Int32} (h : a = b) : some (Value.int a) = some (Value.int b) := h ▸ rfl
def own_cont (v : Int32) : Int32 := if (v &&& (192 : Int32)) = (128 : Int32) then 1 else 0
def own_seq (v : Int32) : Int32 := if v < (240 : Int32) then (if v < (224 : Int32) then (if v < (192 : Int32) then 1 else 2) else 3) else 4
def own_tl1 (a : Int32) : Int32 := if (1 : Int32) < own_seq (a &&& (255 : Int32)) then 1 else 0
def own_tl2 (a b : Int32) : Int32 := if (a &&& (192 : Int32)) = (128 : Int32) then (if (2 : Int32) < own_seq (b &&& (255 : Int32)) then 2 else 0) else own_tl1 a
def own_tl3 (a b c : Int32) : Int32 := if (a &&& (192 : Int32)) = (128 : Int32) then (if (b &&& (192 : Int32)) = (128 : Int32) then (if (3 : Int32) < own_seq (c &&& (255 : Int32)) then 3 else 0) else (if (2 : Int32) < own_seq (b &&& (255 : Int32)) then 2 else 0)) else own_tl1 a
def own_tl4 (a b c d : Int32) : Int32 := if (a &&& (192 : Int32)) = (128 : Int32) then (if (b &&& (192 : Int32)) = (128 : Int32) then (if (c &&& (192 : Int32)) = (128 : Int32) then (if (4 : Int32) < own_seq (d &&& (255 : Int32)) then 4 else 0) else (if (3 : Int32) < own_seq (c &&& (255 : Int32)) then 3 else 0)) else (if (2 : Int32) < own_seq (b &&& (255 : Int32)) then 2 else 0)) else own_tl1 a
def own_ex1 (a : Int32) : Int32 := if (a &&& (255 : Int32)) < (192 : Int32) then 0 else 1
def own_ex2 (a b : Int32) : Int32 := if (a &&& (255 : Int32)) < (192 : Int32) then (if own_cont (a &&& (255 : Int32)) = (0 : Int32) then 0 else if (b &&& (255 : Int32)) < (224 : Int32) then 0 else 2) else 1
def own_ex3 (a b c : Int32) : Int32 := if (a &&& (255 : Int32)) < (192 : Int32) then (if own_cont (a &&& (255 : Int32)) = (0 : Int32) then 0 else if (b &&& (255 : Int32)) < (224 : Int32) then (if own_cont (b &&& (255 : Int32)) = (0 : Int32) then 0 else if (c &&& (255 : Int32)) < (240 : Int32) then 0 else 3) else 2) else 1
abbrev own_P (y : Int32) (u : Nat) : Prop := ((y &&& 192) = 128 ↔ (128 ≤ u ∧ u < 192)) ∧ (own_cont y = 0 ↔ ¬ (128 ≤ u ∧ u < 192)) ∧ ((1 : Int32) < own_seq y ↔ 192 ≤ u) ∧ ((2 : Int32) < own_seq y ↔ 224 ≤ u) ∧ ((3 : Int32) < own_seq y ↔ 240 ≤ u) ∧ ((4 : Int32) < own_seq y ↔ 256 ≤ u) ∧ (y < 192 ↔ u < 192) ∧ (y < 224 ↔ u < 224) ∧ (y < 240 ↔ u < 240)
theorem own_fin : ∀ k : Fin 256, own_P (Int32.ofNat k.val) k.val := by decide +kernel
theorem own_bf (v : Int32) : ∃ u : Nat, u < 256 ∧ ((v &&& (192 : Int32)) = (128 : Int32) ↔ (128 ≤ u ∧ u < 192)) ∧ own_P (v &&& (255 : Int32)) u := by
  have m := c_and v 255 (by decide)
  have k255 : (255 : Int32).toInt = 255 := by decide
  obtain ⟨u, hu⟩ : ∃ u : Nat, (v &&& (255 : Int32)).toInt = u := ⟨(v &&& (255 : Int32)).toInt.toNat, by omega⟩
  have hu2 : u < 256 := by omega
  have e : v &&& (255 : Int32) = Int32.ofNat u := by
    apply Int32.toInt_inj.mp
    rw [hu, Int32.toInt_ofNat_of_lt (by omega)]
  have q := own_fin ⟨u, hu2⟩
  simp only at q
  rw [← e] at q
  refine ⟨u, hu2, ?_, q⟩
  have e2 : (v &&& (255 : Int32)) &&& (192 : Int32) = v &&& (192 : Int32) := by
    rw [Int32.and_assoc]; rfl
  rw [← e2]; exact q.1
theorem own_eq1 (a : Int32) : own_tl1 a = own_ex1 a := by
  obtain ⟨u, h0, -, -, -, h3, -, -, -, h7, -⟩ := own_bf a
  unfold own_tl1 own_ex1
  simp only [h3, h7]
  repeat' split
  all_goals first | rfl | (exfalso; omega)
theorem own_eq2 (a b : Int32) : own_tl2 a b = own_ex2 a b := by
  obtain ⟨u, h0, h1, -, h2, h3, h4, -, -, h7, h8, -⟩ := own_bf a
  obtain ⟨v, g0, g1, -, g2, g3, g4, -, -, g7, g8, -⟩ := own_bf b
  unfold own_tl2 own_tl1 own_ex2
  simp only [h1, h2, h3, h7, g4, g8]
  repeat' split
  all_goals first | rfl | (exfalso; omega)
theorem own_eq3 (a b c : Int32) : own_tl3 a b c = own_ex3 a b c := by
  obtain ⟨u, h0, h1, -, h2, h3, h4, -, -, h7, h8, -⟩ := own_bf a
  obtain ⟨v, g0, g1, -, g2, g3, g4, -, -, g7, g8, -⟩ := own_bf b
  obtain ⟨x, f0, f1, -, f2, f3, f4, f5, -, f7, f8, f9⟩ := own_bf c
  unfold own_tl3 own_tl1 own_ex3
  simp only [h1, h2, h3, h7, g1, g2, g4, g8, f5, f9]
  repeat' split
  all_goals first | rfl | (exfalso; omega)
theorem own_eq4 (a b c d : Int32) : own_tl4 a b c d = own_ex3 a b c := by
  obtain ⟨u, h0, h1, -, h2, h3, h4, -, -, h7, h8, -⟩ := own_bf a
  obtain ⟨v, g0, g1, -, g2, g3, g4, -, -, g7, g8, -⟩ := own_bf b
  obtain ⟨x, f0, f1, -, f2, f3, f4, f5, -, f7, f8, f9⟩ := own_bf c
  obtain ⟨y, d0, -, -, -, -, -, -, d6, -⟩ := own_bf d
  unfold own_tl4 own_tl1 own_ex3
  simp only [h1, h2, h3, h7, g1, g2, g4, g8, f1, f5, f9, d6]
  repeat' split
  all_goals first | rfl | (exfalso; omega)
theorem own_n9 (x : Int32) : ((x &&& (2147483647 : Int32)) % (9 : Int32)) = 0 ∨ ((x &&& (2147483647 : Int32)) % (9 : Int32)) = 1 ∨ ((x &&& (2147483647 : Int32)) % (9 : Int32)) = 2 ∨ ((x &&& (2147483647 : Int32)) % (9 : Int32)) = 3 ∨ ((x &&& (2147483647 : Int32)) % (9 : Int32)) = 4 ∨ ((x &&& (2147483647 : Int32)) % (9 : Int32)) = 5 ∨ ((x &&& (2147483647 : Int32)) % (9 : Int32)) = 6 ∨ ((x &&& (2147483647 : Int32)) % (9 : Int32)) = 7 ∨ ((x &&& (2147483647 : Int32)) % (9 : Int32)) = 8 := by
  have m := c_and x 2147483647 (by decide)
  have r := (c_irem (x &&& 2147483647) 9 9 (by decide)).1 m.1
  generalize (x &&& (2147483647 : Int32)) % (9 : Int32) = z at r ⊢
  simp only [← Int32.toInt_inj]
  have k0 : (0 : Int32).toInt = 0 := by decide
  have k1 : (1 : Int32).toInt = 1 := by decide
  have k2 : (2 : Int32).toInt = 2 := by decide
  have k3 : (3 : Int32).toInt = 3 := by decide
  have k4 : (4 : Int32).toInt = 4 := by decide
  have k5 : (5 : Int32).toInt = 5 := by decide
  have k6 : (6 : Int32).toInt = 6 := by decide
  have k7 : (7 : Int32).toInt = 7 := by decide
  have k8 : (8 : Int32).toInt = 8 := by decide
  omega
theorem own_pn1 : plainName "com/example/munka/munka/util/Utf8UnfinishedTailPinLaw" = true := by first | (simp [plainName, overriddenIn]; done) | decide +kernel
theorem d2_0 : decode method_3_code 0 = .ok (.iload_n 0, 1) := by decide +kernel
theorem d2_1 : decode method_3_code 1 = .ok (.sipush 192, 3) := by decide +kernel
theorem d2_4 : decode method_3_code 4 = .ok (.iand, 1) := by decide +kernel
theorem d2_5 : decode method_3_code 5 = .ok (.sipush 128, 3) := by decide +kernel
theorem d2_8 : decode method_3_code 8 = .ok (.if_icmp .ne 7, 3) := by decide +kernel
theorem d2_11 : decode method_3_code 11 = .ok (.iconst 1, 1) := by decide +kernel
theorem d2_12 : decode method_3_code 12 = .ok (.goto 4, 3) := by decide +kernel
theorem d2_16 : decode method_3_code 16 = .ok (.ireturn, 1) := by decide +kernel
theorem d2_15 : decode method_3_code 15 = .ok (.iconst 0, 1) := by decide +kernel
theorem ef_rm2 (m : MethodId) (x0 : Int32) : entryFrame m #[(.int x0)] 1 = mkF m 0 #[.val (.int x0)] [] := by first | (simp [entryFrame, mkF, argsToLocals, Value.category]; done) | rfl
def own_Q2 (p1 : Int32) (h0 : Heap) (n0 : Nat) (v : Option Value) (h : Heap) (L : List Loc) : Prop := v = some (.int (own_cont p1)) ∧ Fr n0 L ∧ h = h0
set_option maxRecDepth 65536 in
set_option maxHeartbeats 40000000 in
theorem rm2 (l : Launch) (Z : State) (a0 : Array Value) (hw : ∀ d ∈ tables_1, d.before a0 Z = true) (ws : List Jvm.Cond) (p1 : Int32) (h0 : Heap) (n0 : Nat) (Z0 : n0 ≤ h0.size)  : own_Met l Z (⟨"com/example/munka/munka/util/Utf8UnfinishedTailPinLaw", "cont", "(I)Z"⟩ : MethodName) method_3_code 1 (some .boolean) ws (own_R 0 0 0 0) #[(.int p1)] h0 (own_Q2 p1 h0 n0) := by
  refine own_enter n0 own_pn1 (fun m => ef_rm2 m p1 ) (fun p e s m below meth c s₁ hx hby hlk hml hret hown hnm hZ X0 e0 N0 => ?_)
  show own_Fin p e below s _ _ _ s₁ (mkF m 0 #[.val (.int p1)] [])
  refine own_by (fun _ k => XS.iloadN X0.here hx rfl (hb hby d2_0) rfl (XS.sipush X0.here hx rfl (hb hby d2_1) (XS.iand X0.here hx rfl (hb hby d2_4) rfl (XS.sipush X0.here hx rfl (hb hby d2_5) k)))) ?_
  show own_Fin p e below s _ _ _ s₁ (mkF m 8 #[.val (.int p1)] [(.int (128 : Int32)), (.int (p1 &&& (192 : Int32)))])
  by_cases hc8_1 : (p1 &&& (192 : Int32)) = (128 : Int32)
  · show own_Fin p e below s _ _ _ s₁ (mkF m 8 #[.val (.int p1)] [(.int (128 : Int32)), (.int (p1 &&& (192 : Int32)))])
    refine own_by (fun _ k => XS.icmpNo X0.here hx rfl (hb hby d2_8) rfl (teq hc8_1).2 k) ?_
    show own_Fin p e below s _ _ _ s₁ (mkF m 11 #[.val (.int p1)] [])
    refine own_by (fun _ k => XS.iconst X0.here hx rfl (hb hby d2_11) (XS.goto X0.here hx rfl (pc0 := 12) (pc' := 16) rfl (hb hby d2_12) (by decide) (by decide) k)) ?_
    show own_Fin p e below s _ _ _ s₁ (mkF m 16 #[.val (.int p1)] [(.int (1 : Int32))])
    exact own_retZ X0 hx hlk (t := .boolean) hret (by simp) (hb hby d2_16) ⟨own_vi (by show (1 : Int32) = _; first | (simp only [own_cont, hc8_1, if_true, if_false]; done) | (simp only [own_cont, hc8_1, if_true, if_false]; decide) | simp [own_cont, hc8_1]), N0, e0⟩ (by decide) (by decide)
  · show own_Fin p e below s _ _ _ s₁ (mkF m 8 #[.val (.int p1)] [(.int (128 : Int32)), (.int (p1 &&& (192 : Int32)))])
    refine own_by (fun _ k => XS.icmpYes X0.here hx rfl (pc0 := 8) (pc' := 15) rfl (hb hby d2_8) rfl (feq hc8_1).2 (by decide) (by decide) k) ?_
    show own_Fin p e below s _ _ _ s₁ (mkF m 15 #[.val (.int p1)] [])
    refine own_by (fun _ k => XS.iconst X0.here hx rfl (hb hby d2_15) k) ?_
    show own_Fin p e below s _ _ _ s₁ (mkF m 16 #[.val (.int p1)] [(.int (0 : Int32))])
    exact own_retZ X0 hx hlk (t := .boolean) hret (by simp) (hb hby d2_16) ⟨own_vi (by show (0 : Int32) = _; first | (simp only [own_cont, hc8_1, if_true, if_false]; done) | (simp only [own_cont, hc8_1, if_true, if_false]; decide) | simp [own_cont, hc8_1]), N0, e0⟩ (by decide) (by decide)
theorem own_pn12 : plainName "com/example/munka/munka/util/Utf8" = true := by first | (simp [plainName, overriddenIn]; done) | decide +kernel
theorem d4_0 : decode prog_43_method_6_code 0 = .ok (.iload_n 0, 1) := by decide +kernel
theorem d4_1 : decode prog_43_method_6_code 1 = .ok (.sipush 240, 3) := by decide +kernel
theorem d4_4 : decode prog_43_method_6_code 4 = .ok (.if_icmp .lt 8, 3) := by decide +kernel
theorem d4_12 : decode prog_43_method_6_code 12 = .ok (.iload_n 0, 1) := by decide +kernel
theorem d4_13 : decode prog_43_method_6_code 13 = .ok (.sipush 224, 3) := by decide +kernel
theorem d4_16 : decode prog_43_method_6_code 16 = .ok (.if_icmp .lt 8, 3) := by decide +kernel
theorem d4_24 : decode prog_43_method_6_code 24 = .ok (.iload_n 0, 1) := by decide +kernel
theorem d4_25 : decode prog_43_method_6_code 25 = .ok (.sipush 192, 3) := by decide +kernel
theorem d4_28 : decode prog_43_method_6_code 28 = .ok (.if_icmp .lt 8, 3) := by decide +kernel
theorem d4_36 : decode prog_43_method_6_code 36 = .ok (.iconst 1, 1) := by decide +kernel
theorem d4_37 : decode prog_43_method_6_code 37 = .ok (.istore_n 1, 1) := by decide +kernel
theorem d4_38 : decode prog_43_method_6_code 38 = .ok (.iload_n 1, 1) := by decide +kernel
theorem d4_39 : decode prog_43_method_6_code 39 = .ok (.ireturn, 1) := by decide +kernel
theorem d4_31 : decode prog_43_method_6_code 31 = .ok (.iconst 2, 1) := by decide +kernel
theorem d4_32 : decode prog_43_method_6_code 32 = .ok (.istore_n 1, 1) := by decide +kernel
theorem d4_33 : decode prog_43_method_6_code 33 = .ok (.goto 5, 3) := by decide +kernel
theorem d4_19 : decode prog_43_method_6_code 19 = .ok (.iconst 3, 1) := by decide +kernel
theorem d4_20 : decode prog_43_method_6_code 20 = .ok (.istore_n 1, 1) := by decide +kernel
theorem d4_21 : decode prog_43_method_6_code 21 = .ok (.goto 17, 3) := by decide +kernel
theorem d4_7 : decode prog_43_method_6_code 7 = .ok (.iconst 4, 1) := by decide +kernel
theorem d4_8 : decode prog_43_method_6_code 8 = .ok (.istore_n 1, 1) := by decide +kernel
theorem d4_9 : decode prog_43_method_6_code 9 = .ok (.goto 29, 3) := by decide +kernel
theorem ef_rm4 (m : MethodId) (x0 : Int32) : entryFrame m #[(.int x0)] 2 = mkF m 0 #[.val (.int x0), .unset] [] := by first | (simp [entryFrame, mkF, argsToLocals, Value.category]; done) | rfl
def own_Q4 (p1 : Int32) (h0 : Heap) (n0 : Nat) (v : Option Value) (h : Heap) (L : List Loc) : Prop := v = some (.int (own_seq p1)) ∧ Fr n0 L ∧ h = h0
set_option maxRecDepth 65536 in
set_option maxHeartbeats 40000000 in
theorem rm4 (l : Launch) (Z : State) (a0 : Array Value) (hw : ∀ d ∈ tables_1, d.before a0 Z = true) (ws : List Jvm.Cond) (p1 : Int32) (h0 : Heap) (n0 : Nat) (Z0 : n0 ≤ h0.size)  : own_Met l Z (⟨"com/example/munka/munka/util/Utf8", "sequenceLength", "(I)I"⟩ : MethodName) prog_43_method_6_code 2 (some .int) ws (own_R 0 0 0 0) #[(.int p1)] h0 (own_Q4 p1 h0 n0) := by
  refine own_enter n0 own_pn12 (fun m => ef_rm4 m p1 ) (fun p e s m below meth c s₁ hx hby hlk hml hret hown hnm hZ X0 e0 N0 => ?_)
  show own_Fin p e below s _ _ _ s₁ (mkF m 0 #[.val (.int p1), .unset] [])
  refine own_by (fun _ k => XS.iloadN X0.here hx rfl (hb hby d4_0) rfl (XS.sipush X0.here hx rfl (hb hby d4_1) k)) ?_
  show own_Fin p e below s _ _ _ s₁ (mkF m 4 #[.val (.int p1), .unset] [(.int (240 : Int32)), (.int p1)])
  by_cases hc4_2 : p1 < (240 : Int32)
  · show own_Fin p e below s _ _ _ s₁ (mkF m 4 #[.val (.int p1), .unset] [(.int (240 : Int32)), (.int p1)])
    refine own_by (fun _ k => XS.icmpYes X0.here hx rfl (pc0 := 4) (pc' := 12) rfl (hb hby d4_4) rfl (tlt hc4_2).1 (by decide) (by decide) k) ?_
    show own_Fin p e below s _ _ _ s₁ (mkF m 12 #[.val (.int p1), .unset] [])
    refine own_by (fun _ k => XS.iloadN X0.here hx rfl (hb hby d4_12) rfl (XS.sipush X0.here hx rfl (hb hby d4_13) k)) ?_
    show own_Fin p e below s _ _ _ s₁ (mkF m 16 #[.val (.int p1), .unset] [(.int (224 : Int32)), (.int p1)])
    by_cases hc16_3 : p1 < (224 : Int32)
    · show own_Fin p e below s _ _ _ s₁ (mkF m 16 #[.val (.int p1), .unset] [(.int (224 : Int32)), (.int p1)])
      refine own_by (fun _ k => XS.icmpYes X0.here hx rfl (pc0 := 16) (pc' := 24) rfl (hb hby d4_16) rfl (tlt hc16_3).1 (by decide) (by decide) k) ?_
      show own_Fin p e below s _ _ _ s₁ (mkF m 24 #[.val (.int p1), .unset] [])
      refine own_by (fun _ k => XS.iloadN X0.here hx rfl (hb hby d4_24) rfl (XS.sipush X0.here hx rfl (hb hby d4_25) k)) ?_
      show own_Fin p e below s _ _ _ s₁ (mkF m 28 #[.val (.int p1), .unset] [(.int (192 : Int32)), (.int p1)])
      by_cases hc28_4 : p1 < (192 : Int32)
      · show own_Fin p e below s _ _ _ s₁ (mkF m 28 #[.val (.int p1), .unset] [(.int (192 : Int32)), (.int p1)])
        refine own_by (fun _ k => XS.icmpYes X0.here hx rfl (pc0 := 28) (pc' := 36) rfl (hb hby d4_28) rfl (tlt hc28_4).1 (by decide) (by decide) k) ?_
        show own_Fin p e below s _ _ _ s₁ (mkF m 36 #[.val (.int p1), .unset] [])
        refine own_by (fun _ k => XS.iconst X0.here hx rfl (hb hby d4_36) (XS.istoreN X0.here hx rfl (hb hby d4_37) rfl (l' := #[.val (.int p1), .val (.int (1 : Int32))]) rfl (XS.iloadN X0.here hx rfl (hb hby d4_38) rfl k))) ?_
        show own_Fin p e below s _ _ _ s₁ (mkF m 39 #[.val (.int p1), .val (.int (1 : Int32))] [(.int (1 : Int32))])
        exact own_retI X0 hx hlk hret (hb hby d4_39) ⟨own_vi (by show (1 : Int32) = _; first | (simp only [own_seq, hc4_2, hc16_3, hc28_4, if_true, if_false]; done) | (simp only [own_seq, hc4_2, hc16_3, hc28_4, if_true, if_false]; decide) | simp [own_seq, hc4_2, hc16_3, hc28_4]), N0, e0⟩ (by decide) (by decide)
      · show own_Fin p e below s _ _ _ s₁ (mkF m 28 #[.val (.int p1), .unset] [(.int (192 : Int32)), (.int p1)])
        refine own_by (fun _ k => XS.icmpNo X0.here hx rfl (hb hby d4_28) rfl (flt hc28_4).1 k) ?_
        show own_Fin p e below s _ _ _ s₁ (mkF m 31 #[.val (.int p1), .unset] [])
        refine own_by (fun _ k => XS.iconst X0.here hx rfl (hb hby d4_31) (XS.istoreN X0.here hx rfl (hb hby d4_32) rfl (l' := #[.val (.int p1), .val (.int (2 : Int32))]) rfl (XS.goto X0.here hx rfl (pc0 := 33) (pc' := 38) rfl (hb hby d4_33) (by decide) (by decide) (XS.iloadN X0.here hx rfl (hb hby d4_38) rfl k)))) ?_
        show own_Fin p e below s _ _ _ s₁ (mkF m 39 #[.val (.int p1), .val (.int (2 : Int32))] [(.int (2 : Int32))])
        exact own_retI X0 hx hlk hret (hb hby d4_39) ⟨own_vi (by show (2 : Int32) = _; first | (simp only [own_seq, hc4_2, hc16_3, hc28_4, if_true, if_false]; done) | (simp only [own_seq, hc4_2, hc16_3, hc28_4, if_true, if_false]; decide) | simp [own_seq, hc4_2, hc16_3, hc28_4]), N0, e0⟩ (by decide) (by decide)
    · show own_Fin p e below s _ _ _ s₁ (mkF m 16 #[.val (.int p1), .unset] [(.int (224 : Int32)), (.int p1)])
      refine own_by (fun _ k => XS.icmpNo X0.here hx rfl (hb hby d4_16) rfl (flt hc16_3).1 k) ?_
      show own_Fin p e below s _ _ _ s₁ (mkF m 19 #[.val (.int p1), .unset] [])
      refine own_by (fun _ k => XS.iconst X0.here hx rfl (hb hby d4_19) (XS.istoreN X0.here hx rfl (hb hby d4_20) rfl (l' := #[.val (.int p1), .val (.int (3 : Int32))]) rfl (XS.goto X0.here hx rfl (pc0 := 21) (pc' := 38) rfl (hb hby d4_21) (by decide) (by decide) (XS.iloadN X0.here hx rfl (hb hby d4_38) rfl k)))) ?_
      show own_Fin p e below s _ _ _ s₁ (mkF m 39 #[.val (.int p1), .val (.int (3 : Int32))] [(.int (3 : Int32))])
      exact own_retI X0 hx hlk hret (hb hby d4_39) ⟨own_vi (by show (3 : Int32) = _; first | (simp only [own_seq, hc4_2, hc16_3, if_true, if_false]; done) | (simp only [own_seq, hc4_2, hc16_3, if_true, if_false]; decide) | simp [own_seq, hc4_2, hc16_3]), N0, e0⟩ (by decide) (by decide)
  · show own_Fin p e below s _ _ _ s₁ (mkF m 4 #[.val (.int p1), .unset] [(.int (240 : Int32)), (.int p1)])
    refine own_by (fun _ k => XS.icmpNo X0.here hx rfl (hb hby d4_4) rfl (flt hc4_2).1 k) ?_
    show own_Fin p e below s _ _ _ s₁ (mkF m 7 #[.val (.int p1), .unset] [])
    refine own_by (fun _ k => XS.iconst X0.here hx rfl (hb hby d4_7) (XS.istoreN X0.here hx rfl (hb hby d4_8) rfl (l' := #[.val (.int p1), .val (.int (4 : Int32))]) rfl (XS.goto X0.here hx rfl (pc0 := 9) (pc' := 38) rfl (hb hby d4_9) (by decide) (by decide) (XS.iloadN X0.here hx rfl (hb hby d4_38) rfl k)))) ?_
    show own_Fin p e below s _ _ _ s₁ (mkF m 39 #[.val (.int p1), .val (.int (4 : Int32))] [(.int (4 : Int32))])
    exact own_retI X0 hx hlk hret (hb hby d4_39) ⟨own_vi (by show (4 : Int32) = _; first | (simp only [own_seq, hc4_2, if_true, if_false]; done) | (simp only [own_seq, hc4_2, if_true, if_false]; decide) | simp [own_seq, hc4_2]), N0, e0⟩ (by decide) (by decide)
theorem d1_0 : decode method_2_code 0 = .ok (.aload_n 0, 1) := by decide +kernel
theorem d1_1 : decode method_2_code 1 = .ok (.iload_n 1, 1) := by decide +kernel
theorem d1_2 : decode method_2_code 2 = .ok (.baload, 1) := by decide +kernel
theorem d1_3 : decode method_2_code 3 = .ok (.sipush 255, 3) := by decide +kernel
theorem d1_6 : decode method_2_code 6 = .ok (.iand, 1) := by decide +kernel
theorem d1_7 : decode method_2_code 7 = .ok (.ireturn, 1) := by decide +kernel
theorem ef_rm1 (m : MethodId) (x0 : Addr) (x1 : Int32) : entryFrame m #[(.ref x0), (.int x1)] 2 = mkF m 0 #[.val (.ref x0), .val (.int x1)] [] := by first | (simp [entryFrame, mkF, argsToLocals, Value.category]; done) | rfl
def own_Q1 (x : Int32) (h0 : Heap) (n0 : Nat) (v : Option Value) (h : Heap) (L : List Loc) : Prop := v = some (.int (x &&& (255 : Int32))) ∧ Fr n0 L ∧ h = h0
set_option maxRecDepth 65536 in
set_option maxHeartbeats 40000000 in
theorem rm1 (l : Launch) (Z : State) (a0 : Array Value) (hw : ∀ d ∈ tables_1, d.before a0 Z = true) (ws : List Jvm.Cond) (a1 : Addr) (p2 : Int32) (k : ClassId) (z : Int32) (vs : List Value) (x : Int32) (h0 : Heap) (n0 : Nat) (Z0 : n0 ≤ h0.size) (V1 : Arv Z h0 a1 k .byte z vs (.int (0 : Int32))) (hi : ¬ p2 < 0 ∧ p2 < z) (hv : vs.getD p2.toNatClampNeg (.int (0 : Int32)) = .int x) : own_Met l Z (⟨"com/example/munka/munka/util/Utf8UnfinishedTailPinLaw", "u", "([BI)I"⟩ : MethodName) method_2_code 2 (some .int) ws (own_R 0 0 0 0) #[(.ref a1), (.int p2)] h0 (own_Q1 x h0 n0) := by
  refine own_enter n0 own_pn1 (fun m => ef_rm1 m a1 p2 ) (fun p e s m below meth c s₁ hx hby hlk hml hret hown hnm hZ X0 e0 N0 => ?_)
  show own_Fin p e below s _ _ _ s₁ (mkF m 0 #[.val (.ref a1), .val (.int p2)] [])
  refine own_by (fun _ k => XS.aloadN X0.here hx rfl (hb hby d1_0) rfl rfl (XS.iloadN X0.here hx rfl (hb hby d1_1) rfl k)) ?_
  show own_Fin p e below s _ _ _ s₁ (mkF m 2 #[.val (.ref a1), .val (.int p2)] [(.int p2), (.ref a1)])
  obtain ⟨cl5, Ar5, -, S5, M5, H5, -⟩ := id V1
  have hin5 : ¬ (p2 < 0 ∨ cl5.slots.size ≤ (p2).toNatClampNeg) := inb_of S5 hi
  have hat5 : cl5.slots[(p2).toNatClampNeg]? = some (.int x) := Has.at H5 hin5 hv
  refine own_by (fun _ k => X0.baloadBytes hx (j := p2) (v := (.int x)) (by rw [e0]; exact Ar5.1) (State.isArrayOf_alike hZ.alike Ar5.2.1) Ar5.2.2 hin5 hat5 (g := (mkF m 2 #[.val (.ref a1), .val (.int p2)] [(.int p2), (.ref a1)])) rfl rfl (hb hby d1_2) _ k) ?_
  show own_Fin p e below s _ _ _ s₁ (mkF m 3 #[.val (.ref a1), .val (.int p2)] [(.int x)])
  refine own_by (fun _ k => XS.sipush X0.here hx rfl (hb hby d1_3) (XS.iand X0.here hx rfl (hb hby d1_6) rfl k)) ?_
  show own_Fin p e below s _ _ _ s₁ (mkF m 7 #[.val (.ref a1), .val (.int p2)] [(.int (x &&& (255 : Int32)))])
  exact own_retI X0 hx hlk hret (hb hby d1_7) ⟨rfl, N0, e0⟩ (by decide) (by decide)
theorem d3_0 : decode prog_43_method_4_code 0 = .ok (.iload_n 1, 1) := by decide +kernel
theorem d3_1 : decode prog_43_method_4_code 1 = .ok (.iconst 1, 1) := by decide +kernel
theorem d3_2 : decode prog_43_method_4_code 2 = .ok (.isub, 1) := by decide +kernel
theorem d3_3 : decode prog_43_method_4_code 3 = .ok (.istore_n 2, 1) := by decide +kernel
theorem d3_4 : decode prog_43_method_4_code 4 = .ok (.iload_n 2, 1) := by decide +kernel
theorem d3_5 : decode prog_43_method_4_code 5 = .ok (.ifCond .le 29, 3) := by decide +kernel
theorem d3_34 : decode prog_43_method_4_code 34 = .ok (.iload_n 1, 1) := by decide +kernel
theorem d3_35 : decode prog_43_method_4_code 35 = .ok (.iload_n 2, 1) := by decide +kernel
theorem d3_36 : decode prog_43_method_4_code 36 = .ok (.isub, 1) := by decide +kernel
theorem d3_37 : decode prog_43_method_4_code 37 = .ok (.istore_n 3, 1) := by decide +kernel
theorem d3_38 : decode prog_43_method_4_code 38 = .ok (.iload_n 2, 1) := by decide +kernel
theorem d3_39 : decode prog_43_method_4_code 39 = .ok (.ifCond .lt 21, 3) := by decide +kernel
theorem d3_60 : decode prog_43_method_4_code 60 = .ok (.iconst 0, 1) := by decide +kernel
theorem d3_61 : decode prog_43_method_4_code 61 = .ok (.istore 4, 2) := by decide +kernel
theorem d3_63 : decode prog_43_method_4_code 63 = .ok (.iload 4, 2) := by decide +kernel
theorem d3_65 : decode prog_43_method_4_code 65 = .ok (.ifCond .eq 7, 3) := by decide +kernel
theorem d3_72 : decode prog_43_method_4_code 72 = .ok (.iconst 0, 1) := by decide +kernel
theorem d3_73 : decode prog_43_method_4_code 73 = .ok (.ireturn, 1) := by decide +kernel
theorem ef_rmT0 (m : MethodId) (x0 : Addr) (x1 : Int32) : entryFrame m #[(.ref x0), (.int x1)] 5 = mkF m 0 #[.val (.ref x0), .val (.int x1), .unset, .unset, .unset] [] := by first | (simp [entryFrame, mkF, argsToLocals, Value.category]; done) | rfl
def own_QT0 (v0 v1 v2 v3 v4 v5 v6 v7 : Int32) (h0 : Heap) (n0 : Nat) (v : Option Value) (h : Heap) (L : List Loc) : Prop := v = some (.int ((0 : Int32))) ∧ Fr n0 L ∧ h = h0
set_option maxRecDepth 65536 in
set_option maxHeartbeats 40000000 in
theorem rmT0 (l : Launch) (Z : State) (a0 : Array Value) (hw : ∀ d ∈ tables_1, d.before a0 Z = true) (ws : List Jvm.Cond) (a1 : Addr) (k : ClassId) (v0 v1 v2 v3 v4 v5 v6 v7 : Int32) (h0 : Heap) (n0 : Nat) (Z0 : n0 ≤ h0.size) (V1 : Arv Z h0 a1 k .byte (8 : Int32) [(.int v0), (.int v1), (.int v2), (.int v3), (.int v4), (.int v5), (.int v6), (.int v7)] (.int (0 : Int32))) : own_Met l Z (⟨"com/example/munka/munka/util/Utf8", "unfinishedTail", "([BI)I"⟩ : MethodName) prog_43_method_4_code 5 (some .int) ws (own_R 1 0 0 16) #[(.ref a1), (.int (0 : Int32))] h0 (own_QT0 v0 v1 v2 v3 v4 v5 v6 v7 h0 n0) := by
  refine own_enter n0 own_pn12 (fun m => ef_rmT0 m a1 (0 : Int32) ) (fun p e s m below meth c s₁ hx hby hlk hml hret hown hnm hZ X0 e0 N0 => ?_)
  show own_Fin p e below s _ _ _ s₁ (mkF m 0 #[.val (.ref a1), .val (.int (0 : Int32)), .unset, .unset, .unset] [])
  refine own_by (fun _ k => XS.iloadN X0.here hx rfl (hb hby d3_0) rfl (XS.iconst X0.here hx rfl (hb hby d3_1) (XS.isub X0.here hx rfl (hb hby d3_2) rfl k))) ?_
  show own_Fin p e below s _ _ _ s₁ (mkF m 3 #[.val (.ref a1), .val (.int (0 : Int32)), .unset, .unset, .unset] [(.int ((0 : Int32) - (1 : Int32)))])
  rw [(by decide : ((0 : Int32) - (1 : Int32)) = (-1 : Int32))]
  show own_Fin p e below s _ _ _ s₁ (mkF m 3 #[.val (.ref a1), .val (.int (0 : Int32)), .unset, .unset, .unset] [(.int (-1 : Int32))])
  refine own_by (fun _ k => XS.istoreN X0.here hx rfl (hb hby d3_3) rfl (l' := #[.val (.ref a1), .val (.int (0 : Int32)), .val (.int (-1 : Int32)), .unset, .unset]) rfl (XS.iloadN X0.here hx rfl (hb hby d3_4) rfl k)) ?_
  show own_Fin p e below s _ _ _ s₁ (mkF m 5 #[.val (.ref a1), .val (.int (0 : Int32)), .val (.int (-1 : Int32)), .unset, .unset] [(.int (-1 : Int32))])
  refine own_by (fun _ k => XS.ifYes X0.here hx rfl (pc0 := 5) (pc' := 34) rfl (hb hby d3_5) rfl ((if0 _ _).trans (flt (by decide : ¬ ((0 : Int32) < (-1 : Int32)))).2.2.2) (by decide) (by decide) k) ?_
  show own_Fin p e below s _ _ _ s₁ (mkF m 34 #[.val (.ref a1), .val (.int (0 : Int32)), .val (.int (-1 : Int32)), .unset, .unset] [])
  refine own_by (fun _ k => XS.iloadN X0.here hx rfl (hb hby d3_34) rfl (XS.iloadN X0.here hx rfl (hb hby d3_35) rfl (XS.isub X0.here hx rfl (hb hby d3_36) rfl k))) ?_
  show own_Fin p e below s _ _ _ s₁ (mkF m 37 #[.val (.ref a1), .val (.int (0 : Int32)), .val (.int (-1 : Int32)), .unset, .unset] [(.int ((0 : Int32) - (-1 : Int32)))])
  rw [(by decide : ((0 : Int32) - (-1 : Int32)) = (1 : Int32))]
  show own_Fin p e below s _ _ _ s₁ (mkF m 37 #[.val (.ref a1), .val (.int (0 : Int32)), .val (.int (-1 : Int32)), .unset, .unset] [(.int (1 : Int32))])
  refine own_by (fun _ k => XS.istoreN X0.here hx rfl (hb hby d3_37) rfl (l' := #[.val (.ref a1), .val (.int (0 : Int32)), .val (.int (-1 : Int32)), .val (.int (1 : Int32)), .unset]) rfl (XS.iloadN X0.here hx rfl (hb hby d3_38) rfl k)) ?_
  show own_Fin p e below s _ _ _ s₁ (mkF m 39 #[.val (.ref a1), .val (.int (0 : Int32)), .val (.int (-1 : Int32)), .val (.int (1 : Int32)), .unset] [(.int (-1 : Int32))])
  refine own_by (fun _ k => XS.ifYes X0.here hx rfl (pc0 := 39) (pc' := 60) rfl (hb hby d3_39) rfl ((if0 _ _).trans (tlt (by decide : (-1 : Int32) < (0 : Int32))).1) (by decide) (by decide) k) ?_
  show own_Fin p e below s _ _ _ s₁ (mkF m 60 #[.val (.ref a1), .val (.int (0 : Int32)), .val (.int (-1 : Int32)), .val (.int (1 : Int32)), .unset] [])
  refine own_by (fun _ k => XS.iconst X0.here hx rfl (hb hby d3_60) (XS.istore X0.here hx rfl (hb hby d3_61) rfl (l' := #[.val (.ref a1), .val (.int (0 : Int32)), .val (.int (-1 : Int32)), .val (.int (1 : Int32)), .val (.int (0 : Int32))]) rfl (XS.iload X0.here hx rfl (hb hby d3_63) rfl k))) ?_
  show own_Fin p e below s _ _ _ s₁ (mkF m 65 #[.val (.ref a1), .val (.int (0 : Int32)), .val (.int (-1 : Int32)), .val (.int (1 : Int32)), .val (.int (0 : Int32))] [(.int (0 : Int32))])
  refine own_by (fun _ k => XS.ifYes X0.here hx rfl (pc0 := 65) (pc' := 72) rfl (hb hby d3_65) rfl ((if0 _ _).trans (teq (by decide : (0 : Int32) = (0 : Int32))).1) (by decide) (by decide) k) ?_
  show own_Fin p e below s _ _ _ s₁ (mkF m 72 #[.val (.ref a1), .val (.int (0 : Int32)), .val (.int (-1 : Int32)), .val (.int (1 : Int32)), .val (.int (0 : Int32))] [])
  refine own_by (fun _ k => XS.iconst X0.here hx rfl (hb hby d3_72) k) ?_
  show own_Fin p e below s _ _ _ s₁ (mkF m 73 #[.val (.ref a1), .val (.int (0 : Int32)), .val (.int (-1 : Int32)), .val (.int (1 : Int32)), .val (.int (0 : Int32))] [(.int (0 : Int32))])
  exact own_retI X0 hx hlk hret (hb hby d3_73) ⟨own_vi (by show (0 : Int32) = _; first | (simp only [own_tl1, own_tl2, own_tl3, own_tl4, if_true, if_false]; done) | (simp only [own_tl1, own_tl2, own_tl3, own_tl4, if_true, if_false]; decide) | simp [own_tl1, own_tl2, own_tl3, own_tl4]), N0, e0⟩ (by decide) (by decide)
theorem d3_42 : decode prog_43_method_4_code 42 = .ok (.iload_n 3, 1) := by decide +kernel
theorem d3_43 : decode prog_43_method_4_code 43 = .ok (.aload_n 0, 1) := by decide +kernel
theorem d3_44 : decode prog_43_method_4_code 44 = .ok (.iload_n 2, 1) := by decide +kernel
theorem d3_45 : decode prog_43_method_4_code 45 = .ok (.baload, 1) := by decide +kernel
theorem d3_46 : decode prog_43_method_4_code 46 = .ok (.sipush 255, 3) := by decide +kernel
theorem d3_49 : decode prog_43_method_4_code 49 = .ok (.iand, 1) := by decide +kernel
theorem d3_50 : decode prog_43_method_4_code 50 = .ok (.invokestatic 34, 3) := by decide +kernel
theorem own_pd69 : parseMethodDescriptor "(I)I" = some ⟨[.int], some .int⟩ := by decide +kernel
theorem d3_53 : decode prog_43_method_4_code 53 = .ok (.if_icmp .ge 7, 3) := by decide +kernel
theorem d3_56 : decode prog_43_method_4_code 56 = .ok (.iconst 1, 1) := by decide +kernel
theorem d3_57 : decode prog_43_method_4_code 57 = .ok (.goto 4, 3) := by decide +kernel
theorem d3_68 : decode prog_43_method_4_code 68 = .ok (.iload_n 3, 1) := by decide +kernel
theorem d3_69 : decode prog_43_method_4_code 69 = .ok (.goto 4, 3) := by decide +kernel
theorem ef_rmT1 (m : MethodId) (x0 : Addr) (x1 : Int32) : entryFrame m #[(.ref x0), (.int x1)] 5 = mkF m 0 #[.val (.ref x0), .val (.int x1), .unset, .unset, .unset] [] := by first | (simp [entryFrame, mkF, argsToLocals, Value.category]; done) | rfl
def own_QT1 (v0 v1 v2 v3 v4 v5 v6 v7 : Int32) (h0 : Heap) (n0 : Nat) (v : Option Value) (h : Heap) (L : List Loc) : Prop := v = some (.int ((own_tl1 v0))) ∧ Fr n0 L ∧ h = h0
set_option maxRecDepth 65536 in
set_option maxHeartbeats 40000000 in
theorem rmT1 (l : Launch) (Z : State) (a0 : Array Value) (hw : ∀ d ∈ tables_1, d.before a0 Z = true) (ws : List Jvm.Cond) (a1 : Addr) (k : ClassId) (v0 v1 v2 v3 v4 v5 v6 v7 : Int32) (h0 : Heap) (n0 : Nat) (Z0 : n0 ≤ h0.size) (V1 : Arv Z h0 a1 k .byte (8 : Int32) [(.int v0), (.int v1), (.int v2), (.int v3), (.int v4), (.int v5), (.int v6), (.int v7)] (.int (0 : Int32))) : own_Met l Z (⟨"com/example/munka/munka/util/Utf8", "unfinishedTail", "([BI)I"⟩ : MethodName) prog_43_method_4_code 5 (some .int) ws (own_R 1 0 0 16) #[(.ref a1), (.int (1 : Int32))] h0 (own_QT1 v0 v1 v2 v3 v4 v5 v6 v7 h0 n0) := by
  refine own_enter n0 own_pn12 (fun m => ef_rmT1 m a1 (1 : Int32) ) (fun p e s m below meth c s₁ hx hby hlk hml hret hown hnm hZ X0 e0 N0 => ?_)
  show own_Fin p e below s _ _ _ s₁ (mkF m 0 #[.val (.ref a1), .val (.int (1 : Int32)), .unset, .unset, .unset] [])
  refine own_by (fun _ k => XS.iloadN X0.here hx rfl (hb hby d3_0) rfl (XS.iconst X0.here hx rfl (hb hby d3_1) (XS.isub X0.here hx rfl (hb hby d3_2) rfl k))) ?_
  show own_Fin p e below s _ _ _ s₁ (mkF m 3 #[.val (.ref a1), .val (.int (1 : Int32)), .unset, .unset, .unset] [(.int ((1 : Int32) - (1 : Int32)))])
  rw [(by decide : ((1 : Int32) - (1 : Int32)) = (0 : Int32))]
  show own_Fin p e below s _ _ _ s₁ (mkF m 3 #[.val (.ref a1), .val (.int (1 : Int32)), .unset, .unset, .unset] [(.int (0 : Int32))])
  refine own_by (fun _ k => XS.istoreN X0.here hx rfl (hb hby d3_3) rfl (l' := #[.val (.ref a1), .val (.int (1 : Int32)), .val (.int (0 : Int32)), .unset, .unset]) rfl (XS.iloadN X0.here hx rfl (hb hby d3_4) rfl k)) ?_
  show own_Fin p e below s _ _ _ s₁ (mkF m 5 #[.val (.ref a1), .val (.int (1 : Int32)), .val (.int (0 : Int32)), .unset, .unset] [(.int (0 : Int32))])
  refine own_by (fun _ k => XS.ifYes X0.here hx rfl (pc0 := 5) (pc' := 34) rfl (hb hby d3_5) rfl ((if0 _ _).trans (flt (by decide : ¬ ((0 : Int32) < (0 : Int32)))).2.2.2) (by decide) (by decide) k) ?_
  show own_Fin p e below s _ _ _ s₁ (mkF m 34 #[.val (.ref a1), .val (.int (1 : Int32)), .val (.int (0 : Int32)), .unset, .unset] [])
  refine own_by (fun _ k => XS.iloadN X0.here hx rfl (hb hby d3_34) rfl (XS.iloadN X0.here hx rfl (hb hby d3_35) rfl (XS.isub X0.here hx rfl (hb hby d3_36) rfl k))) ?_
  show own_Fin p e below s _ _ _ s₁ (mkF m 37 #[.val (.ref a1), .val (.int (1 : Int32)), .val (.int (0 : Int32)), .unset, .unset] [(.int ((1 : Int32) - (0 : Int32)))])
  rw [(by decide : ((1 : Int32) - (0 : Int32)) = (1 : Int32))]
  show own_Fin p e below s _ _ _ s₁ (mkF m 37 #[.val (.ref a1), .val (.int (1 : Int32)), .val (.int (0 : Int32)), .unset, .unset] [(.int (1 : Int32))])
  refine own_by (fun _ k => XS.istoreN X0.here hx rfl (hb hby d3_37) rfl (l' := #[.val (.ref a1), .val (.int (1 : Int32)), .val (.int (0 : Int32)), .val (.int (1 : Int32)), .unset]) rfl (XS.iloadN X0.here hx rfl (hb hby d3_38) rfl k)) ?_
  show own_Fin p e below s _ _ _ s₁ (mkF m 39 #[.val (.ref a1), .val (.int (1 : Int32)), .val (.int (0 : Int32)), .val (.int (1 : Int32)), .unset] [(.int (0 : Int32))])
  refine own_by (fun _ k => XS.ifNo X0.here hx rfl (hb hby d3_39) rfl ((if0 _ _).trans (flt (by decide : ¬ ((0 : Int32) < (0 : Int32)))).1) k) ?_
  show own_Fin p e below s _ _ _ s₁ (mkF m 42 #[.val (.ref a1), .val (.int (1 : Int32)), .val (.int (0 : Int32)), .val (.int (1 : Int32)), .unset] [])
  refine own_by (fun _ k => XS.iloadN X0.here hx rfl (hb hby d3_42) rfl (XS.aloadN X0.here hx rfl (hb hby d3_43) rfl rfl (XS.iloadN X0.here hx rfl (hb hby d3_44) rfl k))) ?_
  show own_Fin p e below s _ _ _ s₁ (mkF m 45 #[.val (.ref a1), .val (.int (1 : Int32)), .val (.int (0 : Int32)), .val (.int (1 : Int32)), .unset] [(.int (0 : Int32)), (.ref a1), (.int (1 : Int32))])
  obtain ⟨cl6, Ar6, -, S6, M6, H6, -⟩ := id V1
  have hin6 : ¬ ((0 : Int32) < 0 ∨ cl6.slots.size ≤ ((0 : Int32)).toNatClampNeg) := inb_of S6 ⟨by decide, by decide⟩
  have hat6 : cl6.slots[((0 : Int32)).toNatClampNeg]? = some (.int v0) := Has.at H6 hin6 rfl
  refine own_by (fun _ k => X0.baloadBytes hx (j := (0 : Int32)) (v := (.int v0)) (by rw [e0]; exact Ar6.1) (State.isArrayOf_alike hZ.alike Ar6.2.1) Ar6.2.2 hin6 hat6 (g := (mkF m 45 #[.val (.ref a1), .val (.int (1 : Int32)), .val (.int (0 : Int32)), .val (.int (1 : Int32)), .unset] [(.int (0 : Int32)), (.ref a1), (.int (1 : Int32))])) rfl rfl (hb hby d3_45) _ k) ?_
  show own_Fin p e below s _ _ _ s₁ (mkF m 46 #[.val (.ref a1), .val (.int (1 : Int32)), .val (.int (0 : Int32)), .val (.int (1 : Int32)), .unset] [(.int v0), (.int (1 : Int32))])
  refine own_by (fun _ k => XS.sipush X0.here hx rfl (hb hby d3_46) (XS.iand X0.here hx rfl (hb hby d3_49) rfl k)) ?_
  show own_Fin p e below s _ _ _ s₁ (mkF m 50 #[.val (.ref a1), .val (.int (1 : Int32)), .val (.int (0 : Int32)), .val (.int (1 : Int32)), .unset] [(.int (v0 &&& (255 : Int32))), (.int (1 : Int32))])
  obtain ⟨_, _, ⟨T7, L7, k7, n7⟩, -, X7, ⟨Lc7, hQ7, l7, y7, z7⟩, st7⟩ := Jvm.LawKit.callS X0 hx (y := (⟨"com/example/munka/munka/util/Utf8", "sequenceLength", "(I)I"⟩ : MethodName)) hown (mvT hZ (hw _ (List.mem_of_getElem? (i := 13) rfl))) (mvT hZ (hw _ (List.mem_of_getElem? (i := 14) rfl))) (mvT hZ (hw _ (List.mem_of_getElem? (i := 11) rfl))) (mvT hZ (hw _ (List.mem_of_getElem? (i := 15) rfl))) (by decide) (backOf (W := 1) (rm4 l Z a0 hw [] (v0 &&& (255 : Int32)) h0 n0 Z0 ) hZ (hw _ (List.mem_of_getElem? (i := 15) rfl)) (hw _ (List.mem_of_getElem? (i := 11) rfl)) (by decide) (by decide)) (g := (mkF m 50 #[.val (.ref a1), .val (.int (1 : Int32)), .val (.int (0 : Int32)), .val (.int (1 : Int32)), .unset] [(.int (v0 &&& (255 : Int32))), (.int (1 : Int32))])) rfl (by rw [hml]; rfl) (argsL := [(.int (v0 &&& (255 : Int32)))]) (rest := [(.int (1 : Int32))]) (lenOf own_pd69 rfl) rfl (by show 2 * 0 + _ ≤ _; exact Nat.le_of_eq rfl) (hb hby d3_50) (fun _ _ => ⟨rfl, e0, (by decide : 0 + 0 ≤ _), (by decide : 0 + 0 ≤ _)⟩)
  dsimp only [Pt.U, Pt.locs, Pt.cells, Pt.slots] at X7 l7 y7 z7 st7 hQ7
  subst l7 y7 z7
  obtain ⟨rfl, Nq7, eh7⟩ := hQ7
  have N7 := Fr.app N0 Nq7
  refine own_by (fun _ k => st7 _ k) ?_
  show own_Fin p e below s _ _ _ T7 (mkF m 53 #[.val (.ref a1), .val (.int (1 : Int32)), .val (.int (0 : Int32)), .val (.int (1 : Int32)), .unset] [(.int (own_seq (v0 &&& (255 : Int32)))), (.int (1 : Int32))])
  by_cases hc53_8 : (1 : Int32) < (own_seq (v0 &&& (255 : Int32)))
  · show own_Fin p e below s _ _ _ T7 (mkF m 53 #[.val (.ref a1), .val (.int (1 : Int32)), .val (.int (0 : Int32)), .val (.int (1 : Int32)), .unset] [(.int (own_seq (v0 &&& (255 : Int32)))), (.int (1 : Int32))])
    refine own_by (fun _ k => XS.icmpNo X7.here hx rfl (hb hby d3_53) rfl (tlt hc53_8).2.1 k) ?_
    show own_Fin p e below s _ _ _ T7 (mkF m 56 #[.val (.ref a1), .val (.int (1 : Int32)), .val (.int (0 : Int32)), .val (.int (1 : Int32)), .unset] [])
    refine own_by (fun _ k => XS.iconst X7.here hx rfl (hb hby d3_56) (XS.goto X7.here hx rfl (pc0 := 57) (pc' := 61) rfl (hb hby d3_57) (by decide) (by decide) (XS.istore X7.here hx rfl (hb hby d3_61) rfl (l' := #[.val (.ref a1), .val (.int (1 : Int32)), .val (.int (0 : Int32)), .val (.int (1 : Int32)), .val (.int (1 : Int32))]) rfl (XS.iload X7.here hx rfl (hb hby d3_63) rfl k)))) ?_
    show own_Fin p e below s _ _ _ T7 (mkF m 65 #[.val (.ref a1), .val (.int (1 : Int32)), .val (.int (0 : Int32)), .val (.int (1 : Int32)), .val (.int (1 : Int32))] [(.int (1 : Int32))])
    refine own_by (fun _ k => XS.ifNo X7.here hx rfl (hb hby d3_65) rfl ((if0 _ _).trans (feq (by decide : ¬ ((1 : Int32) = (0 : Int32)))).1) k) ?_
    show own_Fin p e below s _ _ _ T7 (mkF m 68 #[.val (.ref a1), .val (.int (1 : Int32)), .val (.int (0 : Int32)), .val (.int (1 : Int32)), .val (.int (1 : Int32))] [])
    refine own_by (fun _ k => XS.iloadN X7.here hx rfl (hb hby d3_68) rfl (XS.goto X7.here hx rfl (pc0 := 69) (pc' := 73) rfl (hb hby d3_69) (by decide) (by decide) k)) ?_
    show own_Fin p e below s _ _ _ T7 (mkF m 73 #[.val (.ref a1), .val (.int (1 : Int32)), .val (.int (0 : Int32)), .val (.int (1 : Int32)), .val (.int (1 : Int32))] [(.int (1 : Int32))])
    exact own_retI X7 hx hlk hret (hb hby d3_73) ⟨own_vi (by show (1 : Int32) = _; first | (simp only [own_tl1, own_tl2, own_tl3, own_tl4, hc53_8, if_true, if_false]; done) | (simp only [own_tl1, own_tl2, own_tl3, own_tl4, hc53_8, if_true, if_false]; decide) | simp [own_tl1, own_tl2, own_tl3, own_tl4, hc53_8]), N7, eh7⟩ (by decide) (by decide)
  · show own_Fin p e below s _ _ _ T7 (mkF m 53 #[.val (.ref a1), .val (.int (1 : Int32)), .val (.int (0 : Int32)), .val (.int (1 : Int32)), .unset] [(.int (own_seq (v0 &&& (255 : Int32)))), (.int (1 : Int32))])
    refine own_by (fun _ k => XS.icmpYes X7.here hx rfl (pc0 := 53) (pc' := 60) rfl (hb hby d3_53) rfl (flt hc53_8).2.1 (by decide) (by decide) k) ?_
    show own_Fin p e below s _ _ _ T7 (mkF m 60 #[.val (.ref a1), .val (.int (1 : Int32)), .val (.int (0 : Int32)), .val (.int (1 : Int32)), .unset] [])
    refine own_by (fun _ k => XS.iconst X7.here hx rfl (hb hby d3_60) (XS.istore X7.here hx rfl (hb hby d3_61) rfl (l' := #[.val (.ref a1), .val (.int (1 : Int32)), .val (.int (0 : Int32)), .val (.int (1 : Int32)), .val (.int (0 : Int32))]) rfl (XS.iload X7.here hx rfl (hb hby d3_63) rfl k))) ?_
    show own_Fin p e below s _ _ _ T7 (mkF m 65 #[.val (.ref a1), .val (.int (1 : Int32)), .val (.int (0 : Int32)), .val (.int (1 : Int32)), .val (.int (0 : Int32))] [(.int (0 : Int32))])
    refine own_by (fun _ k => XS.ifYes X7.here hx rfl (pc0 := 65) (pc' := 72) rfl (hb hby d3_65) rfl ((if0 _ _).trans (teq (by decide : (0 : Int32) = (0 : Int32))).1) (by decide) (by decide) k) ?_
    show own_Fin p e below s _ _ _ T7 (mkF m 72 #[.val (.ref a1), .val (.int (1 : Int32)), .val (.int (0 : Int32)), .val (.int (1 : Int32)), .val (.int (0 : Int32))] [])
    refine own_by (fun _ k => XS.iconst X7.here hx rfl (hb hby d3_72) k) ?_
    show own_Fin p e below s _ _ _ T7 (mkF m 73 #[.val (.ref a1), .val (.int (1 : Int32)), .val (.int (0 : Int32)), .val (.int (1 : Int32)), .val (.int (0 : Int32))] [(.int (0 : Int32))])
    exact own_retI X7 hx hlk hret (hb hby d3_73) ⟨own_vi (by show (0 : Int32) = _; first | (simp only [own_tl1, own_tl2, own_tl3, own_tl4, hc53_8, if_true, if_false]; done) | (simp only [own_tl1, own_tl2, own_tl3, own_tl4, hc53_8, if_true, if_false]; decide) | simp [own_tl1, own_tl2, own_tl3, own_tl4, hc53_8]), N7, eh7⟩ (by decide) (by decide)
theorem d3_8 : decode prog_43_method_4_code 8 = .ok (.iload_n 2, 1) := by decide +kernel
theorem d3_9 : decode prog_43_method_4_code 9 = .ok (.iload_n 1, 1) := by decide +kernel
theorem d3_10 : decode prog_43_method_4_code 10 = .ok (.iconst 4, 1) := by decide +kernel
theorem d3_11 : decode prog_43_method_4_code 11 = .ok (.isub, 1) := by decide +kernel
theorem d3_12 : decode prog_43_method_4_code 12 = .ok (.if_icmp .le 22, 3) := by decide +kernel
theorem d3_15 : decode prog_43_method_4_code 15 = .ok (.aload_n 0, 1) := by decide +kernel
theorem d3_16 : decode prog_43_method_4_code 16 = .ok (.iload_n 2, 1) := by decide +kernel
theorem d3_17 : decode prog_43_method_4_code 17 = .ok (.baload, 1) := by decide +kernel
theorem d3_18 : decode prog_43_method_4_code 18 = .ok (.sipush 192, 3) := by decide +kernel
theorem d3_21 : decode prog_43_method_4_code 21 = .ok (.iand, 1) := by decide +kernel
theorem d3_22 : decode prog_43_method_4_code 22 = .ok (.sipush 128, 3) := by decide +kernel
theorem d3_25 : decode prog_43_method_4_code 25 = .ok (.if_icmp .ne 9, 3) := by decide +kernel
theorem d3_28 : decode prog_43_method_4_code 28 = .ok (.iinc 2 (-1), 3) := by decide +kernel
theorem d3_31 : decode prog_43_method_4_code 31 = .ok (.goto (-27), 3) := by decide +kernel
theorem ef_rmT2 (m : MethodId) (x0 : Addr) (x1 : Int32) : entryFrame m #[(.ref x0), (.int x1)] 5 = mkF m 0 #[.val (.ref x0), .val (.int x1), .unset, .unset, .unset] [] := by first | (simp [entryFrame, mkF, argsToLocals, Value.category]; done) | rfl
def own_QT2 (v0 v1 v2 v3 v4 v5 v6 v7 : Int32) (h0 : Heap) (n0 : Nat) (v : Option Value) (h : Heap) (L : List Loc) : Prop := v = some (.int ((own_tl2 v1 v0))) ∧ Fr n0 L ∧ h = h0
set_option maxRecDepth 65536 in
set_option maxHeartbeats 40000000 in
theorem rmT2 (l : Launch) (Z : State) (a0 : Array Value) (hw : ∀ d ∈ tables_1, d.before a0 Z = true) (ws : List Jvm.Cond) (a1 : Addr) (k : ClassId) (v0 v1 v2 v3 v4 v5 v6 v7 : Int32) (h0 : Heap) (n0 : Nat) (Z0 : n0 ≤ h0.size) (V1 : Arv Z h0 a1 k .byte (8 : Int32) [(.int v0), (.int v1), (.int v2), (.int v3), (.int v4), (.int v5), (.int v6), (.int v7)] (.int (0 : Int32))) : own_Met l Z (⟨"com/example/munka/munka/util/Utf8", "unfinishedTail", "([BI)I"⟩ : MethodName) prog_43_method_4_code 5 (some .int) ws (own_R 1 0 0 16) #[(.ref a1), (.int (2 : Int32))] h0 (own_QT2 v0 v1 v2 v3 v4 v5 v6 v7 h0 n0) := by
  refine own_enter n0 own_pn12 (fun m => ef_rmT2 m a1 (2 : Int32) ) (fun p e s m below meth c s₁ hx hby hlk hml hret hown hnm hZ X0 e0 N0 => ?_)
  show own_Fin p e below s _ _ _ s₁ (mkF m 0 #[.val (.ref a1), .val (.int (2 : Int32)), .unset, .unset, .unset] [])
  refine own_by (fun _ k => XS.iloadN X0.here hx rfl (hb hby d3_0) rfl (XS.iconst X0.here hx rfl (hb hby d3_1) (XS.isub X0.here hx rfl (hb hby d3_2) rfl k))) ?_
  show own_Fin p e below s _ _ _ s₁ (mkF m 3 #[.val (.ref a1), .val (.int (2 : Int32)), .unset, .unset, .unset] [(.int ((2 : Int32) - (1 : Int32)))])
  rw [(by decide : ((2 : Int32) - (1 : Int32)) = (1 : Int32))]
  show own_Fin p e below s _ _ _ s₁ (mkF m 3 #[.val (.ref a1), .val (.int (2 : Int32)), .unset, .unset, .unset] [(.int (1 : Int32))])
  refine own_by (fun _ k => XS.istoreN X0.here hx rfl (hb hby d3_3) rfl (l' := #[.val (.ref a1), .val (.int (2 : Int32)), .val (.int (1 : Int32)), .unset, .unset]) rfl (XS.iloadN X0.here hx rfl (hb hby d3_4) rfl k)) ?_
  show own_Fin p e below s _ _ _ s₁ (mkF m 5 #[.val (.ref a1), .val (.int (2 : Int32)), .val (.int (1 : Int32)), .unset, .unset] [(.int (1 : Int32))])
  refine own_by (fun _ k => XS.ifNo X0.here hx rfl (hb hby d3_5) rfl ((if0 _ _).trans (tlt (by decide : (0 : Int32) < (1 : Int32))).2.2.2) k) ?_
  show own_Fin p e below s _ _ _ s₁ (mkF m 8 #[.val (.ref a1), .val (.int (2 : Int32)), .val (.int (1 : Int32)), .unset, .unset] [])
  refine own_by (fun _ k => XS.iloadN X0.here hx rfl (hb hby d3_8) rfl (XS.iloadN X0.here hx rfl (hb hby d3_9) rfl (XS.iconst X0.here hx rfl (hb hby d3_10) (XS.isub X0.here hx rfl (hb hby d3_11) rfl k)))) ?_
  show own_Fin p e below s _ _ _ s₁ (mkF m 12 #[.val (.ref a1), .val (.int (2 : Int32)), .val (.int (1 : Int32)), .unset, .unset] [(.int ((2 : Int32) - (4 : Int32))), (.int (1 : Int32))])
  rw [(by decide : ((2 : Int32) - (4 : Int32)) = (-2 : Int32))]
  show own_Fin p e below s _ _ _ s₁ (mkF m 12 #[.val (.ref a1), .val (.int (2 : Int32)), .val (.int (1 : Int32)), .unset, .unset] [(.int (-2 : Int32)), (.int (1 : Int32))])
  refine own_by (fun _ k => XS.icmpNo X0.here hx rfl (hb hby d3_12) rfl (tlt (by decide : (-2 : Int32) < (1 : Int32))).2.2.2 k) ?_
  show own_Fin p e below s _ _ _ s₁ (mkF m 15 #[.val (.ref a1), .val (.int (2 : Int32)), .val (.int (1 : Int32)), .unset, .unset] [])
  refine own_by (fun _ k => XS.aloadN X0.here hx rfl (hb hby d3_15) rfl rfl (XS.iloadN X0.here hx rfl (hb hby d3_16) rfl k)) ?_
  show own_Fin p e below s _ _ _ s₁ (mkF m 17 #[.val (.ref a1), .val (.int (2 : Int32)), .val (.int (1 : Int32)), .unset, .unset] [(.int (1 : Int32)), (.ref a1)])
  obtain ⟨cl9, Ar9, -, S9, M9, H9, -⟩ := id V1
  have hin9 : ¬ ((1 : Int32) < 0 ∨ cl9.slots.size ≤ ((1 : Int32)).toNatClampNeg) := inb_of S9 ⟨by decide, by decide⟩
  have hat9 : cl9.slots[((1 : Int32)).toNatClampNeg]? = some (.int v1) := Has.at H9 hin9 rfl
  refine own_by (fun _ k => X0.baloadBytes hx (j := (1 : Int32)) (v := (.int v1)) (by rw [e0]; exact Ar9.1) (State.isArrayOf_alike hZ.alike Ar9.2.1) Ar9.2.2 hin9 hat9 (g := (mkF m 17 #[.val (.ref a1), .val (.int (2 : Int32)), .val (.int (1 : Int32)), .unset, .unset] [(.int (1 : Int32)), (.ref a1)])) rfl rfl (hb hby d3_17) _ k) ?_
  show own_Fin p e below s _ _ _ s₁ (mkF m 18 #[.val (.ref a1), .val (.int (2 : Int32)), .val (.int (1 : Int32)), .unset, .unset] [(.int v1)])
  refine own_by (fun _ k => XS.sipush X0.here hx rfl (hb hby d3_18) (XS.iand X0.here hx rfl (hb hby d3_21) rfl (XS.sipush X0.here hx rfl (hb hby d3_22) k))) ?_
  show own_Fin p e below s _ _ _ s₁ (mkF m 25 #[.val (.ref a1), .val (.int (2 : Int32)), .val (.int (1 : Int32)), .unset, .unset] [(.int (128 : Int32)), (.int (v1 &&& (192 : Int32)))])
  by_cases hc25_10 : (v1 &&& (192 : Int32)) = (128 : Int32)
  · show own_Fin p e below s _ _ _ s₁ (mkF m 25 #[.val (.ref a1), .val (.int (2 : Int32)), .val (.int (1 : Int32)), .unset, .unset] [(.int (128 : Int32)), (.int (v1 &&& (192 : Int32)))])
    refine own_by (fun _ k => XS.icmpNo X0.here hx rfl (hb hby d3_25) rfl (teq hc25_10).2 k) ?_
    show own_Fin p e below s _ _ _ s₁ (mkF m 28 #[.val (.ref a1), .val (.int (2 : Int32)), .val (.int (1 : Int32)), .unset, .unset] [])
    refine own_by (fun _ k => XS.iinc X0.here hx rfl (hb hby d3_28) rfl (l' := #[.val (.ref a1), .val (.int (2 : Int32)), .val (.int ((1 : Int32) + (-1 : Int32))), .unset, .unset]) rfl k) ?_
    show own_Fin p e below s _ _ _ s₁ (mkF m 31 #[.val (.ref a1), .val (.int (2 : Int32)), .val (.int ((1 : Int32) + (-1 : Int32))), .unset, .unset] [])
    rw [(by decide : ((1 : Int32) + (-1 : Int32)) = (0 : Int32))]
    show own_Fin p e below s _ _ _ s₁ (mkF m 31 #[.val (.ref a1), .val (.int (2 : Int32)), .val (.int (0 : Int32)), .unset, .unset] [])
    refine own_by (fun _ k => XS.goto X0.here hx rfl (pc0 := 31) (pc' := 4) rfl (hb hby d3_31) (by decide) (by decide) (XS.iloadN X0.here hx rfl (hb hby d3_4) rfl k)) ?_
    show own_Fin p e below s _ _ _ s₁ (mkF m 5 #[.val (.ref a1), .val (.int (2 : Int32)), .val (.int (0 : Int32)), .unset, .unset] [(.int (0 : Int32))])
    refine own_by (fun _ k => XS.ifYes X0.here hx rfl (pc0 := 5) (pc' := 34) rfl (hb hby d3_5) rfl ((if0 _ _).trans (flt (by decide : ¬ ((0 : Int32) < (0 : Int32)))).2.2.2) (by decide) (by decide) k) ?_
    show own_Fin p e below s _ _ _ s₁ (mkF m 34 #[.val (.ref a1), .val (.int (2 : Int32)), .val (.int (0 : Int32)), .unset, .unset] [])
    refine own_by (fun _ k => XS.iloadN X0.here hx rfl (hb hby d3_34) rfl (XS.iloadN X0.here hx rfl (hb hby d3_35) rfl (XS.isub X0.here hx rfl (hb hby d3_36) rfl k))) ?_
    show own_Fin p e below s _ _ _ s₁ (mkF m 37 #[.val (.ref a1), .val (.int (2 : Int32)), .val (.int (0 : Int32)), .unset, .unset] [(.int ((2 : Int32) - (0 : Int32)))])
    rw [(by decide : ((2 : Int32) - (0 : Int32)) = (2 : Int32))]
    show own_Fin p e below s _ _ _ s₁ (mkF m 37 #[.val (.ref a1), .val (.int (2 : Int32)), .val (.int (0 : Int32)), .unset, .unset] [(.int (2 : Int32))])
    refine own_by (fun _ k => XS.istoreN X0.here hx rfl (hb hby d3_37) rfl (l' := #[.val (.ref a1), .val (.int (2 : Int32)), .val (.int (0 : Int32)), .val (.int (2 : Int32)), .unset]) rfl (XS.iloadN X0.here hx rfl (hb hby d3_38) rfl k)) ?_
    show own_Fin p e below s _ _ _ s₁ (mkF m 39 #[.val (.ref a1), .val (.int (2 : Int32)), .val (.int (0 : Int32)), .val (.int (2 : Int32)), .unset] [(.int (0 : Int32))])
    refine own_by (fun _ k => XS.ifNo X0.here hx rfl (hb hby d3_39) rfl ((if0 _ _).trans (flt (by decide : ¬ ((0 : Int32) < (0 : Int32)))).1) k) ?_
    show own_Fin p e below s _ _ _ s₁ (mkF m 42 #[.val (.ref a1), .val (.int (2 : Int32)), .val (.int (0 : Int32)), .val (.int (2 : Int32)), .unset] [])
    refine own_by (fun _ k => XS.iloadN X0.here hx rfl (hb hby d3_42) rfl (XS.aloadN X0.here hx rfl (hb hby d3_43) rfl rfl (XS.iloadN X0.here hx rfl (hb hby d3_44) rfl k))) ?_
    show own_Fin p e below s _ _ _ s₁ (mkF m 45 #[.val (.ref a1), .val (.int (2 : Int32)), .val (.int (0 : Int32)), .val (.int (2 : Int32)), .unset] [(.int (0 : Int32)), (.ref a1), (.int (2 : Int32))])
    obtain ⟨cl11, Ar11, -, S11, M11, H11, -⟩ := id V1
    have hin11 : ¬ ((0 : Int32) < 0 ∨ cl11.slots.size ≤ ((0 : Int32)).toNatClampNeg) := inb_of S11 ⟨by decide, by decide⟩
    have hat11 : cl11.slots[((0 : Int32)).toNatClampNeg]? = some (.int v0) := Has.at H11 hin11 rfl
    refine own_by (fun _ k => X0.baloadBytes hx (j := (0 : Int32)) (v := (.int v0)) (by rw [e0]; exact Ar11.1) (State.isArrayOf_alike hZ.alike Ar11.2.1) Ar11.2.2 hin11 hat11 (g := (mkF m 45 #[.val (.ref a1), .val (.int (2 : Int32)), .val (.int (0 : Int32)), .val (.int (2 : Int32)), .unset] [(.int (0 : Int32)), (.ref a1), (.int (2 : Int32))])) rfl rfl (hb hby d3_45) _ k) ?_
    show own_Fin p e below s _ _ _ s₁ (mkF m 46 #[.val (.ref a1), .val (.int (2 : Int32)), .val (.int (0 : Int32)), .val (.int (2 : Int32)), .unset] [(.int v0), (.int (2 : Int32))])
    refine own_by (fun _ k => XS.sipush X0.here hx rfl (hb hby d3_46) (XS.iand X0.here hx rfl (hb hby d3_49) rfl k)) ?_
    show own_Fin p e below s _ _ _ s₁ (mkF m 50 #[.val (.ref a1), .val (.int (2 : Int32)), .val (.int (0 : Int32)), .val (.int (2 : Int32)), .unset] [(.int (v0 &&& (255 : Int32))), (.int (2 : Int32))])
    obtain ⟨_, _, ⟨T12, L12, k12, n12⟩, -, X12, ⟨Lc12, hQ12, l12, y12, z12⟩, st12⟩ := Jvm.LawKit.callS X0 hx (y := (⟨"com/example/munka/munka/util/Utf8", "sequenceLength", "(I)I"⟩ : MethodName)) hown (mvT hZ (hw _ (List.mem_of_getElem? (i := 13) rfl))) (mvT hZ (hw _ (List.mem_of_getElem? (i := 14) rfl))) (mvT hZ (hw _ (List.mem_of_getElem? (i := 11) rfl))) (mvT hZ (hw _ (List.mem_of_getElem? (i := 15) rfl))) (by decide) (backOf (W := 1) (rm4 l Z a0 hw [] (v0 &&& (255 : Int32)) h0 n0 Z0 ) hZ (hw _ (List.mem_of_getElem? (i := 15) rfl)) (hw _ (List.mem_of_getElem? (i := 11) rfl)) (by decide) (by decide)) (g := (mkF m 50 #[.val (.ref a1), .val (.int (2 : Int32)), .val (.int (0 : Int32)), .val (.int (2 : Int32)), .unset] [(.int (v0 &&& (255 : Int32))), (.int (2 : Int32))])) rfl (by rw [hml]; rfl) (argsL := [(.int (v0 &&& (255 : Int32)))]) (rest := [(.int (2 : Int32))]) (lenOf own_pd69 rfl) rfl (by show 2 * 0 + _ ≤ _; exact Nat.le_of_eq rfl) (hb hby d3_50) (fun _ _ => ⟨rfl, e0, (by decide : 0 + 0 ≤ _), (by decide : 0 + 0 ≤ _)⟩)
    dsimp only [Pt.U, Pt.locs, Pt.cells, Pt.slots] at X12 l12 y12 z12 st12 hQ12
    subst l12 y12 z12
    obtain ⟨rfl, Nq12, eh12⟩ := hQ12
    have N12 := Fr.app N0 Nq12
    refine own_by (fun _ k => st12 _ k) ?_
    show own_Fin p e below s _ _ _ T12 (mkF m 53 #[.val (.ref a1), .val (.int (2 : Int32)), .val (.int (0 : Int32)), .val (.int (2 : Int32)), .unset] [(.int (own_seq (v0 &&& (255 : Int32)))), (.int (2 : Int32))])
    by_cases hc53_13 : (2 : Int32) < (own_seq (v0 &&& (255 : Int32)))
    · show own_Fin p e below s _ _ _ T12 (mkF m 53 #[.val (.ref a1), .val (.int (2 : Int32)), .val (.int (0 : Int32)), .val (.int (2 : Int32)), .unset] [(.int (own_seq (v0 &&& (255 : Int32)))), (.int (2 : Int32))])
      refine own_by (fun _ k => XS.icmpNo X12.here hx rfl (hb hby d3_53) rfl (tlt hc53_13).2.1 k) ?_
      show own_Fin p e below s _ _ _ T12 (mkF m 56 #[.val (.ref a1), .val (.int (2 : Int32)), .val (.int (0 : Int32)), .val (.int (2 : Int32)), .unset] [])
      refine own_by (fun _ k => XS.iconst X12.here hx rfl (hb hby d3_56) (XS.goto X12.here hx rfl (pc0 := 57) (pc' := 61) rfl (hb hby d3_57) (by decide) (by decide) (XS.istore X12.here hx rfl (hb hby d3_61) rfl (l' := #[.val (.ref a1), .val (.int (2 : Int32)), .val (.int (0 : Int32)), .val (.int (2 : Int32)), .val (.int (1 : Int32))]) rfl (XS.iload X12.here hx rfl (hb hby d3_63) rfl k)))) ?_
      show own_Fin p e below s _ _ _ T12 (mkF m 65 #[.val (.ref a1), .val (.int (2 : Int32)), .val (.int (0 : Int32)), .val (.int (2 : Int32)), .val (.int (1 : Int32))] [(.int (1 : Int32))])
      refine own_by (fun _ k => XS.ifNo X12.here hx rfl (hb hby d3_65) rfl ((if0 _ _).trans (feq (by decide : ¬ ((1 : Int32) = (0 : Int32)))).1) k) ?_
      show own_Fin p e below s _ _ _ T12 (mkF m 68 #[.val (.ref a1), .val (.int (2 : Int32)), .val (.int (0 : Int32)), .val (.int (2 : Int32)), .val (.int (1 : Int32))] [])
      refine own_by (fun _ k => XS.iloadN X12.here hx rfl (hb hby d3_68) rfl (XS.goto X12.here hx rfl (pc0 := 69) (pc' := 73) rfl (hb hby d3_69) (by decide) (by decide) k)) ?_
      show own_Fin p e below s _ _ _ T12 (mkF m 73 #[.val (.ref a1), .val (.int (2 : Int32)), .val (.int (0 : Int32)), .val (.int (2 : Int32)), .val (.int (1 : Int32))] [(.int (2 : Int32))])
      exact own_retI X12 hx hlk hret (hb hby d3_73) ⟨own_vi (by show (2 : Int32) = _; first | (simp only [own_tl1, own_tl2, own_tl3, own_tl4, hc25_10, hc53_13, if_true, if_false]; done) | (simp only [own_tl1, own_tl2, own_tl3, own_tl4, hc25_10, hc53_13, if_true, if_false]; decide) | simp [own_tl1, own_tl2, own_tl3, own_tl4, hc25_10, hc53_13]), N12, eh12⟩ (by decide) (by decide)
    · show own_Fin p e below s _ _ _ T12 (mkF m 53 #[.val (.ref a1), .val (.int (2 : Int32)), .val (.int (0 : Int32)), .val (.int (2 : Int32)), .unset] [(.int (own_seq (v0 &&& (255 : Int32)))), (.int (2 : Int32))])
      refine own_by (fun _ k => XS.icmpYes X12.here hx rfl (pc0 := 53) (pc' := 60) rfl (hb hby d3_53) rfl (flt hc53_13).2.1 (by decide) (by decide) k) ?_
      show own_Fin p e below s _ _ _ T12 (mkF m 60 #[.val (.ref a1), .val (.int (2 : Int32)), .val (.int (0 : Int32)), .val (.int (2 : Int32)), .unset] [])
      refine own_by (fun _ k => XS.iconst X12.here hx rfl (hb hby d3_60) (XS.istore X12.here hx rfl (hb hby d3_61) rfl (l' := #[.val (.ref a1), .val (.int (2 : Int32)), .val (.int (0 : Int32)), .val (.int (2 : Int32)), .val (.int (0 : Int32))]) rfl (XS.iload X12.here hx rfl (hb hby d3_63) rfl k))) ?_
      show own_Fin p e below s _ _ _ T12 (mkF m 65 #[.val (.ref a1), .val (.int (2 : Int32)), .val (.int (0 : Int32)), .val (.int (2 : Int32)), .val (.int (0 : Int32))] [(.int (0 : Int32))])
      refine own_by (fun _ k => XS.ifYes X12.here hx rfl (pc0 := 65) (pc' := 72) rfl (hb hby d3_65) rfl ((if0 _ _).trans (teq (by decide : (0 : Int32) = (0 : Int32))).1) (by decide) (by decide) k) ?_
      show own_Fin p e below s _ _ _ T12 (mkF m 72 #[.val (.ref a1), .val (.int (2 : Int32)), .val (.int (0 : Int32)), .val (.int (2 : Int32)), .val (.int (0 : Int32))] [])
      refine own_by (fun _ k => XS.iconst X12.here hx rfl (hb hby d3_72) k) ?_
      show own_Fin p e below s _ _ _ T12 (mkF m 73 #[.val (.ref a1), .val (.int (2 : Int32)), .val (.int (0 : Int32)), .val (.int (2 : Int32)), .val (.int (0 : Int32))] [(.int (0 : Int32))])
      exact own_retI X12 hx hlk hret (hb hby d3_73) ⟨own_vi (by show (0 : Int32) = _; first | (simp only [own_tl1, own_tl2, own_tl3, own_tl4, hc25_10, hc53_13, if_true, if_false]; done) | (simp only [own_tl1, own_tl2, own_tl3, own_tl4, hc25_10, hc53_13, if_true, if_false]; decide) | simp [own_tl1, own_tl2, own_tl3, own_tl4, hc25_10, hc53_13]), N12, eh12⟩ (by decide) (by decide)
  · show own_Fin p e below s _ _ _ s₁ (mkF m 25 #[.val (.ref a1), .val (.int (2 : Int32)), .val (.int (1 : Int32)), .unset, .unset] [(.int (128 : Int32)), (.int (v1 &&& (192 : Int32)))])
    refine own_by (fun _ k => XS.icmpYes X0.here hx rfl (pc0 := 25) (pc' := 34) rfl (hb hby d3_25) rfl (feq hc25_10).2 (by decide) (by decide) k) ?_
    show own_Fin p e below s _ _ _ s₁ (mkF m 34 #[.val (.ref a1), .val (.int (2 : Int32)), .val (.int (1 : Int32)), .unset, .unset] [])
    refine own_by (fun _ k => XS.iloadN X0.here hx rfl (hb hby d3_34) rfl (XS.iloadN X0.here hx rfl (hb hby d3_35) rfl (XS.isub X0.here hx rfl (hb hby d3_36) rfl k))) ?_
    show own_Fin p e below s _ _ _ s₁ (mkF m 37 #[.val (.ref a1), .val (.int (2 : Int32)), .val (.int (1 : Int32)), .unset, .unset] [(.int ((2 : Int32) - (1 : Int32)))])
    rw [(by decide : ((2 : Int32) - (1 : Int32)) = (1 : Int32))]
    show own_Fin p e below s _ _ _ s₁ (mkF m 37 #[.val (.ref a1), .val (.int (2 : Int32)), .val (.int (1 : Int32)), .unset, .unset] [(.int (1 : Int32))])
    refine own_by (fun _ k => XS.istoreN X0.here hx rfl (hb hby d3_37) rfl (l' := #[.val (.ref a1), .val (.int (2 : Int32)), .val (.int (1 : Int32)), .val (.int (1 : Int32)), .unset]) rfl (XS.iloadN X0.here hx rfl (hb hby d3_38) rfl k)) ?_
    show own_Fin p e below s _ _ _ s₁ (mkF m 39 #[.val (.ref a1), .val (.int (2 : Int32)), .val (.int (1 : Int32)), .val (.int (1 : Int32)), .unset] [(.int (1 : Int32))])
    refine own_by (fun _ k => XS.ifNo X0.here hx rfl (hb hby d3_39) rfl ((if0 _ _).trans (flt (by decide : ¬ ((1 : Int32) < (0 : Int32)))).1) k) ?_
    show own_Fin p e below s _ _ _ s₁ (mkF m 42 #[.val (.ref a1), .val (.int (2 : Int32)), .val (.int (1 : Int32)), .val (.int (1 : Int32)), .unset] [])
    refine own_by (fun _ k => XS.iloadN X0.here hx rfl (hb hby d3_42) rfl (XS.aloadN X0.here hx rfl (hb hby d3_43) rfl rfl (XS.iloadN X0.here hx rfl (hb hby d3_44) rfl k))) ?_
    show own_Fin p e below s _ _ _ s₁ (mkF m 45 #[.val (.ref a1), .val (.int (2 : Int32)), .val (.int (1 : Int32)), .val (.int (1 : Int32)), .unset] [(.int (1 : Int32)), (.ref a1), (.int (1 : Int32))])
    obtain ⟨cl14, Ar14, -, S14, M14, H14, -⟩ := id V1
    have hin14 : ¬ ((1 : Int32) < 0 ∨ cl14.slots.size ≤ ((1 : Int32)).toNatClampNeg) := inb_of S14 ⟨by decide, by decide⟩
    have hat14 : cl14.slots[((1 : Int32)).toNatClampNeg]? = some (.int v1) := Has.at H14 hin14 rfl
    refine own_by (fun _ k => X0.baloadBytes hx (j := (1 : Int32)) (v := (.int v1)) (by rw [e0]; exact Ar14.1) (State.isArrayOf_alike hZ.alike Ar14.2.1) Ar14.2.2 hin14 hat14 (g := (mkF m 45 #[.val (.ref a1), .val (.int (2 : Int32)), .val (.int (1 : Int32)), .val (.int (1 : Int32)), .unset] [(.int (1 : Int32)), (.ref a1), (.int (1 : Int32))])) rfl rfl (hb hby d3_45) _ k) ?_
    show own_Fin p e below s _ _ _ s₁ (mkF m 46 #[.val (.ref a1), .val (.int (2 : Int32)), .val (.int (1 : Int32)), .val (.int (1 : Int32)), .unset] [(.int v1), (.int (1 : Int32))])
    refine own_by (fun _ k => XS.sipush X0.here hx rfl (hb hby d3_46) (XS.iand X0.here hx rfl (hb hby d3_49) rfl k)) ?_
    show own_Fin p e below s _ _ _ s₁ (mkF m 50 #[.val (.ref a1), .val (.int (2 : Int32)), .val (.int (1 : Int32)), .val (.int (1 : Int32)), .unset] [(.int (v1 &&& (255 : Int32))), (.int (1 : Int32))])
    obtain ⟨_, _, ⟨T15, L15, k15, n15⟩, -, X15, ⟨Lc15, hQ15, l15, y15, z15⟩, st15⟩ := Jvm.LawKit.callS X0 hx (y := (⟨"com/example/munka/munka/util/Utf8", "sequenceLength", "(I)I"⟩ : MethodName)) hown (mvT hZ (hw _ (List.mem_of_getElem? (i := 13) rfl))) (mvT hZ (hw _ (List.mem_of_getElem? (i := 14) rfl))) (mvT hZ (hw _ (List.mem_of_getElem? (i := 11) rfl))) (mvT hZ (hw _ (List.mem_of_getElem? (i := 15) rfl))) (by decide) (backOf (W := 1) (rm4 l Z a0 hw [] (v1 &&& (255 : Int32)) h0 n0 Z0 ) hZ (hw _ (List.mem_of_getElem? (i := 15) rfl)) (hw _ (List.mem_of_getElem? (i := 11) rfl)) (by decide) (by decide)) (g := (mkF m 50 #[.val (.ref a1), .val (.int (2 : Int32)), .val (.int (1 : Int32)), .val (.int (1 : Int32)), .unset] [(.int (v1 &&& (255 : Int32))), (.int (1 : Int32))])) rfl (by rw [hml]; rfl) (argsL := [(.int (v1 &&& (255 : Int32)))]) (rest := [(.int (1 : Int32))]) (lenOf own_pd69 rfl) rfl (by show 2 * 0 + _ ≤ _; exact Nat.le_of_eq rfl) (hb hby d3_50) (fun _ _ => ⟨rfl, e0, (by decide : 0 + 0 ≤ _), (by decide : 0 + 0 ≤ _)⟩)
    dsimp only [Pt.U, Pt.locs, Pt.cells, Pt.slots] at X15 l15 y15 z15 st15 hQ15
    subst l15 y15 z15
    obtain ⟨rfl, Nq15, eh15⟩ := hQ15
    have N15 := Fr.app N0 Nq15
    refine own_by (fun _ k => st15 _ k) ?_
    show own_Fin p e below s _ _ _ T15 (mkF m 53 #[.val (.ref a1), .val (.int (2 : Int32)), .val (.int (1 : Int32)), .val (.int (1 : Int32)), .unset] [(.int (own_seq (v1 &&& (255 : Int32)))), (.int (1 : Int32))])
    by_cases hc53_16 : (1 : Int32) < (own_seq (v1 &&& (255 : Int32)))
    · show own_Fin p e below s _ _ _ T15 (mkF m 53 #[.val (.ref a1), .val (.int (2 : Int32)), .val (.int (1 : Int32)), .val (.int (1 : Int32)), .unset] [(.int (own_seq (v1 &&& (255 : Int32)))), (.int (1 : Int32))])
      refine own_by (fun _ k => XS.icmpNo X15.here hx rfl (hb hby d3_53) rfl (tlt hc53_16).2.1 k) ?_
      show own_Fin p e below s _ _ _ T15 (mkF m 56 #[.val (.ref a1), .val (.int (2 : Int32)), .val (.int (1 : Int32)), .val (.int (1 : Int32)), .unset] [])
      refine own_by (fun _ k => XS.iconst X15.here hx rfl (hb hby d3_56) (XS.goto X15.here hx rfl (pc0 := 57) (pc' := 61) rfl (hb hby d3_57) (by decide) (by decide) (XS.istore X15.here hx rfl (hb hby d3_61) rfl (l' := #[.val (.ref a1), .val (.int (2 : Int32)), .val (.int (1 : Int32)), .val (.int (1 : Int32)), .val (.int (1 : Int32))]) rfl (XS.iload X15.here hx rfl (hb hby d3_63) rfl k)))) ?_
      show own_Fin p e below s _ _ _ T15 (mkF m 65 #[.val (.ref a1), .val (.int (2 : Int32)), .val (.int (1 : Int32)), .val (.int (1 : Int32)), .val (.int (1 : Int32))] [(.int (1 : Int32))])
      refine own_by (fun _ k => XS.ifNo X15.here hx rfl (hb hby d3_65) rfl ((if0 _ _).trans (feq (by decide : ¬ ((1 : Int32) = (0 : Int32)))).1) k) ?_
      show own_Fin p e below s _ _ _ T15 (mkF m 68 #[.val (.ref a1), .val (.int (2 : Int32)), .val (.int (1 : Int32)), .val (.int (1 : Int32)), .val (.int (1 : Int32))] [])
      refine own_by (fun _ k => XS.iloadN X15.here hx rfl (hb hby d3_68) rfl (XS.goto X15.here hx rfl (pc0 := 69) (pc' := 73) rfl (hb hby d3_69) (by decide) (by decide) k)) ?_
      show own_Fin p e below s _ _ _ T15 (mkF m 73 #[.val (.ref a1), .val (.int (2 : Int32)), .val (.int (1 : Int32)), .val (.int (1 : Int32)), .val (.int (1 : Int32))] [(.int (1 : Int32))])
      exact own_retI X15 hx hlk hret (hb hby d3_73) ⟨own_vi (by show (1 : Int32) = _; first | (simp only [own_tl1, own_tl2, own_tl3, own_tl4, hc25_10, hc53_16, if_true, if_false]; done) | (simp only [own_tl1, own_tl2, own_tl3, own_tl4, hc25_10, hc53_16, if_true, if_false]; decide) | simp [own_tl1, own_tl2, own_tl3, own_tl4, hc25_10, hc53_16]), N15, eh15⟩ (by decide) (by decide)
    · show own_Fin p e below s _ _ _ T15 (mkF m 53 #[.val (.ref a1), .val (.int (2 : Int32)), .val (.int (1 : Int32)), .val (.int (1 : Int32)), .unset] [(.int (own_seq (v1 &&& (255 : Int32)))), (.int (1 : Int32))])
      refine own_by (fun _ k => XS.icmpYes X15.here hx rfl (pc0 := 53) (pc' := 60) rfl (hb hby d3_53) rfl (flt hc53_16).2.1 (by decide) (by decide) k) ?_
      show own_Fin p e below s _ _ _ T15 (mkF m 60 #[.val (.ref a1), .val (.int (2 : Int32)), .val (.int (1 : Int32)), .val (.int (1 : Int32)), .unset] [])
      refine own_by (fun _ k => XS.iconst X15.here hx rfl (hb hby d3_60) (XS.istore X15.here hx rfl (hb hby d3_61) rfl (l' := #[.val (.ref a1), .val (.int (2 : Int32)), .val (.int (1 : Int32)), .val (.int (1 : Int32)), .val (.int (0 : Int32))]) rfl (XS.iload X15.here hx rfl (hb hby d3_63) rfl k))) ?_
      show own_Fin p e below s _ _ _ T15 (mkF m 65 #[.val (.ref a1), .val (.int (2 : Int32)), .val (.int (1 : Int32)), .val (.int (1 : Int32)), .val (.int (0 : Int32))] [(.int (0 : Int32))])
      refine own_by (fun _ k => XS.ifYes X15.here hx rfl (pc0 := 65) (pc' := 72) rfl (hb hby d3_65) rfl ((if0 _ _).trans (teq (by decide : (0 : Int32) = (0 : Int32))).1) (by decide) (by decide) k) ?_
      show own_Fin p e below s _ _ _ T15 (mkF m 72 #[.val (.ref a1), .val (.int (2 : Int32)), .val (.int (1 : Int32)), .val (.int (1 : Int32)), .val (.int (0 : Int32))] [])
      refine own_by (fun _ k => XS.iconst X15.here hx rfl (hb hby d3_72) k) ?_
      show own_Fin p e below s _ _ _ T15 (mkF m 73 #[.val (.ref a1), .val (.int (2 : Int32)), .val (.int (1 : Int32)), .val (.int (1 : Int32)), .val (.int (0 : Int32))] [(.int (0 : Int32))])
      exact own_retI X15 hx hlk hret (hb hby d3_73) ⟨own_vi (by show (0 : Int32) = _; first | (simp only [own_tl1, own_tl2, own_tl3, own_tl4, hc25_10, hc53_16, if_true, if_false]; done) | (simp only [own_tl1, own_tl2, own_tl3, own_tl4, hc25_10, hc53_16, if_true, if_false]; decide) | simp [own_tl1, own_tl2, own_tl3, own_tl4, hc25_10, hc53_16]), N15, eh15⟩ (by decide) (by decide)
theorem ef_rmT3 (m : MethodId) (x0 : Addr) (x1 : Int32) : entryFrame m #[(.ref x0), (.int x1)] 5 = mkF m 0 #[.val (.ref x0), .val (.int x1), .unset, .unset, .unset] [] := by first | (simp [entryFrame, mkF, argsToLocals, Value.category]; done) | rfl
def own_QT3 (v0 v1 v2 v3 v4 v5 v6 v7 : Int32) (h0 : Heap) (n0 : Nat) (v : Option Value) (h : Heap) (L : List Loc) : Prop := v = some (.int ((own_tl3 v2 v1 v0))) ∧ Fr n0 L ∧ h = h0
set_option maxRecDepth 65536 in
set_option maxHeartbeats 40000000 in
theorem rmT3 (l : Launch) (Z : State) (a0 : Array Value) (hw : ∀ d ∈ tables_1, d.before a0 Z = true) (ws : List Jvm.Cond) (a1 : Addr) (k : ClassId) (v0 v1 v2 v3 v4 v5 v6 v7 : Int32) (h0 : Heap) (n0 : Nat) (Z0 : n0 ≤ h0.size) (V1 : Arv Z h0 a1 k .byte (8 : Int32) [(.int v0), (.int v1), (.int v2), (.int v3), (.int v4), (.int v5), (.int v6), (.int v7)] (.int (0 : Int32))) : own_Met l Z (⟨"com/example/munka/munka/util/Utf8", "unfinishedTail", "([BI)I"⟩ : MethodName) prog_43_method_4_code 5 (some .int) ws (own_R 1 0 0 16) #[(.ref a1), (.int (3 : Int32))] h0 (own_QT3 v0 v1 v2 v3 v4 v5 v6 v7 h0 n0) := by
  refine own_enter n0 own_pn12 (fun m => ef_rmT3 m a1 (3 : Int32) ) (fun p e s m below meth c s₁ hx hby hlk hml hret hown hnm hZ X0 e0 N0 => ?_)
  show own_Fin p e below s _ _ _ s₁ (mkF m 0 #[.val (.ref a1), .val (.int (3 : Int32)), .unset, .unset, .unset] [])
  refine own_by (fun _ k => XS.iloadN X0.here hx rfl (hb hby d3_0) rfl (XS.iconst X0.here hx rfl (hb hby d3_1) (XS.isub X0.here hx rfl (hb hby d3_2) rfl k))) ?_
  show own_Fin p e below s _ _ _ s₁ (mkF m 3 #[.val (.ref a1), .val (.int (3 : Int32)), .unset, .unset, .unset] [(.int ((3 : Int32) - (1 : Int32)))])
  rw [(by decide : ((3 : Int32) - (1 : Int32)) = (2 : Int32))]
  show own_Fin p e below s _ _ _ s₁ (mkF m 3 #[.val (.ref a1), .val (.int (3 : Int32)), .unset, .unset, .unset] [(.int (2 : Int32))])
  refine own_by (fun _ k => XS.istoreN X0.here hx rfl (hb hby d3_3) rfl (l' := #[.val (.ref a1), .val (.int (3 : Int32)), .val (.int (2 : Int32)), .unset, .unset]) rfl (XS.iloadN X0.here hx rfl (hb hby d3_4) rfl k)) ?_
  show own_Fin p e below s _ _ _ s₁ (mkF m 5 #[.val (.ref a1), .val (.int (3 : Int32)), .val (.int (2 : Int32)), .unset, .unset] [(.int (2 : Int32))])
  refine own_by (fun _ k => XS.ifNo X0.here hx rfl (hb hby d3_5) rfl ((if0 _ _).trans (tlt (by decide : (0 : Int32) < (2 : Int32))).2.2.2) k) ?_
  show own_Fin p e below s _ _ _ s₁ (mkF m 8 #[.val (.ref a1), .val (.int (3 : Int32)), .val (.int (2 : Int32)), .unset, .unset] [])
  refine own_by (fun _ k => XS.iloadN X0.here hx rfl (hb hby d3_8) rfl (XS.iloadN X0.here hx rfl (hb hby d3_9) rfl (XS.iconst X0.here hx rfl (hb hby d3_10) (XS.isub X0.here hx rfl (hb hby d3_11) rfl k)))) ?_
  show own_Fin p e below s _ _ _ s₁ (mkF m 12 #[.val (.ref a1), .val (.int (3 : Int32)), .val (.int (2 : Int32)), .unset, .unset] [(.int ((3 : Int32) - (4 : Int32))), (.int (2 : Int32))])
  rw [(by decide : ((3 : Int32) - (4 : Int32)) = (-1 : Int32))]
  show own_Fin p e below s _ _ _ s₁ (mkF m 12 #[.val (.ref a1), .val (.int (3 : Int32)), .val (.int (2 : Int32)), .unset, .unset] [(.int (-1 : Int32)), (.int (2 : Int32))])
  refine own_by (fun _ k => XS.icmpNo X0.here hx rfl (hb hby d3_12) rfl (tlt (by decide : (-1 : Int32) < (2 : Int32))).2.2.2 k) ?_
  show own_Fin p e below s _ _ _ s₁ (mkF m 15 #[.val (.ref a1), .val (.int (3 : Int32)), .val (.int (2 : Int32)), .unset, .unset] [])
  refine own_by (fun _ k => XS.aloadN X0.here hx rfl (hb hby d3_15) rfl rfl (XS.iloadN X0.here hx rfl (hb hby d3_16) rfl k)) ?_
  show own_Fin p e below s _ _ _ s₁ (mkF m 17 #[.val (.ref a1), .val (.int (3 : Int32)), .val (.int (2 : Int32)), .unset, .unset] [(.int (2 : Int32)), (.ref a1)])
  obtain ⟨cl17, Ar17, -, S17, M17, H17, -⟩ := id V1
  have hin17 : ¬ ((2 : Int32) < 0 ∨ cl17.slots.size ≤ ((2 : Int32)).toNatClampNeg) := inb_of S17 ⟨by decide, by decide⟩
  have hat17 : cl17.slots[((2 : Int32)).toNatClampNeg]? = some (.int v2) := Has.at H17 hin17 rfl
  refine own_by (fun _ k => X0.baloadBytes hx (j := (2 : Int32)) (v := (.int v2)) (by rw [e0]; exact Ar17.1) (State.isArrayOf_alike hZ.alike Ar17.2.1) Ar17.2.2 hin17 hat17 (g := (mkF m 17 #[.val (.ref a1), .val (.int (3 : Int32)), .val (.int (2 : Int32)), .unset, .unset] [(.int (2 : Int32)), (.ref a1)])) rfl rfl (hb hby d3_17) _ k) ?_
  show own_Fin p e below s _ _ _ s₁ (mkF m 18 #[.val (.ref a1), .val (.int (3 : Int32)), .val (.int (2 : Int32)), .unset, .unset] [(.int v2)])
  refine own_by (fun _ k => XS.sipush X0.here hx rfl (hb hby d3_18) (XS.iand X0.here hx rfl (hb hby d3_21) rfl (XS.sipush X0.here hx rfl (hb hby d3_22) k))) ?_
  show own_Fin p e below s _ _ _ s₁ (mkF m 25 #[.val (.ref a1), .val (.int (3 : Int32)), .val (.int (2 : Int32)), .unset, .unset] [(.int (128 : Int32)), (.int (v2 &&& (192 : Int32)))])
  by_cases hc25_18 : (v2 &&& (192 : Int32)) = (128 : Int32)
  · show own_Fin p e below s _ _ _ s₁ (mkF m 25 #[.val (.ref a1), .val (.int (3 : Int32)), .val (.int (2 : Int32)), .unset, .unset] [(.int (128 : Int32)), (.int (v2 &&& (192 : Int32)))])
    refine own_by (fun _ k => XS.icmpNo X0.here hx rfl (hb hby d3_25) rfl (teq hc25_18).2 k) ?_
    show own_Fin p e below s _ _ _ s₁ (mkF m 28 #[.val (.ref a1), .val (.int (3 : Int32)), .val (.int (2 : Int32)), .unset, .unset] [])
    refine own_by (fun _ k => XS.iinc X0.here hx rfl (hb hby d3_28) rfl (l' := #[.val (.ref a1), .val (.int (3 : Int32)), .val (.int ((2 : Int32) + (-1 : Int32))), .unset, .unset]) rfl k) ?_
    show own_Fin p e below s _ _ _ s₁ (mkF m 31 #[.val (.ref a1), .val (.int (3 : Int32)), .val (.int ((2 : Int32) + (-1 : Int32))), .unset, .unset] [])
    rw [(by decide : ((2 : Int32) + (-1 : Int32)) = (1 : Int32))]
    show own_Fin p e below s _ _ _ s₁ (mkF m 31 #[.val (.ref a1), .val (.int (3 : Int32)), .val (.int (1 : Int32)), .unset, .unset] [])
    refine own_by (fun _ k => XS.goto X0.here hx rfl (pc0 := 31) (pc' := 4) rfl (hb hby d3_31) (by decide) (by decide) (XS.iloadN X0.here hx rfl (hb hby d3_4) rfl k)) ?_
    show own_Fin p e below s _ _ _ s₁ (mkF m 5 #[.val (.ref a1), .val (.int (3 : Int32)), .val (.int (1 : Int32)), .unset, .unset] [(.int (1 : Int32))])
    refine own_by (fun _ k => XS.ifNo X0.here hx rfl (hb hby d3_5) rfl ((if0 _ _).trans (tlt (by decide : (0 : Int32) < (1 : Int32))).2.2.2) k) ?_
    show own_Fin p e below s _ _ _ s₁ (mkF m 8 #[.val (.ref a1), .val (.int (3 : Int32)), .val (.int (1 : Int32)), .unset, .unset] [])
    refine own_by (fun _ k => XS.iloadN X0.here hx rfl (hb hby d3_8) rfl (XS.iloadN X0.here hx rfl (hb hby d3_9) rfl (XS.iconst X0.here hx rfl (hb hby d3_10) (XS.isub X0.here hx rfl (hb hby d3_11) rfl k)))) ?_
    show own_Fin p e below s _ _ _ s₁ (mkF m 12 #[.val (.ref a1), .val (.int (3 : Int32)), .val (.int (1 : Int32)), .unset, .unset] [(.int ((3 : Int32) - (4 : Int32))), (.int (1 : Int32))])
    rw [(by decide : ((3 : Int32) - (4 : Int32)) = (-1 : Int32))]
    show own_Fin p e below s _ _ _ s₁ (mkF m 12 #[.val (.ref a1), .val (.int (3 : Int32)), .val (.int (1 : Int32)), .unset, .unset] [(.int (-1 : Int32)), (.int (1 : Int32))])
    refine own_by (fun _ k => XS.icmpNo X0.here hx rfl (hb hby d3_12) rfl (tlt (by decide : (-1 : Int32) < (1 : Int32))).2.2.2 k) ?_
    show own_Fin p e below s _ _ _ s₁ (mkF m 15 #[.val (.ref a1), .val (.int (3 : Int32)), .val (.int (1 : Int32)), .unset, .unset] [])
    refine own_by (fun _ k => XS.aloadN X0.here hx rfl (hb hby d3_15) rfl rfl (XS.iloadN X0.here hx rfl (hb hby d3_16) rfl k)) ?_
    show own_Fin p e below s _ _ _ s₁ (mkF m 17 #[.val (.ref a1), .val (.int (3 : Int32)), .val (.int (1 : Int32)), .unset, .unset] [(.int (1 : Int32)), (.ref a1)])
    obtain ⟨cl19, Ar19, -, S19, M19, H19, -⟩ := id V1
    have hin19 : ¬ ((1 : Int32) < 0 ∨ cl19.slots.size ≤ ((1 : Int32)).toNatClampNeg) := inb_of S19 ⟨by decide, by decide⟩
    have hat19 : cl19.slots[((1 : Int32)).toNatClampNeg]? = some (.int v1) := Has.at H19 hin19 rfl
    refine own_by (fun _ k => X0.baloadBytes hx (j := (1 : Int32)) (v := (.int v1)) (by rw [e0]; exact Ar19.1) (State.isArrayOf_alike hZ.alike Ar19.2.1) Ar19.2.2 hin19 hat19 (g := (mkF m 17 #[.val (.ref a1), .val (.int (3 : Int32)), .val (.int (1 : Int32)), .unset, .unset] [(.int (1 : Int32)), (.ref a1)])) rfl rfl (hb hby d3_17) _ k) ?_
    show own_Fin p e below s _ _ _ s₁ (mkF m 18 #[.val (.ref a1), .val (.int (3 : Int32)), .val (.int (1 : Int32)), .unset, .unset] [(.int v1)])
    refine own_by (fun _ k => XS.sipush X0.here hx rfl (hb hby d3_18) (XS.iand X0.here hx rfl (hb hby d3_21) rfl (XS.sipush X0.here hx rfl (hb hby d3_22) k))) ?_
    show own_Fin p e below s _ _ _ s₁ (mkF m 25 #[.val (.ref a1), .val (.int (3 : Int32)), .val (.int (1 : Int32)), .unset, .unset] [(.int (128 : Int32)), (.int (v1 &&& (192 : Int32)))])
    by_cases hc25_20 : (v1 &&& (192 : Int32)) = (128 : Int32)
    · show own_Fin p e below s _ _ _ s₁ (mkF m 25 #[.val (.ref a1), .val (.int (3 : Int32)), .val (.int (1 : Int32)), .unset, .unset] [(.int (128 : Int32)), (.int (v1 &&& (192 : Int32)))])
      refine own_by (fun _ k => XS.icmpNo X0.here hx rfl (hb hby d3_25) rfl (teq hc25_20).2 k) ?_
      show own_Fin p e below s _ _ _ s₁ (mkF m 28 #[.val (.ref a1), .val (.int (3 : Int32)), .val (.int (1 : Int32)), .unset, .unset] [])
      refine own_by (fun _ k => XS.iinc X0.here hx rfl (hb hby d3_28) rfl (l' := #[.val (.ref a1), .val (.int (3 : Int32)), .val (.int ((1 : Int32) + (-1 : Int32))), .unset, .unset]) rfl k) ?_
      show own_Fin p e below s _ _ _ s₁ (mkF m 31 #[.val (.ref a1), .val (.int (3 : Int32)), .val (.int ((1 : Int32) + (-1 : Int32))), .unset, .unset] [])
      rw [(by decide : ((1 : Int32) + (-1 : Int32)) = (0 : Int32))]
      show own_Fin p e below s _ _ _ s₁ (mkF m 31 #[.val (.ref a1), .val (.int (3 : Int32)), .val (.int (0 : Int32)), .unset, .unset] [])
      refine own_by (fun _ k => XS.goto X0.here hx rfl (pc0 := 31) (pc' := 4) rfl (hb hby d3_31) (by decide) (by decide) (XS.iloadN X0.here hx rfl (hb hby d3_4) rfl k)) ?_
      show own_Fin p e below s _ _ _ s₁ (mkF m 5 #[.val (.ref a1), .val (.int (3 : Int32)), .val (.int (0 : Int32)), .unset, .unset] [(.int (0 : Int32))])
      refine own_by (fun _ k => XS.ifYes X0.here hx rfl (pc0 := 5) (pc' := 34) rfl (hb hby d3_5) rfl ((if0 _ _).trans (flt (by decide : ¬ ((0 : Int32) < (0 : Int32)))).2.2.2) (by decide) (by decide) k) ?_
      show own_Fin p e below s _ _ _ s₁ (mkF m 34 #[.val (.ref a1), .val (.int (3 : Int32)), .val (.int (0 : Int32)), .unset, .unset] [])
      refine own_by (fun _ k => XS.iloadN X0.here hx rfl (hb hby d3_34) rfl (XS.iloadN X0.here hx rfl (hb hby d3_35) rfl (XS.isub X0.here hx rfl (hb hby d3_36) rfl k))) ?_
      show own_Fin p e below s _ _ _ s₁ (mkF m 37 #[.val (.ref a1), .val (.int (3 : Int32)), .val (.int (0 : Int32)), .unset, .unset] [(.int ((3 : Int32) - (0 : Int32)))])
      rw [(by decide : ((3 : Int32) - (0 : Int32)) = (3 : Int32))]
      show own_Fin p e below s _ _ _ s₁ (mkF m 37 #[.val (.ref a1), .val (.int (3 : Int32)), .val (.int (0 : Int32)), .unset, .unset] [(.int (3 : Int32))])
      refine own_by (fun _ k => XS.istoreN X0.here hx rfl (hb hby d3_37) rfl (l' := #[.val (.ref a1), .val (.int (3 : Int32)), .val (.int (0 : Int32)), .val (.int (3 : Int32)), .unset]) rfl (XS.iloadN X0.here hx rfl (hb hby d3_38) rfl k)) ?_
      show own_Fin p e below s _ _ _ s₁ (mkF m 39 #[.val (.ref a1), .val (.int (3 : Int32)), .val (.int (0 : Int32)), .val (.int (3 : Int32)), .unset] [(.int (0 : Int32))])
      refine own_by (fun _ k => XS.ifNo X0.here hx rfl (hb hby d3_39) rfl ((if0 _ _).trans (flt (by decide : ¬ ((0 : Int32) < (0 : Int32)))).1) k) ?_
      show own_Fin p e below s _ _ _ s₁ (mkF m 42 #[.val (.ref a1), .val (.int (3 : Int32)), .val (.int (0 : Int32)), .val (.int (3 : Int32)), .unset] [])
      refine own_by (fun _ k => XS.iloadN X0.here hx rfl (hb hby d3_42) rfl (XS.aloadN X0.here hx rfl (hb hby d3_43) rfl rfl (XS.iloadN X0.here hx rfl (hb hby d3_44) rfl k))) ?_
      show own_Fin p e below s _ _ _ s₁ (mkF m 45 #[.val (.ref a1), .val (.int (3 : Int32)), .val (.int (0 : Int32)), .val (.int (3 : Int32)), .unset] [(.int (0 : Int32)), (.ref a1), (.int (3 : Int32))])
      obtain ⟨cl21, Ar21, -, S21, M21, H21, -⟩ := id V1
      have hin21 : ¬ ((0 : Int32) < 0 ∨ cl21.slots.size ≤ ((0 : Int32)).toNatClampNeg) := inb_of S21 ⟨by decide, by decide⟩
      have hat21 : cl21.slots[((0 : Int32)).toNatClampNeg]? = some (.int v0) := Has.at H21 hin21 rfl
      refine own_by (fun _ k => X0.baloadBytes hx (j := (0 : Int32)) (v := (.int v0)) (by rw [e0]; exact Ar21.1) (State.isArrayOf_alike hZ.alike Ar21.2.1) Ar21.2.2 hin21 hat21 (g := (mkF m 45 #[.val (.ref a1), .val (.int (3 : Int32)), .val (.int (0 : Int32)), .val (.int (3 : Int32)), .unset] [(.int (0 : Int32)), (.ref a1), (.int (3 : Int32))])) rfl rfl (hb hby d3_45) _ k) ?_
      show own_Fin p e below s _ _ _ s₁ (mkF m 46 #[.val (.ref a1), .val (.int (3 : Int32)), .val (.int (0 : Int32)), .val (.int (3 : Int32)), .unset] [(.int v0), (.int (3 : Int32))])
      refine own_by (fun _ k => XS.sipush X0.here hx rfl (hb hby d3_46) (XS.iand X0.here hx rfl (hb hby d3_49) rfl k)) ?_
      show own_Fin p e below s _ _ _ s₁ (mkF m 50 #[.val (.ref a1), .val (.int (3 : Int32)), .val (.int (0 : Int32)), .val (.int (3 : Int32)), .unset] [(.int (v0 &&& (255 : Int32))), (.int (3 : Int32))])
      obtain ⟨_, _, ⟨T22, L22, k22, n22⟩, -, X22, ⟨Lc22, hQ22, l22, y22, z22⟩, st22⟩ := Jvm.LawKit.callS X0 hx (y := (⟨"com/example/munka/munka/util/Utf8", "sequenceLength", "(I)I"⟩ : MethodName)) hown (mvT hZ (hw _ (List.mem_of_getElem? (i := 13) rfl))) (mvT hZ (hw _ (List.mem_of_getElem? (i := 14) rfl))) (mvT hZ (hw _ (List.mem_of_getElem? (i := 11) rfl))) (mvT hZ (hw _ (List.mem_of_getElem? (i := 15) rfl))) (by decide) (backOf (W := 1) (rm4 l Z a0 hw [] (v0 &&& (255 : Int32)) h0 n0 Z0 ) hZ (hw _ (List.mem_of_getElem? (i := 15) rfl)) (hw _ (List.mem_of_getElem? (i := 11) rfl)) (by decide) (by decide)) (g := (mkF m 50 #[.val (.ref a1), .val (.int (3 : Int32)), .val (.int (0 : Int32)), .val (.int (3 : Int32)), .unset] [(.int (v0 &&& (255 : Int32))), (.int (3 : Int32))])) rfl (by rw [hml]; rfl) (argsL := [(.int (v0 &&& (255 : Int32)))]) (rest := [(.int (3 : Int32))]) (lenOf own_pd69 rfl) rfl (by show 2 * 0 + _ ≤ _; exact Nat.le_of_eq rfl) (hb hby d3_50) (fun _ _ => ⟨rfl, e0, (by decide : 0 + 0 ≤ _), (by decide : 0 + 0 ≤ _)⟩)
      dsimp only [Pt.U, Pt.locs, Pt.cells, Pt.slots] at X22 l22 y22 z22 st22 hQ22
      subst l22 y22 z22
      obtain ⟨rfl, Nq22, eh22⟩ := hQ22
      have N22 := Fr.app N0 Nq22
      refine own_by (fun _ k => st22 _ k) ?_
      show own_Fin p e below s _ _ _ T22 (mkF m 53 #[.val (.ref a1), .val (.int (3 : Int32)), .val (.int (0 : Int32)), .val (.int (3 : Int32)), .unset] [(.int (own_seq (v0 &&& (255 : Int32)))), (.int (3 : Int32))])
      by_cases hc53_23 : (3 : Int32) < (own_seq (v0 &&& (255 : Int32)))
      · show own_Fin p e below s _ _ _ T22 (mkF m 53 #[.val (.ref a1), .val (.int (3 : Int32)), .val (.int (0 : Int32)), .val (.int (3 : Int32)), .unset] [(.int (own_seq (v0 &&& (255 : Int32)))), (.int (3 : Int32))])
        refine own_by (fun _ k => XS.icmpNo X22.here hx rfl (hb hby d3_53) rfl (tlt hc53_23).2.1 k) ?_
        show own_Fin p e below s _ _ _ T22 (mkF m 56 #[.val (.ref a1), .val (.int (3 : Int32)), .val (.int (0 : Int32)), .val (.int (3 : Int32)), .unset] [])
        refine own_by (fun _ k => XS.iconst X22.here hx rfl (hb hby d3_56) (XS.goto X22.here hx rfl (pc0 := 57) (pc' := 61) rfl (hb hby d3_57) (by decide) (by decide) (XS.istore X22.here hx rfl (hb hby d3_61) rfl (l' := #[.val (.ref a1), .val (.int (3 : Int32)), .val (.int (0 : Int32)), .val (.int (3 : Int32)), .val (.int (1 : Int32))]) rfl (XS.iload X22.here hx rfl (hb hby d3_63) rfl k)))) ?_
        show own_Fin p e below s _ _ _ T22 (mkF m 65 #[.val (.ref a1), .val (.int (3 : Int32)), .val (.int (0 : Int32)), .val (.int (3 : Int32)), .val (.int (1 : Int32))] [(.int (1 : Int32))])
        refine own_by (fun _ k => XS.ifNo X22.here hx rfl (hb hby d3_65) rfl ((if0 _ _).trans (feq (by decide : ¬ ((1 : Int32) = (0 : Int32)))).1) k) ?_
        show own_Fin p e below s _ _ _ T22 (mkF m 68 #[.val (.ref a1), .val (.int (3 : Int32)), .val (.int (0 : Int32)), .val (.int (3 : Int32)), .val (.int (1 : Int32))] [])
        refine own_by (fun _ k => XS.iloadN X22.here hx rfl (hb hby d3_68) rfl (XS.goto X22.here hx rfl (pc0 := 69) (pc' := 73) rfl (hb hby d3_69) (by decide) (by decide) k)) ?_
        show own_Fin p e below s _ _ _ T22 (mkF m 73 #[.val (.ref a1), .val (.int (3 : Int32)), .val (.int (0 : Int32)), .val (.int (3 : Int32)), .val (.int (1 : Int32))] [(.int (3 : Int32))])
        exact own_retI X22 hx hlk hret (hb hby d3_73) ⟨own_vi (by show (3 : Int32) = _; first | (simp only [own_tl1, own_tl2, own_tl3, own_tl4, hc25_18, hc25_20, hc53_23, if_true, if_false]; done) | (simp only [own_tl1, own_tl2, own_tl3, own_tl4, hc25_18, hc25_20, hc53_23, if_true, if_false]; decide) | simp [own_tl1, own_tl2, own_tl3, own_tl4, hc25_18, hc25_20, hc53_23]), N22, eh22⟩ (by decide) (by decide)
      · show own_Fin p e below s _ _ _ T22 (mkF m 53 #[.val (.ref a1), .val (.int (3 : Int32)), .val (.int (0 : Int32)), .val (.int (3 : Int32)), .unset] [(.int (own_seq (v0 &&& (255 : Int32)))), (.int (3 : Int32))])
        refine own_by (fun _ k => XS.icmpYes X22.here hx rfl (pc0 := 53) (pc' := 60) rfl (hb hby d3_53) rfl (flt hc53_23).2.1 (by decide) (by decide) k) ?_
        show own_Fin p e below s _ _ _ T22 (mkF m 60 #[.val (.ref a1), .val (.int (3 : Int32)), .val (.int (0 : Int32)), .val (.int (3 : Int32)), .unset] [])
        refine own_by (fun _ k => XS.iconst X22.here hx rfl (hb hby d3_60) (XS.istore X22.here hx rfl (hb hby d3_61) rfl (l' := #[.val (.ref a1), .val (.int (3 : Int32)), .val (.int (0 : Int32)), .val (.int (3 : Int32)), .val (.int (0 : Int32))]) rfl (XS.iload X22.here hx rfl (hb hby d3_63) rfl k))) ?_
        show own_Fin p e below s _ _ _ T22 (mkF m 65 #[.val (.ref a1), .val (.int (3 : Int32)), .val (.int (0 : Int32)), .val (.int (3 : Int32)), .val (.int (0 : Int32))] [(.int (0 : Int32))])
        refine own_by (fun _ k => XS.ifYes X22.here hx rfl (pc0 := 65) (pc' := 72) rfl (hb hby d3_65) rfl ((if0 _ _).trans (teq (by decide : (0 : Int32) = (0 : Int32))).1) (by decide) (by decide) k) ?_
        show own_Fin p e below s _ _ _ T22 (mkF m 72 #[.val (.ref a1), .val (.int (3 : Int32)), .val (.int (0 : Int32)), .val (.int (3 : Int32)), .val (.int (0 : Int32))] [])
        refine own_by (fun _ k => XS.iconst X22.here hx rfl (hb hby d3_72) k) ?_
        show own_Fin p e below s _ _ _ T22 (mkF m 73 #[.val (.ref a1), .val (.int (3 : Int32)), .val (.int (0 : Int32)), .val (.int (3 : Int32)), .val (.int (0 : Int32))] [(.int (0 : Int32))])
        exact own_retI X22 hx hlk hret (hb hby d3_73) ⟨own_vi (by show (0 : Int32) = _; first | (simp only [own_tl1, own_tl2, own_tl3, own_tl4, hc25_18, hc25_20, hc53_23, if_true, if_false]; done) | (simp only [own_tl1, own_tl2, own_tl3, own_tl4, hc25_18, hc25_20, hc53_23, if_true, if_false]; decide) | simp [own_tl1, own_tl2, own_tl3, own_tl4, hc25_18, hc25_20, hc53_23]), N22, eh22⟩ (by decide) (by decide)
    · show own_Fin p e below s _ _ _ s₁ (mkF m 25 #[.val (.ref a1), .val (.int (3 : Int32)), .val (.int (1 : Int32)), .unset, .unset] [(.int (128 : Int32)), (.int (v1 &&& (192 : Int32)))])
      refine own_by (fun _ k => XS.icmpYes X0.here hx rfl (pc0 := 25) (pc' := 34) rfl (hb hby d3_25) rfl (feq hc25_20).2 (by decide) (by decide) k) ?_
      show own_Fin p e below s _ _ _ s₁ (mkF m 34 #[.val (.ref a1), .val (.int (3 : Int32)), .val (.int (1 : Int32)), .unset, .unset] [])
      refine own_by (fun _ k => XS.iloadN X0.here hx rfl (hb hby d3_34) rfl (XS.iloadN X0.here hx rfl (hb hby d3_35) rfl (XS.isub X0.here hx rfl (hb hby d3_36) rfl k))) ?_
      show own_Fin p e below s _ _ _ s₁ (mkF m 37 #[.val (.ref a1), .val (.int (3 : Int32)), .val (.int (1 : Int32)), .unset, .unset] [(.int ((3 : Int32) - (1 : Int32)))])
      rw [(by decide : ((3 : Int32) - (1 : Int32)) = (2 : Int32))]
      show own_Fin p e below s _ _ _ s₁ (mkF m 37 #[.val (.ref a1), .val (.int (3 : Int32)), .val (.int (1 : Int32)), .unset, .unset] [(.int (2 : Int32))])
      refine own_by (fun _ k => XS.istoreN X0.here hx rfl (hb hby d3_37) rfl (l' := #[.val (.ref a1), .val (.int (3 : Int32)), .val (.int (1 : Int32)), .val (.int (2 : Int32)), .unset]) rfl (XS.iloadN X0.here hx rfl (hb hby d3_38) rfl k)) ?_
      show own_Fin p e below s _ _ _ s₁ (mkF m 39 #[.val (.ref a1), .val (.int (3 : Int32)), .val (.int (1 : Int32)), .val (.int (2 : Int32)), .unset] [(.int (1 : Int32))])
      refine own_by (fun _ k => XS.ifNo X0.here hx rfl (hb hby d3_39) rfl ((if0 _ _).trans (flt (by decide : ¬ ((1 : Int32) < (0 : Int32)))).1) k) ?_
      show own_Fin p e below s _ _ _ s₁ (mkF m 42 #[.val (.ref a1), .val (.int (3 : Int32)), .val (.int (1 : Int32)), .val (.int (2 : Int32)), .unset] [])
      refine own_by (fun _ k => XS.iloadN X0.here hx rfl (hb hby d3_42) rfl (XS.aloadN X0.here hx rfl (hb hby d3_43) rfl rfl (XS.iloadN X0.here hx rfl (hb hby d3_44) rfl k))) ?_
      show own_Fin p e below s _ _ _ s₁ (mkF m 45 #[.val (.ref a1), .val (.int (3 : Int32)), .val (.int (1 : Int32)), .val (.int (2 : Int32)), .unset] [(.int (1 : Int32)), (.ref a1), (.int (2 : Int32))])
      obtain ⟨cl24, Ar24, -, S24, M24, H24, -⟩ := id V1
      have hin24 : ¬ ((1 : Int32) < 0 ∨ cl24.slots.size ≤ ((1 : Int32)).toNatClampNeg) := inb_of S24 ⟨by decide, by decide⟩
      have hat24 : cl24.slots[((1 : Int32)).toNatClampNeg]? = some (.int v1) := Has.at H24 hin24 rfl
      refine own_by (fun _ k => X0.baloadBytes hx (j := (1 : Int32)) (v := (.int v1)) (by rw [e0]; exact Ar24.1) (State.isArrayOf_alike hZ.alike Ar24.2.1) Ar24.2.2 hin24 hat24 (g := (mkF m 45 #[.val (.ref a1), .val (.int (3 : Int32)), .val (.int (1 : Int32)), .val (.int (2 : Int32)), .unset] [(.int (1 : Int32)), (.ref a1), (.int (2 : Int32))])) rfl rfl (hb hby d3_45) _ k) ?_
      show own_Fin p e below s _ _ _ s₁ (mkF m 46 #[.val (.ref a1), .val (.int (3 : Int32)), .val (.int (1 : Int32)), .val (.int (2 : Int32)), .unset] [(.int v1), (.int (2 : Int32))])
      refine own_by (fun _ k => XS.sipush X0.here hx rfl (hb hby d3_46) (XS.iand X0.here hx rfl (hb hby d3_49) rfl k)) ?_
      show own_Fin p e below s _ _ _ s₁ (mkF m 50 #[.val (.ref a1), .val (.int (3 : Int32)), .val (.int (1 : Int32)), .val (.int (2 : Int32)), .unset] [(.int (v1 &&& (255 : Int32))), (.int (2 : Int32))])
      obtain ⟨_, _, ⟨T25, L25, k25, n25⟩, -, X25, ⟨Lc25, hQ25, l25, y25, z25⟩, st25⟩ := Jvm.LawKit.callS X0 hx (y := (⟨"com/example/munka/munka/util/Utf8", "sequenceLength", "(I)I"⟩ : MethodName)) hown (mvT hZ (hw _ (List.mem_of_getElem? (i := 13) rfl))) (mvT hZ (hw _ (List.mem_of_getElem? (i := 14) rfl))) (mvT hZ (hw _ (List.mem_of_getElem? (i := 11) rfl))) (mvT hZ (hw _ (List.mem_of_getElem? (i := 15) rfl))) (by decide) (backOf (W := 1) (rm4 l Z a0 hw [] (v1 &&& (255 : Int32)) h0 n0 Z0 ) hZ (hw _ (List.mem_of_getElem? (i := 15) rfl)) (hw _ (List.mem_of_getElem? (i := 11) rfl)) (by decide) (by decide)) (g := (mkF m 50 #[.val (.ref a1), .val (.int (3 : Int32)), .val (.int (1 : Int32)), .val (.int (2 : Int32)), .unset] [(.int (v1 &&& (255 : Int32))), (.int (2 : Int32))])) rfl (by rw [hml]; rfl) (argsL := [(.int (v1 &&& (255 : Int32)))]) (rest := [(.int (2 : Int32))]) (lenOf own_pd69 rfl) rfl (by show 2 * 0 + _ ≤ _; exact Nat.le_of_eq rfl) (hb hby d3_50) (fun _ _ => ⟨rfl, e0, (by decide : 0 + 0 ≤ _), (by decide : 0 + 0 ≤ _)⟩)
      dsimp only [Pt.U, Pt.locs, Pt.cells, Pt.slots] at X25 l25 y25 z25 st25 hQ25
      subst l25 y25 z25
      obtain ⟨rfl, Nq25, eh25⟩ := hQ25
      have N25 := Fr.app N0 Nq25
      refine own_by (fun _ k => st25 _ k) ?_
      show own_Fin p e below s _ _ _ T25 (mkF m 53 #[.val (.ref a1), .val (.int (3 : Int32)), .val (.int (1 : Int32)), .val (.int (2 : Int32)), .unset] [(.int (own_seq (v1 &&& (255 : Int32)))), (.int (2 : Int32))])
      by_cases hc53_26 : (2 : Int32) < (own_seq (v1 &&& (255 : Int32)))
      · show own_Fin p e below s _ _ _ T25 (mkF m 53 #[.val (.ref a1), .val (.int (3 : Int32)), .val (.int (1 : Int32)), .val (.int (2 : Int32)), .unset] [(.int (own_seq (v1 &&& (255 : Int32)))), (.int (2 : Int32))])
        refine own_by (fun _ k => XS.icmpNo X25.here hx rfl (hb hby d3_53) rfl (tlt hc53_26).2.1 k) ?_
        show own_Fin p e below s _ _ _ T25 (mkF m 56 #[.val (.ref a1), .val (.int (3 : Int32)), .val (.int (1 : Int32)), .val (.int (2 : Int32)), .unset] [])
        refine own_by (fun _ k => XS.iconst X25.here hx rfl (hb hby d3_56) (XS.goto X25.here hx rfl (pc0 := 57) (pc' := 61) rfl (hb hby d3_57) (by decide) (by decide) (XS.istore X25.here hx rfl (hb hby d3_61) rfl (l' := #[.val (.ref a1), .val (.int (3 : Int32)), .val (.int (1 : Int32)), .val (.int (2 : Int32)), .val (.int (1 : Int32))]) rfl (XS.iload X25.here hx rfl (hb hby d3_63) rfl k)))) ?_
        show own_Fin p e below s _ _ _ T25 (mkF m 65 #[.val (.ref a1), .val (.int (3 : Int32)), .val (.int (1 : Int32)), .val (.int (2 : Int32)), .val (.int (1 : Int32))] [(.int (1 : Int32))])
        refine own_by (fun _ k => XS.ifNo X25.here hx rfl (hb hby d3_65) rfl ((if0 _ _).trans (feq (by decide : ¬ ((1 : Int32) = (0 : Int32)))).1) k) ?_
        show own_Fin p e below s _ _ _ T25 (mkF m 68 #[.val (.ref a1), .val (.int (3 : Int32)), .val (.int (1 : Int32)), .val (.int (2 : Int32)), .val (.int (1 : Int32))] [])
        refine own_by (fun _ k => XS.iloadN X25.here hx rfl (hb hby d3_68) rfl (XS.goto X25.here hx rfl (pc0 := 69) (pc' := 73) rfl (hb hby d3_69) (by decide) (by decide) k)) ?_
        show own_Fin p e below s _ _ _ T25 (mkF m 73 #[.val (.ref a1), .val (.int (3 : Int32)), .val (.int (1 : Int32)), .val (.int (2 : Int32)), .val (.int (1 : Int32))] [(.int (2 : Int32))])
        exact own_retI X25 hx hlk hret (hb hby d3_73) ⟨own_vi (by show (2 : Int32) = _; first | (simp only [own_tl1, own_tl2, own_tl3, own_tl4, hc25_18, hc25_20, hc53_26, if_true, if_false]; done) | (simp only [own_tl1, own_tl2, own_tl3, own_tl4, hc25_18, hc25_20, hc53_26, if_true, if_false]; decide) | simp [own_tl1, own_tl2, own_tl3, own_tl4, hc25_18, hc25_20, hc53_26]), N25, eh25⟩ (by decide) (by decide)
      · show own_Fin p e below s _ _ _ T25 (mkF m 53 #[.val (.ref a1), .val (.int (3 : Int32)), .val (.int (1 : Int32)), .val (.int (2 : Int32)), .unset] [(.int (own_seq (v1 &&& (255 : Int32)))), (.int (2 : Int32))])
        refine own_by (fun _ k => XS.icmpYes X25.here hx rfl (pc0 := 53) (pc' := 60) rfl (hb hby d3_53) rfl (flt hc53_26).2.1 (by decide) (by decide) k) ?_
        show own_Fin p e below s _ _ _ T25 (mkF m 60 #[.val (.ref a1), .val (.int (3 : Int32)), .val (.int (1 : Int32)), .val (.int (2 : Int32)), .unset] [])
        refine own_by (fun _ k => XS.iconst X25.here hx rfl (hb hby d3_60) (XS.istore X25.here hx rfl (hb hby d3_61) rfl (l' := #[.val (.ref a1), .val (.int (3 : Int32)), .val (.int (1 : Int32)), .val (.int (2 : Int32)), .val (.int (0 : Int32))]) rfl (XS.iload X25.here hx rfl (hb hby d3_63) rfl k))) ?_
        show own_Fin p e below s _ _ _ T25 (mkF m 65 #[.val (.ref a1), .val (.int (3 : Int32)), .val (.int (1 : Int32)), .val (.int (2 : Int32)), .val (.int (0 : Int32))] [(.int (0 : Int32))])
        refine own_by (fun _ k => XS.ifYes X25.here hx rfl (pc0 := 65) (pc' := 72) rfl (hb hby d3_65) rfl ((if0 _ _).trans (teq (by decide : (0 : Int32) = (0 : Int32))).1) (by decide) (by decide) k) ?_
        show own_Fin p e below s _ _ _ T25 (mkF m 72 #[.val (.ref a1), .val (.int (3 : Int32)), .val (.int (1 : Int32)), .val (.int (2 : Int32)), .val (.int (0 : Int32))] [])
        refine own_by (fun _ k => XS.iconst X25.here hx rfl (hb hby d3_72) k) ?_
        show own_Fin p e below s _ _ _ T25 (mkF m 73 #[.val (.ref a1), .val (.int (3 : Int32)), .val (.int (1 : Int32)), .val (.int (2 : Int32)), .val (.int (0 : Int32))] [(.int (0 : Int32))])
        exact own_retI X25 hx hlk hret (hb hby d3_73) ⟨own_vi (by show (0 : Int32) = _; first | (simp only [own_tl1, own_tl2, own_tl3, own_tl4, hc25_18, hc25_20, hc53_26, if_true, if_false]; done) | (simp only [own_tl1, own_tl2, own_tl3, own_tl4, hc25_18, hc25_20, hc53_26, if_true, if_false]; decide) | simp [own_tl1, own_tl2, own_tl3, own_tl4, hc25_18, hc25_20, hc53_26]), N25, eh25⟩ (by decide) (by decide)
  · show own_Fin p e below s _ _ _ s₁ (mkF m 25 #[.val (.ref a1), .val (.int (3 : Int32)), .val (.int (2 : Int32)), .unset, .unset] [(.int (128 : Int32)), (.int (v2 &&& (192 : Int32)))])
    refine own_by (fun _ k => XS.icmpYes X0.here hx rfl (pc0 := 25) (pc' := 34) rfl (hb hby d3_25) rfl (feq hc25_18).2 (by decide) (by decide) k) ?_
    show own_Fin p e below s _ _ _ s₁ (mkF m 34 #[.val (.ref a1), .val (.int (3 : Int32)), .val (.int (2 : Int32)), .unset, .unset] [])
    refine own_by (fun _ k => XS.iloadN X0.here hx rfl (hb hby d3_34) rfl (XS.iloadN X0.here hx rfl (hb hby d3_35) rfl (XS.isub X0.here hx rfl (hb hby d3_36) rfl k))) ?_
    show own_Fin p e below s _ _ _ s₁ (mkF m 37 #[.val (.ref a1), .val (.int (3 : Int32)), .val (.int (2 : Int32)), .unset, .unset] [(.int ((3 : Int32) - (2 : Int32)))])
    rw [(by decide : ((3 : Int32) - (2 : Int32)) = (1 : Int32))]
    show own_Fin p e below s _ _ _ s₁ (mkF m 37 #[.val (.ref a1), .val (.int (3 : Int32)), .val (.int (2 : Int32)), .unset, .unset] [(.int (1 : Int32))])
    refine own_by (fun _ k => XS.istoreN X0.here hx rfl (hb hby d3_37) rfl (l' := #[.val (.ref a1), .val (.int (3 : Int32)), .val (.int (2 : Int32)), .val (.int (1 : Int32)), .unset]) rfl (XS.iloadN X0.here hx rfl (hb hby d3_38) rfl k)) ?_
    show own_Fin p e below s _ _ _ s₁ (mkF m 39 #[.val (.ref a1), .val (.int (3 : Int32)), .val (.int (2 : Int32)), .val (.int (1 : Int32)), .unset] [(.int (2 : Int32))])
    refine own_by (fun _ k => XS.ifNo X0.here hx rfl (hb hby d3_39) rfl ((if0 _ _).trans (flt (by decide : ¬ ((2 : Int32) < (0 : Int32)))).1) k) ?_
    show own_Fin p e below s _ _ _ s₁ (mkF m 42 #[.val (.ref a1), .val (.int (3 : Int32)), .val (.int (2 : Int32)), .val (.int (1 : Int32)), .unset] [])
    refine own_by (fun _ k => XS.iloadN X0.here hx rfl (hb hby d3_42) rfl (XS.aloadN X0.here hx rfl (hb hby d3_43) rfl rfl (XS.iloadN X0.here hx rfl (hb hby d3_44) rfl k))) ?_
    show own_Fin p e below s _ _ _ s₁ (mkF m 45 #[.val (.ref a1), .val (.int (3 : Int32)), .val (.int (2 : Int32)), .val (.int (1 : Int32)), .unset] [(.int (2 : Int32)), (.ref a1), (.int (1 : Int32))])
    obtain ⟨cl27, Ar27, -, S27, M27, H27, -⟩ := id V1
    have hin27 : ¬ ((2 : Int32) < 0 ∨ cl27.slots.size ≤ ((2 : Int32)).toNatClampNeg) := inb_of S27 ⟨by decide, by decide⟩
    have hat27 : cl27.slots[((2 : Int32)).toNatClampNeg]? = some (.int v2) := Has.at H27 hin27 rfl
    refine own_by (fun _ k => X0.baloadBytes hx (j := (2 : Int32)) (v := (.int v2)) (by rw [e0]; exact Ar27.1) (State.isArrayOf_alike hZ.alike Ar27.2.1) Ar27.2.2 hin27 hat27 (g := (mkF m 45 #[.val (.ref a1), .val (.int (3 : Int32)), .val (.int (2 : Int32)), .val (.int (1 : Int32)), .unset] [(.int (2 : Int32)), (.ref a1), (.int (1 : Int32))])) rfl rfl (hb hby d3_45) _ k) ?_
    show own_Fin p e below s _ _ _ s₁ (mkF m 46 #[.val (.ref a1), .val (.int (3 : Int32)), .val (.int (2 : Int32)), .val (.int (1 : Int32)), .unset] [(.int v2), (.int (1 : Int32))])
    refine own_by (fun _ k => XS.sipush X0.here hx rfl (hb hby d3_46) (XS.iand X0.here hx rfl (hb hby d3_49) rfl k)) ?_
    show own_Fin p e below s _ _ _ s₁ (mkF m 50 #[.val (.ref a1), .val (.int (3 : Int32)), .val (.int (2 : Int32)), .val (.int (1 : Int32)), .unset] [(.int (v2 &&& (255 : Int32))), (.int (1 : Int32))])
    obtain ⟨_, _, ⟨T28, L28, k28, n28⟩, -, X28, ⟨Lc28, hQ28, l28, y28, z28⟩, st28⟩ := Jvm.LawKit.callS X0 hx (y := (⟨"com/example/munka/munka/util/Utf8", "sequenceLength", "(I)I"⟩ : MethodName)) hown (mvT hZ (hw _ (List.mem_of_getElem? (i := 13) rfl))) (mvT hZ (hw _ (List.mem_of_getElem? (i := 14) rfl))) (mvT hZ (hw _ (List.mem_of_getElem? (i := 11) rfl))) (mvT hZ (hw _ (List.mem_of_getElem? (i := 15) rfl))) (by decide) (backOf (W := 1) (rm4 l Z a0 hw [] (v2 &&& (255 : Int32)) h0 n0 Z0 ) hZ (hw _ (List.mem_of_getElem? (i := 15) rfl)) (hw _ (List.mem_of_getElem? (i := 11) rfl)) (by decide) (by decide)) (g := (mkF m 50 #[.val (.ref a1), .val (.int (3 : Int32)), .val (.int (2 : Int32)), .val (.int (1 : Int32)), .unset] [(.int (v2 &&& (255 : Int32))), (.int (1 : Int32))])) rfl (by rw [hml]; rfl) (argsL := [(.int (v2 &&& (255 : Int32)))]) (rest := [(.int (1 : Int32))]) (lenOf own_pd69 rfl) rfl (by show 2 * 0 + _ ≤ _; exact Nat.le_of_eq rfl) (hb hby d3_50) (fun _ _ => ⟨rfl, e0, (by decide : 0 + 0 ≤ _), (by decide : 0 + 0 ≤ _)⟩)
    dsimp only [Pt.U, Pt.locs, Pt.cells, Pt.slots] at X28 l28 y28 z28 st28 hQ28
    subst l28 y28 z28
    obtain ⟨rfl, Nq28, eh28⟩ := hQ28
    have N28 := Fr.app N0 Nq28
    refine own_by (fun _ k => st28 _ k) ?_
    show own_Fin p e below s _ _ _ T28 (mkF m 53 #[.val (.ref a1), .val (.int (3 : Int32)), .val (.int (2 : Int32)), .val (.int (1 : Int32)), .unset] [(.int (own_seq (v2 &&& (255 : Int32)))), (.int (1 : Int32))])
    by_cases hc53_29 : (1 : Int32) < (own_seq (v2 &&& (255 : Int32)))
    · show own_Fin p e below s _ _ _ T28 (mkF m 53 #[.val (.ref a1), .val (.int (3 : Int32)), .val (.int (2 : Int32)), .val (.int (1 : Int32)), .unset] [(.int (own_seq (v2 &&& (255 : Int32)))), (.int (1 : Int32))])
      refine own_by (fun _ k => XS.icmpNo X28.here hx rfl (hb hby d3_53) rfl (tlt hc53_29).2.1 k) ?_
      show own_Fin p e below s _ _ _ T28 (mkF m 56 #[.val (.ref a1), .val (.int (3 : Int32)), .val (.int (2 : Int32)), .val (.int (1 : Int32)), .unset] [])
      refine own_by (fun _ k => XS.iconst X28.here hx rfl (hb hby d3_56) (XS.goto X28.here hx rfl (pc0 := 57) (pc' := 61) rfl (hb hby d3_57) (by decide) (by decide) (XS.istore X28.here hx rfl (hb hby d3_61) rfl (l' := #[.val (.ref a1), .val (.int (3 : Int32)), .val (.int (2 : Int32)), .val (.int (1 : Int32)), .val (.int (1 : Int32))]) rfl (XS.iload X28.here hx rfl (hb hby d3_63) rfl k)))) ?_
      show own_Fin p e below s _ _ _ T28 (mkF m 65 #[.val (.ref a1), .val (.int (3 : Int32)), .val (.int (2 : Int32)), .val (.int (1 : Int32)), .val (.int (1 : Int32))] [(.int (1 : Int32))])
      refine own_by (fun _ k => XS.ifNo X28.here hx rfl (hb hby d3_65) rfl ((if0 _ _).trans (feq (by decide : ¬ ((1 : Int32) = (0 : Int32)))).1) k) ?_
      show own_Fin p e below s _ _ _ T28 (mkF m 68 #[.val (.ref a1), .val (.int (3 : Int32)), .val (.int (2 : Int32)), .val (.int (1 : Int32)), .val (.int (1 : Int32))] [])
      refine own_by (fun _ k => XS.iloadN X28.here hx rfl (hb hby d3_68) rfl (XS.goto X28.here hx rfl (pc0 := 69) (pc' := 73) rfl (hb hby d3_69) (by decide) (by decide) k)) ?_
      show own_Fin p e below s _ _ _ T28 (mkF m 73 #[.val (.ref a1), .val (.int (3 : Int32)), .val (.int (2 : Int32)), .val (.int (1 : Int32)), .val (.int (1 : Int32))] [(.int (1 : Int32))])
      exact own_retI X28 hx hlk hret (hb hby d3_73) ⟨own_vi (by show (1 : Int32) = _; first | (simp only [own_tl1, own_tl2, own_tl3, own_tl4, hc25_18, hc53_29, if_true, if_false]; done) | (simp only [own_tl1, own_tl2, own_tl3, own_tl4, hc25_18, hc53_29, if_true, if_false]; decide) | simp [own_tl1, own_tl2, own_tl3, own_tl4, hc25_18, hc53_29]), N28, eh28⟩ (by decide) (by decide)
    · show own_Fin p e below s _ _ _ T28 (mkF m 53 #[.val (.ref a1), .val (.int (3 : Int32)), .val (.int (2 : Int32)), .val (.int (1 : Int32)), .unset] [(.int (own_seq (v2 &&& (255 : Int32)))), (.int (1 : Int32))])
      refine own_by (fun _ k => XS.icmpYes X28.here hx rfl (pc0 := 53) (pc' := 60) rfl (hb hby d3_53) rfl (flt hc53_29).2.1 (by decide) (by decide) k) ?_
      show own_Fin p e below s _ _ _ T28 (mkF m 60 #[.val (.ref a1), .val (.int (3 : Int32)), .val (.int (2 : Int32)), .val (.int (1 : Int32)), .unset] [])
      refine own_by (fun _ k => XS.iconst X28.here hx rfl (hb hby d3_60) (XS.istore X28.here hx rfl (hb hby d3_61) rfl (l' := #[.val (.ref a1), .val (.int (3 : Int32)), .val (.int (2 : Int32)), .val (.int (1 : Int32)), .val (.int (0 : Int32))]) rfl (XS.iload X28.here hx rfl (hb hby d3_63) rfl k))) ?_
      show own_Fin p e below s _ _ _ T28 (mkF m 65 #[.val (.ref a1), .val (.int (3 : Int32)), .val (.int (2 : Int32)), .val (.int (1 : Int32)), .val (.int (0 : Int32))] [(.int (0 : Int32))])
      refine own_by (fun _ k => XS.ifYes X28.here hx rfl (pc0 := 65) (pc' := 72) rfl (hb hby d3_65) rfl ((if0 _ _).trans (teq (by decide : (0 : Int32) = (0 : Int32))).1) (by decide) (by decide) k) ?_
      show own_Fin p e below s _ _ _ T28 (mkF m 72 #[.val (.ref a1), .val (.int (3 : Int32)), .val (.int (2 : Int32)), .val (.int (1 : Int32)), .val (.int (0 : Int32))] [])
      refine own_by (fun _ k => XS.iconst X28.here hx rfl (hb hby d3_72) k) ?_
      show own_Fin p e below s _ _ _ T28 (mkF m 73 #[.val (.ref a1), .val (.int (3 : Int32)), .val (.int (2 : Int32)), .val (.int (1 : Int32)), .val (.int (0 : Int32))] [(.int (0 : Int32))])
      exact own_retI X28 hx hlk hret (hb hby d3_73) ⟨own_vi (by show (0 : Int32) = _; first | (simp only [own_tl1, own_tl2, own_tl3, own_tl4, hc25_18, hc53_29, if_true, if_false]; done) | (simp only [own_tl1, own_tl2, own_tl3, own_tl4, hc25_18, hc53_29, if_true, if_false]; decide) | simp [own_tl1, own_tl2, own_tl3, own_tl4, hc25_18, hc53_29]), N28, eh28⟩ (by decide) (by decide)
theorem ef_rmT4 (m : MethodId) (x0 : Addr) (x1 : Int32) : entryFrame m #[(.ref x0), (.int x1)] 5 = mkF m 0 #[.val (.ref x0), .val (.int x1), .unset, .unset, .unset] [] := by first | (simp [entryFrame, mkF, argsToLocals, Value.category]; done) | rfl
def own_QT4 (v0 v1 v2 v3 v4 v5 v6 v7 : Int32) (h0 : Heap) (n0 : Nat) (v : Option Value) (h : Heap) (L : List Loc) : Prop := v = some (.int ((own_tl4 v3 v2 v1 v0))) ∧ Fr n0 L ∧ h = h0
set_option maxRecDepth 65536 in
set_option maxHeartbeats 40000000 in
theorem rmT4 (l : Launch) (Z : State) (a0 : Array Value) (hw : ∀ d ∈ tables_1, d.before a0 Z = true) (ws : List Jvm.Cond) (a1 : Addr) (k : ClassId) (v0 v1 v2 v3 v4 v5 v6 v7 : Int32) (h0 : Heap) (n0 : Nat) (Z0 : n0 ≤ h0.size) (V1 : Arv Z h0 a1 k .byte (8 : Int32) [(.int v0), (.int v1), (.int v2), (.int v3), (.int v4), (.int v5), (.int v6), (.int v7)] (.int (0 : Int32))) : own_Met l Z (⟨"com/example/munka/munka/util/Utf8", "unfinishedTail", "([BI)I"⟩ : MethodName) prog_43_method_4_code 5 (some .int) ws (own_R 1 0 0 16) #[(.ref a1), (.int (4 : Int32))] h0 (own_QT4 v0 v1 v2 v3 v4 v5 v6 v7 h0 n0) := by
  refine own_enter n0 own_pn12 (fun m => ef_rmT4 m a1 (4 : Int32) ) (fun p e s m below meth c s₁ hx hby hlk hml hret hown hnm hZ X0 e0 N0 => ?_)
  show own_Fin p e below s _ _ _ s₁ (mkF m 0 #[.val (.ref a1), .val (.int (4 : Int32)), .unset, .unset, .unset] [])
  refine own_by (fun _ k => XS.iloadN X0.here hx rfl (hb hby d3_0) rfl (XS.iconst X0.here hx rfl (hb hby d3_1) (XS.isub X0.here hx rfl (hb hby d3_2) rfl k))) ?_
  show own_Fin p e below s _ _ _ s₁ (mkF m 3 #[.val (.ref a1), .val (.int (4 : Int32)), .unset, .unset, .unset] [(.int ((4 : Int32) - (1 : Int32)))])
  rw [(by decide : ((4 : Int32) - (1 : Int32)) = (3 : Int32))]
  show own_Fin p e below s _ _ _ s₁ (mkF m 3 #[.val (.ref a1), .val (.int (4 : Int32)), .unset, .unset, .unset] [(.int (3 : Int32))])
  refine own_by (fun _ k => XS.istoreN X0.here hx rfl (hb hby d3_3) rfl (l' := #[.val (.ref a1), .val (.int (4 : Int32)), .val (.int (3 : Int32)), .unset, .unset]) rfl (XS.iloadN X0.here hx rfl (hb hby d3_4) rfl k)) ?_
  show own_Fin p e below s _ _ _ s₁ (mkF m 5 #[.val (.ref a1), .val (.int (4 : Int32)), .val (.int (3 : Int32)), .unset, .unset] [(.int (3 : Int32))])
  refine own_by (fun _ k => XS.ifNo X0.here hx rfl (hb hby d3_5) rfl ((if0 _ _).trans (tlt (by decide : (0 : Int32) < (3 : Int32))).2.2.2) k) ?_
  show own_Fin p e below s _ _ _ s₁ (mkF m 8 #[.val (.ref a1), .val (.int (4 : Int32)), .val (.int (3 : Int32)), .unset, .unset] [])
  refine own_by (fun _ k => XS.iloadN X0.here hx rfl (hb hby d3_8) rfl (XS.iloadN X0.here hx rfl (hb hby d3_9) rfl (XS.iconst X0.here hx rfl (hb hby d3_10) (XS.isub X0.here hx rfl (hb hby d3_11) rfl k)))) ?_
  show own_Fin p e below s _ _ _ s₁ (mkF m 12 #[.val (.ref a1), .val (.int (4 : Int32)), .val (.int (3 : Int32)), .unset, .unset] [(.int ((4 : Int32) - (4 : Int32))), (.int (3 : Int32))])
  rw [(by decide : ((4 : Int32) - (4 : Int32)) = (0 : Int32))]
  show own_Fin p e below s _ _ _ s₁ (mkF m 12 #[.val (.ref a1), .val (.int (4 : Int32)), .val (.int (3 : Int32)), .unset, .unset] [(.int (0 : Int32)), (.int (3 : Int32))])
  refine own_by (fun _ k => XS.icmpNo X0.here hx rfl (hb hby d3_12) rfl (tlt (by decide : (0 : Int32) < (3 : Int32))).2.2.2 k) ?_
  show own_Fin p e below s _ _ _ s₁ (mkF m 15 #[.val (.ref a1), .val (.int (4 : Int32)), .val (.int (3 : Int32)), .unset, .unset] [])
  refine own_by (fun _ k => XS.aloadN X0.here hx rfl (hb hby d3_15) rfl rfl (XS.iloadN X0.here hx rfl (hb hby d3_16) rfl k)) ?_
  show own_Fin p e below s _ _ _ s₁ (mkF m 17 #[.val (.ref a1), .val (.int (4 : Int32)), .val (.int (3 : Int32)), .unset, .unset] [(.int (3 : Int32)), (.ref a1)])
  obtain ⟨cl30, Ar30, -, S30, M30, H30, -⟩ := id V1
  have hin30 : ¬ ((3 : Int32) < 0 ∨ cl30.slots.size ≤ ((3 : Int32)).toNatClampNeg) := inb_of S30 ⟨by decide, by decide⟩
  have hat30 : cl30.slots[((3 : Int32)).toNatClampNeg]? = some (.int v3) := Has.at H30 hin30 rfl
  refine own_by (fun _ k => X0.baloadBytes hx (j := (3 : Int32)) (v := (.int v3)) (by rw [e0]; exact Ar30.1) (State.isArrayOf_alike hZ.alike Ar30.2.1) Ar30.2.2 hin30 hat30 (g := (mkF m 17 #[.val (.ref a1), .val (.int (4 : Int32)), .val (.int (3 : Int32)), .unset, .unset] [(.int (3 : Int32)), (.ref a1)])) rfl rfl (hb hby d3_17) _ k) ?_
  show own_Fin p e below s _ _ _ s₁ (mkF m 18 #[.val (.ref a1), .val (.int (4 : Int32)), .val (.int (3 : Int32)), .unset, .unset] [(.int v3)])
  refine own_by (fun _ k => XS.sipush X0.here hx rfl (hb hby d3_18) (XS.iand X0.here hx rfl (hb hby d3_21) rfl (XS.sipush X0.here hx rfl (hb hby d3_22) k))) ?_
  show own_Fin p e below s _ _ _ s₁ (mkF m 25 #[.val (.ref a1), .val (.int (4 : Int32)), .val (.int (3 : Int32)), .unset, .unset] [(.int (128 : Int32)), (.int (v3 &&& (192 : Int32)))])
  by_cases hc25_31 : (v3 &&& (192 : Int32)) = (128 : Int32)
  · show own_Fin p e below s _ _ _ s₁ (mkF m 25 #[.val (.ref a1), .val (.int (4 : Int32)), .val (.int (3 : Int32)), .unset, .unset] [(.int (128 : Int32)), (.int (v3 &&& (192 : Int32)))])
    refine own_by (fun _ k => XS.icmpNo X0.here hx rfl (hb hby d3_25) rfl (teq hc25_31).2 k) ?_
    show own_Fin p e below s _ _ _ s₁ (mkF m 28 #[.val (.ref a1), .val (.int (4 : Int32)), .val (.int (3 : Int32)), .unset, .unset] [])
    refine own_by (fun _ k => XS.iinc X0.here hx rfl (hb hby d3_28) rfl (l' := #[.val (.ref a1), .val (.int (4 : Int32)), .val (.int ((3 : Int32) + (-1 : Int32))), .unset, .unset]) rfl k) ?_
    show own_Fin p e below s _ _ _ s₁ (mkF m 31 #[.val (.ref a1), .val (.int (4 : Int32)), .val (.int ((3 : Int32) + (-1 : Int32))), .unset, .unset] [])
    rw [(by decide : ((3 : Int32) + (-1 : Int32)) = (2 : Int32))]
    show own_Fin p e below s _ _ _ s₁ (mkF m 31 #[.val (.ref a1), .val (.int (4 : Int32)), .val (.int (2 : Int32)), .unset, .unset] [])
    refine own_by (fun _ k => XS.goto X0.here hx rfl (pc0 := 31) (pc' := 4) rfl (hb hby d3_31) (by decide) (by decide) (XS.iloadN X0.here hx rfl (hb hby d3_4) rfl k)) ?_
    show own_Fin p e below s _ _ _ s₁ (mkF m 5 #[.val (.ref a1), .val (.int (4 : Int32)), .val (.int (2 : Int32)), .unset, .unset] [(.int (2 : Int32))])
    refine own_by (fun _ k => XS.ifNo X0.here hx rfl (hb hby d3_5) rfl ((if0 _ _).trans (tlt (by decide : (0 : Int32) < (2 : Int32))).2.2.2) k) ?_
    show own_Fin p e below s _ _ _ s₁ (mkF m 8 #[.val (.ref a1), .val (.int (4 : Int32)), .val (.int (2 : Int32)), .unset, .unset] [])
    refine own_by (fun _ k => XS.iloadN X0.here hx rfl (hb hby d3_8) rfl (XS.iloadN X0.here hx rfl (hb hby d3_9) rfl (XS.iconst X0.here hx rfl (hb hby d3_10) (XS.isub X0.here hx rfl (hb hby d3_11) rfl k)))) ?_
    show own_Fin p e below s _ _ _ s₁ (mkF m 12 #[.val (.ref a1), .val (.int (4 : Int32)), .val (.int (2 : Int32)), .unset, .unset] [(.int ((4 : Int32) - (4 : Int32))), (.int (2 : Int32))])
    rw [(by decide : ((4 : Int32) - (4 : Int32)) = (0 : Int32))]
    show own_Fin p e below s _ _ _ s₁ (mkF m 12 #[.val (.ref a1), .val (.int (4 : Int32)), .val (.int (2 : Int32)), .unset, .unset] [(.int (0 : Int32)), (.int (2 : Int32))])
    refine own_by (fun _ k => XS.icmpNo X0.here hx rfl (hb hby d3_12) rfl (tlt (by decide : (0 : Int32) < (2 : Int32))).2.2.2 k) ?_
    show own_Fin p e below s _ _ _ s₁ (mkF m 15 #[.val (.ref a1), .val (.int (4 : Int32)), .val (.int (2 : Int32)), .unset, .unset] [])
    refine own_by (fun _ k => XS.aloadN X0.here hx rfl (hb hby d3_15) rfl rfl (XS.iloadN X0.here hx rfl (hb hby d3_16) rfl k)) ?_
    show own_Fin p e below s _ _ _ s₁ (mkF m 17 #[.val (.ref a1), .val (.int (4 : Int32)), .val (.int (2 : Int32)), .unset, .unset] [(.int (2 : Int32)), (.ref a1)])
    obtain ⟨cl32, Ar32, -, S32, M32, H32, -⟩ := id V1
    have hin32 : ¬ ((2 : Int32) < 0 ∨ cl32.slots.size ≤ ((2 : Int32)).toNatClampNeg) := inb_of S32 ⟨by decide, by decide⟩
    have hat32 : cl32.slots[((2 : Int32)).toNatClampNeg]? = some (.int v2) := Has.at H32 hin32 rfl
    refine own_by (fun _ k => X0.baloadBytes hx (j := (2 : Int32)) (v := (.int v2)) (by rw [e0]; exact Ar32.1) (State.isArrayOf_alike hZ.alike Ar32.2.1) Ar32.2.2 hin32 hat32 (g := (mkF m 17 #[.val (.ref a1), .val (.int (4 : Int32)), .val (.int (2 : Int32)), .unset, .unset] [(.int (2 : Int32)), (.ref a1)])) rfl rfl (hb hby d3_17) _ k) ?_
    show own_Fin p e below s _ _ _ s₁ (mkF m 18 #[.val (.ref a1), .val (.int (4 : Int32)), .val (.int (2 : Int32)), .unset, .unset] [(.int v2)])
    refine own_by (fun _ k => XS.sipush X0.here hx rfl (hb hby d3_18) (XS.iand X0.here hx rfl (hb hby d3_21) rfl (XS.sipush X0.here hx rfl (hb hby d3_22) k))) ?_
    show own_Fin p e below s _ _ _ s₁ (mkF m 25 #[.val (.ref a1), .val (.int (4 : Int32)), .val (.int (2 : Int32)), .unset, .unset] [(.int (128 : Int32)), (.int (v2 &&& (192 : Int32)))])
    by_cases hc25_33 : (v2 &&& (192 : Int32)) = (128 : Int32)
    · show own_Fin p e below s _ _ _ s₁ (mkF m 25 #[.val (.ref a1), .val (.int (4 : Int32)), .val (.int (2 : Int32)), .unset, .unset] [(.int (128 : Int32)), (.int (v2 &&& (192 : Int32)))])
      refine own_by (fun _ k => XS.icmpNo X0.here hx rfl (hb hby d3_25) rfl (teq hc25_33).2 k) ?_
      show own_Fin p e below s _ _ _ s₁ (mkF m 28 #[.val (.ref a1), .val (.int (4 : Int32)), .val (.int (2 : Int32)), .unset, .unset] [])
      refine own_by (fun _ k => XS.iinc X0.here hx rfl (hb hby d3_28) rfl (l' := #[.val (.ref a1), .val (.int (4 : Int32)), .val (.int ((2 : Int32) + (-1 : Int32))), .unset, .unset]) rfl k) ?_
      show own_Fin p e below s _ _ _ s₁ (mkF m 31 #[.val (.ref a1), .val (.int (4 : Int32)), .val (.int ((2 : Int32) + (-1 : Int32))), .unset, .unset] [])
      rw [(by decide : ((2 : Int32) + (-1 : Int32)) = (1 : Int32))]
      show own_Fin p e below s _ _ _ s₁ (mkF m 31 #[.val (.ref a1), .val (.int (4 : Int32)), .val (.int (1 : Int32)), .unset, .unset] [])
      refine own_by (fun _ k => XS.goto X0.here hx rfl (pc0 := 31) (pc' := 4) rfl (hb hby d3_31) (by decide) (by decide) (XS.iloadN X0.here hx rfl (hb hby d3_4) rfl k)) ?_
      show own_Fin p e below s _ _ _ s₁ (mkF m 5 #[.val (.ref a1), .val (.int (4 : Int32)), .val (.int (1 : Int32)), .unset, .unset] [(.int (1 : Int32))])
      refine own_by (fun _ k => XS.ifNo X0.here hx rfl (hb hby d3_5) rfl ((if0 _ _).trans (tlt (by decide : (0 : Int32) < (1 : Int32))).2.2.2) k) ?_
      show own_Fin p e below s _ _ _ s₁ (mkF m 8 #[.val (.ref a1), .val (.int (4 : Int32)), .val (.int (1 : Int32)), .unset, .unset] [])
      refine own_by (fun _ k => XS.iloadN X0.here hx rfl (hb hby d3_8) rfl (XS.iloadN X0.here hx rfl (hb hby d3_9) rfl (XS.iconst X0.here hx rfl (hb hby d3_10) (XS.isub X0.here hx rfl (hb hby d3_11) rfl k)))) ?_
      show own_Fin p e below s _ _ _ s₁ (mkF m 12 #[.val (.ref a1), .val (.int (4 : Int32)), .val (.int (1 : Int32)), .unset, .unset] [(.int ((4 : Int32) - (4 : Int32))), (.int (1 : Int32))])
      rw [(by decide : ((4 : Int32) - (4 : Int32)) = (0 : Int32))]
      show own_Fin p e below s _ _ _ s₁ (mkF m 12 #[.val (.ref a1), .val (.int (4 : Int32)), .val (.int (1 : Int32)), .unset, .unset] [(.int (0 : Int32)), (.int (1 : Int32))])
      refine own_by (fun _ k => XS.icmpNo X0.here hx rfl (hb hby d3_12) rfl (tlt (by decide : (0 : Int32) < (1 : Int32))).2.2.2 k) ?_
      show own_Fin p e below s _ _ _ s₁ (mkF m 15 #[.val (.ref a1), .val (.int (4 : Int32)), .val (.int (1 : Int32)), .unset, .unset] [])
      refine own_by (fun _ k => XS.aloadN X0.here hx rfl (hb hby d3_15) rfl rfl (XS.iloadN X0.here hx rfl (hb hby d3_16) rfl k)) ?_
      show own_Fin p e below s _ _ _ s₁ (mkF m 17 #[.val (.ref a1), .val (.int (4 : Int32)), .val (.int (1 : Int32)), .unset, .unset] [(.int (1 : Int32)), (.ref a1)])
      obtain ⟨cl34, Ar34, -, S34, M34, H34, -⟩ := id V1
      have hin34 : ¬ ((1 : Int32) < 0 ∨ cl34.slots.size ≤ ((1 : Int32)).toNatClampNeg) := inb_of S34 ⟨by decide, by decide⟩
      have hat34 : cl34.slots[((1 : Int32)).toNatClampNeg]? = some (.int v1) := Has.at H34 hin34 rfl
      refine own_by (fun _ k => X0.baloadBytes hx (j := (1 : Int32)) (v := (.int v1)) (by rw [e0]; exact Ar34.1) (State.isArrayOf_alike hZ.alike Ar34.2.1) Ar34.2.2 hin34 hat34 (g := (mkF m 17 #[.val (.ref a1), .val (.int (4 : Int32)), .val (.int (1 : Int32)), .unset, .unset] [(.int (1 : Int32)), (.ref a1)])) rfl rfl (hb hby d3_17) _ k) ?_
      show own_Fin p e below s _ _ _ s₁ (mkF m 18 #[.val (.ref a1), .val (.int (4 : Int32)), .val (.int (1 : Int32)), .unset, .unset] [(.int v1)])
      refine own_by (fun _ k => XS.sipush X0.here hx rfl (hb hby d3_18) (XS.iand X0.here hx rfl (hb hby d3_21) rfl (XS.sipush X0.here hx rfl (hb hby d3_22) k))) ?_
      show own_Fin p e below s _ _ _ s₁ (mkF m 25 #[.val (.ref a1), .val (.int (4 : Int32)), .val (.int (1 : Int32)), .unset, .unset] [(.int (128 : Int32)), (.int (v1 &&& (192 : Int32)))])
      by_cases hc25_35 : (v1 &&& (192 : Int32)) = (128 : Int32)
      · show own_Fin p e below s _ _ _ s₁ (mkF m 25 #[.val (.ref a1), .val (.int (4 : Int32)), .val (.int (1 : Int32)), .unset, .unset] [(.int (128 : Int32)), (.int (v1 &&& (192 : Int32)))])
        refine own_by (fun _ k => XS.icmpNo X0.here hx rfl (hb hby d3_25) rfl (teq hc25_35).2 k) ?_
        show own_Fin p e below s _ _ _ s₁ (mkF m 28 #[.val (.ref a1), .val (.int (4 : Int32)), .val (.int (1 : Int32)), .unset, .unset] [])
        refine own_by (fun _ k => XS.iinc X0.here hx rfl (hb hby d3_28) rfl (l' := #[.val (.ref a1), .val (.int (4 : Int32)), .val (.int ((1 : Int32) + (-1 : Int32))), .unset, .unset]) rfl k) ?_
        show own_Fin p e below s _ _ _ s₁ (mkF m 31 #[.val (.ref a1), .val (.int (4 : Int32)), .val (.int ((1 : Int32) + (-1 : Int32))), .unset, .unset] [])
        rw [(by decide : ((1 : Int32) + (-1 : Int32)) = (0 : Int32))]
        show own_Fin p e below s _ _ _ s₁ (mkF m 31 #[.val (.ref a1), .val (.int (4 : Int32)), .val (.int (0 : Int32)), .unset, .unset] [])
        refine own_by (fun _ k => XS.goto X0.here hx rfl (pc0 := 31) (pc' := 4) rfl (hb hby d3_31) (by decide) (by decide) (XS.iloadN X0.here hx rfl (hb hby d3_4) rfl k)) ?_
        show own_Fin p e below s _ _ _ s₁ (mkF m 5 #[.val (.ref a1), .val (.int (4 : Int32)), .val (.int (0 : Int32)), .unset, .unset] [(.int (0 : Int32))])
        refine own_by (fun _ k => XS.ifYes X0.here hx rfl (pc0 := 5) (pc' := 34) rfl (hb hby d3_5) rfl ((if0 _ _).trans (flt (by decide : ¬ ((0 : Int32) < (0 : Int32)))).2.2.2) (by decide) (by decide) k) ?_
        show own_Fin p e below s _ _ _ s₁ (mkF m 34 #[.val (.ref a1), .val (.int (4 : Int32)), .val (.int (0 : Int32)), .unset, .unset] [])
        refine own_by (fun _ k => XS.iloadN X0.here hx rfl (hb hby d3_34) rfl (XS.iloadN X0.here hx rfl (hb hby d3_35) rfl (XS.isub X0.here hx rfl (hb hby d3_36) rfl k))) ?_
        show own_Fin p e below s _ _ _ s₁ (mkF m 37 #[.val (.ref a1), .val (.int (4 : Int32)), .val (.int (0 : Int32)), .unset, .unset] [(.int ((4 : Int32) - (0 : Int32)))])
        rw [(by decide : ((4 : Int32) - (0 : Int32)) = (4 : Int32))]
        show own_Fin p e below s _ _ _ s₁ (mkF m 37 #[.val (.ref a1), .val (.int (4 : Int32)), .val (.int (0 : Int32)), .unset, .unset] [(.int (4 : Int32))])
        refine own_by (fun _ k => XS.istoreN X0.here hx rfl (hb hby d3_37) rfl (l' := #[.val (.ref a1), .val (.int (4 : Int32)), .val (.int (0 : Int32)), .val (.int (4 : Int32)), .unset]) rfl (XS.iloadN X0.here hx rfl (hb hby d3_38) rfl k)) ?_
        show own_Fin p e below s _ _ _ s₁ (mkF m 39 #[.val (.ref a1), .val (.int (4 : Int32)), .val (.int (0 : Int32)), .val (.int (4 : Int32)), .unset] [(.int (0 : Int32))])
        refine own_by (fun _ k => XS.ifNo X0.here hx rfl (hb hby d3_39) rfl ((if0 _ _).trans (flt (by decide : ¬ ((0 : Int32) < (0 : Int32)))).1) k) ?_
        show own_Fin p e below s _ _ _ s₁ (mkF m 42 #[.val (.ref a1), .val (.int (4 : Int32)), .val (.int (0 : Int32)), .val (.int (4 : Int32)), .unset] [])
        refine own_by (fun _ k => XS.iloadN X0.here hx rfl (hb hby d3_42) rfl (XS.aloadN X0.here hx rfl (hb hby d3_43) rfl rfl (XS.iloadN X0.here hx rfl (hb hby d3_44) rfl k))) ?_
        show own_Fin p e below s _ _ _ s₁ (mkF m 45 #[.val (.ref a1), .val (.int (4 : Int32)), .val (.int (0 : Int32)), .val (.int (4 : Int32)), .unset] [(.int (0 : Int32)), (.ref a1), (.int (4 : Int32))])
        obtain ⟨cl36, Ar36, -, S36, M36, H36, -⟩ := id V1
        have hin36 : ¬ ((0 : Int32) < 0 ∨ cl36.slots.size ≤ ((0 : Int32)).toNatClampNeg) := inb_of S36 ⟨by decide, by decide⟩
        have hat36 : cl36.slots[((0 : Int32)).toNatClampNeg]? = some (.int v0) := Has.at H36 hin36 rfl
        refine own_by (fun _ k => X0.baloadBytes hx (j := (0 : Int32)) (v := (.int v0)) (by rw [e0]; exact Ar36.1) (State.isArrayOf_alike hZ.alike Ar36.2.1) Ar36.2.2 hin36 hat36 (g := (mkF m 45 #[.val (.ref a1), .val (.int (4 : Int32)), .val (.int (0 : Int32)), .val (.int (4 : Int32)), .unset] [(.int (0 : Int32)), (.ref a1), (.int (4 : Int32))])) rfl rfl (hb hby d3_45) _ k) ?_
        show own_Fin p e below s _ _ _ s₁ (mkF m 46 #[.val (.ref a1), .val (.int (4 : Int32)), .val (.int (0 : Int32)), .val (.int (4 : Int32)), .unset] [(.int v0), (.int (4 : Int32))])
        refine own_by (fun _ k => XS.sipush X0.here hx rfl (hb hby d3_46) (XS.iand X0.here hx rfl (hb hby d3_49) rfl k)) ?_
        show own_Fin p e below s _ _ _ s₁ (mkF m 50 #[.val (.ref a1), .val (.int (4 : Int32)), .val (.int (0 : Int32)), .val (.int (4 : Int32)), .unset] [(.int (v0 &&& (255 : Int32))), (.int (4 : Int32))])
        obtain ⟨_, _, ⟨T37, L37, k37, n37⟩, -, X37, ⟨Lc37, hQ37, l37, y37, z37⟩, st37⟩ := Jvm.LawKit.callS X0 hx (y := (⟨"com/example/munka/munka/util/Utf8", "sequenceLength", "(I)I"⟩ : MethodName)) hown (mvT hZ (hw _ (List.mem_of_getElem? (i := 13) rfl))) (mvT hZ (hw _ (List.mem_of_getElem? (i := 14) rfl))) (mvT hZ (hw _ (List.mem_of_getElem? (i := 11) rfl))) (mvT hZ (hw _ (List.mem_of_getElem? (i := 15) rfl))) (by decide) (backOf (W := 1) (rm4 l Z a0 hw [] (v0 &&& (255 : Int32)) h0 n0 Z0 ) hZ (hw _ (List.mem_of_getElem? (i := 15) rfl)) (hw _ (List.mem_of_getElem? (i := 11) rfl)) (by decide) (by decide)) (g := (mkF m 50 #[.val (.ref a1), .val (.int (4 : Int32)), .val (.int (0 : Int32)), .val (.int (4 : Int32)), .unset] [(.int (v0 &&& (255 : Int32))), (.int (4 : Int32))])) rfl (by rw [hml]; rfl) (argsL := [(.int (v0 &&& (255 : Int32)))]) (rest := [(.int (4 : Int32))]) (lenOf own_pd69 rfl) rfl (by show 2 * 0 + _ ≤ _; exact Nat.le_of_eq rfl) (hb hby d3_50) (fun _ _ => ⟨rfl, e0, (by decide : 0 + 0 ≤ _), (by decide : 0 + 0 ≤ _)⟩)
        dsimp only [Pt.U, Pt.locs, Pt.cells, Pt.slots] at X37 l37 y37 z37 st37 hQ37
        subst l37 y37 z37
        obtain ⟨rfl, Nq37, eh37⟩ := hQ37
        have N37 := Fr.app N0 Nq37
        refine own_by (fun _ k => st37 _ k) ?_
        show own_Fin p e below s _ _ _ T37 (mkF m 53 #[.val (.ref a1), .val (.int (4 : Int32)), .val (.int (0 : Int32)), .val (.int (4 : Int32)), .unset] [(.int (own_seq (v0 &&& (255 : Int32)))), (.int (4 : Int32))])
        by_cases hc53_38 : (4 : Int32) < (own_seq (v0 &&& (255 : Int32)))
        · show own_Fin p e below s _ _ _ T37 (mkF m 53 #[.val (.ref a1), .val (.int (4 : Int32)), .val (.int (0 : Int32)), .val (.int (4 : Int32)), .unset] [(.int (own_seq (v0 &&& (255 : Int32)))), (.int (4 : Int32))])
          refine own_by (fun _ k => XS.icmpNo X37.here hx rfl (hb hby d3_53) rfl (tlt hc53_38).2.1 k) ?_
          show own_Fin p e below s _ _ _ T37 (mkF m 56 #[.val (.ref a1), .val (.int (4 : Int32)), .val (.int (0 : Int32)), .val (.int (4 : Int32)), .unset] [])
          refine own_by (fun _ k => XS.iconst X37.here hx rfl (hb hby d3_56) (XS.goto X37.here hx rfl (pc0 := 57) (pc' := 61) rfl (hb hby d3_57) (by decide) (by decide) (XS.istore X37.here hx rfl (hb hby d3_61) rfl (l' := #[.val (.ref a1), .val (.int (4 : Int32)), .val (.int (0 : Int32)), .val (.int (4 : Int32)), .val (.int (1 : Int32))]) rfl (XS.iload X37.here hx rfl (hb hby d3_63) rfl k)))) ?_
          show own_Fin p e below s _ _ _ T37 (mkF m 65 #[.val (.ref a1), .val (.int (4 : Int32)), .val (.int (0 : Int32)), .val (.int (4 : Int32)), .val (.int (1 : Int32))] [(.int (1 : Int32))])
          refine own_by (fun _ k => XS.ifNo X37.here hx rfl (hb hby d3_65) rfl ((if0 _ _).trans (feq (by decide : ¬ ((1 : Int32) = (0 : Int32)))).1) k) ?_
          show own_Fin p e below s _ _ _ T37 (mkF m 68 #[.val (.ref a1), .val (.int (4 : Int32)), .val (.int (0 : Int32)), .val (.int (4 : Int32)), .val (.int (1 : Int32))] [])
          refine own_by (fun _ k => XS.iloadN X37.here hx rfl (hb hby d3_68) rfl (XS.goto X37.here hx rfl (pc0 := 69) (pc' := 73) rfl (hb hby d3_69) (by decide) (by decide) k)) ?_
          show own_Fin p e below s _ _ _ T37 (mkF m 73 #[.val (.ref a1), .val (.int (4 : Int32)), .val (.int (0 : Int32)), .val (.int (4 : Int32)), .val (.int (1 : Int32))] [(.int (4 : Int32))])
          exact own_retI X37 hx hlk hret (hb hby d3_73) ⟨own_vi (by show (4 : Int32) = _; first | (simp only [own_tl1, own_tl2, own_tl3, own_tl4, hc25_31, hc25_33, hc25_35, hc53_38, if_true, if_false]; done) | (simp only [own_tl1, own_tl2, own_tl3, own_tl4, hc25_31, hc25_33, hc25_35, hc53_38, if_true, if_false]; decide) | simp [own_tl1, own_tl2, own_tl3, own_tl4, hc25_31, hc25_33, hc25_35, hc53_38]), N37, eh37⟩ (by decide) (by decide)
        · show own_Fin p e below s _ _ _ T37 (mkF m 53 #[.val (.ref a1), .val (.int (4 : Int32)), .val (.int (0 : Int32)), .val (.int (4 : Int32)), .unset] [(.int (own_seq (v0 &&& (255 : Int32)))), (.int (4 : Int32))])
          refine own_by (fun _ k => XS.icmpYes X37.here hx rfl (pc0 := 53) (pc' := 60) rfl (hb hby d3_53) rfl (flt hc53_38).2.1 (by decide) (by decide) k) ?_
          show own_Fin p e below s _ _ _ T37 (mkF m 60 #[.val (.ref a1), .val (.int (4 : Int32)), .val (.int (0 : Int32)), .val (.int (4 : Int32)), .unset] [])
          refine own_by (fun _ k => XS.iconst X37.here hx rfl (hb hby d3_60) (XS.istore X37.here hx rfl (hb hby d3_61) rfl (l' := #[.val (.ref a1), .val (.int (4 : Int32)), .val (.int (0 : Int32)), .val (.int (4 : Int32)), .val (.int (0 : Int32))]) rfl (XS.iload X37.here hx rfl (hb hby d3_63) rfl k))) ?_
          show own_Fin p e below s _ _ _ T37 (mkF m 65 #[.val (.ref a1), .val (.int (4 : Int32)), .val (.int (0 : Int32)), .val (.int (4 : Int32)), .val (.int (0 : Int32))] [(.int (0 : Int32))])
          refine own_by (fun _ k => XS.ifYes X37.here hx rfl (pc0 := 65) (pc' := 72) rfl (hb hby d3_65) rfl ((if0 _ _).trans (teq (by decide : (0 : Int32) = (0 : Int32))).1) (by decide) (by decide) k) ?_
          show own_Fin p e below s _ _ _ T37 (mkF m 72 #[.val (.ref a1), .val (.int (4 : Int32)), .val (.int (0 : Int32)), .val (.int (4 : Int32)), .val (.int (0 : Int32))] [])
          refine own_by (fun _ k => XS.iconst X37.here hx rfl (hb hby d3_72) k) ?_
          show own_Fin p e below s _ _ _ T37 (mkF m 73 #[.val (.ref a1), .val (.int (4 : Int32)), .val (.int (0 : Int32)), .val (.int (4 : Int32)), .val (.int (0 : Int32))] [(.int (0 : Int32))])
          exact own_retI X37 hx hlk hret (hb hby d3_73) ⟨own_vi (by show (0 : Int32) = _; first | (simp only [own_tl1, own_tl2, own_tl3, own_tl4, hc25_31, hc25_33, hc25_35, hc53_38, if_true, if_false]; done) | (simp only [own_tl1, own_tl2, own_tl3, own_tl4, hc25_31, hc25_33, hc25_35, hc53_38, if_true, if_false]; decide) | simp [own_tl1, own_tl2, own_tl3, own_tl4, hc25_31, hc25_33, hc25_35, hc53_38]), N37, eh37⟩ (by decide) (by decide)
      · show own_Fin p e below s _ _ _ s₁ (mkF m 25 #[.val (.ref a1), .val (.int (4 : Int32)), .val (.int (1 : Int32)), .unset, .unset] [(.int (128 : Int32)), (.int (v1 &&& (192 : Int32)))])
        refine own_by (fun _ k => XS.icmpYes X0.here hx rfl (pc0 := 25) (pc' := 34) rfl (hb hby d3_25) rfl (feq hc25_35).2 (by decide) (by decide) k) ?_
        show own_Fin p e below s _ _ _ s₁ (mkF m 34 #[.val (.ref a1), .val (.int (4 : Int32)), .val (.int (1 : Int32)), .unset, .unset] [])
        refine own_by (fun _ k => XS.iloadN X0.here hx rfl (hb hby d3_34) rfl (XS.iloadN X0.here hx rfl (hb hby d3_35) rfl (XS.isub X0.here hx rfl (hb hby d3_36) rfl k))) ?_
        show own_Fin p e below s _ _ _ s₁ (mkF m 37 #[.val (.ref a1), .val (.int (4 : Int32)), .val (.int (1 : Int32)), .unset, .unset] [(.int ((4 : Int32) - (1 : Int32)))])
        rw [(by decide : ((4 : Int32) - (1 : Int32)) = (3 : Int32))]
        show own_Fin p e below s _ _ _ s₁ (mkF m 37 #[.val (.ref a1), .val (.int (4 : Int32)), .val (.int (1 : Int32)), .unset, .unset] [(.int (3 : Int32))])
        refine own_by (fun _ k => XS.istoreN X0.here hx rfl (hb hby d3_37) rfl (l' := #[.val (.ref a1), .val (.int (4 : Int32)), .val (.int (1 : Int32)), .val (.int (3 : Int32)), .unset]) rfl (XS.iloadN X0.here hx rfl (hb hby d3_38) rfl k)) ?_
        show own_Fin p e below s _ _ _ s₁ (mkF m 39 #[.val (.ref a1), .val (.int (4 : Int32)), .val (.int (1 : Int32)), .val (.int (3 : Int32)), .unset] [(.int (1 : Int32))])
        refine own_by (fun _ k => XS.ifNo X0.here hx rfl (hb hby d3_39) rfl ((if0 _ _).trans (flt (by decide : ¬ ((1 : Int32) < (0 : Int32)))).1) k) ?_
        show own_Fin p e below s _ _ _ s₁ (mkF m 42 #[.val (.ref a1), .val (.int (4 : Int32)), .val (.int (1 : Int32)), .val (.int (3 : Int32)), .unset] [])
        refine own_by (fun _ k => XS.iloadN X0.here hx rfl (hb hby d3_42) rfl (XS.aloadN X0.here hx rfl (hb hby d3_43) rfl rfl (XS.iloadN X0.here hx rfl (hb hby d3_44) rfl k))) ?_
        show own_Fin p e below s _ _ _ s₁ (mkF m 45 #[.val (.ref a1), .val (.int (4 : Int32)), .val (.int (1 : Int32)), .val (.int (3 : Int32)), .unset] [(.int (1 : Int32)), (.ref a1), (.int (3 : Int32))])
        obtain ⟨cl39, Ar39, -, S39, M39, H39, -⟩ := id V1
        have hin39 : ¬ ((1 : Int32) < 0 ∨ cl39.slots.size ≤ ((1 : Int32)).toNatClampNeg) := inb_of S39 ⟨by decide, by decide⟩
        have hat39 : cl39.slots[((1 : Int32)).toNatClampNeg]? = some (.int v1) := Has.at H39 hin39 rfl
        refine own_by (fun _ k => X0.baloadBytes hx (j := (1 : Int32)) (v := (.int v1)) (by rw [e0]; exact Ar39.1) (State.isArrayOf_alike hZ.alike Ar39.2.1) Ar39.2.2 hin39 hat39 (g := (mkF m 45 #[.val (.ref a1), .val (.int (4 : Int32)), .val (.int (1 : Int32)), .val (.int (3 : Int32)), .unset] [(.int (1 : Int32)), (.ref a1), (.int (3 : Int32))])) rfl rfl (hb hby d3_45) _ k) ?_
        show own_Fin p e below s _ _ _ s₁ (mkF m 46 #[.val (.ref a1), .val (.int (4 : Int32)), .val (.int (1 : Int32)), .val (.int (3 : Int32)), .unset] [(.int v1), (.int (3 : Int32))])
        refine own_by (fun _ k => XS.sipush X0.here hx rfl (hb hby d3_46) (XS.iand X0.here hx rfl (hb hby d3_49) rfl k)) ?_
        show own_Fin p e below s _ _ _ s₁ (mkF m 50 #[.val (.ref a1), .val (.int (4 : Int32)), .val (.int (1 : Int32)), .val (.int (3 : Int32)), .unset] [(.int (v1 &&& (255 : Int32))), (.int (3 : Int32))])
        obtain ⟨_, _, ⟨T40, L40, k40, n40⟩, -, X40, ⟨Lc40, hQ40, l40, y40, z40⟩, st40⟩ := Jvm.LawKit.callS X0 hx (y := (⟨"com/example/munka/munka/util/Utf8", "sequenceLength", "(I)I"⟩ : MethodName)) hown (mvT hZ (hw _ (List.mem_of_getElem? (i := 13) rfl))) (mvT hZ (hw _ (List.mem_of_getElem? (i := 14) rfl))) (mvT hZ (hw _ (List.mem_of_getElem? (i := 11) rfl))) (mvT hZ (hw _ (List.mem_of_getElem? (i := 15) rfl))) (by decide) (backOf (W := 1) (rm4 l Z a0 hw [] (v1 &&& (255 : Int32)) h0 n0 Z0 ) hZ (hw _ (List.mem_of_getElem? (i := 15) rfl)) (hw _ (List.mem_of_getElem? (i := 11) rfl)) (by decide) (by decide)) (g := (mkF m 50 #[.val (.ref a1), .val (.int (4 : Int32)), .val (.int (1 : Int32)), .val (.int (3 : Int32)), .unset] [(.int (v1 &&& (255 : Int32))), (.int (3 : Int32))])) rfl (by rw [hml]; rfl) (argsL := [(.int (v1 &&& (255 : Int32)))]) (rest := [(.int (3 : Int32))]) (lenOf own_pd69 rfl) rfl (by show 2 * 0 + _ ≤ _; exact Nat.le_of_eq rfl) (hb hby d3_50) (fun _ _ => ⟨rfl, e0, (by decide : 0 + 0 ≤ _), (by decide : 0 + 0 ≤ _)⟩)
        dsimp only [Pt.U, Pt.locs, Pt.cells, Pt.slots] at X40 l40 y40 z40 st40 hQ40
        subst l40 y40 z40
        obtain ⟨rfl, Nq40, eh40⟩ := hQ40
        have N40 := Fr.app N0 Nq40
        refine own_by (fun _ k => st40 _ k) ?_
        show own_Fin p e below s _ _ _ T40 (mkF m 53 #[.val (.ref a1), .val (.int (4 : Int32)), .val (.int (1 : Int32)), .val (.int (3 : Int32)), .unset] [(.int (own_seq (v1 &&& (255 : Int32)))), (.int (3 : Int32))])
        by_cases hc53_41 : (3 : Int32) < (own_seq (v1 &&& (255 : Int32)))
        · show own_Fin p e below s _ _ _ T40 (mkF m 53 #[.val (.ref a1), .val (.int (4 : Int32)), .val (.int (1 : Int32)), .val (.int (3 : Int32)), .unset] [(.int (own_seq (v1 &&& (255 : Int32)))), (.int (3 : Int32))])
          refine own_by (fun _ k => XS.icmpNo X40.here hx rfl (hb hby d3_53) rfl (tlt hc53_41).2.1 k) ?_
          show own_Fin p e below s _ _ _ T40 (mkF m 56 #[.val (.ref a1), .val (.int (4 : Int32)), .val (.int (1 : Int32)), .val (.int (3 : Int32)), .unset] [])
          refine own_by (fun _ k => XS.iconst X40.here hx rfl (hb hby d3_56) (XS.goto X40.here hx rfl (pc0 := 57) (pc' := 61) rfl (hb hby d3_57) (by decide) (by decide) (XS.istore X40.here hx rfl (hb hby d3_61) rfl (l' := #[.val (.ref a1), .val (.int (4 : Int32)), .val (.int (1 : Int32)), .val (.int (3 : Int32)), .val (.int (1 : Int32))]) rfl (XS.iload X40.here hx rfl (hb hby d3_63) rfl k)))) ?_
          show own_Fin p e below s _ _ _ T40 (mkF m 65 #[.val (.ref a1), .val (.int (4 : Int32)), .val (.int (1 : Int32)), .val (.int (3 : Int32)), .val (.int (1 : Int32))] [(.int (1 : Int32))])
          refine own_by (fun _ k => XS.ifNo X40.here hx rfl (hb hby d3_65) rfl ((if0 _ _).trans (feq (by decide : ¬ ((1 : Int32) = (0 : Int32)))).1) k) ?_
          show own_Fin p e below s _ _ _ T40 (mkF m 68 #[.val (.ref a1), .val (.int (4 : Int32)), .val (.int (1 : Int32)), .val (.int (3 : Int32)), .val (.int (1 : Int32))] [])
          refine own_by (fun _ k => XS.iloadN X40.here hx rfl (hb hby d3_68) rfl (XS.goto X40.here hx rfl (pc0 := 69) (pc' := 73) rfl (hb hby d3_69) (by decide) (by decide) k)) ?_
          show own_Fin p e below s _ _ _ T40 (mkF m 73 #[.val (.ref a1), .val (.int (4 : Int32)), .val (.int (1 : Int32)), .val (.int (3 : Int32)), .val (.int (1 : Int32))] [(.int (3 : Int32))])
          exact own_retI X40 hx hlk hret (hb hby d3_73) ⟨own_vi (by show (3 : Int32) = _; first | (simp only [own_tl1, own_tl2, own_tl3, own_tl4, hc25_31, hc25_33, hc25_35, hc53_41, if_true, if_false]; done) | (simp only [own_tl1, own_tl2, own_tl3, own_tl4, hc25_31, hc25_33, hc25_35, hc53_41, if_true, if_false]; decide) | simp [own_tl1, own_tl2, own_tl3, own_tl4, hc25_31, hc25_33, hc25_35, hc53_41]), N40, eh40⟩ (by decide) (by decide)
        · show own_Fin p e below s _ _ _ T40 (mkF m 53 #[.val (.ref a1), .val (.int (4 : Int32)), .val (.int (1 : Int32)), .val (.int (3 : Int32)), .unset] [(.int (own_seq (v1 &&& (255 : Int32)))), (.int (3 : Int32))])
          refine own_by (fun _ k => XS.icmpYes X40.here hx rfl (pc0 := 53) (pc' := 60) rfl (hb hby d3_53) rfl (flt hc53_41).2.1 (by decide) (by decide) k) ?_
          show own_Fin p e below s _ _ _ T40 (mkF m 60 #[.val (.ref a1), .val (.int (4 : Int32)), .val (.int (1 : Int32)), .val (.int (3 : Int32)), .unset] [])
          refine own_by (fun _ k => XS.iconst X40.here hx rfl (hb hby d3_60) (XS.istore X40.here hx rfl (hb hby d3_61) rfl (l' := #[.val (.ref a1), .val (.int (4 : Int32)), .val (.int (1 : Int32)), .val (.int (3 : Int32)), .val (.int (0 : Int32))]) rfl (XS.iload X40.here hx rfl (hb hby d3_63) rfl k))) ?_
          show own_Fin p e below s _ _ _ T40 (mkF m 65 #[.val (.ref a1), .val (.int (4 : Int32)), .val (.int (1 : Int32)), .val (.int (3 : Int32)), .val (.int (0 : Int32))] [(.int (0 : Int32))])
          refine own_by (fun _ k => XS.ifYes X40.here hx rfl (pc0 := 65) (pc' := 72) rfl (hb hby d3_65) rfl ((if0 _ _).trans (teq (by decide : (0 : Int32) = (0 : Int32))).1) (by decide) (by decide) k) ?_
          show own_Fin p e below s _ _ _ T40 (mkF m 72 #[.val (.ref a1), .val (.int (4 : Int32)), .val (.int (1 : Int32)), .val (.int (3 : Int32)), .val (.int (0 : Int32))] [])
          refine own_by (fun _ k => XS.iconst X40.here hx rfl (hb hby d3_72) k) ?_
          show own_Fin p e below s _ _ _ T40 (mkF m 73 #[.val (.ref a1), .val (.int (4 : Int32)), .val (.int (1 : Int32)), .val (.int (3 : Int32)), .val (.int (0 : Int32))] [(.int (0 : Int32))])
          exact own_retI X40 hx hlk hret (hb hby d3_73) ⟨own_vi (by show (0 : Int32) = _; first | (simp only [own_tl1, own_tl2, own_tl3, own_tl4, hc25_31, hc25_33, hc25_35, hc53_41, if_true, if_false]; done) | (simp only [own_tl1, own_tl2, own_tl3, own_tl4, hc25_31, hc25_33, hc25_35, hc53_41, if_true, if_false]; decide) | simp [own_tl1, own_tl2, own_tl3, own_tl4, hc25_31, hc25_33, hc25_35, hc53_41]), N40, eh40⟩ (by decide) (by decide)
    · show own_Fin p e below s _ _ _ s₁ (mkF m 25 #[.val (.ref a1), .val (.int (4 : Int32)), .val (.int (2 : Int32)), .unset, .unset] [(.int (128 : Int32)), (.int (v2 &&& (192 : Int32)))])
      refine own_by (fun _ k => XS.icmpYes X0.here hx rfl (pc0 := 25) (pc' := 34) rfl (hb hby d3_25) rfl (feq hc25_33).2 (by decide) (by decide) k) ?_
      show own_Fin p e below s _ _ _ s₁ (mkF m 34 #[.val (.ref a1), .val (.int (4 : Int32)), .val (.int (2 : Int32)), .unset, .unset] [])
      refine own_by (fun _ k => XS.iloadN X0.here hx rfl (hb hby d3_34) rfl (XS.iloadN X0.here hx rfl (hb hby d3_35) rfl (XS.isub X0.here hx rfl (hb hby d3_36) rfl k))) ?_
      show own_Fin p e below s _ _ _ s₁ (mkF m 37 #[.val (.ref a1), .val (.int (4 : Int32)), .val (.int (2 : Int32)), .unset, .unset] [(.int ((4 : Int32) - (2 : Int32)))])
      rw [(by decide : ((4 : Int32) - (2 : Int32)) = (2 : Int32))]
      show own_Fin p e below s _ _ _ s₁ (mkF m 37 #[.val (.ref a1), .val (.int (4 : Int32)), .val (.int (2 : Int32)), .unset, .unset] [(.int (2 : Int32))])
      refine own_by (fun _ k => XS.istoreN X0.here hx rfl (hb hby d3_37) rfl (l' := #[.val (.ref a1), .val (.int (4 : Int32)), .val (.int (2 : Int32)), .val (.int (2 : Int32)), .unset]) rfl (XS.iloadN X0.here hx rfl (hb hby d3_38) rfl k)) ?_
      show own_Fin p e below s _ _ _ s₁ (mkF m 39 #[.val (.ref a1), .val (.int (4 : Int32)), .val (.int (2 : Int32)), .val (.int (2 : Int32)), .unset] [(.int (2 : Int32))])
      refine own_by (fun _ k => XS.ifNo X0.here hx rfl (hb hby d3_39) rfl ((if0 _ _).trans (flt (by decide : ¬ ((2 : Int32) < (0 : Int32)))).1) k) ?_
      show own_Fin p e below s _ _ _ s₁ (mkF m 42 #[.val (.ref a1), .val (.int (4 : Int32)), .val (.int (2 : Int32)), .val (.int (2 : Int32)), .unset] [])
      refine own_by (fun _ k => XS.iloadN X0.here hx rfl (hb hby d3_42) rfl (XS.aloadN X0.here hx rfl (hb hby d3_43) rfl rfl (XS.iloadN X0.here hx rfl (hb hby d3_44) rfl k))) ?_
      show own_Fin p e below s _ _ _ s₁ (mkF m 45 #[.val (.ref a1), .val (.int (4 : Int32)), .val (.int (2 : Int32)), .val (.int (2 : Int32)), .unset] [(.int (2 : Int32)), (.ref a1), (.int (2 : Int32))])
      obtain ⟨cl42, Ar42, -, S42, M42, H42, -⟩ := id V1
      have hin42 : ¬ ((2 : Int32) < 0 ∨ cl42.slots.size ≤ ((2 : Int32)).toNatClampNeg) := inb_of S42 ⟨by decide, by decide⟩
      have hat42 : cl42.slots[((2 : Int32)).toNatClampNeg]? = some (.int v2) := Has.at H42 hin42 rfl
      refine own_by (fun _ k => X0.baloadBytes hx (j := (2 : Int32)) (v := (.int v2)) (by rw [e0]; exact Ar42.1) (State.isArrayOf_alike hZ.alike Ar42.2.1) Ar42.2.2 hin42 hat42 (g := (mkF m 45 #[.val (.ref a1), .val (.int (4 : Int32)), .val (.int (2 : Int32)), .val (.int (2 : Int32)), .unset] [(.int (2 : Int32)), (.ref a1), (.int (2 : Int32))])) rfl rfl (hb hby d3_45) _ k) ?_
      show own_Fin p e below s _ _ _ s₁ (mkF m 46 #[.val (.ref a1), .val (.int (4 : Int32)), .val (.int (2 : Int32)), .val (.int (2 : Int32)), .unset] [(.int v2), (.int (2 : Int32))])
      refine own_by (fun _ k => XS.sipush X0.here hx rfl (hb hby d3_46) (XS.iand X0.here hx rfl (hb hby d3_49) rfl k)) ?_
      show own_Fin p e below s _ _ _ s₁ (mkF m 50 #[.val (.ref a1), .val (.int (4 : Int32)), .val (.int (2 : Int32)), .val (.int (2 : Int32)), .unset] [(.int (v2 &&& (255 : Int32))), (.int (2 : Int32))])
      obtain ⟨_, _, ⟨T43, L43, k43, n43⟩, -, X43, ⟨Lc43, hQ43, l43, y43, z43⟩, st43⟩ := Jvm.LawKit.callS X0 hx (y := (⟨"com/example/munka/munka/util/Utf8", "sequenceLength", "(I)I"⟩ : MethodName)) hown (mvT hZ (hw _ (List.mem_of_getElem? (i := 13) rfl))) (mvT hZ (hw _ (List.mem_of_getElem? (i := 14) rfl))) (mvT hZ (hw _ (List.mem_of_getElem? (i := 11) rfl))) (mvT hZ (hw _ (List.mem_of_getElem? (i := 15) rfl))) (by decide) (backOf (W := 1) (rm4 l Z a0 hw [] (v2 &&& (255 : Int32)) h0 n0 Z0 ) hZ (hw _ (List.mem_of_getElem? (i := 15) rfl)) (hw _ (List.mem_of_getElem? (i := 11) rfl)) (by decide) (by decide)) (g := (mkF m 50 #[.val (.ref a1), .val (.int (4 : Int32)), .val (.int (2 : Int32)), .val (.int (2 : Int32)), .unset] [(.int (v2 &&& (255 : Int32))), (.int (2 : Int32))])) rfl (by rw [hml]; rfl) (argsL := [(.int (v2 &&& (255 : Int32)))]) (rest := [(.int (2 : Int32))]) (lenOf own_pd69 rfl) rfl (by show 2 * 0 + _ ≤ _; exact Nat.le_of_eq rfl) (hb hby d3_50) (fun _ _ => ⟨rfl, e0, (by decide : 0 + 0 ≤ _), (by decide : 0 + 0 ≤ _)⟩)
      dsimp only [Pt.U, Pt.locs, Pt.cells, Pt.slots] at X43 l43 y43 z43 st43 hQ43
      subst l43 y43 z43
      obtain ⟨rfl, Nq43, eh43⟩ := hQ43
      have N43 := Fr.app N0 Nq43
      refine own_by (fun _ k => st43 _ k) ?_
      show own_Fin p e below s _ _ _ T43 (mkF m 53 #[.val (.ref a1), .val (.int (4 : Int32)), .val (.int (2 : Int32)), .val (.int (2 : Int32)), .unset] [(.int (own_seq (v2 &&& (255 : Int32)))), (.int (2 : Int32))])
      by_cases hc53_44 : (2 : Int32) < (own_seq (v2 &&& (255 : Int32)))
      · show own_Fin p e below s _ _ _ T43 (mkF m 53 #[.val (.ref a1), .val (.int (4 : Int32)), .val (.int (2 : Int32)), .val (.int (2 : Int32)), .unset] [(.int (own_seq (v2 &&& (255 : Int32)))), (.int (2 : Int32))])
        refine own_by (fun _ k => XS.icmpNo X43.here hx rfl (hb hby d3_53) rfl (tlt hc53_44).2.1 k) ?_
        show own_Fin p e below s _ _ _ T43 (mkF m 56 #[.val (.ref a1), .val (.int (4 : Int32)), .val (.int (2 : Int32)), .val (.int (2 : Int32)), .unset] [])
        refine own_by (fun _ k => XS.iconst X43.here hx rfl (hb hby d3_56) (XS.goto X43.here hx rfl (pc0 := 57) (pc' := 61) rfl (hb hby d3_57) (by decide) (by decide) (XS.istore X43.here hx rfl (hb hby d3_61) rfl (l' := #[.val (.ref a1), .val (.int (4 : Int32)), .val (.int (2 : Int32)), .val (.int (2 : Int32)), .val (.int (1 : Int32))]) rfl (XS.iload X43.here hx rfl (hb hby d3_63) rfl k)))) ?_
        show own_Fin p e below s _ _ _ T43 (mkF m 65 #[.val (.ref a1), .val (.int (4 : Int32)), .val (.int (2 : Int32)), .val (.int (2 : Int32)), .val (.int (1 : Int32))] [(.int (1 : Int32))])
        refine own_by (fun _ k => XS.ifNo X43.here hx rfl (hb hby d3_65) rfl ((if0 _ _).trans (feq (by decide : ¬ ((1 : Int32) = (0 : Int32)))).1) k) ?_
        show own_Fin p e below s _ _ _ T43 (mkF m 68 #[.val (.ref a1), .val (.int (4 : Int32)), .val (.int (2 : Int32)), .val (.int (2 : Int32)), .val (.int (1 : Int32))] [])
        refine own_by (fun _ k => XS.iloadN X43.here hx rfl (hb hby d3_68) rfl (XS.goto X43.here hx rfl (pc0 := 69) (pc' := 73) rfl (hb hby d3_69) (by decide) (by decide) k)) ?_
        show own_Fin p e below s _ _ _ T43 (mkF m 73 #[.val (.ref a1), .val (.int (4 : Int32)), .val (.int (2 : Int32)), .val (.int (2 : Int32)), .val (.int (1 : Int32))] [(.int (2 : Int32))])
        exact own_retI X43 hx hlk hret (hb hby d3_73) ⟨own_vi (by show (2 : Int32) = _; first | (simp only [own_tl1, own_tl2, own_tl3, own_tl4, hc25_31, hc25_33, hc53_44, if_true, if_false]; done) | (simp only [own_tl1, own_tl2, own_tl3, own_tl4, hc25_31, hc25_33, hc53_44, if_true, if_false]; decide) | simp [own_tl1, own_tl2, own_tl3, own_tl4, hc25_31, hc25_33, hc53_44]), N43, eh43⟩ (by decide) (by decide)
      · show own_Fin p e below s _ _ _ T43 (mkF m 53 #[.val (.ref a1), .val (.int (4 : Int32)), .val (.int (2 : Int32)), .val (.int (2 : Int32)), .unset] [(.int (own_seq (v2 &&& (255 : Int32)))), (.int (2 : Int32))])
        refine own_by (fun _ k => XS.icmpYes X43.here hx rfl (pc0 := 53) (pc' := 60) rfl (hb hby d3_53) rfl (flt hc53_44).2.1 (by decide) (by decide) k) ?_
        show own_Fin p e below s _ _ _ T43 (mkF m 60 #[.val (.ref a1), .val (.int (4 : Int32)), .val (.int (2 : Int32)), .val (.int (2 : Int32)), .unset] [])
        refine own_by (fun _ k => XS.iconst X43.here hx rfl (hb hby d3_60) (XS.istore X43.here hx rfl (hb hby d3_61) rfl (l' := #[.val (.ref a1), .val (.int (4 : Int32)), .val (.int (2 : Int32)), .val (.int (2 : Int32)), .val (.int (0 : Int32))]) rfl (XS.iload X43.here hx rfl (hb hby d3_63) rfl k))) ?_
        show own_Fin p e below s _ _ _ T43 (mkF m 65 #[.val (.ref a1), .val (.int (4 : Int32)), .val (.int (2 : Int32)), .val (.int (2 : Int32)), .val (.int (0 : Int32))] [(.int (0 : Int32))])
        refine own_by (fun _ k => XS.ifYes X43.here hx rfl (pc0 := 65) (pc' := 72) rfl (hb hby d3_65) rfl ((if0 _ _).trans (teq (by decide : (0 : Int32) = (0 : Int32))).1) (by decide) (by decide) k) ?_
        show own_Fin p e below s _ _ _ T43 (mkF m 72 #[.val (.ref a1), .val (.int (4 : Int32)), .val (.int (2 : Int32)), .val (.int (2 : Int32)), .val (.int (0 : Int32))] [])
        refine own_by (fun _ k => XS.iconst X43.here hx rfl (hb hby d3_72) k) ?_
        show own_Fin p e below s _ _ _ T43 (mkF m 73 #[.val (.ref a1), .val (.int (4 : Int32)), .val (.int (2 : Int32)), .val (.int (2 : Int32)), .val (.int (0 : Int32))] [(.int (0 : Int32))])
        exact own_retI X43 hx hlk hret (hb hby d3_73) ⟨own_vi (by show (0 : Int32) = _; first | (simp only [own_tl1, own_tl2, own_tl3, own_tl4, hc25_31, hc25_33, hc53_44, if_true, if_false]; done) | (simp only [own_tl1, own_tl2, own_tl3, own_tl4, hc25_31, hc25_33, hc53_44, if_true, if_false]; decide) | simp [own_tl1, own_tl2, own_tl3, own_tl4, hc25_31, hc25_33, hc53_44]), N43, eh43⟩ (by decide) (by decide)
  · show own_Fin p e below s _ _ _ s₁ (mkF m 25 #[.val (.ref a1), .val (.int (4 : Int32)), .val (.int (3 : Int32)), .unset, .unset] [(.int (128 : Int32)), (.int (v3 &&& (192 : Int32)))])
    refine own_by (fun _ k => XS.icmpYes X0.here hx rfl (pc0 := 25) (pc' := 34) rfl (hb hby d3_25) rfl (feq hc25_31).2 (by decide) (by decide) k) ?_
    show own_Fin p e below s _ _ _ s₁ (mkF m 34 #[.val (.ref a1), .val (.int (4 : Int32)), .val (.int (3 : Int32)), .unset, .unset] [])
    refine own_by (fun _ k => XS.iloadN X0.here hx rfl (hb hby d3_34) rfl (XS.iloadN X0.here hx rfl (hb hby d3_35) rfl (XS.isub X0.here hx rfl (hb hby d3_36) rfl k))) ?_
    show own_Fin p e below s _ _ _ s₁ (mkF m 37 #[.val (.ref a1), .val (.int (4 : Int32)), .val (.int (3 : Int32)), .unset, .unset] [(.int ((4 : Int32) - (3 : Int32)))])
    rw [(by decide : ((4 : Int32) - (3 : Int32)) = (1 : Int32))]
    show own_Fin p e below s _ _ _ s₁ (mkF m 37 #[.val (.ref a1), .val (.int (4 : Int32)), .val (.int (3 : Int32)), .unset, .unset] [(.int (1 : Int32))])
    refine own_by (fun _ k => XS.istoreN X0.here hx rfl (hb hby d3_37) rfl (l' := #[.val (.ref a1), .val (.int (4 : Int32)), .val (.int (3 : Int32)), .val (.int (1 : Int32)), .unset]) rfl (XS.iloadN X0.here hx rfl (hb hby d3_38) rfl k)) ?_
    show own_Fin p e below s _ _ _ s₁ (mkF m 39 #[.val (.ref a1), .val (.int (4 : Int32)), .val (.int (3 : Int32)), .val (.int (1 : Int32)), .unset] [(.int (3 : Int32))])
    refine own_by (fun _ k => XS.ifNo X0.here hx rfl (hb hby d3_39) rfl ((if0 _ _).trans (flt (by decide : ¬ ((3 : Int32) < (0 : Int32)))).1) k) ?_
    show own_Fin p e below s _ _ _ s₁ (mkF m 42 #[.val (.ref a1), .val (.int (4 : Int32)), .val (.int (3 : Int32)), .val (.int (1 : Int32)), .unset] [])
    refine own_by (fun _ k => XS.iloadN X0.here hx rfl (hb hby d3_42) rfl (XS.aloadN X0.here hx rfl (hb hby d3_43) rfl rfl (XS.iloadN X0.here hx rfl (hb hby d3_44) rfl k))) ?_
    show own_Fin p e below s _ _ _ s₁ (mkF m 45 #[.val (.ref a1), .val (.int (4 : Int32)), .val (.int (3 : Int32)), .val (.int (1 : Int32)), .unset] [(.int (3 : Int32)), (.ref a1), (.int (1 : Int32))])
    obtain ⟨cl45, Ar45, -, S45, M45, H45, -⟩ := id V1
    have hin45 : ¬ ((3 : Int32) < 0 ∨ cl45.slots.size ≤ ((3 : Int32)).toNatClampNeg) := inb_of S45 ⟨by decide, by decide⟩
    have hat45 : cl45.slots[((3 : Int32)).toNatClampNeg]? = some (.int v3) := Has.at H45 hin45 rfl
    refine own_by (fun _ k => X0.baloadBytes hx (j := (3 : Int32)) (v := (.int v3)) (by rw [e0]; exact Ar45.1) (State.isArrayOf_alike hZ.alike Ar45.2.1) Ar45.2.2 hin45 hat45 (g := (mkF m 45 #[.val (.ref a1), .val (.int (4 : Int32)), .val (.int (3 : Int32)), .val (.int (1 : Int32)), .unset] [(.int (3 : Int32)), (.ref a1), (.int (1 : Int32))])) rfl rfl (hb hby d3_45) _ k) ?_
    show own_Fin p e below s _ _ _ s₁ (mkF m 46 #[.val (.ref a1), .val (.int (4 : Int32)), .val (.int (3 : Int32)), .val (.int (1 : Int32)), .unset] [(.int v3), (.int (1 : Int32))])
    refine own_by (fun _ k => XS.sipush X0.here hx rfl (hb hby d3_46) (XS.iand X0.here hx rfl (hb hby d3_49) rfl k)) ?_
    show own_Fin p e below s _ _ _ s₁ (mkF m 50 #[.val (.ref a1), .val (.int (4 : Int32)), .val (.int (3 : Int32)), .val (.int (1 : Int32)), .unset] [(.int (v3 &&& (255 : Int32))), (.int (1 : Int32))])
    obtain ⟨_, _, ⟨T46, L46, k46, n46⟩, -, X46, ⟨Lc46, hQ46, l46, y46, z46⟩, st46⟩ := Jvm.LawKit.callS X0 hx (y := (⟨"com/example/munka/munka/util/Utf8", "sequenceLength", "(I)I"⟩ : MethodName)) hown (mvT hZ (hw _ (List.mem_of_getElem? (i := 13) rfl))) (mvT hZ (hw _ (List.mem_of_getElem? (i := 14) rfl))) (mvT hZ (hw _ (List.mem_of_getElem? (i := 11) rfl))) (mvT hZ (hw _ (List.mem_of_getElem? (i := 15) rfl))) (by decide) (backOf (W := 1) (rm4 l Z a0 hw [] (v3 &&& (255 : Int32)) h0 n0 Z0 ) hZ (hw _ (List.mem_of_getElem? (i := 15) rfl)) (hw _ (List.mem_of_getElem? (i := 11) rfl)) (by decide) (by decide)) (g := (mkF m 50 #[.val (.ref a1), .val (.int (4 : Int32)), .val (.int (3 : Int32)), .val (.int (1 : Int32)), .unset] [(.int (v3 &&& (255 : Int32))), (.int (1 : Int32))])) rfl (by rw [hml]; rfl) (argsL := [(.int (v3 &&& (255 : Int32)))]) (rest := [(.int (1 : Int32))]) (lenOf own_pd69 rfl) rfl (by show 2 * 0 + _ ≤ _; exact Nat.le_of_eq rfl) (hb hby d3_50) (fun _ _ => ⟨rfl, e0, (by decide : 0 + 0 ≤ _), (by decide : 0 + 0 ≤ _)⟩)
    dsimp only [Pt.U, Pt.locs, Pt.cells, Pt.slots] at X46 l46 y46 z46 st46 hQ46
    subst l46 y46 z46
    obtain ⟨rfl, Nq46, eh46⟩ := hQ46
    have N46 := Fr.app N0 Nq46
    refine own_by (fun _ k => st46 _ k) ?_
    show own_Fin p e below s _ _ _ T46 (mkF m 53 #[.val (.ref a1), .val (.int (4 : Int32)), .val (.int (3 : Int32)), .val (.int (1 : Int32)), .unset] [(.int (own_seq (v3 &&& (255 : Int32)))), (.int (1 : Int32))])
    by_cases hc53_47 : (1 : Int32) < (own_seq (v3 &&& (255 : Int32)))
    · show own_Fin p e below s _ _ _ T46 (mkF m 53 #[.val (.ref a1), .val (.int (4 : Int32)), .val (.int (3 : Int32)), .val (.int (1 : Int32)), .unset] [(.int (own_seq (v3 &&& (255 : Int32)))), (.int (1 : Int32))])
      refine own_by (fun _ k => XS.icmpNo X46.here hx rfl (hb hby d3_53) rfl (tlt hc53_47).2.1 k) ?_
      show own_Fin p e below s _ _ _ T46 (mkF m 56 #[.val (.ref a1), .val (.int (4 : Int32)), .val (.int (3 : Int32)), .val (.int (1 : Int32)), .unset] [])
      refine own_by (fun _ k => XS.iconst X46.here hx rfl (hb hby d3_56) (XS.goto X46.here hx rfl (pc0 := 57) (pc' := 61) rfl (hb hby d3_57) (by decide) (by decide) (XS.istore X46.here hx rfl (hb hby d3_61) rfl (l' := #[.val (.ref a1), .val (.int (4 : Int32)), .val (.int (3 : Int32)), .val (.int (1 : Int32)), .val (.int (1 : Int32))]) rfl (XS.iload X46.here hx rfl (hb hby d3_63) rfl k)))) ?_
      show own_Fin p e below s _ _ _ T46 (mkF m 65 #[.val (.ref a1), .val (.int (4 : Int32)), .val (.int (3 : Int32)), .val (.int (1 : Int32)), .val (.int (1 : Int32))] [(.int (1 : Int32))])
      refine own_by (fun _ k => XS.ifNo X46.here hx rfl (hb hby d3_65) rfl ((if0 _ _).trans (feq (by decide : ¬ ((1 : Int32) = (0 : Int32)))).1) k) ?_
      show own_Fin p e below s _ _ _ T46 (mkF m 68 #[.val (.ref a1), .val (.int (4 : Int32)), .val (.int (3 : Int32)), .val (.int (1 : Int32)), .val (.int (1 : Int32))] [])
      refine own_by (fun _ k => XS.iloadN X46.here hx rfl (hb hby d3_68) rfl (XS.goto X46.here hx rfl (pc0 := 69) (pc' := 73) rfl (hb hby d3_69) (by decide) (by decide) k)) ?_
      show own_Fin p e below s _ _ _ T46 (mkF m 73 #[.val (.ref a1), .val (.int (4 : Int32)), .val (.int (3 : Int32)), .val (.int (1 : Int32)), .val (.int (1 : Int32))] [(.int (1 : Int32))])
      exact own_retI X46 hx hlk hret (hb hby d3_73) ⟨own_vi (by show (1 : Int32) = _; first | (simp only [own_tl1, own_tl2, own_tl3, own_tl4, hc25_31, hc53_47, if_true, if_false]; done) | (simp only [own_tl1, own_tl2, own_tl3, own_tl4, hc25_31, hc53_47, if_true, if_false]; decide) | simp [own_tl1, own_tl2, own_tl3, own_tl4, hc25_31, hc53_47]), N46, eh46⟩ (by decide) (by decide)
    · show own_Fin p e below s _ _ _ T46 (mkF m 53 #[.val (.ref a1), .val (.int (4 : Int32)), .val (.int (3 : Int32)), .val (.int (1 : Int32)), .unset] [(.int (own_seq (v3 &&& (255 : Int32)))), (.int (1 : Int32))])
      refine own_by (fun _ k => XS.icmpYes X46.here hx rfl (pc0 := 53) (pc' := 60) rfl (hb hby d3_53) rfl (flt hc53_47).2.1 (by decide) (by decide) k) ?_
      show own_Fin p e below s _ _ _ T46 (mkF m 60 #[.val (.ref a1), .val (.int (4 : Int32)), .val (.int (3 : Int32)), .val (.int (1 : Int32)), .unset] [])
      refine own_by (fun _ k => XS.iconst X46.here hx rfl (hb hby d3_60) (XS.istore X46.here hx rfl (hb hby d3_61) rfl (l' := #[.val (.ref a1), .val (.int (4 : Int32)), .val (.int (3 : Int32)), .val (.int (1 : Int32)), .val (.int (0 : Int32))]) rfl (XS.iload X46.here hx rfl (hb hby d3_63) rfl k))) ?_
      show own_Fin p e below s _ _ _ T46 (mkF m 65 #[.val (.ref a1), .val (.int (4 : Int32)), .val (.int (3 : Int32)), .val (.int (1 : Int32)), .val (.int (0 : Int32))] [(.int (0 : Int32))])
      refine own_by (fun _ k => XS.ifYes X46.here hx rfl (pc0 := 65) (pc' := 72) rfl (hb hby d3_65) rfl ((if0 _ _).trans (teq (by decide : (0 : Int32) = (0 : Int32))).1) (by decide) (by decide) k) ?_
      show own_Fin p e below s _ _ _ T46 (mkF m 72 #[.val (.ref a1), .val (.int (4 : Int32)), .val (.int (3 : Int32)), .val (.int (1 : Int32)), .val (.int (0 : Int32))] [])
      refine own_by (fun _ k => XS.iconst X46.here hx rfl (hb hby d3_72) k) ?_
      show own_Fin p e below s _ _ _ T46 (mkF m 73 #[.val (.ref a1), .val (.int (4 : Int32)), .val (.int (3 : Int32)), .val (.int (1 : Int32)), .val (.int (0 : Int32))] [(.int (0 : Int32))])
      exact own_retI X46 hx hlk hret (hb hby d3_73) ⟨own_vi (by show (0 : Int32) = _; first | (simp only [own_tl1, own_tl2, own_tl3, own_tl4, hc25_31, hc53_47, if_true, if_false]; done) | (simp only [own_tl1, own_tl2, own_tl3, own_tl4, hc25_31, hc53_47, if_true, if_false]; decide) | simp [own_tl1, own_tl2, own_tl3, own_tl4, hc25_31, hc53_47]), N46, eh46⟩ (by decide) (by decide)
theorem ef_rmT5 (m : MethodId) (x0 : Addr) (x1 : Int32) : entryFrame m #[(.ref x0), (.int x1)] 5 = mkF m 0 #[.val (.ref x0), .val (.int x1), .unset, .unset, .unset] [] := by first | (simp [entryFrame, mkF, argsToLocals, Value.category]; done) | rfl
def own_QT5 (v0 v1 v2 v3 v4 v5 v6 v7 : Int32) (h0 : Heap) (n0 : Nat) (v : Option Value) (h : Heap) (L : List Loc) : Prop := v = some (.int ((own_tl4 v4 v3 v2 v1))) ∧ Fr n0 L ∧ h = h0
set_option maxRecDepth 65536 in
set_option maxHeartbeats 40000000 in
theorem rmT5 (l : Launch) (Z : State) (a0 : Array Value) (hw : ∀ d ∈ tables_1, d.before a0 Z = true) (ws : List Jvm.Cond) (a1 : Addr) (k : ClassId) (v0 v1 v2 v3 v4 v5 v6 v7 : Int32) (h0 : Heap) (n0 : Nat) (Z0 : n0 ≤ h0.size) (V1 : Arv Z h0 a1 k .byte (8 : Int32) [(.int v0), (.int v1), (.int v2), (.int v3), (.int v4), (.int v5), (.int v6), (.int v7)] (.int (0 : Int32))) : own_Met l Z (⟨"com/example/munka/munka/util/Utf8", "unfinishedTail", "([BI)I"⟩ : MethodName) prog_43_method_4_code 5 (some .int) ws (own_R 1 0 0 16) #[(.ref a1), (.int (5 : Int32))] h0 (own_QT5 v0 v1 v2 v3 v4 v5 v6 v7 h0 n0) := by
  refine own_enter n0 own_pn12 (fun m => ef_rmT5 m a1 (5 : Int32) ) (fun p e s m below meth c s₁ hx hby hlk hml hret hown hnm hZ X0 e0 N0 => ?_)
  show own_Fin p e below s _ _ _ s₁ (mkF m 0 #[.val (.ref a1), .val (.int (5 : Int32)), .unset, .unset, .unset] [])
  refine own_by (fun _ k => XS.iloadN X0.here hx rfl (hb hby d3_0) rfl (XS.iconst X0.here hx rfl (hb hby d3_1) (XS.isub X0.here hx rfl (hb hby d3_2) rfl k))) ?_
  show own_Fin p e below s _ _ _ s₁ (mkF m 3 #[.val (.ref a1), .val (.int (5 : Int32)), .unset, .unset, .unset] [(.int ((5 : Int32) - (1 : Int32)))])
  rw [(by decide : ((5 : Int32) - (1 : Int32)) = (4 : Int32))]
  show own_Fin p e below s _ _ _ s₁ (mkF m 3 #[.val (.ref a1), .val (.int (5 : Int32)), .unset, .unset, .unset] [(.int (4 : Int32))])
  refine own_by (fun _ k => XS.istoreN X0.here hx rfl (hb hby d3_3) rfl (l' := #[.val (.ref a1), .val (.int (5 : Int32)), .val (.int (4 : Int32)), .unset, .unset]) rfl (XS.iloadN X0.here hx rfl (hb hby d3_4) rfl k)) ?_
  show own_Fin p e below s _ _ _ s₁ (mkF m 5 #[.val (.ref a1), .val (.int (5 : Int32)), .val (.int (4 : Int32)), .unset, .unset] [(.int (4 : Int32))])
  refine own_by (fun _ k => XS.ifNo X0.here hx rfl (hb hby d3_5) rfl ((if0 _ _).trans (tlt (by decide : (0 : Int32) < (4 : Int32))).2.2.2) k) ?_
  show own_Fin p e below s _ _ _ s₁ (mkF m 8 #[.val (.ref a1), .val (.int (5 : Int32)), .val (.int (4 : Int32)), .unset, .unset] [])
  refine own_by (fun _ k => XS.iloadN X0.here hx rfl (hb hby d3_8) rfl (XS.iloadN X0.here hx rfl (hb hby d3_9) rfl (XS.iconst X0.here hx rfl (hb hby d3_10) (XS.isub X0.here hx rfl (hb hby d3_11) rfl k)))) ?_
  show own_Fin p e below s _ _ _ s₁ (mkF m 12 #[.val (.ref a1), .val (.int (5 : Int32)), .val (.int (4 : Int32)), .unset, .unset] [(.int ((5 : Int32) - (4 : Int32))), (.int (4 : Int32))])
  rw [(by decide : ((5 : Int32) - (4 : Int32)) = (1 : Int32))]
  show own_Fin p e below s _ _ _ s₁ (mkF m 12 #[.val (.ref a1), .val (.int (5 : Int32)), .val (.int (4 : Int32)), .unset, .unset] [(.int (1 : Int32)), (.int (4 : Int32))])
  refine own_by (fun _ k => XS.icmpNo X0.here hx rfl (hb hby d3_12) rfl (tlt (by decide : (1 : Int32) < (4 : Int32))).2.2.2 k) ?_
  show own_Fin p e below s _ _ _ s₁ (mkF m 15 #[.val (.ref a1), .val (.int (5 : Int32)), .val (.int (4 : Int32)), .unset, .unset] [])
  refine own_by (fun _ k => XS.aloadN X0.here hx rfl (hb hby d3_15) rfl rfl (XS.iloadN X0.here hx rfl (hb hby d3_16) rfl k)) ?_
  show own_Fin p e below s _ _ _ s₁ (mkF m 17 #[.val (.ref a1), .val (.int (5 : Int32)), .val (.int (4 : Int32)), .unset, .unset] [(.int (4 : Int32)), (.ref a1)])
  obtain ⟨cl48, Ar48, -, S48, M48, H48, -⟩ := id V1
  have hin48 : ¬ ((4 : Int32) < 0 ∨ cl48.slots.size ≤ ((4 : Int32)).toNatClampNeg) := inb_of S48 ⟨by decide, by decide⟩
  have hat48 : cl48.slots[((4 : Int32)).toNatClampNeg]? = some (.int v4) := Has.at H48 hin48 rfl
  refine own_by (fun _ k => X0.baloadBytes hx (j := (4 : Int32)) (v := (.int v4)) (by rw [e0]; exact Ar48.1) (State.isArrayOf_alike hZ.alike Ar48.2.1) Ar48.2.2 hin48 hat48 (g := (mkF m 17 #[.val (.ref a1), .val (.int (5 : Int32)), .val (.int (4 : Int32)), .unset, .unset] [(.int (4 : Int32)), (.ref a1)])) rfl rfl (hb hby d3_17) _ k) ?_
  show own_Fin p e below s _ _ _ s₁ (mkF m 18 #[.val (.ref a1), .val (.int (5 : Int32)), .val (.int (4 : Int32)), .unset, .unset] [(.int v4)])
  refine own_by (fun _ k => XS.sipush X0.here hx rfl (hb hby d3_18) (XS.iand X0.here hx rfl (hb hby d3_21) rfl (XS.sipush X0.here hx rfl (hb hby d3_22) k))) ?_
  show own_Fin p e below s _ _ _ s₁ (mkF m 25 #[.val (.ref a1), .val (.int (5 : Int32)), .val (.int (4 : Int32)), .unset, .unset] [(.int (128 : Int32)), (.int (v4 &&& (192 : Int32)))])
  by_cases hc25_49 : (v4 &&& (192 : Int32)) = (128 : Int32)
  · show own_Fin p e below s _ _ _ s₁ (mkF m 25 #[.val (.ref a1), .val (.int (5 : Int32)), .val (.int (4 : Int32)), .unset, .unset] [(.int (128 : Int32)), (.int (v4 &&& (192 : Int32)))])
    refine own_by (fun _ k => XS.icmpNo X0.here hx rfl (hb hby d3_25) rfl (teq hc25_49).2 k) ?_
    show own_Fin p e below s _ _ _ s₁ (mkF m 28 #[.val (.ref a1), .val (.int (5 : Int32)), .val (.int (4 : Int32)), .unset, .unset] [])
    refine own_by (fun _ k => XS.iinc X0.here hx rfl (hb hby d3_28) rfl (l' := #[.val (.ref a1), .val (.int (5 : Int32)), .val (.int ((4 : Int32) + (-1 : Int32))), .unset, .unset]) rfl k) ?_
    show own_Fin p e below s _ _ _ s₁ (mkF m 31 #[.val (.ref a1), .val (.int (5 : Int32)), .val (.int ((4 : Int32) + (-1 : Int32))), .unset, .unset] [])
    rw [(by decide : ((4 : Int32) + (-1 : Int32)) = (3 : Int32))]
    show own_Fin p e below s _ _ _ s₁ (mkF m 31 #[.val (.ref a1), .val (.int (5 : Int32)), .val (.int (3 : Int32)), .unset, .unset] [])
    refine own_by (fun _ k => XS.goto X0.here hx rfl (pc0 := 31) (pc' := 4) rfl (hb hby d3_31) (by decide) (by decide) (XS.iloadN X0.here hx rfl (hb hby d3_4) rfl k)) ?_
    show own_Fin p e below s _ _ _ s₁ (mkF m 5 #[.val (.ref a1), .val (.int (5 : Int32)), .val (.int (3 : Int32)), .unset, .unset] [(.int (3 : Int32))])
    refine own_by (fun _ k => XS.ifNo X0.here hx rfl (hb hby d3_5) rfl ((if0 _ _).trans (tlt (by decide : (0 : Int32) < (3 : Int32))).2.2.2) k) ?_
    show own_Fin p e below s _ _ _ s₁ (mkF m 8 #[.val (.ref a1), .val (.int (5 : Int32)), .val (.int (3 : Int32)), .unset, .unset] [])
    refine own_by (fun _ k => XS.iloadN X0.here hx rfl (hb hby d3_8) rfl (XS.iloadN X0.here hx rfl (hb hby d3_9) rfl (XS.iconst X0.here hx rfl (hb hby d3_10) (XS.isub X0.here hx rfl (hb hby d3_11) rfl k)))) ?_
    show own_Fin p e below s _ _ _ s₁ (mkF m 12 #[.val (.ref a1), .val (.int (5 : Int32)), .val (.int (3 : Int32)), .unset, .unset] [(.int ((5 : Int32) - (4 : Int32))), (.int (3 : Int32))])
    rw [(by decide : ((5 : Int32) - (4 : Int32)) = (1 : Int32))]
    show own_Fin p e below s _ _ _ s₁ (mkF m 12 #[.val (.ref a1), .val (.int (5 : Int32)), .val (.int (3 : Int32)), .unset, .unset] [(.int (1 : Int32)), (.int (3 : Int32))])
    refine own_by (fun _ k => XS.icmpNo X0.here hx rfl (hb hby d3_12) rfl (tlt (by decide : (1 : Int32) < (3 : Int32))).2.2.2 k) ?_
    show own_Fin p e below s _ _ _ s₁ (mkF m 15 #[.val (.ref a1), .val (.int (5 : Int32)), .val (.int (3 : Int32)), .unset, .unset] [])
    refine own_by (fun _ k => XS.aloadN X0.here hx rfl (hb hby d3_15) rfl rfl (XS.iloadN X0.here hx rfl (hb hby d3_16) rfl k)) ?_
    show own_Fin p e below s _ _ _ s₁ (mkF m 17 #[.val (.ref a1), .val (.int (5 : Int32)), .val (.int (3 : Int32)), .unset, .unset] [(.int (3 : Int32)), (.ref a1)])
    obtain ⟨cl50, Ar50, -, S50, M50, H50, -⟩ := id V1
    have hin50 : ¬ ((3 : Int32) < 0 ∨ cl50.slots.size ≤ ((3 : Int32)).toNatClampNeg) := inb_of S50 ⟨by decide, by decide⟩
    have hat50 : cl50.slots[((3 : Int32)).toNatClampNeg]? = some (.int v3) := Has.at H50 hin50 rfl
    refine own_by (fun _ k => X0.baloadBytes hx (j := (3 : Int32)) (v := (.int v3)) (by rw [e0]; exact Ar50.1) (State.isArrayOf_alike hZ.alike Ar50.2.1) Ar50.2.2 hin50 hat50 (g := (mkF m 17 #[.val (.ref a1), .val (.int (5 : Int32)), .val (.int (3 : Int32)), .unset, .unset] [(.int (3 : Int32)), (.ref a1)])) rfl rfl (hb hby d3_17) _ k) ?_
    show own_Fin p e below s _ _ _ s₁ (mkF m 18 #[.val (.ref a1), .val (.int (5 : Int32)), .val (.int (3 : Int32)), .unset, .unset] [(.int v3)])
    refine own_by (fun _ k => XS.sipush X0.here hx rfl (hb hby d3_18) (XS.iand X0.here hx rfl (hb hby d3_21) rfl (XS.sipush X0.here hx rfl (hb hby d3_22) k))) ?_
    show own_Fin p e below s _ _ _ s₁ (mkF m 25 #[.val (.ref a1), .val (.int (5 : Int32)), .val (.int (3 : Int32)), .unset, .unset] [(.int (128 : Int32)), (.int (v3 &&& (192 : Int32)))])
    by_cases hc25_51 : (v3 &&& (192 : Int32)) = (128 : Int32)
    · show own_Fin p e below s _ _ _ s₁ (mkF m 25 #[.val (.ref a1), .val (.int (5 : Int32)), .val (.int (3 : Int32)), .unset, .unset] [(.int (128 : Int32)), (.int (v3 &&& (192 : Int32)))])
      refine own_by (fun _ k => XS.icmpNo X0.here hx rfl (hb hby d3_25) rfl (teq hc25_51).2 k) ?_
      show own_Fin p e below s _ _ _ s₁ (mkF m 28 #[.val (.ref a1), .val (.int (5 : Int32)), .val (.int (3 : Int32)), .unset, .unset] [])
      refine own_by (fun _ k => XS.iinc X0.here hx rfl (hb hby d3_28) rfl (l' := #[.val (.ref a1), .val (.int (5 : Int32)), .val (.int ((3 : Int32) + (-1 : Int32))), .unset, .unset]) rfl k) ?_
      show own_Fin p e below s _ _ _ s₁ (mkF m 31 #[.val (.ref a1), .val (.int (5 : Int32)), .val (.int ((3 : Int32) + (-1 : Int32))), .unset, .unset] [])
      rw [(by decide : ((3 : Int32) + (-1 : Int32)) = (2 : Int32))]
      show own_Fin p e below s _ _ _ s₁ (mkF m 31 #[.val (.ref a1), .val (.int (5 : Int32)), .val (.int (2 : Int32)), .unset, .unset] [])
      refine own_by (fun _ k => XS.goto X0.here hx rfl (pc0 := 31) (pc' := 4) rfl (hb hby d3_31) (by decide) (by decide) (XS.iloadN X0.here hx rfl (hb hby d3_4) rfl k)) ?_
      show own_Fin p e below s _ _ _ s₁ (mkF m 5 #[.val (.ref a1), .val (.int (5 : Int32)), .val (.int (2 : Int32)), .unset, .unset] [(.int (2 : Int32))])
      refine own_by (fun _ k => XS.ifNo X0.here hx rfl (hb hby d3_5) rfl ((if0 _ _).trans (tlt (by decide : (0 : Int32) < (2 : Int32))).2.2.2) k) ?_
      show own_Fin p e below s _ _ _ s₁ (mkF m 8 #[.val (.ref a1), .val (.int (5 : Int32)), .val (.int (2 : Int32)), .unset, .unset] [])
      refine own_by (fun _ k => XS.iloadN X0.here hx rfl (hb hby d3_8) rfl (XS.iloadN X0.here hx rfl (hb hby d3_9) rfl (XS.iconst X0.here hx rfl (hb hby d3_10) (XS.isub X0.here hx rfl (hb hby d3_11) rfl k)))) ?_
      show own_Fin p e below s _ _ _ s₁ (mkF m 12 #[.val (.ref a1), .val (.int (5 : Int32)), .val (.int (2 : Int32)), .unset, .unset] [(.int ((5 : Int32) - (4 : Int32))), (.int (2 : Int32))])
      rw [(by decide : ((5 : Int32) - (4 : Int32)) = (1 : Int32))]
      show own_Fin p e below s _ _ _ s₁ (mkF m 12 #[.val (.ref a1), .val (.int (5 : Int32)), .val (.int (2 : Int32)), .unset, .unset] [(.int (1 : Int32)), (.int (2 : Int32))])
      refine own_by (fun _ k => XS.icmpNo X0.here hx rfl (hb hby d3_12) rfl (tlt (by decide : (1 : Int32) < (2 : Int32))).2.2.2 k) ?_
      show own_Fin p e below s _ _ _ s₁ (mkF m 15 #[.val (.ref a1), .val (.int (5 : Int32)), .val (.int (2 : Int32)), .unset, .unset] [])
      refine own_by (fun _ k => XS.aloadN X0.here hx rfl (hb hby d3_15) rfl rfl (XS.iloadN X0.here hx rfl (hb hby d3_16) rfl k)) ?_
      show own_Fin p e below s _ _ _ s₁ (mkF m 17 #[.val (.ref a1), .val (.int (5 : Int32)), .val (.int (2 : Int32)), .unset, .unset] [(.int (2 : Int32)), (.ref a1)])
      obtain ⟨cl52, Ar52, -, S52, M52, H52, -⟩ := id V1
      have hin52 : ¬ ((2 : Int32) < 0 ∨ cl52.slots.size ≤ ((2 : Int32)).toNatClampNeg) := inb_of S52 ⟨by decide, by decide⟩
      have hat52 : cl52.slots[((2 : Int32)).toNatClampNeg]? = some (.int v2) := Has.at H52 hin52 rfl
      refine own_by (fun _ k => X0.baloadBytes hx (j := (2 : Int32)) (v := (.int v2)) (by rw [e0]; exact Ar52.1) (State.isArrayOf_alike hZ.alike Ar52.2.1) Ar52.2.2 hin52 hat52 (g := (mkF m 17 #[.val (.ref a1), .val (.int (5 : Int32)), .val (.int (2 : Int32)), .unset, .unset] [(.int (2 : Int32)), (.ref a1)])) rfl rfl (hb hby d3_17) _ k) ?_
      show own_Fin p e below s _ _ _ s₁ (mkF m 18 #[.val (.ref a1), .val (.int (5 : Int32)), .val (.int (2 : Int32)), .unset, .unset] [(.int v2)])
      refine own_by (fun _ k => XS.sipush X0.here hx rfl (hb hby d3_18) (XS.iand X0.here hx rfl (hb hby d3_21) rfl (XS.sipush X0.here hx rfl (hb hby d3_22) k))) ?_
      show own_Fin p e below s _ _ _ s₁ (mkF m 25 #[.val (.ref a1), .val (.int (5 : Int32)), .val (.int (2 : Int32)), .unset, .unset] [(.int (128 : Int32)), (.int (v2 &&& (192 : Int32)))])
      by_cases hc25_53 : (v2 &&& (192 : Int32)) = (128 : Int32)
      · show own_Fin p e below s _ _ _ s₁ (mkF m 25 #[.val (.ref a1), .val (.int (5 : Int32)), .val (.int (2 : Int32)), .unset, .unset] [(.int (128 : Int32)), (.int (v2 &&& (192 : Int32)))])
        refine own_by (fun _ k => XS.icmpNo X0.here hx rfl (hb hby d3_25) rfl (teq hc25_53).2 k) ?_
        show own_Fin p e below s _ _ _ s₁ (mkF m 28 #[.val (.ref a1), .val (.int (5 : Int32)), .val (.int (2 : Int32)), .unset, .unset] [])
        refine own_by (fun _ k => XS.iinc X0.here hx rfl (hb hby d3_28) rfl (l' := #[.val (.ref a1), .val (.int (5 : Int32)), .val (.int ((2 : Int32) + (-1 : Int32))), .unset, .unset]) rfl k) ?_
        show own_Fin p e below s _ _ _ s₁ (mkF m 31 #[.val (.ref a1), .val (.int (5 : Int32)), .val (.int ((2 : Int32) + (-1 : Int32))), .unset, .unset] [])
        rw [(by decide : ((2 : Int32) + (-1 : Int32)) = (1 : Int32))]
        show own_Fin p e below s _ _ _ s₁ (mkF m 31 #[.val (.ref a1), .val (.int (5 : Int32)), .val (.int (1 : Int32)), .unset, .unset] [])
        refine own_by (fun _ k => XS.goto X0.here hx rfl (pc0 := 31) (pc' := 4) rfl (hb hby d3_31) (by decide) (by decide) (XS.iloadN X0.here hx rfl (hb hby d3_4) rfl k)) ?_
        show own_Fin p e below s _ _ _ s₁ (mkF m 5 #[.val (.ref a1), .val (.int (5 : Int32)), .val (.int (1 : Int32)), .unset, .unset] [(.int (1 : Int32))])
        refine own_by (fun _ k => XS.ifNo X0.here hx rfl (hb hby d3_5) rfl ((if0 _ _).trans (tlt (by decide : (0 : Int32) < (1 : Int32))).2.2.2) k) ?_
        show own_Fin p e below s _ _ _ s₁ (mkF m 8 #[.val (.ref a1), .val (.int (5 : Int32)), .val (.int (1 : Int32)), .unset, .unset] [])
        refine own_by (fun _ k => XS.iloadN X0.here hx rfl (hb hby d3_8) rfl (XS.iloadN X0.here hx rfl (hb hby d3_9) rfl (XS.iconst X0.here hx rfl (hb hby d3_10) (XS.isub X0.here hx rfl (hb hby d3_11) rfl k)))) ?_
        show own_Fin p e below s _ _ _ s₁ (mkF m 12 #[.val (.ref a1), .val (.int (5 : Int32)), .val (.int (1 : Int32)), .unset, .unset] [(.int ((5 : Int32) - (4 : Int32))), (.int (1 : Int32))])
        rw [(by decide : ((5 : Int32) - (4 : Int32)) = (1 : Int32))]
        show own_Fin p e below s _ _ _ s₁ (mkF m 12 #[.val (.ref a1), .val (.int (5 : Int32)), .val (.int (1 : Int32)), .unset, .unset] [(.int (1 : Int32)), (.int (1 : Int32))])
        refine own_by (fun _ k => XS.icmpYes X0.here hx rfl (pc0 := 12) (pc' := 34) rfl (hb hby d3_12) rfl (flt (by decide : ¬ ((1 : Int32) < (1 : Int32)))).2.2.2 (by decide) (by decide) k) ?_
        show own_Fin p e below s _ _ _ s₁ (mkF m 34 #[.val (.ref a1), .val (.int (5 : Int32)), .val (.int (1 : Int32)), .unset, .unset] [])
        refine own_by (fun _ k => XS.iloadN X0.here hx rfl (hb hby d3_34) rfl (XS.iloadN X0.here hx rfl (hb hby d3_35) rfl (XS.isub X0.here hx rfl (hb hby d3_36) rfl k))) ?_
        show own_Fin p e below s _ _ _ s₁ (mkF m 37 #[.val (.ref a1), .val (.int (5 : Int32)), .val (.int (1 : Int32)), .unset, .unset] [(.int ((5 : Int32) - (1 : Int32)))])
        rw [(by decide : ((5 : Int32) - (1 : Int32)) = (4 : Int32))]
        show own_Fin p e below s _ _ _ s₁ (mkF m 37 #[.val (.ref a1), .val (.int (5 : Int32)), .val (.int (1 : Int32)), .unset, .unset] [(.int (4 : Int32))])
        refine own_by (fun _ k => XS.istoreN X0.here hx rfl (hb hby d3_37) rfl (l' := #[.val (.ref a1), .val (.int (5 : Int32)), .val (.int (1 : Int32)), .val (.int (4 : Int32)), .unset]) rfl (XS.iloadN X0.here hx rfl (hb hby d3_38) rfl k)) ?_
        show own_Fin p e below s _ _ _ s₁ (mkF m 39 #[.val (.ref a1), .val (.int (5 : Int32)), .val (.int (1 : Int32)), .val (.int (4 : Int32)), .unset] [(.int (1 : Int32))])
        refine own_by (fun _ k => XS.ifNo X0.here hx rfl (hb hby d3_39) rfl ((if0 _ _).trans (flt (by decide : ¬ ((1 : Int32) < (0 : Int32)))).1) k) ?_
        show own_Fin p e below s _ _ _ s₁ (mkF m 42 #[.val (.ref a1), .val (.int (5 : Int32)), .val (.int (1 : Int32)), .val (.int (4 : Int32)), .unset] [])
        refine own_by (fun _ k => XS.iloadN X0.here hx rfl (hb hby d3_42) rfl (XS.aloadN X0.here hx rfl (hb hby d3_43) rfl rfl (XS.iloadN X0.here hx rfl (hb hby d3_44) rfl k))) ?_
        show own_Fin p e below s _ _ _ s₁ (mkF m 45 #[.val (.ref a1), .val (.int (5 : Int32)), .val (.int (1 : Int32)), .val (.int (4 : Int32)), .unset] [(.int (1 : Int32)), (.ref a1), (.int (4 : Int32))])
        obtain ⟨cl54, Ar54, -, S54, M54, H54, -⟩ := id V1
        have hin54 : ¬ ((1 : Int32) < 0 ∨ cl54.slots.size ≤ ((1 : Int32)).toNatClampNeg) := inb_of S54 ⟨by decide, by decide⟩
        have hat54 : cl54.slots[((1 : Int32)).toNatClampNeg]? = some (.int v1) := Has.at H54 hin54 rfl
        refine own_by (fun _ k => X0.baloadBytes hx (j := (1 : Int32)) (v := (.int v1)) (by rw [e0]; exact Ar54.1) (State.isArrayOf_alike hZ.alike Ar54.2.1) Ar54.2.2 hin54 hat54 (g := (mkF m 45 #[.val (.ref a1), .val (.int (5 : Int32)), .val (.int (1 : Int32)), .val (.int (4 : Int32)), .unset] [(.int (1 : Int32)), (.ref a1), (.int (4 : Int32))])) rfl rfl (hb hby d3_45) _ k) ?_
        show own_Fin p e below s _ _ _ s₁ (mkF m 46 #[.val (.ref a1), .val (.int (5 : Int32)), .val (.int (1 : Int32)), .val (.int (4 : Int32)), .unset] [(.int v1), (.int (4 : Int32))])
        refine own_by (fun _ k => XS.sipush X0.here hx rfl (hb hby d3_46) (XS.iand X0.here hx rfl (hb hby d3_49) rfl k)) ?_
        show own_Fin p e below s _ _ _ s₁ (mkF m 50 #[.val (.ref a1), .val (.int (5 : Int32)), .val (.int (1 : Int32)), .val (.int (4 : Int32)), .unset] [(.int (v1 &&& (255 : Int32))), (.int (4 : Int32))])
        obtain ⟨_, _, ⟨T55, L55, k55, n55⟩, -, X55, ⟨Lc55, hQ55, l55, y55, z55⟩, st55⟩ := Jvm.LawKit.callS X0 hx (y := (⟨"com/example/munka/munka/util/Utf8", "sequenceLength", "(I)I"⟩ : MethodName)) hown (mvT hZ (hw _ (List.mem_of_getElem? (i := 13) rfl))) (mvT hZ (hw _ (List.mem_of_getElem? (i := 14) rfl))) (mvT hZ (hw _ (List.mem_of_getElem? (i := 11) rfl))) (mvT hZ (hw _ (List.mem_of_getElem? (i := 15) rfl))) (by decide) (backOf (W := 1) (rm4 l Z a0 hw [] (v1 &&& (255 : Int32)) h0 n0 Z0 ) hZ (hw _ (List.mem_of_getElem? (i := 15) rfl)) (hw _ (List.mem_of_getElem? (i := 11) rfl)) (by decide) (by decide)) (g := (mkF m 50 #[.val (.ref a1), .val (.int (5 : Int32)), .val (.int (1 : Int32)), .val (.int (4 : Int32)), .unset] [(.int (v1 &&& (255 : Int32))), (.int (4 : Int32))])) rfl (by rw [hml]; rfl) (argsL := [(.int (v1 &&& (255 : Int32)))]) (rest := [(.int (4 : Int32))]) (lenOf own_pd69 rfl) rfl (by show 2 * 0 + _ ≤ _; exact Nat.le_of_eq rfl) (hb hby d3_50) (fun _ _ => ⟨rfl, e0, (by decide : 0 + 0 ≤ _), (by decide : 0 + 0 ≤ _)⟩)
        dsimp only [Pt.U, Pt.locs, Pt.cells, Pt.slots] at X55 l55 y55 z55 st55 hQ55
        subst l55 y55 z55
        obtain ⟨rfl, Nq55, eh55⟩ := hQ55
        have N55 := Fr.app N0 Nq55
        refine own_by (fun _ k => st55 _ k) ?_
        show own_Fin p e below s _ _ _ T55 (mkF m 53 #[.val (.ref a1), .val (.int (5 : Int32)), .val (.int (1 : Int32)), .val (.int (4 : Int32)), .unset] [(.int (own_seq (v1 &&& (255 : Int32)))), (.int (4 : Int32))])
        by_cases hc53_56 : (4 : Int32) < (own_seq (v1 &&& (255 : Int32)))
        · show own_Fin p e below s _ _ _ T55 (mkF m 53 #[.val (.ref a1), .val (.int (5 : Int32)), .val (.int (1 : Int32)), .val (.int (4 : Int32)), .unset] [(.int (own_seq (v1 &&& (255 : Int32)))), (.int (4 : Int32))])
          refine own_by (fun _ k => XS.icmpNo X55.here hx rfl (hb hby d3_53) rfl (tlt hc53_56).2.1 k) ?_
          show own_Fin p e below s _ _ _ T55 (mkF m 56 #[.val (.ref a1), .val (.int (5 : Int32)), .val (.int (1 : Int32)), .val (.int (4 : Int32)), .unset] [])
          refine own_by (fun _ k => XS.iconst X55.here hx rfl (hb hby d3_56) (XS.goto X55.here hx rfl (pc0 := 57) (pc' := 61) rfl (hb hby d3_57) (by decide) (by decide) (XS.istore X55.here hx rfl (hb hby d3_61) rfl (l' := #[.val (.ref a1), .val (.int (5 : Int32)), .val (.int (1 : Int32)), .val (.int (4 : Int32)), .val (.int (1 : Int32))]) rfl (XS.iload X55.here hx rfl (hb hby d3_63) rfl k)))) ?_
          show own_Fin p e below s _ _ _ T55 (mkF m 65 #[.val (.ref a1), .val (.int (5 : Int32)), .val (.int (1 : Int32)), .val (.int (4 : Int32)), .val (.int (1 : Int32))] [(.int (1 : Int32))])
          refine own_by (fun _ k => XS.ifNo X55.here hx rfl (hb hby d3_65) rfl ((if0 _ _).trans (feq (by decide : ¬ ((1 : Int32) = (0 : Int32)))).1) k) ?_
          show own_Fin p e below s _ _ _ T55 (mkF m 68 #[.val (.ref a1), .val (.int (5 : Int32)), .val (.int (1 : Int32)), .val (.int (4 : Int32)), .val (.int (1 : Int32))] [])
          refine own_by (fun _ k => XS.iloadN X55.here hx rfl (hb hby d3_68) rfl (XS.goto X55.here hx rfl (pc0 := 69) (pc' := 73) rfl (hb hby d3_69) (by decide) (by decide) k)) ?_
          show own_Fin p e below s _ _ _ T55 (mkF m 73 #[.val (.ref a1), .val (.int (5 : Int32)), .val (.int (1 : Int32)), .val (.int (4 : Int32)), .val (.int (1 : Int32))] [(.int (4 : Int32))])
          exact own_retI X55 hx hlk hret (hb hby d3_73) ⟨own_vi (by show (4 : Int32) = _; first | (simp only [own_tl1, own_tl2, own_tl3, own_tl4, hc25_49, hc25_51, hc25_53, hc53_56, if_true, if_false]; done) | (simp only [own_tl1, own_tl2, own_tl3, own_tl4, hc25_49, hc25_51, hc25_53, hc53_56, if_true, if_false]; decide) | simp [own_tl1, own_tl2, own_tl3, own_tl4, hc25_49, hc25_51, hc25_53, hc53_56]), N55, eh55⟩ (by decide) (by decide)
        · show own_Fin p e below s _ _ _ T55 (mkF m 53 #[.val (.ref a1), .val (.int (5 : Int32)), .val (.int (1 : Int32)), .val (.int (4 : Int32)), .unset] [(.int (own_seq (v1 &&& (255 : Int32)))), (.int (4 : Int32))])
          refine own_by (fun _ k => XS.icmpYes X55.here hx rfl (pc0 := 53) (pc' := 60) rfl (hb hby d3_53) rfl (flt hc53_56).2.1 (by decide) (by decide) k) ?_
          show own_Fin p e below s _ _ _ T55 (mkF m 60 #[.val (.ref a1), .val (.int (5 : Int32)), .val (.int (1 : Int32)), .val (.int (4 : Int32)), .unset] [])
          refine own_by (fun _ k => XS.iconst X55.here hx rfl (hb hby d3_60) (XS.istore X55.here hx rfl (hb hby d3_61) rfl (l' := #[.val (.ref a1), .val (.int (5 : Int32)), .val (.int (1 : Int32)), .val (.int (4 : Int32)), .val (.int (0 : Int32))]) rfl (XS.iload X55.here hx rfl (hb hby d3_63) rfl k))) ?_
          show own_Fin p e below s _ _ _ T55 (mkF m 65 #[.val (.ref a1), .val (.int (5 : Int32)), .val (.int (1 : Int32)), .val (.int (4 : Int32)), .val (.int (0 : Int32))] [(.int (0 : Int32))])
          refine own_by (fun _ k => XS.ifYes X55.here hx rfl (pc0 := 65) (pc' := 72) rfl (hb hby d3_65) rfl ((if0 _ _).trans (teq (by decide : (0 : Int32) = (0 : Int32))).1) (by decide) (by decide) k) ?_
          show own_Fin p e below s _ _ _ T55 (mkF m 72 #[.val (.ref a1), .val (.int (5 : Int32)), .val (.int (1 : Int32)), .val (.int (4 : Int32)), .val (.int (0 : Int32))] [])
          refine own_by (fun _ k => XS.iconst X55.here hx rfl (hb hby d3_72) k) ?_
          show own_Fin p e below s _ _ _ T55 (mkF m 73 #[.val (.ref a1), .val (.int (5 : Int32)), .val (.int (1 : Int32)), .val (.int (4 : Int32)), .val (.int (0 : Int32))] [(.int (0 : Int32))])
          exact own_retI X55 hx hlk hret (hb hby d3_73) ⟨own_vi (by show (0 : Int32) = _; first | (simp only [own_tl1, own_tl2, own_tl3, own_tl4, hc25_49, hc25_51, hc25_53, hc53_56, if_true, if_false]; done) | (simp only [own_tl1, own_tl2, own_tl3, own_tl4, hc25_49, hc25_51, hc25_53, hc53_56, if_true, if_false]; decide) | simp [own_tl1, own_tl2, own_tl3, own_tl4, hc25_49, hc25_51, hc25_53, hc53_56]), N55, eh55⟩ (by decide) (by decide)
      · show own_Fin p e below s _ _ _ s₁ (mkF m 25 #[.val (.ref a1), .val (.int (5 : Int32)), .val (.int (2 : Int32)), .unset, .unset] [(.int (128 : Int32)), (.int (v2 &&& (192 : Int32)))])
        refine own_by (fun _ k => XS.icmpYes X0.here hx rfl (pc0 := 25) (pc' := 34) rfl (hb hby d3_25) rfl (feq hc25_53).2 (by decide) (by decide) k) ?_
        show own_Fin p e below s _ _ _ s₁ (mkF m 34 #[.val (.ref a1), .val (.int (5 : Int32)), .val (.int (2 : Int32)), .unset, .unset] [])
        refine own_by (fun _ k => XS.iloadN X0.here hx rfl (hb hby d3_34) rfl (XS.iloadN X0.here hx rfl (hb hby d3_35) rfl (XS.isub X0.here hx rfl (hb hby d3_36) rfl k))) ?_
        show own_Fin p e below s _ _ _ s₁ (mkF m 37 #[.val (.ref a1), .val (.int (5 : Int32)), .val (.int (2 : Int32)), .unset, .unset] [(.int ((5 : Int32) - (2 : Int32)))])
        rw [(by decide : ((5 : Int32) - (2 : Int32)) = (3 : Int32))]
        show own_Fin p e below s _ _ _ s₁ (mkF m 37 #[.val (.ref a1), .val (.int (5 : Int32)), .val (.int (2 : Int32)), .unset, .unset] [(.int (3 : Int32))])
        refine own_by (fun _ k => XS.istoreN X0.here hx rfl (hb hby d3_37) rfl (l' := #[.val (.ref a1), .val (.int (5 : Int32)), .val (.int (2 : Int32)), .val (.int (3 : Int32)), .unset]) rfl (XS.iloadN X0.here hx rfl (hb hby d3_38) rfl k)) ?_
        show own_Fin p e below s _ _ _ s₁ (mkF m 39 #[.val (.ref a1), .val (.int (5 : Int32)), .val (.int (2 : Int32)), .val (.int (3 : Int32)), .unset] [(.int (2 : Int32))])
        refine own_by (fun _ k => XS.ifNo X0.here hx rfl (hb hby d3_39) rfl ((if0 _ _).trans (flt (by decide : ¬ ((2 : Int32) < (0 : Int32)))).1) k) ?_
        show own_Fin p e below s _ _ _ s₁ (mkF m 42 #[.val (.ref a1), .val (.int (5 : Int32)), .val (.int (2 : Int32)), .val (.int (3 : Int32)), .unset] [])
        refine own_by (fun _ k => XS.iloadN X0.here hx rfl (hb hby d3_42) rfl (XS.aloadN X0.here hx rfl (hb hby d3_43) rfl rfl (XS.iloadN X0.here hx rfl (hb hby d3_44) rfl k))) ?_
        show own_Fin p e below s _ _ _ s₁ (mkF m 45 #[.val (.ref a1), .val (.int (5 : Int32)), .val (.int (2 : Int32)), .val (.int (3 : Int32)), .unset] [(.int (2 : Int32)), (.ref a1), (.int (3 : Int32))])
        obtain ⟨cl57, Ar57, -, S57, M57, H57, -⟩ := id V1
        have hin57 : ¬ ((2 : Int32) < 0 ∨ cl57.slots.size ≤ ((2 : Int32)).toNatClampNeg) := inb_of S57 ⟨by decide, by decide⟩
        have hat57 : cl57.slots[((2 : Int32)).toNatClampNeg]? = some (.int v2) := Has.at H57 hin57 rfl
        refine own_by (fun _ k => X0.baloadBytes hx (j := (2 : Int32)) (v := (.int v2)) (by rw [e0]; exact Ar57.1) (State.isArrayOf_alike hZ.alike Ar57.2.1) Ar57.2.2 hin57 hat57 (g := (mkF m 45 #[.val (.ref a1), .val (.int (5 : Int32)), .val (.int (2 : Int32)), .val (.int (3 : Int32)), .unset] [(.int (2 : Int32)), (.ref a1), (.int (3 : Int32))])) rfl rfl (hb hby d3_45) _ k) ?_
        show own_Fin p e below s _ _ _ s₁ (mkF m 46 #[.val (.ref a1), .val (.int (5 : Int32)), .val (.int (2 : Int32)), .val (.int (3 : Int32)), .unset] [(.int v2), (.int (3 : Int32))])
        refine own_by (fun _ k => XS.sipush X0.here hx rfl (hb hby d3_46) (XS.iand X0.here hx rfl (hb hby d3_49) rfl k)) ?_
        show own_Fin p e below s _ _ _ s₁ (mkF m 50 #[.val (.ref a1), .val (.int (5 : Int32)), .val (.int (2 : Int32)), .val (.int (3 : Int32)), .unset] [(.int (v2 &&& (255 : Int32))), (.int (3 : Int32))])
        obtain ⟨_, _, ⟨T58, L58, k58, n58⟩, -, X58, ⟨Lc58, hQ58, l58, y58, z58⟩, st58⟩ := Jvm.LawKit.callS X0 hx (y := (⟨"com/example/munka/munka/util/Utf8", "sequenceLength", "(I)I"⟩ : MethodName)) hown (mvT hZ (hw _ (List.mem_of_getElem? (i := 13) rfl))) (mvT hZ (hw _ (List.mem_of_getElem? (i := 14) rfl))) (mvT hZ (hw _ (List.mem_of_getElem? (i := 11) rfl))) (mvT hZ (hw _ (List.mem_of_getElem? (i := 15) rfl))) (by decide) (backOf (W := 1) (rm4 l Z a0 hw [] (v2 &&& (255 : Int32)) h0 n0 Z0 ) hZ (hw _ (List.mem_of_getElem? (i := 15) rfl)) (hw _ (List.mem_of_getElem? (i := 11) rfl)) (by decide) (by decide)) (g := (mkF m 50 #[.val (.ref a1), .val (.int (5 : Int32)), .val (.int (2 : Int32)), .val (.int (3 : Int32)), .unset] [(.int (v2 &&& (255 : Int32))), (.int (3 : Int32))])) rfl (by rw [hml]; rfl) (argsL := [(.int (v2 &&& (255 : Int32)))]) (rest := [(.int (3 : Int32))]) (lenOf own_pd69 rfl) rfl (by show 2 * 0 + _ ≤ _; exact Nat.le_of_eq rfl) (hb hby d3_50) (fun _ _ => ⟨rfl, e0, (by decide : 0 + 0 ≤ _), (by decide : 0 + 0 ≤ _)⟩)
        dsimp only [Pt.U, Pt.locs, Pt.cells, Pt.slots] at X58 l58 y58 z58 st58 hQ58
        subst l58 y58 z58
        obtain ⟨rfl, Nq58, eh58⟩ := hQ58
        have N58 := Fr.app N0 Nq58
        refine own_by (fun _ k => st58 _ k) ?_
        show own_Fin p e below s _ _ _ T58 (mkF m 53 #[.val (.ref a1), .val (.int (5 : Int32)), .val (.int (2 : Int32)), .val (.int (3 : Int32)), .unset] [(.int (own_seq (v2 &&& (255 : Int32)))), (.int (3 : Int32))])
        by_cases hc53_59 : (3 : Int32) < (own_seq (v2 &&& (255 : Int32)))
        · show own_Fin p e below s _ _ _ T58 (mkF m 53 #[.val (.ref a1), .val (.int (5 : Int32)), .val (.int (2 : Int32)), .val (.int (3 : Int32)), .unset] [(.int (own_seq (v2 &&& (255 : Int32)))), (.int (3 : Int32))])
          refine own_by (fun _ k => XS.icmpNo X58.here hx rfl (hb hby d3_53) rfl (tlt hc53_59).2.1 k) ?_
          show own_Fin p e below s _ _ _ T58 (mkF m 56 #[.val (.ref a1), .val (.int (5 : Int32)), .val (.int (2 : Int32)), .val (.int (3 : Int32)), .unset] [])
          refine own_by (fun _ k => XS.iconst X58.here hx rfl (hb hby d3_56) (XS.goto X58.here hx rfl (pc0 := 57) (pc' := 61) rfl (hb hby d3_57) (by decide) (by decide) (XS.istore X58.here hx rfl (hb hby d3_61) rfl (l' := #[.val (.ref a1), .val (.int (5 : Int32)), .val (.int (2 : Int32)), .val (.int (3 : Int32)), .val (.int (1 : Int32))]) rfl (XS.iload X58.here hx rfl (hb hby d3_63) rfl k)))) ?_
          show own_Fin p e below s _ _ _ T58 (mkF m 65 #[.val (.ref a1), .val (.int (5 : Int32)), .val (.int (2 : Int32)), .val (.int (3 : Int32)), .val (.int (1 : Int32))] [(.int (1 : Int32))])
          refine own_by (fun _ k => XS.ifNo X58.here hx rfl (hb hby d3_65) rfl ((if0 _ _).trans (feq (by decide : ¬ ((1 : Int32) = (0 : Int32)))).1) k) ?_
          show own_Fin p e below s _ _ _ T58 (mkF m 68 #[.val (.ref a1), .val (.int (5 : Int32)), .val (.int (2 : Int32)), .val (.int (3 : Int32)), .val (.int (1 : Int32))] [])
          refine own_by (fun _ k => XS.iloadN X58.here hx rfl (hb hby d3_68) rfl (XS.goto X58.here hx rfl (pc0 := 69) (pc' := 73) rfl (hb hby d3_69) (by decide) (by decide) k)) ?_
          show own_Fin p e below s _ _ _ T58 (mkF m 73 #[.val (.ref a1), .val (.int (5 : Int32)), .val (.int (2 : Int32)), .val (.int (3 : Int32)), .val (.int (1 : Int32))] [(.int (3 : Int32))])
          exact own_retI X58 hx hlk hret (hb hby d3_73) ⟨own_vi (by show (3 : Int32) = _; first | (simp only [own_tl1, own_tl2, own_tl3, own_tl4, hc25_49, hc25_51, hc25_53, hc53_59, if_true, if_false]; done) | (simp only [own_tl1, own_tl2, own_tl3, own_tl4, hc25_49, hc25_51, hc25_53, hc53_59, if_true, if_false]; decide) | simp [own_tl1, own_tl2, own_tl3, own_tl4, hc25_49, hc25_51, hc25_53, hc53_59]), N58, eh58⟩ (by decide) (by decide)
        · show own_Fin p e below s _ _ _ T58 (mkF m 53 #[.val (.ref a1), .val (.int (5 : Int32)), .val (.int (2 : Int32)), .val (.int (3 : Int32)), .unset] [(.int (own_seq (v2 &&& (255 : Int32)))), (.int (3 : Int32))])
          refine own_by (fun _ k => XS.icmpYes X58.here hx rfl (pc0 := 53) (pc' := 60) rfl (hb hby d3_53) rfl (flt hc53_59).2.1 (by decide) (by decide) k) ?_
          show own_Fin p e below s _ _ _ T58 (mkF m 60 #[.val (.ref a1), .val (.int (5 : Int32)), .val (.int (2 : Int32)), .val (.int (3 : Int32)), .unset] [])
          refine own_by (fun _ k => XS.iconst X58.here hx rfl (hb hby d3_60) (XS.istore X58.here hx rfl (hb hby d3_61) rfl (l' := #[.val (.ref a1), .val (.int (5 : Int32)), .val (.int (2 : Int32)), .val (.int (3 : Int32)), .val (.int (0 : Int32))]) rfl (XS.iload X58.here hx rfl (hb hby d3_63) rfl k))) ?_
          show own_Fin p e below s _ _ _ T58 (mkF m 65 #[.val (.ref a1), .val (.int (5 : Int32)), .val (.int (2 : Int32)), .val (.int (3 : Int32)), .val (.int (0 : Int32))] [(.int (0 : Int32))])
          refine own_by (fun _ k => XS.ifYes X58.here hx rfl (pc0 := 65) (pc' := 72) rfl (hb hby d3_65) rfl ((if0 _ _).trans (teq (by decide : (0 : Int32) = (0 : Int32))).1) (by decide) (by decide) k) ?_
          show own_Fin p e below s _ _ _ T58 (mkF m 72 #[.val (.ref a1), .val (.int (5 : Int32)), .val (.int (2 : Int32)), .val (.int (3 : Int32)), .val (.int (0 : Int32))] [])
          refine own_by (fun _ k => XS.iconst X58.here hx rfl (hb hby d3_72) k) ?_
          show own_Fin p e below s _ _ _ T58 (mkF m 73 #[.val (.ref a1), .val (.int (5 : Int32)), .val (.int (2 : Int32)), .val (.int (3 : Int32)), .val (.int (0 : Int32))] [(.int (0 : Int32))])
          exact own_retI X58 hx hlk hret (hb hby d3_73) ⟨own_vi (by show (0 : Int32) = _; first | (simp only [own_tl1, own_tl2, own_tl3, own_tl4, hc25_49, hc25_51, hc25_53, hc53_59, if_true, if_false]; done) | (simp only [own_tl1, own_tl2, own_tl3, own_tl4, hc25_49, hc25_51, hc25_53, hc53_59, if_true, if_false]; decide) | simp [own_tl1, own_tl2, own_tl3, own_tl4, hc25_49, hc25_51, hc25_53, hc53_59]), N58, eh58⟩ (by decide) (by decide)
    · show own_Fin p e below s _ _ _ s₁ (mkF m 25 #[.val (.ref a1), .val (.int (5 : Int32)), .val (.int (3 : Int32)), .unset, .unset] [(.int (128 : Int32)), (.int (v3 &&& (192 : Int32)))])
      refine own_by (fun _ k => XS.icmpYes X0.here hx rfl (pc0 := 25) (pc' := 34) rfl (hb hby d3_25) rfl (feq hc25_51).2 (by decide) (by decide) k) ?_
      show own_Fin p e below s _ _ _ s₁ (mkF m 34 #[.val (.ref a1), .val (.int (5 : Int32)), .val (.int (3 : Int32)), .unset, .unset] [])
      refine own_by (fun _ k => XS.iloadN X0.here hx rfl (hb hby d3_34) rfl (XS.iloadN X0.here hx rfl (hb hby d3_35) rfl (XS.isub X0.here hx rfl (hb hby d3_36) rfl k))) ?_
      show own_Fin p e below s _ _ _ s₁ (mkF m 37 #[.val (.ref a1), .val (.int (5 : Int32)), .val (.int (3 : Int32)), .unset, .unset] [(.int ((5 : Int32) - (3 : Int32)))])
      rw [(by decide : ((5 : Int32) - (3 : Int32)) = (2 : Int32))]
      show own_Fin p e below s _ _ _ s₁ (mkF m 37 #[.val (.ref a1), .val (.int (5 : Int32)), .val (.int (3 : Int32)), .unset, .unset] [(.int (2 : Int32))])
      refine own_by (fun _ k => XS.istoreN X0.here hx rfl (hb hby d3_37) rfl (l' := #[.val (.ref a1), .val (.int (5 : Int32)), .val (.int (3 : Int32)), .val (.int (2 : Int32)), .unset]) rfl (XS.iloadN X0.here hx rfl (hb hby d3_38) rfl k)) ?_
      show own_Fin p e below s _ _ _ s₁ (mkF m 39 #[.val (.ref a1), .val (.int (5 : Int32)), .val (.int (3 : Int32)), .val (.int (2 : Int32)), .unset] [(.int (3 : Int32))])
      refine own_by (fun _ k => XS.ifNo X0.here hx rfl (hb hby d3_39) rfl ((if0 _ _).trans (flt (by decide : ¬ ((3 : Int32) < (0 : Int32)))).1) k) ?_
      show own_Fin p e below s _ _ _ s₁ (mkF m 42 #[.val (.ref a1), .val (.int (5 : Int32)), .val (.int (3 : Int32)), .val (.int (2 : Int32)), .unset] [])
      refine own_by (fun _ k => XS.iloadN X0.here hx rfl (hb hby d3_42) rfl (XS.aloadN X0.here hx rfl (hb hby d3_43) rfl rfl (XS.iloadN X0.here hx rfl (hb hby d3_44) rfl k))) ?_
      show own_Fin p e below s _ _ _ s₁ (mkF m 45 #[.val (.ref a1), .val (.int (5 : Int32)), .val (.int (3 : Int32)), .val (.int (2 : Int32)), .unset] [(.int (3 : Int32)), (.ref a1), (.int (2 : Int32))])
      obtain ⟨cl60, Ar60, -, S60, M60, H60, -⟩ := id V1
      have hin60 : ¬ ((3 : Int32) < 0 ∨ cl60.slots.size ≤ ((3 : Int32)).toNatClampNeg) := inb_of S60 ⟨by decide, by decide⟩
      have hat60 : cl60.slots[((3 : Int32)).toNatClampNeg]? = some (.int v3) := Has.at H60 hin60 rfl
      refine own_by (fun _ k => X0.baloadBytes hx (j := (3 : Int32)) (v := (.int v3)) (by rw [e0]; exact Ar60.1) (State.isArrayOf_alike hZ.alike Ar60.2.1) Ar60.2.2 hin60 hat60 (g := (mkF m 45 #[.val (.ref a1), .val (.int (5 : Int32)), .val (.int (3 : Int32)), .val (.int (2 : Int32)), .unset] [(.int (3 : Int32)), (.ref a1), (.int (2 : Int32))])) rfl rfl (hb hby d3_45) _ k) ?_
      show own_Fin p e below s _ _ _ s₁ (mkF m 46 #[.val (.ref a1), .val (.int (5 : Int32)), .val (.int (3 : Int32)), .val (.int (2 : Int32)), .unset] [(.int v3), (.int (2 : Int32))])
      refine own_by (fun _ k => XS.sipush X0.here hx rfl (hb hby d3_46) (XS.iand X0.here hx rfl (hb hby d3_49) rfl k)) ?_
      show own_Fin p e below s _ _ _ s₁ (mkF m 50 #[.val (.ref a1), .val (.int (5 : Int32)), .val (.int (3 : Int32)), .val (.int (2 : Int32)), .unset] [(.int (v3 &&& (255 : Int32))), (.int (2 : Int32))])
      obtain ⟨_, _, ⟨T61, L61, k61, n61⟩, -, X61, ⟨Lc61, hQ61, l61, y61, z61⟩, st61⟩ := Jvm.LawKit.callS X0 hx (y := (⟨"com/example/munka/munka/util/Utf8", "sequenceLength", "(I)I"⟩ : MethodName)) hown (mvT hZ (hw _ (List.mem_of_getElem? (i := 13) rfl))) (mvT hZ (hw _ (List.mem_of_getElem? (i := 14) rfl))) (mvT hZ (hw _ (List.mem_of_getElem? (i := 11) rfl))) (mvT hZ (hw _ (List.mem_of_getElem? (i := 15) rfl))) (by decide) (backOf (W := 1) (rm4 l Z a0 hw [] (v3 &&& (255 : Int32)) h0 n0 Z0 ) hZ (hw _ (List.mem_of_getElem? (i := 15) rfl)) (hw _ (List.mem_of_getElem? (i := 11) rfl)) (by decide) (by decide)) (g := (mkF m 50 #[.val (.ref a1), .val (.int (5 : Int32)), .val (.int (3 : Int32)), .val (.int (2 : Int32)), .unset] [(.int (v3 &&& (255 : Int32))), (.int (2 : Int32))])) rfl (by rw [hml]; rfl) (argsL := [(.int (v3 &&& (255 : Int32)))]) (rest := [(.int (2 : Int32))]) (lenOf own_pd69 rfl) rfl (by show 2 * 0 + _ ≤ _; exact Nat.le_of_eq rfl) (hb hby d3_50) (fun _ _ => ⟨rfl, e0, (by decide : 0 + 0 ≤ _), (by decide : 0 + 0 ≤ _)⟩)
      dsimp only [Pt.U, Pt.locs, Pt.cells, Pt.slots] at X61 l61 y61 z61 st61 hQ61
      subst l61 y61 z61
      obtain ⟨rfl, Nq61, eh61⟩ := hQ61
      have N61 := Fr.app N0 Nq61
      refine own_by (fun _ k => st61 _ k) ?_
      show own_Fin p e below s _ _ _ T61 (mkF m 53 #[.val (.ref a1), .val (.int (5 : Int32)), .val (.int (3 : Int32)), .val (.int (2 : Int32)), .unset] [(.int (own_seq (v3 &&& (255 : Int32)))), (.int (2 : Int32))])
      by_cases hc53_62 : (2 : Int32) < (own_seq (v3 &&& (255 : Int32)))
      · show own_Fin p e below s _ _ _ T61 (mkF m 53 #[.val (.ref a1), .val (.int (5 : Int32)), .val (.int (3 : Int32)), .val (.int (2 : Int32)), .unset] [(.int (own_seq (v3 &&& (255 : Int32)))), (.int (2 : Int32))])
        refine own_by (fun _ k => XS.icmpNo X61.here hx rfl (hb hby d3_53) rfl (tlt hc53_62).2.1 k) ?_
        show own_Fin p e below s _ _ _ T61 (mkF m 56 #[.val (.ref a1), .val (.int (5 : Int32)), .val (.int (3 : Int32)), .val (.int (2 : Int32)), .unset] [])
        refine own_by (fun _ k => XS.iconst X61.here hx rfl (hb hby d3_56) (XS.goto X61.here hx rfl (pc0 := 57) (pc' := 61) rfl (hb hby d3_57) (by decide) (by decide) (XS.istore X61.here hx rfl (hb hby d3_61) rfl (l' := #[.val (.ref a1), .val (.int (5 : Int32)), .val (.int (3 : Int32)), .val (.int (2 : Int32)), .val (.int (1 : Int32))]) rfl (XS.iload X61.here hx rfl (hb hby d3_63) rfl k)))) ?_
        show own_Fin p e below s _ _ _ T61 (mkF m 65 #[.val (.ref a1), .val (.int (5 : Int32)), .val (.int (3 : Int32)), .val (.int (2 : Int32)), .val (.int (1 : Int32))] [(.int (1 : Int32))])
        refine own_by (fun _ k => XS.ifNo X61.here hx rfl (hb hby d3_65) rfl ((if0 _ _).trans (feq (by decide : ¬ ((1 : Int32) = (0 : Int32)))).1) k) ?_
        show own_Fin p e below s _ _ _ T61 (mkF m 68 #[.val (.ref a1), .val (.int (5 : Int32)), .val (.int (3 : Int32)), .val (.int (2 : Int32)), .val (.int (1 : Int32))] [])
        refine own_by (fun _ k => XS.iloadN X61.here hx rfl (hb hby d3_68) rfl (XS.goto X61.here hx rfl (pc0 := 69) (pc' := 73) rfl (hb hby d3_69) (by decide) (by decide) k)) ?_
        show own_Fin p e below s _ _ _ T61 (mkF m 73 #[.val (.ref a1), .val (.int (5 : Int32)), .val (.int (3 : Int32)), .val (.int (2 : Int32)), .val (.int (1 : Int32))] [(.int (2 : Int32))])
        exact own_retI X61 hx hlk hret (hb hby d3_73) ⟨own_vi (by show (2 : Int32) = _; first | (simp only [own_tl1, own_tl2, own_tl3, own_tl4, hc25_49, hc25_51, hc53_62, if_true, if_false]; done) | (simp only [own_tl1, own_tl2, own_tl3, own_tl4, hc25_49, hc25_51, hc53_62, if_true, if_false]; decide) | simp [own_tl1, own_tl2, own_tl3, own_tl4, hc25_49, hc25_51, hc53_62]), N61, eh61⟩ (by decide) (by decide)
      · show own_Fin p e below s _ _ _ T61 (mkF m 53 #[.val (.ref a1), .val (.int (5 : Int32)), .val (.int (3 : Int32)), .val (.int (2 : Int32)), .unset] [(.int (own_seq (v3 &&& (255 : Int32)))), (.int (2 : Int32))])
        refine own_by (fun _ k => XS.icmpYes X61.here hx rfl (pc0 := 53) (pc' := 60) rfl (hb hby d3_53) rfl (flt hc53_62).2.1 (by decide) (by decide) k) ?_
        show own_Fin p e below s _ _ _ T61 (mkF m 60 #[.val (.ref a1), .val (.int (5 : Int32)), .val (.int (3 : Int32)), .val (.int (2 : Int32)), .unset] [])
        refine own_by (fun _ k => XS.iconst X61.here hx rfl (hb hby d3_60) (XS.istore X61.here hx rfl (hb hby d3_61) rfl (l' := #[.val (.ref a1), .val (.int (5 : Int32)), .val (.int (3 : Int32)), .val (.int (2 : Int32)), .val (.int (0 : Int32))]) rfl (XS.iload X61.here hx rfl (hb hby d3_63) rfl k))) ?_
        show own_Fin p e below s _ _ _ T61 (mkF m 65 #[.val (.ref a1), .val (.int (5 : Int32)), .val (.int (3 : Int32)), .val (.int (2 : Int32)), .val (.int (0 : Int32))] [(.int (0 : Int32))])
        refine own_by (fun _ k => XS.ifYes X61.here hx rfl (pc0 := 65) (pc' := 72) rfl (hb hby d3_65) rfl ((if0 _ _).trans (teq (by decide : (0 : Int32) = (0 : Int32))).1) (by decide) (by decide) k) ?_
        show own_Fin p e below s _ _ _ T61 (mkF m 72 #[.val (.ref a1), .val (.int (5 : Int32)), .val (.int (3 : Int32)), .val (.int (2 : Int32)), .val (.int (0 : Int32))] [])
        refine own_by (fun _ k => XS.iconst X61.here hx rfl (hb hby d3_72) k) ?_
        show own_Fin p e below s _ _ _ T61 (mkF m 73 #[.val (.ref a1), .val (.int (5 : Int32)), .val (.int (3 : Int32)), .val (.int (2 : Int32)), .val (.int (0 : Int32))] [(.int (0 : Int32))])
        exact own_retI X61 hx hlk hret (hb hby d3_73) ⟨own_vi (by show (0 : Int32) = _; first | (simp only [own_tl1, own_tl2, own_tl3, own_tl4, hc25_49, hc25_51, hc53_62, if_true, if_false]; done) | (simp only [own_tl1, own_tl2, own_tl3, own_tl4, hc25_49, hc25_51, hc53_62, if_true, if_false]; decide) | simp [own_tl1, own_tl2, own_tl3, own_tl4, hc25_49, hc25_51, hc53_62]), N61, eh61⟩ (by decide) (by decide)
  · show own_Fin p e below s _ _ _ s₁ (mkF m 25 #[.val (.ref a1), .val (.int (5 : Int32)), .val (.int (4 : Int32)), .unset, .unset] [(.int (128 : Int32)), (.int (v4 &&& (192 : Int32)))])
    refine own_by (fun _ k => XS.icmpYes X0.here hx rfl (pc0 := 25) (pc' := 34) rfl (hb hby d3_25) rfl (feq hc25_49).2 (by decide) (by decide) k) ?_
    show own_Fin p e below s _ _ _ s₁ (mkF m 34 #[.val (.ref a1), .val (.int (5 : Int32)), .val (.int (4 : Int32)), .unset, .unset] [])
    refine own_by (fun _ k => XS.iloadN X0.here hx rfl (hb hby d3_34) rfl (XS.iloadN X0.here hx rfl (hb hby d3_35) rfl (XS.isub X0.here hx rfl (hb hby d3_36) rfl k))) ?_
    show own_Fin p e below s _ _ _ s₁ (mkF m 37 #[.val (.ref a1), .val (.int (5 : Int32)), .val (.int (4 : Int32)), .unset, .unset] [(.int ((5 : Int32) - (4 : Int32)))])
    rw [(by decide : ((5 : Int32) - (4 : Int32)) = (1 : Int32))]
    show own_Fin p e below s _ _ _ s₁ (mkF m 37 #[.val (.ref a1), .val (.int (5 : Int32)), .val (.int (4 : Int32)), .unset, .unset] [(.int (1 : Int32))])
    refine own_by (fun _ k => XS.istoreN X0.here hx rfl (hb hby d3_37) rfl (l' := #[.val (.ref a1), .val (.int (5 : Int32)), .val (.int (4 : Int32)), .val (.int (1 : Int32)), .unset]) rfl (XS.iloadN X0.here hx rfl (hb hby d3_38) rfl k)) ?_
    show own_Fin p e below s _ _ _ s₁ (mkF m 39 #[.val (.ref a1), .val (.int (5 : Int32)), .val (.int (4 : Int32)), .val (.int (1 : Int32)), .unset] [(.int (4 : Int32))])
    refine own_by (fun _ k => XS.ifNo X0.here hx rfl (hb hby d3_39) rfl ((if0 _ _).trans (flt (by decide : ¬ ((4 : Int32) < (0 : Int32)))).1) k) ?_
    show own_Fin p e below s _ _ _ s₁ (mkF m 42 #[.val (.ref a1), .val (.int (5 : Int32)), .val (.int (4 : Int32)), .val (.int (1 : Int32)), .unset] [])
    refine own_by (fun _ k => XS.iloadN X0.here hx rfl (hb hby d3_42) rfl (XS.aloadN X0.here hx rfl (hb hby d3_43) rfl rfl (XS.iloadN X0.here hx rfl (hb hby d3_44) rfl k))) ?_
    show own_Fin p e below s _ _ _ s₁ (mkF m 45 #[.val (.ref a1), .val (.int (5 : Int32)), .val (.int (4 : Int32)), .val (.int (1 : Int32)), .unset] [(.int (4 : Int32)), (.ref a1), (.int (1 : Int32))])
    obtain ⟨cl63, Ar63, -, S63, M63, H63, -⟩ := id V1
    have hin63 : ¬ ((4 : Int32) < 0 ∨ cl63.slots.size ≤ ((4 : Int32)).toNatClampNeg) := inb_of S63 ⟨by decide, by decide⟩
    have hat63 : cl63.slots[((4 : Int32)).toNatClampNeg]? = some (.int v4) := Has.at H63 hin63 rfl
    refine own_by (fun _ k => X0.baloadBytes hx (j := (4 : Int32)) (v := (.int v4)) (by rw [e0]; exact Ar63.1) (State.isArrayOf_alike hZ.alike Ar63.2.1) Ar63.2.2 hin63 hat63 (g := (mkF m 45 #[.val (.ref a1), .val (.int (5 : Int32)), .val (.int (4 : Int32)), .val (.int (1 : Int32)), .unset] [(.int (4 : Int32)), (.ref a1), (.int (1 : Int32))])) rfl rfl (hb hby d3_45) _ k) ?_
    show own_Fin p e below s _ _ _ s₁ (mkF m 46 #[.val (.ref a1), .val (.int (5 : Int32)), .val (.int (4 : Int32)), .val (.int (1 : Int32)), .unset] [(.int v4), (.int (1 : Int32))])
    refine own_by (fun _ k => XS.sipush X0.here hx rfl (hb hby d3_46) (XS.iand X0.here hx rfl (hb hby d3_49) rfl k)) ?_
    show own_Fin p e below s _ _ _ s₁ (mkF m 50 #[.val (.ref a1), .val (.int (5 : Int32)), .val (.int (4 : Int32)), .val (.int (1 : Int32)), .unset] [(.int (v4 &&& (255 : Int32))), (.int (1 : Int32))])
    obtain ⟨_, _, ⟨T64, L64, k64, n64⟩, -, X64, ⟨Lc64, hQ64, l64, y64, z64⟩, st64⟩ := Jvm.LawKit.callS X0 hx (y := (⟨"com/example/munka/munka/util/Utf8", "sequenceLength", "(I)I"⟩ : MethodName)) hown (mvT hZ (hw _ (List.mem_of_getElem? (i := 13) rfl))) (mvT hZ (hw _ (List.mem_of_getElem? (i := 14) rfl))) (mvT hZ (hw _ (List.mem_of_getElem? (i := 11) rfl))) (mvT hZ (hw _ (List.mem_of_getElem? (i := 15) rfl))) (by decide) (backOf (W := 1) (rm4 l Z a0 hw [] (v4 &&& (255 : Int32)) h0 n0 Z0 ) hZ (hw _ (List.mem_of_getElem? (i := 15) rfl)) (hw _ (List.mem_of_getElem? (i := 11) rfl)) (by decide) (by decide)) (g := (mkF m 50 #[.val (.ref a1), .val (.int (5 : Int32)), .val (.int (4 : Int32)), .val (.int (1 : Int32)), .unset] [(.int (v4 &&& (255 : Int32))), (.int (1 : Int32))])) rfl (by rw [hml]; rfl) (argsL := [(.int (v4 &&& (255 : Int32)))]) (rest := [(.int (1 : Int32))]) (lenOf own_pd69 rfl) rfl (by show 2 * 0 + _ ≤ _; exact Nat.le_of_eq rfl) (hb hby d3_50) (fun _ _ => ⟨rfl, e0, (by decide : 0 + 0 ≤ _), (by decide : 0 + 0 ≤ _)⟩)
    dsimp only [Pt.U, Pt.locs, Pt.cells, Pt.slots] at X64 l64 y64 z64 st64 hQ64
    subst l64 y64 z64
    obtain ⟨rfl, Nq64, eh64⟩ := hQ64
    have N64 := Fr.app N0 Nq64
    refine own_by (fun _ k => st64 _ k) ?_
    show own_Fin p e below s _ _ _ T64 (mkF m 53 #[.val (.ref a1), .val (.int (5 : Int32)), .val (.int (4 : Int32)), .val (.int (1 : Int32)), .unset] [(.int (own_seq (v4 &&& (255 : Int32)))), (.int (1 : Int32))])
    by_cases hc53_65 : (1 : Int32) < (own_seq (v4 &&& (255 : Int32)))
    · show own_Fin p e below s _ _ _ T64 (mkF m 53 #[.val (.ref a1), .val (.int (5 : Int32)), .val (.int (4 : Int32)), .val (.int (1 : Int32)), .unset] [(.int (own_seq (v4 &&& (255 : Int32)))), (.int (1 : Int32))])
      refine own_by (fun _ k => XS.icmpNo X64.here hx rfl (hb hby d3_53) rfl (tlt hc53_65).2.1 k) ?_
      show own_Fin p e below s _ _ _ T64 (mkF m 56 #[.val (.ref a1), .val (.int (5 : Int32)), .val (.int (4 : Int32)), .val (.int (1 : Int32)), .unset] [])
      refine own_by (fun _ k => XS.iconst X64.here hx rfl (hb hby d3_56) (XS.goto X64.here hx rfl (pc0 := 57) (pc' := 61) rfl (hb hby d3_57) (by decide) (by decide) (XS.istore X64.here hx rfl (hb hby d3_61) rfl (l' := #[.val (.ref a1), .val (.int (5 : Int32)), .val (.int (4 : Int32)), .val (.int (1 : Int32)), .val (.int (1 : Int32))]) rfl (XS.iload X64.here hx rfl (hb hby d3_63) rfl k)))) ?_
      show own_Fin p e below s _ _ _ T64 (mkF m 65 #[.val (.ref a1), .val (.int (5 : Int32)), .val (.int (4 : Int32)), .val (.int (1 : Int32)), .val (.int (1 : Int32))] [(.int (1 : Int32))])
      refine own_by (fun _ k => XS.ifNo X64.here hx rfl (hb hby d3_65) rfl ((if0 _ _).trans (feq (by decide : ¬ ((1 : Int32) = (0 : Int32)))).1) k) ?_
      show own_Fin p e below s _ _ _ T64 (mkF m 68 #[.val (.ref a1), .val (.int (5 : Int32)), .val (.int (4 : Int32)), .val (.int (1 : Int32)), .val (.int (1 : Int32))] [])
      refine own_by (fun _ k => XS.iloadN X64.here hx rfl (hb hby d3_68) rfl (XS.goto X64.here hx rfl (pc0 := 69) (pc' := 73) rfl (hb hby d3_69) (by decide) (by decide) k)) ?_
      show own_Fin p e below s _ _ _ T64 (mkF m 73 #[.val (.ref a1), .val (.int (5 : Int32)), .val (.int (4 : Int32)), .val (.int (1 : Int32)), .val (.int (1 : Int32))] [(.int (1 : Int32))])
      exact own_retI X64 hx hlk hret (hb hby d3_73) ⟨own_vi (by show (1 : Int32) = _; first | (simp only [own_tl1, own_tl2, own_tl3, own_tl4, hc25_49, hc53_65, if_true, if_false]; done) | (simp only [own_tl1, own_tl2, own_tl3, own_tl4, hc25_49, hc53_65, if_true, if_false]; decide) | simp [own_tl1, own_tl2, own_tl3, own_tl4, hc25_49, hc53_65]), N64, eh64⟩ (by decide) (by decide)
    · show own_Fin p e below s _ _ _ T64 (mkF m 53 #[.val (.ref a1), .val (.int (5 : Int32)), .val (.int (4 : Int32)), .val (.int (1 : Int32)), .unset] [(.int (own_seq (v4 &&& (255 : Int32)))), (.int (1 : Int32))])
      refine own_by (fun _ k => XS.icmpYes X64.here hx rfl (pc0 := 53) (pc' := 60) rfl (hb hby d3_53) rfl (flt hc53_65).2.1 (by decide) (by decide) k) ?_
      show own_Fin p e below s _ _ _ T64 (mkF m 60 #[.val (.ref a1), .val (.int (5 : Int32)), .val (.int (4 : Int32)), .val (.int (1 : Int32)), .unset] [])
      refine own_by (fun _ k => XS.iconst X64.here hx rfl (hb hby d3_60) (XS.istore X64.here hx rfl (hb hby d3_61) rfl (l' := #[.val (.ref a1), .val (.int (5 : Int32)), .val (.int (4 : Int32)), .val (.int (1 : Int32)), .val (.int (0 : Int32))]) rfl (XS.iload X64.here hx rfl (hb hby d3_63) rfl k))) ?_
      show own_Fin p e below s _ _ _ T64 (mkF m 65 #[.val (.ref a1), .val (.int (5 : Int32)), .val (.int (4 : Int32)), .val (.int (1 : Int32)), .val (.int (0 : Int32))] [(.int (0 : Int32))])
      refine own_by (fun _ k => XS.ifYes X64.here hx rfl (pc0 := 65) (pc' := 72) rfl (hb hby d3_65) rfl ((if0 _ _).trans (teq (by decide : (0 : Int32) = (0 : Int32))).1) (by decide) (by decide) k) ?_
      show own_Fin p e below s _ _ _ T64 (mkF m 72 #[.val (.ref a1), .val (.int (5 : Int32)), .val (.int (4 : Int32)), .val (.int (1 : Int32)), .val (.int (0 : Int32))] [])
      refine own_by (fun _ k => XS.iconst X64.here hx rfl (hb hby d3_72) k) ?_
      show own_Fin p e below s _ _ _ T64 (mkF m 73 #[.val (.ref a1), .val (.int (5 : Int32)), .val (.int (4 : Int32)), .val (.int (1 : Int32)), .val (.int (0 : Int32))] [(.int (0 : Int32))])
      exact own_retI X64 hx hlk hret (hb hby d3_73) ⟨own_vi (by show (0 : Int32) = _; first | (simp only [own_tl1, own_tl2, own_tl3, own_tl4, hc25_49, hc53_65, if_true, if_false]; done) | (simp only [own_tl1, own_tl2, own_tl3, own_tl4, hc25_49, hc53_65, if_true, if_false]; decide) | simp [own_tl1, own_tl2, own_tl3, own_tl4, hc25_49, hc53_65]), N64, eh64⟩ (by decide) (by decide)
theorem ef_rmT6 (m : MethodId) (x0 : Addr) (x1 : Int32) : entryFrame m #[(.ref x0), (.int x1)] 5 = mkF m 0 #[.val (.ref x0), .val (.int x1), .unset, .unset, .unset] [] := by first | (simp [entryFrame, mkF, argsToLocals, Value.category]; done) | rfl
def own_QT6 (v0 v1 v2 v3 v4 v5 v6 v7 : Int32) (h0 : Heap) (n0 : Nat) (v : Option Value) (h : Heap) (L : List Loc) : Prop := v = some (.int ((own_tl4 v5 v4 v3 v2))) ∧ Fr n0 L ∧ h = h0
set_option maxRecDepth 65536 in
set_option maxHeartbeats 40000000 in
theorem rmT6 (l : Launch) (Z : State) (a0 : Array Value) (hw : ∀ d ∈ tables_1, d.before a0 Z = true) (ws : List Jvm.Cond) (a1 : Addr) (k : ClassId) (v0 v1 v2 v3 v4 v5 v6 v7 : Int32) (h0 : Heap) (n0 : Nat) (Z0 : n0 ≤ h0.size) (V1 : Arv Z h0 a1 k .byte (8 : Int32) [(.int v0), (.int v1), (.int v2), (.int v3), (.int v4), (.int v5), (.int v6), (.int v7)] (.int (0 : Int32))) : own_Met l Z (⟨"com/example/munka/munka/util/Utf8", "unfinishedTail", "([BI)I"⟩ : MethodName) prog_43_method_4_code 5 (some .int) ws (own_R 1 0 0 16) #[(.ref a1), (.int (6 : Int32))] h0 (own_QT6 v0 v1 v2 v3 v4 v5 v6 v7 h0 n0) := by
  refine own_enter n0 own_pn12 (fun m => ef_rmT6 m a1 (6 : Int32) ) (fun p e s m below meth c s₁ hx hby hlk hml hret hown hnm hZ X0 e0 N0 => ?_)
  show own_Fin p e below s _ _ _ s₁ (mkF m 0 #[.val (.ref a1), .val (.int (6 : Int32)), .unset, .unset, .unset] [])
  refine own_by (fun _ k => XS.iloadN X0.here hx rfl (hb hby d3_0) rfl (XS.iconst X0.here hx rfl (hb hby d3_1) (XS.isub X0.here hx rfl (hb hby d3_2) rfl k))) ?_
  show own_Fin p e below s _ _ _ s₁ (mkF m 3 #[.val (.ref a1), .val (.int (6 : Int32)), .unset, .unset, .unset] [(.int ((6 : Int32) - (1 : Int32)))])
  rw [(by decide : ((6 : Int32) - (1 : Int32)) = (5 : Int32))]
  show own_Fin p e below s _ _ _ s₁ (mkF m 3 #[.val (.ref a1), .val (.int (6 : Int32)), .unset, .unset, .unset] [(.int (5 : Int32))])
  refine own_by (fun _ k => XS.istoreN X0.here hx rfl (hb hby d3_3) rfl (l' := #[.val (.ref a1), .val (.int (6 : Int32)), .val (.int (5 : Int32)), .unset, .unset]) rfl (XS.iloadN X0.here hx rfl (hb hby d3_4) rfl k)) ?_
  show own_Fin p e below s _ _ _ s₁ (mkF m 5 #[.val (.ref a1), .val (.int (6 : Int32)), .val (.int (5 : Int32)), .unset, .unset] [(.int (5 : Int32))])
  refine own_by (fun _ k => XS.ifNo X0.here hx rfl (hb hby d3_5) rfl ((if0 _ _).trans (tlt (by decide : (0 : Int32) < (5 : Int32))).2.2.2) k) ?_
  show own_Fin p e below s _ _ _ s₁ (mkF m 8 #[.val (.ref a1), .val (.int (6 : Int32)), .val (.int (5 : Int32)), .unset, .unset] [])
  refine own_by (fun _ k => XS.iloadN X0.here hx rfl (hb hby d3_8) rfl (XS.iloadN X0.here hx rfl (hb hby d3_9) rfl (XS.iconst X0.here hx rfl (hb hby d3_10) (XS.isub X0.here hx rfl (hb hby d3_11) rfl k)))) ?_
  show own_Fin p e below s _ _ _ s₁ (mkF m 12 #[.val (.ref a1), .val (.int (6 : Int32)), .val (.int (5 : Int32)), .unset, .unset] [(.int ((6 : Int32) - (4 : Int32))), (.int (5 : Int32))])
  rw [(by decide : ((6 : Int32) - (4 : Int32)) = (2 : Int32))]
  show own_Fin p e below s _ _ _ s₁ (mkF m 12 #[.val (.ref a1), .val (.int (6 : Int32)), .val (.int (5 : Int32)), .unset, .unset] [(.int (2 : Int32)), (.int (5 : Int32))])
  refine own_by (fun _ k => XS.icmpNo X0.here hx rfl (hb hby d3_12) rfl (tlt (by decide : (2 : Int32) < (5 : Int32))).2.2.2 k) ?_
  show own_Fin p e below s _ _ _ s₁ (mkF m 15 #[.val (.ref a1), .val (.int (6 : Int32)), .val (.int (5 : Int32)), .unset, .unset] [])
  refine own_by (fun _ k => XS.aloadN X0.here hx rfl (hb hby d3_15) rfl rfl (XS.iloadN X0.here hx rfl (hb hby d3_16) rfl k)) ?_
  show own_Fin p e below s _ _ _ s₁ (mkF m 17 #[.val (.ref a1), .val (.int (6 : Int32)), .val (.int (5 : Int32)), .unset, .unset] [(.int (5 : Int32)), (.ref a1)])
  obtain ⟨cl66, Ar66, -, S66, M66, H66, -⟩ := id V1
  have hin66 : ¬ ((5 : Int32) < 0 ∨ cl66.slots.size ≤ ((5 : Int32)).toNatClampNeg) := inb_of S66 ⟨by decide, by decide⟩
  have hat66 : cl66.slots[((5 : Int32)).toNatClampNeg]? = some (.int v5) := Has.at H66 hin66 rfl
  refine own_by (fun _ k => X0.baloadBytes hx (j := (5 : Int32)) (v := (.int v5)) (by rw [e0]; exact Ar66.1) (State.isArrayOf_alike hZ.alike Ar66.2.1) Ar66.2.2 hin66 hat66 (g := (mkF m 17 #[.val (.ref a1), .val (.int (6 : Int32)), .val (.int (5 : Int32)), .unset, .unset] [(.int (5 : Int32)), (.ref a1)])) rfl rfl (hb hby d3_17) _ k) ?_
  show own_Fin p e below s _ _ _ s₁ (mkF m 18 #[.val (.ref a1), .val (.int (6 : Int32)), .val (.int (5 : Int32)), .unset, .unset] [(.int v5)])
  refine own_by (fun _ k => XS.sipush X0.here hx rfl (hb hby d3_18) (XS.iand X0.here hx rfl (hb hby d3_21) rfl (XS.sipush X0.here hx rfl (hb hby d3_22) k))) ?_
  show own_Fin p e below s _ _ _ s₁ (mkF m 25 #[.val (.ref a1), .val (.int (6 : Int32)), .val (.int (5 : Int32)), .unset, .unset] [(.int (128 : Int32)), (.int (v5 &&& (192 : Int32)))])
  by_cases hc25_67 : (v5 &&& (192 : Int32)) = (128 : Int32)
  · show own_Fin p e below s _ _ _ s₁ (mkF m 25 #[.val (.ref a1), .val (.int (6 : Int32)), .val (.int (5 : Int32)), .unset, .unset] [(.int (128 : Int32)), (.int (v5 &&& (192 : Int32)))])
    refine own_by (fun _ k => XS.icmpNo X0.here hx rfl (hb hby d3_25) rfl (teq hc25_67).2 k) ?_
    show own_Fin p e below s _ _ _ s₁ (mkF m 28 #[.val (.ref a1), .val (.int (6 : Int32)), .val (.int (5 : Int32)), .unset, .unset] [])
    refine own_by (fun _ k => XS.iinc X0.here hx rfl (hb hby d3_28) rfl (l' := #[.val (.ref a1), .val (.int (6 : Int32)), .val (.int ((5 : Int32) + (-1 : Int32))), .unset, .unset]) rfl k) ?_
    show own_Fin p e below s _ _ _ s₁ (mkF m 31 #[.val (.ref a1), .val (.int (6 : Int32)), .val (.int ((5 : Int32) + (-1 : Int32))), .unset, .unset] [])
    rw [(by decide : ((5 : Int32) + (-1 : Int32)) = (4 : Int32))]
    show own_Fin p e below s _ _ _ s₁ (mkF m 31 #[.val (.ref a1), .val (.int (6 : Int32)), .val (.int (4 : Int32)), .unset, .unset] [])
    refine own_by (fun _ k => XS.goto X0.here hx rfl (pc0 := 31) (pc' := 4) rfl (hb hby d3_31) (by decide) (by decide) (XS.iloadN X0.here hx rfl (hb hby d3_4) rfl k)) ?_
    show own_Fin p e below s _ _ _ s₁ (mkF m 5 #[.val (.ref a1), .val (.int (6 : Int32)), .val (.int (4 : Int32)), .unset, .unset] [(.int (4 : Int32))])
    refine own_by (fun _ k => XS.ifNo X0.here hx rfl (hb hby d3_5) rfl ((if0 _ _).trans (tlt (by decide : (0 : Int32) < (4 : Int32))).2.2.2) k) ?_
    show own_Fin p e below s _ _ _ s₁ (mkF m 8 #[.val (.ref a1), .val (.int (6 : Int32)), .val (.int (4 : Int32)), .unset, .unset] [])
    refine own_by (fun _ k => XS.iloadN X0.here hx rfl (hb hby d3_8) rfl (XS.iloadN X0.here hx rfl (hb hby d3_9) rfl (XS.iconst X0.here hx rfl (hb hby d3_10) (XS.isub X0.here hx rfl (hb hby d3_11) rfl k)))) ?_
    show own_Fin p e below s _ _ _ s₁ (mkF m 12 #[.val (.ref a1), .val (.int (6 : Int32)), .val (.int (4 : Int32)), .unset, .unset] [(.int ((6 : Int32) - (4 : Int32))), (.int (4 : Int32))])
    rw [(by decide : ((6 : Int32) - (4 : Int32)) = (2 : Int32))]
    show own_Fin p e below s _ _ _ s₁ (mkF m 12 #[.val (.ref a1), .val (.int (6 : Int32)), .val (.int (4 : Int32)), .unset, .unset] [(.int (2 : Int32)), (.int (4 : Int32))])
    refine own_by (fun _ k => XS.icmpNo X0.here hx rfl (hb hby d3_12) rfl (tlt (by decide : (2 : Int32) < (4 : Int32))).2.2.2 k) ?_
    show own_Fin p e below s _ _ _ s₁ (mkF m 15 #[.val (.ref a1), .val (.int (6 : Int32)), .val (.int (4 : Int32)), .unset, .unset] [])
    refine own_by (fun _ k => XS.aloadN X0.here hx rfl (hb hby d3_15) rfl rfl (XS.iloadN X0.here hx rfl (hb hby d3_16) rfl k)) ?_
    show own_Fin p e below s _ _ _ s₁ (mkF m 17 #[.val (.ref a1), .val (.int (6 : Int32)), .val (.int (4 : Int32)), .unset, .unset] [(.int (4 : Int32)), (.ref a1)])
    obtain ⟨cl68, Ar68, -, S68, M68, H68, -⟩ := id V1
    have hin68 : ¬ ((4 : Int32) < 0 ∨ cl68.slots.size ≤ ((4 : Int32)).toNatClampNeg) := inb_of S68 ⟨by decide, by decide⟩
    have hat68 : cl68.slots[((4 : Int32)).toNatClampNeg]? = some (.int v4) := Has.at H68 hin68 rfl
    refine own_by (fun _ k => X0.baloadBytes hx (j := (4 : Int32)) (v := (.int v4)) (by rw [e0]; exact Ar68.1) (State.isArrayOf_alike hZ.alike Ar68.2.1) Ar68.2.2 hin68 hat68 (g := (mkF m 17 #[.val (.ref a1), .val (.int (6 : Int32)), .val (.int (4 : Int32)), .unset, .unset] [(.int (4 : Int32)), (.ref a1)])) rfl rfl (hb hby d3_17) _ k) ?_
    show own_Fin p e below s _ _ _ s₁ (mkF m 18 #[.val (.ref a1), .val (.int (6 : Int32)), .val (.int (4 : Int32)), .unset, .unset] [(.int v4)])
    refine own_by (fun _ k => XS.sipush X0.here hx rfl (hb hby d3_18) (XS.iand X0.here hx rfl (hb hby d3_21) rfl (XS.sipush X0.here hx rfl (hb hby d3_22) k))) ?_
    show own_Fin p e below s _ _ _ s₁ (mkF m 25 #[.val (.ref a1), .val (.int (6 : Int32)), .val (.int (4 : Int32)), .unset, .unset] [(.int (128 : Int32)), (.int (v4 &&& (192 : Int32)))])
    by_cases hc25_69 : (v4 &&& (192 : Int32)) = (128 : Int32)
    · show own_Fin p e below s _ _ _ s₁ (mkF m 25 #[.val (.ref a1), .val (.int (6 : Int32)), .val (.int (4 : Int32)), .unset, .unset] [(.int (128 : Int32)), (.int (v4 &&& (192 : Int32)))])
      refine own_by (fun _ k => XS.icmpNo X0.here hx rfl (hb hby d3_25) rfl (teq hc25_69).2 k) ?_
      show own_Fin p e below s _ _ _ s₁ (mkF m 28 #[.val (.ref a1), .val (.int (6 : Int32)), .val (.int (4 : Int32)), .unset, .unset] [])
      refine own_by (fun _ k => XS.iinc X0.here hx rfl (hb hby d3_28) rfl (l' := #[.val (.ref a1), .val (.int (6 : Int32)), .val (.int ((4 : Int32) + (-1 : Int32))), .unset, .unset]) rfl k) ?_
      show own_Fin p e below s _ _ _ s₁ (mkF m 31 #[.val (.ref a1), .val (.int (6 : Int32)), .val (.int ((4 : Int32) + (-1 : Int32))), .unset, .unset] [])
      rw [(by decide : ((4 : Int32) + (-1 : Int32)) = (3 : Int32))]
      show own_Fin p e below s _ _ _ s₁ (mkF m 31 #[.val (.ref a1), .val (.int (6 : Int32)), .val (.int (3 : Int32)), .unset, .unset] [])
      refine own_by (fun _ k => XS.goto X0.here hx rfl (pc0 := 31) (pc' := 4) rfl (hb hby d3_31) (by decide) (by decide) (XS.iloadN X0.here hx rfl (hb hby d3_4) rfl k)) ?_
      show own_Fin p e below s _ _ _ s₁ (mkF m 5 #[.val (.ref a1), .val (.int (6 : Int32)), .val (.int (3 : Int32)), .unset, .unset] [(.int (3 : Int32))])
      refine own_by (fun _ k => XS.ifNo X0.here hx rfl (hb hby d3_5) rfl ((if0 _ _).trans (tlt (by decide : (0 : Int32) < (3 : Int32))).2.2.2) k) ?_
      show own_Fin p e below s _ _ _ s₁ (mkF m 8 #[.val (.ref a1), .val (.int (6 : Int32)), .val (.int (3 : Int32)), .unset, .unset] [])
      refine own_by (fun _ k => XS.iloadN X0.here hx rfl (hb hby d3_8) rfl (XS.iloadN X0.here hx rfl (hb hby d3_9) rfl (XS.iconst X0.here hx rfl (hb hby d3_10) (XS.isub X0.here hx rfl (hb hby d3_11) rfl k)))) ?_
      show own_Fin p e below s _ _ _ s₁ (mkF m 12 #[.val (.ref a1), .val (.int (6 : Int32)), .val (.int (3 : Int32)), .unset, .unset] [(.int ((6 : Int32) - (4 : Int32))), (.int (3 : Int32))])
      rw [(by decide : ((6 : Int32) - (4 : Int32)) = (2 : Int32))]
      show own_Fin p e below s _ _ _ s₁ (mkF m 12 #[.val (.ref a1), .val (.int (6 : Int32)), .val (.int (3 : Int32)), .unset, .unset] [(.int (2 : Int32)), (.int (3 : Int32))])
      refine own_by (fun _ k => XS.icmpNo X0.here hx rfl (hb hby d3_12) rfl (tlt (by decide : (2 : Int32) < (3 : Int32))).2.2.2 k) ?_
      show own_Fin p e below s _ _ _ s₁ (mkF m 15 #[.val (.ref a1), .val (.int (6 : Int32)), .val (.int (3 : Int32)), .unset, .unset] [])
      refine own_by (fun _ k => XS.aloadN X0.here hx rfl (hb hby d3_15) rfl rfl (XS.iloadN X0.here hx rfl (hb hby d3_16) rfl k)) ?_
      show own_Fin p e below s _ _ _ s₁ (mkF m 17 #[.val (.ref a1), .val (.int (6 : Int32)), .val (.int (3 : Int32)), .unset, .unset] [(.int (3 : Int32)), (.ref a1)])
      obtain ⟨cl70, Ar70, -, S70, M70, H70, -⟩ := id V1
      have hin70 : ¬ ((3 : Int32) < 0 ∨ cl70.slots.size ≤ ((3 : Int32)).toNatClampNeg) := inb_of S70 ⟨by decide, by decide⟩
      have hat70 : cl70.slots[((3 : Int32)).toNatClampNeg]? = some (.int v3) := Has.at H70 hin70 rfl
      refine own_by (fun _ k => X0.baloadBytes hx (j := (3 : Int32)) (v := (.int v3)) (by rw [e0]; exact Ar70.1) (State.isArrayOf_alike hZ.alike Ar70.2.1) Ar70.2.2 hin70 hat70 (g := (mkF m 17 #[.val (.ref a1), .val (.int (6 : Int32)), .val (.int (3 : Int32)), .unset, .unset] [(.int (3 : Int32)), (.ref a1)])) rfl rfl (hb hby d3_17) _ k) ?_
      show own_Fin p e below s _ _ _ s₁ (mkF m 18 #[.val (.ref a1), .val (.int (6 : Int32)), .val (.int (3 : Int32)), .unset, .unset] [(.int v3)])
      refine own_by (fun _ k => XS.sipush X0.here hx rfl (hb hby d3_18) (XS.iand X0.here hx rfl (hb hby d3_21) rfl (XS.sipush X0.here hx rfl (hb hby d3_22) k))) ?_
      show own_Fin p e below s _ _ _ s₁ (mkF m 25 #[.val (.ref a1), .val (.int (6 : Int32)), .val (.int (3 : Int32)), .unset, .unset] [(.int (128 : Int32)), (.int (v3 &&& (192 : Int32)))])
      by_cases hc25_71 : (v3 &&& (192 : Int32)) = (128 : Int32)
      · show own_Fin p e below s _ _ _ s₁ (mkF m 25 #[.val (.ref a1), .val (.int (6 : Int32)), .val (.int (3 : Int32)), .unset, .unset] [(.int (128 : Int32)), (.int (v3 &&& (192 : Int32)))])
        refine own_by (fun _ k => XS.icmpNo X0.here hx rfl (hb hby d3_25) rfl (teq hc25_71).2 k) ?_
        show own_Fin p e below s _ _ _ s₁ (mkF m 28 #[.val (.ref a1), .val (.int (6 : Int32)), .val (.int (3 : Int32)), .unset, .unset] [])
        refine own_by (fun _ k => XS.iinc X0.here hx rfl (hb hby d3_28) rfl (l' := #[.val (.ref a1), .val (.int (6 : Int32)), .val (.int ((3 : Int32) + (-1 : Int32))), .unset, .unset]) rfl k) ?_
        show own_Fin p e below s _ _ _ s₁ (mkF m 31 #[.val (.ref a1), .val (.int (6 : Int32)), .val (.int ((3 : Int32) + (-1 : Int32))), .unset, .unset] [])
        rw [(by decide : ((3 : Int32) + (-1 : Int32)) = (2 : Int32))]
        show own_Fin p e below s _ _ _ s₁ (mkF m 31 #[.val (.ref a1), .val (.int (6 : Int32)), .val (.int (2 : Int32)), .unset, .unset] [])
        refine own_by (fun _ k => XS.goto X0.here hx rfl (pc0 := 31) (pc' := 4) rfl (hb hby d3_31) (by decide) (by decide) (XS.iloadN X0.here hx rfl (hb hby d3_4) rfl k)) ?_
        show own_Fin p e below s _ _ _ s₁ (mkF m 5 #[.val (.ref a1), .val (.int (6 : Int32)), .val (.int (2 : Int32)), .unset, .unset] [(.int (2 : Int32))])
        refine own_by (fun _ k => XS.ifNo X0.here hx rfl (hb hby d3_5) rfl ((if0 _ _).trans (tlt (by decide : (0 : Int32) < (2 : Int32))).2.2.2) k) ?_
        show own_Fin p e below s _ _ _ s₁ (mkF m 8 #[.val (.ref a1), .val (.int (6 : Int32)), .val (.int (2 : Int32)), .unset, .unset] [])
        refine own_by (fun _ k => XS.iloadN X0.here hx rfl (hb hby d3_8) rfl (XS.iloadN X0.here hx rfl (hb hby d3_9) rfl (XS.iconst X0.here hx rfl (hb hby d3_10) (XS.isub X0.here hx rfl (hb hby d3_11) rfl k)))) ?_
        show own_Fin p e below s _ _ _ s₁ (mkF m 12 #[.val (.ref a1), .val (.int (6 : Int32)), .val (.int (2 : Int32)), .unset, .unset] [(.int ((6 : Int32) - (4 : Int32))), (.int (2 : Int32))])
        rw [(by decide : ((6 : Int32) - (4 : Int32)) = (2 : Int32))]
        show own_Fin p e below s _ _ _ s₁ (mkF m 12 #[.val (.ref a1), .val (.int (6 : Int32)), .val (.int (2 : Int32)), .unset, .unset] [(.int (2 : Int32)), (.int (2 : Int32))])
        refine own_by (fun _ k => XS.icmpYes X0.here hx rfl (pc0 := 12) (pc' := 34) rfl (hb hby d3_12) rfl (flt (by decide : ¬ ((2 : Int32) < (2 : Int32)))).2.2.2 (by decide) (by decide) k) ?_
        show own_Fin p e below s _ _ _ s₁ (mkF m 34 #[.val (.ref a1), .val (.int (6 : Int32)), .val (.int (2 : Int32)), .unset, .unset] [])
        refine own_by (fun _ k => XS.iloadN X0.here hx rfl (hb hby d3_34) rfl (XS.iloadN X0.here hx rfl (hb hby d3_35) rfl (XS.isub X0.here hx rfl (hb hby d3_36) rfl k))) ?_
        show own_Fin p e below s _ _ _ s₁ (mkF m 37 #[.val (.ref a1), .val (.int (6 : Int32)), .val (.int (2 : Int32)), .unset, .unset] [(.int ((6 : Int32) - (2 : Int32)))])
        rw [(by decide : ((6 : Int32) - (2 : Int32)) = (4 : Int32))]
        show own_Fin p e below s _ _ _ s₁ (mkF m 37 #[.val (.ref a1), .val (.int (6 : Int32)), .val (.int (2 : Int32)), .unset, .unset] [(.int (4 : Int32))])
        refine own_by (fun _ k => XS.istoreN X0.here hx rfl (hb hby d3_37) rfl (l' := #[.val (.ref a1), .val (.int (6 : Int32)), .val (.int (2 : Int32)), .val (.int (4 : Int32)), .unset]) rfl (XS.iloadN X0.here hx rfl (hb hby d3_38) rfl k)) ?_
        show own_Fin p e below s _ _ _ s₁ (mkF m 39 #[.val (.ref a1), .val (.int (6 : Int32)), .val (.int (2 : Int32)), .val (.int (4 : Int32)), .unset] [(.int (2 : Int32))])
        refine own_by (fun _ k => XS.ifNo X0.here hx rfl (hb hby d3_39) rfl ((if0 _ _).trans (flt (by decide : ¬ ((2 : Int32) < (0 : Int32)))).1) k) ?_
        show own_Fin p e below s _ _ _ s₁ (mkF m 42 #[.val (.ref a1), .val (.int (6 : Int32)), .val (.int (2 : Int32)), .val (.int (4 : Int32)), .unset] [])
        refine own_by (fun _ k => XS.iloadN X0.here hx rfl (hb hby d3_42) rfl (XS.aloadN X0.here hx rfl (hb hby d3_43) rfl rfl (XS.iloadN X0.here hx rfl (hb hby d3_44) rfl k))) ?_
        show own_Fin p e below s _ _ _ s₁ (mkF m 45 #[.val (.ref a1), .val (.int (6 : Int32)), .val (.int (2 : Int32)), .val (.int (4 : Int32)), .unset] [(.int (2 : Int32)), (.ref a1), (.int (4 : Int32))])
        obtain ⟨cl72, Ar72, -, S72, M72, H72, -⟩ := id V1
        have hin72 : ¬ ((2 : Int32) < 0 ∨ cl72.slots.size ≤ ((2 : Int32)).toNatClampNeg) := inb_of S72 ⟨by decide, by decide⟩
        have hat72 : cl72.slots[((2 : Int32)).toNatClampNeg]? = some (.int v2) := Has.at H72 hin72 rfl
        refine own_by (fun _ k => X0.baloadBytes hx (j := (2 : Int32)) (v := (.int v2)) (by rw [e0]; exact Ar72.1) (State.isArrayOf_alike hZ.alike Ar72.2.1) Ar72.2.2 hin72 hat72 (g := (mkF m 45 #[.val (.ref a1), .val (.int (6 : Int32)), .val (.int (2 : Int32)), .val (.int (4 : Int32)), .unset] [(.int (2 : Int32)), (.ref a1), (.int (4 : Int32))])) rfl rfl (hb hby d3_45) _ k) ?_
        show own_Fin p e below s _ _ _ s₁ (mkF m 46 #[.val (.ref a1), .val (.int (6 : Int32)), .val (.int (2 : Int32)), .val (.int (4 : Int32)), .unset] [(.int v2), (.int (4 : Int32))])
        refine own_by (fun _ k => XS.sipush X0.here hx rfl (hb hby d3_46) (XS.iand X0.here hx rfl (hb hby d3_49) rfl k)) ?_
        show own_Fin p e below s _ _ _ s₁ (mkF m 50 #[.val (.ref a1), .val (.int (6 : Int32)), .val (.int (2 : Int32)), .val (.int (4 : Int32)), .unset] [(.int (v2 &&& (255 : Int32))), (.int (4 : Int32))])
        obtain ⟨_, _, ⟨T73, L73, k73, n73⟩, -, X73, ⟨Lc73, hQ73, l73, y73, z73⟩, st73⟩ := Jvm.LawKit.callS X0 hx (y := (⟨"com/example/munka/munka/util/Utf8", "sequenceLength", "(I)I"⟩ : MethodName)) hown (mvT hZ (hw _ (List.mem_of_getElem? (i := 13) rfl))) (mvT hZ (hw _ (List.mem_of_getElem? (i := 14) rfl))) (mvT hZ (hw _ (List.mem_of_getElem? (i := 11) rfl))) (mvT hZ (hw _ (List.mem_of_getElem? (i := 15) rfl))) (by decide) (backOf (W := 1) (rm4 l Z a0 hw [] (v2 &&& (255 : Int32)) h0 n0 Z0 ) hZ (hw _ (List.mem_of_getElem? (i := 15) rfl)) (hw _ (List.mem_of_getElem? (i := 11) rfl)) (by decide) (by decide)) (g := (mkF m 50 #[.val (.ref a1), .val (.int (6 : Int32)), .val (.int (2 : Int32)), .val (.int (4 : Int32)), .unset] [(.int (v2 &&& (255 : Int32))), (.int (4 : Int32))])) rfl (by rw [hml]; rfl) (argsL := [(.int (v2 &&& (255 : Int32)))]) (rest := [(.int (4 : Int32))]) (lenOf own_pd69 rfl) rfl (by show 2 * 0 + _ ≤ _; exact Nat.le_of_eq rfl) (hb hby d3_50) (fun _ _ => ⟨rfl, e0, (by decide : 0 + 0 ≤ _), (by decide : 0 + 0 ≤ _)⟩)
        dsimp only [Pt.U, Pt.locs, Pt.cells, Pt.slots] at X73 l73 y73 z73 st73 hQ73
        subst l73 y73 z73
        obtain ⟨rfl, Nq73, eh73⟩ := hQ73
        have N73 := Fr.app N0 Nq73
        refine own_by (fun _ k => st73 _ k) ?_
        show own_Fin p e below s _ _ _ T73 (mkF m 53 #[.val (.ref a1), .val (.int (6 : Int32)), .val (.int (2 : Int32)), .val (.int (4 : Int32)), .unset] [(.int (own_seq (v2 &&& (255 : Int32)))), (.int (4 : Int32))])
        by_cases hc53_74 : (4 : Int32) < (own_seq (v2 &&& (255 : Int32)))
        · show own_Fin p e below s _ _ _ T73 (mkF m 53 #[.val (.ref a1), .val (.int (6 : Int32)), .val (.int (2 : Int32)), .val (.int (4 : Int32)), .unset] [(.int (own_seq (v2 &&& (255 : Int32)))), (.int (4 : Int32))])
          refine own_by (fun _ k => XS.icmpNo X73.here hx rfl (hb hby d3_53) rfl (tlt hc53_74).2.1 k) ?_
          show own_Fin p e below s _ _ _ T73 (mkF m 56 #[.val (.ref a1), .val (.int (6 : Int32)), .val (.int (2 : Int32)), .val (.int (4 : Int32)), .unset] [])
          refine own_by (fun _ k => XS.iconst X73.here hx rfl (hb hby d3_56) (XS.goto X73.here hx rfl (pc0 := 57) (pc' := 61) rfl (hb hby d3_57) (by decide) (by decide) (XS.istore X73.here hx rfl (hb hby d3_61) rfl (l' := #[.val (.ref a1), .val (.int (6 : Int32)), .val (.int (2 : Int32)), .val (.int (4 : Int32)), .val (.int (1 : Int32))]) rfl (XS.iload X73.here hx rfl (hb hby d3_63) rfl k)))) ?_
          show own_Fin p e below s _ _ _ T73 (mkF m 65 #[.val (.ref a1), .val (.int (6 : Int32)), .val (.int (2 : Int32)), .val (.int (4 : Int32)), .val (.int (1 : Int32))] [(.int (1 : Int32))])
          refine own_by (fun _ k => XS.ifNo X73.here hx rfl (hb hby d3_65) rfl ((if0 _ _).trans (feq (by decide : ¬ ((1 : Int32) = (0 : Int32)))).1) k) ?_
          show own_Fin p e below s _ _ _ T73 (mkF m 68 #[.val (.ref a1), .val (.int (6 : Int32)), .val (.int (2 : Int32)), .val (.int (4 : Int32)), .val (.int (1 : Int32))] [])
          refine own_by (fun _ k => XS.iloadN X73.here hx rfl (hb hby d3_68) rfl (XS.goto X73.here hx rfl (pc0 := 69) (pc' := 73) rfl (hb hby d3_69) (by decide) (by decide) k)) ?_
          show own_Fin p e below s _ _ _ T73 (mkF m 73 #[.val (.ref a1), .val (.int (6 : Int32)), .val (.int (2 : Int32)), .val (.int (4 : Int32)), .val (.int (1 : Int32))] [(.int (4 : Int32))])
          exact own_retI X73 hx hlk hret (hb hby d3_73) ⟨own_vi (by show (4 : Int32) = _; first | (simp only [own_tl1, own_tl2, own_tl3, own_tl4, hc25_67, hc25_69, hc25_71, hc53_74, if_true, if_false]; done) | (simp only [own_tl1, own_tl2, own_tl3, own_tl4, hc25_67, hc25_69, hc25_71, hc53_74, if_true, if_false]; decide) | simp [own_tl1, own_tl2, own_tl3, own_tl4, hc25_67, hc25_69, hc25_71, hc53_74]), N73, eh73⟩ (by decide) (by decide)
        · show own_Fin p e below s _ _ _ T73 (mkF m 53 #[.val (.ref a1), .val (.int (6 : Int32)), .val (.int (2 : Int32)), .val (.int (4 : Int32)), .unset] [(.int (own_seq (v2 &&& (255 : Int32)))), (.int (4 : Int32))])
          refine own_by (fun _ k => XS.icmpYes X73.here hx rfl (pc0 := 53) (pc' := 60) rfl (hb hby d3_53) rfl (flt hc53_74).2.1 (by decide) (by decide) k) ?_
          show own_Fin p e below s _ _ _ T73 (mkF m 60 #[.val (.ref a1), .val (.int (6 : Int32)), .val (.int (2 : Int32)), .val (.int (4 : Int32)), .unset] [])
          refine own_by (fun _ k => XS.iconst X73.here hx rfl (hb hby d3_60) (XS.istore X73.here hx rfl (hb hby d3_61) rfl (l' := #[.val (.ref a1), .val (.int (6 : Int32)), .val (.int (2 : Int32)), .val (.int (4 : Int32)), .val (.int (0 : Int32))]) rfl (XS.iload X73.here hx rfl (hb hby d3_63) rfl k))) ?_
          show own_Fin p e below s _ _ _ T73 (mkF m 65 #[.val (.ref a1), .val (.int (6 : Int32)), .val (.int (2 : Int32)), .val (.int (4 : Int32)), .val (.int (0 : Int32))] [(.int (0 : Int32))])
          refine own_by (fun _ k => XS.ifYes X73.here hx rfl (pc0 := 65) (pc' := 72) rfl (hb hby d3_65) rfl ((if0 _ _).trans (teq (by decide : (0 : Int32) = (0 : Int32))).1) (by decide) (by decide) k) ?_
          show own_Fin p e below s _ _ _ T73 (mkF m 72 #[.val (.ref a1), .val (.int (6 : Int32)), .val (.int (2 : Int32)), .val (.int (4 : Int32)), .val (.int (0 : Int32))] [])
          refine own_by (fun _ k => XS.iconst X73.here hx rfl (hb hby d3_72) k) ?_
          show own_Fin p e below s _ _ _ T73 (mkF m 73 #[.val (.ref a1), .val (.int (6 : Int32)), .val (.int (2 : Int32)), .val (.int (4 : Int32)), .val (.int (0 : Int32))] [(.int (0 : Int32))])
          exact own_retI X73 hx hlk hret (hb hby d3_73) ⟨own_vi (by show (0 : Int32) = _; first | (simp only [own_tl1, own_tl2, own_tl3, own_tl4, hc25_67, hc25_69, hc25_71, hc53_74, if_true, if_false]; done) | (simp only [own_tl1, own_tl2, own_tl3, own_tl4, hc25_67, hc25_69, hc25_71, hc53_74, if_true, if_false]; decide) | simp [own_tl1, own_tl2, own_tl3, own_tl4, hc25_67, hc25_69, hc25_71, hc53_74]), N73, eh73⟩ (by decide) (by decide)
      · show own_Fin p e below s _ _ _ s₁ (mkF m 25 #[.val (.ref a1), .val (.int (6 : Int32)), .val (.int (3 : Int32)), .unset, .unset] [(.int (128 : Int32)), (.int (v3 &&& (192 : Int32)))])
        refine own_by (fun _ k => XS.icmpYes X0.here hx rfl (pc0 := 25) (pc' := 34) rfl (hb hby d3_25) rfl (feq hc25_71).2 (by decide) (by decide) k) ?_
        show own_Fin p e below s _ _ _ s₁ (mkF m 34 #[.val (.ref a1), .val (.int (6 : Int32)), .val (.int (3 : Int32)), .unset, .unset] [])
        refine own_by (fun _ k => XS.iloadN X0.here hx rfl (hb hby d3_34) rfl (XS.iloadN X0.here hx rfl (hb hby d3_35) rfl (XS.isub X0.here hx rfl (hb hby d3_36) rfl k))) ?_
        show own_Fin p e below s _ _ _ s₁ (mkF m 37 #[.val (.ref a1), .val (.int (6 : Int32)), .val (.int (3 : Int32)), .unset, .unset] [(.int ((6 : Int32) - (3 : Int32)))])
        rw [(by decide : ((6 : Int32) - (3 : Int32)) = (3 : Int32))]
        show own_Fin p e below s _ _ _ s₁ (mkF m 37 #[.val (.ref a1), .val (.int (6 : Int32)), .val (.int (3 : Int32)), .unset, .unset] [(.int (3 : Int32))])
        refine own_by (fun _ k => XS.istoreN X0.here hx rfl (hb hby d3_37) rfl (l' := #[.val (.ref a1), .val (.int (6 : Int32)), .val (.int (3 : Int32)), .val (.int (3 : Int32)), .unset]) rfl (XS.iloadN X0.here hx rfl (hb hby d3_38) rfl k)) ?_
        show own_Fin p e below s _ _ _ s₁ (mkF m 39 #[.val (.ref a1), .val (.int (6 : Int32)), .val (.int (3 : Int32)), .val (.int (3 : Int32)), .unset] [(.int (3 : Int32))])
        refine own_by (fun _ k => XS.ifNo X0.here hx rfl (hb hby d3_39) rfl ((if0 _ _).trans (flt (by decide : ¬ ((3 : Int32) < (0 : Int32)))).1) k) ?_
        show own_Fin p e below s _ _ _ s₁ (mkF m 42 #[.val (.ref a1), .val (.int (6 : Int32)), .val (.int (3 : Int32)), .val (.int (3 : Int32)), .unset] [])
        refine own_by (fun _ k => XS.iloadN X0.here hx rfl (hb hby d3_42) rfl (XS.aloadN X0.here hx rfl (hb hby d3_43) rfl rfl (XS.iloadN X0.here hx rfl (hb hby d3_44) rfl k))) ?_
        show own_Fin p e below s _ _ _ s₁ (mkF m 45 #[.val (.ref a1), .val (.int (6 : Int32)), .val (.int (3 : Int32)), .val (.int (3 : Int32)), .unset] [(.int (3 : Int32)), (.ref a1), (.int (3 : Int32))])
        obtain ⟨cl75, Ar75, -, S75, M75, H75, -⟩ := id V1
        have hin75 : ¬ ((3 : Int32) < 0 ∨ cl75.slots.size ≤ ((3 : Int32)).toNatClampNeg) := inb_of S75 ⟨by decide, by decide⟩
        have hat75 : cl75.slots[((3 : Int32)).toNatClampNeg]? = some (.int v3) := Has.at H75 hin75 rfl
        refine own_by (fun _ k => X0.baloadBytes hx (j := (3 : Int32)) (v := (.int v3)) (by rw [e0]; exact Ar75.1) (State.isArrayOf_alike hZ.alike Ar75.2.1) Ar75.2.2 hin75 hat75 (g := (mkF m 45 #[.val (.ref a1), .val (.int (6 : Int32)), .val (.int (3 : Int32)), .val (.int (3 : Int32)), .unset] [(.int (3 : Int32)), (.ref a1), (.int (3 : Int32))])) rfl rfl (hb hby d3_45) _ k) ?_
        show own_Fin p e below s _ _ _ s₁ (mkF m 46 #[.val (.ref a1), .val (.int (6 : Int32)), .val (.int (3 : Int32)), .val (.int (3 : Int32)), .unset] [(.int v3), (.int (3 : Int32))])
        refine own_by (fun _ k => XS.sipush X0.here hx rfl (hb hby d3_46) (XS.iand X0.here hx rfl (hb hby d3_49) rfl k)) ?_
        show own_Fin p e below s _ _ _ s₁ (mkF m 50 #[.val (.ref a1), .val (.int (6 : Int32)), .val (.int (3 : Int32)), .val (.int (3 : Int32)), .unset] [(.int (v3 &&& (255 : Int32))), (.int (3 : Int32))])
        obtain ⟨_, _, ⟨T76, L76, k76, n76⟩, -, X76, ⟨Lc76, hQ76, l76, y76, z76⟩, st76⟩ := Jvm.LawKit.callS X0 hx (y := (⟨"com/example/munka/munka/util/Utf8", "sequenceLength", "(I)I"⟩ : MethodName)) hown (mvT hZ (hw _ (List.mem_of_getElem? (i := 13) rfl))) (mvT hZ (hw _ (List.mem_of_getElem? (i := 14) rfl))) (mvT hZ (hw _ (List.mem_of_getElem? (i := 11) rfl))) (mvT hZ (hw _ (List.mem_of_getElem? (i := 15) rfl))) (by decide) (backOf (W := 1) (rm4 l Z a0 hw [] (v3 &&& (255 : Int32)) h0 n0 Z0 ) hZ (hw _ (List.mem_of_getElem? (i := 15) rfl)) (hw _ (List.mem_of_getElem? (i := 11) rfl)) (by decide) (by decide)) (g := (mkF m 50 #[.val (.ref a1), .val (.int (6 : Int32)), .val (.int (3 : Int32)), .val (.int (3 : Int32)), .unset] [(.int (v3 &&& (255 : Int32))), (.int (3 : Int32))])) rfl (by rw [hml]; rfl) (argsL := [(.int (v3 &&& (255 : Int32)))]) (rest := [(.int (3 : Int32))]) (lenOf own_pd69 rfl) rfl (by show 2 * 0 + _ ≤ _; exact Nat.le_of_eq rfl) (hb hby d3_50) (fun _ _ => ⟨rfl, e0, (by decide : 0 + 0 ≤ _), (by decide : 0 + 0 ≤ _)⟩)
        dsimp only [Pt.U, Pt.locs, Pt.cells, Pt.slots] at X76 l76 y76 z76 st76 hQ76
        subst l76 y76 z76
        obtain ⟨rfl, Nq76, eh76⟩ := hQ76
        have N76 := Fr.app N0 Nq76
        refine own_by (fun _ k => st76 _ k) ?_
        show own_Fin p e below s _ _ _ T76 (mkF m 53 #[.val (.ref a1), .val (.int (6 : Int32)), .val (.int (3 : Int32)), .val (.int (3 : Int32)), .unset] [(.int (own_seq (v3 &&& (255 : Int32)))), (.int (3 : Int32))])
        by_cases hc53_77 : (3 : Int32) < (own_seq (v3 &&& (255 : Int32)))
        · show own_Fin p e below s _ _ _ T76 (mkF m 53 #[.val (.ref a1), .val (.int (6 : Int32)), .val (.int (3 : Int32)), .val (.int (3 : Int32)), .unset] [(.int (own_seq (v3 &&& (255 : Int32)))), (.int (3 : Int32))])
          refine own_by (fun _ k => XS.icmpNo X76.here hx rfl (hb hby d3_53) rfl (tlt hc53_77).2.1 k) ?_
          show own_Fin p e below s _ _ _ T76 (mkF m 56 #[.val (.ref a1), .val (.int (6 : Int32)), .val (.int (3 : Int32)), .val (.int (3 : Int32)), .unset] [])
          refine own_by (fun _ k => XS.iconst X76.here hx rfl (hb hby d3_56) (XS.goto X76.here hx rfl (pc0 := 57) (pc' := 61) rfl (hb hby d3_57) (by decide) (by decide) (XS.istore X76.here hx rfl (hb hby d3_61) rfl (l' := #[.val (.ref a1), .val (.int (6 : Int32)), .val (.int (3 : Int32)), .val (.int (3 : Int32)), .val (.int (1 : Int32))]) rfl (XS.iload X76.here hx rfl (hb hby d3_63) rfl k)))) ?_
          show own_Fin p e below s _ _ _ T76 (mkF m 65 #[.val (.ref a1), .val (.int (6 : Int32)), .val (.int (3 : Int32)), .val (.int (3 : Int32)), .val (.int (1 : Int32))] [(.int (1 : Int32))])
          refine own_by (fun _ k => XS.ifNo X76.here hx rfl (hb hby d3_65) rfl ((if0 _ _).trans (feq (by decide : ¬ ((1 : Int32) = (0 : Int32)))).1) k) ?_
          show own_Fin p e below s _ _ _ T76 (mkF m 68 #[.val (.ref a1), .val (.int (6 : Int32)), .val (.int (3 : Int32)), .val (.int (3 : Int32)), .val (.int (1 : Int32))] [])
          refine own_by (fun _ k => XS.iloadN X76.here hx rfl (hb hby d3_68) rfl (XS.goto X76.here hx rfl (pc0 := 69) (pc' := 73) rfl (hb hby d3_69) (by decide) (by decide) k)) ?_
          show own_Fin p e below s _ _ _ T76 (mkF m 73 #[.val (.ref a1), .val (.int (6 : Int32)), .val (.int (3 : Int32)), .val (.int (3 : Int32)), .val (.int (1 : Int32))] [(.int (3 : Int32))])
          exact own_retI X76 hx hlk hret (hb hby d3_73) ⟨own_vi (by show (3 : Int32) = _; first | (simp only [own_tl1, own_tl2, own_tl3, own_tl4, hc25_67, hc25_69, hc25_71, hc53_77, if_true, if_false]; done) | (simp only [own_tl1, own_tl2, own_tl3, own_tl4, hc25_67, hc25_69, hc25_71, hc53_77, if_true, if_false]; decide) | simp [own_tl1, own_tl2, own_tl3, own_tl4, hc25_67, hc25_69, hc25_71, hc53_77]), N76, eh76⟩ (by decide) (by decide)
        · show own_Fin p e below s _ _ _ T76 (mkF m 53 #[.val (.ref a1), .val (.int (6 : Int32)), .val (.int (3 : Int32)), .val (.int (3 : Int32)), .unset] [(.int (own_seq (v3 &&& (255 : Int32)))), (.int (3 : Int32))])
          refine own_by (fun _ k => XS.icmpYes X76.here hx rfl (pc0 := 53) (pc' := 60) rfl (hb hby d3_53) rfl (flt hc53_77).2.1 (by decide) (by decide) k) ?_
          show own_Fin p e below s _ _ _ T76 (mkF m 60 #[.val (.ref a1), .val (.int (6 : Int32)), .val (.int (3 : Int32)), .val (.int (3 : Int32)), .unset] [])
          refine own_by (fun _ k => XS.iconst X76.here hx rfl (hb hby d3_60) (XS.istore X76.here hx rfl (hb hby d3_61) rfl (l' := #[.val (.ref a1), .val (.int (6 : Int32)), .val (.int (3 : Int32)), .val (.int (3 : Int32)), .val (.int (0 : Int32))]) rfl (XS.iload X76.here hx rfl (hb hby d3_63) rfl k))) ?_
          show own_Fin p e below s _ _ _ T76 (mkF m 65 #[.val (.ref a1), .val (.int (6 : Int32)), .val (.int (3 : Int32)), .val (.int (3 : Int32)), .val (.int (0 : Int32))] [(.int (0 : Int32))])
          refine own_by (fun _ k => XS.ifYes X76.here hx rfl (pc0 := 65) (pc' := 72) rfl (hb hby d3_65) rfl ((if0 _ _).trans (teq (by decide : (0 : Int32) = (0 : Int32))).1) (by decide) (by decide) k) ?_
          show own_Fin p e below s _ _ _ T76 (mkF m 72 #[.val (.ref a1), .val (.int (6 : Int32)), .val (.int (3 : Int32)), .val (.int (3 : Int32)), .val (.int (0 : Int32))] [])
          refine own_by (fun _ k => XS.iconst X76.here hx rfl (hb hby d3_72) k) ?_
          show own_Fin p e below s _ _ _ T76 (mkF m 73 #[.val (.ref a1), .val (.int (6 : Int32)), .val (.int (3 : Int32)), .val (.int (3 : Int32)), .val (.int (0 : Int32))] [(.int (0 : Int32))])
          exact own_retI X76 hx hlk hret (hb hby d3_73) ⟨own_vi (by show (0 : Int32) = _; first | (simp only [own_tl1, own_tl2, own_tl3, own_tl4, hc25_67, hc25_69, hc25_71, hc53_77, if_true, if_false]; done) | (simp only [own_tl1, own_tl2, own_tl3, own_tl4, hc25_67, hc25_69, hc25_71, hc53_77, if_true, if_false]; decide) | simp [own_tl1, own_tl2, own_tl3, own_tl4, hc25_67, hc25_69, hc25_71, hc53_77]), N76, eh76⟩ (by decide) (by decide)
    · show own_Fin p e below s _ _ _ s₁ (mkF m 25 #[.val (.ref a1), .val (.int (6 : Int32)), .val (.int (4 : Int32)), .unset, .unset] [(.int (128 : Int32)), (.int (v4 &&& (192 : Int32)))])
      refine own_by (fun _ k => XS.icmpYes X0.here hx rfl (pc0 := 25) (pc' := 34) rfl (hb hby d3_25) rfl (feq hc25_69).2 (by decide) (by decide) k) ?_
      show own_Fin p e below s _ _ _ s₁ (mkF m 34 #[.val (.ref a1), .val (.int (6 : Int32)), .val (.int (4 : Int32)), .unset, .unset] [])
      refine own_by (fun _ k => XS.iloadN X0.here hx rfl (hb hby d3_34) rfl (XS.iloadN X0.here hx rfl (hb hby d3_35) rfl (XS.isub X0.here hx rfl (hb hby d3_36) rfl k))) ?_
      show own_Fin p e below s _ _ _ s₁ (mkF m 37 #[.val (.ref a1), .val (.int (6 : Int32)), .val (.int (4 : Int32)), .unset, .unset] [(.int ((6 : Int32) - (4 : Int32)))])
      rw [(by decide : ((6 : Int32) - (4 : Int32)) = (2 : Int32))]
      show own_Fin p e below s _ _ _ s₁ (mkF m 37 #[.val (.ref a1), .val (.int (6 : Int32)), .val (.int (4 : Int32)), .unset, .unset] [(.int (2 : Int32))])
      refine own_by (fun _ k => XS.istoreN X0.here hx rfl (hb hby d3_37) rfl (l' := #[.val (.ref a1), .val (.int (6 : Int32)), .val (.int (4 : Int32)), .val (.int (2 : Int32)), .unset]) rfl (XS.iloadN X0.here hx rfl (hb hby d3_38) rfl k)) ?_
      show own_Fin p e below s _ _ _ s₁ (mkF m 39 #[.val (.ref a1), .val (.int (6 : Int32)), .val (.int (4 : Int32)), .val (.int (2 : Int32)), .unset] [(.int (4 : Int32))])
      refine own_by (fun _ k => XS.ifNo X0.here hx rfl (hb hby d3_39) rfl ((if0 _ _).trans (flt (by decide : ¬ ((4 : Int32) < (0 : Int32)))).1) k) ?_
      show own_Fin p e below s _ _ _ s₁ (mkF m 42 #[.val (.ref a1), .val (.int (6 : Int32)), .val (.int (4 : Int32)), .val (.int (2 : Int32)), .unset] [])
      refine own_by (fun _ k => XS.iloadN X0.here hx rfl (hb hby d3_42) rfl (XS.aloadN X0.here hx rfl (hb hby d3_43) rfl rfl (XS.iloadN X0.here hx rfl (hb hby d3_44) rfl k))) ?_
      show own_Fin p e below s _ _ _ s₁ (mkF m 45 #[.val (.ref a1), .val (.int (6 : Int32)), .val (.int (4 : Int32)), .val (.int (2 : Int32)), .unset] [(.int (4 : Int32)), (.ref a1), (.int (2 : Int32))])
      obtain ⟨cl78, Ar78, -, S78, M78, H78, -⟩ := id V1
      have hin78 : ¬ ((4 : Int32) < 0 ∨ cl78.slots.size ≤ ((4 : Int32)).toNatClampNeg) := inb_of S78 ⟨by decide, by decide⟩
      have hat78 : cl78.slots[((4 : Int32)).toNatClampNeg]? = some (.int v4) := Has.at H78 hin78 rfl
      refine own_by (fun _ k => X0.baloadBytes hx (j := (4 : Int32)) (v := (.int v4)) (by rw [e0]; exact Ar78.1) (State.isArrayOf_alike hZ.alike Ar78.2.1) Ar78.2.2 hin78 hat78 (g := (mkF m 45 #[.val (.ref a1), .val (.int (6 : Int32)), .val (.int (4 : Int32)), .val (.int (2 : Int32)), .unset] [(.int (4 : Int32)), (.ref a1), (.int (2 : Int32))])) rfl rfl (hb hby d3_45) _ k) ?_
      show own_Fin p e below s _ _ _ s₁ (mkF m 46 #[.val (.ref a1), .val (.int (6 : Int32)), .val (.int (4 : Int32)), .val (.int (2 : Int32)), .unset] [(.int v4), (.int (2 : Int32))])
      refine own_by (fun _ k => XS.sipush X0.here hx rfl (hb hby d3_46) (XS.iand X0.here hx rfl (hb hby d3_49) rfl k)) ?_
      show own_Fin p e below s _ _ _ s₁ (mkF m 50 #[.val (.ref a1), .val (.int (6 : Int32)), .val (.int (4 : Int32)), .val (.int (2 : Int32)), .unset] [(.int (v4 &&& (255 : Int32))), (.int (2 : Int32))])
      obtain ⟨_, _, ⟨T79, L79, k79, n79⟩, -, X79, ⟨Lc79, hQ79, l79, y79, z79⟩, st79⟩ := Jvm.LawKit.callS X0 hx (y := (⟨"com/example/munka/munka/util/Utf8", "sequenceLength", "(I)I"⟩ : MethodName)) hown (mvT hZ (hw _ (List.mem_of_getElem? (i := 13) rfl))) (mvT hZ (hw _ (List.mem_of_getElem? (i := 14) rfl))) (mvT hZ (hw _ (List.mem_of_getElem? (i := 11) rfl))) (mvT hZ (hw _ (List.mem_of_getElem? (i := 15) rfl))) (by decide) (backOf (W := 1) (rm4 l Z a0 hw [] (v4 &&& (255 : Int32)) h0 n0 Z0 ) hZ (hw _ (List.mem_of_getElem? (i := 15) rfl)) (hw _ (List.mem_of_getElem? (i := 11) rfl)) (by decide) (by decide)) (g := (mkF m 50 #[.val (.ref a1), .val (.int (6 : Int32)), .val (.int (4 : Int32)), .val (.int (2 : Int32)), .unset] [(.int (v4 &&& (255 : Int32))), (.int (2 : Int32))])) rfl (by rw [hml]; rfl) (argsL := [(.int (v4 &&& (255 : Int32)))]) (rest := [(.int (2 : Int32))]) (lenOf own_pd69 rfl) rfl (by show 2 * 0 + _ ≤ _; exact Nat.le_of_eq rfl) (hb hby d3_50) (fun _ _ => ⟨rfl, e0, (by decide : 0 + 0 ≤ _), (by decide : 0 + 0 ≤ _)⟩)
      dsimp only [Pt.U, Pt.locs, Pt.cells, Pt.slots] at X79 l79 y79 z79 st79 hQ79
      subst l79 y79 z79
      obtain ⟨rfl, Nq79, eh79⟩ := hQ79
      have N79 := Fr.app N0 Nq79
      refine own_by (fun _ k => st79 _ k) ?_
      show own_Fin p e below s _ _ _ T79 (mkF m 53 #[.val (.ref a1), .val (.int (6 : Int32)), .val (.int (4 : Int32)), .val (.int (2 : Int32)), .unset] [(.int (own_seq (v4 &&& (255 : Int32)))), (.int (2 : Int32))])
      by_cases hc53_80 : (2 : Int32) < (own_seq (v4 &&& (255 : Int32)))
      · show own_Fin p e below s _ _ _ T79 (mkF m 53 #[.val (.ref a1), .val (.int (6 : Int32)), .val (.int (4 : Int32)), .val (.int (2 : Int32)), .unset] [(.int (own_seq (v4 &&& (255 : Int32)))), (.int (2 : Int32))])
        refine own_by (fun _ k => XS.icmpNo X79.here hx rfl (hb hby d3_53) rfl (tlt hc53_80).2.1 k) ?_
        show own_Fin p e below s _ _ _ T79 (mkF m 56 #[.val (.ref a1), .val (.int (6 : Int32)), .val (.int (4 : Int32)), .val (.int (2 : Int32)), .unset] [])
        refine own_by (fun _ k => XS.iconst X79.here hx rfl (hb hby d3_56) (XS.goto X79.here hx rfl (pc0 := 57) (pc' := 61) rfl (hb hby d3_57) (by decide) (by decide) (XS.istore X79.here hx rfl (hb hby d3_61) rfl (l' := #[.val (.ref a1), .val (.int (6 : Int32)), .val (.int (4 : Int32)), .val (.int (2 : Int32)), .val (.int (1 : Int32))]) rfl (XS.iload X79.here hx rfl (hb hby d3_63) rfl k)))) ?_
        show own_Fin p e below s _ _ _ T79 (mkF m 65 #[.val (.ref a1), .val (.int (6 : Int32)), .val (.int (4 : Int32)), .val (.int (2 : Int32)), .val (.int (1 : Int32))] [(.int (1 : Int32))])
        refine own_by (fun _ k => XS.ifNo X79.here hx rfl (hb hby d3_65) rfl ((if0 _ _).trans (feq (by decide : ¬ ((1 : Int32) = (0 : Int32)))).1) k) ?_
        show own_Fin p e below s _ _ _ T79 (mkF m 68 #[.val (.ref a1), .val (.int (6 : Int32)), .val (.int (4 : Int32)), .val (.int (2 : Int32)), .val (.int (1 : Int32))] [])
        refine own_by (fun _ k => XS.iloadN X79.here hx rfl (hb hby d3_68) rfl (XS.goto X79.here hx rfl (pc0 := 69) (pc' := 73) rfl (hb hby d3_69) (by decide) (by decide) k)) ?_
        show own_Fin p e below s _ _ _ T79 (mkF m 73 #[.val (.ref a1), .val (.int (6 : Int32)), .val (.int (4 : Int32)), .val (.int (2 : Int32)), .val (.int (1 : Int32))] [(.int (2 : Int32))])
        exact own_retI X79 hx hlk hret (hb hby d3_73) ⟨own_vi (by show (2 : Int32) = _; first | (simp only [own_tl1, own_tl2, own_tl3, own_tl4, hc25_67, hc25_69, hc53_80, if_true, if_false]; done) | (simp only [own_tl1, own_tl2, own_tl3, own_tl4, hc25_67, hc25_69, hc53_80, if_true, if_false]; decide) | simp [own_tl1, own_tl2, own_tl3, own_tl4, hc25_67, hc25_69, hc53_80]), N79, eh79⟩ (by decide) (by decide)
      · show own_Fin p e below s _ _ _ T79 (mkF m 53 #[.val (.ref a1), .val (.int (6 : Int32)), .val (.int (4 : Int32)), .val (.int (2 : Int32)), .unset] [(.int (own_seq (v4 &&& (255 : Int32)))), (.int (2 : Int32))])
        refine own_by (fun _ k => XS.icmpYes X79.here hx rfl (pc0 := 53) (pc' := 60) rfl (hb hby d3_53) rfl (flt hc53_80).2.1 (by decide) (by decide) k) ?_
        show own_Fin p e below s _ _ _ T79 (mkF m 60 #[.val (.ref a1), .val (.int (6 : Int32)), .val (.int (4 : Int32)), .val (.int (2 : Int32)), .unset] [])
        refine own_by (fun _ k => XS.iconst X79.here hx rfl (hb hby d3_60) (XS.istore X79.here hx rfl (hb hby d3_61) rfl (l' := #[.val (.ref a1), .val (.int (6 : Int32)), .val (.int (4 : Int32)), .val (.int (2 : Int32)), .val (.int (0 : Int32))]) rfl (XS.iload X79.here hx rfl (hb hby d3_63) rfl k))) ?_
        show own_Fin p e below s _ _ _ T79 (mkF m 65 #[.val (.ref a1), .val (.int (6 : Int32)), .val (.int (4 : Int32)), .val (.int (2 : Int32)), .val (.int (0 : Int32))] [(.int (0 : Int32))])
        refine own_by (fun _ k => XS.ifYes X79.here hx rfl (pc0 := 65) (pc' := 72) rfl (hb hby d3_65) rfl ((if0 _ _).trans (teq (by decide : (0 : Int32) = (0 : Int32))).1) (by decide) (by decide) k) ?_
        show own_Fin p e below s _ _ _ T79 (mkF m 72 #[.val (.ref a1), .val (.int (6 : Int32)), .val (.int (4 : Int32)), .val (.int (2 : Int32)), .val (.int (0 : Int32))] [])
        refine own_by (fun _ k => XS.iconst X79.here hx rfl (hb hby d3_72) k) ?_
        show own_Fin p e below s _ _ _ T79 (mkF m 73 #[.val (.ref a1), .val (.int (6 : Int32)), .val (.int (4 : Int32)), .val (.int (2 : Int32)), .val (.int (0 : Int32))] [(.int (0 : Int32))])
        exact own_retI X79 hx hlk hret (hb hby d3_73) ⟨own_vi (by show (0 : Int32) = _; first | (simp only [own_tl1, own_tl2, own_tl3, own_tl4, hc25_67, hc25_69, hc53_80, if_true, if_false]; done) | (simp only [own_tl1, own_tl2, own_tl3, own_tl4, hc25_67, hc25_69, hc53_80, if_true, if_false]; decide) | simp [own_tl1, own_tl2, own_tl3, own_tl4, hc25_67, hc25_69, hc53_80]), N79, eh79⟩ (by decide) (by decide)
  · show own_Fin p e below s _ _ _ s₁ (mkF m 25 #[.val (.ref a1), .val (.int (6 : Int32)), .val (.int (5 : Int32)), .unset, .unset] [(.int (128 : Int32)), (.int (v5 &&& (192 : Int32)))])
    refine own_by (fun _ k => XS.icmpYes X0.here hx rfl (pc0 := 25) (pc' := 34) rfl (hb hby d3_25) rfl (feq hc25_67).2 (by decide) (by decide) k) ?_
    show own_Fin p e below s _ _ _ s₁ (mkF m 34 #[.val (.ref a1), .val (.int (6 : Int32)), .val (.int (5 : Int32)), .unset, .unset] [])
    refine own_by (fun _ k => XS.iloadN X0.here hx rfl (hb hby d3_34) rfl (XS.iloadN X0.here hx rfl (hb hby d3_35) rfl (XS.isub X0.here hx rfl (hb hby d3_36) rfl k))) ?_
    show own_Fin p e below s _ _ _ s₁ (mkF m 37 #[.val (.ref a1), .val (.int (6 : Int32)), .val (.int (5 : Int32)), .unset, .unset] [(.int ((6 : Int32) - (5 : Int32)))])
    rw [(by decide : ((6 : Int32) - (5 : Int32)) = (1 : Int32))]
    show own_Fin p e below s _ _ _ s₁ (mkF m 37 #[.val (.ref a1), .val (.int (6 : Int32)), .val (.int (5 : Int32)), .unset, .unset] [(.int (1 : Int32))])
    refine own_by (fun _ k => XS.istoreN X0.here hx rfl (hb hby d3_37) rfl (l' := #[.val (.ref a1), .val (.int (6 : Int32)), .val (.int (5 : Int32)), .val (.int (1 : Int32)), .unset]) rfl (XS.iloadN X0.here hx rfl (hb hby d3_38) rfl k)) ?_
    show own_Fin p e below s _ _ _ s₁ (mkF m 39 #[.val (.ref a1), .val (.int (6 : Int32)), .val (.int (5 : Int32)), .val (.int (1 : Int32)), .unset] [(.int (5 : Int32))])
    refine own_by (fun _ k => XS.ifNo X0.here hx rfl (hb hby d3_39) rfl ((if0 _ _).trans (flt (by decide : ¬ ((5 : Int32) < (0 : Int32)))).1) k) ?_
    show own_Fin p e below s _ _ _ s₁ (mkF m 42 #[.val (.ref a1), .val (.int (6 : Int32)), .val (.int (5 : Int32)), .val (.int (1 : Int32)), .unset] [])
    refine own_by (fun _ k => XS.iloadN X0.here hx rfl (hb hby d3_42) rfl (XS.aloadN X0.here hx rfl (hb hby d3_43) rfl rfl (XS.iloadN X0.here hx rfl (hb hby d3_44) rfl k))) ?_
    show own_Fin p e below s _ _ _ s₁ (mkF m 45 #[.val (.ref a1), .val (.int (6 : Int32)), .val (.int (5 : Int32)), .val (.int (1 : Int32)), .unset] [(.int (5 : Int32)), (.ref a1), (.int (1 : Int32))])
    obtain ⟨cl81, Ar81, -, S81, M81, H81, -⟩ := id V1
    have hin81 : ¬ ((5 : Int32) < 0 ∨ cl81.slots.size ≤ ((5 : Int32)).toNatClampNeg) := inb_of S81 ⟨by decide, by decide⟩
    have hat81 : cl81.slots[((5 : Int32)).toNatClampNeg]? = some (.int v5) := Has.at H81 hin81 rfl
    refine own_by (fun _ k => X0.baloadBytes hx (j := (5 : Int32)) (v := (.int v5)) (by rw [e0]; exact Ar81.1) (State.isArrayOf_alike hZ.alike Ar81.2.1) Ar81.2.2 hin81 hat81 (g := (mkF m 45 #[.val (.ref a1), .val (.int (6 : Int32)), .val (.int (5 : Int32)), .val (.int (1 : Int32)), .unset] [(.int (5 : Int32)), (.ref a1), (.int (1 : Int32))])) rfl rfl (hb hby d3_45) _ k) ?_
    show own_Fin p e below s _ _ _ s₁ (mkF m 46 #[.val (.ref a1), .val (.int (6 : Int32)), .val (.int (5 : Int32)), .val (.int (1 : Int32)), .unset] [(.int v5), (.int (1 : Int32))])
    refine own_by (fun _ k => XS.sipush X0.here hx rfl (hb hby d3_46) (XS.iand X0.here hx rfl (hb hby d3_49) rfl k)) ?_
    show own_Fin p e below s _ _ _ s₁ (mkF m 50 #[.val (.ref a1), .val (.int (6 : Int32)), .val (.int (5 : Int32)), .val (.int (1 : Int32)), .unset] [(.int (v5 &&& (255 : Int32))), (.int (1 : Int32))])
    obtain ⟨_, _, ⟨T82, L82, k82, n82⟩, -, X82, ⟨Lc82, hQ82, l82, y82, z82⟩, st82⟩ := Jvm.LawKit.callS X0 hx (y := (⟨"com/example/munka/munka/util/Utf8", "sequenceLength", "(I)I"⟩ : MethodName)) hown (mvT hZ (hw _ (List.mem_of_getElem? (i := 13) rfl))) (mvT hZ (hw _ (List.mem_of_getElem? (i := 14) rfl))) (mvT hZ (hw _ (List.mem_of_getElem? (i := 11) rfl))) (mvT hZ (hw _ (List.mem_of_getElem? (i := 15) rfl))) (by decide) (backOf (W := 1) (rm4 l Z a0 hw [] (v5 &&& (255 : Int32)) h0 n0 Z0 ) hZ (hw _ (List.mem_of_getElem? (i := 15) rfl)) (hw _ (List.mem_of_getElem? (i := 11) rfl)) (by decide) (by decide)) (g := (mkF m 50 #[.val (.ref a1), .val (.int (6 : Int32)), .val (.int (5 : Int32)), .val (.int (1 : Int32)), .unset] [(.int (v5 &&& (255 : Int32))), (.int (1 : Int32))])) rfl (by rw [hml]; rfl) (argsL := [(.int (v5 &&& (255 : Int32)))]) (rest := [(.int (1 : Int32))]) (lenOf own_pd69 rfl) rfl (by show 2 * 0 + _ ≤ _; exact Nat.le_of_eq rfl) (hb hby d3_50) (fun _ _ => ⟨rfl, e0, (by decide : 0 + 0 ≤ _), (by decide : 0 + 0 ≤ _)⟩)
    dsimp only [Pt.U, Pt.locs, Pt.cells, Pt.slots] at X82 l82 y82 z82 st82 hQ82
    subst l82 y82 z82
    obtain ⟨rfl, Nq82, eh82⟩ := hQ82
    have N82 := Fr.app N0 Nq82
    refine own_by (fun _ k => st82 _ k) ?_
    show own_Fin p e below s _ _ _ T82 (mkF m 53 #[.val (.ref a1), .val (.int (6 : Int32)), .val (.int (5 : Int32)), .val (.int (1 : Int32)), .unset] [(.int (own_seq (v5 &&& (255 : Int32)))), (.int (1 : Int32))])
    by_cases hc53_83 : (1 : Int32) < (own_seq (v5 &&& (255 : Int32)))
    · show own_Fin p e below s _ _ _ T82 (mkF m 53 #[.val (.ref a1), .val (.int (6 : Int32)), .val (.int (5 : Int32)), .val (.int (1 : Int32)), .unset] [(.int (own_seq (v5 &&& (255 : Int32)))), (.int (1 : Int32))])
      refine own_by (fun _ k => XS.icmpNo X82.here hx rfl (hb hby d3_53) rfl (tlt hc53_83).2.1 k) ?_
      show own_Fin p e below s _ _ _ T82 (mkF m 56 #[.val (.ref a1), .val (.int (6 : Int32)), .val (.int (5 : Int32)), .val (.int (1 : Int32)), .unset] [])
      refine own_by (fun _ k => XS.iconst X82.here hx rfl (hb hby d3_56) (XS.goto X82.here hx rfl (pc0 := 57) (pc' := 61) rfl (hb hby d3_57) (by decide) (by decide) (XS.istore X82.here hx rfl (hb hby d3_61) rfl (l' := #[.val (.ref a1), .val (.int (6 : Int32)), .val (.int (5 : Int32)), .val (.int (1 : Int32)), .val (.int (1 : Int32))]) rfl (XS.iload X82.here hx rfl (hb hby d3_63) rfl k)))) ?_
      show own_Fin p e below s _ _ _ T82 (mkF m 65 #[.val (.ref a1), .val (.int (6 : Int32)), .val (.int (5 : Int32)), .val (.int (1 : Int32)), .val (.int (1 : Int32))] [(.int (1 : Int32))])
      refine own_by (fun _ k => XS.ifNo X82.here hx rfl (hb hby d3_65) rfl ((if0 _ _).trans (feq (by decide : ¬ ((1 : Int32) = (0 : Int32)))).1) k) ?_
      show own_Fin p e below s _ _ _ T82 (mkF m 68 #[.val (.ref a1), .val (.int (6 : Int32)), .val (.int (5 : Int32)), .val (.int (1 : Int32)), .val (.int (1 : Int32))] [])
      refine own_by (fun _ k => XS.iloadN X82.here hx rfl (hb hby d3_68) rfl (XS.goto X82.here hx rfl (pc0 := 69) (pc' := 73) rfl (hb hby d3_69) (by decide) (by decide) k)) ?_
      show own_Fin p e below s _ _ _ T82 (mkF m 73 #[.val (.ref a1), .val (.int (6 : Int32)), .val (.int (5 : Int32)), .val (.int (1 : Int32)), .val (.int (1 : Int32))] [(.int (1 : Int32))])
      exact own_retI X82 hx hlk hret (hb hby d3_73) ⟨own_vi (by show (1 : Int32) = _; first | (simp only [own_tl1, own_tl2, own_tl3, own_tl4, hc25_67, hc53_83, if_true, if_false]; done) | (simp only [own_tl1, own_tl2, own_tl3, own_tl4, hc25_67, hc53_83, if_true, if_false]; decide) | simp [own_tl1, own_tl2, own_tl3, own_tl4, hc25_67, hc53_83]), N82, eh82⟩ (by decide) (by decide)
    · show own_Fin p e below s _ _ _ T82 (mkF m 53 #[.val (.ref a1), .val (.int (6 : Int32)), .val (.int (5 : Int32)), .val (.int (1 : Int32)), .unset] [(.int (own_seq (v5 &&& (255 : Int32)))), (.int (1 : Int32))])
      refine own_by (fun _ k => XS.icmpYes X82.here hx rfl (pc0 := 53) (pc' := 60) rfl (hb hby d3_53) rfl (flt hc53_83).2.1 (by decide) (by decide) k) ?_
      show own_Fin p e below s _ _ _ T82 (mkF m 60 #[.val (.ref a1), .val (.int (6 : Int32)), .val (.int (5 : Int32)), .val (.int (1 : Int32)), .unset] [])
      refine own_by (fun _ k => XS.iconst X82.here hx rfl (hb hby d3_60) (XS.istore X82.here hx rfl (hb hby d3_61) rfl (l' := #[.val (.ref a1), .val (.int (6 : Int32)), .val (.int (5 : Int32)), .val (.int (1 : Int32)), .val (.int (0 : Int32))]) rfl (XS.iload X82.here hx rfl (hb hby d3_63) rfl k))) ?_
      show own_Fin p e below s _ _ _ T82 (mkF m 65 #[.val (.ref a1), .val (.int (6 : Int32)), .val (.int (5 : Int32)), .val (.int (1 : Int32)), .val (.int (0 : Int32))] [(.int (0 : Int32))])
      refine own_by (fun _ k => XS.ifYes X82.here hx rfl (pc0 := 65) (pc' := 72) rfl (hb hby d3_65) rfl ((if0 _ _).trans (teq (by decide : (0 : Int32) = (0 : Int32))).1) (by decide) (by decide) k) ?_
      show own_Fin p e below s _ _ _ T82 (mkF m 72 #[.val (.ref a1), .val (.int (6 : Int32)), .val (.int (5 : Int32)), .val (.int (1 : Int32)), .val (.int (0 : Int32))] [])
      refine own_by (fun _ k => XS.iconst X82.here hx rfl (hb hby d3_72) k) ?_
      show own_Fin p e below s _ _ _ T82 (mkF m 73 #[.val (.ref a1), .val (.int (6 : Int32)), .val (.int (5 : Int32)), .val (.int (1 : Int32)), .val (.int (0 : Int32))] [(.int (0 : Int32))])
      exact own_retI X82 hx hlk hret (hb hby d3_73) ⟨own_vi (by show (0 : Int32) = _; first | (simp only [own_tl1, own_tl2, own_tl3, own_tl4, hc25_67, hc53_83, if_true, if_false]; done) | (simp only [own_tl1, own_tl2, own_tl3, own_tl4, hc25_67, hc53_83, if_true, if_false]; decide) | simp [own_tl1, own_tl2, own_tl3, own_tl4, hc25_67, hc53_83]), N82, eh82⟩ (by decide) (by decide)
theorem ef_rmT7 (m : MethodId) (x0 : Addr) (x1 : Int32) : entryFrame m #[(.ref x0), (.int x1)] 5 = mkF m 0 #[.val (.ref x0), .val (.int x1), .unset, .unset, .unset] [] := by first | (simp [entryFrame, mkF, argsToLocals, Value.category]; done) | rfl
def own_QT7 (v0 v1 v2 v3 v4 v5 v6 v7 : Int32) (h0 : Heap) (n0 : Nat) (v : Option Value) (h : Heap) (L : List Loc) : Prop := v = some (.int ((own_tl4 v6 v5 v4 v3))) ∧ Fr n0 L ∧ h = h0
set_option maxRecDepth 65536 in
set_option maxHeartbeats 40000000 in
theorem rmT7 (l : Launch) (Z : State) (a0 : Array Value) (hw : ∀ d ∈ tables_1, d.before a0 Z = true) (ws : List Jvm.Cond) (a1 : Addr) (k : ClassId) (v0 v1 v2 v3 v4 v5 v6 v7 : Int32) (h0 : Heap) (n0 : Nat) (Z0 : n0 ≤ h0.size) (V1 : Arv Z h0 a1 k .byte (8 : Int32) [(.int v0), (.int v1), (.int v2), (.int v3), (.int v4), (.int v5), (.int v6), (.int v7)] (.int (0 : Int32))) : own_Met l Z (⟨"com/example/munka/munka/util/Utf8", "unfinishedTail", "([BI)I"⟩ : MethodName) prog_43_method_4_code 5 (some .int) ws (own_R 1 0 0 16) #[(.ref a1), (.int (7 : Int32))] h0 (own_QT7 v0 v1 v2 v3 v4 v5 v6 v7 h0 n0) := by
  refine own_enter n0 own_pn12 (fun m => ef_rmT7 m a1 (7 : Int32) ) (fun p e s m below meth c s₁ hx hby hlk hml hret hown hnm hZ X0 e0 N0 => ?_)
  show own_Fin p e below s _ _ _ s₁ (mkF m 0 #[.val (.ref a1), .val (.int (7 : Int32)), .unset, .unset, .unset] [])
  refine own_by (fun _ k => XS.iloadN X0.here hx rfl (hb hby d3_0) rfl (XS.iconst X0.here hx rfl (hb hby d3_1) (XS.isub X0.here hx rfl (hb hby d3_2) rfl k))) ?_
  show own_Fin p e below s _ _ _ s₁ (mkF m 3 #[.val (.ref a1), .val (.int (7 : Int32)), .unset, .unset, .unset] [(.int ((7 : Int32) - (1 : Int32)))])
  rw [(by decide : ((7 : Int32) - (1 : Int32)) = (6 : Int32))]
  show own_Fin p e below s _ _ _ s₁ (mkF m 3 #[.val (.ref a1), .val (.int (7 : Int32)), .unset, .unset, .unset] [(.int (6 : Int32))])
  refine own_by (fun _ k => XS.istoreN X0.here hx rfl (hb hby d3_3) rfl (l' := #[.val (.ref a1), .val (.int (7 : Int32)), .val (.int (6 : Int32)), .unset, .unset]) rfl (XS.iloadN X0.here hx rfl (hb hby d3_4) rfl k)) ?_
  show own_Fin p e below s _ _ _ s₁ (mkF m 5 #[.val (.ref a1), .val (.int (7 : Int32)), .val (.int (6 : Int32)), .unset, .unset] [(.int (6 : Int32))])
  refine own_by (fun _ k => XS.ifNo X0.here hx rfl (hb hby d3_5) rfl ((if0 _ _).trans (tlt (by decide : (0 : Int32) < (6 : Int32))).2.2.2) k) ?_
  show own_Fin p e below s _ _ _ s₁ (mkF m 8 #[.val (.ref a1), .val (.int (7 : Int32)), .val (.int (6 : Int32)), .unset, .unset] [])
  refine own_by (fun _ k => XS.iloadN X0.here hx rfl (hb hby d3_8) rfl (XS.iloadN X0.here hx rfl (hb hby d3_9) rfl (XS.iconst X0.here hx rfl (hb hby d3_10) (XS.isub X0.here hx rfl (hb hby d3_11) rfl k)))) ?_
  show own_Fin p e below s _ _ _ s₁ (mkF m 12 #[.val (.ref a1), .val (.int (7 : Int32)), .val (.int (6 : Int32)), .unset, .unset] [(.int ((7 : Int32) - (4 : Int32))), (.int (6 : Int32))])
  rw [(by decide : ((7 : Int32) - (4 : Int32)) = (3 : Int32))]
  show own_Fin p e below s _ _ _ s₁ (mkF m 12 #[.val (.ref a1), .val (.int (7 : Int32)), .val (.int (6 : Int32)), .unset, .unset] [(.int (3 : Int32)), (.int (6 : Int32))])
  refine own_by (fun _ k => XS.icmpNo X0.here hx rfl (hb hby d3_12) rfl (tlt (by decide : (3 : Int32) < (6 : Int32))).2.2.2 k) ?_
  show own_Fin p e below s _ _ _ s₁ (mkF m 15 #[.val (.ref a1), .val (.int (7 : Int32)), .val (.int (6 : Int32)), .unset, .unset] [])
  refine own_by (fun _ k => XS.aloadN X0.here hx rfl (hb hby d3_15) rfl rfl (XS.iloadN X0.here hx rfl (hb hby d3_16) rfl k)) ?_
  show own_Fin p e below s _ _ _ s₁ (mkF m 17 #[.val (.ref a1), .val (.int (7 : Int32)), .val (.int (6 : Int32)), .unset, .unset] [(.int (6 : Int32)), (.ref a1)])
  obtain ⟨cl84, Ar84, -, S84, M84, H84, -⟩ := id V1
  have hin84 : ¬ ((6 : Int32) < 0 ∨ cl84.slots.size ≤ ((6 : Int32)).toNatClampNeg) := inb_of S84 ⟨by decide, by decide⟩
  have hat84 : cl84.slots[((6 : Int32)).toNatClampNeg]? = some (.int v6) := Has.at H84 hin84 rfl
  refine own_by (fun _ k => X0.baloadBytes hx (j := (6 : Int32)) (v := (.int v6)) (by rw [e0]; exact Ar84.1) (State.isArrayOf_alike hZ.alike Ar84.2.1) Ar84.2.2 hin84 hat84 (g := (mkF m 17 #[.val (.ref a1), .val (.int (7 : Int32)), .val (.int (6 : Int32)), .unset, .unset] [(.int (6 : Int32)), (.ref a1)])) rfl rfl (hb hby d3_17) _ k) ?_
  show own_Fin p e below s _ _ _ s₁ (mkF m 18 #[.val (.ref a1), .val (.int (7 : Int32)), .val (.int (6 : Int32)), .unset, .unset] [(.int v6)])
  refine own_by (fun _ k => XS.sipush X0.here hx rfl (hb hby d3_18) (XS.iand X0.here hx rfl (hb hby d3_21) rfl (XS.sipush X0.here hx rfl (hb hby d3_22) k))) ?_
  show own_Fin p e below s _ _ _ s₁ (mkF m 25 #[.val (.ref a1), .val (.int (7 : Int32)), .val (.int (6 : Int32)), .unset, .unset] [(.int (128 : Int32)), (.int (v6 &&& (192 : Int32)))])
  by_cases hc25_85 : (v6 &&& (192 : Int32)) = (128 : Int32)
  · show own_Fin p e below s _ _ _ s₁ (mkF m 25 #[.val (.ref a1), .val (.int (7 : Int32)), .val (.int (6 : Int32)), .unset, .unset] [(.int (128 : Int32)), (.int (v6 &&& (192 : Int32)))])
    refine own_by (fun _ k => XS.icmpNo X0.here hx rfl (hb hby d3_25) rfl (teq hc25_85).2 k) ?_
    show own_Fin p e below s _ _ _ s₁ (mkF m 28 #[.val (.ref a1), .val (.int (7 : Int32)), .val (.int (6 : Int32)), .unset, .unset] [])
    refine own_by (fun _ k => XS.iinc X0.here hx rfl (hb hby d3_28) rfl (l' := #[.val (.ref a1), .val (.int (7 : Int32)), .val (.int ((6 : Int32) + (-1 : Int32))), .unset, .unset]) rfl k) ?_
    show own_Fin p e below s _ _ _ s₁ (mkF m 31 #[.val (.ref a1), .val (.int (7 : Int32)), .val (.int ((6 : Int32) + (-1 : Int32))), .unset, .unset] [])
    rw [(by decide : ((6 : Int32) + (-1 : Int32)) = (5 : Int32))]
    show own_Fin p e below s _ _ _ s₁ (mkF m 31 #[.val (.ref a1), .val (.int (7 : Int32)), .val (.int (5 : Int32)), .unset, .unset] [])
    refine own_by (fun _ k => XS.goto X0.here hx rfl (pc0 := 31) (pc' := 4) rfl (hb hby d3_31) (by decide) (by decide) (XS.iloadN X0.here hx rfl (hb hby d3_4) rfl k)) ?_
    show own_Fin p e below s _ _ _ s₁ (mkF m 5 #[.val (.ref a1), .val (.int (7 : Int32)), .val (.int (5 : Int32)), .unset, .unset] [(.int (5 : Int32))])
    refine own_by (fun _ k => XS.ifNo X0.here hx rfl (hb hby d3_5) rfl ((if0 _ _).trans (tlt (by decide : (0 : Int32) < (5 : Int32))).2.2.2) k) ?_
    show own_Fin p e below s _ _ _ s₁ (mkF m 8 #[.val (.ref a1), .val (.int (7 : Int32)), .val (.int (5 : Int32)), .unset, .unset] [])
    refine own_by (fun _ k => XS.iloadN X0.here hx rfl (hb hby d3_8) rfl (XS.iloadN X0.here hx rfl (hb hby d3_9) rfl (XS.iconst X0.here hx rfl (hb hby d3_10) (XS.isub X0.here hx rfl (hb hby d3_11) rfl k)))) ?_
    show own_Fin p e below s _ _ _ s₁ (mkF m 12 #[.val (.ref a1), .val (.int (7 : Int32)), .val (.int (5 : Int32)), .unset, .unset] [(.int ((7 : Int32) - (4 : Int32))), (.int (5 : Int32))])
    rw [(by decide : ((7 : Int32) - (4 : Int32)) = (3 : Int32))]
    show own_Fin p e below s _ _ _ s₁ (mkF m 12 #[.val (.ref a1), .val (.int (7 : Int32)), .val (.int (5 : Int32)), .unset, .unset] [(.int (3 : Int32)), (.int (5 : Int32))])
    refine own_by (fun _ k => XS.icmpNo X0.here hx rfl (hb hby d3_12) rfl (tlt (by decide : (3 : Int32) < (5 : Int32))).2.2.2 k) ?_
    show own_Fin p e below s _ _ _ s₁ (mkF m 15 #[.val (.ref a1), .val (.int (7 : Int32)), .val (.int (5 : Int32)), .unset, .unset] [])
    refine own_by (fun _ k => XS.aloadN X0.here hx rfl (hb hby d3_15) rfl rfl (XS.iloadN X0.here hx rfl (hb hby d3_16) rfl k)) ?_
    show own_Fin p e below s _ _ _ s₁ (mkF m 17 #[.val (.ref a1), .val (.int (7 : Int32)), .val (.int (5 : Int32)), .unset, .unset] [(.int (5 : Int32)), (.ref a1)])
    obtain ⟨cl86, Ar86, -, S86, M86, H86, -⟩ := id V1
    have hin86 : ¬ ((5 : Int32) < 0 ∨ cl86.slots.size ≤ ((5 : Int32)).toNatClampNeg) := inb_of S86 ⟨by decide, by decide⟩
    have hat86 : cl86.slots[((5 : Int32)).toNatClampNeg]? = some (.int v5) := Has.at H86 hin86 rfl
    refine own_by (fun _ k => X0.baloadBytes hx (j := (5 : Int32)) (v := (.int v5)) (by rw [e0]; exact Ar86.1) (State.isArrayOf_alike hZ.alike Ar86.2.1) Ar86.2.2 hin86 hat86 (g := (mkF m 17 #[.val (.ref a1), .val (.int (7 : Int32)), .val (.int (5 : Int32)), .unset, .unset] [(.int (5 : Int32)), (.ref a1)])) rfl rfl (hb hby d3_17) _ k) ?_
    show own_Fin p e below s _ _ _ s₁ (mkF m 18 #[.val (.ref a1), .val (.int (7 : Int32)), .val (.int (5 : Int32)), .unset, .unset] [(.int v5)])
    refine own_by (fun _ k => XS.sipush X0.here hx rfl (hb hby d3_18) (XS.iand X0.here hx rfl (hb hby d3_21) rfl (XS.sipush X0.here hx rfl (hb hby d3_22) k))) ?_
    show own_Fin p e below s _ _ _ s₁ (mkF m 25 #[.val (.ref a1), .val (.int (7 : Int32)), .val (.int (5 : Int32)), .unset, .unset] [(.int (128 : Int32)), (.int (v5 &&& (192 : Int32)))])
    by_cases hc25_87 : (v5 &&& (192 : Int32)) = (128 : Int32)
    · show own_Fin p e below s _ _ _ s₁ (mkF m 25 #[.val (.ref a1), .val (.int (7 : Int32)), .val (.int (5 : Int32)), .unset, .unset] [(.int (128 : Int32)), (.int (v5 &&& (192 : Int32)))])
      refine own_by (fun _ k => XS.icmpNo X0.here hx rfl (hb hby d3_25) rfl (teq hc25_87).2 k) ?_
      show own_Fin p e below s _ _ _ s₁ (mkF m 28 #[.val (.ref a1), .val (.int (7 : Int32)), .val (.int (5 : Int32)), .unset, .unset] [])
      refine own_by (fun _ k => XS.iinc X0.here hx rfl (hb hby d3_28) rfl (l' := #[.val (.ref a1), .val (.int (7 : Int32)), .val (.int ((5 : Int32) + (-1 : Int32))), .unset, .unset]) rfl k) ?_
      show own_Fin p e below s _ _ _ s₁ (mkF m 31 #[.val (.ref a1), .val (.int (7 : Int32)), .val (.int ((5 : Int32) + (-1 : Int32))), .unset, .unset] [])
      rw [(by decide : ((5 : Int32) + (-1 : Int32)) = (4 : Int32))]
      show own_Fin p e below s _ _ _ s₁ (mkF m 31 #[.val (.ref a1), .val (.int (7 : Int32)), .val (.int (4 : Int32)), .unset, .unset] [])
      refine own_by (fun _ k => XS.goto X0.here hx rfl (pc0 := 31) (pc' := 4) rfl (hb hby d3_31) (by decide) (by decide) (XS.iloadN X0.here hx rfl (hb hby d3_4) rfl k)) ?_
      show own_Fin p e below s _ _ _ s₁ (mkF m 5 #[.val (.ref a1), .val (.int (7 : Int32)), .val (.int (4 : Int32)), .unset, .unset] [(.int (4 : Int32))])
      refine own_by (fun _ k => XS.ifNo X0.here hx rfl (hb hby d3_5) rfl ((if0 _ _).trans (tlt (by decide : (0 : Int32) < (4 : Int32))).2.2.2) k) ?_
      show own_Fin p e below s _ _ _ s₁ (mkF m 8 #[.val (.ref a1), .val (.int (7 : Int32)), .val (.int (4 : Int32)), .unset, .unset] [])
      refine own_by (fun _ k => XS.iloadN X0.here hx rfl (hb hby d3_8) rfl (XS.iloadN X0.here hx rfl (hb hby d3_9) rfl (XS.iconst X0.here hx rfl (hb hby d3_10) (XS.isub X0.here hx rfl (hb hby d3_11) rfl k)))) ?_
      show own_Fin p e below s _ _ _ s₁ (mkF m 12 #[.val (.ref a1), .val (.int (7 : Int32)), .val (.int (4 : Int32)), .unset, .unset] [(.int ((7 : Int32) - (4 : Int32))), (.int (4 : Int32))])
      rw [(by decide : ((7 : Int32) - (4 : Int32)) = (3 : Int32))]
      show own_Fin p e below s _ _ _ s₁ (mkF m 12 #[.val (.ref a1), .val (.int (7 : Int32)), .val (.int (4 : Int32)), .unset, .unset] [(.int (3 : Int32)), (.int (4 : Int32))])
      refine own_by (fun _ k => XS.icmpNo X0.here hx rfl (hb hby d3_12) rfl (tlt (by decide : (3 : Int32) < (4 : Int32))).2.2.2 k) ?_
      show own_Fin p e below s _ _ _ s₁ (mkF m 15 #[.val (.ref a1), .val (.int (7 : Int32)), .val (.int (4 : Int32)), .unset, .unset] [])
      refine own_by (fun _ k => XS.aloadN X0.here hx rfl (hb hby d3_15) rfl rfl (XS.iloadN X0.here hx rfl (hb hby d3_16) rfl k)) ?_
      show own_Fin p e below s _ _ _ s₁ (mkF m 17 #[.val (.ref a1), .val (.int (7 : Int32)), .val (.int (4 : Int32)), .unset, .unset] [(.int (4 : Int32)), (.ref a1)])
      obtain ⟨cl88, Ar88, -, S88, M88, H88, -⟩ := id V1
      have hin88 : ¬ ((4 : Int32) < 0 ∨ cl88.slots.size ≤ ((4 : Int32)).toNatClampNeg) := inb_of S88 ⟨by decide, by decide⟩
      have hat88 : cl88.slots[((4 : Int32)).toNatClampNeg]? = some (.int v4) := Has.at H88 hin88 rfl
      refine own_by (fun _ k => X0.baloadBytes hx (j := (4 : Int32)) (v := (.int v4)) (by rw [e0]; exact Ar88.1) (State.isArrayOf_alike hZ.alike Ar88.2.1) Ar88.2.2 hin88 hat88 (g := (mkF m 17 #[.val (.ref a1), .val (.int (7 : Int32)), .val (.int (4 : Int32)), .unset, .unset] [(.int (4 : Int32)), (.ref a1)])) rfl rfl (hb hby d3_17) _ k) ?_
      show own_Fin p e below s _ _ _ s₁ (mkF m 18 #[.val (.ref a1), .val (.int (7 : Int32)), .val (.int (4 : Int32)), .unset, .unset] [(.int v4)])
      refine own_by (fun _ k => XS.sipush X0.here hx rfl (hb hby d3_18) (XS.iand X0.here hx rfl (hb hby d3_21) rfl (XS.sipush X0.here hx rfl (hb hby d3_22) k))) ?_
      show own_Fin p e below s _ _ _ s₁ (mkF m 25 #[.val (.ref a1), .val (.int (7 : Int32)), .val (.int (4 : Int32)), .unset, .unset] [(.int (128 : Int32)), (.int (v4 &&& (192 : Int32)))])
      by_cases hc25_89 : (v4 &&& (192 : Int32)) = (128 : Int32)
      · show own_Fin p e below s _ _ _ s₁ (mkF m 25 #[.val (.ref a1), .val (.int (7 : Int32)), .val (.int (4 : Int32)), .unset, .unset] [(.int (128 : Int32)), (.int (v4 &&& (192 : Int32)))])
        refine own_by (fun _ k => XS.icmpNo X0.here hx rfl (hb hby d3_25) rfl (teq hc25_89).2 k) ?_
        show own_Fin p e below s _ _ _ s₁ (mkF m 28 #[.val (.ref a1), .val (.int (7 : Int32)), .val (.int (4 : Int32)), .unset, .unset] [])
        refine own_by (fun _ k => XS.iinc X0.here hx rfl (hb hby d3_28) rfl (l' := #[.val (.ref a1), .val (.int (7 : Int32)), .val (.int ((4 : Int32) + (-1 : Int32))), .unset, .unset]) rfl k) ?_
        show own_Fin p e below s _ _ _ s₁ (mkF m 31 #[.val (.ref a1), .val (.int (7 : Int32)), .val (.int ((4 : Int32) + (-1 : Int32))), .unset, .unset] [])
        rw [(by decide : ((4 : Int32) + (-1 : Int32)) = (3 : Int32))]
        show own_Fin p e below s _ _ _ s₁ (mkF m 31 #[.val (.ref a1), .val (.int (7 : Int32)), .val (.int (3 : Int32)), .unset, .unset] [])
        refine own_by (fun _ k => XS.goto X0.here hx rfl (pc0 := 31) (pc' := 4) rfl (hb hby d3_31) (by decide) (by decide) (XS.iloadN X0.here hx rfl (hb hby d3_4) rfl k)) ?_
        show own_Fin p e below s _ _ _ s₁ (mkF m 5 #[.val (.ref a1), .val (.int (7 : Int32)), .val (.int (3 : Int32)), .unset, .unset] [(.int (3 : Int32))])
        refine own_by (fun _ k => XS.ifNo X0.here hx rfl (hb hby d3_5) rfl ((if0 _ _).trans (tlt (by decide : (0 : Int32) < (3 : Int32))).2.2.2) k) ?_
        show own_Fin p e below s _ _ _ s₁ (mkF m 8 #[.val (.ref a1), .val (.int (7 : Int32)), .val (.int (3 : Int32)), .unset, .unset] [])
        refine own_by (fun _ k => XS.iloadN X0.here hx rfl (hb hby d3_8) rfl (XS.iloadN X0.here hx rfl (hb hby d3_9) rfl (XS.iconst X0.here hx rfl (hb hby d3_10) (XS.isub X0.here hx rfl (hb hby d3_11) rfl k)))) ?_
        show own_Fin p e below s _ _ _ s₁ (mkF m 12 #[.val (.ref a1), .val (.int (7 : Int32)), .val (.int (3 : Int32)), .unset, .unset] [(.int ((7 : Int32) - (4 : Int32))), (.int (3 : Int32))])
        rw [(by decide : ((7 : Int32) - (4 : Int32)) = (3 : Int32))]
        show own_Fin p e below s _ _ _ s₁ (mkF m 12 #[.val (.ref a1), .val (.int (7 : Int32)), .val (.int (3 : Int32)), .unset, .unset] [(.int (3 : Int32)), (.int (3 : Int32))])
        refine own_by (fun _ k => XS.icmpYes X0.here hx rfl (pc0 := 12) (pc' := 34) rfl (hb hby d3_12) rfl (flt (by decide : ¬ ((3 : Int32) < (3 : Int32)))).2.2.2 (by decide) (by decide) k) ?_
        show own_Fin p e below s _ _ _ s₁ (mkF m 34 #[.val (.ref a1), .val (.int (7 : Int32)), .val (.int (3 : Int32)), .unset, .unset] [])
        refine own_by (fun _ k => XS.iloadN X0.here hx rfl (hb hby d3_34) rfl (XS.iloadN X0.here hx rfl (hb hby d3_35) rfl (XS.isub X0.here hx rfl (hb hby d3_36) rfl k))) ?_
        show own_Fin p e below s _ _ _ s₁ (mkF m 37 #[.val (.ref a1), .val (.int (7 : Int32)), .val (.int (3 : Int32)), .unset, .unset] [(.int ((7 : Int32) - (3 : Int32)))])
        rw [(by decide : ((7 : Int32) - (3 : Int32)) = (4 : Int32))]
        show own_Fin p e below s _ _ _ s₁ (mkF m 37 #[.val (.ref a1), .val (.int (7 : Int32)), .val (.int (3 : Int32)), .unset, .unset] [(.int (4 : Int32))])
        refine own_by (fun _ k => XS.istoreN X0.here hx rfl (hb hby d3_37) rfl (l' := #[.val (.ref a1), .val (.int (7 : Int32)), .val (.int (3 : Int32)), .val (.int (4 : Int32)), .unset]) rfl (XS.iloadN X0.here hx rfl (hb hby d3_38) rfl k)) ?_
        show own_Fin p e below s _ _ _ s₁ (mkF m 39 #[.val (.ref a1), .val (.int (7 : Int32)), .val (.int (3 : Int32)), .val (.int (4 : Int32)), .unset] [(.int (3 : Int32))])
        refine own_by (fun _ k => XS.ifNo X0.here hx rfl (hb hby d3_39) rfl ((if0 _ _).trans (flt (by decide : ¬ ((3 : Int32) < (0 : Int32)))).1) k) ?_
        show own_Fin p e below s _ _ _ s₁ (mkF m 42 #[.val (.ref a1), .val (.int (7 : Int32)), .val (.int (3 : Int32)), .val (.int (4 : Int32)), .unset] [])
        refine own_by (fun _ k => XS.iloadN X0.here hx rfl (hb hby d3_42) rfl (XS.aloadN X0.here hx rfl (hb hby d3_43) rfl rfl (XS.iloadN X0.here hx rfl (hb hby d3_44) rfl k))) ?_
        show own_Fin p e below s _ _ _ s₁ (mkF m 45 #[.val (.ref a1), .val (.int (7 : Int32)), .val (.int (3 : Int32)), .val (.int (4 : Int32)), .unset] [(.int (3 : Int32)), (.ref a1), (.int (4 : Int32))])
        obtain ⟨cl90, Ar90, -, S90, M90, H90, -⟩ := id V1
        have hin90 : ¬ ((3 : Int32) < 0 ∨ cl90.slots.size ≤ ((3 : Int32)).toNatClampNeg) := inb_of S90 ⟨by decide, by decide⟩
        have hat90 : cl90.slots[((3 : Int32)).toNatClampNeg]? = some (.int v3) := Has.at H90 hin90 rfl
        refine own_by (fun _ k => X0.baloadBytes hx (j := (3 : Int32)) (v := (.int v3)) (by rw [e0]; exact Ar90.1) (State.isArrayOf_alike hZ.alike Ar90.2.1) Ar90.2.2 hin90 hat90 (g := (mkF m 45 #[.val (.ref a1), .val (.int (7 : Int32)), .val (.int (3 : Int32)), .val (.int (4 : Int32)), .unset] [(.int (3 : Int32)), (.ref a1), (.int (4 : Int32))])) rfl rfl (hb hby d3_45) _ k) ?_
        show own_Fin p e below s _ _ _ s₁ (mkF m 46 #[.val (.ref a1), .val (.int (7 : Int32)), .val (.int (3 : Int32)), .val (.int (4 : Int32)), .unset] [(.int v3), (.int (4 : Int32))])
        refine own_by (fun _ k => XS.sipush X0.here hx rfl (hb hby d3_46) (XS.iand X0.here hx rfl (hb hby d3_49) rfl k)) ?_
        show own_Fin p e below s _ _ _ s₁ (mkF m 50 #[.val (.ref a1), .val (.int (7 : Int32)), .val (.int (3 : Int32)), .val (.int (4 : Int32)), .unset] [(.int (v3 &&& (255 : Int32))), (.int (4 : Int32))])
        obtain ⟨_, _, ⟨T91, L91, k91, n91⟩, -, X91, ⟨Lc91, hQ91, l91, y91, z91⟩, st91⟩ := Jvm.LawKit.callS X0 hx (y := (⟨"com/example/munka/munka/util/Utf8", "sequenceLength", "(I)I"⟩ : MethodName)) hown (mvT hZ (hw _ (List.mem_of_getElem? (i := 13) rfl))) (mvT hZ (hw _ (List.mem_of_getElem? (i := 14) rfl))) (mvT hZ (hw _ (List.mem_of_getElem? (i := 11) rfl))) (mvT hZ (hw _ (List.mem_of_getElem? (i := 15) rfl))) (by decide) (backOf (W := 1) (rm4 l Z a0 hw [] (v3 &&& (255 : Int32)) h0 n0 Z0 ) hZ (hw _ (List.mem_of_getElem? (i := 15) rfl)) (hw _ (List.mem_of_getElem? (i := 11) rfl)) (by decide) (by decide)) (g := (mkF m 50 #[.val (.ref a1), .val (.int (7 : Int32)), .val (.int (3 : Int32)), .val (.int (4 : Int32)), .unset] [(.int (v3 &&& (255 : Int32))), (.int (4 : Int32))])) rfl (by rw [hml]; rfl) (argsL := [(.int (v3 &&& (255 : Int32)))]) (rest := [(.int (4 : Int32))]) (lenOf own_pd69 rfl) rfl (by show 2 * 0 + _ ≤ _; exact Nat.le_of_eq rfl) (hb hby d3_50) (fun _ _ => ⟨rfl, e0, (by decide : 0 + 0 ≤ _), (by decide : 0 + 0 ≤ _)⟩)
        dsimp only [Pt.U, Pt.locs, Pt.cells, Pt.slots] at X91 l91 y91 z91 st91 hQ91
        subst l91 y91 z91
        obtain ⟨rfl, Nq91, eh91⟩ := hQ91
        have N91 := Fr.app N0 Nq91
        refine own_by (fun _ k => st91 _ k) ?_
        show own_Fin p e below s _ _ _ T91 (mkF m 53 #[.val (.ref a1), .val (.int (7 : Int32)), .val (.int (3 : Int32)), .val (.int (4 : Int32)), .unset] [(.int (own_seq (v3 &&& (255 : Int32)))), (.int (4 : Int32))])
        by_cases hc53_92 : (4 : Int32) < (own_seq (v3 &&& (255 : Int32)))
        · show own_Fin p e below s _ _ _ T91 (mkF m 53 #[.val (.ref a1), .val (.int (7 : Int32)), .val (.int (3 : Int32)), .val (.int (4 : Int32)), .unset] [(.int (own_seq (v3 &&& (255 : Int32)))), (.int (4 : Int32))])
          refine own_by (fun _ k => XS.icmpNo X91.here hx rfl (hb hby d3_53) rfl (tlt hc53_92).2.1 k) ?_
          show own_Fin p e below s _ _ _ T91 (mkF m 56 #[.val (.ref a1), .val (.int (7 : Int32)), .val (.int (3 : Int32)), .val (.int (4 : Int32)), .unset] [])
          refine own_by (fun _ k => XS.iconst X91.here hx rfl (hb hby d3_56) (XS.goto X91.here hx rfl (pc0 := 57) (pc' := 61) rfl (hb hby d3_57) (by decide) (by decide) (XS.istore X91.here hx rfl (hb hby d3_61) rfl (l' := #[.val (.ref a1), .val (.int (7 : Int32)), .val (.int (3 : Int32)), .val (.int (4 : Int32)), .val (.int (1 : Int32))]) rfl (XS.iload X91.here hx rfl (hb hby d3_63) rfl k)))) ?_
          show own_Fin p e below s _ _ _ T91 (mkF m 65 #[.val (.ref a1), .val (.int (7 : Int32)), .val (.int (3 : Int32)), .val (.int (4 : Int32)), .val (.int (1 : Int32))] [(.int (1 : Int32))])
          refine own_by (fun _ k => XS.ifNo X91.here hx rfl (hb hby d3_65) rfl ((if0 _ _).trans (feq (by decide : ¬ ((1 : Int32) = (0 : Int32)))).1) k) ?_
          show own_Fin p e below s _ _ _ T91 (mkF m 68 #[.val (.ref a1), .val (.int (7 : Int32)), .val (.int (3 : Int32)), .val (.int (4 : Int32)), .val (.int (1 : Int32))] [])
          refine own_by (fun _ k => XS.iloadN X91.here hx rfl (hb hby d3_68) rfl (XS.goto X91.here hx rfl (pc0 := 69) (pc' := 73) rfl (hb hby d3_69) (by decide) (by decide) k)) ?_
          show own_Fin p e below s _ _ _ T91 (mkF m 73 #[.val (.ref a1), .val (.int (7 : Int32)), .val (.int (3 : Int32)), .val (.int (4 : Int32)), .val (.int (1 : Int32))] [(.int (4 : Int32))])
          exact own_retI X91 hx hlk hret (hb hby d3_73) ⟨own_vi (by show (4 : Int32) = _; first | (simp only [own_tl1, own_tl2, own_tl3, own_tl4, hc25_85, hc25_87, hc25_89, hc53_92, if_true, if_false]; done) | (simp only [own_tl1, own_tl2, own_tl3, own_tl4, hc25_85, hc25_87, hc25_89, hc53_92, if_true, if_false]; decide) | simp [own_tl1, own_tl2, own_tl3, own_tl4, hc25_85, hc25_87, hc25_89, hc53_92]), N91, eh91⟩ (by decide) (by decide)
        · show own_Fin p e below s _ _ _ T91 (mkF m 53 #[.val (.ref a1), .val (.int (7 : Int32)), .val (.int (3 : Int32)), .val (.int (4 : Int32)), .unset] [(.int (own_seq (v3 &&& (255 : Int32)))), (.int (4 : Int32))])
          refine own_by (fun _ k => XS.icmpYes X91.here hx rfl (pc0 := 53) (pc' := 60) rfl (hb hby d3_53) rfl (flt hc53_92).2.1 (by decide) (by decide) k) ?_
          show own_Fin p e below s _ _ _ T91 (mkF m 60 #[.val (.ref a1), .val (.int (7 : Int32)), .val (.int (3 : Int32)), .val (.int (4 : Int32)), .unset] [])
          refine own_by (fun _ k => XS.iconst X91.here hx rfl (hb hby d3_60) (XS.istore X91.here hx rfl (hb hby d3_61) rfl (l' := #[.val (.ref a1), .val (.int (7 : Int32)), .val (.int (3 : Int32)), .val (.int (4 : Int32)), .val (.int (0 : Int32))]) rfl (XS.iload X91.here hx rfl (hb hby d3_63) rfl k))) ?_
          show own_Fin p e below s _ _ _ T91 (mkF m 65 #[.val (.ref a1), .val (.int (7 : Int32)), .val (.int (3 : Int32)), .val (.int (4 : Int32)), .val (.int (0 : Int32))] [(.int (0 : Int32))])
          refine own_by (fun _ k => XS.ifYes X91.here hx rfl (pc0 := 65) (pc' := 72) rfl (hb hby d3_65) rfl ((if0 _ _).trans (teq (by decide : (0 : Int32) = (0 : Int32))).1) (by decide) (by decide) k) ?_
          show own_Fin p e below s _ _ _ T91 (mkF m 72 #[.val (.ref a1), .val (.int (7 : Int32)), .val (.int (3 : Int32)), .val (.int (4 : Int32)), .val (.int (0 : Int32))] [])
          refine own_by (fun _ k => XS.iconst X91.here hx rfl (hb hby d3_72) k) ?_
          show own_Fin p e below s _ _ _ T91 (mkF m 73 #[.val (.ref a1), .val (.int (7 : Int32)), .val (.int (3 : Int32)), .val (.int (4 : Int32)), .val (.int (0 : Int32))] [(.int (0 : Int32))])
          exact own_retI X91 hx hlk hret (hb hby d3_73) ⟨own_vi (by show (0 : Int32) = _; first | (simp only [own_tl1, own_tl2, own_tl3, own_tl4, hc25_85, hc25_87, hc25_89, hc53_92, if_true, if_false]; done) | (simp only [own_tl1, own_tl2, own_tl3, own_tl4, hc25_85, hc25_87, hc25_89, hc53_92, if_true, if_false]; decide) | simp [own_tl1, own_tl2, own_tl3, own_tl4, hc25_85, hc25_87, hc25_89, hc53_92]), N91, eh91⟩ (by decide) (by decide)
      · show own_Fin p e below s _ _ _ s₁ (mkF m 25 #[.val (.ref a1), .val (.int (7 : Int32)), .val (.int (4 : Int32)), .unset, .unset] [(.int (128 : Int32)), (.int (v4 &&& (192 : Int32)))])
        refine own_by (fun _ k => XS.icmpYes X0.here hx rfl (pc0 := 25) (pc' := 34) rfl (hb hby d3_25) rfl (feq hc25_89).2 (by decide) (by decide) k) ?_
        show own_Fin p e below s _ _ _ s₁ (mkF m 34 #[.val (.ref a1), .val (.int (7 : Int32)), .val (.int (4 : Int32)), .unset, .unset] [])
        refine own_by (fun _ k => XS.iloadN X0.here hx rfl (hb hby d3_34) rfl (XS.iloadN X0.here hx rfl (hb hby d3_35) rfl (XS.isub X0.here hx rfl (hb hby d3_36) rfl k))) ?_
        show own_Fin p e below s _ _ _ s₁ (mkF m 37 #[.val (.ref a1), .val (.int (7 : Int32)), .val (.int (4 : Int32)), .unset, .unset] [(.int ((7 : Int32) - (4 : Int32)))])
        rw [(by decide : ((7 : Int32) - (4 : Int32)) = (3 : Int32))]
        show own_Fin p e below s _ _ _ s₁ (mkF m 37 #[.val (.ref a1), .val (.int (7 : Int32)), .val (.int (4 : Int32)), .unset, .unset] [(.int (3 : Int32))])
        refine own_by (fun _ k => XS.istoreN X0.here hx rfl (hb hby d3_37) rfl (l' := #[.val (.ref a1), .val (.int (7 : Int32)), .val (.int (4 : Int32)), .val (.int (3 : Int32)), .unset]) rfl (XS.iloadN X0.here hx rfl (hb hby d3_38) rfl k)) ?_
        show own_Fin p e below s _ _ _ s₁ (mkF m 39 #[.val (.ref a1), .val (.int (7 : Int32)), .val (.int (4 : Int32)), .val (.int (3 : Int32)), .unset] [(.int (4 : Int32))])
        refine own_by (fun _ k => XS.ifNo X0.here hx rfl (hb hby d3_39) rfl ((if0 _ _).trans (flt (by decide : ¬ ((4 : Int32) < (0 : Int32)))).1) k) ?_
        show own_Fin p e below s _ _ _ s₁ (mkF m 42 #[.val (.ref a1), .val (.int (7 : Int32)), .val (.int (4 : Int32)), .val (.int (3 : Int32)), .unset] [])
        refine own_by (fun _ k => XS.iloadN X0.here hx rfl (hb hby d3_42) rfl (XS.aloadN X0.here hx rfl (hb hby d3_43) rfl rfl (XS.iloadN X0.here hx rfl (hb hby d3_44) rfl k))) ?_
        show own_Fin p e below s _ _ _ s₁ (mkF m 45 #[.val (.ref a1), .val (.int (7 : Int32)), .val (.int (4 : Int32)), .val (.int (3 : Int32)), .unset] [(.int (4 : Int32)), (.ref a1), (.int (3 : Int32))])
        obtain ⟨cl93, Ar93, -, S93, M93, H93, -⟩ := id V1
        have hin93 : ¬ ((4 : Int32) < 0 ∨ cl93.slots.size ≤ ((4 : Int32)).toNatClampNeg) := inb_of S93 ⟨by decide, by decide⟩
        have hat93 : cl93.slots[((4 : Int32)).toNatClampNeg]? = some (.int v4) := Has.at H93 hin93 rfl
        refine own_by (fun _ k => X0.baloadBytes hx (j := (4 : Int32)) (v := (.int v4)) (by rw [e0]; exact Ar93.1) (State.isArrayOf_alike hZ.alike Ar93.2.1) Ar93.2.2 hin93 hat93 (g := (mkF m 45 #[.val (.ref a1), .val (.int (7 : Int32)), .val (.int (4 : Int32)), .val (.int (3 : Int32)), .unset] [(.int (4 : Int32)), (.ref a1), (.int (3 : Int32))])) rfl rfl (hb hby d3_45) _ k) ?_
        show own_Fin p e below s _ _ _ s₁ (mkF m 46 #[.val (.ref a1), .val (.int (7 : Int32)), .val (.int (4 : Int32)), .val (.int (3 : Int32)), .unset] [(.int v4), (.int (3 : Int32))])
        refine own_by (fun _ k => XS.sipush X0.here hx rfl (hb hby d3_46) (XS.iand X0.here hx rfl (hb hby d3_49) rfl k)) ?_
        show own_Fin p e below s _ _ _ s₁ (mkF m 50 #[.val (.ref a1), .val (.int (7 : Int32)), .val (.int (4 : Int32)), .val (.int (3 : Int32)), .unset] [(.int (v4 &&& (255 : Int32))), (.int (3 : Int32))])
        obtain ⟨_, _, ⟨T94, L94, k94, n94⟩, -, X94, ⟨Lc94, hQ94, l94, y94, z94⟩, st94⟩ := Jvm.LawKit.callS X0 hx (y := (⟨"com/example/munka/munka/util/Utf8", "sequenceLength", "(I)I"⟩ : MethodName)) hown (mvT hZ (hw _ (List.mem_of_getElem? (i := 13) rfl))) (mvT hZ (hw _ (List.mem_of_getElem? (i := 14) rfl))) (mvT hZ (hw _ (List.mem_of_getElem? (i := 11) rfl))) (mvT hZ (hw _ (List.mem_of_getElem? (i := 15) rfl))) (by decide) (backOf (W := 1) (rm4 l Z a0 hw [] (v4 &&& (255 : Int32)) h0 n0 Z0 ) hZ (hw _ (List.mem_of_getElem? (i := 15) rfl)) (hw _ (List.mem_of_getElem? (i := 11) rfl)) (by decide) (by decide)) (g := (mkF m 50 #[.val (.ref a1), .val (.int (7 : Int32)), .val (.int (4 : Int32)), .val (.int (3 : Int32)), .unset] [(.int (v4 &&& (255 : Int32))), (.int (3 : Int32))])) rfl (by rw [hml]; rfl) (argsL := [(.int (v4 &&& (255 : Int32)))]) (rest := [(.int (3 : Int32))]) (lenOf own_pd69 rfl) rfl (by show 2 * 0 + _ ≤ _; exact Nat.le_of_eq rfl) (hb hby d3_50) (fun _ _ => ⟨rfl, e0, (by decide : 0 + 0 ≤ _), (by decide : 0 + 0 ≤ _)⟩)
        dsimp only [Pt.U, Pt.locs, Pt.cells, Pt.slots] at X94 l94 y94 z94 st94 hQ94
        subst l94 y94 z94
        obtain ⟨rfl, Nq94, eh94⟩ := hQ94
        have N94 := Fr.app N0 Nq94
        refine own_by (fun _ k => st94 _ k) ?_
        show own_Fin p e below s _ _ _ T94 (mkF m 53 #[.val (.ref a1), .val (.int (7 : Int32)), .val (.int (4 : Int32)), .val (.int (3 : Int32)), .unset] [(.int (own_seq (v4 &&& (255 : Int32)))), (.int (3 : Int32))])
        by_cases hc53_95 : (3 : Int32) < (own_seq (v4 &&& (255 : Int32)))
        · show own_Fin p e below s _ _ _ T94 (mkF m 53 #[.val (.ref a1), .val (.int (7 : Int32)), .val (.int (4 : Int32)), .val (.int (3 : Int32)), .unset] [(.int (own_seq (v4 &&& (255 : Int32)))), (.int (3 : Int32))])
          refine own_by (fun _ k => XS.icmpNo X94.here hx rfl (hb hby d3_53) rfl (tlt hc53_95).2.1 k) ?_
          show own_Fin p e below s _ _ _ T94 (mkF m 56 #[.val (.ref a1), .val (.int (7 : Int32)), .val (.int (4 : Int32)), .val (.int (3 : Int32)), .unset] [])
          refine own_by (fun _ k => XS.iconst X94.here hx rfl (hb hby d3_56) (XS.goto X94.here hx rfl (pc0 := 57) (pc' := 61) rfl (hb hby d3_57) (by decide) (by decide) (XS.istore X94.here hx rfl (hb hby d3_61) rfl (l' := #[.val (.ref a1), .val (.int (7 : Int32)), .val (.int (4 : Int32)), .val (.int (3 : Int32)), .val (.int (1 : Int32))]) rfl (XS.iload X94.here hx rfl (hb hby d3_63) rfl k)))) ?_
          show own_Fin p e below s _ _ _ T94 (mkF m 65 #[.val (.ref a1), .val (.int (7 : Int32)), .val (.int (4 : Int32)), .val (.int (3 : Int32)), .val (.int (1 : Int32))] [(.int (1 : Int32))])
          refine own_by (fun _ k => XS.ifNo X94.here hx rfl (hb hby d3_65) rfl ((if0 _ _).trans (feq (by decide : ¬ ((1 : Int32) = (0 : Int32)))).1) k) ?_
          show own_Fin p e below s _ _ _ T94 (mkF m 68 #[.val (.ref a1), .val (.int (7 : Int32)), .val (.int (4 : Int32)), .val (.int (3 : Int32)), .val (.int (1 : Int32))] [])
          refine own_by (fun _ k => XS.iloadN X94.here hx rfl (hb hby d3_68) rfl (XS.goto X94.here hx rfl (pc0 := 69) (pc' := 73) rfl (hb hby d3_69) (by decide) (by decide) k)) ?_
          show own_Fin p e below s _ _ _ T94 (mkF m 73 #[.val (.ref a1), .val (.int (7 : Int32)), .val (.int (4 : Int32)), .val (.int (3 : Int32)), .val (.int (1 : Int32))] [(.int (3 : Int32))])
          exact own_retI X94 hx hlk hret (hb hby d3_73) ⟨own_vi (by show (3 : Int32) = _; first | (simp only [own_tl1, own_tl2, own_tl3, own_tl4, hc25_85, hc25_87, hc25_89, hc53_95, if_true, if_false]; done) | (simp only [own_tl1, own_tl2, own_tl3, own_tl4, hc25_85, hc25_87, hc25_89, hc53_95, if_true, if_false]; decide) | simp [own_tl1, own_tl2, own_tl3, own_tl4, hc25_85, hc25_87, hc25_89, hc53_95]), N94, eh94⟩ (by decide) (by decide)
        · show own_Fin p e below s _ _ _ T94 (mkF m 53 #[.val (.ref a1), .val (.int (7 : Int32)), .val (.int (4 : Int32)), .val (.int (3 : Int32)), .unset] [(.int (own_seq (v4 &&& (255 : Int32)))), (.int (3 : Int32))])
          refine own_by (fun _ k => XS.icmpYes X94.here hx rfl (pc0 := 53) (pc' := 60) rfl (hb hby d3_53) rfl (flt hc53_95).2.1 (by decide) (by decide) k) ?_
          show own_Fin p e below s _ _ _ T94 (mkF m 60 #[.val (.ref a1), .val (.int (7 : Int32)), .val (.int (4 : Int32)), .val (.int (3 : Int32)), .unset] [])
          refine own_by (fun _ k => XS.iconst X94.here hx rfl (hb hby d3_60) (XS.istore X94.here hx rfl (hb hby d3_61) rfl (l' := #[.val (.ref a1), .val (.int (7 : Int32)), .val (.int (4 : Int32)), .val (.int (3 : Int32)), .val (.int (0 : Int32))]) rfl (XS.iload X94.here hx rfl (hb hby d3_63) rfl k))) ?_
          show own_Fin p e below s _ _ _ T94 (mkF m 65 #[.val (.ref a1), .val (.int (7 : Int32)), .val (.int (4 : Int32)), .val (.int (3 : Int32)), .val (.int (0 : Int32))] [(.int (0 : Int32))])
          refine own_by (fun _ k => XS.ifYes X94.here hx rfl (pc0 := 65) (pc' := 72) rfl (hb hby d3_65) rfl ((if0 _ _).trans (teq (by decide : (0 : Int32) = (0 : Int32))).1) (by decide) (by decide) k) ?_
          show own_Fin p e below s _ _ _ T94 (mkF m 72 #[.val (.ref a1), .val (.int (7 : Int32)), .val (.int (4 : Int32)), .val (.int (3 : Int32)), .val (.int (0 : Int32))] [])
          refine own_by (fun _ k => XS.iconst X94.here hx rfl (hb hby d3_72) k) ?_
          show own_Fin p e below s _ _ _ T94 (mkF m 73 #[.val (.ref a1), .val (.int (7 : Int32)), .val (.int (4 : Int32)), .val (.int (3 : Int32)), .val (.int (0 : Int32))] [(.int (0 : Int32))])
          exact own_retI X94 hx hlk hret (hb hby d3_73) ⟨own_vi (by show (0 : Int32) = _; first | (simp only [own_tl1, own_tl2, own_tl3, own_tl4, hc25_85, hc25_87, hc25_89, hc53_95, if_true, if_false]; done) | (simp only [own_tl1, own_tl2, own_tl3, own_tl4, hc25_85, hc25_87, hc25_89, hc53_95, if_true, if_false]; decide) | simp [own_tl1, own_tl2, own_tl3, own_tl4, hc25_85, hc25_87, hc25_89, hc53_95]), N94, eh94⟩ (by decide) (by decide)
    · show own_Fin p e below s _ _ _ s₁ (mkF m 25 #[.val (.ref a1), .val (.int (7 : Int32)), .val (.int (5 : Int32)), .unset, .unset] [(.int (128 : Int32)), (.int (v5 &&& (192 : Int32)))])
      refine own_by (fun _ k => XS.icmpYes X0.here hx rfl (pc0 := 25) (pc' := 34) rfl (hb hby d3_25) rfl (feq hc25_87).2 (by decide) (by decide) k) ?_
      show own_Fin p e below s _ _ _ s₁ (mkF m 34 #[.val (.ref a1), .val (.int (7 : Int32)), .val (.int (5 : Int32)), .unset, .unset] [])
      refine own_by (fun _ k => XS.iloadN X0.here hx rfl (hb hby d3_34) rfl (XS.iloadN X0.here hx rfl (hb hby d3_35) rfl (XS.isub X0.here hx rfl (hb hby d3_36) rfl k))) ?_
      show own_Fin p e below s _ _ _ s₁ (mkF m 37 #[.val (.ref a1), .val (.int (7 : Int32)), .val (.int (5 : Int32)), .unset, .unset] [(.int ((7 : Int32) - (5 : Int32)))])
      rw [(by decide : ((7 : Int32) - (5 : Int32)) = (2 : Int32))]
      show own_Fin p e below s _ _ _ s₁ (mkF m 37 #[.val (.ref a1), .val (.int (7 : Int32)), .val (.int (5 : Int32)), .unset, .unset] [(.int (2 : Int32))])
      refine own_by (fun _ k => XS.istoreN X0.here hx rfl (hb hby d3_37) rfl (l' := #[.val (.ref a1), .val (.int (7 : Int32)), .val (.int (5 : Int32)), .val (.int (2 : Int32)), .unset]) rfl (XS.iloadN X0.here hx rfl (hb hby d3_38) rfl k)) ?_
      show own_Fin p e below s _ _ _ s₁ (mkF m 39 #[.val (.ref a1), .val (.int (7 : Int32)), .val (.int (5 : Int32)), .val (.int (2 : Int32)), .unset] [(.int (5 : Int32))])
      refine own_by (fun _ k => XS.ifNo X0.here hx rfl (hb hby d3_39) rfl ((if0 _ _).trans (flt (by decide : ¬ ((5 : Int32) < (0 : Int32)))).1) k) ?_
      show own_Fin p e below s _ _ _ s₁ (mkF m 42 #[.val (.ref a1), .val (.int (7 : Int32)), .val (.int (5 : Int32)), .val (.int (2 : Int32)), .unset] [])
      refine own_by (fun _ k => XS.iloadN X0.here hx rfl (hb hby d3_42) rfl (XS.aloadN X0.here hx rfl (hb hby d3_43) rfl rfl (XS.iloadN X0.here hx rfl (hb hby d3_44) rfl k))) ?_
      show own_Fin p e below s _ _ _ s₁ (mkF m 45 #[.val (.ref a1), .val (.int (7 : Int32)), .val (.int (5 : Int32)), .val (.int (2 : Int32)), .unset] [(.int (5 : Int32)), (.ref a1), (.int (2 : Int32))])
      obtain ⟨cl96, Ar96, -, S96, M96, H96, -⟩ := id V1
      have hin96 : ¬ ((5 : Int32) < 0 ∨ cl96.slots.size ≤ ((5 : Int32)).toNatClampNeg) := inb_of S96 ⟨by decide, by decide⟩
      have hat96 : cl96.slots[((5 : Int32)).toNatClampNeg]? = some (.int v5) := Has.at H96 hin96 rfl
      refine own_by (fun _ k => X0.baloadBytes hx (j := (5 : Int32)) (v := (.int v5)) (by rw [e0]; exact Ar96.1) (State.isArrayOf_alike hZ.alike Ar96.2.1) Ar96.2.2 hin96 hat96 (g := (mkF m 45 #[.val (.ref a1), .val (.int (7 : Int32)), .val (.int (5 : Int32)), .val (.int (2 : Int32)), .unset] [(.int (5 : Int32)), (.ref a1), (.int (2 : Int32))])) rfl rfl (hb hby d3_45) _ k) ?_
      show own_Fin p e below s _ _ _ s₁ (mkF m 46 #[.val (.ref a1), .val (.int (7 : Int32)), .val (.int (5 : Int32)), .val (.int (2 : Int32)), .unset] [(.int v5), (.int (2 : Int32))])
      refine own_by (fun _ k => XS.sipush X0.here hx rfl (hb hby d3_46) (XS.iand X0.here hx rfl (hb hby d3_49) rfl k)) ?_
      show own_Fin p e below s _ _ _ s₁ (mkF m 50 #[.val (.ref a1), .val (.int (7 : Int32)), .val (.int (5 : Int32)), .val (.int (2 : Int32)), .unset] [(.int (v5 &&& (255 : Int32))), (.int (2 : Int32))])
      obtain ⟨_, _, ⟨T97, L97, k97, n97⟩, -, X97, ⟨Lc97, hQ97, l97, y97, z97⟩, st97⟩ := Jvm.LawKit.callS X0 hx (y := (⟨"com/example/munka/munka/util/Utf8", "sequenceLength", "(I)I"⟩ : MethodName)) hown (mvT hZ (hw _ (List.mem_of_getElem? (i := 13) rfl))) (mvT hZ (hw _ (List.mem_of_getElem? (i := 14) rfl))) (mvT hZ (hw _ (List.mem_of_getElem? (i := 11) rfl))) (mvT hZ (hw _ (List.mem_of_getElem? (i := 15) rfl))) (by decide) (backOf (W := 1) (rm4 l Z a0 hw [] (v5 &&& (255 : Int32)) h0 n0 Z0 ) hZ (hw _ (List.mem_of_getElem? (i := 15) rfl)) (hw _ (List.mem_of_getElem? (i := 11) rfl)) (by decide) (by decide)) (g := (mkF m 50 #[.val (.ref a1), .val (.int (7 : Int32)), .val (.int (5 : Int32)), .val (.int (2 : Int32)), .unset] [(.int (v5 &&& (255 : Int32))), (.int (2 : Int32))])) rfl (by rw [hml]; rfl) (argsL := [(.int (v5 &&& (255 : Int32)))]) (rest := [(.int (2 : Int32))]) (lenOf own_pd69 rfl) rfl (by show 2 * 0 + _ ≤ _; exact Nat.le_of_eq rfl) (hb hby d3_50) (fun _ _ => ⟨rfl, e0, (by decide : 0 + 0 ≤ _), (by decide : 0 + 0 ≤ _)⟩)
      dsimp only [Pt.U, Pt.locs, Pt.cells, Pt.slots] at X97 l97 y97 z97 st97 hQ97
      subst l97 y97 z97
      obtain ⟨rfl, Nq97, eh97⟩ := hQ97
      have N97 := Fr.app N0 Nq97
      refine own_by (fun _ k => st97 _ k) ?_
      show own_Fin p e below s _ _ _ T97 (mkF m 53 #[.val (.ref a1), .val (.int (7 : Int32)), .val (.int (5 : Int32)), .val (.int (2 : Int32)), .unset] [(.int (own_seq (v5 &&& (255 : Int32)))), (.int (2 : Int32))])
      by_cases hc53_98 : (2 : Int32) < (own_seq (v5 &&& (255 : Int32)))
      · show own_Fin p e below s _ _ _ T97 (mkF m 53 #[.val (.ref a1), .val (.int (7 : Int32)), .val (.int (5 : Int32)), .val (.int (2 : Int32)), .unset] [(.int (own_seq (v5 &&& (255 : Int32)))), (.int (2 : Int32))])
        refine own_by (fun _ k => XS.icmpNo X97.here hx rfl (hb hby d3_53) rfl (tlt hc53_98).2.1 k) ?_
        show own_Fin p e below s _ _ _ T97 (mkF m 56 #[.val (.ref a1), .val (.int (7 : Int32)), .val (.int (5 : Int32)), .val (.int (2 : Int32)), .unset] [])
        refine own_by (fun _ k => XS.iconst X97.here hx rfl (hb hby d3_56) (XS.goto X97.here hx rfl (pc0 := 57) (pc' := 61) rfl (hb hby d3_57) (by decide) (by decide) (XS.istore X97.here hx rfl (hb hby d3_61) rfl (l' := #[.val (.ref a1), .val (.int (7 : Int32)), .val (.int (5 : Int32)), .val (.int (2 : Int32)), .val (.int (1 : Int32))]) rfl (XS.iload X97.here hx rfl (hb hby d3_63) rfl k)))) ?_
        show own_Fin p e below s _ _ _ T97 (mkF m 65 #[.val (.ref a1), .val (.int (7 : Int32)), .val (.int (5 : Int32)), .val (.int (2 : Int32)), .val (.int (1 : Int32))] [(.int (1 : Int32))])
        refine own_by (fun _ k => XS.ifNo X97.here hx rfl (hb hby d3_65) rfl ((if0 _ _).trans (feq (by decide : ¬ ((1 : Int32) = (0 : Int32)))).1) k) ?_
        show own_Fin p e below s _ _ _ T97 (mkF m 68 #[.val (.ref a1), .val (.int (7 : Int32)), .val (.int (5 : Int32)), .val (.int (2 : Int32)), .val (.int (1 : Int32))] [])
        refine own_by (fun _ k => XS.iloadN X97.here hx rfl (hb hby d3_68) rfl (XS.goto X97.here hx rfl (pc0 := 69) (pc' := 73) rfl (hb hby d3_69) (by decide) (by decide) k)) ?_
        show own_Fin p e below s _ _ _ T97 (mkF m 73 #[.val (.ref a1), .val (.int (7 : Int32)), .val (.int (5 : Int32)), .val (.int (2 : Int32)), .val (.int (1 : Int32))] [(.int (2 : Int32))])
        exact own_retI X97 hx hlk hret (hb hby d3_73) ⟨own_vi (by show (2 : Int32) = _; first | (simp only [own_tl1, own_tl2, own_tl3, own_tl4, hc25_85, hc25_87, hc53_98, if_true, if_false]; done) | (simp only [own_tl1, own_tl2, own_tl3, own_tl4, hc25_85, hc25_87, hc53_98, if_true, if_false]; decide) | simp [own_tl1, own_tl2, own_tl3, own_tl4, hc25_85, hc25_87, hc53_98]), N97, eh97⟩ (by decide) (by decide)
      · show own_Fin p e below s _ _ _ T97 (mkF m 53 #[.val (.ref a1), .val (.int (7 : Int32)), .val (.int (5 : Int32)), .val (.int (2 : Int32)), .unset] [(.int (own_seq (v5 &&& (255 : Int32)))), (.int (2 : Int32))])
        refine own_by (fun _ k => XS.icmpYes X97.here hx rfl (pc0 := 53) (pc' := 60) rfl (hb hby d3_53) rfl (flt hc53_98).2.1 (by decide) (by decide) k) ?_
        show own_Fin p e below s _ _ _ T97 (mkF m 60 #[.val (.ref a1), .val (.int (7 : Int32)), .val (.int (5 : Int32)), .val (.int (2 : Int32)), .unset] [])
        refine own_by (fun _ k => XS.iconst X97.here hx rfl (hb hby d3_60) (XS.istore X97.here hx rfl (hb hby d3_61) rfl (l' := #[.val (.ref a1), .val (.int (7 : Int32)), .val (.int (5 : Int32)), .val (.int (2 : Int32)), .val (.int (0 : Int32))]) rfl (XS.iload X97.here hx rfl (hb hby d3_63) rfl k))) ?_
        show own_Fin p e below s _ _ _ T97 (mkF m 65 #[.val (.ref a1), .val (.int (7 : Int32)), .val (.int (5 : Int32)), .val (.int (2 : Int32)), .val (.int (0 : Int32))] [(.int (0 : Int32))])
        refine own_by (fun _ k => XS.ifYes X97.here hx rfl (pc0 := 65) (pc' := 72) rfl (hb hby d3_65) rfl ((if0 _ _).trans (teq (by decide : (0 : Int32) = (0 : Int32))).1) (by decide) (by decide) k) ?_
        show own_Fin p e below s _ _ _ T97 (mkF m 72 #[.val (.ref a1), .val (.int (7 : Int32)), .val (.int (5 : Int32)), .val (.int (2 : Int32)), .val (.int (0 : Int32))] [])
        refine own_by (fun _ k => XS.iconst X97.here hx rfl (hb hby d3_72) k) ?_
        show own_Fin p e below s _ _ _ T97 (mkF m 73 #[.val (.ref a1), .val (.int (7 : Int32)), .val (.int (5 : Int32)), .val (.int (2 : Int32)), .val (.int (0 : Int32))] [(.int (0 : Int32))])
        exact own_retI X97 hx hlk hret (hb hby d3_73) ⟨own_vi (by show (0 : Int32) = _; first | (simp only [own_tl1, own_tl2, own_tl3, own_tl4, hc25_85, hc25_87, hc53_98, if_true, if_false]; done) | (simp only [own_tl1, own_tl2, own_tl3, own_tl4, hc25_85, hc25_87, hc53_98, if_true, if_false]; decide) | simp [own_tl1, own_tl2, own_tl3, own_tl4, hc25_85, hc25_87, hc53_98]), N97, eh97⟩ (by decide) (by decide)
  · show own_Fin p e below s _ _ _ s₁ (mkF m 25 #[.val (.ref a1), .val (.int (7 : Int32)), .val (.int (6 : Int32)), .unset, .unset] [(.int (128 : Int32)), (.int (v6 &&& (192 : Int32)))])
    refine own_by (fun _ k => XS.icmpYes X0.here hx rfl (pc0 := 25) (pc' := 34) rfl (hb hby d3_25) rfl (feq hc25_85).2 (by decide) (by decide) k) ?_
    show own_Fin p e below s _ _ _ s₁ (mkF m 34 #[.val (.ref a1), .val (.int (7 : Int32)), .val (.int (6 : Int32)), .unset, .unset] [])
    refine own_by (fun _ k => XS.iloadN X0.here hx rfl (hb hby d3_34) rfl (XS.iloadN X0.here hx rfl (hb hby d3_35) rfl (XS.isub X0.here hx rfl (hb hby d3_36) rfl k))) ?_
    show own_Fin p e below s _ _ _ s₁ (mkF m 37 #[.val (.ref a1), .val (.int (7 : Int32)), .val (.int (6 : Int32)), .unset, .unset] [(.int ((7 : Int32) - (6 : Int32)))])
    rw [(by decide : ((7 : Int32) - (6 : Int32)) = (1 : Int32))]
    show own_Fin p e below s _ _ _ s₁ (mkF m 37 #[.val (.ref a1), .val (.int (7 : Int32)), .val (.int (6 : Int32)), .unset, .unset] [(.int (1 : Int32))])
    refine own_by (fun _ k => XS.istoreN X0.here hx rfl (hb hby d3_37) rfl (l' := #[.val (.ref a1), .val (.int (7 : Int32)), .val (.int (6 : Int32)), .val (.int (1 : Int32)), .unset]) rfl (XS.iloadN X0.here hx rfl (hb hby d3_38) rfl k)) ?_
    show own_Fin p e below s _ _ _ s₁ (mkF m 39 #[.val (.ref a1), .val (.int (7 : Int32)), .val (.int (6 : Int32)), .val (.int (1 : Int32)), .unset] [(.int (6 : Int32))])
    refine own_by (fun _ k => XS.ifNo X0.here hx rfl (hb hby d3_39) rfl ((if0 _ _).trans (flt (by decide : ¬ ((6 : Int32) < (0 : Int32)))).1) k) ?_
    show own_Fin p e below s _ _ _ s₁ (mkF m 42 #[.val (.ref a1), .val (.int (7 : Int32)), .val (.int (6 : Int32)), .val (.int (1 : Int32)), .unset] [])
    refine own_by (fun _ k => XS.iloadN X0.here hx rfl (hb hby d3_42) rfl (XS.aloadN X0.here hx rfl (hb hby d3_43) rfl rfl (XS.iloadN X0.here hx rfl (hb hby d3_44) rfl k))) ?_
    show own_Fin p e below s _ _ _ s₁ (mkF m 45 #[.val (.ref a1), .val (.int (7 : Int32)), .val (.int (6 : Int32)), .val (.int (1 : Int32)), .unset] [(.int (6 : Int32)), (.ref a1), (.int (1 : Int32))])
    obtain ⟨cl99, Ar99, -, S99, M99, H99, -⟩ := id V1
    have hin99 : ¬ ((6 : Int32) < 0 ∨ cl99.slots.size ≤ ((6 : Int32)).toNatClampNeg) := inb_of S99 ⟨by decide, by decide⟩
    have hat99 : cl99.slots[((6 : Int32)).toNatClampNeg]? = some (.int v6) := Has.at H99 hin99 rfl
    refine own_by (fun _ k => X0.baloadBytes hx (j := (6 : Int32)) (v := (.int v6)) (by rw [e0]; exact Ar99.1) (State.isArrayOf_alike hZ.alike Ar99.2.1) Ar99.2.2 hin99 hat99 (g := (mkF m 45 #[.val (.ref a1), .val (.int (7 : Int32)), .val (.int (6 : Int32)), .val (.int (1 : Int32)), .unset] [(.int (6 : Int32)), (.ref a1), (.int (1 : Int32))])) rfl rfl (hb hby d3_45) _ k) ?_
    show own_Fin p e below s _ _ _ s₁ (mkF m 46 #[.val (.ref a1), .val (.int (7 : Int32)), .val (.int (6 : Int32)), .val (.int (1 : Int32)), .unset] [(.int v6), (.int (1 : Int32))])
    refine own_by (fun _ k => XS.sipush X0.here hx rfl (hb hby d3_46) (XS.iand X0.here hx rfl (hb hby d3_49) rfl k)) ?_
    show own_Fin p e below s _ _ _ s₁ (mkF m 50 #[.val (.ref a1), .val (.int (7 : Int32)), .val (.int (6 : Int32)), .val (.int (1 : Int32)), .unset] [(.int (v6 &&& (255 : Int32))), (.int (1 : Int32))])
    obtain ⟨_, _, ⟨T100, L100, k100, n100⟩, -, X100, ⟨Lc100, hQ100, l100, y100, z100⟩, st100⟩ := Jvm.LawKit.callS X0 hx (y := (⟨"com/example/munka/munka/util/Utf8", "sequenceLength", "(I)I"⟩ : MethodName)) hown (mvT hZ (hw _ (List.mem_of_getElem? (i := 13) rfl))) (mvT hZ (hw _ (List.mem_of_getElem? (i := 14) rfl))) (mvT hZ (hw _ (List.mem_of_getElem? (i := 11) rfl))) (mvT hZ (hw _ (List.mem_of_getElem? (i := 15) rfl))) (by decide) (backOf (W := 1) (rm4 l Z a0 hw [] (v6 &&& (255 : Int32)) h0 n0 Z0 ) hZ (hw _ (List.mem_of_getElem? (i := 15) rfl)) (hw _ (List.mem_of_getElem? (i := 11) rfl)) (by decide) (by decide)) (g := (mkF m 50 #[.val (.ref a1), .val (.int (7 : Int32)), .val (.int (6 : Int32)), .val (.int (1 : Int32)), .unset] [(.int (v6 &&& (255 : Int32))), (.int (1 : Int32))])) rfl (by rw [hml]; rfl) (argsL := [(.int (v6 &&& (255 : Int32)))]) (rest := [(.int (1 : Int32))]) (lenOf own_pd69 rfl) rfl (by show 2 * 0 + _ ≤ _; exact Nat.le_of_eq rfl) (hb hby d3_50) (fun _ _ => ⟨rfl, e0, (by decide : 0 + 0 ≤ _), (by decide : 0 + 0 ≤ _)⟩)
    dsimp only [Pt.U, Pt.locs, Pt.cells, Pt.slots] at X100 l100 y100 z100 st100 hQ100
    subst l100 y100 z100
    obtain ⟨rfl, Nq100, eh100⟩ := hQ100
    have N100 := Fr.app N0 Nq100
    refine own_by (fun _ k => st100 _ k) ?_
    show own_Fin p e below s _ _ _ T100 (mkF m 53 #[.val (.ref a1), .val (.int (7 : Int32)), .val (.int (6 : Int32)), .val (.int (1 : Int32)), .unset] [(.int (own_seq (v6 &&& (255 : Int32)))), (.int (1 : Int32))])
    by_cases hc53_101 : (1 : Int32) < (own_seq (v6 &&& (255 : Int32)))
    · show own_Fin p e below s _ _ _ T100 (mkF m 53 #[.val (.ref a1), .val (.int (7 : Int32)), .val (.int (6 : Int32)), .val (.int (1 : Int32)), .unset] [(.int (own_seq (v6 &&& (255 : Int32)))), (.int (1 : Int32))])
      refine own_by (fun _ k => XS.icmpNo X100.here hx rfl (hb hby d3_53) rfl (tlt hc53_101).2.1 k) ?_
      show own_Fin p e below s _ _ _ T100 (mkF m 56 #[.val (.ref a1), .val (.int (7 : Int32)), .val (.int (6 : Int32)), .val (.int (1 : Int32)), .unset] [])
      refine own_by (fun _ k => XS.iconst X100.here hx rfl (hb hby d3_56) (XS.goto X100.here hx rfl (pc0 := 57) (pc' := 61) rfl (hb hby d3_57) (by decide) (by decide) (XS.istore X100.here hx rfl (hb hby d3_61) rfl (l' := #[.val (.ref a1), .val (.int (7 : Int32)), .val (.int (6 : Int32)), .val (.int (1 : Int32)), .val (.int (1 : Int32))]) rfl (XS.iload X100.here hx rfl (hb hby d3_63) rfl k)))) ?_
      show own_Fin p e below s _ _ _ T100 (mkF m 65 #[.val (.ref a1), .val (.int (7 : Int32)), .val (.int (6 : Int32)), .val (.int (1 : Int32)), .val (.int (1 : Int32))] [(.int (1 : Int32))])
      refine own_by (fun _ k => XS.ifNo X100.here hx rfl (hb hby d3_65) rfl ((if0 _ _).trans (feq (by decide : ¬ ((1 : Int32) = (0 : Int32)))).1) k) ?_
      show own_Fin p e below s _ _ _ T100 (mkF m 68 #[.val (.ref a1), .val (.int (7 : Int32)), .val (.int (6 : Int32)), .val (.int (1 : Int32)), .val (.int (1 : Int32))] [])
      refine own_by (fun _ k => XS.iloadN X100.here hx rfl (hb hby d3_68) rfl (XS.goto X100.here hx rfl (pc0 := 69) (pc' := 73) rfl (hb hby d3_69) (by decide) (by decide) k)) ?_
      show own_Fin p e below s _ _ _ T100 (mkF m 73 #[.val (.ref a1), .val (.int (7 : Int32)), .val (.int (6 : Int32)), .val (.int (1 : Int32)), .val (.int (1 : Int32))] [(.int (1 : Int32))])
      exact own_retI X100 hx hlk hret (hb hby d3_73) ⟨own_vi (by show (1 : Int32) = _; first | (simp only [own_tl1, own_tl2, own_tl3, own_tl4, hc25_85, hc53_101, if_true, if_false]; done) | (simp only [own_tl1, own_tl2, own_tl3, own_tl4, hc25_85, hc53_101, if_true, if_false]; decide) | simp [own_tl1, own_tl2, own_tl3, own_tl4, hc25_85, hc53_101]), N100, eh100⟩ (by decide) (by decide)
    · show own_Fin p e below s _ _ _ T100 (mkF m 53 #[.val (.ref a1), .val (.int (7 : Int32)), .val (.int (6 : Int32)), .val (.int (1 : Int32)), .unset] [(.int (own_seq (v6 &&& (255 : Int32)))), (.int (1 : Int32))])
      refine own_by (fun _ k => XS.icmpYes X100.here hx rfl (pc0 := 53) (pc' := 60) rfl (hb hby d3_53) rfl (flt hc53_101).2.1 (by decide) (by decide) k) ?_
      show own_Fin p e below s _ _ _ T100 (mkF m 60 #[.val (.ref a1), .val (.int (7 : Int32)), .val (.int (6 : Int32)), .val (.int (1 : Int32)), .unset] [])
      refine own_by (fun _ k => XS.iconst X100.here hx rfl (hb hby d3_60) (XS.istore X100.here hx rfl (hb hby d3_61) rfl (l' := #[.val (.ref a1), .val (.int (7 : Int32)), .val (.int (6 : Int32)), .val (.int (1 : Int32)), .val (.int (0 : Int32))]) rfl (XS.iload X100.here hx rfl (hb hby d3_63) rfl k))) ?_
      show own_Fin p e below s _ _ _ T100 (mkF m 65 #[.val (.ref a1), .val (.int (7 : Int32)), .val (.int (6 : Int32)), .val (.int (1 : Int32)), .val (.int (0 : Int32))] [(.int (0 : Int32))])
      refine own_by (fun _ k => XS.ifYes X100.here hx rfl (pc0 := 65) (pc' := 72) rfl (hb hby d3_65) rfl ((if0 _ _).trans (teq (by decide : (0 : Int32) = (0 : Int32))).1) (by decide) (by decide) k) ?_
      show own_Fin p e below s _ _ _ T100 (mkF m 72 #[.val (.ref a1), .val (.int (7 : Int32)), .val (.int (6 : Int32)), .val (.int (1 : Int32)), .val (.int (0 : Int32))] [])
      refine own_by (fun _ k => XS.iconst X100.here hx rfl (hb hby d3_72) k) ?_
      show own_Fin p e below s _ _ _ T100 (mkF m 73 #[.val (.ref a1), .val (.int (7 : Int32)), .val (.int (6 : Int32)), .val (.int (1 : Int32)), .val (.int (0 : Int32))] [(.int (0 : Int32))])
      exact own_retI X100 hx hlk hret (hb hby d3_73) ⟨own_vi (by show (0 : Int32) = _; first | (simp only [own_tl1, own_tl2, own_tl3, own_tl4, hc25_85, hc53_101, if_true, if_false]; done) | (simp only [own_tl1, own_tl2, own_tl3, own_tl4, hc25_85, hc53_101, if_true, if_false]; decide) | simp [own_tl1, own_tl2, own_tl3, own_tl4, hc25_85, hc53_101]), N100, eh100⟩ (by decide) (by decide)
theorem ef_rmT8 (m : MethodId) (x0 : Addr) (x1 : Int32) : entryFrame m #[(.ref x0), (.int x1)] 5 = mkF m 0 #[.val (.ref x0), .val (.int x1), .unset, .unset, .unset] [] := by first | (simp [entryFrame, mkF, argsToLocals, Value.category]; done) | rfl
def own_QT8 (v0 v1 v2 v3 v4 v5 v6 v7 : Int32) (h0 : Heap) (n0 : Nat) (v : Option Value) (h : Heap) (L : List Loc) : Prop := v = some (.int ((own_tl4 v7 v6 v5 v4))) ∧ Fr n0 L ∧ h = h0
set_option maxRecDepth 65536 in
set_option maxHeartbeats 40000000 in
theorem rmT8 (l : Launch) (Z : State) (a0 : Array Value) (hw : ∀ d ∈ tables_1, d.before a0 Z = true) (ws : List Jvm.Cond) (a1 : Addr) (k : ClassId) (v0 v1 v2 v3 v4 v5 v6 v7 : Int32) (h0 : Heap) (n0 : Nat) (Z0 : n0 ≤ h0.size) (V1 : Arv Z h0 a1 k .byte (8 : Int32) [(.int v0), (.int v1), (.int v2), (.int v3), (.int v4), (.int v5), (.int v6), (.int v7)] (.int (0 : Int32))) : own_Met l Z (⟨"com/example/munka/munka/util/Utf8", "unfinishedTail", "([BI)I"⟩ : MethodName) prog_43_method_4_code 5 (some .int) ws (own_R 1 0 0 16) #[(.ref a1), (.int (8 : Int32))] h0 (own_QT8 v0 v1 v2 v3 v4 v5 v6 v7 h0 n0) := by
  refine own_enter n0 own_pn12 (fun m => ef_rmT8 m a1 (8 : Int32) ) (fun p e s m below meth c s₁ hx hby hlk hml hret hown hnm hZ X0 e0 N0 => ?_)
  show own_Fin p e below s _ _ _ s₁ (mkF m 0 #[.val (.ref a1), .val (.int (8 : Int32)), .unset, .unset, .unset] [])
  refine own_by (fun _ k => XS.iloadN X0.here hx rfl (hb hby d3_0) rfl (XS.iconst X0.here hx rfl (hb hby d3_1) (XS.isub X0.here hx rfl (hb hby d3_2) rfl k))) ?_
  show own_Fin p e below s _ _ _ s₁ (mkF m 3 #[.val (.ref a1), .val (.int (8 : Int32)), .unset, .unset, .unset] [(.int ((8 : Int32) - (1 : Int32)))])
  rw [(by decide : ((8 : Int32) - (1 : Int32)) = (7 : Int32))]
  show own_Fin p e below s _ _ _ s₁ (mkF m 3 #[.val (.ref a1), .val (.int (8 : Int32)), .unset, .unset, .unset] [(.int (7 : Int32))])
  refine own_by (fun _ k => XS.istoreN X0.here hx rfl (hb hby d3_3) rfl (l' := #[.val (.ref a1), .val (.int (8 : Int32)), .val (.int (7 : Int32)), .unset, .unset]) rfl (XS.iloadN X0.here hx rfl (hb hby d3_4) rfl k)) ?_
  show own_Fin p e below s _ _ _ s₁ (mkF m 5 #[.val (.ref a1), .val (.int (8 : Int32)), .val (.int (7 : Int32)), .unset, .unset] [(.int (7 : Int32))])
  refine own_by (fun _ k => XS.ifNo X0.here hx rfl (hb hby d3_5) rfl ((if0 _ _).trans (tlt (by decide : (0 : Int32) < (7 : Int32))).2.2.2) k) ?_
  show own_Fin p e below s _ _ _ s₁ (mkF m 8 #[.val (.ref a1), .val (.int (8 : Int32)), .val (.int (7 : Int32)), .unset, .unset] [])
  refine own_by (fun _ k => XS.iloadN X0.here hx rfl (hb hby d3_8) rfl (XS.iloadN X0.here hx rfl (hb hby d3_9) rfl (XS.iconst X0.here hx rfl (hb hby d3_10) (XS.isub X0.here hx rfl (hb hby d3_11) rfl k)))) ?_
  show own_Fin p e below s _ _ _ s₁ (mkF m 12 #[.val (.ref a1), .val (.int (8 : Int32)), .val (.int (7 : Int32)), .unset, .unset] [(.int ((8 : Int32) - (4 : Int32))), (.int (7 : Int32))])
  rw [(by decide : ((8 : Int32) - (4 : Int32)) = (4 : Int32))]
  show own_Fin p e below s _ _ _ s₁ (mkF m 12 #[.val (.ref a1), .val (.int (8 : Int32)), .val (.int (7 : Int32)), .unset, .unset] [(.int (4 : Int32)), (.int (7 : Int32))])
  refine own_by (fun _ k => XS.icmpNo X0.here hx rfl (hb hby d3_12) rfl (tlt (by decide : (4 : Int32) < (7 : Int32))).2.2.2 k) ?_
  show own_Fin p e below s _ _ _ s₁ (mkF m 15 #[.val (.ref a1), .val (.int (8 : Int32)), .val (.int (7 : Int32)), .unset, .unset] [])
  refine own_by (fun _ k => XS.aloadN X0.here hx rfl (hb hby d3_15) rfl rfl (XS.iloadN X0.here hx rfl (hb hby d3_16) rfl k)) ?_
  show own_Fin p e below s _ _ _ s₁ (mkF m 17 #[.val (.ref a1), .val (.int (8 : Int32)), .val (.int (7 : Int32)), .unset, .unset] [(.int (7 : Int32)), (.ref a1)])
  obtain ⟨cl102, Ar102, -, S102, M102, H102, -⟩ := id V1
  have hin102 : ¬ ((7 : Int32) < 0 ∨ cl102.slots.size ≤ ((7 : Int32)).toNatClampNeg) := inb_of S102 ⟨by decide, by decide⟩
  have hat102 : cl102.slots[((7 : Int32)).toNatClampNeg]? = some (.int v7) := Has.at H102 hin102 rfl
  refine own_by (fun _ k => X0.baloadBytes hx (j := (7 : Int32)) (v := (.int v7)) (by rw [e0]; exact Ar102.1) (State.isArrayOf_alike hZ.alike Ar102.2.1) Ar102.2.2 hin102 hat102 (g := (mkF m 17 #[.val (.ref a1), .val (.int (8 : Int32)), .val (.int (7 : Int32)), .unset, .unset] [(.int (7 : Int32)), (.ref a1)])) rfl rfl (hb hby d3_17) _ k) ?_
  show own_Fin p e below s _ _ _ s₁ (mkF m 18 #[.val (.ref a1), .val (.int (8 : Int32)), .val (.int (7 : Int32)), .unset, .unset] [(.int v7)])
  refine own_by (fun _ k => XS.sipush X0.here hx rfl (hb hby d3_18) (XS.iand X0.here hx rfl (hb hby d3_21) rfl (XS.sipush X0.here hx rfl (hb hby d3_22) k))) ?_
  show own_Fin p e below s _ _ _ s₁ (mkF m 25 #[.val (.ref a1), .val (.int (8 : Int32)), .val (.int (7 : Int32)), .unset, .unset] [(.int (128 : Int32)), (.int (v7 &&& (192 : Int32)))])
  by_cases hc25_103 : (v7 &&& (192 : Int32)) = (128 : Int32)
  · show own_Fin p e below s _ _ _ s₁ (mkF m 25 #[.val (.ref a1), .val (.int (8 : Int32)), .val (.int (7 : Int32)), .unset, .unset] [(.int (128 : Int32)), (.int (v7 &&& (192 : Int32)))])
    refine own_by (fun _ k => XS.icmpNo X0.here hx rfl (hb hby d3_25) rfl (teq hc25_103).2 k) ?_
    show own_Fin p e below s _ _ _ s₁ (mkF m 28 #[.val (.ref a1), .val (.int (8 : Int32)), .val (.int (7 : Int32)), .unset, .unset] [])
    refine own_by (fun _ k => XS.iinc X0.here hx rfl (hb hby d3_28) rfl (l' := #[.val (.ref a1), .val (.int (8 : Int32)), .val (.int ((7 : Int32) + (-1 : Int32))), .unset, .unset]) rfl k) ?_
    show own_Fin p e below s _ _ _ s₁ (mkF m 31 #[.val (.ref a1), .val (.int (8 : Int32)), .val (.int ((7 : Int32) + (-1 : Int32))), .unset, .unset] [])
    rw [(by decide : ((7 : Int32) + (-1 : Int32)) = (6 : Int32))]
    show own_Fin p e below s _ _ _ s₁ (mkF m 31 #[.val (.ref a1), .val (.int (8 : Int32)), .val (.int (6 : Int32)), .unset, .unset] [])
    refine own_by (fun _ k => XS.goto X0.here hx rfl (pc0 := 31) (pc' := 4) rfl (hb hby d3_31) (by decide) (by decide) (XS.iloadN X0.here hx rfl (hb hby d3_4) rfl k)) ?_
    show own_Fin p e below s _ _ _ s₁ (mkF m 5 #[.val (.ref a1), .val (.int (8 : Int32)), .val (.int (6 : Int32)), .unset, .unset] [(.int (6 : Int32))])
    refine own_by (fun _ k => XS.ifNo X0.here hx rfl (hb hby d3_5) rfl ((if0 _ _).trans (tlt (by decide : (0 : Int32) < (6 : Int32))).2.2.2) k) ?_
    show own_Fin p e below s _ _ _ s₁ (mkF m 8 #[.val (.ref a1), .val (.int (8 : Int32)), .val (.int (6 : Int32)), .unset, .unset] [])
    refine own_by (fun _ k => XS.iloadN X0.here hx rfl (hb hby d3_8) rfl (XS.iloadN X0.here hx rfl (hb hby d3_9) rfl (XS.iconst X0.here hx rfl (hb hby d3_10) (XS.isub X0.here hx rfl (hb hby d3_11) rfl k)))) ?_
    show own_Fin p e below s _ _ _ s₁ (mkF m 12 #[.val (.ref a1), .val (.int (8 : Int32)), .val (.int (6 : Int32)), .unset, .unset] [(.int ((8 : Int32) - (4 : Int32))), (.int (6 : Int32))])
    rw [(by decide : ((8 : Int32) - (4 : Int32)) = (4 : Int32))]
    show own_Fin p e below s _ _ _ s₁ (mkF m 12 #[.val (.ref a1), .val (.int (8 : Int32)), .val (.int (6 : Int32)), .unset, .unset] [(.int (4 : Int32)), (.int (6 : Int32))])
    refine own_by (fun _ k => XS.icmpNo X0.here hx rfl (hb hby d3_12) rfl (tlt (by decide : (4 : Int32) < (6 : Int32))).2.2.2 k) ?_
    show own_Fin p e below s _ _ _ s₁ (mkF m 15 #[.val (.ref a1), .val (.int (8 : Int32)), .val (.int (6 : Int32)), .unset, .unset] [])
    refine own_by (fun _ k => XS.aloadN X0.here hx rfl (hb hby d3_15) rfl rfl (XS.iloadN X0.here hx rfl (hb hby d3_16) rfl k)) ?_
    show own_Fin p e below s _ _ _ s₁ (mkF m 17 #[.val (.ref a1), .val (.int (8 : Int32)), .val (.int (6 : Int32)), .unset, .unset] [(.int (6 : Int32)), (.ref a1)])
    obtain ⟨cl104, Ar104, -, S104, M104, H104, -⟩ := id V1
    have hin104 : ¬ ((6 : Int32) < 0 ∨ cl104.slots.size ≤ ((6 : Int32)).toNatClampNeg) := inb_of S104 ⟨by decide, by decide⟩
    have hat104 : cl104.slots[((6 : Int32)).toNatClampNeg]? = some (.int v6) := Has.at H104 hin104 rfl
    refine own_by (fun _ k => X0.baloadBytes hx (j := (6 : Int32)) (v := (.int v6)) (by rw [e0]; exact Ar104.1) (State.isArrayOf_alike hZ.alike Ar104.2.1) Ar104.2.2 hin104 hat104 (g := (mkF m 17 #[.val (.ref a1), .val (.int (8 : Int32)), .val (.int (6 : Int32)), .unset, .unset] [(.int (6 : Int32)), (.ref a1)])) rfl rfl (hb hby d3_17) _ k) ?_
    show own_Fin p e below s _ _ _ s₁ (mkF m 18 #[.val (.ref a1), .val (.int (8 : Int32)), .val (.int (6 : Int32)), .unset, .unset] [(.int v6)])
    refine own_by (fun _ k => XS.sipush X0.here hx rfl (hb hby d3_18) (XS.iand X0.here hx rfl (hb hby d3_21) rfl (XS.sipush X0.here hx rfl (hb hby d3_22) k))) ?_
    show own_Fin p e below s _ _ _ s₁ (mkF m 25 #[.val (.ref a1), .val (.int (8 : Int32)), .val (.int (6 : Int32)), .unset, .unset] [(.int (128 : Int32)), (.int (v6 &&& (192 : Int32)))])
    by_cases hc25_105 : (v6 &&& (192 : Int32)) = (128 : Int32)
    · show own_Fin p e below s _ _ _ s₁ (mkF m 25 #[.val (.ref a1), .val (.int (8 : Int32)), .val (.int (6 : Int32)), .unset, .unset] [(.int (128 : Int32)), (.int (v6 &&& (192 : Int32)))])
      refine own_by (fun _ k => XS.icmpNo X0.here hx rfl (hb hby d3_25) rfl (teq hc25_105).2 k) ?_
      show own_Fin p e below s _ _ _ s₁ (mkF m 28 #[.val (.ref a1), .val (.int (8 : Int32)), .val (.int (6 : Int32)), .unset, .unset] [])
      refine own_by (fun _ k => XS.iinc X0.here hx rfl (hb hby d3_28) rfl (l' := #[.val (.ref a1), .val (.int (8 : Int32)), .val (.int ((6 : Int32) + (-1 : Int32))), .unset, .unset]) rfl k) ?_
      show own_Fin p e below s _ _ _ s₁ (mkF m 31 #[.val (.ref a1), .val (.int (8 : Int32)), .val (.int ((6 : Int32) + (-1 : Int32))), .unset, .unset] [])
      rw [(by decide : ((6 : Int32) + (-1 : Int32)) = (5 : Int32))]
      show own_Fin p e below s _ _ _ s₁ (mkF m 31 #[.val (.ref a1), .val (.int (8 : Int32)), .val (.int (5 : Int32)), .unset, .unset] [])
      refine own_by (fun _ k => XS.goto X0.here hx rfl (pc0 := 31) (pc' := 4) rfl (hb hby d3_31) (by decide) (by decide) (XS.iloadN X0.here hx rfl (hb hby d3_4) rfl k)) ?_
      show own_Fin p e below s _ _ _ s₁ (mkF m 5 #[.val (.ref a1), .val (.int (8 : Int32)), .val (.int (5 : Int32)), .unset, .unset] [(.int (5 : Int32))])
      refine own_by (fun _ k => XS.ifNo X0.here hx rfl (hb hby d3_5) rfl ((if0 _ _).trans (tlt (by decide : (0 : Int32) < (5 : Int32))).2.2.2) k) ?_
      show own_Fin p e below s _ _ _ s₁ (mkF m 8 #[.val (.ref a1), .val (.int (8 : Int32)), .val (.int (5 : Int32)), .unset, .unset] [])
      refine own_by (fun _ k => XS.iloadN X0.here hx rfl (hb hby d3_8) rfl (XS.iloadN X0.here hx rfl (hb hby d3_9) rfl (XS.iconst X0.here hx rfl (hb hby d3_10) (XS.isub X0.here hx rfl (hb hby d3_11) rfl k)))) ?_
      show own_Fin p e below s _ _ _ s₁ (mkF m 12 #[.val (.ref a1), .val (.int (8 : Int32)), .val (.int (5 : Int32)), .unset, .unset] [(.int ((8 : Int32) - (4 : Int32))), (.int (5 : Int32))])
      rw [(by decide : ((8 : Int32) - (4 : Int32)) = (4 : Int32))]
      show own_Fin p e below s _ _ _ s₁ (mkF m 12 #[.val (.ref a1), .val (.int (8 : Int32)), .val (.int (5 : Int32)), .unset, .unset] [(.int (4 : Int32)), (.int (5 : Int32))])
      refine own_by (fun _ k => XS.icmpNo X0.here hx rfl (hb hby d3_12) rfl (tlt (by decide : (4 : Int32) < (5 : Int32))).2.2.2 k) ?_
      show own_Fin p e below s _ _ _ s₁ (mkF m 15 #[.val (.ref a1), .val (.int (8 : Int32)), .val (.int (5 : Int32)), .unset, .unset] [])
      refine own_by (fun _ k => XS.aloadN X0.here hx rfl (hb hby d3_15) rfl rfl (XS.iloadN X0.here hx rfl (hb hby d3_16) rfl k)) ?_
      show own_Fin p e below s _ _ _ s₁ (mkF m 17 #[.val (.ref a1), .val (.int (8 : Int32)), .val (.int (5 : Int32)), .unset, .unset] [(.int (5 : Int32)), (.ref a1)])
      obtain ⟨cl106, Ar106, -, S106, M106, H106, -⟩ := id V1
      have hin106 : ¬ ((5 : Int32) < 0 ∨ cl106.slots.size ≤ ((5 : Int32)).toNatClampNeg) := inb_of S106 ⟨by decide, by decide⟩
      have hat106 : cl106.slots[((5 : Int32)).toNatClampNeg]? = some (.int v5) := Has.at H106 hin106 rfl
      refine own_by (fun _ k => X0.baloadBytes hx (j := (5 : Int32)) (v := (.int v5)) (by rw [e0]; exact Ar106.1) (State.isArrayOf_alike hZ.alike Ar106.2.1) Ar106.2.2 hin106 hat106 (g := (mkF m 17 #[.val (.ref a1), .val (.int (8 : Int32)), .val (.int (5 : Int32)), .unset, .unset] [(.int (5 : Int32)), (.ref a1)])) rfl rfl (hb hby d3_17) _ k) ?_
      show own_Fin p e below s _ _ _ s₁ (mkF m 18 #[.val (.ref a1), .val (.int (8 : Int32)), .val (.int (5 : Int32)), .unset, .unset] [(.int v5)])
      refine own_by (fun _ k => XS.sipush X0.here hx rfl (hb hby d3_18) (XS.iand X0.here hx rfl (hb hby d3_21) rfl (XS.sipush X0.here hx rfl (hb hby d3_22) k))) ?_
      show own_Fin p e below s _ _ _ s₁ (mkF m 25 #[.val (.ref a1), .val (.int (8 : Int32)), .val (.int (5 : Int32)), .unset, .unset] [(.int (128 : Int32)), (.int (v5 &&& (192 : Int32)))])
      by_cases hc25_107 : (v5 &&& (192 : Int32)) = (128 : Int32)
      · show own_Fin p e below s _ _ _ s₁ (mkF m 25 #[.val (.ref a1), .val (.int (8 : Int32)), .val (.int (5 : Int32)), .unset, .unset] [(.int (128 : Int32)), (.int (v5 &&& (192 : Int32)))])
        refine own_by (fun _ k => XS.icmpNo X0.here hx rfl (hb hby d3_25) rfl (teq hc25_107).2 k) ?_
        show own_Fin p e below s _ _ _ s₁ (mkF m 28 #[.val (.ref a1), .val (.int (8 : Int32)), .val (.int (5 : Int32)), .unset, .unset] [])
        refine own_by (fun _ k => XS.iinc X0.here hx rfl (hb hby d3_28) rfl (l' := #[.val (.ref a1), .val (.int (8 : Int32)), .val (.int ((5 : Int32) + (-1 : Int32))), .unset, .unset]) rfl k) ?_
        show own_Fin p e below s _ _ _ s₁ (mkF m 31 #[.val (.ref a1), .val (.int (8 : Int32)), .val (.int ((5 : Int32) + (-1 : Int32))), .unset, .unset] [])
        rw [(by decide : ((5 : Int32) + (-1 : Int32)) = (4 : Int32))]
        show own_Fin p e below s _ _ _ s₁ (mkF m 31 #[.val (.ref a1), .val (.int (8 : Int32)), .val (.int (4 : Int32)), .unset, .unset] [])
        refine own_by (fun _ k => XS.goto X0.here hx rfl (pc0 := 31) (pc' := 4) rfl (hb hby d3_31) (by decide) (by decide) (XS.iloadN X0.here hx rfl (hb hby d3_4) rfl k)) ?_
        show own_Fin p e below s _ _ _ s₁ (mkF m 5 #[.val (.ref a1), .val (.int (8 : Int32)), .val (.int (4 : Int32)), .unset, .unset] [(.int (4 : Int32))])
        refine own_by (fun _ k => XS.ifNo X0.here hx rfl (hb hby d3_5) rfl ((if0 _ _).trans (tlt (by decide : (0 : Int32) < (4 : Int32))).2.2.2) k) ?_
        show own_Fin p e below s _ _ _ s₁ (mkF m 8 #[.val (.ref a1), .val (.int (8 : Int32)), .val (.int (4 : Int32)), .unset, .unset] [])
        refine own_by (fun _ k => XS.iloadN X0.here hx rfl (hb hby d3_8) rfl (XS.iloadN X0.here hx rfl (hb hby d3_9) rfl (XS.iconst X0.here hx rfl (hb hby d3_10) (XS.isub X0.here hx rfl (hb hby d3_11) rfl k)))) ?_
        show own_Fin p e below s _ _ _ s₁ (mkF m 12 #[.val (.ref a1), .val (.int (8 : Int32)), .val (.int (4 : Int32)), .unset, .unset] [(.int ((8 : Int32) - (4 : Int32))), (.int (4 : Int32))])
        rw [(by decide : ((8 : Int32) - (4 : Int32)) = (4 : Int32))]
        show own_Fin p e below s _ _ _ s₁ (mkF m 12 #[.val (.ref a1), .val (.int (8 : Int32)), .val (.int (4 : Int32)), .unset, .unset] [(.int (4 : Int32)), (.int (4 : Int32))])
        refine own_by (fun _ k => XS.icmpYes X0.here hx rfl (pc0 := 12) (pc' := 34) rfl (hb hby d3_12) rfl (flt (by decide : ¬ ((4 : Int32) < (4 : Int32)))).2.2.2 (by decide) (by decide) k) ?_
        show own_Fin p e below s _ _ _ s₁ (mkF m 34 #[.val (.ref a1), .val (.int (8 : Int32)), .val (.int (4 : Int32)), .unset, .unset] [])
        refine own_by (fun _ k => XS.iloadN X0.here hx rfl (hb hby d3_34) rfl (XS.iloadN X0.here hx rfl (hb hby d3_35) rfl (XS.isub X0.here hx rfl (hb hby d3_36) rfl k))) ?_
        show own_Fin p e below s _ _ _ s₁ (mkF m 37 #[.val (.ref a1), .val (.int (8 : Int32)), .val (.int (4 : Int32)), .unset, .unset] [(.int ((8 : Int32) - (4 : Int32)))])
        rw [(by decide : ((8 : Int32) - (4 : Int32)) = (4 : Int32))]
        show own_Fin p e below s _ _ _ s₁ (mkF m 37 #[.val (.ref a1), .val (.int (8 : Int32)), .val (.int (4 : Int32)), .unset, .unset] [(.int (4 : Int32))])
        refine own_by (fun _ k => XS.istoreN X0.here hx rfl (hb hby d3_37) rfl (l' := #[.val (.ref a1), .val (.int (8 : Int32)), .val (.int (4 : Int32)), .val (.int (4 : Int32)), .unset]) rfl (XS.iloadN X0.here hx rfl (hb hby d3_38) rfl k)) ?_
        show own_Fin p e below s _ _ _ s₁ (mkF m 39 #[.val (.ref a1), .val (.int (8 : Int32)), .val (.int (4 : Int32)), .val (.int (4 : Int32)), .unset] [(.int (4 : Int32))])
        refine own_by (fun _ k => XS.ifNo X0.here hx rfl (hb hby d3_39) rfl ((if0 _ _).trans (flt (by decide : ¬ ((4 : Int32) < (0 : Int32)))).1) k) ?_
        show own_Fin p e below s _ _ _ s₁ (mkF m 42 #[.val (.ref a1), .val (.int (8 : Int32)), .val (.int (4 : Int32)), .val (.int (4 : Int32)), .unset] [])
        refine own_by (fun _ k => XS.iloadN X0.here hx rfl (hb hby d3_42) rfl (XS.aloadN X0.here hx rfl (hb hby d3_43) rfl rfl (XS.iloadN X0.here hx rfl (hb hby d3_44) rfl k))) ?_
        show own_Fin p e below s _ _ _ s₁ (mkF m 45 #[.val (.ref a1), .val (.int (8 : Int32)), .val (.int (4 : Int32)), .val (.int (4 : Int32)), .unset] [(.int (4 : Int32)), (.ref a1), (.int (4 : Int32))])
        obtain ⟨cl108, Ar108, -, S108, M108, H108, -⟩ := id V1
        have hin108 : ¬ ((4 : Int32) < 0 ∨ cl108.slots.size ≤ ((4 : Int32)).toNatClampNeg) := inb_of S108 ⟨by decide, by decide⟩
        have hat108 : cl108.slots[((4 : Int32)).toNatClampNeg]? = some (.int v4) := Has.at H108 hin108 rfl
        refine own_by (fun _ k => X0.baloadBytes hx (j := (4 : Int32)) (v := (.int v4)) (by rw [e0]; exact Ar108.1) (State.isArrayOf_alike hZ.alike Ar108.2.1) Ar108.2.2 hin108 hat108 (g := (mkF m 45 #[.val (.ref a1), .val (.int (8 : Int32)), .val (.int (4 : Int32)), .val (.int (4 : Int32)), .unset] [(.int (4 : Int32)), (.ref a1), (.int (4 : Int32))])) rfl rfl (hb hby d3_45) _ k) ?_
        show own_Fin p e below s _ _ _ s₁ (mkF m 46 #[.val (.ref a1), .val (.int (8 : Int32)), .val (.int (4 : Int32)), .val (.int (4 : Int32)), .unset] [(.int v4), (.int (4 : Int32))])
        refine own_by (fun _ k => XS.sipush X0.here hx rfl (hb hby d3_46) (XS.iand X0.here hx rfl (hb hby d3_49) rfl k)) ?_
        show own_Fin p e below s _ _ _ s₁ (mkF m 50 #[.val (.ref a1), .val (.int (8 : Int32)), .val (.int (4 : Int32)), .val (.int (4 : Int32)), .unset] [(.int (v4 &&& (255 : Int32))), (.int (4 : Int32))])
        obtain ⟨_, _, ⟨T109, L109, k109, n109⟩, -, X109, ⟨Lc109, hQ109, l109, y109, z109⟩, st109⟩ := Jvm.LawKit.callS X0 hx (y := (⟨"com/example/munka/munka/util/Utf8", "sequenceLength", "(I)I"⟩ : MethodName)) hown (mvT hZ (hw _ (List.mem_of_getElem? (i := 13) rfl))) (mvT hZ (hw _ (List.mem_of_getElem? (i := 14) rfl))) (mvT hZ (hw _ (List.mem_of_getElem? (i := 11) rfl))) (mvT hZ (hw _ (List.mem_of_getElem? (i := 15) rfl))) (by decide) (backOf (W := 1) (rm4 l Z a0 hw [] (v4 &&& (255 : Int32)) h0 n0 Z0 ) hZ (hw _ (List.mem_of_getElem? (i := 15) rfl)) (hw _ (List.mem_of_getElem? (i := 11) rfl)) (by decide) (by decide)) (g := (mkF m 50 #[.val (.ref a1), .val (.int (8 : Int32)), .val (.int (4 : Int32)), .val (.int (4 : Int32)), .unset] [(.int (v4 &&& (255 : Int32))), (.int (4 : Int32))])) rfl (by rw [hml]; rfl) (argsL := [(.int (v4 &&& (255 : Int32)))]) (rest := [(.int (4 : Int32))]) (lenOf own_pd69 rfl) rfl (by show 2 * 0 + _ ≤ _; exact Nat.le_of_eq rfl) (hb hby d3_50) (fun _ _ => ⟨rfl, e0, (by decide : 0 + 0 ≤ _), (by decide : 0 + 0 ≤ _)⟩)
        dsimp only [Pt.U, Pt.locs, Pt.cells, Pt.slots] at X109 l109 y109 z109 st109 hQ109
        subst l109 y109 z109
        obtain ⟨rfl, Nq109, eh109⟩ := hQ109
        have N109 := Fr.app N0 Nq109
        refine own_by (fun _ k => st109 _ k) ?_
        show own_Fin p e below s _ _ _ T109 (mkF m 53 #[.val (.ref a1), .val (.int (8 : Int32)), .val (.int (4 : Int32)), .val (.int (4 : Int32)), .unset] [(.int (own_seq (v4 &&& (255 : Int32)))), (.int (4 : Int32))])
        by_cases hc53_110 : (4 : Int32) < (own_seq (v4 &&& (255 : Int32)))
        · show own_Fin p e below s _ _ _ T109 (mkF m 53 #[.val (.ref a1), .val (.int (8 : Int32)), .val (.int (4 : Int32)), .val (.int (4 : Int32)), .unset] [(.int (own_seq (v4 &&& (255 : Int32)))), (.int (4 : Int32))])
          refine own_by (fun _ k => XS.icmpNo X109.here hx rfl (hb hby d3_53) rfl (tlt hc53_110).2.1 k) ?_
          show own_Fin p e below s _ _ _ T109 (mkF m 56 #[.val (.ref a1), .val (.int (8 : Int32)), .val (.int (4 : Int32)), .val (.int (4 : Int32)), .unset] [])
          refine own_by (fun _ k => XS.iconst X109.here hx rfl (hb hby d3_56) (XS.goto X109.here hx rfl (pc0 := 57) (pc' := 61) rfl (hb hby d3_57) (by decide) (by decide) (XS.istore X109.here hx rfl (hb hby d3_61) rfl (l' := #[.val (.ref a1), .val (.int (8 : Int32)), .val (.int (4 : Int32)), .val (.int (4 : Int32)), .val (.int (1 : Int32))]) rfl (XS.iload X109.here hx rfl (hb hby d3_63) rfl k)))) ?_
          show own_Fin p e below s _ _ _ T109 (mkF m 65 #[.val (.ref a1), .val (.int (8 : Int32)), .val (.int (4 : Int32)), .val (.int (4 : Int32)), .val (.int (1 : Int32))] [(.int (1 : Int32))])
          refine own_by (fun _ k => XS.ifNo X109.here hx rfl (hb hby d3_65) rfl ((if0 _ _).trans (feq (by decide : ¬ ((1 : Int32) = (0 : Int32)))).1) k) ?_
          show own_Fin p e below s _ _ _ T109 (mkF m 68 #[.val (.ref a1), .val (.int (8 : Int32)), .val (.int (4 : Int32)), .val (.int (4 : Int32)), .val (.int (1 : Int32))] [])
          refine own_by (fun _ k => XS.iloadN X109.here hx rfl (hb hby d3_68) rfl (XS.goto X109.here hx rfl (pc0 := 69) (pc' := 73) rfl (hb hby d3_69) (by decide) (by decide) k)) ?_
          show own_Fin p e below s _ _ _ T109 (mkF m 73 #[.val (.ref a1), .val (.int (8 : Int32)), .val (.int (4 : Int32)), .val (.int (4 : Int32)), .val (.int (1 : Int32))] [(.int (4 : Int32))])
          exact own_retI X109 hx hlk hret (hb hby d3_73) ⟨own_vi (by show (4 : Int32) = _; first | (simp only [own_tl1, own_tl2, own_tl3, own_tl4, hc25_103, hc25_105, hc25_107, hc53_110, if_true, if_false]; done) | (simp only [own_tl1, own_tl2, own_tl3, own_tl4, hc25_103, hc25_105, hc25_107, hc53_110, if_true, if_false]; decide) | simp [own_tl1, own_tl2, own_tl3, own_tl4, hc25_103, hc25_105, hc25_107, hc53_110]), N109, eh109⟩ (by decide) (by decide)
        · show own_Fin p e below s _ _ _ T109 (mkF m 53 #[.val (.ref a1), .val (.int (8 : Int32)), .val (.int (4 : Int32)), .val (.int (4 : Int32)), .unset] [(.int (own_seq (v4 &&& (255 : Int32)))), (.int (4 : Int32))])
          refine own_by (fun _ k => XS.icmpYes X109.here hx rfl (pc0 := 53) (pc' := 60) rfl (hb hby d3_53) rfl (flt hc53_110).2.1 (by decide) (by decide) k) ?_
          show own_Fin p e below s _ _ _ T109 (mkF m 60 #[.val (.ref a1), .val (.int (8 : Int32)), .val (.int (4 : Int32)), .val (.int (4 : Int32)), .unset] [])
          refine own_by (fun _ k => XS.iconst X109.here hx rfl (hb hby d3_60) (XS.istore X109.here hx rfl (hb hby d3_61) rfl (l' := #[.val (.ref a1), .val (.int (8 : Int32)), .val (.int (4 : Int32)), .val (.int (4 : Int32)), .val (.int (0 : Int32))]) rfl (XS.iload X109.here hx rfl (hb hby d3_63) rfl k))) ?_
          show own_Fin p e below s _ _ _ T109 (mkF m 65 #[.val (.ref a1), .val (.int (8 : Int32)), .val (.int (4 : Int32)), .val (.int (4 : Int32)), .val (.int (0 : Int32))] [(.int (0 : Int32))])
          refine own_by (fun _ k => XS.ifYes X109.here hx rfl (pc0 := 65) (pc' := 72) rfl (hb hby d3_65) rfl ((if0 _ _).trans (teq (by decide : (0 : Int32) = (0 : Int32))).1) (by decide) (by decide) k) ?_
          show own_Fin p e below s _ _ _ T109 (mkF m 72 #[.val (.ref a1), .val (.int (8 : Int32)), .val (.int (4 : Int32)), .val (.int (4 : Int32)), .val (.int (0 : Int32))] [])
          refine own_by (fun _ k => XS.iconst X109.here hx rfl (hb hby d3_72) k) ?_
          show own_Fin p e below s _ _ _ T109 (mkF m 73 #[.val (.ref a1), .val (.int (8 : Int32)), .val (.int (4 : Int32)), .val (.int (4 : Int32)), .val (.int (0 : Int32))] [(.int (0 : Int32))])
          exact own_retI X109 hx hlk hret (hb hby d3_73) ⟨own_vi (by show (0 : Int32) = _; first | (simp only [own_tl1, own_tl2, own_tl3, own_tl4, hc25_103, hc25_105, hc25_107, hc53_110, if_true, if_false]; done) | (simp only [own_tl1, own_tl2, own_tl3, own_tl4, hc25_103, hc25_105, hc25_107, hc53_110, if_true, if_false]; decide) | simp [own_tl1, own_tl2, own_tl3, own_tl4, hc25_103, hc25_105, hc25_107, hc53_110]), N109, eh109⟩ (by decide) (by decide)
      · show own_Fin p e below s _ _ _ s₁ (mkF m 25 #[.val (.ref a1), .val (.int (8 : Int32)), .val (.int (5 : Int32)), .unset, .unset] [(.int (128 : Int32)), (.int (v5 &&& (192 : Int32)))])
        refine own_by (fun _ k => XS.icmpYes X0.here hx rfl (pc0 := 25) (pc' := 34) rfl (hb hby d3_25) rfl (feq hc25_107).2 (by decide) (by decide) k) ?_
        show own_Fin p e below s _ _ _ s₁ (mkF m 34 #[.val (.ref a1), .val (.int (8 : Int32)), .val (.int (5 : Int32)), .unset, .unset] [])
        refine own_by (fun _ k => XS.iloadN X0.here hx rfl (hb hby d3_34) rfl (XS.iloadN X0.here hx rfl (hb hby d3_35) rfl (XS.isub X0.here hx rfl (hb hby d3_36) rfl k))) ?_
        show own_Fin p e below s _ _ _ s₁ (mkF m 37 #[.val (.ref a1), .val (.int (8 : Int32)), .val (.int (5 : Int32)), .unset, .unset] [(.int ((8 : Int32) - (5 : Int32)))])
        rw [(by decide : ((8 : Int32) - (5 : Int32)) = (3 : Int32))]
        show own_Fin p e below s _ _ _ s₁ (mkF m 37 #[.val (.ref a1), .val (.int (8 : Int32)), .val (.int (5 : Int32)), .unset, .unset] [(.int (3 : Int32))])
        refine own_by (fun _ k => XS.istoreN X0.here hx rfl (hb hby d3_37) rfl (l' := #[.val (.ref a1), .val (.int (8 : Int32)), .val (.int (5 : Int32)), .val (.int (3 : Int32)), .unset]) rfl (XS.iloadN X0.here hx rfl (hb hby d3_38) rfl k)) ?_
        show own_Fin p e below s _ _ _ s₁ (mkF m 39 #[.val (.ref a1), .val (.int (8 : Int32)), .val (.int (5 : Int32)), .val (.int (3 : Int32)), .unset] [(.int (5 : Int32))])
        refine own_by (fun _ k => XS.ifNo X0.here hx rfl (hb hby d3_39) rfl ((if0 _ _).trans (flt (by decide : ¬ ((5 : Int32) < (0 : Int32)))).1) k) ?_
        show own_Fin p e below s _ _ _ s₁ (mkF m 42 #[.val (.ref a1), .val (.int (8 : Int32)), .val (.int (5 : Int32)), .val (.int (3 : Int32)), .unset] [])
        refine own_by (fun _ k => XS.iloadN X0.here hx rfl (hb hby d3_42) rfl (XS.aloadN X0.here hx rfl (hb hby d3_43) rfl rfl (XS.iloadN X0.here hx rfl (hb hby d3_44) rfl k))) ?_
        show own_Fin p e below s _ _ _ s₁ (mkF m 45 #[.val (.ref a1), .val (.int (8 : Int32)), .val (.int (5 : Int32)), .val (.int (3 : Int32)), .unset] [(.int (5 : Int32)), (.ref a1), (.int (3 : Int32))])
        obtain ⟨cl111, Ar111, -, S111, M111, H111, -⟩ := id V1
        have hin111 : ¬ ((5 : Int32) < 0 ∨ cl111.slots.size ≤ ((5 : Int32)).toNatClampNeg) := inb_of S111 ⟨by decide, by decide⟩
        have hat111 : cl111.slots[((5 : Int32)).toNatClampNeg]? = some (.int v5) := Has.at H111 hin111 rfl
        refine own_by (fun _ k => X0.baloadBytes hx (j := (5 : Int32)) (v := (.int v5)) (by rw [e0]; exact Ar111.1) (State.isArrayOf_alike hZ.alike Ar111.2.1) Ar111.2.2 hin111 hat111 (g := (mkF m 45 #[.val (.ref a1), .val (.int (8 : Int32)), .val (.int (5 : Int32)), .val (.int (3 : Int32)), .unset] [(.int (5 : Int32)), (.ref a1), (.int (3 : Int32))])) rfl rfl (hb hby d3_45) _ k) ?_
        show own_Fin p e below s _ _ _ s₁ (mkF m 46 #[.val (.ref a1), .val (.int (8 : Int32)), .val (.int (5 : Int32)), .val (.int (3 : Int32)), .unset] [(.int v5), (.int (3 : Int32))])
        refine own_by (fun _ k => XS.sipush X0.here hx rfl (hb hby d3_46) (XS.iand X0.here hx rfl (hb hby d3_49) rfl k)) ?_
        show own_Fin p e below s _ _ _ s₁ (mkF m 50 #[.val (.ref a1), .val (.int (8 : Int32)), .val (.int (5 : Int32)), .val (.int (3 : Int32)), .unset] [(.int (v5 &&& (255 : Int32))), (.int (3 : Int32))])
        obtain ⟨_, _, ⟨T112, L112, k112, n112⟩, -, X112, ⟨Lc112, hQ112, l112, y112, z112⟩, st112⟩ := Jvm.LawKit.callS X0 hx (y := (⟨"com/example/munka/munka/util/Utf8", "sequenceLength", "(I)I"⟩ : MethodName)) hown (mvT hZ (hw _ (List.mem_of_getElem? (i := 13) rfl))) (mvT hZ (hw _ (List.mem_of_getElem? (i := 14) rfl))) (mvT hZ (hw _ (List.mem_of_getElem? (i := 11) rfl))) (mvT hZ (hw _ (List.mem_of_getElem? (i := 15) rfl))) (by decide) (backOf (W := 1) (rm4 l Z a0 hw [] (v5 &&& (255 : Int32)) h0 n0 Z0 ) hZ (hw _ (List.mem_of_getElem? (i := 15) rfl)) (hw _ (List.mem_of_getElem? (i := 11) rfl)) (by decide) (by decide)) (g := (mkF m 50 #[.val (.ref a1), .val (.int (8 : Int32)), .val (.int (5 : Int32)), .val (.int (3 : Int32)), .unset] [(.int (v5 &&& (255 : Int32))), (.int (3 : Int32))])) rfl (by rw [hml]; rfl) (argsL := [(.int (v5 &&& (255 : Int32)))]) (rest := [(.int (3 : Int32))]) (lenOf own_pd69 rfl) rfl (by show 2 * 0 + _ ≤ _; exact Nat.le_of_eq rfl) (hb hby d3_50) (fun _ _ => ⟨rfl, e0, (by decide : 0 + 0 ≤ _), (by decide : 0 + 0 ≤ _)⟩)
        dsimp only [Pt.U, Pt.locs, Pt.cells, Pt.slots] at X112 l112 y112 z112 st112 hQ112
        subst l112 y112 z112
        obtain ⟨rfl, Nq112, eh112⟩ := hQ112
        have N112 := Fr.app N0 Nq112
        refine own_by (fun _ k => st112 _ k) ?_
        show own_Fin p e below s _ _ _ T112 (mkF m 53 #[.val (.ref a1), .val (.int (8 : Int32)), .val (.int (5 : Int32)), .val (.int (3 : Int32)), .unset] [(.int (own_seq (v5 &&& (255 : Int32)))), (.int (3 : Int32))])
        by_cases hc53_113 : (3 : Int32) < (own_seq (v5 &&& (255 : Int32)))
        · show own_Fin p e below s _ _ _ T112 (mkF m 53 #[.val (.ref a1), .val (.int (8 : Int32)), .val (.int (5 : Int32)), .val (.int (3 : Int32)), .unset] [(.int (own_seq (v5 &&& (255 : Int32)))), (.int (3 : Int32))])
          refine own_by (fun _ k => XS.icmpNo X112.here hx rfl (hb hby d3_53) rfl (tlt hc53_113).2.1 k) ?_
          show own_Fin p e below s _ _ _ T112 (mkF m 56 #[.val (.ref a1), .val (.int (8 : Int32)), .val (.int (5 : Int32)), .val (.int (3 : Int32)), .unset] [])
          refine own_by (fun _ k => XS.iconst X112.here hx rfl (hb hby d3_56) (XS.goto X112.here hx rfl (pc0 := 57) (pc' := 61) rfl (hb hby d3_57) (by decide) (by decide) (XS.istore X112.here hx rfl (hb hby d3_61) rfl (l' := #[.val (.ref a1), .val (.int (8 : Int32)), .val (.int (5 : Int32)), .val (.int (3 : Int32)), .val (.int (1 : Int32))]) rfl (XS.iload X112.here hx rfl (hb hby d3_63) rfl k)))) ?_
          show own_Fin p e below s _ _ _ T112 (mkF m 65 #[.val (.ref a1), .val (.int (8 : Int32)), .val (.int (5 : Int32)), .val (.int (3 : Int32)), .val (.int (1 : Int32))] [(.int (1 : Int32))])
          refine own_by (fun _ k => XS.ifNo X112.here hx rfl (hb hby d3_65) rfl ((if0 _ _).trans (feq (by decide : ¬ ((1 : Int32) = (0 : Int32)))).1) k) ?_
          show own_Fin p e below s _ _ _ T112 (mkF m 68 #[.val (.ref a1), .val (.int (8 : Int32)), .val (.int (5 : Int32)), .val (.int (3 : Int32)), .val (.int (1 : Int32))] [])
          refine own_by (fun _ k => XS.iloadN X112.here hx rfl (hb hby d3_68) rfl (XS.goto X112.here hx rfl (pc0 := 69) (pc' := 73) rfl (hb hby d3_69) (by decide) (by decide) k)) ?_
          show own_Fin p e below s _ _ _ T112 (mkF m 73 #[.val (.ref a1), .val (.int (8 : Int32)), .val (.int (5 : Int32)), .val (.int (3 : Int32)), .val (.int (1 : Int32))] [(.int (3 : Int32))])
          exact own_retI X112 hx hlk hret (hb hby d3_73) ⟨own_vi (by show (3 : Int32) = _; first | (simp only [own_tl1, own_tl2, own_tl3, own_tl4, hc25_103, hc25_105, hc25_107, hc53_113, if_true, if_false]; done) | (simp only [own_tl1, own_tl2, own_tl3, own_tl4, hc25_103, hc25_105, hc25_107, hc53_113, if_true, if_false]; decide) | simp [own_tl1, own_tl2, own_tl3, own_tl4, hc25_103, hc25_105, hc25_107, hc53_113]), N112, eh112⟩ (by decide) (by decide)
        · show own_Fin p e below s _ _ _ T112 (mkF m 53 #[.val (.ref a1), .val (.int (8 : Int32)), .val (.int (5 : Int32)), .val (.int (3 : Int32)), .unset] [(.int (own_seq (v5 &&& (255 : Int32)))), (.int (3 : Int32))])
          refine own_by (fun _ k => XS.icmpYes X112.here hx rfl (pc0 := 53) (pc' := 60) rfl (hb hby d3_53) rfl (flt hc53_113).2.1 (by decide) (by decide) k) ?_
          show own_Fin p e below s _ _ _ T112 (mkF m 60 #[.val (.ref a1), .val (.int (8 : Int32)), .val (.int (5 : Int32)), .val (.int (3 : Int32)), .unset] [])
          refine own_by (fun _ k => XS.iconst X112.here hx rfl (hb hby d3_60) (XS.istore X112.here hx rfl (hb hby d3_61) rfl (l' := #[.val (.ref a1), .val (.int (8 : Int32)), .val (.int (5 : Int32)), .val (.int (3 : Int32)), .val (.int (0 : Int32))]) rfl (XS.iload X112.here hx rfl (hb hby d3_63) rfl k))) ?_
          show own_Fin p e below s _ _ _ T112 (mkF m 65 #[.val (.ref a1), .val (.int (8 : Int32)), .val (.int (5 : Int32)), .val (.int (3 : Int32)), .val (.int (0 : Int32))] [(.int (0 : Int32))])
          refine own_by (fun _ k => XS.ifYes X112.here hx rfl (pc0 := 65) (pc' := 72) rfl (hb hby d3_65) rfl ((if0 _ _).trans (teq (by decide : (0 : Int32) = (0 : Int32))).1) (by decide) (by decide) k) ?_
          show own_Fin p e below s _ _ _ T112 (mkF m 72 #[.val (.ref a1), .val (.int (8 : Int32)), .val (.int (5 : Int32)), .val (.int (3 : Int32)), .val (.int (0 : Int32))] [])
          refine own_by (fun _ k => XS.iconst X112.here hx rfl (hb hby d3_72) k) ?_
          show own_Fin p e below s _ _ _ T112 (mkF m 73 #[.val (.ref a1), .val (.int (8 : Int32)), .val (.int (5 : Int32)), .val (.int (3 : Int32)), .val (.int (0 : Int32))] [(.int (0 : Int32))])
          exact own_retI X112 hx hlk hret (hb hby d3_73) ⟨own_vi (by show (0 : Int32) = _; first | (simp only [own_tl1, own_tl2, own_tl3, own_tl4, hc25_103, hc25_105, hc25_107, hc53_113, if_true, if_false]; done) | (simp only [own_tl1, own_tl2, own_tl3, own_tl4, hc25_103, hc25_105, hc25_107, hc53_113, if_true, if_false]; decide) | simp [own_tl1, own_tl2, own_tl3, own_tl4, hc25_103, hc25_105, hc25_107, hc53_113]), N112, eh112⟩ (by decide) (by decide)
    · show own_Fin p e below s _ _ _ s₁ (mkF m 25 #[.val (.ref a1), .val (.int (8 : Int32)), .val (.int (6 : Int32)), .unset, .unset] [(.int (128 : Int32)), (.int (v6 &&& (192 : Int32)))])
      refine own_by (fun _ k => XS.icmpYes X0.here hx rfl (pc0 := 25) (pc' := 34) rfl (hb hby d3_25) rfl (feq hc25_105).2 (by decide) (by decide) k) ?_
      show own_Fin p e below s _ _ _ s₁ (mkF m 34 #[.val (.ref a1), .val (.int (8 : Int32)), .val (.int (6 : Int32)), .unset, .unset] [])
      refine own_by (fun _ k => XS.iloadN X0.here hx rfl (hb hby d3_34) rfl (XS.iloadN X0.here hx rfl (hb hby d3_35) rfl (XS.isub X0.here hx rfl (hb hby d3_36) rfl k))) ?_
      show own_Fin p e below s _ _ _ s₁ (mkF m 37 #[.val (.ref a1), .val (.int (8 : Int32)), .val (.int (6 : Int32)), .unset, .unset] [(.int ((8 : Int32) - (6 : Int32)))])
      rw [(by decide : ((8 : Int32) - (6 : Int32)) = (2 : Int32))]
      show own_Fin p e below s _ _ _ s₁ (mkF m 37 #[.val (.ref a1), .val (.int (8 : Int32)), .val (.int (6 : Int32)), .unset, .unset] [(.int (2 : Int32))])
      refine own_by (fun _ k => XS.istoreN X0.here hx rfl (hb hby d3_37) rfl (l' := #[.val (.ref a1), .val (.int (8 : Int32)), .val (.int (6 : Int32)), .val (.int (2 : Int32)), .unset]) rfl (XS.iloadN X0.here hx rfl (hb hby d3_38) rfl k)) ?_
      show own_Fin p e below s _ _ _ s₁ (mkF m 39 #[.val (.ref a1), .val (.int (8 : Int32)), .val (.int (6 : Int32)), .val (.int (2 : Int32)), .unset] [(.int (6 : Int32))])
      refine own_by (fun _ k => XS.ifNo X0.here hx rfl (hb hby d3_39) rfl ((if0 _ _).trans (flt (by decide : ¬ ((6 : Int32) < (0 : Int32)))).1) k) ?_
      show own_Fin p e below s _ _ _ s₁ (mkF m 42 #[.val (.ref a1), .val (.int (8 : Int32)), .val (.int (6 : Int32)), .val (.int (2 : Int32)), .unset] [])
      refine own_by (fun _ k => XS.iloadN X0.here hx rfl (hb hby d3_42) rfl (XS.aloadN X0.here hx rfl (hb hby d3_43) rfl rfl (XS.iloadN X0.here hx rfl (hb hby d3_44) rfl k))) ?_
      show own_Fin p e below s _ _ _ s₁ (mkF m 45 #[.val (.ref a1), .val (.int (8 : Int32)), .val (.int (6 : Int32)), .val (.int (2 : Int32)), .unset] [(.int (6 : Int32)), (.ref a1), (.int (2 : Int32))])
      obtain ⟨cl114, Ar114, -, S114, M114, H114, -⟩ := id V1
      have hin114 : ¬ ((6 : Int32) < 0 ∨ cl114.slots.size ≤ ((6 : Int32)).toNatClampNeg) := inb_of S114 ⟨by decide, by decide⟩
      have hat114 : cl114.slots[((6 : Int32)).toNatClampNeg]? = some (.int v6) := Has.at H114 hin114 rfl
      refine own_by (fun _ k => X0.baloadBytes hx (j := (6 : Int32)) (v := (.int v6)) (by rw [e0]; exact Ar114.1) (State.isArrayOf_alike hZ.alike Ar114.2.1) Ar114.2.2 hin114 hat114 (g := (mkF m 45 #[.val (.ref a1), .val (.int (8 : Int32)), .val (.int (6 : Int32)), .val (.int (2 : Int32)), .unset] [(.int (6 : Int32)), (.ref a1), (.int (2 : Int32))])) rfl rfl (hb hby d3_45) _ k) ?_
      show own_Fin p e below s _ _ _ s₁ (mkF m 46 #[.val (.ref a1), .val (.int (8 : Int32)), .val (.int (6 : Int32)), .val (.int (2 : Int32)), .unset] [(.int v6), (.int (2 : Int32))])
      refine own_by (fun _ k => XS.sipush X0.here hx rfl (hb hby d3_46) (XS.iand X0.here hx rfl (hb hby d3_49) rfl k)) ?_
      show own_Fin p e below s _ _ _ s₁ (mkF m 50 #[.val (.ref a1), .val (.int (8 : Int32)), .val (.int (6 : Int32)), .val (.int (2 : Int32)), .unset] [(.int (v6 &&& (255 : Int32))), (.int (2 : Int32))])
      obtain ⟨_, _, ⟨T115, L115, k115, n115⟩, -, X115, ⟨Lc115, hQ115, l115, y115, z115⟩, st115⟩ := Jvm.LawKit.callS X0 hx (y := (⟨"com/example/munka/munka/util/Utf8", "sequenceLength", "(I)I"⟩ : MethodName)) hown (mvT hZ (hw _ (List.mem_of_getElem? (i := 13) rfl))) (mvT hZ (hw _ (List.mem_of_getElem? (i := 14) rfl))) (mvT hZ (hw _ (List.mem_of_getElem? (i := 11) rfl))) (mvT hZ (hw _ (List.mem_of_getElem? (i := 15) rfl))) (by decide) (backOf (W := 1) (rm4 l Z a0 hw [] (v6 &&& (255 : Int32)) h0 n0 Z0 ) hZ (hw _ (List.mem_of_getElem? (i := 15) rfl)) (hw _ (List.mem_of_getElem? (i := 11) rfl)) (by decide) (by decide)) (g := (mkF m 50 #[.val (.ref a1), .val (.int (8 : Int32)), .val (.int (6 : Int32)), .val (.int (2 : Int32)), .unset] [(.int (v6 &&& (255 : Int32))), (.int (2 : Int32))])) rfl (by rw [hml]; rfl) (argsL := [(.int (v6 &&& (255 : Int32)))]) (rest := [(.int (2 : Int32))]) (lenOf own_pd69 rfl) rfl (by show 2 * 0 + _ ≤ _; exact Nat.le_of_eq rfl) (hb hby d3_50) (fun _ _ => ⟨rfl, e0, (by decide : 0 + 0 ≤ _), (by decide : 0 + 0 ≤ _)⟩)
      dsimp only [Pt.U, Pt.locs, Pt.cells, Pt.slots] at X115 l115 y115 z115 st115 hQ115
      subst l115 y115 z115
      obtain ⟨rfl, Nq115, eh115⟩ := hQ115
      have N115 := Fr.app N0 Nq115
      refine own_by (fun _ k => st115 _ k) ?_
      show own_Fin p e below s _ _ _ T115 (mkF m 53 #[.val (.ref a1), .val (.int (8 : Int32)), .val (.int (6 : Int32)), .val (.int (2 : Int32)), .unset] [(.int (own_seq (v6 &&& (255 : Int32)))), (.int (2 : Int32))])
      by_cases hc53_116 : (2 : Int32) < (own_seq (v6 &&& (255 : Int32)))
      · show own_Fin p e below s _ _ _ T115 (mkF m 53 #[.val (.ref a1), .val (.int (8 : Int32)), .val (.int (6 : Int32)), .val (.int (2 : Int32)), .unset] [(.int (own_seq (v6 &&& (255 : Int32)))), (.int (2 : Int32))])
        refine own_by (fun _ k => XS.icmpNo X115.here hx rfl (hb hby d3_53) rfl (tlt hc53_116).2.1 k) ?_
        show own_Fin p e below s _ _ _ T115 (mkF m 56 #[.val (.ref a1), .val (.int (8 : Int32)), .val (.int (6 : Int32)), .val (.int (2 : Int32)), .unset] [])
        refine own_by (fun _ k => XS.iconst X115.here hx rfl (hb hby d3_56) (XS.goto X115.here hx rfl (pc0 := 57) (pc' := 61) rfl (hb hby d3_57) (by decide) (by decide) (XS.istore X115.here hx rfl (hb hby d3_61) rfl (l' := #[.val (.ref a1), .val (.int (8 : Int32)), .val (.int (6 : Int32)), .val (.int (2 : Int32)), .val (.int (1 : Int32))]) rfl (XS.iload X115.here hx rfl (hb hby d3_63) rfl k)))) ?_
        show own_Fin p e below s _ _ _ T115 (mkF m 65 #[.val (.ref a1), .val (.int (8 : Int32)), .val (.int (6 : Int32)), .val (.int (2 : Int32)), .val (.int (1 : Int32))] [(.int (1 : Int32))])
        refine own_by (fun _ k => XS.ifNo X115.here hx rfl (hb hby d3_65) rfl ((if0 _ _).trans (feq (by decide : ¬ ((1 : Int32) = (0 : Int32)))).1) k) ?_
        show own_Fin p e below s _ _ _ T115 (mkF m 68 #[.val (.ref a1), .val (.int (8 : Int32)), .val (.int (6 : Int32)), .val (.int (2 : Int32)), .val (.int (1 : Int32))] [])
        refine own_by (fun _ k => XS.iloadN X115.here hx rfl (hb hby d3_68) rfl (XS.goto X115.here hx rfl (pc0 := 69) (pc' := 73) rfl (hb hby d3_69) (by decide) (by decide) k)) ?_
        show own_Fin p e below s _ _ _ T115 (mkF m 73 #[.val (.ref a1), .val (.int (8 : Int32)), .val (.int (6 : Int32)), .val (.int (2 : Int32)), .val (.int (1 : Int32))] [(.int (2 : Int32))])
        exact own_retI X115 hx hlk hret (hb hby d3_73) ⟨own_vi (by show (2 : Int32) = _; first | (simp only [own_tl1, own_tl2, own_tl3, own_tl4, hc25_103, hc25_105, hc53_116, if_true, if_false]; done) | (simp only [own_tl1, own_tl2, own_tl3, own_tl4, hc25_103, hc25_105, hc53_116, if_true, if_false]; decide) | simp [own_tl1, own_tl2, own_tl3, own_tl4, hc25_103, hc25_105, hc53_116]), N115, eh115⟩ (by decide) (by decide)
      · show own_Fin p e below s _ _ _ T115 (mkF m 53 #[.val (.ref a1), .val (.int (8 : Int32)), .val (.int (6 : Int32)), .val (.int (2 : Int32)), .unset] [(.int (own_seq (v6 &&& (255 : Int32)))), (.int (2 : Int32))])
        refine own_by (fun _ k => XS.icmpYes X115.here hx rfl (pc0 := 53) (pc' := 60) rfl (hb hby d3_53) rfl (flt hc53_116).2.1 (by decide) (by decide) k) ?_
        show own_Fin p e below s _ _ _ T115 (mkF m 60 #[.val (.ref a1), .val (.int (8 : Int32)), .val (.int (6 : Int32)), .val (.int (2 : Int32)), .unset] [])
        refine own_by (fun _ k => XS.iconst X115.here hx rfl (hb hby d3_60) (XS.istore X115.here hx rfl (hb hby d3_61) rfl (l' := #[.val (.ref a1), .val (.int (8 : Int32)), .val (.int (6 : Int32)), .val (.int (2 : Int32)), .val (.int (0 : Int32))]) rfl (XS.iload X115.here hx rfl (hb hby d3_63) rfl k))) ?_
        show own_Fin p e below s _ _ _ T115 (mkF m 65 #[.val (.ref a1), .val (.int (8 : Int32)), .val (.int (6 : Int32)), .val (.int (2 : Int32)), .val (.int (0 : Int32))] [(.int (0 : Int32))])
        refine own_by (fun _ k => XS.ifYes X115.here hx rfl (pc0 := 65) (pc' := 72) rfl (hb hby d3_65) rfl ((if0 _ _).trans (teq (by decide : (0 : Int32) = (0 : Int32))).1) (by decide) (by decide) k) ?_
        show own_Fin p e below s _ _ _ T115 (mkF m 72 #[.val (.ref a1), .val (.int (8 : Int32)), .val (.int (6 : Int32)), .val (.int (2 : Int32)), .val (.int (0 : Int32))] [])
        refine own_by (fun _ k => XS.iconst X115.here hx rfl (hb hby d3_72) k) ?_
        show own_Fin p e below s _ _ _ T115 (mkF m 73 #[.val (.ref a1), .val (.int (8 : Int32)), .val (.int (6 : Int32)), .val (.int (2 : Int32)), .val (.int (0 : Int32))] [(.int (0 : Int32))])
        exact own_retI X115 hx hlk hret (hb hby d3_73) ⟨own_vi (by show (0 : Int32) = _; first | (simp only [own_tl1, own_tl2, own_tl3, own_tl4, hc25_103, hc25_105, hc53_116, if_true, if_false]; done) | (simp only [own_tl1, own_tl2, own_tl3, own_tl4, hc25_103, hc25_105, hc53_116, if_true, if_false]; decide) | simp [own_tl1, own_tl2, own_tl3, own_tl4, hc25_103, hc25_105, hc53_116]), N115, eh115⟩ (by decide) (by decide)
  · show own_Fin p e below s _ _ _ s₁ (mkF m 25 #[.val (.ref a1), .val (.int (8 : Int32)), .val (.int (7 : Int32)), .unset, .unset] [(.int (128 : Int32)), (.int (v7 &&& (192 : Int32)))])
    refine own_by (fun _ k => XS.icmpYes X0.here hx rfl (pc0 := 25) (pc' := 34) rfl (hb hby d3_25) rfl (feq hc25_103).2 (by decide) (by decide) k) ?_
    show own_Fin p e below s _ _ _ s₁ (mkF m 34 #[.val (.ref a1), .val (.int (8 : Int32)), .val (.int (7 : Int32)), .unset, .unset] [])
    refine own_by (fun _ k => XS.iloadN X0.here hx rfl (hb hby d3_34) rfl (XS.iloadN X0.here hx rfl (hb hby d3_35) rfl (XS.isub X0.here hx rfl (hb hby d3_36) rfl k))) ?_
    show own_Fin p e below s _ _ _ s₁ (mkF m 37 #[.val (.ref a1), .val (.int (8 : Int32)), .val (.int (7 : Int32)), .unset, .unset] [(.int ((8 : Int32) - (7 : Int32)))])
    rw [(by decide : ((8 : Int32) - (7 : Int32)) = (1 : Int32))]
    show own_Fin p e below s _ _ _ s₁ (mkF m 37 #[.val (.ref a1), .val (.int (8 : Int32)), .val (.int (7 : Int32)), .unset, .unset] [(.int (1 : Int32))])
    refine own_by (fun _ k => XS.istoreN X0.here hx rfl (hb hby d3_37) rfl (l' := #[.val (.ref a1), .val (.int (8 : Int32)), .val (.int (7 : Int32)), .val (.int (1 : Int32)), .unset]) rfl (XS.iloadN X0.here hx rfl (hb hby d3_38) rfl k)) ?_
    show own_Fin p e below s _ _ _ s₁ (mkF m 39 #[.val (.ref a1), .val (.int (8 : Int32)), .val (.int (7 : Int32)), .val (.int (1 : Int32)), .unset] [(.int (7 : Int32))])
    refine own_by (fun _ k => XS.ifNo X0.here hx rfl (hb hby d3_39) rfl ((if0 _ _).trans (flt (by decide : ¬ ((7 : Int32) < (0 : Int32)))).1) k) ?_
    show own_Fin p e below s _ _ _ s₁ (mkF m 42 #[.val (.ref a1), .val (.int (8 : Int32)), .val (.int (7 : Int32)), .val (.int (1 : Int32)), .unset] [])
    refine own_by (fun _ k => XS.iloadN X0.here hx rfl (hb hby d3_42) rfl (XS.aloadN X0.here hx rfl (hb hby d3_43) rfl rfl (XS.iloadN X0.here hx rfl (hb hby d3_44) rfl k))) ?_
    show own_Fin p e below s _ _ _ s₁ (mkF m 45 #[.val (.ref a1), .val (.int (8 : Int32)), .val (.int (7 : Int32)), .val (.int (1 : Int32)), .unset] [(.int (7 : Int32)), (.ref a1), (.int (1 : Int32))])
    obtain ⟨cl117, Ar117, -, S117, M117, H117, -⟩ := id V1
    have hin117 : ¬ ((7 : Int32) < 0 ∨ cl117.slots.size ≤ ((7 : Int32)).toNatClampNeg) := inb_of S117 ⟨by decide, by decide⟩
    have hat117 : cl117.slots[((7 : Int32)).toNatClampNeg]? = some (.int v7) := Has.at H117 hin117 rfl
    refine own_by (fun _ k => X0.baloadBytes hx (j := (7 : Int32)) (v := (.int v7)) (by rw [e0]; exact Ar117.1) (State.isArrayOf_alike hZ.alike Ar117.2.1) Ar117.2.2 hin117 hat117 (g := (mkF m 45 #[.val (.ref a1), .val (.int (8 : Int32)), .val (.int (7 : Int32)), .val (.int (1 : Int32)), .unset] [(.int (7 : Int32)), (.ref a1), (.int (1 : Int32))])) rfl rfl (hb hby d3_45) _ k) ?_
    show own_Fin p e below s _ _ _ s₁ (mkF m 46 #[.val (.ref a1), .val (.int (8 : Int32)), .val (.int (7 : Int32)), .val (.int (1 : Int32)), .unset] [(.int v7), (.int (1 : Int32))])
    refine own_by (fun _ k => XS.sipush X0.here hx rfl (hb hby d3_46) (XS.iand X0.here hx rfl (hb hby d3_49) rfl k)) ?_
    show own_Fin p e below s _ _ _ s₁ (mkF m 50 #[.val (.ref a1), .val (.int (8 : Int32)), .val (.int (7 : Int32)), .val (.int (1 : Int32)), .unset] [(.int (v7 &&& (255 : Int32))), (.int (1 : Int32))])
    obtain ⟨_, _, ⟨T118, L118, k118, n118⟩, -, X118, ⟨Lc118, hQ118, l118, y118, z118⟩, st118⟩ := Jvm.LawKit.callS X0 hx (y := (⟨"com/example/munka/munka/util/Utf8", "sequenceLength", "(I)I"⟩ : MethodName)) hown (mvT hZ (hw _ (List.mem_of_getElem? (i := 13) rfl))) (mvT hZ (hw _ (List.mem_of_getElem? (i := 14) rfl))) (mvT hZ (hw _ (List.mem_of_getElem? (i := 11) rfl))) (mvT hZ (hw _ (List.mem_of_getElem? (i := 15) rfl))) (by decide) (backOf (W := 1) (rm4 l Z a0 hw [] (v7 &&& (255 : Int32)) h0 n0 Z0 ) hZ (hw _ (List.mem_of_getElem? (i := 15) rfl)) (hw _ (List.mem_of_getElem? (i := 11) rfl)) (by decide) (by decide)) (g := (mkF m 50 #[.val (.ref a1), .val (.int (8 : Int32)), .val (.int (7 : Int32)), .val (.int (1 : Int32)), .unset] [(.int (v7 &&& (255 : Int32))), (.int (1 : Int32))])) rfl (by rw [hml]; rfl) (argsL := [(.int (v7 &&& (255 : Int32)))]) (rest := [(.int (1 : Int32))]) (lenOf own_pd69 rfl) rfl (by show 2 * 0 + _ ≤ _; exact Nat.le_of_eq rfl) (hb hby d3_50) (fun _ _ => ⟨rfl, e0, (by decide : 0 + 0 ≤ _), (by decide : 0 + 0 ≤ _)⟩)
    dsimp only [Pt.U, Pt.locs, Pt.cells, Pt.slots] at X118 l118 y118 z118 st118 hQ118
    subst l118 y118 z118
    obtain ⟨rfl, Nq118, eh118⟩ := hQ118
    have N118 := Fr.app N0 Nq118
    refine own_by (fun _ k => st118 _ k) ?_
    show own_Fin p e below s _ _ _ T118 (mkF m 53 #[.val (.ref a1), .val (.int (8 : Int32)), .val (.int (7 : Int32)), .val (.int (1 : Int32)), .unset] [(.int (own_seq (v7 &&& (255 : Int32)))), (.int (1 : Int32))])
    by_cases hc53_119 : (1 : Int32) < (own_seq (v7 &&& (255 : Int32)))
    · show own_Fin p e below s _ _ _ T118 (mkF m 53 #[.val (.ref a1), .val (.int (8 : Int32)), .val (.int (7 : Int32)), .val (.int (1 : Int32)), .unset] [(.int (own_seq (v7 &&& (255 : Int32)))), (.int (1 : Int32))])
      refine own_by (fun _ k => XS.icmpNo X118.here hx rfl (hb hby d3_53) rfl (tlt hc53_119).2.1 k) ?_
      show own_Fin p e below s _ _ _ T118 (mkF m 56 #[.val (.ref a1), .val (.int (8 : Int32)), .val (.int (7 : Int32)), .val (.int (1 : Int32)), .unset] [])
      refine own_by (fun _ k => XS.iconst X118.here hx rfl (hb hby d3_56) (XS.goto X118.here hx rfl (pc0 := 57) (pc' := 61) rfl (hb hby d3_57) (by decide) (by decide) (XS.istore X118.here hx rfl (hb hby d3_61) rfl (l' := #[.val (.ref a1), .val (.int (8 : Int32)), .val (.int (7 : Int32)), .val (.int (1 : Int32)), .val (.int (1 : Int32))]) rfl (XS.iload X118.here hx rfl (hb hby d3_63) rfl k)))) ?_
      show own_Fin p e below s _ _ _ T118 (mkF m 65 #[.val (.ref a1), .val (.int (8 : Int32)), .val (.int (7 : Int32)), .val (.int (1 : Int32)), .val (.int (1 : Int32))] [(.int (1 : Int32))])
      refine own_by (fun _ k => XS.ifNo X118.here hx rfl (hb hby d3_65) rfl ((if0 _ _).trans (feq (by decide : ¬ ((1 : Int32) = (0 : Int32)))).1) k) ?_
      show own_Fin p e below s _ _ _ T118 (mkF m 68 #[.val (.ref a1), .val (.int (8 : Int32)), .val (.int (7 : Int32)), .val (.int (1 : Int32)), .val (.int (1 : Int32))] [])
      refine own_by (fun _ k => XS.iloadN X118.here hx rfl (hb hby d3_68) rfl (XS.goto X118.here hx rfl (pc0 := 69) (pc' := 73) rfl (hb hby d3_69) (by decide) (by decide) k)) ?_
      show own_Fin p e below s _ _ _ T118 (mkF m 73 #[.val (.ref a1), .val (.int (8 : Int32)), .val (.int (7 : Int32)), .val (.int (1 : Int32)), .val (.int (1 : Int32))] [(.int (1 : Int32))])
      exact own_retI X118 hx hlk hret (hb hby d3_73) ⟨own_vi (by show (1 : Int32) = _; first | (simp only [own_tl1, own_tl2, own_tl3, own_tl4, hc25_103, hc53_119, if_true, if_false]; done) | (simp only [own_tl1, own_tl2, own_tl3, own_tl4, hc25_103, hc53_119, if_true, if_false]; decide) | simp [own_tl1, own_tl2, own_tl3, own_tl4, hc25_103, hc53_119]), N118, eh118⟩ (by decide) (by decide)
    · show own_Fin p e below s _ _ _ T118 (mkF m 53 #[.val (.ref a1), .val (.int (8 : Int32)), .val (.int (7 : Int32)), .val (.int (1 : Int32)), .unset] [(.int (own_seq (v7 &&& (255 : Int32)))), (.int (1 : Int32))])
      refine own_by (fun _ k => XS.icmpYes X118.here hx rfl (pc0 := 53) (pc' := 60) rfl (hb hby d3_53) rfl (flt hc53_119).2.1 (by decide) (by decide) k) ?_
      show own_Fin p e below s _ _ _ T118 (mkF m 60 #[.val (.ref a1), .val (.int (8 : Int32)), .val (.int (7 : Int32)), .val (.int (1 : Int32)), .unset] [])
      refine own_by (fun _ k => XS.iconst X118.here hx rfl (hb hby d3_60) (XS.istore X118.here hx rfl (hb hby d3_61) rfl (l' := #[.val (.ref a1), .val (.int (8 : Int32)), .val (.int (7 : Int32)), .val (.int (1 : Int32)), .val (.int (0 : Int32))]) rfl (XS.iload X118.here hx rfl (hb hby d3_63) rfl k))) ?_
      show own_Fin p e below s _ _ _ T118 (mkF m 65 #[.val (.ref a1), .val (.int (8 : Int32)), .val (.int (7 : Int32)), .val (.int (1 : Int32)), .val (.int (0 : Int32))] [(.int (0 : Int32))])
      refine own_by (fun _ k => XS.ifYes X118.here hx rfl (pc0 := 65) (pc' := 72) rfl (hb hby d3_65) rfl ((if0 _ _).trans (teq (by decide : (0 : Int32) = (0 : Int32))).1) (by decide) (by decide) k) ?_
      show own_Fin p e below s _ _ _ T118 (mkF m 72 #[.val (.ref a1), .val (.int (8 : Int32)), .val (.int (7 : Int32)), .val (.int (1 : Int32)), .val (.int (0 : Int32))] [])
      refine own_by (fun _ k => XS.iconst X118.here hx rfl (hb hby d3_72) k) ?_
      show own_Fin p e below s _ _ _ T118 (mkF m 73 #[.val (.ref a1), .val (.int (8 : Int32)), .val (.int (7 : Int32)), .val (.int (1 : Int32)), .val (.int (0 : Int32))] [(.int (0 : Int32))])
      exact own_retI X118 hx hlk hret (hb hby d3_73) ⟨own_vi (by show (0 : Int32) = _; first | (simp only [own_tl1, own_tl2, own_tl3, own_tl4, hc25_103, hc53_119, if_true, if_false]; done) | (simp only [own_tl1, own_tl2, own_tl3, own_tl4, hc25_103, hc53_119, if_true, if_false]; decide) | simp [own_tl1, own_tl2, own_tl3, own_tl4, hc25_103, hc53_119]), N118, eh118⟩ (by decide) (by decide)
theorem own_pd97 : parseMethodDescriptor "([BI)I" = some ⟨[(.array .byte), .int], some .int⟩ := by decide +kernel
theorem own_pd98 : parseMethodDescriptor "(I)Z" = some ⟨[.int], some .boolean⟩ := by decide +kernel
theorem ef_rm0 (m : MethodId) (x0 : Int64) (x1 : Int32) : entryFrame m #[(.long x0), (.int x1)] maxLocals = mkF m 0 #[.val (.long x0), .second, .val (.int x1), .unset, .unset, .unset, .unset] [] := by first | (simp [entryFrame, mkF, argsToLocals, Value.category, maxLocals]; done) | rfl
def own_Q0 (n0 : Nat) (v : Option Value) (h : Heap) (L : List Loc) : Prop := v = some (.int (1 : Int32)) ∧ Fr n0 L
set_option maxRecDepth 65536 in
set_option maxHeartbeats 40000000 in
theorem rm0 (l : Launch) (Z : State) (a0 : Array Value) (hw : ∀ d ∈ tables_1, d.before a0 Z = true) (ws : List Jvm.Cond) (p1 : Int64) (p2 : Int32) (h0 : Heap) (n0 : Nat) (Z0 : n0 ≤ h0.size)  :
    MetFree l x (head1 (Jvm.Cond.code x code maxLocals ret :: ws) room_1) (fun a U => a = #[(.long p1), (.int p2)] ∧ Z.Warmed39 U.vm ∧ U.heap = h0) (fun _ _ _ _ _ => True) (fun _ U o U' => ∃ v L, o = .returned v ∧ own_Q0 n0 v U'.heap L ∧ FrameEnd U o U' L room_1.cells room_1.slots) := by
  refine MetFree.of_bodySF (plainFor_of_name own_pn1) hisR ?_
  intro p e s m args below meth c s₁ Bd hml0 hP hK
  obtain ⟨rfl, hZ, hh⟩ := hP
  have hx := Bd.exec
  have hby := Bd.bytes
  have hlk := Bd.notSynchronized
  have hml : c.maxLocals = 7 := hml0
  have hown : s.vm.findClass "com/example/munka/munka/util/Utf8UnfinishedTailPinLaw" = some m.cls := findClass_of_methodNamed Bd.named
  have hnm := (name_of_methodNamed Bd.named Bd.method).1
  have X0 : Stand p l e room_1 s m #[(.long p1), (.int p2)] below meth c s₁ [] 0 0 := Stand.of_body Bd
  have e0 : s₁.heap = h0 := by rw [← hh, Bd.state]; rfl
  have N0 := Fr.nil n0
  refine own_start (Q := own_Q0 n0) (C := room_1.cells) (N := room_1.slots) (ef_rm0 m p1 p2 ) ?_
  show own_Fin p e below s _ _ _ s₁ (mkF m 0 #[.val (.long p1), .second, .val (.int p2), .unset, .unset, .unset, .unset] [])
  refine own_by (fun _ k => XS.bipush X0.here hx rfl (hb hby at_0) k) ?_
  show own_Fin p e below s _ _ _ s₁ (mkF m 2 #[.val (.long p1), .second, .val (.int p2), .unset, .unset, .unset, .unset] [(.int (8 : Int32))])
  obtain ⟨T120, h120, k120, X120, e120, E120, A120, st120⟩ := newP X0 hx hZ (hw _ (List.mem_of_getElem? (i := 0) rfl)) e0 (g := (mkF m 2 #[.val (.long p1), .second, .val (.int p2), .unset, .unset, .unset, .unset] [(.int (8 : Int32))])) rfl (hb hby at_2) rfl (by decide) (cap := 8) (by decide) (by decide) (by decide) (by decide)
  obtain ⟨b120, g120⟩ : ∃ z, z = h0.size := ⟨_, rfl⟩
  rw [← g120] at A120 st120
  refine own_by (fun _ k => st120 _ k) ?_
  have V120 : Arv Z h120 b120 k120 .byte (8 : Int32) [(.int (0 : Int32)), (.int (0 : Int32)), (.int (0 : Int32)), (.int (0 : Int32)), (.int (0 : Int32)), (.int (0 : Int32)), (.int (0 : Int32)), (.int (0 : Int32))] (.int (0 : Int32)) := (Arv.new A120 (by decide)).pad (pad_rep [] (.int (0 : Int32)) 8)
  have gf120 : n0 ≤ b120 := Nat.le_trans Z0 (Nat.le_of_eq g120.symm)
  have Zs120 : n0 ≤ h120.size := Nat.le_trans Z0 E120.1
  show own_Fin p e below s _ _ _ T120 (mkF m 4 #[.val (.long p1), .second, .val (.int p2), .unset, .unset, .unset, .unset] [(.ref b120)])
  refine own_by (fun _ k => XS.astoreN X120.here hx rfl (hb hby at_4) rfl rfl (l' := #[.val (.long p1), .second, .val (.int p2), .val (.ref b120), .unset, .unset, .unset]) rfl (XS.aloadN X120.here hx rfl (hb hby at_5) rfl rfl (XS.iconst X120.here hx rfl (hb hby at_6) (XS.lloadN X120.here hx rfl (hb hby at_7) rfl (XS.l2i X120.here hx rfl (hb hby at_8) rfl (XS.i2b X120.here hx rfl (hb hby at_9) rfl k)))))) ?_
  show own_Fin p e below s _ _ _ T120 (mkF m 10 #[.val (.long p1), .second, .val (.int p2), .val (.ref b120), .unset, .unset, .unset] [(.int ((p1.toInt32).toInt8.toInt32)), (.int (0 : Int32)), (.ref b120)])
  obtain ⟨cl122, Ar122, q122, S122, M122, H122, G122⟩ := id V120
  have hin122 : ¬ ((0 : Int32) < 0 ∨ cl122.slots.size ≤ ((0 : Int32)).toNatClampNeg) := inb_of S122 ⟨by decide, by decide⟩
  obtain ⟨T122, h122, X122, e122, W122, st122⟩ := stB X120 hx hZ e120 Ar122 (j := (0 : Int32)) hin122 (g := (mkF m 10 #[.val (.long p1), .second, .val (.int p2), .val (.ref b120), .unset, .unset, .unset] [(.int ((p1.toInt32).toInt8.toInt32)), (.int (0 : Int32)), (.ref b120)])) rfl rfl (hb hby at_10)
  refine own_by (fun _ k => st122 _ k) ?_
  have V122 : Arv Z h122 b120 k120 .byte (8 : Int32) [(.int ((p1.toInt32).toInt8.toInt32).toInt8.toInt32), (.int (0 : Int32)), (.int (0 : Int32)), (.int (0 : Int32)), (.int (0 : Int32)), (.int (0 : Int32)), (.int (0 : Int32)), (.int (0 : Int32))] (.int (0 : Int32)) := Arv.set Ar122 q122 S122 M122 H122 G122 (fits_nar_byte _) W122 0 rfl (Nat.le_of_ble_eq_true rfl)
  have Zs122 : n0 ≤ h122.size := Nat.le_trans Zs120 (Keep.of_wr W122).1
  have N122 := Fr.snoc X122 N0 gf120
  show own_Fin p e below s _ _ _ T122 (mkF m 11 #[.val (.long p1), .second, .val (.int p2), .val (.ref b120), .unset, .unset, .unset] [])
  refine own_by (fun _ k => XS.aloadN X122.here hx rfl (hb hby at_11) rfl rfl (XS.iconst X122.here hx rfl (hb hby at_12) (XS.lloadN X122.here hx rfl (hb hby at_13) rfl (XS.bipush X122.here hx rfl (hb hby at_14) (XS.lushr X122.here hx rfl (hb hby at_16) rfl (XS.l2i X122.here hx rfl (hb hby at_17) rfl (XS.i2b X122.here hx rfl (hb hby at_18) rfl k))))))) ?_
  show own_Fin p e below s _ _ _ T122 (mkF m 19 #[.val (.long p1), .second, .val (.int p2), .val (.ref b120), .unset, .unset, .unset] [(.int ((((p1.toUInt64 >>> ((8 : Int32) &&& 0x3f).toInt64.toUInt64).toInt64).toInt32).toInt8.toInt32)), (.int (1 : Int32)), (.ref b120)])
  obtain ⟨cl124, Ar124, q124, S124, M124, H124, G124⟩ := id V122
  have hin124 : ¬ ((1 : Int32) < 0 ∨ cl124.slots.size ≤ ((1 : Int32)).toNatClampNeg) := inb_of S124 ⟨by decide, by decide⟩
  obtain ⟨T124, h124, X124, e124, W124, st124⟩ := stB X122 hx hZ e122 Ar124 (j := (1 : Int32)) hin124 (g := (mkF m 19 #[.val (.long p1), .second, .val (.int p2), .val (.ref b120), .unset, .unset, .unset] [(.int ((((p1.toUInt64 >>> ((8 : Int32) &&& 0x3f).toInt64.toUInt64).toInt64).toInt32).toInt8.toInt32)), (.int (1 : Int32)), (.ref b120)])) rfl rfl (hb hby at_19)
  refine own_by (fun _ k => st124 _ k) ?_
  have V124 : Arv Z h124 b120 k120 .byte (8 : Int32) [(.int ((p1.toInt32).toInt8.toInt32).toInt8.toInt32), (.int ((((p1.toUInt64 >>> ((8 : Int32) &&& 0x3f).toInt64.toUInt64).toInt64).toInt32).toInt8.toInt32).toInt8.toInt32), (.int (0 : Int32)), (.int (0 : Int32)), (.int (0 : Int32)), (.int (0 : Int32)), (.int (0 : Int32)), (.int (0 : Int32))] (.int (0 : Int32)) := Arv.set Ar124 q124 S124 M124 H124 G124 (fits_nar_byte _) W124 1 rfl (Nat.le_of_ble_eq_true rfl)
  have Zs124 : n0 ≤ h124.size := Nat.le_trans Zs122 (Keep.of_wr W124).1
  have N124 := Fr.snoc X124 N122 gf120
  show own_Fin p e below s _ _ _ T124 (mkF m 20 #[.val (.long p1), .second, .val (.int p2), .val (.ref b120), .unset, .unset, .unset] [])
  refine own_by (fun _ k => XS.aloadN X124.here hx rfl (hb hby at_20) rfl rfl (XS.iconst X124.here hx rfl (hb hby at_21) (XS.lloadN X124.here hx rfl (hb hby at_22) rfl (XS.bipush X124.here hx rfl (hb hby at_23) (XS.lushr X124.here hx rfl (hb hby at_25) rfl (XS.l2i X124.here hx rfl (hb hby at_26) rfl (XS.i2b X124.here hx rfl (hb hby at_27) rfl k))))))) ?_
  show own_Fin p e below s _ _ _ T124 (mkF m 28 #[.val (.long p1), .second, .val (.int p2), .val (.ref b120), .unset, .unset, .unset] [(.int ((((p1.toUInt64 >>> ((16 : Int32) &&& 0x3f).toInt64.toUInt64).toInt64).toInt32).toInt8.toInt32)), (.int (2 : Int32)), (.ref b120)])
  obtain ⟨cl126, Ar126, q126, S126, M126, H126, G126⟩ := id V124
  have hin126 : ¬ ((2 : Int32) < 0 ∨ cl126.slots.size ≤ ((2 : Int32)).toNatClampNeg) := inb_of S126 ⟨by decide, by decide⟩
  obtain ⟨T126, h126, X126, e126, W126, st126⟩ := stB X124 hx hZ e124 Ar126 (j := (2 : Int32)) hin126 (g := (mkF m 28 #[.val (.long p1), .second, .val (.int p2), .val (.ref b120), .unset, .unset, .unset] [(.int ((((p1.toUInt64 >>> ((16 : Int32) &&& 0x3f).toInt64.toUInt64).toInt64).toInt32).toInt8.toInt32)), (.int (2 : Int32)), (.ref b120)])) rfl rfl (hb hby at_28)
  refine own_by (fun _ k => st126 _ k) ?_
  have V126 : Arv Z h126 b120 k120 .byte (8 : Int32) [(.int ((p1.toInt32).toInt8.toInt32).toInt8.toInt32), (.int ((((p1.toUInt64 >>> ((8 : Int32) &&& 0x3f).toInt64.toUInt64).toInt64).toInt32).toInt8.toInt32).toInt8.toInt32), (.int ((((p1.toUInt64 >>> ((16 : Int32) &&& 0x3f).toInt64.toUInt64).toInt64).toInt32).toInt8.toInt32).toInt8.toInt32), (.int (0 : Int32)), (.int (0 : Int32)), (.int (0 : Int32)), (.int (0 : Int32)), (.int (0 : Int32))] (.int (0 : Int32)) := Arv.set Ar126 q126 S126 M126 H126 G126 (fits_nar_byte _) W126 2 rfl (Nat.le_of_ble_eq_true rfl)
  have Zs126 : n0 ≤ h126.size := Nat.le_trans Zs124 (Keep.of_wr W126).1
  have N126 := Fr.snoc X126 N124 gf120
  show own_Fin p e below s _ _ _ T126 (mkF m 29 #[.val (.long p1), .second, .val (.int p2), .val (.ref b120), .unset, .unset, .unset] [])
  refine own_by (fun _ k => XS.aloadN X126.here hx rfl (hb hby at_29) rfl rfl (XS.iconst X126.here hx rfl (hb hby at_30) (XS.lloadN X126.here hx rfl (hb hby at_31) rfl (XS.bipush X126.here hx rfl (hb hby at_32) (XS.lushr X126.here hx rfl (hb hby at_34) rfl (XS.l2i X126.here hx rfl (hb hby at_35) rfl (XS.i2b X126.here hx rfl (hb hby at_36) rfl k))))))) ?_
  show own_Fin p e below s _ _ _ T126 (mkF m 37 #[.val (.long p1), .second, .val (.int p2), .val (.ref b120), .unset, .unset, .unset] [(.int ((((p1.toUInt64 >>> ((24 : Int32) &&& 0x3f).toInt64.toUInt64).toInt64).toInt32).toInt8.toInt32)), (.int (3 : Int32)), (.ref b120)])
  obtain ⟨cl128, Ar128, q128, S128, M128, H128, G128⟩ := id V126
  have hin128 : ¬ ((3 : Int32) < 0 ∨ cl128.slots.size ≤ ((3 : Int32)).toNatClampNeg) := inb_of S128 ⟨by decide, by decide⟩
  obtain ⟨T128, h128, X128, e128, W128, st128⟩ := stB X126 hx hZ e126 Ar128 (j := (3 : Int32)) hin128 (g := (mkF m 37 #[.val (.long p1), .second, .val (.int p2), .val (.ref b120), .unset, .unset, .unset] [(.int ((((p1.toUInt64 >>> ((24 : Int32) &&& 0x3f).toInt64.toUInt64).toInt64).toInt32).toInt8.toInt32)), (.int (3 : Int32)), (.ref b120)])) rfl rfl (hb hby at_37)
  refine own_by (fun _ k => st128 _ k) ?_
  have V128 : Arv Z h128 b120 k120 .byte (8 : Int32) [(.int ((p1.toInt32).toInt8.toInt32).toInt8.toInt32), (.int ((((p1.toUInt64 >>> ((8 : Int32) &&& 0x3f).toInt64.toUInt64).toInt64).toInt32).toInt8.toInt32).toInt8.toInt32), (.int ((((p1.toUInt64 >>> ((16 : Int32) &&& 0x3f).toInt64.toUInt64).toInt64).toInt32).toInt8.toInt32).toInt8.toInt32), (.int ((((p1.toUInt64 >>> ((24 : Int32) &&& 0x3f).toInt64.toUInt64).toInt64).toInt32).toInt8.toInt32).toInt8.toInt32), (.int (0 : Int32)), (.int (0 : Int32)), (.int (0 : Int32)), (.int (0 : Int32))] (.int (0 : Int32)) := Arv.set Ar128 q128 S128 M128 H128 G128 (fits_nar_byte _) W128 3 rfl (Nat.le_of_ble_eq_true rfl)
  have Zs128 : n0 ≤ h128.size := Nat.le_trans Zs126 (Keep.of_wr W128).1
  have N128 := Fr.snoc X128 N126 gf120
  show own_Fin p e below s _ _ _ T128 (mkF m 38 #[.val (.long p1), .second, .val (.int p2), .val (.ref b120), .unset, .unset, .unset] [])
  refine own_by (fun _ k => XS.aloadN X128.here hx rfl (hb hby at_38) rfl rfl (XS.iconst X128.here hx rfl (hb hby at_39) (XS.lloadN X128.here hx rfl (hb hby at_40) rfl (XS.bipush X128.here hx rfl (hb hby at_41) (XS.lushr X128.here hx rfl (hb hby at_43) rfl (XS.l2i X128.here hx rfl (hb hby at_44) rfl (XS.i2b X128.here hx rfl (hb hby at_45) rfl k))))))) ?_
  show own_Fin p e below s _ _ _ T128 (mkF m 46 #[.val (.long p1), .second, .val (.int p2), .val (.ref b120), .unset, .unset, .unset] [(.int ((((p1.toUInt64 >>> ((32 : Int32) &&& 0x3f).toInt64.toUInt64).toInt64).toInt32).toInt8.toInt32)), (.int (4 : Int32)), (.ref b120)])
  obtain ⟨cl130, Ar130, q130, S130, M130, H130, G130⟩ := id V128
  have hin130 : ¬ ((4 : Int32) < 0 ∨ cl130.slots.size ≤ ((4 : Int32)).toNatClampNeg) := inb_of S130 ⟨by decide, by decide⟩
  obtain ⟨T130, h130, X130, e130, W130, st130⟩ := stB X128 hx hZ e128 Ar130 (j := (4 : Int32)) hin130 (g := (mkF m 46 #[.val (.long p1), .second, .val (.int p2), .val (.ref b120), .unset, .unset, .unset] [(.int ((((p1.toUInt64 >>> ((32 : Int32) &&& 0x3f).toInt64.toUInt64).toInt64).toInt32).toInt8.toInt32)), (.int (4 : Int32)), (.ref b120)])) rfl rfl (hb hby at_46)
  refine own_by (fun _ k => st130 _ k) ?_
  have V130 : Arv Z h130 b120 k120 .byte (8 : Int32) [(.int ((p1.toInt32).toInt8.toInt32).toInt8.toInt32), (.int ((((p1.toUInt64 >>> ((8 : Int32) &&& 0x3f).toInt64.toUInt64).toInt64).toInt32).toInt8.toInt32).toInt8.toInt32), (.int ((((p1.toUInt64 >>> ((16 : Int32) &&& 0x3f).toInt64.toUInt64).toInt64).toInt32).toInt8.toInt32).toInt8.toInt32), (.int ((((p1.toUInt64 >>> ((24 : Int32) &&& 0x3f).toInt64.toUInt64).toInt64).toInt32).toInt8.toInt32).toInt8.toInt32), (.int ((((p1.toUInt64 >>> ((32 : Int32) &&& 0x3f).toInt64.toUInt64).toInt64).toInt32).toInt8.toInt32).toInt8.toInt32), (.int (0 : Int32)), (.int (0 : Int32)), (.int (0 : Int32))] (.int (0 : Int32)) := Arv.set Ar130 q130 S130 M130 H130 G130 (fits_nar_byte _) W130 4 rfl (Nat.le_of_ble_eq_true rfl)
  have Zs130 : n0 ≤ h130.size := Nat.le_trans Zs128 (Keep.of_wr W130).1
  have N130 := Fr.snoc X130 N128 gf120
  show own_Fin p e below s _ _ _ T130 (mkF m 47 #[.val (.long p1), .second, .val (.int p2), .val (.ref b120), .unset, .unset, .unset] [])
  refine own_by (fun _ k => XS.aloadN X130.here hx rfl (hb hby at_47) rfl rfl (XS.iconst X130.here hx rfl (hb hby at_48) (XS.lloadN X130.here hx rfl (hb hby at_49) rfl (XS.bipush X130.here hx rfl (hb hby at_50) (XS.lushr X130.here hx rfl (hb hby at_52) rfl (XS.l2i X130.here hx rfl (hb hby at_53) rfl (XS.i2b X130.here hx rfl (hb hby at_54) rfl k))))))) ?_
  show own_Fin p e below s _ _ _ T130 (mkF m 55 #[.val (.long p1), .second, .val (.int p2), .val (.ref b120), .unset, .unset, .unset] [(.int ((((p1.toUInt64 >>> ((40 : Int32) &&& 0x3f).toInt64.toUInt64).toInt64).toInt32).toInt8.toInt32)), (.int (5 : Int32)), (.ref b120)])
  obtain ⟨cl132, Ar132, q132, S132, M132, H132, G132⟩ := id V130
  have hin132 : ¬ ((5 : Int32) < 0 ∨ cl132.slots.size ≤ ((5 : Int32)).toNatClampNeg) := inb_of S132 ⟨by decide, by decide⟩
  obtain ⟨T132, h132, X132, e132, W132, st132⟩ := stB X130 hx hZ e130 Ar132 (j := (5 : Int32)) hin132 (g := (mkF m 55 #[.val (.long p1), .second, .val (.int p2), .val (.ref b120), .unset, .unset, .unset] [(.int ((((p1.toUInt64 >>> ((40 : Int32) &&& 0x3f).toInt64.toUInt64).toInt64).toInt32).toInt8.toInt32)), (.int (5 : Int32)), (.ref b120)])) rfl rfl (hb hby at_55)
  refine own_by (fun _ k => st132 _ k) ?_
  have V132 : Arv Z h132 b120 k120 .byte (8 : Int32) [(.int ((p1.toInt32).toInt8.toInt32).toInt8.toInt32), (.int ((((p1.toUInt64 >>> ((8 : Int32) &&& 0x3f).toInt64.toUInt64).toInt64).toInt32).toInt8.toInt32).toInt8.toInt32), (.int ((((p1.toUInt64 >>> ((16 : Int32) &&& 0x3f).toInt64.toUInt64).toInt64).toInt32).toInt8.toInt32).toInt8.toInt32), (.int ((((p1.toUInt64 >>> ((24 : Int32) &&& 0x3f).toInt64.toUInt64).toInt64).toInt32).toInt8.toInt32).toInt8.toInt32), (.int ((((p1.toUInt64 >>> ((32 : Int32) &&& 0x3f).toInt64.toUInt64).toInt64).toInt32).toInt8.toInt32).toInt8.toInt32), (.int ((((p1.toUInt64 >>> ((40 : Int32) &&& 0x3f).toInt64.toUInt64).toInt64).toInt32).toInt8.toInt32).toInt8.toInt32), (.int (0 : Int32)), (.int (0 : Int32))] (.int (0 : Int32)) := Arv.set Ar132 q132 S132 M132 H132 G132 (fits_nar_byte _) W132 5 rfl (Nat.le_of_ble_eq_true rfl)
  have Zs132 : n0 ≤ h132.size := Nat.le_trans Zs130 (Keep.of_wr W132).1
  have N132 := Fr.snoc X132 N130 gf120
  show own_Fin p e below s _ _ _ T132 (mkF m 56 #[.val (.long p1), .second, .val (.int p2), .val (.ref b120), .unset, .unset, .unset] [])
  refine own_by (fun _ k => XS.aloadN X132.here hx rfl (hb hby at_56) rfl rfl (XS.bipush X132.here hx rfl (hb hby at_57) (XS.lloadN X132.here hx rfl (hb hby at_59) rfl (XS.bipush X132.here hx rfl (hb hby at_60) (XS.lushr X132.here hx rfl (hb hby at_62) rfl (XS.l2i X132.here hx rfl (hb hby at_63) rfl (XS.i2b X132.here hx rfl (hb hby at_64) rfl k))))))) ?_
  show own_Fin p e below s _ _ _ T132 (mkF m 65 #[.val (.long p1), .second, .val (.int p2), .val (.ref b120), .unset, .unset, .unset] [(.int ((((p1.toUInt64 >>> ((48 : Int32) &&& 0x3f).toInt64.toUInt64).toInt64).toInt32).toInt8.toInt32)), (.int (6 : Int32)), (.ref b120)])
  obtain ⟨cl134, Ar134, q134, S134, M134, H134, G134⟩ := id V132
  have hin134 : ¬ ((6 : Int32) < 0 ∨ cl134.slots.size ≤ ((6 : Int32)).toNatClampNeg) := inb_of S134 ⟨by decide, by decide⟩
  obtain ⟨T134, h134, X134, e134, W134, st134⟩ := stB X132 hx hZ e132 Ar134 (j := (6 : Int32)) hin134 (g := (mkF m 65 #[.val (.long p1), .second, .val (.int p2), .val (.ref b120), .unset, .unset, .unset] [(.int ((((p1.toUInt64 >>> ((48 : Int32) &&& 0x3f).toInt64.toUInt64).toInt64).toInt32).toInt8.toInt32)), (.int (6 : Int32)), (.ref b120)])) rfl rfl (hb hby at_65)
  refine own_by (fun _ k => st134 _ k) ?_
  have V134 : Arv Z h134 b120 k120 .byte (8 : Int32) [(.int ((p1.toInt32).toInt8.toInt32).toInt8.toInt32), (.int ((((p1.toUInt64 >>> ((8 : Int32) &&& 0x3f).toInt64.toUInt64).toInt64).toInt32).toInt8.toInt32).toInt8.toInt32), (.int ((((p1.toUInt64 >>> ((16 : Int32) &&& 0x3f).toInt64.toUInt64).toInt64).toInt32).toInt8.toInt32).toInt8.toInt32), (.int ((((p1.toUInt64 >>> ((24 : Int32) &&& 0x3f).toInt64.toUInt64).toInt64).toInt32).toInt8.toInt32).toInt8.toInt32), (.int ((((p1.toUInt64 >>> ((32 : Int32) &&& 0x3f).toInt64.toUInt64).toInt64).toInt32).toInt8.toInt32).toInt8.toInt32), (.int ((((p1.toUInt64 >>> ((40 : Int32) &&& 0x3f).toInt64.toUInt64).toInt64).toInt32).toInt8.toInt32).toInt8.toInt32), (.int ((((p1.toUInt64 >>> ((48 : Int32) &&& 0x3f).toInt64.toUInt64).toInt64).toInt32).toInt8.toInt32).toInt8.toInt32), (.int (0 : Int32))] (.int (0 : Int32)) := Arv.set Ar134 q134 S134 M134 H134 G134 (fits_nar_byte _) W134 6 rfl (Nat.le_of_ble_eq_true rfl)
  have Zs134 : n0 ≤ h134.size := Nat.le_trans Zs132 (Keep.of_wr W134).1
  have N134 := Fr.snoc X134 N132 gf120
  show own_Fin p e below s _ _ _ T134 (mkF m 66 #[.val (.long p1), .second, .val (.int p2), .val (.ref b120), .unset, .unset, .unset] [])
  refine own_by (fun _ k => XS.aloadN X134.here hx rfl (hb hby at_66) rfl rfl (XS.bipush X134.here hx rfl (hb hby at_67) (XS.lloadN X134.here hx rfl (hb hby at_69) rfl (XS.bipush X134.here hx rfl (hb hby at_70) (XS.lushr X134.here hx rfl (hb hby at_72) rfl (XS.l2i X134.here hx rfl (hb hby at_73) rfl (XS.i2b X134.here hx rfl (hb hby at_74) rfl k))))))) ?_
  show own_Fin p e below s _ _ _ T134 (mkF m 75 #[.val (.long p1), .second, .val (.int p2), .val (.ref b120), .unset, .unset, .unset] [(.int ((((p1.toUInt64 >>> ((56 : Int32) &&& 0x3f).toInt64.toUInt64).toInt64).toInt32).toInt8.toInt32)), (.int (7 : Int32)), (.ref b120)])
  obtain ⟨cl136, Ar136, q136, S136, M136, H136, G136⟩ := id V134
  have hin136 : ¬ ((7 : Int32) < 0 ∨ cl136.slots.size ≤ ((7 : Int32)).toNatClampNeg) := inb_of S136 ⟨by decide, by decide⟩
  obtain ⟨T136, h136, X136, e136, W136, st136⟩ := stB X134 hx hZ e134 Ar136 (j := (7 : Int32)) hin136 (g := (mkF m 75 #[.val (.long p1), .second, .val (.int p2), .val (.ref b120), .unset, .unset, .unset] [(.int ((((p1.toUInt64 >>> ((56 : Int32) &&& 0x3f).toInt64.toUInt64).toInt64).toInt32).toInt8.toInt32)), (.int (7 : Int32)), (.ref b120)])) rfl rfl (hb hby at_75)
  refine own_by (fun _ k => st136 _ k) ?_
  have V136 : Arv Z h136 b120 k120 .byte (8 : Int32) [(.int ((p1.toInt32).toInt8.toInt32).toInt8.toInt32), (.int ((((p1.toUInt64 >>> ((8 : Int32) &&& 0x3f).toInt64.toUInt64).toInt64).toInt32).toInt8.toInt32).toInt8.toInt32), (.int ((((p1.toUInt64 >>> ((16 : Int32) &&& 0x3f).toInt64.toUInt64).toInt64).toInt32).toInt8.toInt32).toInt8.toInt32), (.int ((((p1.toUInt64 >>> ((24 : Int32) &&& 0x3f).toInt64.toUInt64).toInt64).toInt32).toInt8.toInt32).toInt8.toInt32), (.int ((((p1.toUInt64 >>> ((32 : Int32) &&& 0x3f).toInt64.toUInt64).toInt64).toInt32).toInt8.toInt32).toInt8.toInt32), (.int ((((p1.toUInt64 >>> ((40 : Int32) &&& 0x3f).toInt64.toUInt64).toInt64).toInt32).toInt8.toInt32).toInt8.toInt32), (.int ((((p1.toUInt64 >>> ((48 : Int32) &&& 0x3f).toInt64.toUInt64).toInt64).toInt32).toInt8.toInt32).toInt8.toInt32), (.int ((((p1.toUInt64 >>> ((56 : Int32) &&& 0x3f).toInt64.toUInt64).toInt64).toInt32).toInt8.toInt32).toInt8.toInt32)] (.int (0 : Int32)) := Arv.set Ar136 q136 S136 M136 H136 G136 (fits_nar_byte _) W136 7 rfl (Nat.le_of_ble_eq_true rfl)
  have Zs136 : n0 ≤ h136.size := Nat.le_trans Zs134 (Keep.of_wr W136).1
  have N136 := Fr.snoc X136 N134 gf120
  show own_Fin p e below s _ _ _ T136 (mkF m 76 #[.val (.long p1), .second, .val (.int p2), .val (.ref b120), .unset, .unset, .unset] [])
  obtain ⟨v0, v1, v2, v3, v4, v5, v6, v7, Vg⟩ : ∃ v0 v1 v2 v3 v4 v5 v6 v7 : Int32, Arv Z h136 b120 k120 .byte (8 : Int32) [(.int v0), (.int v1), (.int v2), (.int v3), (.int v4), (.int v5), (.int v6), (.int v7)] (.int (0 : Int32)) := ⟨_, _, _, _, _, _, _, _, V136⟩
  refine own_by (fun _ k => XS.iloadN X136.here hx rfl (hb hby at_76) rfl k) ?_
  show own_Fin p e below s _ _ _ T136 (mkF m 77 #[.val (.long p1), .second, .val (.int p2), .val (.ref b120), .unset, .unset, .unset] [(.int p2)])
  refine own_by (fun _ k => X136.ldcInt hx hown (mvT hZ (hw _ (List.mem_of_getElem? (i := 1) rfl))) (g := (mkF m 77 #[.val (.long p1), .second, .val (.int p2), .val (.ref b120), .unset, .unset, .unset] [(.int p2)])) rfl (hb hby at_77) _ k) ?_
  show own_Fin p e below s _ _ _ T136 (mkF m 79 #[.val (.long p1), .second, .val (.int p2), .val (.ref b120), .unset, .unset, .unset] [(.int (2147483647 : Int32)), (.int p2)])
  refine own_by (fun _ k => XS.iand X136.here hx rfl (hb hby at_79) rfl (XS.bipush X136.here hx rfl (hb hby at_80) (iremM X136 hx rfl (hb hby at_82) rfl (by decide) k))) ?_
  show own_Fin p e below s _ _ _ T136 (mkF m 83 #[.val (.long p1), .second, .val (.int p2), .val (.ref b120), .unset, .unset, .unset] [(.int ((p2 &&& (2147483647 : Int32)) % (9 : Int32)))])
  rcases own_n9 p2 with hn | hn | hn | hn | hn | hn | hn | hn | hn
  · show own_Fin p e below s _ _ _ T136 (mkF m 83 #[.val (.long p1), .second, .val (.int p2), .val (.ref b120), .unset, .unset, .unset] [(.int ((p2 &&& (2147483647 : Int32)) % (9 : Int32)))])
    rw [hn]
    show own_Fin p e below s _ _ _ T136 (mkF m 83 #[.val (.long p1), .second, .val (.int p2), .val (.ref b120), .unset, .unset, .unset] [(.int (0 : Int32))])
    refine own_by (fun _ k => XS.istore X136.here hx rfl (hb hby at_83) rfl (l' := #[.val (.long p1), .second, .val (.int p2), .val (.ref b120), .val (.int (0 : Int32)), .unset, .unset]) rfl (XS.iconst X136.here hx rfl (hb hby at_85) (XS.istore X136.here hx rfl (hb hby at_86) rfl (l' := #[.val (.long p1), .second, .val (.int p2), .val (.ref b120), .val (.int (0 : Int32)), .val (.int (0 : Int32)), .unset]) rfl k))) ?_
    show own_Fin p e below s _ _ _ T136 (mkF m 88 #[.val (.long p1), .second, .val (.int p2), .val (.ref b120), .val (.int (0 : Int32)), .val (.int (0 : Int32)), .unset] [])
    have J205_139 : ∀ (Tj139 : State) (lj139 : List Loc) (Xj139 : Stand p l e room_1 s m #[(.long p1), (.int p2)] below meth c Tj139 lj139 1 8) (ej139 : Tj139.heap = h136) (Nj139 : Fr n0 lj139) (ex : Int32) (hx205 : (0 : Int32) = ex), own_Fin p e below s room_1.cells room_1.slots (own_Q0 n0) Tj139 (mkF m 205 #[.val (.long p1), .second, .val (.int p2), .val (.ref b120), .val (.int (0 : Int32)), .val (.int ex), .unset] []) := by
      intro Tj139 lj139 Xj139 ej139 Nj139 ex hx205
      show own_Fin p e below s _ _ _ Tj139 (mkF m 205 #[.val (.long p1), .second, .val (.int p2), .val (.ref b120), .val (.int (0 : Int32)), .val (.int ex), .unset] [])
      refine own_by (fun _ k => XS.aloadN Xj139.here hx rfl (hb hby at_205) rfl rfl (XS.iload Xj139.here hx rfl (hb hby at_206) rfl k)) ?_
      show own_Fin p e below s _ _ _ Tj139 (mkF m 208 #[.val (.long p1), .second, .val (.int p2), .val (.ref b120), .val (.int (0 : Int32)), .val (.int ex), .unset] [(.int (0 : Int32)), (.ref b120)])
      obtain ⟨_, _, ⟨T140, L140, k140, n140⟩, -, X140, ⟨Lc140, hQ140, l140, y140, z140⟩, st140⟩ := Jvm.LawKit.callS Xj139 hx (y := (⟨"com/example/munka/munka/util/Utf8", "unfinishedTail", "([BI)I"⟩ : MethodName)) hown (mvT hZ (hw _ (List.mem_of_getElem? (i := 9) rfl))) (mvT hZ (hw _ (List.mem_of_getElem? (i := 10) rfl))) (mvT hZ (hw _ (List.mem_of_getElem? (i := 11) rfl))) (mvT hZ (hw _ (List.mem_of_getElem? (i := 12) rfl))) (by decide) (backOf (W := 0) (rmT0 l Z a0 hw [] b120 k120 v0 v1 v2 v3 v4 v5 v6 v7 h136 n0 Zs136 Vg) hZ (hw _ (List.mem_of_getElem? (i := 12) rfl)) (hw _ (List.mem_of_getElem? (i := 11) rfl)) (by decide) (by decide)) (g := (mkF m 208 #[.val (.long p1), .second, .val (.int p2), .val (.ref b120), .val (.int (0 : Int32)), .val (.int ex), .unset] [(.int (0 : Int32)), (.ref b120)])) rfl (by rw [hml]; rfl) (argsL := [(.ref b120), (.int (0 : Int32))]) (rest := []) (lenOf own_pd97 rfl) rfl (by show 2 * 0 + _ ≤ _; exact Nat.le_of_eq rfl) (hb hby at_208) (fun _ _ => ⟨rfl, ej139, (by decide : 1 + 0 ≤ _), (by decide : 8 + 0 ≤ _)⟩)
      dsimp only [Pt.U, Pt.locs, Pt.cells, Pt.slots] at X140 l140 y140 z140 st140 hQ140
      subst l140 y140 z140
      obtain ⟨rfl, Nq140, eh140⟩ := hQ140
      have N140 := Fr.app Nj139 Nq140
      refine own_by (fun _ k => st140 _ k) ?_
      show own_Fin p e below s _ _ _ T140 (mkF m 211 #[.val (.long p1), .second, .val (.int p2), .val (.ref b120), .val (.int (0 : Int32)), .val (.int ex), .unset] [(.int (0 : Int32))])
      refine own_by (fun _ k => XS.istore X140.here hx rfl (hb hby at_211) rfl (l' := #[.val (.long p1), .second, .val (.int p2), .val (.ref b120), .val (.int (0 : Int32)), .val (.int ex), .val (.int (0 : Int32))]) rfl (XS.iload X140.here hx rfl (hb hby at_213) rfl (XS.iload X140.here hx rfl (hb hby at_215) rfl k))) ?_
      show own_Fin p e below s _ _ _ T140 (mkF m 217 #[.val (.long p1), .second, .val (.int p2), .val (.ref b120), .val (.int (0 : Int32)), .val (.int ex), .val (.int (0 : Int32))] [(.int ex), (.int (0 : Int32))])
      refine own_by (fun _ k => XS.icmpNo X140.here hx rfl (hb hby at_217) rfl (teq hx205).2 k) ?_
      show own_Fin p e below s _ _ _ T140 (mkF m 220 #[.val (.long p1), .second, .val (.int p2), .val (.ref b120), .val (.int (0 : Int32)), .val (.int ex), .val (.int (0 : Int32))] [])
      refine own_by (fun _ k => XS.iconst X140.here hx rfl (hb hby at_220) (XS.goto X140.here hx rfl (pc0 := 221) (pc' := 225) rfl (hb hby at_221) (by decide) (by decide) k)) ?_
      show own_Fin p e below s _ _ _ T140 (mkF m 225 #[.val (.long p1), .second, .val (.int p2), .val (.ref b120), .val (.int (0 : Int32)), .val (.int ex), .val (.int (0 : Int32))] [(.int (1 : Int32))])
      exact own_retZ X140 hx hlk (t := .boolean) Bd.returns (by simp) (hb hby at_225) ⟨rfl, N140⟩ (by decide) (by decide)
    show own_Fin p e below s _ _ _ T136 (mkF m 88 #[.val (.long p1), .second, .val (.int p2), .val (.ref b120), .val (.int (0 : Int32)), .val (.int (0 : Int32)), .unset] [])
    refine own_by (fun _ k => XS.iload X136.here hx rfl (hb hby at_88) rfl (XS.iconst X136.here hx rfl (hb hby at_90) k)) ?_
    show own_Fin p e below s _ _ _ T136 (mkF m 91 #[.val (.long p1), .second, .val (.int p2), .val (.ref b120), .val (.int (0 : Int32)), .val (.int (0 : Int32)), .unset] [(.int (1 : Int32)), (.int (0 : Int32))])
    refine own_by (fun _ k => XS.icmpYes X136.here hx rfl (pc0 := 91) (pc' := 114) rfl (hb hby at_91) rfl (tlt (by decide : (0 : Int32) < (1 : Int32))).1 (by decide) (by decide) k) ?_
    show own_Fin p e below s _ _ _ T136 (mkF m 114 #[.val (.long p1), .second, .val (.int p2), .val (.ref b120), .val (.int (0 : Int32)), .val (.int (0 : Int32)), .unset] [])
    refine own_by (fun _ k => XS.iload X136.here hx rfl (hb hby at_114) rfl (XS.iconst X136.here hx rfl (hb hby at_116) k)) ?_
    show own_Fin p e below s _ _ _ T136 (mkF m 117 #[.val (.long p1), .second, .val (.int p2), .val (.ref b120), .val (.int (0 : Int32)), .val (.int (0 : Int32)), .unset] [(.int (2 : Int32)), (.int (0 : Int32))])
    refine own_by (fun _ k => XS.icmpYes X136.here hx rfl (pc0 := 117) (pc' := 154) rfl (hb hby at_117) rfl (tlt (by decide : (0 : Int32) < (2 : Int32))).1 (by decide) (by decide) k) ?_
    show own_Fin p e below s _ _ _ T136 (mkF m 154 #[.val (.long p1), .second, .val (.int p2), .val (.ref b120), .val (.int (0 : Int32)), .val (.int (0 : Int32)), .unset] [])
    refine own_by (fun _ k => XS.iload X136.here hx rfl (hb hby at_154) rfl (XS.iconst X136.here hx rfl (hb hby at_156) k)) ?_
    show own_Fin p e below s _ _ _ T136 (mkF m 157 #[.val (.long p1), .second, .val (.int p2), .val (.ref b120), .val (.int (0 : Int32)), .val (.int (0 : Int32)), .unset] [(.int (3 : Int32)), (.int (0 : Int32))])
    refine own_by (fun _ k => XS.icmpYes X136.here hx rfl (pc0 := 157) (pc' := 205) rfl (hb hby at_157) rfl (tlt (by decide : (0 : Int32) < (3 : Int32))).1 (by decide) (by decide) k) ?_
    show own_Fin p e below s _ _ _ T136 (mkF m 205 #[.val (.long p1), .second, .val (.int p2), .val (.ref b120), .val (.int (0 : Int32)), .val (.int (0 : Int32)), .unset] [])
    exact J205_139 T136 _ X136 e136 N136 ((0 : Int32)) rfl
  · show own_Fin p e below s _ _ _ T136 (mkF m 83 #[.val (.long p1), .second, .val (.int p2), .val (.ref b120), .unset, .unset, .unset] [(.int ((p2 &&& (2147483647 : Int32)) % (9 : Int32)))])
    rw [hn]
    show own_Fin p e below s _ _ _ T136 (mkF m 83 #[.val (.long p1), .second, .val (.int p2), .val (.ref b120), .unset, .unset, .unset] [(.int (1 : Int32))])
    refine own_by (fun _ k => XS.istore X136.here hx rfl (hb hby at_83) rfl (l' := #[.val (.long p1), .second, .val (.int p2), .val (.ref b120), .val (.int (1 : Int32)), .unset, .unset]) rfl (XS.iconst X136.here hx rfl (hb hby at_85) (XS.istore X136.here hx rfl (hb hby at_86) rfl (l' := #[.val (.long p1), .second, .val (.int p2), .val (.ref b120), .val (.int (1 : Int32)), .val (.int (0 : Int32)), .unset]) rfl k))) ?_
    show own_Fin p e below s _ _ _ T136 (mkF m 88 #[.val (.long p1), .second, .val (.int p2), .val (.ref b120), .val (.int (1 : Int32)), .val (.int (0 : Int32)), .unset] [])
    have J205_141 : ∀ (Tj141 : State) (lj141 : List Loc) (Xj141 : Stand p l e room_1 s m #[(.long p1), (.int p2)] below meth c Tj141 lj141 1 8) (ej141 : Tj141.heap = h136) (Nj141 : Fr n0 lj141) (ex : Int32) (hx205 : (own_tl1 v0) = ex), own_Fin p e below s room_1.cells room_1.slots (own_Q0 n0) Tj141 (mkF m 205 #[.val (.long p1), .second, .val (.int p2), .val (.ref b120), .val (.int (1 : Int32)), .val (.int ex), .unset] []) := by
      intro Tj141 lj141 Xj141 ej141 Nj141 ex hx205
      show own_Fin p e below s _ _ _ Tj141 (mkF m 205 #[.val (.long p1), .second, .val (.int p2), .val (.ref b120), .val (.int (1 : Int32)), .val (.int ex), .unset] [])
      refine own_by (fun _ k => XS.aloadN Xj141.here hx rfl (hb hby at_205) rfl rfl (XS.iload Xj141.here hx rfl (hb hby at_206) rfl k)) ?_
      show own_Fin p e below s _ _ _ Tj141 (mkF m 208 #[.val (.long p1), .second, .val (.int p2), .val (.ref b120), .val (.int (1 : Int32)), .val (.int ex), .unset] [(.int (1 : Int32)), (.ref b120)])
      obtain ⟨_, _, ⟨T142, L142, k142, n142⟩, -, X142, ⟨Lc142, hQ142, l142, y142, z142⟩, st142⟩ := Jvm.LawKit.callS Xj141 hx (y := (⟨"com/example/munka/munka/util/Utf8", "unfinishedTail", "([BI)I"⟩ : MethodName)) hown (mvT hZ (hw _ (List.mem_of_getElem? (i := 9) rfl))) (mvT hZ (hw _ (List.mem_of_getElem? (i := 10) rfl))) (mvT hZ (hw _ (List.mem_of_getElem? (i := 11) rfl))) (mvT hZ (hw _ (List.mem_of_getElem? (i := 12) rfl))) (by decide) (backOf (W := 0) (rmT1 l Z a0 hw [] b120 k120 v0 v1 v2 v3 v4 v5 v6 v7 h136 n0 Zs136 Vg) hZ (hw _ (List.mem_of_getElem? (i := 12) rfl)) (hw _ (List.mem_of_getElem? (i := 11) rfl)) (by decide) (by decide)) (g := (mkF m 208 #[.val (.long p1), .second, .val (.int p2), .val (.ref b120), .val (.int (1 : Int32)), .val (.int ex), .unset] [(.int (1 : Int32)), (.ref b120)])) rfl (by rw [hml]; rfl) (argsL := [(.ref b120), (.int (1 : Int32))]) (rest := []) (lenOf own_pd97 rfl) rfl (by show 2 * 0 + _ ≤ _; exact Nat.le_of_eq rfl) (hb hby at_208) (fun _ _ => ⟨rfl, ej141, (by decide : 1 + 0 ≤ _), (by decide : 8 + 0 ≤ _)⟩)
      dsimp only [Pt.U, Pt.locs, Pt.cells, Pt.slots] at X142 l142 y142 z142 st142 hQ142
      subst l142 y142 z142
      obtain ⟨rfl, Nq142, eh142⟩ := hQ142
      have N142 := Fr.app Nj141 Nq142
      refine own_by (fun _ k => st142 _ k) ?_
      show own_Fin p e below s _ _ _ T142 (mkF m 211 #[.val (.long p1), .second, .val (.int p2), .val (.ref b120), .val (.int (1 : Int32)), .val (.int ex), .unset] [(.int (own_tl1 v0))])
      refine own_by (fun _ k => XS.istore X142.here hx rfl (hb hby at_211) rfl (l' := #[.val (.long p1), .second, .val (.int p2), .val (.ref b120), .val (.int (1 : Int32)), .val (.int ex), .val (.int (own_tl1 v0))]) rfl (XS.iload X142.here hx rfl (hb hby at_213) rfl (XS.iload X142.here hx rfl (hb hby at_215) rfl k))) ?_
      show own_Fin p e below s _ _ _ T142 (mkF m 217 #[.val (.long p1), .second, .val (.int p2), .val (.ref b120), .val (.int (1 : Int32)), .val (.int ex), .val (.int (own_tl1 v0))] [(.int ex), (.int (own_tl1 v0))])
      refine own_by (fun _ k => XS.icmpNo X142.here hx rfl (hb hby at_217) rfl (teq hx205).2 k) ?_
      show own_Fin p e below s _ _ _ T142 (mkF m 220 #[.val (.long p1), .second, .val (.int p2), .val (.ref b120), .val (.int (1 : Int32)), .val (.int ex), .val (.int (own_tl1 v0))] [])
      refine own_by (fun _ k => XS.iconst X142.here hx rfl (hb hby at_220) (XS.goto X142.here hx rfl (pc0 := 221) (pc' := 225) rfl (hb hby at_221) (by decide) (by decide) k)) ?_
      show own_Fin p e below s _ _ _ T142 (mkF m 225 #[.val (.long p1), .second, .val (.int p2), .val (.ref b120), .val (.int (1 : Int32)), .val (.int ex), .val (.int (own_tl1 v0))] [(.int (1 : Int32))])
      exact own_retZ X142 hx hlk (t := .boolean) Bd.returns (by simp) (hb hby at_225) ⟨rfl, N142⟩ (by decide) (by decide)
    show own_Fin p e below s _ _ _ T136 (mkF m 88 #[.val (.long p1), .second, .val (.int p2), .val (.ref b120), .val (.int (1 : Int32)), .val (.int (0 : Int32)), .unset] [])
    refine own_by (fun _ k => XS.iload X136.here hx rfl (hb hby at_88) rfl (XS.iconst X136.here hx rfl (hb hby at_90) k)) ?_
    show own_Fin p e below s _ _ _ T136 (mkF m 91 #[.val (.long p1), .second, .val (.int p2), .val (.ref b120), .val (.int (1 : Int32)), .val (.int (0 : Int32)), .unset] [(.int (1 : Int32)), (.int (1 : Int32))])
    refine own_by (fun _ k => XS.icmpNo X136.here hx rfl (hb hby at_91) rfl (flt (by decide : ¬ ((1 : Int32) < (1 : Int32)))).1 k) ?_
    show own_Fin p e below s _ _ _ T136 (mkF m 94 #[.val (.long p1), .second, .val (.int p2), .val (.ref b120), .val (.int (1 : Int32)), .val (.int (0 : Int32)), .unset] [])
    refine own_by (fun _ k => XS.aloadN X136.here hx rfl (hb hby at_94) rfl rfl (XS.iload X136.here hx rfl (hb hby at_95) rfl (XS.iconst X136.here hx rfl (hb hby at_97) (XS.isub X136.here hx rfl (hb hby at_98) rfl k)))) ?_
    show own_Fin p e below s _ _ _ T136 (mkF m 99 #[.val (.long p1), .second, .val (.int p2), .val (.ref b120), .val (.int (1 : Int32)), .val (.int (0 : Int32)), .unset] [(.int ((1 : Int32) - (1 : Int32))), (.ref b120)])
    rw [(by decide : ((1 : Int32) - (1 : Int32)) = (0 : Int32))]
    show own_Fin p e below s _ _ _ T136 (mkF m 99 #[.val (.long p1), .second, .val (.int p2), .val (.ref b120), .val (.int (1 : Int32)), .val (.int (0 : Int32)), .unset] [(.int (0 : Int32)), (.ref b120)])
    obtain ⟨_, _, ⟨T143, L143, k143, n143⟩, -, X143, ⟨Lc143, hQ143, l143, y143, z143⟩, st143⟩ := Jvm.LawKit.callS X136 hx (y := (⟨"com/example/munka/munka/util/Utf8UnfinishedTailPinLaw", "u", "([BI)I"⟩ : MethodName)) hown (mvT hZ (hw _ (List.mem_of_getElem? (i := 2) rfl))) (mvT hZ (hw _ (List.mem_of_getElem? (i := 3) rfl))) (mvT hZ (hw _ (List.mem_of_getElem? (i := 4) rfl))) (mvT hZ (hw _ (List.mem_of_getElem? (i := 5) rfl))) (by decide) (backOf (W := 0) (rm1 l Z a0 hw [] b120 (0 : Int32) k120 (8 : Int32) [(.int v0), (.int v1), (.int v2), (.int v3), (.int v4), (.int v5), (.int v6), (.int v7)] v0 h136 n0 Zs136 Vg ⟨by decide, by decide⟩ rfl) hZ (hw _ (List.mem_of_getElem? (i := 5) rfl)) (hw _ (List.mem_of_getElem? (i := 4) rfl)) (by decide) (by decide)) (g := (mkF m 99 #[.val (.long p1), .second, .val (.int p2), .val (.ref b120), .val (.int (1 : Int32)), .val (.int (0 : Int32)), .unset] [(.int (0 : Int32)), (.ref b120)])) rfl (by rw [hml]; rfl) (argsL := [(.ref b120), (.int (0 : Int32))]) (rest := []) (lenOf own_pd97 rfl) rfl (by show 2 * 0 + _ ≤ _; exact Nat.le_of_eq rfl) (hb hby at_99) (fun _ _ => ⟨rfl, e136, (by decide : 1 + 0 ≤ _), (by decide : 8 + 0 ≤ _)⟩)
    dsimp only [Pt.U, Pt.locs, Pt.cells, Pt.slots] at X143 l143 y143 z143 st143 hQ143
    subst l143 y143 z143
    obtain ⟨rfl, Nq143, eh143⟩ := hQ143
    have N143 := Fr.app N136 Nq143
    refine own_by (fun _ k => st143 _ k) ?_
    show own_Fin p e below s _ _ _ T143 (mkF m 102 #[.val (.long p1), .second, .val (.int p2), .val (.ref b120), .val (.int (1 : Int32)), .val (.int (0 : Int32)), .unset] [(.int (v0 &&& (255 : Int32)))])
    refine own_by (fun _ k => XS.sipush X143.here hx rfl (hb hby at_102) k) ?_
    show own_Fin p e below s _ _ _ T143 (mkF m 105 #[.val (.long p1), .second, .val (.int p2), .val (.ref b120), .val (.int (1 : Int32)), .val (.int (0 : Int32)), .unset] [(.int (192 : Int32)), (.int (v0 &&& (255 : Int32)))])
    by_cases hc105_144 : (v0 &&& (255 : Int32)) < (192 : Int32)
    · show own_Fin p e below s _ _ _ T143 (mkF m 105 #[.val (.long p1), .second, .val (.int p2), .val (.ref b120), .val (.int (1 : Int32)), .val (.int (0 : Int32)), .unset] [(.int (192 : Int32)), (.int (v0 &&& (255 : Int32)))])
      refine own_by (fun _ k => XS.icmpYes X143.here hx rfl (pc0 := 105) (pc' := 114) rfl (hb hby at_105) rfl (tlt hc105_144).1 (by decide) (by decide) k) ?_
      show own_Fin p e below s _ _ _ T143 (mkF m 114 #[.val (.long p1), .second, .val (.int p2), .val (.ref b120), .val (.int (1 : Int32)), .val (.int (0 : Int32)), .unset] [])
      refine own_by (fun _ k => XS.iload X143.here hx rfl (hb hby at_114) rfl (XS.iconst X143.here hx rfl (hb hby at_116) k)) ?_
      show own_Fin p e below s _ _ _ T143 (mkF m 117 #[.val (.long p1), .second, .val (.int p2), .val (.ref b120), .val (.int (1 : Int32)), .val (.int (0 : Int32)), .unset] [(.int (2 : Int32)), (.int (1 : Int32))])
      refine own_by (fun _ k => XS.icmpYes X143.here hx rfl (pc0 := 117) (pc' := 154) rfl (hb hby at_117) rfl (tlt (by decide : (1 : Int32) < (2 : Int32))).1 (by decide) (by decide) k) ?_
      show own_Fin p e below s _ _ _ T143 (mkF m 154 #[.val (.long p1), .second, .val (.int p2), .val (.ref b120), .val (.int (1 : Int32)), .val (.int (0 : Int32)), .unset] [])
      refine own_by (fun _ k => XS.iload X143.here hx rfl (hb hby at_154) rfl (XS.iconst X143.here hx rfl (hb hby at_156) k)) ?_
      show own_Fin p e below s _ _ _ T143 (mkF m 157 #[.val (.long p1), .second, .val (.int p2), .val (.ref b120), .val (.int (1 : Int32)), .val (.int (0 : Int32)), .unset] [(.int (3 : Int32)), (.int (1 : Int32))])
      refine own_by (fun _ k => XS.icmpYes X143.here hx rfl (pc0 := 157) (pc' := 205) rfl (hb hby at_157) rfl (tlt (by decide : (1 : Int32) < (3 : Int32))).1 (by decide) (by decide) k) ?_
      show own_Fin p e below s _ _ _ T143 (mkF m 205 #[.val (.long p1), .second, .val (.int p2), .val (.ref b120), .val (.int (1 : Int32)), .val (.int (0 : Int32)), .unset] [])
      exact J205_141 T143 _ X143 eh143 N143 ((0 : Int32)) ((own_eq1 v0).trans (by simp [own_ex1, hc105_144]))
    · show own_Fin p e below s _ _ _ T143 (mkF m 105 #[.val (.long p1), .second, .val (.int p2), .val (.ref b120), .val (.int (1 : Int32)), .val (.int (0 : Int32)), .unset] [(.int (192 : Int32)), (.int (v0 &&& (255 : Int32)))])
      refine own_by (fun _ k => XS.icmpNo X143.here hx rfl (hb hby at_105) rfl (flt hc105_144).1 k) ?_
      show own_Fin p e below s _ _ _ T143 (mkF m 108 #[.val (.long p1), .second, .val (.int p2), .val (.ref b120), .val (.int (1 : Int32)), .val (.int (0 : Int32)), .unset] [])
      refine own_by (fun _ k => XS.iconst X143.here hx rfl (hb hby at_108) (XS.istore X143.here hx rfl (hb hby at_109) rfl (l' := #[.val (.long p1), .second, .val (.int p2), .val (.ref b120), .val (.int (1 : Int32)), .val (.int (1 : Int32)), .unset]) rfl (XS.goto X143.here hx rfl (pc0 := 111) (pc' := 205) rfl (hb hby at_111) (by decide) (by decide) k))) ?_
      show own_Fin p e below s _ _ _ T143 (mkF m 205 #[.val (.long p1), .second, .val (.int p2), .val (.ref b120), .val (.int (1 : Int32)), .val (.int (1 : Int32)), .unset] [])
      exact J205_141 T143 _ X143 eh143 N143 ((1 : Int32)) ((own_eq1 v0).trans (by simp [own_ex1, hc105_144]))
  · show own_Fin p e below s _ _ _ T136 (mkF m 83 #[.val (.long p1), .second, .val (.int p2), .val (.ref b120), .unset, .unset, .unset] [(.int ((p2 &&& (2147483647 : Int32)) % (9 : Int32)))])
    rw [hn]
    show own_Fin p e below s _ _ _ T136 (mkF m 83 #[.val (.long p1), .second, .val (.int p2), .val (.ref b120), .unset, .unset, .unset] [(.int (2 : Int32))])
    refine own_by (fun _ k => XS.istore X136.here hx rfl (hb hby at_83) rfl (l' := #[.val (.long p1), .second, .val (.int p2), .val (.ref b120), .val (.int (2 : Int32)), .unset, .unset]) rfl (XS.iconst X136.here hx rfl (hb hby at_85) (XS.istore X136.here hx rfl (hb hby at_86) rfl (l' := #[.val (.long p1), .second, .val (.int p2), .val (.ref b120), .val (.int (2 : Int32)), .val (.int (0 : Int32)), .unset]) rfl k))) ?_
    show own_Fin p e below s _ _ _ T136 (mkF m 88 #[.val (.long p1), .second, .val (.int p2), .val (.ref b120), .val (.int (2 : Int32)), .val (.int (0 : Int32)), .unset] [])
    have J205_145 : ∀ (Tj145 : State) (lj145 : List Loc) (Xj145 : Stand p l e room_1 s m #[(.long p1), (.int p2)] below meth c Tj145 lj145 1 8) (ej145 : Tj145.heap = h136) (Nj145 : Fr n0 lj145) (ex : Int32) (hx205 : (own_tl2 v1 v0) = ex), own_Fin p e below s room_1.cells room_1.slots (own_Q0 n0) Tj145 (mkF m 205 #[.val (.long p1), .second, .val (.int p2), .val (.ref b120), .val (.int (2 : Int32)), .val (.int ex), .unset] []) := by
      intro Tj145 lj145 Xj145 ej145 Nj145 ex hx205
      show own_Fin p e below s _ _ _ Tj145 (mkF m 205 #[.val (.long p1), .second, .val (.int p2), .val (.ref b120), .val (.int (2 : Int32)), .val (.int ex), .unset] [])
      refine own_by (fun _ k => XS.aloadN Xj145.here hx rfl (hb hby at_205) rfl rfl (XS.iload Xj145.here hx rfl (hb hby at_206) rfl k)) ?_
      show own_Fin p e below s _ _ _ Tj145 (mkF m 208 #[.val (.long p1), .second, .val (.int p2), .val (.ref b120), .val (.int (2 : Int32)), .val (.int ex), .unset] [(.int (2 : Int32)), (.ref b120)])
      obtain ⟨_, _, ⟨T146, L146, k146, n146⟩, -, X146, ⟨Lc146, hQ146, l146, y146, z146⟩, st146⟩ := Jvm.LawKit.callS Xj145 hx (y := (⟨"com/example/munka/munka/util/Utf8", "unfinishedTail", "([BI)I"⟩ : MethodName)) hown (mvT hZ (hw _ (List.mem_of_getElem? (i := 9) rfl))) (mvT hZ (hw _ (List.mem_of_getElem? (i := 10) rfl))) (mvT hZ (hw _ (List.mem_of_getElem? (i := 11) rfl))) (mvT hZ (hw _ (List.mem_of_getElem? (i := 12) rfl))) (by decide) (backOf (W := 0) (rmT2 l Z a0 hw [] b120 k120 v0 v1 v2 v3 v4 v5 v6 v7 h136 n0 Zs136 Vg) hZ (hw _ (List.mem_of_getElem? (i := 12) rfl)) (hw _ (List.mem_of_getElem? (i := 11) rfl)) (by decide) (by decide)) (g := (mkF m 208 #[.val (.long p1), .second, .val (.int p2), .val (.ref b120), .val (.int (2 : Int32)), .val (.int ex), .unset] [(.int (2 : Int32)), (.ref b120)])) rfl (by rw [hml]; rfl) (argsL := [(.ref b120), (.int (2 : Int32))]) (rest := []) (lenOf own_pd97 rfl) rfl (by show 2 * 0 + _ ≤ _; exact Nat.le_of_eq rfl) (hb hby at_208) (fun _ _ => ⟨rfl, ej145, (by decide : 1 + 0 ≤ _), (by decide : 8 + 0 ≤ _)⟩)
      dsimp only [Pt.U, Pt.locs, Pt.cells, Pt.slots] at X146 l146 y146 z146 st146 hQ146
      subst l146 y146 z146
      obtain ⟨rfl, Nq146, eh146⟩ := hQ146
      have N146 := Fr.app Nj145 Nq146
      refine own_by (fun _ k => st146 _ k) ?_
      show own_Fin p e below s _ _ _ T146 (mkF m 211 #[.val (.long p1), .second, .val (.int p2), .val (.ref b120), .val (.int (2 : Int32)), .val (.int ex), .unset] [(.int (own_tl2 v1 v0))])
      refine own_by (fun _ k => XS.istore X146.here hx rfl (hb hby at_211) rfl (l' := #[.val (.long p1), .second, .val (.int p2), .val (.ref b120), .val (.int (2 : Int32)), .val (.int ex), .val (.int (own_tl2 v1 v0))]) rfl (XS.iload X146.here hx rfl (hb hby at_213) rfl (XS.iload X146.here hx rfl (hb hby at_215) rfl k))) ?_
      show own_Fin p e below s _ _ _ T146 (mkF m 217 #[.val (.long p1), .second, .val (.int p2), .val (.ref b120), .val (.int (2 : Int32)), .val (.int ex), .val (.int (own_tl2 v1 v0))] [(.int ex), (.int (own_tl2 v1 v0))])
      refine own_by (fun _ k => XS.icmpNo X146.here hx rfl (hb hby at_217) rfl (teq hx205).2 k) ?_
      show own_Fin p e below s _ _ _ T146 (mkF m 220 #[.val (.long p1), .second, .val (.int p2), .val (.ref b120), .val (.int (2 : Int32)), .val (.int ex), .val (.int (own_tl2 v1 v0))] [])
      refine own_by (fun _ k => XS.iconst X146.here hx rfl (hb hby at_220) (XS.goto X146.here hx rfl (pc0 := 221) (pc' := 225) rfl (hb hby at_221) (by decide) (by decide) k)) ?_
      show own_Fin p e below s _ _ _ T146 (mkF m 225 #[.val (.long p1), .second, .val (.int p2), .val (.ref b120), .val (.int (2 : Int32)), .val (.int ex), .val (.int (own_tl2 v1 v0))] [(.int (1 : Int32))])
      exact own_retZ X146 hx hlk (t := .boolean) Bd.returns (by simp) (hb hby at_225) ⟨rfl, N146⟩ (by decide) (by decide)
    show own_Fin p e below s _ _ _ T136 (mkF m 88 #[.val (.long p1), .second, .val (.int p2), .val (.ref b120), .val (.int (2 : Int32)), .val (.int (0 : Int32)), .unset] [])
    refine own_by (fun _ k => XS.iload X136.here hx rfl (hb hby at_88) rfl (XS.iconst X136.here hx rfl (hb hby at_90) k)) ?_
    show own_Fin p e below s _ _ _ T136 (mkF m 91 #[.val (.long p1), .second, .val (.int p2), .val (.ref b120), .val (.int (2 : Int32)), .val (.int (0 : Int32)), .unset] [(.int (1 : Int32)), (.int (2 : Int32))])
    refine own_by (fun _ k => XS.icmpNo X136.here hx rfl (hb hby at_91) rfl (flt (by decide : ¬ ((2 : Int32) < (1 : Int32)))).1 k) ?_
    show own_Fin p e below s _ _ _ T136 (mkF m 94 #[.val (.long p1), .second, .val (.int p2), .val (.ref b120), .val (.int (2 : Int32)), .val (.int (0 : Int32)), .unset] [])
    refine own_by (fun _ k => XS.aloadN X136.here hx rfl (hb hby at_94) rfl rfl (XS.iload X136.here hx rfl (hb hby at_95) rfl (XS.iconst X136.here hx rfl (hb hby at_97) (XS.isub X136.here hx rfl (hb hby at_98) rfl k)))) ?_
    show own_Fin p e below s _ _ _ T136 (mkF m 99 #[.val (.long p1), .second, .val (.int p2), .val (.ref b120), .val (.int (2 : Int32)), .val (.int (0 : Int32)), .unset] [(.int ((2 : Int32) - (1 : Int32))), (.ref b120)])
    rw [(by decide : ((2 : Int32) - (1 : Int32)) = (1 : Int32))]
    show own_Fin p e below s _ _ _ T136 (mkF m 99 #[.val (.long p1), .second, .val (.int p2), .val (.ref b120), .val (.int (2 : Int32)), .val (.int (0 : Int32)), .unset] [(.int (1 : Int32)), (.ref b120)])
    obtain ⟨_, _, ⟨T147, L147, k147, n147⟩, -, X147, ⟨Lc147, hQ147, l147, y147, z147⟩, st147⟩ := Jvm.LawKit.callS X136 hx (y := (⟨"com/example/munka/munka/util/Utf8UnfinishedTailPinLaw", "u", "([BI)I"⟩ : MethodName)) hown (mvT hZ (hw _ (List.mem_of_getElem? (i := 2) rfl))) (mvT hZ (hw _ (List.mem_of_getElem? (i := 3) rfl))) (mvT hZ (hw _ (List.mem_of_getElem? (i := 4) rfl))) (mvT hZ (hw _ (List.mem_of_getElem? (i := 5) rfl))) (by decide) (backOf (W := 0) (rm1 l Z a0 hw [] b120 (1 : Int32) k120 (8 : Int32) [(.int v0), (.int v1), (.int v2), (.int v3), (.int v4), (.int v5), (.int v6), (.int v7)] v1 h136 n0 Zs136 Vg ⟨by decide, by decide⟩ rfl) hZ (hw _ (List.mem_of_getElem? (i := 5) rfl)) (hw _ (List.mem_of_getElem? (i := 4) rfl)) (by decide) (by decide)) (g := (mkF m 99 #[.val (.long p1), .second, .val (.int p2), .val (.ref b120), .val (.int (2 : Int32)), .val (.int (0 : Int32)), .unset] [(.int (1 : Int32)), (.ref b120)])) rfl (by rw [hml]; rfl) (argsL := [(.ref b120), (.int (1 : Int32))]) (rest := []) (lenOf own_pd97 rfl) rfl (by show 2 * 0 + _ ≤ _; exact Nat.le_of_eq rfl) (hb hby at_99) (fun _ _ => ⟨rfl, e136, (by decide : 1 + 0 ≤ _), (by decide : 8 + 0 ≤ _)⟩)
    dsimp only [Pt.U, Pt.locs, Pt.cells, Pt.slots] at X147 l147 y147 z147 st147 hQ147
    subst l147 y147 z147
    obtain ⟨rfl, Nq147, eh147⟩ := hQ147
    have N147 := Fr.app N136 Nq147
    refine own_by (fun _ k => st147 _ k) ?_
    show own_Fin p e below s _ _ _ T147 (mkF m 102 #[.val (.long p1), .second, .val (.int p2), .val (.ref b120), .val (.int (2 : Int32)), .val (.int (0 : Int32)), .unset] [(.int (v1 &&& (255 : Int32)))])
    refine own_by (fun _ k => XS.sipush X147.here hx rfl (hb hby at_102) k) ?_
    show own_Fin p e below s _ _ _ T147 (mkF m 105 #[.val (.long p1), .second, .val (.int p2), .val (.ref b120), .val (.int (2 : Int32)), .val (.int (0 : Int32)), .unset] [(.int (192 : Int32)), (.int (v1 &&& (255 : Int32)))])
    by_cases hc105_148 : (v1 &&& (255 : Int32)) < (192 : Int32)
    · show own_Fin p e below s _ _ _ T147 (mkF m 105 #[.val (.long p1), .second, .val (.int p2), .val (.ref b120), .val (.int (2 : Int32)), .val (.int (0 : Int32)), .unset] [(.int (192 : Int32)), (.int (v1 &&& (255 : Int32)))])
      refine own_by (fun _ k => XS.icmpYes X147.here hx rfl (pc0 := 105) (pc' := 114) rfl (hb hby at_105) rfl (tlt hc105_148).1 (by decide) (by decide) k) ?_
      show own_Fin p e below s _ _ _ T147 (mkF m 114 #[.val (.long p1), .second, .val (.int p2), .val (.ref b120), .val (.int (2 : Int32)), .val (.int (0 : Int32)), .unset] [])
      refine own_by (fun _ k => XS.iload X147.here hx rfl (hb hby at_114) rfl (XS.iconst X147.here hx rfl (hb hby at_116) k)) ?_
      show own_Fin p e below s _ _ _ T147 (mkF m 117 #[.val (.long p1), .second, .val (.int p2), .val (.ref b120), .val (.int (2 : Int32)), .val (.int (0 : Int32)), .unset] [(.int (2 : Int32)), (.int (2 : Int32))])
      refine own_by (fun _ k => XS.icmpNo X147.here hx rfl (hb hby at_117) rfl (flt (by decide : ¬ ((2 : Int32) < (2 : Int32)))).1 k) ?_
      show own_Fin p e below s _ _ _ T147 (mkF m 120 #[.val (.long p1), .second, .val (.int p2), .val (.ref b120), .val (.int (2 : Int32)), .val (.int (0 : Int32)), .unset] [])
      refine own_by (fun _ k => XS.aloadN X147.here hx rfl (hb hby at_120) rfl rfl (XS.iload X147.here hx rfl (hb hby at_121) rfl (XS.iconst X147.here hx rfl (hb hby at_123) (XS.isub X147.here hx rfl (hb hby at_124) rfl k)))) ?_
      show own_Fin p e below s _ _ _ T147 (mkF m 125 #[.val (.long p1), .second, .val (.int p2), .val (.ref b120), .val (.int (2 : Int32)), .val (.int (0 : Int32)), .unset] [(.int ((2 : Int32) - (1 : Int32))), (.ref b120)])
      rw [(by decide : ((2 : Int32) - (1 : Int32)) = (1 : Int32))]
      show own_Fin p e below s _ _ _ T147 (mkF m 125 #[.val (.long p1), .second, .val (.int p2), .val (.ref b120), .val (.int (2 : Int32)), .val (.int (0 : Int32)), .unset] [(.int (1 : Int32)), (.ref b120)])
      obtain ⟨_, _, ⟨T149, L149, k149, n149⟩, -, X149, ⟨Lc149, hQ149, l149, y149, z149⟩, st149⟩ := Jvm.LawKit.callS X147 hx (y := (⟨"com/example/munka/munka/util/Utf8UnfinishedTailPinLaw", "u", "([BI)I"⟩ : MethodName)) hown (mvT hZ (hw _ (List.mem_of_getElem? (i := 2) rfl))) (mvT hZ (hw _ (List.mem_of_getElem? (i := 3) rfl))) (mvT hZ (hw _ (List.mem_of_getElem? (i := 4) rfl))) (mvT hZ (hw _ (List.mem_of_getElem? (i := 5) rfl))) (by decide) (backOf (W := 0) (rm1 l Z a0 hw [] b120 (1 : Int32) k120 (8 : Int32) [(.int v0), (.int v1), (.int v2), (.int v3), (.int v4), (.int v5), (.int v6), (.int v7)] v1 h136 n0 Zs136 Vg ⟨by decide, by decide⟩ rfl) hZ (hw _ (List.mem_of_getElem? (i := 5) rfl)) (hw _ (List.mem_of_getElem? (i := 4) rfl)) (by decide) (by decide)) (g := (mkF m 125 #[.val (.long p1), .second, .val (.int p2), .val (.ref b120), .val (.int (2 : Int32)), .val (.int (0 : Int32)), .unset] [(.int (1 : Int32)), (.ref b120)])) rfl (by rw [hml]; rfl) (argsL := [(.ref b120), (.int (1 : Int32))]) (rest := []) (lenOf own_pd97 rfl) rfl (by show 2 * 0 + _ ≤ _; exact Nat.le_of_eq rfl) (hb hby at_125) (fun _ _ => ⟨rfl, eh147, (by decide : 1 + 0 ≤ _), (by decide : 8 + 0 ≤ _)⟩)
      dsimp only [Pt.U, Pt.locs, Pt.cells, Pt.slots] at X149 l149 y149 z149 st149 hQ149
      subst l149 y149 z149
      obtain ⟨rfl, Nq149, eh149⟩ := hQ149
      have N149 := Fr.app N147 Nq149
      refine own_by (fun _ k => st149 _ k) ?_
      show own_Fin p e below s _ _ _ T149 (mkF m 128 #[.val (.long p1), .second, .val (.int p2), .val (.ref b120), .val (.int (2 : Int32)), .val (.int (0 : Int32)), .unset] [(.int (v1 &&& (255 : Int32)))])
      obtain ⟨_, _, ⟨T150, L150, k150, n150⟩, -, X150, ⟨Lc150, hQ150, l150, y150, z150⟩, st150⟩ := Jvm.LawKit.callS X149 hx (y := (⟨"com/example/munka/munka/util/Utf8UnfinishedTailPinLaw", "cont", "(I)Z"⟩ : MethodName)) hown (mvT hZ (hw _ (List.mem_of_getElem? (i := 6) rfl))) (mvT hZ (hw _ (List.mem_of_getElem? (i := 7) rfl))) (mvT hZ (hw _ (List.mem_of_getElem? (i := 4) rfl))) (mvT hZ (hw _ (List.mem_of_getElem? (i := 8) rfl))) (by decide) (backOf (W := 0) (rm2 l Z a0 hw [] (v1 &&& (255 : Int32)) h136 n0 Zs136 ) hZ (hw _ (List.mem_of_getElem? (i := 8) rfl)) (hw _ (List.mem_of_getElem? (i := 4) rfl)) (by decide) (by decide)) (g := (mkF m 128 #[.val (.long p1), .second, .val (.int p2), .val (.ref b120), .val (.int (2 : Int32)), .val (.int (0 : Int32)), .unset] [(.int (v1 &&& (255 : Int32)))])) rfl (by rw [hml]; rfl) (argsL := [(.int (v1 &&& (255 : Int32)))]) (rest := []) (lenOf own_pd98 rfl) rfl (by show 2 * 0 + _ ≤ _; exact Nat.le_of_eq rfl) (hb hby at_128) (fun _ _ => ⟨rfl, eh149, (by decide : 1 + 0 ≤ _), (by decide : 8 + 0 ≤ _)⟩)
      dsimp only [Pt.U, Pt.locs, Pt.cells, Pt.slots] at X150 l150 y150 z150 st150 hQ150
      subst l150 y150 z150
      obtain ⟨rfl, Nq150, eh150⟩ := hQ150
      have N150 := Fr.app N149 Nq150
      refine own_by (fun _ k => st150 _ k) ?_
      show own_Fin p e below s _ _ _ T150 (mkF m 131 #[.val (.long p1), .second, .val (.int p2), .val (.ref b120), .val (.int (2 : Int32)), .val (.int (0 : Int32)), .unset] [(.int (own_cont (v1 &&& (255 : Int32))))])
      by_cases hc131_151 : (own_cont (v1 &&& (255 : Int32))) = (0 : Int32)
      · show own_Fin p e below s _ _ _ T150 (mkF m 131 #[.val (.long p1), .second, .val (.int p2), .val (.ref b120), .val (.int (2 : Int32)), .val (.int (0 : Int32)), .unset] [(.int (own_cont (v1 &&& (255 : Int32))))])
        refine own_by (fun _ k => XS.ifYes X150.here hx rfl (pc0 := 131) (pc' := 154) rfl (hb hby at_131) rfl ((if0 _ _).trans (teq hc131_151).1) (by decide) (by decide) k) ?_
        show own_Fin p e below s _ _ _ T150 (mkF m 154 #[.val (.long p1), .second, .val (.int p2), .val (.ref b120), .val (.int (2 : Int32)), .val (.int (0 : Int32)), .unset] [])
        refine own_by (fun _ k => XS.iload X150.here hx rfl (hb hby at_154) rfl (XS.iconst X150.here hx rfl (hb hby at_156) k)) ?_
        show own_Fin p e below s _ _ _ T150 (mkF m 157 #[.val (.long p1), .second, .val (.int p2), .val (.ref b120), .val (.int (2 : Int32)), .val (.int (0 : Int32)), .unset] [(.int (3 : Int32)), (.int (2 : Int32))])
        refine own_by (fun _ k => XS.icmpYes X150.here hx rfl (pc0 := 157) (pc' := 205) rfl (hb hby at_157) rfl (tlt (by decide : (2 : Int32) < (3 : Int32))).1 (by decide) (by decide) k) ?_
        show own_Fin p e below s _ _ _ T150 (mkF m 205 #[.val (.long p1), .second, .val (.int p2), .val (.ref b120), .val (.int (2 : Int32)), .val (.int (0 : Int32)), .unset] [])
        exact J205_145 T150 _ X150 eh150 N150 ((0 : Int32)) ((own_eq2 v1 v0).trans (by simp [own_ex2, hc105_148, hc131_151]))
      · show own_Fin p e below s _ _ _ T150 (mkF m 131 #[.val (.long p1), .second, .val (.int p2), .val (.ref b120), .val (.int (2 : Int32)), .val (.int (0 : Int32)), .unset] [(.int (own_cont (v1 &&& (255 : Int32))))])
        refine own_by (fun _ k => XS.ifNo X150.here hx rfl (hb hby at_131) rfl ((if0 _ _).trans (feq hc131_151).1) k) ?_
        show own_Fin p e below s _ _ _ T150 (mkF m 134 #[.val (.long p1), .second, .val (.int p2), .val (.ref b120), .val (.int (2 : Int32)), .val (.int (0 : Int32)), .unset] [])
        refine own_by (fun _ k => XS.aloadN X150.here hx rfl (hb hby at_134) rfl rfl (XS.iload X150.here hx rfl (hb hby at_135) rfl (XS.iconst X150.here hx rfl (hb hby at_137) (XS.isub X150.here hx rfl (hb hby at_138) rfl k)))) ?_
        show own_Fin p e below s _ _ _ T150 (mkF m 139 #[.val (.long p1), .second, .val (.int p2), .val (.ref b120), .val (.int (2 : Int32)), .val (.int (0 : Int32)), .unset] [(.int ((2 : Int32) - (2 : Int32))), (.ref b120)])
        rw [(by decide : ((2 : Int32) - (2 : Int32)) = (0 : Int32))]
        show own_Fin p e below s _ _ _ T150 (mkF m 139 #[.val (.long p1), .second, .val (.int p2), .val (.ref b120), .val (.int (2 : Int32)), .val (.int (0 : Int32)), .unset] [(.int (0 : Int32)), (.ref b120)])
        obtain ⟨_, _, ⟨T152, L152, k152, n152⟩, -, X152, ⟨Lc152, hQ152, l152, y152, z152⟩, st152⟩ := Jvm.LawKit.callS X150 hx (y := (⟨"com/example/munka/munka/util/Utf8UnfinishedTailPinLaw", "u", "([BI)I"⟩ : MethodName)) hown (mvT hZ (hw _ (List.mem_of_getElem? (i := 2) rfl))) (mvT hZ (hw _ (List.mem_of_getElem? (i := 3) rfl))) (mvT hZ (hw _ (List.mem_of_getElem? (i := 4) rfl))) (mvT hZ (hw _ (List.mem_of_getElem? (i := 5) rfl))) (by decide) (backOf (W := 0) (rm1 l Z a0 hw [] b120 (0 : Int32) k120 (8 : Int32) [(.int v0), (.int v1), (.int v2), (.int v3), (.int v4), (.int v5), (.int v6), (.int v7)] v0 h136 n0 Zs136 Vg ⟨by decide, by decide⟩ rfl) hZ (hw _ (List.mem_of_getElem? (i := 5) rfl)) (hw _ (List.mem_of_getElem? (i := 4) rfl)) (by decide) (by decide)) (g := (mkF m 139 #[.val (.long p1), .second, .val (.int p2), .val (.ref b120), .val (.int (2 : Int32)), .val (.int (0 : Int32)), .unset] [(.int (0 : Int32)), (.ref b120)])) rfl (by rw [hml]; rfl) (argsL := [(.ref b120), (.int (0 : Int32))]) (rest := []) (lenOf own_pd97 rfl) rfl (by show 2 * 0 + _ ≤ _; exact Nat.le_of_eq rfl) (hb hby at_139) (fun _ _ => ⟨rfl, eh150, (by decide : 1 + 0 ≤ _), (by decide : 8 + 0 ≤ _)⟩)
        dsimp only [Pt.U, Pt.locs, Pt.cells, Pt.slots] at X152 l152 y152 z152 st152 hQ152
        subst l152 y152 z152
        obtain ⟨rfl, Nq152, eh152⟩ := hQ152
        have N152 := Fr.app N150 Nq152
        refine own_by (fun _ k => st152 _ k) ?_
        show own_Fin p e below s _ _ _ T152 (mkF m 142 #[.val (.long p1), .second, .val (.int p2), .val (.ref b120), .val (.int (2 : Int32)), .val (.int (0 : Int32)), .unset] [(.int (v0 &&& (255 : Int32)))])
        refine own_by (fun _ k => XS.sipush X152.here hx rfl (hb hby at_142) k) ?_
        show own_Fin p e below s _ _ _ T152 (mkF m 145 #[.val (.long p1), .second, .val (.int p2), .val (.ref b120), .val (.int (2 : Int32)), .val (.int (0 : Int32)), .unset] [(.int (224 : Int32)), (.int (v0 &&& (255 : Int32)))])
        by_cases hc145_153 : (v0 &&& (255 : Int32)) < (224 : Int32)
        · show own_Fin p e below s _ _ _ T152 (mkF m 145 #[.val (.long p1), .second, .val (.int p2), .val (.ref b120), .val (.int (2 : Int32)), .val (.int (0 : Int32)), .unset] [(.int (224 : Int32)), (.int (v0 &&& (255 : Int32)))])
          refine own_by (fun _ k => XS.icmpYes X152.here hx rfl (pc0 := 145) (pc' := 154) rfl (hb hby at_145) rfl (tlt hc145_153).1 (by decide) (by decide) k) ?_
          show own_Fin p e below s _ _ _ T152 (mkF m 154 #[.val (.long p1), .second, .val (.int p2), .val (.ref b120), .val (.int (2 : Int32)), .val (.int (0 : Int32)), .unset] [])
          refine own_by (fun _ k => XS.iload X152.here hx rfl (hb hby at_154) rfl (XS.iconst X152.here hx rfl (hb hby at_156) k)) ?_
          show own_Fin p e below s _ _ _ T152 (mkF m 157 #[.val (.long p1), .second, .val (.int p2), .val (.ref b120), .val (.int (2 : Int32)), .val (.int (0 : Int32)), .unset] [(.int (3 : Int32)), (.int (2 : Int32))])
          refine own_by (fun _ k => XS.icmpYes X152.here hx rfl (pc0 := 157) (pc' := 205) rfl (hb hby at_157) rfl (tlt (by decide : (2 : Int32) < (3 : Int32))).1 (by decide) (by decide) k) ?_
          show own_Fin p e below s _ _ _ T152 (mkF m 205 #[.val (.long p1), .second, .val (.int p2), .val (.ref b120), .val (.int (2 : Int32)), .val (.int (0 : Int32)), .unset] [])
          exact J205_145 T152 _ X152 eh152 N152 ((0 : Int32)) ((own_eq2 v1 v0).trans (by simp [own_ex2, hc105_148, hc131_151, hc145_153]))
        · show own_Fin p e below s _ _ _ T152 (mkF m 145 #[.val (.long p1), .second, .val (.int p2), .val (.ref b120), .val (.int (2 : Int32)), .val (.int (0 : Int32)), .unset] [(.int (224 : Int32)), (.int (v0 &&& (255 : Int32)))])
          refine own_by (fun _ k => XS.icmpNo X152.here hx rfl (hb hby at_145) rfl (flt hc145_153).1 k) ?_
          show own_Fin p e below s _ _ _ T152 (mkF m 148 #[.val (.long p1), .second, .val (.int p2), .val (.ref b120), .val (.int (2 : Int32)), .val (.int (0 : Int32)), .unset] [])
          refine own_by (fun _ k => XS.iconst X152.here hx rfl (hb hby at_148) (XS.istore X152.here hx rfl (hb hby at_149) rfl (l' := #[.val (.long p1), .second, .val (.int p2), .val (.ref b120), .val (.int (2 : Int32)), .val (.int (2 : Int32)), .unset]) rfl (XS.goto X152.here hx rfl (pc0 := 151) (pc' := 205) rfl (hb hby at_151) (by decide) (by decide) k))) ?_
          show own_Fin p e below s _ _ _ T152 (mkF m 205 #[.val (.long p1), .second, .val (.int p2), .val (.ref b120), .val (.int (2 : Int32)), .val (.int (2 : Int32)), .unset] [])
          exact J205_145 T152 _ X152 eh152 N152 ((2 : Int32)) ((own_eq2 v1 v0).trans (by simp [own_ex2, hc105_148, hc131_151, hc145_153]))
    · show own_Fin p e below s _ _ _ T147 (mkF m 105 #[.val (.long p1), .second, .val (.int p2), .val (.ref b120), .val (.int (2 : Int32)), .val (.int (0 : Int32)), .unset] [(.int (192 : Int32)), (.int (v1 &&& (255 : Int32)))])
      refine own_by (fun _ k => XS.icmpNo X147.here hx rfl (hb hby at_105) rfl (flt hc105_148).1 k) ?_
      show own_Fin p e below s _ _ _ T147 (mkF m 108 #[.val (.long p1), .second, .val (.int p2), .val (.ref b120), .val (.int (2 : Int32)), .val (.int (0 : Int32)), .unset] [])
      refine own_by (fun _ k => XS.iconst X147.here hx rfl (hb hby at_108) (XS.istore X147.here hx rfl (hb hby at_109) rfl (l' := #[.val (.long p1), .second, .val (.int p2), .val (.ref b120), .val (.int (2 : Int32)), .val (.int (1 : Int32)), .unset]) rfl (XS.goto X147.here hx rfl (pc0 := 111) (pc' := 205) rfl (hb hby at_111) (by decide) (by decide) k))) ?_
      show own_Fin p e below s _ _ _ T147 (mkF m 205 #[.val (.long p1), .second, .val (.int p2), .val (.ref b120), .val (.int (2 : Int32)), .val (.int (1 : Int32)), .unset] [])
      exact J205_145 T147 _ X147 eh147 N147 ((1 : Int32)) ((own_eq2 v1 v0).trans (by simp [own_ex2, hc105_148]))
  · show own_Fin p e below s _ _ _ T136 (mkF m 83 #[.val (.long p1), .second, .val (.int p2), .val (.ref b120), .unset, .unset, .unset] [(.int ((p2 &&& (2147483647 : Int32)) % (9 : Int32)))])
    rw [hn]
    show own_Fin p e below s _ _ _ T136 (mkF m 83 #[.val (.long p1), .second, .val (.int p2), .val (.ref b120), .unset, .unset, .unset] [(.int (3 : Int32))])
    refine own_by (fun _ k => XS.istore X136.here hx rfl (hb hby at_83) rfl (l' := #[.val (.long p1), .second, .val (.int p2), .val (.ref b120), .val (.int (3 : Int32)), .unset, .unset]) rfl (XS.iconst X136.here hx rfl (hb hby at_85) (XS.istore X136.here hx rfl (hb hby at_86) rfl (l' := #[.val (.long p1), .second, .val (.int p2), .val (.ref b120), .val (.int (3 : Int32)), .val (.int (0 : Int32)), .unset]) rfl k))) ?_
    show own_Fin p e below s _ _ _ T136 (mkF m 88 #[.val (.long p1), .second, .val (.int p2), .val (.ref b120), .val (.int (3 : Int32)), .val (.int (0 : Int32)), .unset] [])
    have J205_154 : ∀ (Tj154 : State) (lj154 : List Loc) (Xj154 : Stand p l e room_1 s m #[(.long p1), (.int p2)] below meth c Tj154 lj154 1 8) (ej154 : Tj154.heap = h136) (Nj154 : Fr n0 lj154) (ex : Int32) (hx205 : (own_tl3 v2 v1 v0) = ex), own_Fin p e below s room_1.cells room_1.slots (own_Q0 n0) Tj154 (mkF m 205 #[.val (.long p1), .second, .val (.int p2), .val (.ref b120), .val (.int (3 : Int32)), .val (.int ex), .unset] []) := by
      intro Tj154 lj154 Xj154 ej154 Nj154 ex hx205
      show own_Fin p e below s _ _ _ Tj154 (mkF m 205 #[.val (.long p1), .second, .val (.int p2), .val (.ref b120), .val (.int (3 : Int32)), .val (.int ex), .unset] [])
      refine own_by (fun _ k => XS.aloadN Xj154.here hx rfl (hb hby at_205) rfl rfl (XS.iload Xj154.here hx rfl (hb hby at_206) rfl k)) ?_
      show own_Fin p e below s _ _ _ Tj154 (mkF m 208 #[.val (.long p1), .second, .val (.int p2), .val (.ref b120), .val (.int (3 : Int32)), .val (.int ex), .unset] [(.int (3 : Int32)), (.ref b120)])
      obtain ⟨_, _, ⟨T155, L155, k155, n155⟩, -, X155, ⟨Lc155, hQ155, l155, y155, z155⟩, st155⟩ := Jvm.LawKit.callS Xj154 hx (y := (⟨"com/example/munka/munka/util/Utf8", "unfinishedTail", "([BI)I"⟩ : MethodName)) hown (mvT hZ (hw _ (List.mem_of_getElem? (i := 9) rfl))) (mvT hZ (hw _ (List.mem_of_getElem? (i := 10) rfl))) (mvT hZ (hw _ (List.mem_of_getElem? (i := 11) rfl))) (mvT hZ (hw _ (List.mem_of_getElem? (i := 12) rfl))) (by decide) (backOf (W := 0) (rmT3 l Z a0 hw [] b120 k120 v0 v1 v2 v3 v4 v5 v6 v7 h136 n0 Zs136 Vg) hZ (hw _ (List.mem_of_getElem? (i := 12) rfl)) (hw _ (List.mem_of_getElem? (i := 11) rfl)) (by decide) (by decide)) (g := (mkF m 208 #[.val (.long p1), .second, .val (.int p2), .val (.ref b120), .val (.int (3 : Int32)), .val (.int ex), .unset] [(.int (3 : Int32)), (.ref b120)])) rfl (by rw [hml]; rfl) (argsL := [(.ref b120), (.int (3 : Int32))]) (rest := []) (lenOf own_pd97 rfl) rfl (by show 2 * 0 + _ ≤ _; exact Nat.le_of_eq rfl) (hb hby at_208) (fun _ _ => ⟨rfl, ej154, (by decide : 1 + 0 ≤ _), (by decide : 8 + 0 ≤ _)⟩)
      dsimp only [Pt.U, Pt.locs, Pt.cells, Pt.slots] at X155 l155 y155 z155 st155 hQ155
      subst l155 y155 z155
      obtain ⟨rfl, Nq155, eh155⟩ := hQ155
      have N155 := Fr.app Nj154 Nq155
      refine own_by (fun _ k => st155 _ k) ?_
      show own_Fin p e below s _ _ _ T155 (mkF m 211 #[.val (.long p1), .second, .val (.int p2), .val (.ref b120), .val (.int (3 : Int32)), .val (.int ex), .unset] [(.int (own_tl3 v2 v1 v0))])
      refine own_by (fun _ k => XS.istore X155.here hx rfl (hb hby at_211) rfl (l' := #[.val (.long p1), .second, .val (.int p2), .val (.ref b120), .val (.int (3 : Int32)), .val (.int ex), .val (.int (own_tl3 v2 v1 v0))]) rfl (XS.iload X155.here hx rfl (hb hby at_213) rfl (XS.iload X155.here hx rfl (hb hby at_215) rfl k))) ?_
      show own_Fin p e below s _ _ _ T155 (mkF m 217 #[.val (.long p1), .second, .val (.int p2), .val (.ref b120), .val (.int (3 : Int32)), .val (.int ex), .val (.int (own_tl3 v2 v1 v0))] [(.int ex), (.int (own_tl3 v2 v1 v0))])
      refine own_by (fun _ k => XS.icmpNo X155.here hx rfl (hb hby at_217) rfl (teq hx205).2 k) ?_
      show own_Fin p e below s _ _ _ T155 (mkF m 220 #[.val (.long p1), .second, .val (.int p2), .val (.ref b120), .val (.int (3 : Int32)), .val (.int ex), .val (.int (own_tl3 v2 v1 v0))] [])
      refine own_by (fun _ k => XS.iconst X155.here hx rfl (hb hby at_220) (XS.goto X155.here hx rfl (pc0 := 221) (pc' := 225) rfl (hb hby at_221) (by decide) (by decide) k)) ?_
      show own_Fin p e below s _ _ _ T155 (mkF m 225 #[.val (.long p1), .second, .val (.int p2), .val (.ref b120), .val (.int (3 : Int32)), .val (.int ex), .val (.int (own_tl3 v2 v1 v0))] [(.int (1 : Int32))])
      exact own_retZ X155 hx hlk (t := .boolean) Bd.returns (by simp) (hb hby at_225) ⟨rfl, N155⟩ (by decide) (by decide)
    show own_Fin p e below s _ _ _ T136 (mkF m 88 #[.val (.long p1), .second, .val (.int p2), .val (.ref b120), .val (.int (3 : Int32)), .val (.int (0 : Int32)), .unset] [])
    refine own_by (fun _ k => XS.iload X136.here hx rfl (hb hby at_88) rfl (XS.iconst X136.here hx rfl (hb hby at_90) k)) ?_
    show own_Fin p e below s _ _ _ T136 (mkF m 91 #[.val (.long p1), .second, .val (.int p2), .val (.ref b120), .val (.int (3 : Int32)), .val (.int (0 : Int32)), .unset] [(.int (1 : Int32)), (.int (3 : Int32))])
    refine own_by (fun _ k => XS.icmpNo X136.here hx rfl (hb hby at_91) rfl (flt (by decide : ¬ ((3 : Int32) < (1 : Int32)))).1 k) ?_
    show own_Fin p e below s _ _ _ T136 (mkF m 94 #[.val (.long p1), .second, .val (.int p2), .val (.ref b120), .val (.int (3 : Int32)), .val (.int (0 : Int32)), .unset] [])
    refine own_by (fun _ k => XS.aloadN X136.here hx rfl (hb hby at_94) rfl rfl (XS.iload X136.here hx rfl (hb hby at_95) rfl (XS.iconst X136.here hx rfl (hb hby at_97) (XS.isub X136.here hx rfl (hb hby at_98) rfl k)))) ?_
    show own_Fin p e below s _ _ _ T136 (mkF m 99 #[.val (.long p1), .second, .val (.int p2), .val (.ref b120), .val (.int (3 : Int32)), .val (.int (0 : Int32)), .unset] [(.int ((3 : Int32) - (1 : Int32))), (.ref b120)])
    rw [(by decide : ((3 : Int32) - (1 : Int32)) = (2 : Int32))]
    show own_Fin p e below s _ _ _ T136 (mkF m 99 #[.val (.long p1), .second, .val (.int p2), .val (.ref b120), .val (.int (3 : Int32)), .val (.int (0 : Int32)), .unset] [(.int (2 : Int32)), (.ref b120)])
    obtain ⟨_, _, ⟨T156, L156, k156, n156⟩, -, X156, ⟨Lc156, hQ156, l156, y156, z156⟩, st156⟩ := Jvm.LawKit.callS X136 hx (y := (⟨"com/example/munka/munka/util/Utf8UnfinishedTailPinLaw", "u", "([BI)I"⟩ : MethodName)) hown (mvT hZ (hw _ (List.mem_of_getElem? (i := 2) rfl))) (mvT hZ (hw _ (List.mem_of_getElem? (i := 3) rfl))) (mvT hZ (hw _ (List.mem_of_getElem? (i := 4) rfl))) (mvT hZ (hw _ (List.mem_of_getElem? (i := 5) rfl))) (by decide) (backOf (W := 0) (rm1 l Z a0 hw [] b120 (2 : Int32) k120 (8 : Int32) [(.int v0), (.int v1), (.int v2), (.int v3), (.int v4), (.int v5), (.int v6), (.int v7)] v2 h136 n0 Zs136 Vg ⟨by decide, by decide⟩ rfl) hZ (hw _ (List.mem_of_getElem? (i := 5) rfl)) (hw _ (List.mem_of_getElem? (i := 4) rfl)) (by decide) (by decide)) (g := (mkF m 99 #[.val (.long p1), .second, .val (.int p2), .val (.ref b120), .val (.int (3 : Int32)), .val (.int (0 : Int32)), .unset] [(.int (2 : Int32)), (.ref b120)])) rfl (by rw [hml]; rfl) (argsL := [(.ref b120), (.int (2 : Int32))]) (rest := []) (lenOf own_pd97 rfl) rfl (by show 2 * 0 + _ ≤ _; exact Nat.le_of_eq rfl) (hb hby at_99) (fun _ _ => ⟨rfl, e136, (by decide : 1 + 0 ≤ _), (by decide : 8 + 0 ≤ _)⟩)
    dsimp only [Pt.U, Pt.locs, Pt.cells, Pt.slots] at X156 l156 y156 z156 st156 hQ156
    subst l156 y156 z156
    obtain ⟨rfl, Nq156, eh156⟩ := hQ156
    have N156 := Fr.app N136 Nq156
    refine own_by (fun _ k => st156 _ k) ?_
    show own_Fin p e below s _ _ _ T156 (mkF m 102 #[.val (.long p1), .second, .val (.int p2), .val (.ref b120), .val (.int (3 : Int32)), .val (.int (0 : Int32)), .unset] [(.int (v2 &&& (255 : Int32)))])
    refine own_by (fun _ k => XS.sipush X156.here hx rfl (hb hby at_102) k) ?_
    show own_Fin p e below s _ _ _ T156 (mkF m 105 #[.val (.long p1), .second, .val (.int p2), .val (.ref b120), .val (.int (3 : Int32)), .val (.int (0 : Int32)), .unset] [(.int (192 : Int32)), (.int (v2 &&& (255 : Int32)))])
    by_cases hc105_157 : (v2 &&& (255 : Int32)) < (192 : Int32)
    · show own_Fin p e below s _ _ _ T156 (mkF m 105 #[.val (.long p1), .second, .val (.int p2), .val (.ref b120), .val (.int (3 : Int32)), .val (.int (0 : Int32)), .unset] [(.int (192 : Int32)), (.int (v2 &&& (255 : Int32)))])
      refine own_by (fun _ k => XS.icmpYes X156.here hx rfl (pc0 := 105) (pc' := 114) rfl (hb hby at_105) rfl (tlt hc105_157).1 (by decide) (by decide) k) ?_
      show own_Fin p e below s _ _ _ T156 (mkF m 114 #[.val (.long p1), .second, .val (.int p2), .val (.ref b120), .val (.int (3 : Int32)), .val (.int (0 : Int32)), .unset] [])
      refine own_by (fun _ k => XS.iload X156.here hx rfl (hb hby at_114) rfl (XS.iconst X156.here hx rfl (hb hby at_116) k)) ?_
      show own_Fin p e below s _ _ _ T156 (mkF m 117 #[.val (.long p1), .second, .val (.int p2), .val (.ref b120), .val (.int (3 : Int32)), .val (.int (0 : Int32)), .unset] [(.int (2 : Int32)), (.int (3 : Int32))])
      refine own_by (fun _ k => XS.icmpNo X156.here hx rfl (hb hby at_117) rfl (flt (by decide : ¬ ((3 : Int32) < (2 : Int32)))).1 k) ?_
      show own_Fin p e below s _ _ _ T156 (mkF m 120 #[.val (.long p1), .second, .val (.int p2), .val (.ref b120), .val (.int (3 : Int32)), .val (.int (0 : Int32)), .unset] [])
      refine own_by (fun _ k => XS.aloadN X156.here hx rfl (hb hby at_120) rfl rfl (XS.iload X156.here hx rfl (hb hby at_121) rfl (XS.iconst X156.here hx rfl (hb hby at_123) (XS.isub X156.here hx rfl (hb hby at_124) rfl k)))) ?_
      show own_Fin p e below s _ _ _ T156 (mkF m 125 #[.val (.long p1), .second, .val (.int p2), .val (.ref b120), .val (.int (3 : Int32)), .val (.int (0 : Int32)), .unset] [(.int ((3 : Int32) - (1 : Int32))), (.ref b120)])
      rw [(by decide : ((3 : Int32) - (1 : Int32)) = (2 : Int32))]
      show own_Fin p e below s _ _ _ T156 (mkF m 125 #[.val (.long p1), .second, .val (.int p2), .val (.ref b120), .val (.int (3 : Int32)), .val (.int (0 : Int32)), .unset] [(.int (2 : Int32)), (.ref b120)])
      obtain ⟨_, _, ⟨T158, L158, k158, n158⟩, -, X158, ⟨Lc158, hQ158, l158, y158, z158⟩, st158⟩ := Jvm.LawKit.callS X156 hx (y := (⟨"com/example/munka/munka/util/Utf8UnfinishedTailPinLaw", "u", "([BI)I"⟩ : MethodName)) hown (mvT hZ (hw _ (List.mem_of_getElem? (i := 2) rfl))) (mvT hZ (hw _ (List.mem_of_getElem? (i := 3) rfl))) (mvT hZ (hw _ (List.mem_of_getElem? (i := 4) rfl))) (mvT hZ (hw _ (List.mem_of_getElem? (i := 5) rfl))) (by decide) (backOf (W := 0) (rm1 l Z a0 hw [] b120 (2 : Int32) k120 (8 : Int32) [(.int v0), (.int v1), (.int v2), (.int v3), (.int v4), (.int v5), (.int v6), (.int v7)] v2 h136 n0 Zs136 Vg ⟨by decide, by decide⟩ rfl) hZ (hw _ (List.mem_of_getElem? (i := 5) rfl)) (hw _ (List.mem_of_getElem? (i := 4) rfl)) (by decide) (by decide)) (g := (mkF m 125 #[.val (.long p1), .second, .val (.int p2), .val (.ref b120), .val (.int (3 : Int32)), .val (.int (0 : Int32)), .unset] [(.int (2 : Int32)), (.ref b120)])) rfl (by rw [hml]; rfl) (argsL := [(.ref b120), (.int (2 : Int32))]) (rest := []) (lenOf own_pd97 rfl) rfl (by show 2 * 0 + _ ≤ _; exact Nat.le_of_eq rfl) (hb hby at_125) (fun _ _ => ⟨rfl, eh156, (by decide : 1 + 0 ≤ _), (by decide : 8 + 0 ≤ _)⟩)
      dsimp only [Pt.U, Pt.locs, Pt.cells, Pt.slots] at X158 l158 y158 z158 st158 hQ158
      subst l158 y158 z158
      obtain ⟨rfl, Nq158, eh158⟩ := hQ158
      have N158 := Fr.app N156 Nq158
      refine own_by (fun _ k => st158 _ k) ?_
      show own_Fin p e below s _ _ _ T158 (mkF m 128 #[.val (.long p1), .second, .val (.int p2), .val (.ref b120), .val (.int (3 : Int32)), .val (.int (0 : Int32)), .unset] [(.int (v2 &&& (255 : Int32)))])
      obtain ⟨_, _, ⟨T159, L159, k159, n159⟩, -, X159, ⟨Lc159, hQ159, l159, y159, z159⟩, st159⟩ := Jvm.LawKit.callS X158 hx (y := (⟨"com/example/munka/munka/util/Utf8UnfinishedTailPinLaw", "cont", "(I)Z"⟩ : MethodName)) hown (mvT hZ (hw _ (List.mem_of_getElem? (i := 6) rfl))) (mvT hZ (hw _ (List.mem_of_getElem? (i := 7) rfl))) (mvT hZ (hw _ (List.mem_of_getElem? (i := 4) rfl))) (mvT hZ (hw _ (List.mem_of_getElem? (i := 8) rfl))) (by decide) (backOf (W := 0) (rm2 l Z a0 hw [] (v2 &&& (255 : Int32)) h136 n0 Zs136 ) hZ (hw _ (List.mem_of_getElem? (i := 8) rfl)) (hw _ (List.mem_of_getElem? (i := 4) rfl)) (by decide) (by decide)) (g := (mkF m 128 #[.val (.long p1), .second, .val (.int p2), .val (.ref b120), .val (.int (3 : Int32)), .val (.int (0 : Int32)), .unset] [(.int (v2 &&& (255 : Int32)))])) rfl (by rw [hml]; rfl) (argsL := [(.int (v2 &&& (255 : Int32)))]) (rest := []) (lenOf own_pd98 rfl) rfl (by show 2 * 0 + _ ≤ _; exact Nat.le_of_eq rfl) (hb hby at_128) (fun _ _ => ⟨rfl, eh158, (by decide : 1 + 0 ≤ _), (by decide : 8 + 0 ≤ _)⟩)
      dsimp only [Pt.U, Pt.locs, Pt.cells, Pt.slots] at X159 l159 y159 z159 st159 hQ159
      subst l159 y159 z159
      obtain ⟨rfl, Nq159, eh159⟩ := hQ159
      have N159 := Fr.app N158 Nq159
      refine own_by (fun _ k => st159 _ k) ?_
      show own_Fin p e below s _ _ _ T159 (mkF m 131 #[.val (.long p1), .second, .val (.int p2), .val (.ref b120), .val (.int (3 : Int32)), .val (.int (0 : Int32)), .unset] [(.int (own_cont (v2 &&& (255 : Int32))))])
      by_cases hc131_160 : (own_cont (v2 &&& (255 : Int32))) = (0 : Int32)
      · show own_Fin p e below s _ _ _ T159 (mkF m 131 #[.val (.long p1), .second, .val (.int p2), .val (.ref b120), .val (.int (3 : Int32)), .val (.int (0 : Int32)), .unset] [(.int (own_cont (v2 &&& (255 : Int32))))])
        refine own_by (fun _ k => XS.ifYes X159.here hx rfl (pc0 := 131) (pc' := 154) rfl (hb hby at_131) rfl ((if0 _ _).trans (teq hc131_160).1) (by decide) (by decide) k) ?_
        show own_Fin p e below s _ _ _ T159 (mkF m 154 #[.val (.long p1), .second, .val (.int p2), .val (.ref b120), .val (.int (3 : Int32)), .val (.int (0 : Int32)), .unset] [])
        refine own_by (fun _ k => XS.iload X159.here hx rfl (hb hby at_154) rfl (XS.iconst X159.here hx rfl (hb hby at_156) k)) ?_
        show own_Fin p e below s _ _ _ T159 (mkF m 157 #[.val (.long p1), .second, .val (.int p2), .val (.ref b120), .val (.int (3 : Int32)), .val (.int (0 : Int32)), .unset] [(.int (3 : Int32)), (.int (3 : Int32))])
        refine own_by (fun _ k => XS.icmpNo X159.here hx rfl (hb hby at_157) rfl (flt (by decide : ¬ ((3 : Int32) < (3 : Int32)))).1 k) ?_
        show own_Fin p e below s _ _ _ T159 (mkF m 160 #[.val (.long p1), .second, .val (.int p2), .val (.ref b120), .val (.int (3 : Int32)), .val (.int (0 : Int32)), .unset] [])
        refine own_by (fun _ k => XS.aloadN X159.here hx rfl (hb hby at_160) rfl rfl (XS.iload X159.here hx rfl (hb hby at_161) rfl (XS.iconst X159.here hx rfl (hb hby at_163) (XS.isub X159.here hx rfl (hb hby at_164) rfl k)))) ?_
        show own_Fin p e below s _ _ _ T159 (mkF m 165 #[.val (.long p1), .second, .val (.int p2), .val (.ref b120), .val (.int (3 : Int32)), .val (.int (0 : Int32)), .unset] [(.int ((3 : Int32) - (1 : Int32))), (.ref b120)])
        rw [(by decide : ((3 : Int32) - (1 : Int32)) = (2 : Int32))]
        show own_Fin p e below s _ _ _ T159 (mkF m 165 #[.val (.long p1), .second, .val (.int p2), .val (.ref b120), .val (.int (3 : Int32)), .val (.int (0 : Int32)), .unset] [(.int (2 : Int32)), (.ref b120)])
        obtain ⟨_, _, ⟨T161, L161, k161, n161⟩, -, X161, ⟨Lc161, hQ161, l161, y161, z161⟩, st161⟩ := Jvm.LawKit.callS X159 hx (y := (⟨"com/example/munka/munka/util/Utf8UnfinishedTailPinLaw", "u", "([BI)I"⟩ : MethodName)) hown (mvT hZ (hw _ (List.mem_of_getElem? (i := 2) rfl))) (mvT hZ (hw _ (List.mem_of_getElem? (i := 3) rfl))) (mvT hZ (hw _ (List.mem_of_getElem? (i := 4) rfl))) (mvT hZ (hw _ (List.mem_of_getElem? (i := 5) rfl))) (by decide) (backOf (W := 0) (rm1 l Z a0 hw [] b120 (2 : Int32) k120 (8 : Int32) [(.int v0), (.int v1), (.int v2), (.int v3), (.int v4), (.int v5), (.int v6), (.int v7)] v2 h136 n0 Zs136 Vg ⟨by decide, by decide⟩ rfl) hZ (hw _ (List.mem_of_getElem? (i := 5) rfl)) (hw _ (List.mem_of_getElem? (i := 4) rfl)) (by decide) (by decide)) (g := (mkF m 165 #[.val (.long p1), .second, .val (.int p2), .val (.ref b120), .val (.int (3 : Int32)), .val (.int (0 : Int32)), .unset] [(.int (2 : Int32)), (.ref b120)])) rfl (by rw [hml]; rfl) (argsL := [(.ref b120), (.int (2 : Int32))]) (rest := []) (lenOf own_pd97 rfl) rfl (by show 2 * 0 + _ ≤ _; exact Nat.le_of_eq rfl) (hb hby at_165) (fun _ _ => ⟨rfl, eh159, (by decide : 1 + 0 ≤ _), (by decide : 8 + 0 ≤ _)⟩)
        dsimp only [Pt.U, Pt.locs, Pt.cells, Pt.slots] at X161 l161 y161 z161 st161 hQ161
        subst l161 y161 z161
        obtain ⟨rfl, Nq161, eh161⟩ := hQ161
        have N161 := Fr.app N159 Nq161
        refine own_by (fun _ k => st161 _ k) ?_
        show own_Fin p e below s _ _ _ T161 (mkF m 168 #[.val (.long p1), .second, .val (.int p2), .val (.ref b120), .val (.int (3 : Int32)), .val (.int (0 : Int32)), .unset] [(.int (v2 &&& (255 : Int32)))])
        obtain ⟨_, _, ⟨T162, L162, k162, n162⟩, -, X162, ⟨Lc162, hQ162, l162, y162, z162⟩, st162⟩ := Jvm.LawKit.callS X161 hx (y := (⟨"com/example/munka/munka/util/Utf8UnfinishedTailPinLaw", "cont", "(I)Z"⟩ : MethodName)) hown (mvT hZ (hw _ (List.mem_of_getElem? (i := 6) rfl))) (mvT hZ (hw _ (List.mem_of_getElem? (i := 7) rfl))) (mvT hZ (hw _ (List.mem_of_getElem? (i := 4) rfl))) (mvT hZ (hw _ (List.mem_of_getElem? (i := 8) rfl))) (by decide) (backOf (W := 0) (rm2 l Z a0 hw [] (v2 &&& (255 : Int32)) h136 n0 Zs136 ) hZ (hw _ (List.mem_of_getElem? (i := 8) rfl)) (hw _ (List.mem_of_getElem? (i := 4) rfl)) (by decide) (by decide)) (g := (mkF m 168 #[.val (.long p1), .second, .val (.int p2), .val (.ref b120), .val (.int (3 : Int32)), .val (.int (0 : Int32)), .unset] [(.int (v2 &&& (255 : Int32)))])) rfl (by rw [hml]; rfl) (argsL := [(.int (v2 &&& (255 : Int32)))]) (rest := []) (lenOf own_pd98 rfl) rfl (by show 2 * 0 + _ ≤ _; exact Nat.le_of_eq rfl) (hb hby at_168) (fun _ _ => ⟨rfl, eh161, (by decide : 1 + 0 ≤ _), (by decide : 8 + 0 ≤ _)⟩)
        dsimp only [Pt.U, Pt.locs, Pt.cells, Pt.slots] at X162 l162 y162 z162 st162 hQ162
        subst l162 y162 z162
        obtain ⟨rfl, Nq162, eh162⟩ := hQ162
        have N162 := Fr.app N161 Nq162
        refine own_by (fun _ k => st162 _ k) ?_
        show own_Fin p e below s _ _ _ T162 (mkF m 171 #[.val (.long p1), .second, .val (.int p2), .val (.ref b120), .val (.int (3 : Int32)), .val (.int (0 : Int32)), .unset] [(.int (own_cont (v2 &&& (255 : Int32))))])
        refine own_by (fun _ k => XS.ifYes X162.here hx rfl (pc0 := 171) (pc' := 205) rfl (hb hby at_171) rfl ((if0 _ _).trans (teq hc131_160).1) (by decide) (by decide) k) ?_
        show own_Fin p e below s _ _ _ T162 (mkF m 205 #[.val (.long p1), .second, .val (.int p2), .val (.ref b120), .val (.int (3 : Int32)), .val (.int (0 : Int32)), .unset] [])
        exact J205_154 T162 _ X162 eh162 N162 ((0 : Int32)) ((own_eq3 v2 v1 v0).trans (by simp [own_ex3, hc105_157, hc131_160]))
      · show own_Fin p e below s _ _ _ T159 (mkF m 131 #[.val (.long p1), .second, .val (.int p2), .val (.ref b120), .val (.int (3 : Int32)), .val (.int (0 : Int32)), .unset] [(.int (own_cont (v2 &&& (255 : Int32))))])
        refine own_by (fun _ k => XS.ifNo X159.here hx rfl (hb hby at_131) rfl ((if0 _ _).trans (feq hc131_160).1) k) ?_
        show own_Fin p e below s _ _ _ T159 (mkF m 134 #[.val (.long p1), .second, .val (.int p2), .val (.ref b120), .val (.int (3 : Int32)), .val (.int (0 : Int32)), .unset] [])
        refine own_by (fun _ k => XS.aloadN X159.here hx rfl (hb hby at_134) rfl rfl (XS.iload X159.here hx rfl (hb hby at_135) rfl (XS.iconst X159.here hx rfl (hb hby at_137) (XS.isub X159.here hx rfl (hb hby at_138) rfl k)))) ?_
        show own_Fin p e below s _ _ _ T159 (mkF m 139 #[.val (.long p1), .second, .val (.int p2), .val (.ref b120), .val (.int (3 : Int32)), .val (.int (0 : Int32)), .unset] [(.int ((3 : Int32) - (2 : Int32))), (.ref b120)])
        rw [(by decide : ((3 : Int32) - (2 : Int32)) = (1 : Int32))]
        show own_Fin p e below s _ _ _ T159 (mkF m 139 #[.val (.long p1), .second, .val (.int p2), .val (.ref b120), .val (.int (3 : Int32)), .val (.int (0 : Int32)), .unset] [(.int (1 : Int32)), (.ref b120)])
        obtain ⟨_, _, ⟨T163, L163, k163, n163⟩, -, X163, ⟨Lc163, hQ163, l163, y163, z163⟩, st163⟩ := Jvm.LawKit.callS X159 hx (y := (⟨"com/example/munka/munka/util/Utf8UnfinishedTailPinLaw", "u", "([BI)I"⟩ : MethodName)) hown (mvT hZ (hw _ (List.mem_of_getElem? (i := 2) rfl))) (mvT hZ (hw _ (List.mem_of_getElem? (i := 3) rfl))) (mvT hZ (hw _ (List.mem_of_getElem? (i := 4) rfl))) (mvT hZ (hw _ (List.mem_of_getElem? (i := 5) rfl))) (by decide) (backOf (W := 0) (rm1 l Z a0 hw [] b120 (1 : Int32) k120 (8 : Int32) [(.int v0), (.int v1), (.int v2), (.int v3), (.int v4), (.int v5), (.int v6), (.int v7)] v1 h136 n0 Zs136 Vg ⟨by decide, by decide⟩ rfl) hZ (hw _ (List.mem_of_getElem? (i := 5) rfl)) (hw _ (List.mem_of_getElem? (i := 4) rfl)) (by decide) (by decide)) (g := (mkF m 139 #[.val (.long p1), .second, .val (.int p2), .val (.ref b120), .val (.int (3 : Int32)), .val (.int (0 : Int32)), .unset] [(.int (1 : Int32)), (.ref b120)])) rfl (by rw [hml]; rfl) (argsL := [(.ref b120), (.int (1 : Int32))]) (rest := []) (lenOf own_pd97 rfl) rfl (by show 2 * 0 + _ ≤ _; exact Nat.le_of_eq rfl) (hb hby at_139) (fun _ _ => ⟨rfl, eh159, (by decide : 1 + 0 ≤ _), (by decide : 8 + 0 ≤ _)⟩)
        dsimp only [Pt.U, Pt.locs, Pt.cells, Pt.slots] at X163 l163 y163 z163 st163 hQ163
        subst l163 y163 z163
        obtain ⟨rfl, Nq163, eh163⟩ := hQ163
        have N163 := Fr.app N159 Nq163
        refine own_by (fun _ k => st163 _ k) ?_
        show own_Fin p e below s _ _ _ T163 (mkF m 142 #[.val (.long p1), .second, .val (.int p2), .val (.ref b120), .val (.int (3 : Int32)), .val (.int (0 : Int32)), .unset] [(.int (v1 &&& (255 : Int32)))])
        refine own_by (fun _ k => XS.sipush X163.here hx rfl (hb hby at_142) k) ?_
        show own_Fin p e below s _ _ _ T163 (mkF m 145 #[.val (.long p1), .second, .val (.int p2), .val (.ref b120), .val (.int (3 : Int32)), .val (.int (0 : Int32)), .unset] [(.int (224 : Int32)), (.int (v1 &&& (255 : Int32)))])
        by_cases hc145_164 : (v1 &&& (255 : Int32)) < (224 : Int32)
        · show own_Fin p e below s _ _ _ T163 (mkF m 145 #[.val (.long p1), .second, .val (.int p2), .val (.ref b120), .val (.int (3 : Int32)), .val (.int (0 : Int32)), .unset] [(.int (224 : Int32)), (.int (v1 &&& (255 : Int32)))])
          refine own_by (fun _ k => XS.icmpYes X163.here hx rfl (pc0 := 145) (pc' := 154) rfl (hb hby at_145) rfl (tlt hc145_164).1 (by decide) (by decide) k) ?_
          show own_Fin p e below s _ _ _ T163 (mkF m 154 #[.val (.long p1), .second, .val (.int p2), .val (.ref b120), .val (.int (3 : Int32)), .val (.int (0 : Int32)), .unset] [])
          refine own_by (fun _ k => XS.iload X163.here hx rfl (hb hby at_154) rfl (XS.iconst X163.here hx rfl (hb hby at_156) k)) ?_
          show own_Fin p e below s _ _ _ T163 (mkF m 157 #[.val (.long p1), .second, .val (.int p2), .val (.ref b120), .val (.int (3 : Int32)), .val (.int (0 : Int32)), .unset] [(.int (3 : Int32)), (.int (3 : Int32))])
          refine own_by (fun _ k => XS.icmpNo X163.here hx rfl (hb hby at_157) rfl (flt (by decide : ¬ ((3 : Int32) < (3 : Int32)))).1 k) ?_
          show own_Fin p e below s _ _ _ T163 (mkF m 160 #[.val (.long p1), .second, .val (.int p2), .val (.ref b120), .val (.int (3 : Int32)), .val (.int (0 : Int32)), .unset] [])
          refine own_by (fun _ k => XS.aloadN X163.here hx rfl (hb hby at_160) rfl rfl (XS.iload X163.here hx rfl (hb hby at_161) rfl (XS.iconst X163.here hx rfl (hb hby at_163) (XS.isub X163.here hx rfl (hb hby at_164) rfl k)))) ?_
          show own_Fin p e below s _ _ _ T163 (mkF m 165 #[.val (.long p1), .second, .val (.int p2), .val (.ref b120), .val (.int (3 : Int32)), .val (.int (0 : Int32)), .unset] [(.int ((3 : Int32) - (1 : Int32))), (.ref b120)])
          rw [(by decide : ((3 : Int32) - (1 : Int32)) = (2 : Int32))]
          show own_Fin p e below s _ _ _ T163 (mkF m 165 #[.val (.long p1), .second, .val (.int p2), .val (.ref b120), .val (.int (3 : Int32)), .val (.int (0 : Int32)), .unset] [(.int (2 : Int32)), (.ref b120)])
          obtain ⟨_, _, ⟨T165, L165, k165, n165⟩, -, X165, ⟨Lc165, hQ165, l165, y165, z165⟩, st165⟩ := Jvm.LawKit.callS X163 hx (y := (⟨"com/example/munka/munka/util/Utf8UnfinishedTailPinLaw", "u", "([BI)I"⟩ : MethodName)) hown (mvT hZ (hw _ (List.mem_of_getElem? (i := 2) rfl))) (mvT hZ (hw _ (List.mem_of_getElem? (i := 3) rfl))) (mvT hZ (hw _ (List.mem_of_getElem? (i := 4) rfl))) (mvT hZ (hw _ (List.mem_of_getElem? (i := 5) rfl))) (by decide) (backOf (W := 0) (rm1 l Z a0 hw [] b120 (2 : Int32) k120 (8 : Int32) [(.int v0), (.int v1), (.int v2), (.int v3), (.int v4), (.int v5), (.int v6), (.int v7)] v2 h136 n0 Zs136 Vg ⟨by decide, by decide⟩ rfl) hZ (hw _ (List.mem_of_getElem? (i := 5) rfl)) (hw _ (List.mem_of_getElem? (i := 4) rfl)) (by decide) (by decide)) (g := (mkF m 165 #[.val (.long p1), .second, .val (.int p2), .val (.ref b120), .val (.int (3 : Int32)), .val (.int (0 : Int32)), .unset] [(.int (2 : Int32)), (.ref b120)])) rfl (by rw [hml]; rfl) (argsL := [(.ref b120), (.int (2 : Int32))]) (rest := []) (lenOf own_pd97 rfl) rfl (by show 2 * 0 + _ ≤ _; exact Nat.le_of_eq rfl) (hb hby at_165) (fun _ _ => ⟨rfl, eh163, (by decide : 1 + 0 ≤ _), (by decide : 8 + 0 ≤ _)⟩)
          dsimp only [Pt.U, Pt.locs, Pt.cells, Pt.slots] at X165 l165 y165 z165 st165 hQ165
          subst l165 y165 z165
          obtain ⟨rfl, Nq165, eh165⟩ := hQ165
          have N165 := Fr.app N163 Nq165
          refine own_by (fun _ k => st165 _ k) ?_
          show own_Fin p e below s _ _ _ T165 (mkF m 168 #[.val (.long p1), .second, .val (.int p2), .val (.ref b120), .val (.int (3 : Int32)), .val (.int (0 : Int32)), .unset] [(.int (v2 &&& (255 : Int32)))])
          obtain ⟨_, _, ⟨T166, L166, k166, n166⟩, -, X166, ⟨Lc166, hQ166, l166, y166, z166⟩, st166⟩ := Jvm.LawKit.callS X165 hx (y := (⟨"com/example/munka/munka/util/Utf8UnfinishedTailPinLaw", "cont", "(I)Z"⟩ : MethodName)) hown (mvT hZ (hw _ (List.mem_of_getElem? (i := 6) rfl))) (mvT hZ (hw _ (List.mem_of_getElem? (i := 7) rfl))) (mvT hZ (hw _ (List.mem_of_getElem? (i := 4) rfl))) (mvT hZ (hw _ (List.mem_of_getElem? (i := 8) rfl))) (by decide) (backOf (W := 0) (rm2 l Z a0 hw [] (v2 &&& (255 : Int32)) h136 n0 Zs136 ) hZ (hw _ (List.mem_of_getElem? (i := 8) rfl)) (hw _ (List.mem_of_getElem? (i := 4) rfl)) (by decide) (by decide)) (g := (mkF m 168 #[.val (.long p1), .second, .val (.int p2), .val (.ref b120), .val (.int (3 : Int32)), .val (.int (0 : Int32)), .unset] [(.int (v2 &&& (255 : Int32)))])) rfl (by rw [hml]; rfl) (argsL := [(.int (v2 &&& (255 : Int32)))]) (rest := []) (lenOf own_pd98 rfl) rfl (by show 2 * 0 + _ ≤ _; exact Nat.le_of_eq rfl) (hb hby at_168) (fun _ _ => ⟨rfl, eh165, (by decide : 1 + 0 ≤ _), (by decide : 8 + 0 ≤ _)⟩)
          dsimp only [Pt.U, Pt.locs, Pt.cells, Pt.slots] at X166 l166 y166 z166 st166 hQ166
          subst l166 y166 z166
          obtain ⟨rfl, Nq166, eh166⟩ := hQ166
          have N166 := Fr.app N165 Nq166
          refine own_by (fun _ k => st166 _ k) ?_
          show own_Fin p e below s _ _ _ T166 (mkF m 171 #[.val (.long p1), .second, .val (.int p2), .val (.ref b120), .val (.int (3 : Int32)), .val (.int (0 : Int32)), .unset] [(.int (own_cont (v2 &&& (255 : Int32))))])
          refine own_by (fun _ k => XS.ifNo X166.here hx rfl (hb hby at_171) rfl ((if0 _ _).trans (feq hc131_160).1) k) ?_
          show own_Fin p e below s _ _ _ T166 (mkF m 174 #[.val (.long p1), .second, .val (.int p2), .val (.ref b120), .val (.int (3 : Int32)), .val (.int (0 : Int32)), .unset] [])
          refine own_by (fun _ k => XS.aloadN X166.here hx rfl (hb hby at_174) rfl rfl (XS.iload X166.here hx rfl (hb hby at_175) rfl (XS.iconst X166.here hx rfl (hb hby at_177) (XS.isub X166.here hx rfl (hb hby at_178) rfl k)))) ?_
          show own_Fin p e below s _ _ _ T166 (mkF m 179 #[.val (.long p1), .second, .val (.int p2), .val (.ref b120), .val (.int (3 : Int32)), .val (.int (0 : Int32)), .unset] [(.int ((3 : Int32) - (2 : Int32))), (.ref b120)])
          rw [(by decide : ((3 : Int32) - (2 : Int32)) = (1 : Int32))]
          show own_Fin p e below s _ _ _ T166 (mkF m 179 #[.val (.long p1), .second, .val (.int p2), .val (.ref b120), .val (.int (3 : Int32)), .val (.int (0 : Int32)), .unset] [(.int (1 : Int32)), (.ref b120)])
          obtain ⟨_, _, ⟨T167, L167, k167, n167⟩, -, X167, ⟨Lc167, hQ167, l167, y167, z167⟩, st167⟩ := Jvm.LawKit.callS X166 hx (y := (⟨"com/example/munka/munka/util/Utf8UnfinishedTailPinLaw", "u", "([BI)I"⟩ : MethodName)) hown (mvT hZ (hw _ (List.mem_of_getElem? (i := 2) rfl))) (mvT hZ (hw _ (List.mem_of_getElem? (i := 3) rfl))) (mvT hZ (hw _ (List.mem_of_getElem? (i := 4) rfl))) (mvT hZ (hw _ (List.mem_of_getElem? (i := 5) rfl))) (by decide) (backOf (W := 0) (rm1 l Z a0 hw [] b120 (1 : Int32) k120 (8 : Int32) [(.int v0), (.int v1), (.int v2), (.int v3), (.int v4), (.int v5), (.int v6), (.int v7)] v1 h136 n0 Zs136 Vg ⟨by decide, by decide⟩ rfl) hZ (hw _ (List.mem_of_getElem? (i := 5) rfl)) (hw _ (List.mem_of_getElem? (i := 4) rfl)) (by decide) (by decide)) (g := (mkF m 179 #[.val (.long p1), .second, .val (.int p2), .val (.ref b120), .val (.int (3 : Int32)), .val (.int (0 : Int32)), .unset] [(.int (1 : Int32)), (.ref b120)])) rfl (by rw [hml]; rfl) (argsL := [(.ref b120), (.int (1 : Int32))]) (rest := []) (lenOf own_pd97 rfl) rfl (by show 2 * 0 + _ ≤ _; exact Nat.le_of_eq rfl) (hb hby at_179) (fun _ _ => ⟨rfl, eh166, (by decide : 1 + 0 ≤ _), (by decide : 8 + 0 ≤ _)⟩)
          dsimp only [Pt.U, Pt.locs, Pt.cells, Pt.slots] at X167 l167 y167 z167 st167 hQ167
          subst l167 y167 z167
          obtain ⟨rfl, Nq167, eh167⟩ := hQ167
          have N167 := Fr.app N166 Nq167
          refine own_by (fun _ k => st167 _ k) ?_
          show own_Fin p e below s _ _ _ T167 (mkF m 182 #[.val (.long p1), .second, .val (.int p2), .val (.ref b120), .val (.int (3 : Int32)), .val (.int (0 : Int32)), .unset] [(.int (v1 &&& (255 : Int32)))])
          obtain ⟨_, _, ⟨T168, L168, k168, n168⟩, -, X168, ⟨Lc168, hQ168, l168, y168, z168⟩, st168⟩ := Jvm.LawKit.callS X167 hx (y := (⟨"com/example/munka/munka/util/Utf8UnfinishedTailPinLaw", "cont", "(I)Z"⟩ : MethodName)) hown (mvT hZ (hw _ (List.mem_of_getElem? (i := 6) rfl))) (mvT hZ (hw _ (List.mem_of_getElem? (i := 7) rfl))) (mvT hZ (hw _ (List.mem_of_getElem? (i := 4) rfl))) (mvT hZ (hw _ (List.mem_of_getElem? (i := 8) rfl))) (by decide) (backOf (W := 0) (rm2 l Z a0 hw [] (v1 &&& (255 : Int32)) h136 n0 Zs136 ) hZ (hw _ (List.mem_of_getElem? (i := 8) rfl)) (hw _ (List.mem_of_getElem? (i := 4) rfl)) (by decide) (by decide)) (g := (mkF m 182 #[.val (.long p1), .second, .val (.int p2), .val (.ref b120), .val (.int (3 : Int32)), .val (.int (0 : Int32)), .unset] [(.int (v1 &&& (255 : Int32)))])) rfl (by rw [hml]; rfl) (argsL := [(.int (v1 &&& (255 : Int32)))]) (rest := []) (lenOf own_pd98 rfl) rfl (by show 2 * 0 + _ ≤ _; exact Nat.le_of_eq rfl) (hb hby at_182) (fun _ _ => ⟨rfl, eh167, (by decide : 1 + 0 ≤ _), (by decide : 8 + 0 ≤ _)⟩)
          dsimp only [Pt.U, Pt.locs, Pt.cells, Pt.slots] at X168 l168 y168 z168 st168 hQ168
          subst l168 y168 z168
          obtain ⟨rfl, Nq168, eh168⟩ := hQ168
          have N168 := Fr.app N167 Nq168
          refine own_by (fun _ k => st168 _ k) ?_
          show own_Fin p e below s _ _ _ T168 (mkF m 185 #[.val (.long p1), .second, .val (.int p2), .val (.ref b120), .val (.int (3 : Int32)), .val (.int (0 : Int32)), .unset] [(.int (own_cont (v1 &&& (255 : Int32))))])
          by_cases hc185_169 : (own_cont (v1 &&& (255 : Int32))) = (0 : Int32)
          · show own_Fin p e below s _ _ _ T168 (mkF m 185 #[.val (.long p1), .second, .val (.int p2), .val (.ref b120), .val (.int (3 : Int32)), .val (.int (0 : Int32)), .unset] [(.int (own_cont (v1 &&& (255 : Int32))))])
            refine own_by (fun _ k => XS.ifYes X168.here hx rfl (pc0 := 185) (pc' := 205) rfl (hb hby at_185) rfl ((if0 _ _).trans (teq hc185_169).1) (by decide) (by decide) k) ?_
            show own_Fin p e below s _ _ _ T168 (mkF m 205 #[.val (.long p1), .second, .val (.int p2), .val (.ref b120), .val (.int (3 : Int32)), .val (.int (0 : Int32)), .unset] [])
            exact J205_154 T168 _ X168 eh168 N168 ((0 : Int32)) ((own_eq3 v2 v1 v0).trans (by simp [own_ex3, hc105_157, hc131_160, hc145_164, hc185_169]))
          · show own_Fin p e below s _ _ _ T168 (mkF m 185 #[.val (.long p1), .second, .val (.int p2), .val (.ref b120), .val (.int (3 : Int32)), .val (.int (0 : Int32)), .unset] [(.int (own_cont (v1 &&& (255 : Int32))))])
            refine own_by (fun _ k => XS.ifNo X168.here hx rfl (hb hby at_185) rfl ((if0 _ _).trans (feq hc185_169).1) k) ?_
            show own_Fin p e below s _ _ _ T168 (mkF m 188 #[.val (.long p1), .second, .val (.int p2), .val (.ref b120), .val (.int (3 : Int32)), .val (.int (0 : Int32)), .unset] [])
            refine own_by (fun _ k => XS.aloadN X168.here hx rfl (hb hby at_188) rfl rfl (XS.iload X168.here hx rfl (hb hby at_189) rfl (XS.iconst X168.here hx rfl (hb hby at_191) (XS.isub X168.here hx rfl (hb hby at_192) rfl k)))) ?_
            show own_Fin p e below s _ _ _ T168 (mkF m 193 #[.val (.long p1), .second, .val (.int p2), .val (.ref b120), .val (.int (3 : Int32)), .val (.int (0 : Int32)), .unset] [(.int ((3 : Int32) - (3 : Int32))), (.ref b120)])
            rw [(by decide : ((3 : Int32) - (3 : Int32)) = (0 : Int32))]
            show own_Fin p e below s _ _ _ T168 (mkF m 193 #[.val (.long p1), .second, .val (.int p2), .val (.ref b120), .val (.int (3 : Int32)), .val (.int (0 : Int32)), .unset] [(.int (0 : Int32)), (.ref b120)])
            obtain ⟨_, _, ⟨T170, L170, k170, n170⟩, -, X170, ⟨Lc170, hQ170, l170, y170, z170⟩, st170⟩ := Jvm.LawKit.callS X168 hx (y := (⟨"com/example/munka/munka/util/Utf8UnfinishedTailPinLaw", "u", "([BI)I"⟩ : MethodName)) hown (mvT hZ (hw _ (List.mem_of_getElem? (i := 2) rfl))) (mvT hZ (hw _ (List.mem_of_getElem? (i := 3) rfl))) (mvT hZ (hw _ (List.mem_of_getElem? (i := 4) rfl))) (mvT hZ (hw _ (List.mem_of_getElem? (i := 5) rfl))) (by decide) (backOf (W := 0) (rm1 l Z a0 hw [] b120 (0 : Int32) k120 (8 : Int32) [(.int v0), (.int v1), (.int v2), (.int v3), (.int v4), (.int v5), (.int v6), (.int v7)] v0 h136 n0 Zs136 Vg ⟨by decide, by decide⟩ rfl) hZ (hw _ (List.mem_of_getElem? (i := 5) rfl)) (hw _ (List.mem_of_getElem? (i := 4) rfl)) (by decide) (by decide)) (g := (mkF m 193 #[.val (.long p1), .second, .val (.int p2), .val (.ref b120), .val (.int (3 : Int32)), .val (.int (0 : Int32)), .unset] [(.int (0 : Int32)), (.ref b120)])) rfl (by rw [hml]; rfl) (argsL := [(.ref b120), (.int (0 : Int32))]) (rest := []) (lenOf own_pd97 rfl) rfl (by show 2 * 0 + _ ≤ _; exact Nat.le_of_eq rfl) (hb hby at_193) (fun _ _ => ⟨rfl, eh168, (by decide : 1 + 0 ≤ _), (by decide : 8 + 0 ≤ _)⟩)
            dsimp only [Pt.U, Pt.locs, Pt.cells, Pt.slots] at X170 l170 y170 z170 st170 hQ170
            subst l170 y170 z170
            obtain ⟨rfl, Nq170, eh170⟩ := hQ170
            have N170 := Fr.app N168 Nq170
            refine own_by (fun _ k => st170 _ k) ?_
            show own_Fin p e below s _ _ _ T170 (mkF m 196 #[.val (.long p1), .second, .val (.int p2), .val (.ref b120), .val (.int (3 : Int32)), .val (.int (0 : Int32)), .unset] [(.int (v0 &&& (255 : Int32)))])
            refine own_by (fun _ k => XS.sipush X170.here hx rfl (hb hby at_196) k) ?_
            show own_Fin p e below s _ _ _ T170 (mkF m 199 #[.val (.long p1), .second, .val (.int p2), .val (.ref b120), .val (.int (3 : Int32)), .val (.int (0 : Int32)), .unset] [(.int (240 : Int32)), (.int (v0 &&& (255 : Int32)))])
            by_cases hc199_171 : (v0 &&& (255 : Int32)) < (240 : Int32)
            · show own_Fin p e below s _ _ _ T170 (mkF m 199 #[.val (.long p1), .second, .val (.int p2), .val (.ref b120), .val (.int (3 : Int32)), .val (.int (0 : Int32)), .unset] [(.int (240 : Int32)), (.int (v0 &&& (255 : Int32)))])
              refine own_by (fun _ k => XS.icmpYes X170.here hx rfl (pc0 := 199) (pc' := 205) rfl (hb hby at_199) rfl (tlt hc199_171).1 (by decide) (by decide) k) ?_
              show own_Fin p e below s _ _ _ T170 (mkF m 205 #[.val (.long p1), .second, .val (.int p2), .val (.ref b120), .val (.int (3 : Int32)), .val (.int (0 : Int32)), .unset] [])
              exact J205_154 T170 _ X170 eh170 N170 ((0 : Int32)) ((own_eq3 v2 v1 v0).trans (by simp [own_ex3, hc105_157, hc131_160, hc145_164, hc185_169, hc199_171]))
            · show own_Fin p e below s _ _ _ T170 (mkF m 199 #[.val (.long p1), .second, .val (.int p2), .val (.ref b120), .val (.int (3 : Int32)), .val (.int (0 : Int32)), .unset] [(.int (240 : Int32)), (.int (v0 &&& (255 : Int32)))])
              refine own_by (fun _ k => XS.icmpNo X170.here hx rfl (hb hby at_199) rfl (flt hc199_171).1 k) ?_
              show own_Fin p e below s _ _ _ T170 (mkF m 202 #[.val (.long p1), .second, .val (.int p2), .val (.ref b120), .val (.int (3 : Int32)), .val (.int (0 : Int32)), .unset] [])
              refine own_by (fun _ k => XS.iconst X170.here hx rfl (hb hby at_202) (XS.istore X170.here hx rfl (hb hby at_203) rfl (l' := #[.val (.long p1), .second, .val (.int p2), .val (.ref b120), .val (.int (3 : Int32)), .val (.int (3 : Int32)), .unset]) rfl k)) ?_
              show own_Fin p e below s _ _ _ T170 (mkF m 205 #[.val (.long p1), .second, .val (.int p2), .val (.ref b120), .val (.int (3 : Int32)), .val (.int (3 : Int32)), .unset] [])
              exact J205_154 T170 _ X170 eh170 N170 ((3 : Int32)) ((own_eq3 v2 v1 v0).trans (by simp [own_ex3, hc105_157, hc131_160, hc145_164, hc185_169, hc199_171]))
        · show own_Fin p e below s _ _ _ T163 (mkF m 145 #[.val (.long p1), .second, .val (.int p2), .val (.ref b120), .val (.int (3 : Int32)), .val (.int (0 : Int32)), .unset] [(.int (224 : Int32)), (.int (v1 &&& (255 : Int32)))])
          refine own_by (fun _ k => XS.icmpNo X163.here hx rfl (hb hby at_145) rfl (flt hc145_164).1 k) ?_
          show own_Fin p e below s _ _ _ T163 (mkF m 148 #[.val (.long p1), .second, .val (.int p2), .val (.ref b120), .val (.int (3 : Int32)), .val (.int (0 : Int32)), .unset] [])
          refine own_by (fun _ k => XS.iconst X163.here hx rfl (hb hby at_148) (XS.istore X163.here hx rfl (hb hby at_149) rfl (l' := #[.val (.long p1), .second, .val (.int p2), .val (.ref b120), .val (.int (3 : Int32)), .val (.int (2 : Int32)), .unset]) rfl (XS.goto X163.here hx rfl (pc0 := 151) (pc' := 205) rfl (hb hby at_151) (by decide) (by decide) k))) ?_
          show own_Fin p e below s _ _ _ T163 (mkF m 205 #[.val (.long p1), .second, .val (.int p2), .val (.ref b120), .val (.int (3 : Int32)), .val (.int (2 : Int32)), .unset] [])
          exact J205_154 T163 _ X163 eh163 N163 ((2 : Int32)) ((own_eq3 v2 v1 v0).trans (by simp [own_ex3, hc105_157, hc131_160, hc145_164]))
    · show own_Fin p e below s _ _ _ T156 (mkF m 105 #[.val (.long p1), .second, .val (.int p2), .val (.ref b120), .val (.int (3 : Int32)), .val (.int (0 : Int32)), .unset] [(.int (192 : Int32)), (.int (v2 &&& (255 : Int32)))])
      refine own_by (fun _ k => XS.icmpNo X156.here hx rfl (hb hby at_105) rfl (flt hc105_157).1 k) ?_
      show own_Fin p e below s _ _ _ T156 (mkF m 108 #[.val (.long p1), .second, .val (.int p2), .val (.ref b120), .val (.int (3 : Int32)), .val (.int (0 : Int32)), .unset] [])
      refine own_by (fun _ k => XS.iconst X156.here hx rfl (hb hby at_108) (XS.istore X156.here hx rfl (hb hby at_109) rfl (l' := #[.val (.long p1), .second, .val (.int p2), .val (.ref b120), .val (.int (3 : Int32)), .val (.int (1 : Int32)), .unset]) rfl (XS.goto X156.here hx rfl (pc0 := 111) (pc' := 205) rfl (hb hby at_111) (by decide) (by decide) k))) ?_
      show own_Fin p e below s _ _ _ T156 (mkF m 205 #[.val (.long p1), .second, .val (.int p2), .val (.ref b120), .val (.int (3 : Int32)), .val (.int (1 : Int32)), .unset] [])
      exact J205_154 T156 _ X156 eh156 N156 ((1 : Int32)) ((own_eq3 v2 v1 v0).trans (by simp [own_ex3, hc105_157]))
  · show own_Fin p e below s _ _ _ T136 (mkF m 83 #[.val (.long p1), .second, .val (.int p2), .val (.ref b120), .unset, .unset, .unset] [(.int ((p2 &&& (2147483647 : Int32)) % (9 : Int32)))])
    rw [hn]
    show own_Fin p e below s _ _ _ T136 (mkF m 83 #[.val (.long p1), .second, .val (.int p2), .val (.ref b120), .unset, .unset, .unset] [(.int (4 : Int32))])
    refine own_by (fun _ k => XS.istore X136.here hx rfl (hb hby at_83) rfl (l' := #[.val (.long p1), .second, .val (.int p2), .val (.ref b120), .val (.int (4 : Int32)), .unset, .unset]) rfl (XS.iconst X136.here hx rfl (hb hby at_85) (XS.istore X136.here hx rfl (hb hby at_86) rfl (l' := #[.val (.long p1), .second, .val (.int p2), .val (.ref b120), .val (.int (4 : Int32)), .val (.int (0 : Int32)), .unset]) rfl k))) ?_
    show own_Fin p e below s _ _ _ T136 (mkF m 88 #[.val (.long p1), .second, .val (.int p2), .val (.ref b120), .val (.int (4 : Int32)), .val (.int (0 : Int32)), .unset] [])
    have J205_172 : ∀ (Tj172 : State) (lj172 : List Loc) (Xj172 : Stand p l e room_1 s m #[(.long p1), (.int p2)] below meth c Tj172 lj172 1 8) (ej172 : Tj172.heap = h136) (Nj172 : Fr n0 lj172) (ex : Int32) (hx205 : (own_tl4 v3 v2 v1 v0) = ex), own_Fin p e below s room_1.cells room_1.slots (own_Q0 n0) Tj172 (mkF m 205 #[.val (.long p1), .second, .val (.int p2), .val (.ref b120), .val (.int (4 : Int32)), .val (.int ex), .unset] []) := by
      intro Tj172 lj172 Xj172 ej172 Nj172 ex hx205
      show own_Fin p e below s _ _ _ Tj172 (mkF m 205 #[.val (.long p1), .second, .val (.int p2), .val (.ref b120), .val (.int (4 : Int32)), .val (.int ex), .unset] [])
      refine own_by (fun _ k => XS.aloadN Xj172.here hx rfl (hb hby at_205) rfl rfl (XS.iload Xj172.here hx rfl (hb hby at_206) rfl k)) ?_
      show own_Fin p e below s _ _ _ Tj172 (mkF m 208 #[.val (.long p1), .second, .val (.int p2), .val (.ref b120), .val (.int (4 : Int32)), .val (.int ex), .unset] [(.int (4 : Int32)), (.ref b120)])
      obtain ⟨_, _, ⟨T173, L173, k173, n173⟩, -, X173, ⟨Lc173, hQ173, l173, y173, z173⟩, st173⟩ := Jvm.LawKit.callS Xj172 hx (y := (⟨"com/example/munka/munka/util/Utf8", "unfinishedTail", "([BI)I"⟩ : MethodName)) hown (mvT hZ (hw _ (List.mem_of_getElem? (i := 9) rfl))) (mvT hZ (hw _ (List.mem_of_getElem? (i := 10) rfl))) (mvT hZ (hw _ (List.mem_of_getElem? (i := 11) rfl))) (mvT hZ (hw _ (List.mem_of_getElem? (i := 12) rfl))) (by decide) (backOf (W := 0) (rmT4 l Z a0 hw [] b120 k120 v0 v1 v2 v3 v4 v5 v6 v7 h136 n0 Zs136 Vg) hZ (hw _ (List.mem_of_getElem? (i := 12) rfl)) (hw _ (List.mem_of_getElem? (i := 11) rfl)) (by decide) (by decide)) (g := (mkF m 208 #[.val (.long p1), .second, .val (.int p2), .val (.ref b120), .val (.int (4 : Int32)), .val (.int ex), .unset] [(.int (4 : Int32)), (.ref b120)])) rfl (by rw [hml]; rfl) (argsL := [(.ref b120), (.int (4 : Int32))]) (rest := []) (lenOf own_pd97 rfl) rfl (by show 2 * 0 + _ ≤ _; exact Nat.le_of_eq rfl) (hb hby at_208) (fun _ _ => ⟨rfl, ej172, (by decide : 1 + 0 ≤ _), (by decide : 8 + 0 ≤ _)⟩)
      dsimp only [Pt.U, Pt.locs, Pt.cells, Pt.slots] at X173 l173 y173 z173 st173 hQ173
      subst l173 y173 z173
      obtain ⟨rfl, Nq173, eh173⟩ := hQ173
      have N173 := Fr.app Nj172 Nq173
      refine own_by (fun _ k => st173 _ k) ?_
      show own_Fin p e below s _ _ _ T173 (mkF m 211 #[.val (.long p1), .second, .val (.int p2), .val (.ref b120), .val (.int (4 : Int32)), .val (.int ex), .unset] [(.int (own_tl4 v3 v2 v1 v0))])
      refine own_by (fun _ k => XS.istore X173.here hx rfl (hb hby at_211) rfl (l' := #[.val (.long p1), .second, .val (.int p2), .val (.ref b120), .val (.int (4 : Int32)), .val (.int ex), .val (.int (own_tl4 v3 v2 v1 v0))]) rfl (XS.iload X173.here hx rfl (hb hby at_213) rfl (XS.iload X173.here hx rfl (hb hby at_215) rfl k))) ?_
      show own_Fin p e below s _ _ _ T173 (mkF m 217 #[.val (.long p1), .second, .val (.int p2), .val (.ref b120), .val (.int (4 : Int32)), .val (.int ex), .val (.int (own_tl4 v3 v2 v1 v0))] [(.int ex), (.int (own_tl4 v3 v2 v1 v0))])
      refine own_by (fun _ k => XS.icmpNo X173.here hx rfl (hb hby at_217) rfl (teq hx205).2 k) ?_
      show own_Fin p e below s _ _ _ T173 (mkF m 220 #[.val (.long p1), .second, .val (.int p2), .val (.ref b120), .val (.int (4 : Int32)), .val (.int ex), .val (.int (own_tl4 v3 v2 v1 v0))] [])
      refine own_by (fun _ k => XS.iconst X173.here hx rfl (hb hby at_220) (XS.goto X173.here hx rfl (pc0 := 221) (pc' := 225) rfl (hb hby at_221) (by decide) (by decide) k)) ?_
      show own_Fin p e below s _ _ _ T173 (mkF m 225 #[.val (.long p1), .second, .val (.int p2), .val (.ref b120), .val (.int (4 : Int32)), .val (.int ex), .val (.int (own_tl4 v3 v2 v1 v0))] [(.int (1 : Int32))])
      exact own_retZ X173 hx hlk (t := .boolean) Bd.returns (by simp) (hb hby at_225) ⟨rfl, N173⟩ (by decide) (by decide)
    show own_Fin p e below s _ _ _ T136 (mkF m 88 #[.val (.long p1), .second, .val (.int p2), .val (.ref b120), .val (.int (4 : Int32)), .val (.int (0 : Int32)), .unset] [])
    refine own_by (fun _ k => XS.iload X136.here hx rfl (hb hby at_88) rfl (XS.iconst X136.here hx rfl (hb hby at_90) k)) ?_
    show own_Fin p e below s _ _ _ T136 (mkF m 91 #[.val (.long p1), .second, .val (.int p2), .val (.ref b120), .val (.int (4 : Int32)), .val (.int (0 : Int32)), .unset] [(.int (1 : Int32)), (.int (4 : Int32))])
    refine own_by (fun _ k => XS.icmpNo X136.here hx rfl (hb hby at_91) rfl (flt (by decide : ¬ ((4 : Int32) < (1 : Int32)))).1 k) ?_
    show own_Fin p e below s _ _ _ T136 (mkF m 94 #[.val (.long p1), .second, .val (.int p2), .val (.ref b120), .val (.int (4 : Int32)), .val (.int (0 : Int32)), .unset] [])
    refine own_by (fun _ k => XS.aloadN X136.here hx rfl (hb hby at_94) rfl rfl (XS.iload X136.here hx rfl (hb hby at_95) rfl (XS.iconst X136.here hx rfl (hb hby at_97) (XS.isub X136.here hx rfl (hb hby at_98) rfl k)))) ?_
    show own_Fin p e below s _ _ _ T136 (mkF m 99 #[.val (.long p1), .second, .val (.int p2), .val (.ref b120), .val (.int (4 : Int32)), .val (.int (0 : Int32)), .unset] [(.int ((4 : Int32) - (1 : Int32))), (.ref b120)])
    rw [(by decide : ((4 : Int32) - (1 : Int32)) = (3 : Int32))]
    show own_Fin p e below s _ _ _ T136 (mkF m 99 #[.val (.long p1), .second, .val (.int p2), .val (.ref b120), .val (.int (4 : Int32)), .val (.int (0 : Int32)), .unset] [(.int (3 : Int32)), (.ref b120)])
    obtain ⟨_, _, ⟨T174, L174, k174, n174⟩, -, X174, ⟨Lc174, hQ174, l174, y174, z174⟩, st174⟩ := Jvm.LawKit.callS X136 hx (y := (⟨"com/example/munka/munka/util/Utf8UnfinishedTailPinLaw", "u", "([BI)I"⟩ : MethodName)) hown (mvT hZ (hw _ (List.mem_of_getElem? (i := 2) rfl))) (mvT hZ (hw _ (List.mem_of_getElem? (i := 3) rfl))) (mvT hZ (hw _ (List.mem_of_getElem? (i := 4) rfl))) (mvT hZ (hw _ (List.mem_of_getElem? (i := 5) rfl))) (by decide) (backOf (W := 0) (rm1 l Z a0 hw [] b120 (3 : Int32) k120 (8 : Int32) [(.int v0), (.int v1), (.int v2), (.int v3), (.int v4), (.int v5), (.int v6), (.int v7)] v3 h136 n0 Zs136 Vg ⟨by decide, by decide⟩ rfl) hZ (hw _ (List.mem_of_getElem? (i := 5) rfl)) (hw _ (List.mem_of_getElem? (i := 4) rfl)) (by decide) (by decide)) (g := (mkF m 99 #[.val (.long p1), .second, .val (.int p2), .val (.ref b120), .val (.int (4 : Int32)), .val (.int (0 : Int32)), .unset] [(.int (3 : Int32)), (.ref b120)])) rfl (by rw [hml]; rfl) (argsL := [(.ref b120), (.int (3 : Int32))]) (rest := []) (lenOf own_pd97 rfl) rfl (by show 2 * 0 + _ ≤ _; exact Nat.le_of_eq rfl) (hb hby at_99) (fun _ _ => ⟨rfl, e136, (by decide : 1 + 0 ≤ _), (by decide : 8 + 0 ≤ _)⟩)
    dsimp only [Pt.U, Pt.locs, Pt.cells, Pt.slots] at X174 l174 y174 z174 st174 hQ174
    subst l174 y174 z174
    obtain ⟨rfl, Nq174, eh174⟩ := hQ174
    have N174 := Fr.app N136 Nq174
    refine own_by (fun _ k => st174 _ k) ?_
    show own_Fin p e below s _ _ _ T174 (mkF m 102 #[.val (.long p1), .second, .val (.int p2), .val (.ref b120), .val (.int (4 : Int32)), .val (.int (0 : Int32)), .unset] [(.int (v3 &&& (255 : Int32)))])
    refine own_by (fun _ k => XS.sipush X174.here hx rfl (hb hby at_102) k) ?_
    show own_Fin p e below s _ _ _ T174 (mkF m 105 #[.val (.long p1), .second, .val (.int p2), .val (.ref b120), .val (.int (4 : Int32)), .val (.int (0 : Int32)), .unset] [(.int (192 : Int32)), (.int (v3 &&& (255 : Int32)))])
    by_cases hc105_175 : (v3 &&& (255 : Int32)) < (192 : Int32)
    · show own_Fin p e below s _ _ _ T174 (mkF m 105 #[.val (.long p1), .second, .val (.int p2), .val (.ref b120), .val (.int (4 : Int32)), .val (.int (0 : Int32)), .unset] [(.int (192 : Int32)), (.int (v3 &&& (255 : Int32)))])
      refine own_by (fun _ k => XS.icmpYes X174.here hx rfl (pc0 := 105) (pc' := 114) rfl (hb hby at_105) rfl (tlt hc105_175).1 (by decide) (by decide) k) ?_
      show own_Fin p e below s _ _ _ T174 (mkF m 114 #[.val (.long p1), .second, .val (.int p2), .val (.ref b120), .val (.int (4 : Int32)), .val (.int (0 : Int32)), .unset] [])
      refine own_by (fun _ k => XS.iload X174.here hx rfl (hb hby at_114) rfl (XS.iconst X174.here hx rfl (hb hby at_116) k)) ?_
      show own_Fin p e below s _ _ _ T174 (mkF m 117 #[.val (.long p1), .second, .val (.int p2), .val (.ref b120), .val (.int (4 : Int32)), .val (.int (0 : Int32)), .unset] [(.int (2 : Int32)), (.int (4 : Int32))])
      refine own_by (fun _ k => XS.icmpNo X174.here hx rfl (hb hby at_117) rfl (flt (by decide : ¬ ((4 : Int32) < (2 : Int32)))).1 k) ?_
      show own_Fin p e below s _ _ _ T174 (mkF m 120 #[.val (.long p1), .second, .val (.int p2), .val (.ref b120), .val (.int (4 : Int32)), .val (.int (0 : Int32)), .unset] [])
      refine own_by (fun _ k => XS.aloadN X174.here hx rfl (hb hby at_120) rfl rfl (XS.iload X174.here hx rfl (hb hby at_121) rfl (XS.iconst X174.here hx rfl (hb hby at_123) (XS.isub X174.here hx rfl (hb hby at_124) rfl k)))) ?_
      show own_Fin p e below s _ _ _ T174 (mkF m 125 #[.val (.long p1), .second, .val (.int p2), .val (.ref b120), .val (.int (4 : Int32)), .val (.int (0 : Int32)), .unset] [(.int ((4 : Int32) - (1 : Int32))), (.ref b120)])
      rw [(by decide : ((4 : Int32) - (1 : Int32)) = (3 : Int32))]
      show own_Fin p e below s _ _ _ T174 (mkF m 125 #[.val (.long p1), .second, .val (.int p2), .val (.ref b120), .val (.int (4 : Int32)), .val (.int (0 : Int32)), .unset] [(.int (3 : Int32)), (.ref b120)])
      obtain ⟨_, _, ⟨T176, L176, k176, n176⟩, -, X176, ⟨Lc176, hQ176, l176, y176, z176⟩, st176⟩ := Jvm.LawKit.callS X174 hx (y := (⟨"com/example/munka/munka/util/Utf8UnfinishedTailPinLaw", "u", "([BI)I"⟩ : MethodName)) hown (mvT hZ (hw _ (List.mem_of_getElem? (i := 2) rfl))) (mvT hZ (hw _ (List.mem_of_getElem? (i := 3) rfl))) (mvT hZ (hw _ (List.mem_of_getElem? (i := 4) rfl))) (mvT hZ (hw _ (List.mem_of_getElem? (i := 5) rfl))) (by decide) (backOf (W := 0) (rm1 l Z a0 hw [] b120 (3 : Int32) k120 (8 : Int32) [(.int v0), (.int v1), (.int v2), (.int v3), (.int v4), (.int v5), (.int v6), (.int v7)] v3 h136 n0 Zs136 Vg ⟨by decide, by decide⟩ rfl) hZ (hw _ (List.mem_of_getElem? (i := 5) rfl)) (hw _ (List.mem_of_getElem? (i := 4) rfl)) (by decide) (by decide)) (g := (mkF m 125 #[.val (.long p1), .second, .val (.int p2), .val (.ref b120), .val (.int (4 : Int32)), .val (.int (0 : Int32)), .unset] [(.int (3 : Int32)), (.ref b120)])) rfl (by rw [hml]; rfl) (argsL := [(.ref b120), (.int (3 : Int32))]) (rest := []) (lenOf own_pd97 rfl) rfl (by show 2 * 0 + _ ≤ _; exact Nat.le_of_eq rfl) (hb hby at_125) (fun _ _ => ⟨rfl, eh174, (by decide : 1 + 0 ≤ _), (by decide : 8 + 0 ≤ _)⟩)
      dsimp only [Pt.U, Pt.locs, Pt.cells, Pt.slots] at X176 l176 y176 z176 st176 hQ176
      subst l176 y176 z176
      obtain ⟨rfl, Nq176, eh176⟩ := hQ176
      have N176 := Fr.app N174 Nq176
      refine own_by (fun _ k => st176 _ k) ?_
      show own_Fin p e below s _ _ _ T176 (mkF m 128 #[.val (.long p1), .second, .val (.int p2), .val (.ref b120), .val (.int (4 : Int32)), .val (.int (0 : Int32)), .unset] [(.int (v3 &&& (255 : Int32)))])
      obtain ⟨_, _, ⟨T177, L177, k177, n177⟩, -, X177, ⟨Lc177, hQ177, l177, y177, z177⟩, st177⟩ := Jvm.LawKit.callS X176 hx (y := (⟨"com/example/munka/munka/util/Utf8UnfinishedTailPinLaw", "cont", "(I)Z"⟩ : MethodName)) hown (mvT hZ (hw _ (List.mem_of_getElem? (i := 6) rfl))) (mvT hZ (hw _ (List.mem_of_getElem? (i := 7) rfl))) (mvT hZ (hw _ (List.mem_of_getElem? (i := 4) rfl))) (mvT hZ (hw _ (List.mem_of_getElem? (i := 8) rfl))) (by decide) (backOf (W := 0) (rm2 l Z a0 hw [] (v3 &&& (255 : Int32)) h136 n0 Zs136 ) hZ (hw _ (List.mem_of_getElem? (i := 8) rfl)) (hw _ (List.mem_of_getElem? (i := 4) rfl)) (by decide) (by decide)) (g := (mkF m 128 #[.val (.long p1), .second, .val (.int p2), .val (.ref b120), .val (.int (4 : Int32)), .val (.int (0 : Int32)), .unset] [(.int (v3 &&& (255 : Int32)))])) rfl (by rw [hml]; rfl) (argsL := [(.int (v3 &&& (255 : Int32)))]) (rest := []) (lenOf own_pd98 rfl) rfl (by show 2 * 0 + _ ≤ _; exact Nat.le_of_eq rfl) (hb hby at_128) (fun _ _ => ⟨rfl, eh176, (by decide : 1 + 0 ≤ _), (by decide : 8 + 0 ≤ _)⟩)
      dsimp only [Pt.U, Pt.locs, Pt.cells, Pt.slots] at X177 l177 y177 z177 st177 hQ177
      subst l177 y177 z177
      obtain ⟨rfl, Nq177, eh177⟩ := hQ177
      have N177 := Fr.app N176 Nq177
      refine own_by (fun _ k => st177 _ k) ?_
      show own_Fin p e below s _ _ _ T177 (mkF m 131 #[.val (.long p1), .second, .val (.int p2), .val (.ref b120), .val (.int (4 : Int32)), .val (.int (0 : Int32)), .unset] [(.int (own_cont (v3 &&& (255 : Int32))))])
      by_cases hc131_178 : (own_cont (v3 &&& (255 : Int32))) = (0 : Int32)
      · show own_Fin p e below s _ _ _ T177 (mkF m 131 #[.val (.long p1), .second, .val (.int p2), .val (.ref b120), .val (.int (4 : Int32)), .val (.int (0 : Int32)), .unset] [(.int (own_cont (v3 &&& (255 : Int32))))])
        refine own_by (fun _ k => XS.ifYes X177.here hx rfl (pc0 := 131) (pc' := 154) rfl (hb hby at_131) rfl ((if0 _ _).trans (teq hc131_178).1) (by decide) (by decide) k) ?_
        show own_Fin p e below s _ _ _ T177 (mkF m 154 #[.val (.long p1), .second, .val (.int p2), .val (.ref b120), .val (.int (4 : Int32)), .val (.int (0 : Int32)), .unset] [])
        refine own_by (fun _ k => XS.iload X177.here hx rfl (hb hby at_154) rfl (XS.iconst X177.here hx rfl (hb hby at_156) k)) ?_
        show own_Fin p e below s _ _ _ T177 (mkF m 157 #[.val (.long p1), .second, .val (.int p2), .val (.ref b120), .val (.int (4 : Int32)), .val (.int (0 : Int32)), .unset] [(.int (3 : Int32)), (.int (4 : Int32))])
        refine own_by (fun _ k => XS.icmpNo X177.here hx rfl (hb hby at_157) rfl (flt (by decide : ¬ ((4 : Int32) < (3 : Int32)))).1 k) ?_
        show own_Fin p e below s _ _ _ T177 (mkF m 160 #[.val (.long p1), .second, .val (.int p2), .val (.ref b120), .val (.int (4 : Int32)), .val (.int (0 : Int32)), .unset] [])
        refine own_by (fun _ k => XS.aloadN X177.here hx rfl (hb hby at_160) rfl rfl (XS.iload X177.here hx rfl (hb hby at_161) rfl (XS.iconst X177.here hx rfl (hb hby at_163) (XS.isub X177.here hx rfl (hb hby at_164) rfl k)))) ?_
        show own_Fin p e below s _ _ _ T177 (mkF m 165 #[.val (.long p1), .second, .val (.int p2), .val (.ref b120), .val (.int (4 : Int32)), .val (.int (0 : Int32)), .unset] [(.int ((4 : Int32) - (1 : Int32))), (.ref b120)])
        rw [(by decide : ((4 : Int32) - (1 : Int32)) = (3 : Int32))]
        show own_Fin p e below s _ _ _ T177 (mkF m 165 #[.val (.long p1), .second, .val (.int p2), .val (.ref b120), .val (.int (4 : Int32)), .val (.int (0 : Int32)), .unset] [(.int (3 : Int32)), (.ref b120)])
        obtain ⟨_, _, ⟨T179, L179, k179, n179⟩, -, X179, ⟨Lc179, hQ179, l179, y179, z179⟩, st179⟩ := Jvm.LawKit.callS X177 hx (y := (⟨"com/example/munka/munka/util/Utf8UnfinishedTailPinLaw", "u", "([BI)I"⟩ : MethodName)) hown (mvT hZ (hw _ (List.mem_of_getElem? (i := 2) rfl))) (mvT hZ (hw _ (List.mem_of_getElem? (i := 3) rfl))) (mvT hZ (hw _ (List.mem_of_getElem? (i := 4) rfl))) (mvT hZ (hw _ (List.mem_of_getElem? (i := 5) rfl))) (by decide) (backOf (W := 0) (rm1 l Z a0 hw [] b120 (3 : Int32) k120 (8 : Int32) [(.int v0), (.int v1), (.int v2), (.int v3), (.int v4), (.int v5), (.int v6), (.int v7)] v3 h136 n0 Zs136 Vg ⟨by decide, by decide⟩ rfl) hZ (hw _ (List.mem_of_getElem? (i := 5) rfl)) (hw _ (List.mem_of_getElem? (i := 4) rfl)) (by decide) (by decide)) (g := (mkF m 165 #[.val (.long p1), .second, .val (.int p2), .val (.ref b120), .val (.int (4 : Int32)), .val (.int (0 : Int32)), .unset] [(.int (3 : Int32)), (.ref b120)])) rfl (by rw [hml]; rfl) (argsL := [(.ref b120), (.int (3 : Int32))]) (rest := []) (lenOf own_pd97 rfl) rfl (by show 2 * 0 + _ ≤ _; exact Nat.le_of_eq rfl) (hb hby at_165) (fun _ _ => ⟨rfl, eh177, (by decide : 1 + 0 ≤ _), (by decide : 8 + 0 ≤ _)⟩)
        dsimp only [Pt.U, Pt.locs, Pt.cells, Pt.slots] at X179 l179 y179 z179 st179 hQ179
        subst l179 y179 z179
        obtain ⟨rfl, Nq179, eh179⟩ := hQ179
        have N179 := Fr.app N177 Nq179
        refine own_by (fun _ k => st179 _ k) ?_
        show own_Fin p e below s _ _ _ T179 (mkF m 168 #[.val (.long p1), .second, .val (.int p2), .val (.ref b120), .val (.int (4 : Int32)), .val (.int (0 : Int32)), .unset] [(.int (v3 &&& (255 : Int32)))])
        obtain ⟨_, _, ⟨T180, L180, k180, n180⟩, -, X180, ⟨Lc180, hQ180, l180, y180, z180⟩, st180⟩ := Jvm.LawKit.callS X179 hx (y := (⟨"com/example/munka/munka/util/Utf8UnfinishedTailPinLaw", "cont", "(I)Z"⟩ : MethodName)) hown (mvT hZ (hw _ (List.mem_of_getElem? (i := 6) rfl))) (mvT hZ (hw _ (List.mem_of_getElem? (i := 7) rfl))) (mvT hZ (hw _ (List.mem_of_getElem? (i := 4) rfl))) (mvT hZ (hw _ (List.mem_of_getElem? (i := 8) rfl))) (by decide) (backOf (W := 0) (rm2 l Z a0 hw [] (v3 &&& (255 : Int32)) h136 n0 Zs136 ) hZ (hw _ (List.mem_of_getElem? (i := 8) rfl)) (hw _ (List.mem_of_getElem? (i := 4) rfl)) (by decide) (by decide)) (g := (mkF m 168 #[.val (.long p1), .second, .val (.int p2), .val (.ref b120), .val (.int (4 : Int32)), .val (.int (0 : Int32)), .unset] [(.int (v3 &&& (255 : Int32)))])) rfl (by rw [hml]; rfl) (argsL := [(.int (v3 &&& (255 : Int32)))]) (rest := []) (lenOf own_pd98 rfl) rfl (by show 2 * 0 + _ ≤ _; exact Nat.le_of_eq rfl) (hb hby at_168) (fun _ _ => ⟨rfl, eh179, (by decide : 1 + 0 ≤ _), (by decide : 8 + 0 ≤ _)⟩)
        dsimp only [Pt.U, Pt.locs, Pt.cells, Pt.slots] at X180 l180 y180 z180 st180 hQ180
        subst l180 y180 z180
        obtain ⟨rfl, Nq180, eh180⟩ := hQ180
        have N180 := Fr.app N179 Nq180
        refine own_by (fun _ k => st180 _ k) ?_
        show own_Fin p e below s _ _ _ T180 (mkF m 171 #[.val (.long p1), .second, .val (.int p2), .val (.ref b120), .val (.int (4 : Int32)), .val (.int (0 : Int32)), .unset] [(.int (own_cont (v3 &&& (255 : Int32))))])
        refine own_by (fun _ k => XS.ifYes X180.here hx rfl (pc0 := 171) (pc' := 205) rfl (hb hby at_171) rfl ((if0 _ _).trans (teq hc131_178).1) (by decide) (by decide) k) ?_
        show own_Fin p e below s _ _ _ T180 (mkF m 205 #[.val (.long p1), .second, .val (.int p2), .val (.ref b120), .val (.int (4 : Int32)), .val (.int (0 : Int32)), .unset] [])
        exact J205_172 T180 _ X180 eh180 N180 ((0 : Int32)) ((own_eq4 v3 v2 v1 v0).trans (by simp [own_ex3, hc105_175, hc131_178]))
      · show own_Fin p e below s _ _ _ T177 (mkF m 131 #[.val (.long p1), .second, .val (.int p2), .val (.ref b120), .val (.int (4 : Int32)), .val (.int (0 : Int32)), .unset] [(.int (own_cont (v3 &&& (255 : Int32))))])
        refine own_by (fun _ k => XS.ifNo X177.here hx rfl (hb hby at_131) rfl ((if0 _ _).trans (feq hc131_178).1) k) ?_
        show own_Fin p e below s _ _ _ T177 (mkF m 134 #[.val (.long p1), .second, .val (.int p2), .val (.ref b120), .val (.int (4 : Int32)), .val (.int (0 : Int32)), .unset] [])
        refine own_by (fun _ k => XS.aloadN X177.here hx rfl (hb hby at_134) rfl rfl (XS.iload X177.here hx rfl (hb hby at_135) rfl (XS.iconst X177.here hx rfl (hb hby at_137) (XS.isub X177.here hx rfl (hb hby at_138) rfl k)))) ?_
        show own_Fin p e below s _ _ _ T177 (mkF m 139 #[.val (.long p1), .second, .val (.int p2), .val (.ref b120), .val (.int (4 : Int32)), .val (.int (0 : Int32)), .unset] [(.int ((4 : Int32) - (2 : Int32))), (.ref b120)])
        rw [(by decide : ((4 : Int32) - (2 : Int32)) = (2 : Int32))]
        show own_Fin p e below s _ _ _ T177 (mkF m 139 #[.val (.long p1), .second, .val (.int p2), .val (.ref b120), .val (.int (4 : Int32)), .val (.int (0 : Int32)), .unset] [(.int (2 : Int32)), (.ref b120)])
        obtain ⟨_, _, ⟨T181, L181, k181, n181⟩, -, X181, ⟨Lc181, hQ181, l181, y181, z181⟩, st181⟩ := Jvm.LawKit.callS X177 hx (y := (⟨"com/example/munka/munka/util/Utf8UnfinishedTailPinLaw", "u", "([BI)I"⟩ : MethodName)) hown (mvT hZ (hw _ (List.mem_of_getElem? (i := 2) rfl))) (mvT hZ (hw _ (List.mem_of_getElem? (i := 3) rfl))) (mvT hZ (hw _ (List.mem_of_getElem? (i := 4) rfl))) (mvT hZ (hw _ (List.mem_of_getElem? (i := 5) rfl))) (by decide) (backOf (W := 0) (rm1 l Z a0 hw [] b120 (2 : Int32) k120 (8 : Int32) [(.int v0), (.int v1), (.int v2), (.int v3), (.int v4), (.int v5), (.int v6), (.int v7)] v2 h136 n0 Zs136 Vg ⟨by decide, by decide⟩ rfl) hZ (hw _ (List.mem_of_getElem? (i := 5) rfl)) (hw _ (List.mem_of_getElem? (i := 4) rfl)) (by decide) (by decide)) (g := (mkF m 139 #[.val (.long p1), .second, .val (.int p2), .val (.ref b120), .val (.int (4 : Int32)), .val (.int (0 : Int32)), .unset] [(.int (2 : Int32)), (.ref b120)])) rfl (by rw [hml]; rfl) (argsL := [(.ref b120), (.int (2 : Int32))]) (rest := []) (lenOf own_pd97 rfl) rfl (by show 2 * 0 + _ ≤ _; exact Nat.le_of_eq rfl) (hb hby at_139) (fun _ _ => ⟨rfl, eh177, (by decide : 1 + 0 ≤ _), (by decide : 8 + 0 ≤ _)⟩)
        dsimp only [Pt.U, Pt.locs, Pt.cells, Pt.slots] at X181 l181 y181 z181 st181 hQ181
        subst l181 y181 z181
        obtain ⟨rfl, Nq181, eh181⟩ := hQ181
        have N181 := Fr.app N177 Nq181
        refine own_by (fun _ k => st181 _ k) ?_
        show own_Fin p e below s _ _ _ T181 (mkF m 142 #[.val (.long p1), .second, .val (.int p2), .val (.ref b120), .val (.int (4 : Int32)), .val (.int (0 : Int32)), .unset] [(.int (v2 &&& (255 : Int32)))])
        refine own_by (fun _ k => XS.sipush X181.here hx rfl (hb hby at_142) k) ?_
        show own_Fin p e below s _ _ _ T181 (mkF m 145 #[.val (.long p1), .second, .val (.int p2), .val (.ref b120), .val (.int (4 : Int32)), .val (.int (0 : Int32)), .unset] [(.int (224 : Int32)), (.int (v2 &&& (255 : Int32)))])
        by_cases hc145_182 : (v2 &&& (255 : Int32)) < (224 : Int32)
        · show own_Fin p e below s _ _ _ T181 (mkF m 145 #[.val (.long p1), .second, .val (.int p2), .val (.ref b120), .val (.int (4 : Int32)), .val (.int (0 : Int32)), .unset] [(.int (224 : Int32)), (.int (v2 &&& (255 : Int32)))])
          refine own_by (fun _ k => XS.icmpYes X181.here hx rfl (pc0 := 145) (pc' := 154) rfl (hb hby at_145) rfl (tlt hc145_182).1 (by decide) (by decide) k) ?_
          show own_Fin p e below s _ _ _ T181 (mkF m 154 #[.val (.long p1), .second, .val (.int p2), .val (.ref b120), .val (.int (4 : Int32)), .val (.int (0 : Int32)), .unset] [])
          refine own_by (fun _ k => XS.iload X181.here hx rfl (hb hby at_154) rfl (XS.iconst X181.here hx rfl (hb hby at_156) k)) ?_
          show own_Fin p e below s _ _ _ T181 (mkF m 157 #[.val (.long p1), .second, .val (.int p2), .val (.ref b120), .val (.int (4 : Int32)), .val (.int (0 : Int32)), .unset] [(.int (3 : Int32)), (.int (4 : Int32))])
          refine own_by (fun _ k => XS.icmpNo X181.here hx rfl (hb hby at_157) rfl (flt (by decide : ¬ ((4 : Int32) < (3 : Int32)))).1 k) ?_
          show own_Fin p e below s _ _ _ T181 (mkF m 160 #[.val (.long p1), .second, .val (.int p2), .val (.ref b120), .val (.int (4 : Int32)), .val (.int (0 : Int32)), .unset] [])
          refine own_by (fun _ k => XS.aloadN X181.here hx rfl (hb hby at_160) rfl rfl (XS.iload X181.here hx rfl (hb hby at_161) rfl (XS.iconst X181.here hx rfl (hb hby at_163) (XS.isub X181.here hx rfl (hb hby at_164) rfl k)))) ?_
          show own_Fin p e below s _ _ _ T181 (mkF m 165 #[.val (.long p1), .second, .val (.int p2), .val (.ref b120), .val (.int (4 : Int32)), .val (.int (0 : Int32)), .unset] [(.int ((4 : Int32) - (1 : Int32))), (.ref b120)])
          rw [(by decide : ((4 : Int32) - (1 : Int32)) = (3 : Int32))]
          show own_Fin p e below s _ _ _ T181 (mkF m 165 #[.val (.long p1), .second, .val (.int p2), .val (.ref b120), .val (.int (4 : Int32)), .val (.int (0 : Int32)), .unset] [(.int (3 : Int32)), (.ref b120)])
          obtain ⟨_, _, ⟨T183, L183, k183, n183⟩, -, X183, ⟨Lc183, hQ183, l183, y183, z183⟩, st183⟩ := Jvm.LawKit.callS X181 hx (y := (⟨"com/example/munka/munka/util/Utf8UnfinishedTailPinLaw", "u", "([BI)I"⟩ : MethodName)) hown (mvT hZ (hw _ (List.mem_of_getElem? (i := 2) rfl))) (mvT hZ (hw _ (List.mem_of_getElem? (i := 3) rfl))) (mvT hZ (hw _ (List.mem_of_getElem? (i := 4) rfl))) (mvT hZ (hw _ (List.mem_of_getElem? (i := 5) rfl))) (by decide) (backOf (W := 0) (rm1 l Z a0 hw [] b120 (3 : Int32) k120 (8 : Int32) [(.int v0), (.int v1), (.int v2), (.int v3), (.int v4), (.int v5), (.int v6), (.int v7)] v3 h136 n0 Zs136 Vg ⟨by decide, by decide⟩ rfl) hZ (hw _ (List.mem_of_getElem? (i := 5) rfl)) (hw _ (List.mem_of_getElem? (i := 4) rfl)) (by decide) (by decide)) (g := (mkF m 165 #[.val (.long p1), .second, .val (.int p2), .val (.ref b120), .val (.int (4 : Int32)), .val (.int (0 : Int32)), .unset] [(.int (3 : Int32)), (.ref b120)])) rfl (by rw [hml]; rfl) (argsL := [(.ref b120), (.int (3 : Int32))]) (rest := []) (lenOf own_pd97 rfl) rfl (by show 2 * 0 + _ ≤ _; exact Nat.le_of_eq rfl) (hb hby at_165) (fun _ _ => ⟨rfl, eh181, (by decide : 1 + 0 ≤ _), (by decide : 8 + 0 ≤ _)⟩)
          dsimp only [Pt.U, Pt.locs, Pt.cells, Pt.slots] at X183 l183 y183 z183 st183 hQ183
          subst l183 y183 z183
          obtain ⟨rfl, Nq183, eh183⟩ := hQ183
          have N183 := Fr.app N181 Nq183
          refine own_by (fun _ k => st183 _ k) ?_
          show own_Fin p e below s _ _ _ T183 (mkF m 168 #[.val (.long p1), .second, .val (.int p2), .val (.ref b120), .val (.int (4 : Int32)), .val (.int (0 : Int32)), .unset] [(.int (v3 &&& (255 : Int32)))])
          obtain ⟨_, _, ⟨T184, L184, k184, n184⟩, -, X184, ⟨Lc184, hQ184, l184, y184, z184⟩, st184⟩ := Jvm.LawKit.callS X183 hx (y := (⟨"com/example/munka/munka/util/Utf8UnfinishedTailPinLaw", "cont", "(I)Z"⟩ : MethodName)) hown (mvT hZ (hw _ (List.mem_of_getElem? (i := 6) rfl))) (mvT hZ (hw _ (List.mem_of_getElem? (i := 7) rfl))) (mvT hZ (hw _ (List.mem_of_getElem? (i := 4) rfl))) (mvT hZ (hw _ (List.mem_of_getElem? (i := 8) rfl))) (by decide) (backOf (W := 0) (rm2 l Z a0 hw [] (v3 &&& (255 : Int32)) h136 n0 Zs136 ) hZ (hw _ (List.mem_of_getElem? (i := 8) rfl)) (hw _ (List.mem_of_getElem? (i := 4) rfl)) (by decide) (by decide)) (g := (mkF m 168 #[.val (.long p1), .second, .val (.int p2), .val (.ref b120), .val (.int (4 : Int32)), .val (.int (0 : Int32)), .unset] [(.int (v3 &&& (255 : Int32)))])) rfl (by rw [hml]; rfl) (argsL := [(.int (v3 &&& (255 : Int32)))]) (rest := []) (lenOf own_pd98 rfl) rfl (by show 2 * 0 + _ ≤ _; exact Nat.le_of_eq rfl) (hb hby at_168) (fun _ _ => ⟨rfl, eh183, (by decide : 1 + 0 ≤ _), (by decide : 8 + 0 ≤ _)⟩)
          dsimp only [Pt.U, Pt.locs, Pt.cells, Pt.slots] at X184 l184 y184 z184 st184 hQ184
          subst l184 y184 z184
          obtain ⟨rfl, Nq184, eh184⟩ := hQ184
          have N184 := Fr.app N183 Nq184
          refine own_by (fun _ k => st184 _ k) ?_
          show own_Fin p e below s _ _ _ T184 (mkF m 171 #[.val (.long p1), .second, .val (.int p2), .val (.ref b120), .val (.int (4 : Int32)), .val (.int (0 : Int32)), .unset] [(.int (own_cont (v3 &&& (255 : Int32))))])
          refine own_by (fun _ k => XS.ifNo X184.here hx rfl (hb hby at_171) rfl ((if0 _ _).trans (feq hc131_178).1) k) ?_
          show own_Fin p e below s _ _ _ T184 (mkF m 174 #[.val (.long p1), .second, .val (.int p2), .val (.ref b120), .val (.int (4 : Int32)), .val (.int (0 : Int32)), .unset] [])
          refine own_by (fun _ k => XS.aloadN X184.here hx rfl (hb hby at_174) rfl rfl (XS.iload X184.here hx rfl (hb hby at_175) rfl (XS.iconst X184.here hx rfl (hb hby at_177) (XS.isub X184.here hx rfl (hb hby at_178) rfl k)))) ?_
          show own_Fin p e below s _ _ _ T184 (mkF m 179 #[.val (.long p1), .second, .val (.int p2), .val (.ref b120), .val (.int (4 : Int32)), .val (.int (0 : Int32)), .unset] [(.int ((4 : Int32) - (2 : Int32))), (.ref b120)])
          rw [(by decide : ((4 : Int32) - (2 : Int32)) = (2 : Int32))]
          show own_Fin p e below s _ _ _ T184 (mkF m 179 #[.val (.long p1), .second, .val (.int p2), .val (.ref b120), .val (.int (4 : Int32)), .val (.int (0 : Int32)), .unset] [(.int (2 : Int32)), (.ref b120)])
          obtain ⟨_, _, ⟨T185, L185, k185, n185⟩, -, X185, ⟨Lc185, hQ185, l185, y185, z185⟩, st185⟩ := Jvm.LawKit.callS X184 hx (y := (⟨"com/example/munka/munka/util/Utf8UnfinishedTailPinLaw", "u", "([BI)I"⟩ : MethodName)) hown (mvT hZ (hw _ (List.mem_of_getElem? (i := 2) rfl))) (mvT hZ (hw _ (List.mem_of_getElem? (i := 3) rfl))) (mvT hZ (hw _ (List.mem_of_getElem? (i := 4) rfl))) (mvT hZ (hw _ (List.mem_of_getElem? (i := 5) rfl))) (by decide) (backOf (W := 0) (rm1 l Z a0 hw [] b120 (2 : Int32) k120 (8 : Int32) [(.int v0), (.int v1), (.int v2), (.int v3), (.int v4), (.int v5), (.int v6), (.int v7)] v2 h136 n0 Zs136 Vg ⟨by decide, by decide⟩ rfl) hZ (hw _ (List.mem_of_getElem? (i := 5) rfl)) (hw _ (List.mem_of_getElem? (i := 4) rfl)) (by decide) (by decide)) (g := (mkF m 179 #[.val (.long p1), .second, .val (.int p2), .val (.ref b120), .val (.int (4 : Int32)), .val (.int (0 : Int32)), .unset] [(.int (2 : Int32)), (.ref b120)])) rfl (by rw [hml]; rfl) (argsL := [(.ref b120), (.int (2 : Int32))]) (rest := []) (lenOf own_pd97 rfl) rfl (by show 2 * 0 + _ ≤ _; exact Nat.le_of_eq rfl) (hb hby at_179) (fun _ _ => ⟨rfl, eh184, (by decide : 1 + 0 ≤ _), (by decide : 8 + 0 ≤ _)⟩)
          dsimp only [Pt.U, Pt.locs, Pt.cells, Pt.slots] at X185 l185 y185 z185 st185 hQ185
          subst l185 y185 z185
          obtain ⟨rfl, Nq185, eh185⟩ := hQ185
          have N185 := Fr.app N184 Nq185
          refine own_by (fun _ k => st185 _ k) ?_
          show own_Fin p e below s _ _ _ T185 (mkF m 182 #[.val (.long p1), .second, .val (.int p2), .val (.ref b120), .val (.int (4 : Int32)), .val (.int (0 : Int32)), .unset] [(.int (v2 &&& (255 : Int32)))])
          obtain ⟨_, _, ⟨T186, L186, k186, n186⟩, -, X186, ⟨Lc186, hQ186, l186, y186, z186⟩, st186⟩ := Jvm.LawKit.callS X185 hx (y := (⟨"com/example/munka/munka/util/Utf8UnfinishedTailPinLaw", "cont", "(I)Z"⟩ : MethodName)) hown (mvT hZ (hw _ (List.mem_of_getElem? (i := 6) rfl))) (mvT hZ (hw _ (List.mem_of_getElem? (i := 7) rfl))) (mvT hZ (hw _ (List.mem_of_getElem? (i := 4) rfl))) (mvT hZ (hw _ (List.mem_of_getElem? (i := 8) rfl))) (by decide) (backOf (W := 0) (rm2 l Z a0 hw [] (v2 &&& (255 : Int32)) h136 n0 Zs136 ) hZ (hw _ (List.mem_of_getElem? (i := 8) rfl)) (hw _ (List.mem_of_getElem? (i := 4) rfl)) (by decide) (by decide)) (g := (mkF m 182 #[.val (.long p1), .second, .val (.int p2), .val (.ref b120), .val (.int (4 : Int32)), .val (.int (0 : Int32)), .unset] [(.int (v2 &&& (255 : Int32)))])) rfl (by rw [hml]; rfl) (argsL := [(.int (v2 &&& (255 : Int32)))]) (rest := []) (lenOf own_pd98 rfl) rfl (by show 2 * 0 + _ ≤ _; exact Nat.le_of_eq rfl) (hb hby at_182) (fun _ _ => ⟨rfl, eh185, (by decide : 1 + 0 ≤ _), (by decide : 8 + 0 ≤ _)⟩)
          dsimp only [Pt.U, Pt.locs, Pt.cells, Pt.slots] at X186 l186 y186 z186 st186 hQ186
          subst l186 y186 z186
          obtain ⟨rfl, Nq186, eh186⟩ := hQ186
          have N186 := Fr.app N185 Nq186
          refine own_by (fun _ k => st186 _ k) ?_
          show own_Fin p e below s _ _ _ T186 (mkF m 185 #[.val (.long p1), .second, .val (.int p2), .val (.ref b120), .val (.int (4 : Int32)), .val (.int (0 : Int32)), .unset] [(.int (own_cont (v2 &&& (255 : Int32))))])
          by_cases hc185_187 : (own_cont (v2 &&& (255 : Int32))) = (0 : Int32)
          · show own_Fin p e below s _ _ _ T186 (mkF m 185 #[.val (.long p1), .second, .val (.int p2), .val (.ref b120), .val (.int (4 : Int32)), .val (.int (0 : Int32)), .unset] [(.int (own_cont (v2 &&& (255 : Int32))))])
            refine own_by (fun _ k => XS.ifYes X186.here hx rfl (pc0 := 185) (pc' := 205) rfl (hb hby at_185) rfl ((if0 _ _).trans (teq hc185_187).1) (by decide) (by decide) k) ?_
            show own_Fin p e below s _ _ _ T186 (mkF m 205 #[.val (.long p1), .second, .val (.int p2), .val (.ref b120), .val (.int (4 : Int32)), .val (.int (0 : Int32)), .unset] [])
            exact J205_172 T186 _ X186 eh186 N186 ((0 : Int32)) ((own_eq4 v3 v2 v1 v0).trans (by simp [own_ex3, hc105_175, hc131_178, hc145_182, hc185_187]))
          · show own_Fin p e below s _ _ _ T186 (mkF m 185 #[.val (.long p1), .second, .val (.int p2), .val (.ref b120), .val (.int (4 : Int32)), .val (.int (0 : Int32)), .unset] [(.int (own_cont (v2 &&& (255 : Int32))))])
            refine own_by (fun _ k => XS.ifNo X186.here hx rfl (hb hby at_185) rfl ((if0 _ _).trans (feq hc185_187).1) k) ?_
            show own_Fin p e below s _ _ _ T186 (mkF m 188 #[.val (.long p1), .second, .val (.int p2), .val (.ref b120), .val (.int (4 : Int32)), .val (.int (0 : Int32)), .unset] [])
            refine own_by (fun _ k => XS.aloadN X186.here hx rfl (hb hby at_188) rfl rfl (XS.iload X186.here hx rfl (hb hby at_189) rfl (XS.iconst X186.here hx rfl (hb hby at_191) (XS.isub X186.here hx rfl (hb hby at_192) rfl k)))) ?_
            show own_Fin p e below s _ _ _ T186 (mkF m 193 #[.val (.long p1), .second, .val (.int p2), .val (.ref b120), .val (.int (4 : Int32)), .val (.int (0 : Int32)), .unset] [(.int ((4 : Int32) - (3 : Int32))), (.ref b120)])
            rw [(by decide : ((4 : Int32) - (3 : Int32)) = (1 : Int32))]
            show own_Fin p e below s _ _ _ T186 (mkF m 193 #[.val (.long p1), .second, .val (.int p2), .val (.ref b120), .val (.int (4 : Int32)), .val (.int (0 : Int32)), .unset] [(.int (1 : Int32)), (.ref b120)])
            obtain ⟨_, _, ⟨T188, L188, k188, n188⟩, -, X188, ⟨Lc188, hQ188, l188, y188, z188⟩, st188⟩ := Jvm.LawKit.callS X186 hx (y := (⟨"com/example/munka/munka/util/Utf8UnfinishedTailPinLaw", "u", "([BI)I"⟩ : MethodName)) hown (mvT hZ (hw _ (List.mem_of_getElem? (i := 2) rfl))) (mvT hZ (hw _ (List.mem_of_getElem? (i := 3) rfl))) (mvT hZ (hw _ (List.mem_of_getElem? (i := 4) rfl))) (mvT hZ (hw _ (List.mem_of_getElem? (i := 5) rfl))) (by decide) (backOf (W := 0) (rm1 l Z a0 hw [] b120 (1 : Int32) k120 (8 : Int32) [(.int v0), (.int v1), (.int v2), (.int v3), (.int v4), (.int v5), (.int v6), (.int v7)] v1 h136 n0 Zs136 Vg ⟨by decide, by decide⟩ rfl) hZ (hw _ (List.mem_of_getElem? (i := 5) rfl)) (hw _ (List.mem_of_getElem? (i := 4) rfl)) (by decide) (by decide)) (g := (mkF m 193 #[.val (.long p1), .second, .val (.int p2), .val (.ref b120), .val (.int (4 : Int32)), .val (.int (0 : Int32)), .unset] [(.int (1 : Int32)), (.ref b120)])) rfl (by rw [hml]; rfl) (argsL := [(.ref b120), (.int (1 : Int32))]) (rest := []) (lenOf own_pd97 rfl) rfl (by show 2 * 0 + _ ≤ _; exact Nat.le_of_eq rfl) (hb hby at_193) (fun _ _ => ⟨rfl, eh186, (by decide : 1 + 0 ≤ _), (by decide : 8 + 0 ≤ _)⟩)
            dsimp only [Pt.U, Pt.locs, Pt.cells, Pt.slots] at X188 l188 y188 z188 st188 hQ188
            subst l188 y188 z188
            obtain ⟨rfl, Nq188, eh188⟩ := hQ188
            have N188 := Fr.app N186 Nq188
            refine own_by (fun _ k => st188 _ k) ?_
            show own_Fin p e below s _ _ _ T188 (mkF m 196 #[.val (.long p1), .second, .val (.int p2), .val (.ref b120), .val (.int (4 : Int32)), .val (.int (0 : Int32)), .unset] [(.int (v1 &&& (255 : Int32)))])
            refine own_by (fun _ k => XS.sipush X188.here hx rfl (hb hby at_196) k) ?_
            show own_Fin p e below s _ _ _ T188 (mkF m 199 #[.val (.long p1), .second, .val (.int p2), .val (.ref b120), .val (.int (4 : Int32)), .val (.int (0 : Int32)), .unset] [(.int (240 : Int32)), (.int (v1 &&& (255 : Int32)))])
            by_cases hc199_189 : (v1 &&& (255 : Int32)) < (240 : Int32)
            · show own_Fin p e below s _ _ _ T188 (mkF m 199 #[.val (.long p1), .second, .val (.int p2), .val (.ref b120), .val (.int (4 : Int32)), .val (.int (0 : Int32)), .unset] [(.int (240 : Int32)), (.int (v1 &&& (255 : Int32)))])
              refine own_by (fun _ k => XS.icmpYes X188.here hx rfl (pc0 := 199) (pc' := 205) rfl (hb hby at_199) rfl (tlt hc199_189).1 (by decide) (by decide) k) ?_
              show own_Fin p e below s _ _ _ T188 (mkF m 205 #[.val (.long p1), .second, .val (.int p2), .val (.ref b120), .val (.int (4 : Int32)), .val (.int (0 : Int32)), .unset] [])
              exact J205_172 T188 _ X188 eh188 N188 ((0 : Int32)) ((own_eq4 v3 v2 v1 v0).trans (by simp [own_ex3, hc105_175, hc131_178, hc145_182, hc185_187, hc199_189]))
            · show own_Fin p e below s _ _ _ T188 (mkF m 199 #[.val (.long p1), .second, .val (.int p2), .val (.ref b120), .val (.int (4 : Int32)), .val (.int (0 : Int32)), .unset] [(.int (240 : Int32)), (.int (v1 &&& (255 : Int32)))])
              refine own_by (fun _ k => XS.icmpNo X188.here hx rfl (hb hby at_199) rfl (flt hc199_189).1 k) ?_
              show own_Fin p e below s _ _ _ T188 (mkF m 202 #[.val (.long p1), .second, .val (.int p2), .val (.ref b120), .val (.int (4 : Int32)), .val (.int (0 : Int32)), .unset] [])
              refine own_by (fun _ k => XS.iconst X188.here hx rfl (hb hby at_202) (XS.istore X188.here hx rfl (hb hby at_203) rfl (l' := #[.val (.long p1), .second, .val (.int p2), .val (.ref b120), .val (.int (4 : Int32)), .val (.int (3 : Int32)), .unset]) rfl k)) ?_
              show own_Fin p e below s _ _ _ T188 (mkF m 205 #[.val (.long p1), .second, .val (.int p2), .val (.ref b120), .val (.int (4 : Int32)), .val (.int (3 : Int32)), .unset] [])
              exact J205_172 T188 _ X188 eh188 N188 ((3 : Int32)) ((own_eq4 v3 v2 v1 v0).trans (by simp [own_ex3, hc105_175, hc131_178, hc145_182, hc185_187, hc199_189]))
        · show own_Fin p e below s _ _ _ T181 (mkF m 145 #[.val (.long p1), .second, .val (.int p2), .val (.ref b120), .val (.int (4 : Int32)), .val (.int (0 : Int32)), .unset] [(.int (224 : Int32)), (.int (v2 &&& (255 : Int32)))])
          refine own_by (fun _ k => XS.icmpNo X181.here hx rfl (hb hby at_145) rfl (flt hc145_182).1 k) ?_
          show own_Fin p e below s _ _ _ T181 (mkF m 148 #[.val (.long p1), .second, .val (.int p2), .val (.ref b120), .val (.int (4 : Int32)), .val (.int (0 : Int32)), .unset] [])
          refine own_by (fun _ k => XS.iconst X181.here hx rfl (hb hby at_148) (XS.istore X181.here hx rfl (hb hby at_149) rfl (l' := #[.val (.long p1), .second, .val (.int p2), .val (.ref b120), .val (.int (4 : Int32)), .val (.int (2 : Int32)), .unset]) rfl (XS.goto X181.here hx rfl (pc0 := 151) (pc' := 205) rfl (hb hby at_151) (by decide) (by decide) k))) ?_
          show own_Fin p e below s _ _ _ T181 (mkF m 205 #[.val (.long p1), .second, .val (.int p2), .val (.ref b120), .val (.int (4 : Int32)), .val (.int (2 : Int32)), .unset] [])
          exact J205_172 T181 _ X181 eh181 N181 ((2 : Int32)) ((own_eq4 v3 v2 v1 v0).trans (by simp [own_ex3, hc105_175, hc131_178, hc145_182]))
    · show own_Fin p e below s _ _ _ T174 (mkF m 105 #[.val (.long p1), .second, .val (.int p2), .val (.ref b120), .val (.int (4 : Int32)), .val (.int (0 : Int32)), .unset] [(.int (192 : Int32)), (.int (v3 &&& (255 : Int32)))])
      refine own_by (fun _ k => XS.icmpNo X174.here hx rfl (hb hby at_105) rfl (flt hc105_175).1 k) ?_
      show own_Fin p e below s _ _ _ T174 (mkF m 108 #[.val (.long p1), .second, .val (.int p2), .val (.ref b120), .val (.int (4 : Int32)), .val (.int (0 : Int32)), .unset] [])
      refine own_by (fun _ k => XS.iconst X174.here hx rfl (hb hby at_108) (XS.istore X174.here hx rfl (hb hby at_109) rfl (l' := #[.val (.long p1), .second, .val (.int p2), .val (.ref b120), .val (.int (4 : Int32)), .val (.int (1 : Int32)), .unset]) rfl (XS.goto X174.here hx rfl (pc0 := 111) (pc' := 205) rfl (hb hby at_111) (by decide) (by decide) k))) ?_
      show own_Fin p e below s _ _ _ T174 (mkF m 205 #[.val (.long p1), .second, .val (.int p2), .val (.ref b120), .val (.int (4 : Int32)), .val (.int (1 : Int32)), .unset] [])
      exact J205_172 T174 _ X174 eh174 N174 ((1 : Int32)) ((own_eq4 v3 v2 v1 v0).trans (by simp [own_ex3, hc105_175]))
  · show own_Fin p e below s _ _ _ T136 (mkF m 83 #[.val (.long p1), .second, .val (.int p2), .val (.ref b120), .unset, .unset, .unset] [(.int ((p2 &&& (2147483647 : Int32)) % (9 : Int32)))])
    rw [hn]
    show own_Fin p e below s _ _ _ T136 (mkF m 83 #[.val (.long p1), .second, .val (.int p2), .val (.ref b120), .unset, .unset, .unset] [(.int (5 : Int32))])
    refine own_by (fun _ k => XS.istore X136.here hx rfl (hb hby at_83) rfl (l' := #[.val (.long p1), .second, .val (.int p2), .val (.ref b120), .val (.int (5 : Int32)), .unset, .unset]) rfl (XS.iconst X136.here hx rfl (hb hby at_85) (XS.istore X136.here hx rfl (hb hby at_86) rfl (l' := #[.val (.long p1), .second, .val (.int p2), .val (.ref b120), .val (.int (5 : Int32)), .val (.int (0 : Int32)), .unset]) rfl k))) ?_
    show own_Fin p e below s _ _ _ T136 (mkF m 88 #[.val (.long p1), .second, .val (.int p2), .val (.ref b120), .val (.int (5 : Int32)), .val (.int (0 : Int32)), .unset] [])
    have J205_190 : ∀ (Tj190 : State) (lj190 : List Loc) (Xj190 : Stand p l e room_1 s m #[(.long p1), (.int p2)] below meth c Tj190 lj190 1 8) (ej190 : Tj190.heap = h136) (Nj190 : Fr n0 lj190) (ex : Int32) (hx205 : (own_tl4 v4 v3 v2 v1) = ex), own_Fin p e below s room_1.cells room_1.slots (own_Q0 n0) Tj190 (mkF m 205 #[.val (.long p1), .second, .val (.int p2), .val (.ref b120), .val (.int (5 : Int32)), .val (.int ex), .unset] []) := by
      intro Tj190 lj190 Xj190 ej190 Nj190 ex hx205
      show own_Fin p e below s _ _ _ Tj190 (mkF m 205 #[.val (.long p1), .second, .val (.int p2), .val (.ref b120), .val (.int (5 : Int32)), .val (.int ex), .unset] [])
      refine own_by (fun _ k => XS.aloadN Xj190.here hx rfl (hb hby at_205) rfl rfl (XS.iload Xj190.here hx rfl (hb hby at_206) rfl k)) ?_
      show own_Fin p e below s _ _ _ Tj190 (mkF m 208 #[.val (.long p1), .second, .val (.int p2), .val (.ref b120), .val (.int (5 : Int32)), .val (.int ex), .unset] [(.int (5 : Int32)), (.ref b120)])
      obtain ⟨_, _, ⟨T191, L191, k191, n191⟩, -, X191, ⟨Lc191, hQ191, l191, y191, z191⟩, st191⟩ := Jvm.LawKit.callS Xj190 hx (y := (⟨"com/example/munka/munka/util/Utf8", "unfinishedTail", "([BI)I"⟩ : MethodName)) hown (mvT hZ (hw _ (List.mem_of_getElem? (i := 9) rfl))) (mvT hZ (hw _ (List.mem_of_getElem? (i := 10) rfl))) (mvT hZ (hw _ (List.mem_of_getElem? (i := 11) rfl))) (mvT hZ (hw _ (List.mem_of_getElem? (i := 12) rfl))) (by decide) (backOf (W := 0) (rmT5 l Z a0 hw [] b120 k120 v0 v1 v2 v3 v4 v5 v6 v7 h136 n0 Zs136 Vg) hZ (hw _ (List.mem_of_getElem? (i := 12) rfl)) (hw _ (List.mem_of_getElem? (i := 11) rfl)) (by decide) (by decide)) (g := (mkF m 208 #[.val (.long p1), .second, .val (.int p2), .val (.ref b120), .val (.int (5 : Int32)), .val (.int ex), .unset] [(.int (5 : Int32)), (.ref b120)])) rfl (by rw [hml]; rfl) (argsL := [(.ref b120), (.int (5 : Int32))]) (rest := []) (lenOf own_pd97 rfl) rfl (by show 2 * 0 + _ ≤ _; exact Nat.le_of_eq rfl) (hb hby at_208) (fun _ _ => ⟨rfl, ej190, (by decide : 1 + 0 ≤ _), (by decide : 8 + 0 ≤ _)⟩)
      dsimp only [Pt.U, Pt.locs, Pt.cells, Pt.slots] at X191 l191 y191 z191 st191 hQ191
      subst l191 y191 z191
      obtain ⟨rfl, Nq191, eh191⟩ := hQ191
      have N191 := Fr.app Nj190 Nq191
      refine own_by (fun _ k => st191 _ k) ?_
      show own_Fin p e below s _ _ _ T191 (mkF m 211 #[.val (.long p1), .second, .val (.int p2), .val (.ref b120), .val (.int (5 : Int32)), .val (.int ex), .unset] [(.int (own_tl4 v4 v3 v2 v1))])
      refine own_by (fun _ k => XS.istore X191.here hx rfl (hb hby at_211) rfl (l' := #[.val (.long p1), .second, .val (.int p2), .val (.ref b120), .val (.int (5 : Int32)), .val (.int ex), .val (.int (own_tl4 v4 v3 v2 v1))]) rfl (XS.iload X191.here hx rfl (hb hby at_213) rfl (XS.iload X191.here hx rfl (hb hby at_215) rfl k))) ?_
      show own_Fin p e below s _ _ _ T191 (mkF m 217 #[.val (.long p1), .second, .val (.int p2), .val (.ref b120), .val (.int (5 : Int32)), .val (.int ex), .val (.int (own_tl4 v4 v3 v2 v1))] [(.int ex), (.int (own_tl4 v4 v3 v2 v1))])
      refine own_by (fun _ k => XS.icmpNo X191.here hx rfl (hb hby at_217) rfl (teq hx205).2 k) ?_
      show own_Fin p e below s _ _ _ T191 (mkF m 220 #[.val (.long p1), .second, .val (.int p2), .val (.ref b120), .val (.int (5 : Int32)), .val (.int ex), .val (.int (own_tl4 v4 v3 v2 v1))] [])
      refine own_by (fun _ k => XS.iconst X191.here hx rfl (hb hby at_220) (XS.goto X191.here hx rfl (pc0 := 221) (pc' := 225) rfl (hb hby at_221) (by decide) (by decide) k)) ?_
      show own_Fin p e below s _ _ _ T191 (mkF m 225 #[.val (.long p1), .second, .val (.int p2), .val (.ref b120), .val (.int (5 : Int32)), .val (.int ex), .val (.int (own_tl4 v4 v3 v2 v1))] [(.int (1 : Int32))])
      exact own_retZ X191 hx hlk (t := .boolean) Bd.returns (by simp) (hb hby at_225) ⟨rfl, N191⟩ (by decide) (by decide)
    show own_Fin p e below s _ _ _ T136 (mkF m 88 #[.val (.long p1), .second, .val (.int p2), .val (.ref b120), .val (.int (5 : Int32)), .val (.int (0 : Int32)), .unset] [])
    refine own_by (fun _ k => XS.iload X136.here hx rfl (hb hby at_88) rfl (XS.iconst X136.here hx rfl (hb hby at_90) k)) ?_
    show own_Fin p e below s _ _ _ T136 (mkF m 91 #[.val (.long p1), .second, .val (.int p2), .val (.ref b120), .val (.int (5 : Int32)), .val (.int (0 : Int32)), .unset] [(.int (1 : Int32)), (.int (5 : Int32))])
    refine own_by (fun _ k => XS.icmpNo X136.here hx rfl (hb hby at_91) rfl (flt (by decide : ¬ ((5 : Int32) < (1 : Int32)))).1 k) ?_
    show own_Fin p e below s _ _ _ T136 (mkF m 94 #[.val (.long p1), .second, .val (.int p2), .val (.ref b120), .val (.int (5 : Int32)), .val (.int (0 : Int32)), .unset] [])
    refine own_by (fun _ k => XS.aloadN X136.here hx rfl (hb hby at_94) rfl rfl (XS.iload X136.here hx rfl (hb hby at_95) rfl (XS.iconst X136.here hx rfl (hb hby at_97) (XS.isub X136.here hx rfl (hb hby at_98) rfl k)))) ?_
    show own_Fin p e below s _ _ _ T136 (mkF m 99 #[.val (.long p1), .second, .val (.int p2), .val (.ref b120), .val (.int (5 : Int32)), .val (.int (0 : Int32)), .unset] [(.int ((5 : Int32) - (1 : Int32))), (.ref b120)])
    rw [(by decide : ((5 : Int32) - (1 : Int32)) = (4 : Int32))]
    show own_Fin p e below s _ _ _ T136 (mkF m 99 #[.val (.long p1), .second, .val (.int p2), .val (.ref b120), .val (.int (5 : Int32)), .val (.int (0 : Int32)), .unset] [(.int (4 : Int32)), (.ref b120)])
    obtain ⟨_, _, ⟨T192, L192, k192, n192⟩, -, X192, ⟨Lc192, hQ192, l192, y192, z192⟩, st192⟩ := Jvm.LawKit.callS X136 hx (y := (⟨"com/example/munka/munka/util/Utf8UnfinishedTailPinLaw", "u", "([BI)I"⟩ : MethodName)) hown (mvT hZ (hw _ (List.mem_of_getElem? (i := 2) rfl))) (mvT hZ (hw _ (List.mem_of_getElem? (i := 3) rfl))) (mvT hZ (hw _ (List.mem_of_getElem? (i := 4) rfl))) (mvT hZ (hw _ (List.mem_of_getElem? (i := 5) rfl))) (by decide) (backOf (W := 0) (rm1 l Z a0 hw [] b120 (4 : Int32) k120 (8 : Int32) [(.int v0), (.int v1), (.int v2), (.int v3), (.int v4), (.int v5), (.int v6), (.int v7)] v4 h136 n0 Zs136 Vg ⟨by decide, by decide⟩ rfl) hZ (hw _ (List.mem_of_getElem? (i := 5) rfl)) (hw _ (List.mem_of_getElem? (i := 4) rfl)) (by decide) (by decide)) (g := (mkF m 99 #[.val (.long p1), .second, .val (.int p2), .val (.ref b120), .val (.int (5 : Int32)), .val (.int (0 : Int32)), .unset] [(.int (4 : Int32)), (.ref b120)])) rfl (by rw [hml]; rfl) (argsL := [(.ref b120), (.int (4 : Int32))]) (rest := []) (lenOf own_pd97 rfl) rfl (by show 2 * 0 + _ ≤ _; exact Nat.le_of_eq rfl) (hb hby at_99) (fun _ _ => ⟨rfl, e136, (by decide : 1 + 0 ≤ _), (by decide : 8 + 0 ≤ _)⟩)
    dsimp only [Pt.U, Pt.locs, Pt.cells, Pt.slots] at X192 l192 y192 z192 st192 hQ192
    subst l192 y192 z192
    obtain ⟨rfl, Nq192, eh192⟩ := hQ192
    have N192 := Fr.app N136 Nq192
    refine own_by (fun _ k => st192 _ k) ?_
    show own_Fin p e below s _ _ _ T192 (mkF m 102 #[.val (.long p1), .second, .val (.int p2), .val (.ref b120), .val (.int (5 : Int32)), .val (.int (0 : Int32)), .unset] [(.int (v4 &&& (255 : Int32)))])
    refine own_by (fun _ k => XS.sipush X192.here hx rfl (hb hby at_102) k) ?_
    show own_Fin p e below s _ _ _ T192 (mkF m 105 #[.val (.long p1), .second, .val (.int p2), .val (.ref b120), .val (.int (5 : Int32)), .val (.int (0 : Int32)), .unset] [(.int (192 : Int32)), (.int (v4 &&& (255 : Int32)))])
    by_cases hc105_193 : (v4 &&& (255 : Int32)) < (192 : Int32)
    · show own_Fin p e below s _ _ _ T192 (mkF m 105 #[.val (.long p1), .second, .val (.int p2), .val (.ref b120), .val (.int (5 : Int32)), .val (.int (0 : Int32)), .unset] [(.int (192 : Int32)), (.int (v4 &&& (255 : Int32)))])
      refine own_by (fun _ k => XS.icmpYes X192.here hx rfl (pc0 := 105) (pc' := 114) rfl (hb hby at_105) rfl (tlt hc105_193).1 (by decide) (by decide) k) ?_
      show own_Fin p e below s _ _ _ T192 (mkF m 114 #[.val (.long p1), .second, .val (.int p2), .val (.ref b120), .val (.int (5 : Int32)), .val (.int (0 : Int32)), .unset] [])
      refine own_by (fun _ k => XS.iload X192.here hx rfl (hb hby at_114) rfl (XS.iconst X192.here hx rfl (hb hby at_116) k)) ?_
      show own_Fin p e below s _ _ _ T192 (mkF m 117 #[.val (.long p1), .second, .val (.int p2), .val (.ref b120), .val (.int (5 : Int32)), .val (.int (0 : Int32)), .unset] [(.int (2 : Int32)), (.int (5 : Int32))])
      refine own_by (fun _ k => XS.icmpNo X192.here hx rfl (hb hby at_117) rfl (flt (by decide : ¬ ((5 : Int32) < (2 : Int32)))).1 k) ?_
      show own_Fin p e below s _ _ _ T192 (mkF m 120 #[.val (.long p1), .second, .val (.int p2), .val (.ref b120), .val (.int (5 : Int32)), .val (.int (0 : Int32)), .unset] [])
      refine own_by (fun _ k => XS.aloadN X192.here hx rfl (hb hby at_120) rfl rfl (XS.iload X192.here hx rfl (hb hby at_121) rfl (XS.iconst X192.here hx rfl (hb hby at_123) (XS.isub X192.here hx rfl (hb hby at_124) rfl k)))) ?_
      show own_Fin p e below s _ _ _ T192 (mkF m 125 #[.val (.long p1), .second, .val (.int p2), .val (.ref b120), .val (.int (5 : Int32)), .val (.int (0 : Int32)), .unset] [(.int ((5 : Int32) - (1 : Int32))), (.ref b120)])
      rw [(by decide : ((5 : Int32) - (1 : Int32)) = (4 : Int32))]
      show own_Fin p e below s _ _ _ T192 (mkF m 125 #[.val (.long p1), .second, .val (.int p2), .val (.ref b120), .val (.int (5 : Int32)), .val (.int (0 : Int32)), .unset] [(.int (4 : Int32)), (.ref b120)])
      obtain ⟨_, _, ⟨T194, L194, k194, n194⟩, -, X194, ⟨Lc194, hQ194, l194, y194, z194⟩, st194⟩ := Jvm.LawKit.callS X192 hx (y := (⟨"com/example/munka/munka/util/Utf8UnfinishedTailPinLaw", "u", "([BI)I"⟩ : MethodName)) hown (mvT hZ (hw _ (List.mem_of_getElem? (i := 2) rfl))) (mvT hZ (hw _ (List.mem_of_getElem? (i := 3) rfl))) (mvT hZ (hw _ (List.mem_of_getElem? (i := 4) rfl))) (mvT hZ (hw _ (List.mem_of_getElem? (i := 5) rfl))) (by decide) (backOf (W := 0) (rm1 l Z a0 hw [] b120 (4 : Int32) k120 (8 : Int32) [(.int v0), (.int v1), (.int v2), (.int v3), (.int v4), (.int v5), (.int v6), (.int v7)] v4 h136 n0 Zs136 Vg ⟨by decide, by decide⟩ rfl) hZ (hw _ (List.mem_of_getElem? (i := 5) rfl)) (hw _ (List.mem_of_getElem? (i := 4) rfl)) (by decide) (by decide)) (g := (mkF m 125 #[.val (.long p1), .second, .val (.int p2), .val (.ref b120), .val (.int (5 : Int32)), .val (.int (0 : Int32)), .unset] [(.int (4 : Int32)), (.ref b120)])) rfl (by rw [hml]; rfl) (argsL := [(.ref b120), (.int (4 : Int32))]) (rest := []) (lenOf own_pd97 rfl) rfl (by show 2 * 0 + _ ≤ _; exact Nat.le_of_eq rfl) (hb hby at_125) (fun _ _ => ⟨rfl, eh192, (by decide : 1 + 0 ≤ _), (by decide : 8 + 0 ≤ _)⟩)
      dsimp only [Pt.U, Pt.locs, Pt.cells, Pt.slots] at X194 l194 y194 z194 st194 hQ194
      subst l194 y194 z194
      obtain ⟨rfl, Nq194, eh194⟩ := hQ194
      have N194 := Fr.app N192 Nq194
      refine own_by (fun _ k => st194 _ k) ?_
      show own_Fin p e below s _ _ _ T194 (mkF m 128 #[.val (.long p1), .second, .val (.int p2), .val (.ref b120), .val (.int (5 : Int32)), .val (.int (0 : Int32)), .unset] [(.int (v4 &&& (255 : Int32)))])
      obtain ⟨_, _, ⟨T195, L195, k195, n195⟩, -, X195, ⟨Lc195, hQ195, l195, y195, z195⟩, st195⟩ := Jvm.LawKit.callS X194 hx (y := (⟨"com/example/munka/munka/util/Utf8UnfinishedTailPinLaw", "cont", "(I)Z"⟩ : MethodName)) hown (mvT hZ (hw _ (List.mem_of_getElem? (i := 6) rfl))) (mvT hZ (hw _ (List.mem_of_getElem? (i := 7) rfl))) (mvT hZ (hw _ (List.mem_of_getElem? (i := 4) rfl))) (mvT hZ (hw _ (List.mem_of_getElem? (i := 8) rfl))) (by decide) (backOf (W := 0) (rm2 l Z a0 hw [] (v4 &&& (255 : Int32)) h136 n0 Zs136 ) hZ (hw _ (List.mem_of_getElem? (i := 8) rfl)) (hw _ (List.mem_of_getElem? (i := 4) rfl)) (by decide) (by decide)) (g := (mkF m 128 #[.val (.long p1), .second, .val (.int p2), .val (.ref b120), .val (.int (5 : Int32)), .val (.int (0 : Int32)), .unset] [(.int (v4 &&& (255 : Int32)))])) rfl (by rw [hml]; rfl) (argsL := [(.int (v4 &&& (255 : Int32)))]) (rest := []) (lenOf own_pd98 rfl) rfl (by show 2 * 0 + _ ≤ _; exact Nat.le_of_eq rfl) (hb hby at_128) (fun _ _ => ⟨rfl, eh194, (by decide : 1 + 0 ≤ _), (by decide : 8 + 0 ≤ _)⟩)
      dsimp only [Pt.U, Pt.locs, Pt.cells, Pt.slots] at X195 l195 y195 z195 st195 hQ195
      subst l195 y195 z195
      obtain ⟨rfl, Nq195, eh195⟩ := hQ195
      have N195 := Fr.app N194 Nq195
      refine own_by (fun _ k => st195 _ k) ?_
      show own_Fin p e below s _ _ _ T195 (mkF m 131 #[.val (.long p1), .second, .val (.int p2), .val (.ref b120), .val (.int (5 : Int32)), .val (.int (0 : Int32)), .unset] [(.int (own_cont (v4 &&& (255 : Int32))))])
      by_cases hc131_196 : (own_cont (v4 &&& (255 : Int32))) = (0 : Int32)
      · show own_Fin p e below s _ _ _ T195 (mkF m 131 #[.val (.long p1), .second, .val (.int p2), .val (.ref b120), .val (.int (5 : Int32)), .val (.int (0 : Int32)), .unset] [(.int (own_cont (v4 &&& (255 : Int32))))])
        refine own_by (fun _ k => XS.ifYes X195.here hx rfl (pc0 := 131) (pc' := 154) rfl (hb hby at_131) rfl ((if0 _ _).trans (teq hc131_196).1) (by decide) (by decide) k) ?_
        show own_Fin p e below s _ _ _ T195 (mkF m 154 #[.val (.long p1), .second, .val (.int p2), .val (.ref b120), .val (.int (5 : Int32)), .val (.int (0 : Int32)), .unset] [])
        refine own_by (fun _ k => XS.iload X195.here hx rfl (hb hby at_154) rfl (XS.iconst X195.here hx rfl (hb hby at_156) k)) ?_
        show own_Fin p e below s _ _ _ T195 (mkF m 157 #[.val (.long p1), .second, .val (.int p2), .val (.ref b120), .val (.int (5 : Int32)), .val (.int (0 : Int32)), .unset] [(.int (3 : Int32)), (.int (5 : Int32))])
        refine own_by (fun _ k => XS.icmpNo X195.here hx rfl (hb hby at_157) rfl (flt (by decide : ¬ ((5 : Int32) < (3 : Int32)))).1 k) ?_
        show own_Fin p e below s _ _ _ T195 (mkF m 160 #[.val (.long p1), .second, .val (.int p2), .val (.ref b120), .val (.int (5 : Int32)), .val (.int (0 : Int32)), .unset] [])
        refine own_by (fun _ k => XS.aloadN X195.here hx rfl (hb hby at_160) rfl rfl (XS.iload X195.here hx rfl (hb hby at_161) rfl (XS.iconst X195.here hx rfl (hb hby at_163) (XS.isub X195.here hx rfl (hb hby at_164) rfl k)))) ?_
        show own_Fin p e below s _ _ _ T195 (mkF m 165 #[.val (.long p1), .second, .val (.int p2), .val (.ref b120), .val (.int (5 : Int32)), .val (.int (0 : Int32)), .unset] [(.int ((5 : Int32) - (1 : Int32))), (.ref b120)])
        rw [(by decide : ((5 : Int32) - (1 : Int32)) = (4 : Int32))]
        show own_Fin p e below s _ _ _ T195 (mkF m 165 #[.val (.long p1), .second, .val (.int p2), .val (.ref b120), .val (.int (5 : Int32)), .val (.int (0 : Int32)), .unset] [(.int (4 : Int32)), (.ref b120)])
        obtain ⟨_, _, ⟨T197, L197, k197, n197⟩, -, X197, ⟨Lc197, hQ197, l197, y197, z197⟩, st197⟩ := Jvm.LawKit.callS X195 hx (y := (⟨"com/example/munka/munka/util/Utf8UnfinishedTailPinLaw", "u", "([BI)I"⟩ : MethodName)) hown (mvT hZ (hw _ (List.mem_of_getElem? (i := 2) rfl))) (mvT hZ (hw _ (List.mem_of_getElem? (i := 3) rfl))) (mvT hZ (hw _ (List.mem_of_getElem? (i := 4) rfl))) (mvT hZ (hw _ (List.mem_of_getElem? (i := 5) rfl))) (by decide) (backOf (W := 0) (rm1 l Z a0 hw [] b120 (4 : Int32) k120 (8 : Int32) [(.int v0), (.int v1), (.int v2), (.int v3), (.int v4), (.int v5), (.int v6), (.int v7)] v4 h136 n0 Zs136 Vg ⟨by decide, by decide⟩ rfl) hZ (hw _ (List.mem_of_getElem? (i := 5) rfl)) (hw _ (List.mem_of_getElem? (i := 4) rfl)) (by decide) (by decide)) (g := (mkF m 165 #[.val (.long p1), .second, .val (.int p2), .val (.ref b120), .val (.int (5 : Int32)), .val (.int (0 : Int32)), .unset] [(.int (4 : Int32)), (.ref b120)])) rfl (by rw [hml]; rfl) (argsL := [(.ref b120), (.int (4 : Int32))]) (rest := []) (lenOf own_pd97 rfl) rfl (by show 2 * 0 + _ ≤ _; exact Nat.le_of_eq rfl) (hb hby at_165) (fun _ _ => ⟨rfl, eh195, (by decide : 1 + 0 ≤ _), (by decide : 8 + 0 ≤ _)⟩)
        dsimp only [Pt.U, Pt.locs, Pt.cells, Pt.slots] at X197 l197 y197 z197 st197 hQ197
        subst l197 y197 z197
        obtain ⟨rfl, Nq197, eh197⟩ := hQ197
        have N197 := Fr.app N195 Nq197
        refine own_by (fun _ k => st197 _ k) ?_
        show own_Fin p e below s _ _ _ T197 (mkF m 168 #[.val (.long p1), .second, .val (.int p2), .val (.ref b120), .val (.int (5 : Int32)), .val (.int (0 : Int32)), .unset] [(.int (v4 &&& (255 : Int32)))])
        obtain ⟨_, _, ⟨T198, L198, k198, n198⟩, -, X198, ⟨Lc198, hQ198, l198, y198, z198⟩, st198⟩ := Jvm.LawKit.callS X197 hx (y := (⟨"com/example/munka/munka/util/Utf8UnfinishedTailPinLaw", "cont", "(I)Z"⟩ : MethodName)) hown (mvT hZ (hw _ (List.mem_of_getElem? (i := 6) rfl))) (mvT hZ (hw _ (List.mem_of_getElem? (i := 7) rfl))) (mvT hZ (hw _ (List.mem_of_getElem? (i := 4) rfl))) (mvT hZ (hw _ (List.mem_of_getElem? (i := 8) rfl))) (by decide) (backOf (W := 0) (rm2 l Z a0 hw [] (v4 &&& (255 : Int32)) h136 n0 Zs136 ) hZ (hw _ (List.mem_of_getElem? (i := 8) rfl)) (hw _ (List.mem_of_getElem? (i := 4) rfl)) (by decide) (by decide)) (g := (mkF m 168 #[.val (.long p1), .second, .val (.int p2), .val (.ref b120), .val (.int (5 : Int32)), .val (.int (0 : Int32)), .unset] [(.int (v4 &&& (255 : Int32)))])) rfl (by rw [hml]; rfl) (argsL := [(.int (v4 &&& (255 : Int32)))]) (rest := []) (lenOf own_pd98 rfl) rfl (by show 2 * 0 + _ ≤ _; exact Nat.le_of_eq rfl) (hb hby at_168) (fun _ _ => ⟨rfl, eh197, (by decide : 1 + 0 ≤ _), (by decide : 8 + 0 ≤ _)⟩)
        dsimp only [Pt.U, Pt.locs, Pt.cells, Pt.slots] at X198 l198 y198 z198 st198 hQ198
        subst l198 y198 z198
        obtain ⟨rfl, Nq198, eh198⟩ := hQ198
        have N198 := Fr.app N197 Nq198
        refine own_by (fun _ k => st198 _ k) ?_
        show own_Fin p e below s _ _ _ T198 (mkF m 171 #[.val (.long p1), .second, .val (.int p2), .val (.ref b120), .val (.int (5 : Int32)), .val (.int (0 : Int32)), .unset] [(.int (own_cont (v4 &&& (255 : Int32))))])
        refine own_by (fun _ k => XS.ifYes X198.here hx rfl (pc0 := 171) (pc' := 205) rfl (hb hby at_171) rfl ((if0 _ _).trans (teq hc131_196).1) (by decide) (by decide) k) ?_
        show own_Fin p e below s _ _ _ T198 (mkF m 205 #[.val (.long p1), .second, .val (.int p2), .val (.ref b120), .val (.int (5 : Int32)), .val (.int (0 : Int32)), .unset] [])
        exact J205_190 T198 _ X198 eh198 N198 ((0 : Int32)) ((own_eq4 v4 v3 v2 v1).trans (by simp [own_ex3, hc105_193, hc131_196]))
      · show own_Fin p e below s _ _ _ T195 (mkF m 131 #[.val (.long p1), .second, .val (.int p2), .val (.ref b120), .val (.int (5 : Int32)), .val (.int (0 : Int32)), .unset] [(.int (own_cont (v4 &&& (255 : Int32))))])
        refine own_by (fun _ k => XS.ifNo X195.here hx rfl (hb hby at_131) rfl ((if0 _ _).trans (feq hc131_196).1) k) ?_
        show own_Fin p e below s _ _ _ T195 (mkF m 134 #[.val (.long p1), .second, .val (.int p2), .val (.ref b120), .val (.int (5 : Int32)), .val (.int (0 : Int32)), .unset] [])
        refine own_by (fun _ k => XS.aloadN X195.here hx rfl (hb hby at_134) rfl rfl (XS.iload X195.here hx rfl (hb hby at_135) rfl (XS.iconst X195.here hx rfl (hb hby at_137) (XS.isub X195.here hx rfl (hb hby at_138) rfl k)))) ?_
        show own_Fin p e below s _ _ _ T195 (mkF m 139 #[.val (.long p1), .second, .val (.int p2), .val (.ref b120), .val (.int (5 : Int32)), .val (.int (0 : Int32)), .unset] [(.int ((5 : Int32) - (2 : Int32))), (.ref b120)])
        rw [(by decide : ((5 : Int32) - (2 : Int32)) = (3 : Int32))]
        show own_Fin p e below s _ _ _ T195 (mkF m 139 #[.val (.long p1), .second, .val (.int p2), .val (.ref b120), .val (.int (5 : Int32)), .val (.int (0 : Int32)), .unset] [(.int (3 : Int32)), (.ref b120)])
        obtain ⟨_, _, ⟨T199, L199, k199, n199⟩, -, X199, ⟨Lc199, hQ199, l199, y199, z199⟩, st199⟩ := Jvm.LawKit.callS X195 hx (y := (⟨"com/example/munka/munka/util/Utf8UnfinishedTailPinLaw", "u", "([BI)I"⟩ : MethodName)) hown (mvT hZ (hw _ (List.mem_of_getElem? (i := 2) rfl))) (mvT hZ (hw _ (List.mem_of_getElem? (i := 3) rfl))) (mvT hZ (hw _ (List.mem_of_getElem? (i := 4) rfl))) (mvT hZ (hw _ (List.mem_of_getElem? (i := 5) rfl))) (by decide) (backOf (W := 0) (rm1 l Z a0 hw [] b120 (3 : Int32) k120 (8 : Int32) [(.int v0), (.int v1), (.int v2), (.int v3), (.int v4), (.int v5), (.int v6), (.int v7)] v3 h136 n0 Zs136 Vg ⟨by decide, by decide⟩ rfl) hZ (hw _ (List.mem_of_getElem? (i := 5) rfl)) (hw _ (List.mem_of_getElem? (i := 4) rfl)) (by decide) (by decide)) (g := (mkF m 139 #[.val (.long p1), .second, .val (.int p2), .val (.ref b120), .val (.int (5 : Int32)), .val (.int (0 : Int32)), .unset] [(.int (3 : Int32)), (.ref b120)])) rfl (by rw [hml]; rfl) (argsL := [(.ref b120), (.int (3 : Int32))]) (rest := []) (lenOf own_pd97 rfl) rfl (by show 2 * 0 + _ ≤ _; exact Nat.le_of_eq rfl) (hb hby at_139) (fun _ _ => ⟨rfl, eh195, (by decide : 1 + 0 ≤ _), (by decide : 8 + 0 ≤ _)⟩)
        dsimp only [Pt.U, Pt.locs, Pt.cells, Pt.slots] at X199 l199 y199 z199 st199 hQ199
        subst l199 y199 z199
        obtain ⟨rfl, Nq199, eh199⟩ := hQ199
        have N199 := Fr.app N195 Nq199
        refine own_by (fun _ k => st199 _ k) ?_
        show own_Fin p e below s _ _ _ T199 (mkF m 142 #[.val (.long p1), .second, .val (.int p2), .val (.ref b120), .val (.int (5 : Int32)), .val (.int (0 : Int32)), .unset] [(.int (v3 &&& (255 : Int32)))])
        refine own_by (fun _ k => XS.sipush X199.here hx rfl (hb hby at_142) k) ?_
        show own_Fin p e below s _ _ _ T199 (mkF m 145 #[.val (.long p1), .second, .val (.int p2), .val (.ref b120), .val (.int (5 : Int32)), .val (.int (0 : Int32)), .unset] [(.int (224 : Int32)), (.int (v3 &&& (255 : Int32)))])
        by_cases hc145_200 : (v3 &&& (255 : Int32)) < (224 : Int32)
        · show own_Fin p e below s _ _ _ T199 (mkF m 145 #[.val (.long p1), .second, .val (.int p2), .val (.ref b120), .val (.int (5 : Int32)), .val (.int (0 : Int32)), .unset] [(.int (224 : Int32)), (.int (v3 &&& (255 : Int32)))])
          refine own_by (fun _ k => XS.icmpYes X199.here hx rfl (pc0 := 145) (pc' := 154) rfl (hb hby at_145) rfl (tlt hc145_200).1 (by decide) (by decide) k) ?_
          show own_Fin p e below s _ _ _ T199 (mkF m 154 #[.val (.long p1), .second, .val (.int p2), .val (.ref b120), .val (.int (5 : Int32)), .val (.int (0 : Int32)), .unset] [])
          refine own_by (fun _ k => XS.iload X199.here hx rfl (hb hby at_154) rfl (XS.iconst X199.here hx rfl (hb hby at_156) k)) ?_
          show own_Fin p e below s _ _ _ T199 (mkF m 157 #[.val (.long p1), .second, .val (.int p2), .val (.ref b120), .val (.int (5 : Int32)), .val (.int (0 : Int32)), .unset] [(.int (3 : Int32)), (.int (5 : Int32))])
          refine own_by (fun _ k => XS.icmpNo X199.here hx rfl (hb hby at_157) rfl (flt (by decide : ¬ ((5 : Int32) < (3 : Int32)))).1 k) ?_
          show own_Fin p e below s _ _ _ T199 (mkF m 160 #[.val (.long p1), .second, .val (.int p2), .val (.ref b120), .val (.int (5 : Int32)), .val (.int (0 : Int32)), .unset] [])
          refine own_by (fun _ k => XS.aloadN X199.here hx rfl (hb hby at_160) rfl rfl (XS.iload X199.here hx rfl (hb hby at_161) rfl (XS.iconst X199.here hx rfl (hb hby at_163) (XS.isub X199.here hx rfl (hb hby at_164) rfl k)))) ?_
          show own_Fin p e below s _ _ _ T199 (mkF m 165 #[.val (.long p1), .second, .val (.int p2), .val (.ref b120), .val (.int (5 : Int32)), .val (.int (0 : Int32)), .unset] [(.int ((5 : Int32) - (1 : Int32))), (.ref b120)])
          rw [(by decide : ((5 : Int32) - (1 : Int32)) = (4 : Int32))]
          show own_Fin p e below s _ _ _ T199 (mkF m 165 #[.val (.long p1), .second, .val (.int p2), .val (.ref b120), .val (.int (5 : Int32)), .val (.int (0 : Int32)), .unset] [(.int (4 : Int32)), (.ref b120)])
          obtain ⟨_, _, ⟨T201, L201, k201, n201⟩, -, X201, ⟨Lc201, hQ201, l201, y201, z201⟩, st201⟩ := Jvm.LawKit.callS X199 hx (y := (⟨"com/example/munka/munka/util/Utf8UnfinishedTailPinLaw", "u", "([BI)I"⟩ : MethodName)) hown (mvT hZ (hw _ (List.mem_of_getElem? (i := 2) rfl))) (mvT hZ (hw _ (List.mem_of_getElem? (i := 3) rfl))) (mvT hZ (hw _ (List.mem_of_getElem? (i := 4) rfl))) (mvT hZ (hw _ (List.mem_of_getElem? (i := 5) rfl))) (by decide) (backOf (W := 0) (rm1 l Z a0 hw [] b120 (4 : Int32) k120 (8 : Int32) [(.int v0), (.int v1), (.int v2), (.int v3), (.int v4), (.int v5), (.int v6), (.int v7)] v4 h136 n0 Zs136 Vg ⟨by decide, by decide⟩ rfl) hZ (hw _ (List.mem_of_getElem? (i := 5) rfl)) (hw _ (List.mem_of_getElem? (i := 4) rfl)) (by decide) (by decide)) (g := (mkF m 165 #[.val (.long p1), .second, .val (.int p2), .val (.ref b120), .val (.int (5 : Int32)), .val (.int (0 : Int32)), .unset] [(.int (4 : Int32)), (.ref b120)])) rfl (by rw [hml]; rfl) (argsL := [(.ref b120), (.int (4 : Int32))]) (rest := []) (lenOf own_pd97 rfl) rfl (by show 2 * 0 + _ ≤ _; exact Nat.le_of_eq rfl) (hb hby at_165) (fun _ _ => ⟨rfl, eh199, (by decide : 1 + 0 ≤ _), (by decide : 8 + 0 ≤ _)⟩)
          dsimp only [Pt.U, Pt.locs, Pt.cells, Pt.slots] at X201 l201 y201 z201 st201 hQ201
          subst l201 y201 z201
          obtain ⟨rfl, Nq201, eh201⟩ := hQ201
          have N201 := Fr.app N199 Nq201
          refine own_by (fun _ k => st201 _ k) ?_
          show own_Fin p e below s _ _ _ T201 (mkF m 168 #[.val (.long p1), .second, .val (.int p2), .val (.ref b120), .val (.int (5 : Int32)), .val (.int (0 : Int32)), .unset] [(.int (v4 &&& (255 : Int32)))])
          obtain ⟨_, _, ⟨T202, L202, k202, n202⟩, -, X202, ⟨Lc202, hQ202, l202, y202, z202⟩, st202⟩ := Jvm.LawKit.callS X201 hx (y := (⟨"com/example/munka/munka/util/Utf8UnfinishedTailPinLaw", "cont", "(I)Z"⟩ : MethodName)) hown (mvT hZ (hw _ (List.mem_of_getElem? (i := 6) rfl))) (mvT hZ (hw _ (List.mem_of_getElem? (i := 7) rfl))) (mvT hZ (hw _ (List.mem_of_getElem? (i := 4) rfl))) (mvT hZ (hw _ (List.mem_of_getElem? (i := 8) rfl))) (by decide) (backOf (W := 0) (rm2 l Z a0 hw [] (v4 &&& (255 : Int32)) h136 n0 Zs136 ) hZ (hw _ (List.mem_of_getElem? (i := 8) rfl)) (hw _ (List.mem_of_getElem? (i := 4) rfl)) (by decide) (by decide)) (g := (mkF m 168 #[.val (.long p1), .second, .val (.int p2), .val (.ref b120), .val (.int (5 : Int32)), .val (.int (0 : Int32)), .unset] [(.int (v4 &&& (255 : Int32)))])) rfl (by rw [hml]; rfl) (argsL := [(.int (v4 &&& (255 : Int32)))]) (rest := []) (lenOf own_pd98 rfl) rfl (by show 2 * 0 + _ ≤ _; exact Nat.le_of_eq rfl) (hb hby at_168) (fun _ _ => ⟨rfl, eh201, (by decide : 1 + 0 ≤ _), (by decide : 8 + 0 ≤ _)⟩)
          dsimp only [Pt.U, Pt.locs, Pt.cells, Pt.slots] at X202 l202 y202 z202 st202 hQ202
          subst l202 y202 z202
          obtain ⟨rfl, Nq202, eh202⟩ := hQ202
          have N202 := Fr.app N201 Nq202
          refine own_by (fun _ k => st202 _ k) ?_
          show own_Fin p e below s _ _ _ T202 (mkF m 171 #[.val (.long p1), .second, .val (.int p2), .val (.ref b120), .val (.int (5 : Int32)), .val (.int (0 : Int32)), .unset] [(.int (own_cont (v4 &&& (255 : Int32))))])
          refine own_by (fun _ k => XS.ifNo X202.here hx rfl (hb hby at_171) rfl ((if0 _ _).trans (feq hc131_196).1) k) ?_
          show own_Fin p e below s _ _ _ T202 (mkF m 174 #[.val (.long p1), .second, .val (.int p2), .val (.ref b120), .val (.int (5 : Int32)), .val (.int (0 : Int32)), .unset] [])
          refine own_by (fun _ k => XS.aloadN X202.here hx rfl (hb hby at_174) rfl rfl (XS.iload X202.here hx rfl (hb hby at_175) rfl (XS.iconst X202.here hx rfl (hb hby at_177) (XS.isub X202.here hx rfl (hb hby at_178) rfl k)))) ?_
          show own_Fin p e below s _ _ _ T202 (mkF m 179 #[.val (.long p1), .second, .val (.int p2), .val (.ref b120), .val (.int (5 : Int32)), .val (.int (0 : Int32)), .unset] [(.int ((5 : Int32) - (2 : Int32))), (.ref b120)])
          rw [(by decide : ((5 : Int32) - (2 : Int32)) = (3 : Int32))]
          show own_Fin p e below s _ _ _ T202 (mkF m 179 #[.val (.long p1), .second, .val (.int p2), .val (.ref b120), .val (.int (5 : Int32)), .val (.int (0 : Int32)), .unset] [(.int (3 : Int32)), (.ref b120)])
          obtain ⟨_, _, ⟨T203, L203, k203, n203⟩, -, X203, ⟨Lc203, hQ203, l203, y203, z203⟩, st203⟩ := Jvm.LawKit.callS X202 hx (y := (⟨"com/example/munka/munka/util/Utf8UnfinishedTailPinLaw", "u", "([BI)I"⟩ : MethodName)) hown (mvT hZ (hw _ (List.mem_of_getElem? (i := 2) rfl))) (mvT hZ (hw _ (List.mem_of_getElem? (i := 3) rfl))) (mvT hZ (hw _ (List.mem_of_getElem? (i := 4) rfl))) (mvT hZ (hw _ (List.mem_of_getElem? (i := 5) rfl))) (by decide) (backOf (W := 0) (rm1 l Z a0 hw [] b120 (3 : Int32) k120 (8 : Int32) [(.int v0), (.int v1), (.int v2), (.int v3), (.int v4), (.int v5), (.int v6), (.int v7)] v3 h136 n0 Zs136 Vg ⟨by decide, by decide⟩ rfl) hZ (hw _ (List.mem_of_getElem? (i := 5) rfl)) (hw _ (List.mem_of_getElem? (i := 4) rfl)) (by decide) (by decide)) (g := (mkF m 179 #[.val (.long p1), .second, .val (.int p2), .val (.ref b120), .val (.int (5 : Int32)), .val (.int (0 : Int32)), .unset] [(.int (3 : Int32)), (.ref b120)])) rfl (by rw [hml]; rfl) (argsL := [(.ref b120), (.int (3 : Int32))]) (rest := []) (lenOf own_pd97 rfl) rfl (by show 2 * 0 + _ ≤ _; exact Nat.le_of_eq rfl) (hb hby at_179) (fun _ _ => ⟨rfl, eh202, (by decide : 1 + 0 ≤ _), (by decide : 8 + 0 ≤ _)⟩)
          dsimp only [Pt.U, Pt.locs, Pt.cells, Pt.slots] at X203 l203 y203 z203 st203 hQ203
          subst l203 y203 z203
          obtain ⟨rfl, Nq203, eh203⟩ := hQ203
          have N203 := Fr.app N202 Nq203
          refine own_by (fun _ k => st203 _ k) ?_
          show own_Fin p e below s _ _ _ T203 (mkF m 182 #[.val (.long p1), .second, .val (.int p2), .val (.ref b120), .val (.int (5 : Int32)), .val (.int (0 : Int32)), .unset] [(.int (v3 &&& (255 : Int32)))])
          obtain ⟨_, _, ⟨T204, L204, k204, n204⟩, -, X204, ⟨Lc204, hQ204, l204, y204, z204⟩, st204⟩ := Jvm.LawKit.callS X203 hx (y := (⟨"com/example/munka/munka/util/Utf8UnfinishedTailPinLaw", "cont", "(I)Z"⟩ : MethodName)) hown (mvT hZ (hw _ (List.mem_of_getElem? (i := 6) rfl))) (mvT hZ (hw _ (List.mem_of_getElem? (i := 7) rfl))) (mvT hZ (hw _ (List.mem_of_getElem? (i := 4) rfl))) (mvT hZ (hw _ (List.mem_of_getElem? (i := 8) rfl))) (by decide) (backOf (W := 0) (rm2 l Z a0 hw [] (v3 &&& (255 : Int32)) h136 n0 Zs136 ) hZ (hw _ (List.mem_of_getElem? (i := 8) rfl)) (hw _ (List.mem_of_getElem? (i := 4) rfl)) (by decide) (by decide)) (g := (mkF m 182 #[.val (.long p1), .second, .val (.int p2), .val (.ref b120), .val (.int (5 : Int32)), .val (.int (0 : Int32)), .unset] [(.int (v3 &&& (255 : Int32)))])) rfl (by rw [hml]; rfl) (argsL := [(.int (v3 &&& (255 : Int32)))]) (rest := []) (lenOf own_pd98 rfl) rfl (by show 2 * 0 + _ ≤ _; exact Nat.le_of_eq rfl) (hb hby at_182) (fun _ _ => ⟨rfl, eh203, (by decide : 1 + 0 ≤ _), (by decide : 8 + 0 ≤ _)⟩)
          dsimp only [Pt.U, Pt.locs, Pt.cells, Pt.slots] at X204 l204 y204 z204 st204 hQ204
          subst l204 y204 z204
          obtain ⟨rfl, Nq204, eh204⟩ := hQ204
          have N204 := Fr.app N203 Nq204
          refine own_by (fun _ k => st204 _ k) ?_
          show own_Fin p e below s _ _ _ T204 (mkF m 185 #[.val (.long p1), .second, .val (.int p2), .val (.ref b120), .val (.int (5 : Int32)), .val (.int (0 : Int32)), .unset] [(.int (own_cont (v3 &&& (255 : Int32))))])
          by_cases hc185_205 : (own_cont (v3 &&& (255 : Int32))) = (0 : Int32)
          · show own_Fin p e below s _ _ _ T204 (mkF m 185 #[.val (.long p1), .second, .val (.int p2), .val (.ref b120), .val (.int (5 : Int32)), .val (.int (0 : Int32)), .unset] [(.int (own_cont (v3 &&& (255 : Int32))))])
            refine own_by (fun _ k => XS.ifYes X204.here hx rfl (pc0 := 185) (pc' := 205) rfl (hb hby at_185) rfl ((if0 _ _).trans (teq hc185_205).1) (by decide) (by decide) k) ?_
            show own_Fin p e below s _ _ _ T204 (mkF m 205 #[.val (.long p1), .second, .val (.int p2), .val (.ref b120), .val (.int (5 : Int32)), .val (.int (0 : Int32)), .unset] [])
            exact J205_190 T204 _ X204 eh204 N204 ((0 : Int32)) ((own_eq4 v4 v3 v2 v1).trans (by simp [own_ex3, hc105_193, hc131_196, hc145_200, hc185_205]))
          · show own_Fin p e below s _ _ _ T204 (mkF m 185 #[.val (.long p1), .second, .val (.int p2), .val (.ref b120), .val (.int (5 : Int32)), .val (.int (0 : Int32)), .unset] [(.int (own_cont (v3 &&& (255 : Int32))))])
            refine own_by (fun _ k => XS.ifNo X204.here hx rfl (hb hby at_185) rfl ((if0 _ _).trans (feq hc185_205).1) k) ?_
            show own_Fin p e below s _ _ _ T204 (mkF m 188 #[.val (.long p1), .second, .val (.int p2), .val (.ref b120), .val (.int (5 : Int32)), .val (.int (0 : Int32)), .unset] [])
            refine own_by (fun _ k => XS.aloadN X204.here hx rfl (hb hby at_188) rfl rfl (XS.iload X204.here hx rfl (hb hby at_189) rfl (XS.iconst X204.here hx rfl (hb hby at_191) (XS.isub X204.here hx rfl (hb hby at_192) rfl k)))) ?_
            show own_Fin p e below s _ _ _ T204 (mkF m 193 #[.val (.long p1), .second, .val (.int p2), .val (.ref b120), .val (.int (5 : Int32)), .val (.int (0 : Int32)), .unset] [(.int ((5 : Int32) - (3 : Int32))), (.ref b120)])
            rw [(by decide : ((5 : Int32) - (3 : Int32)) = (2 : Int32))]
            show own_Fin p e below s _ _ _ T204 (mkF m 193 #[.val (.long p1), .second, .val (.int p2), .val (.ref b120), .val (.int (5 : Int32)), .val (.int (0 : Int32)), .unset] [(.int (2 : Int32)), (.ref b120)])
            obtain ⟨_, _, ⟨T206, L206, k206, n206⟩, -, X206, ⟨Lc206, hQ206, l206, y206, z206⟩, st206⟩ := Jvm.LawKit.callS X204 hx (y := (⟨"com/example/munka/munka/util/Utf8UnfinishedTailPinLaw", "u", "([BI)I"⟩ : MethodName)) hown (mvT hZ (hw _ (List.mem_of_getElem? (i := 2) rfl))) (mvT hZ (hw _ (List.mem_of_getElem? (i := 3) rfl))) (mvT hZ (hw _ (List.mem_of_getElem? (i := 4) rfl))) (mvT hZ (hw _ (List.mem_of_getElem? (i := 5) rfl))) (by decide) (backOf (W := 0) (rm1 l Z a0 hw [] b120 (2 : Int32) k120 (8 : Int32) [(.int v0), (.int v1), (.int v2), (.int v3), (.int v4), (.int v5), (.int v6), (.int v7)] v2 h136 n0 Zs136 Vg ⟨by decide, by decide⟩ rfl) hZ (hw _ (List.mem_of_getElem? (i := 5) rfl)) (hw _ (List.mem_of_getElem? (i := 4) rfl)) (by decide) (by decide)) (g := (mkF m 193 #[.val (.long p1), .second, .val (.int p2), .val (.ref b120), .val (.int (5 : Int32)), .val (.int (0 : Int32)), .unset] [(.int (2 : Int32)), (.ref b120)])) rfl (by rw [hml]; rfl) (argsL := [(.ref b120), (.int (2 : Int32))]) (rest := []) (lenOf own_pd97 rfl) rfl (by show 2 * 0 + _ ≤ _; exact Nat.le_of_eq rfl) (hb hby at_193) (fun _ _ => ⟨rfl, eh204, (by decide : 1 + 0 ≤ _), (by decide : 8 + 0 ≤ _)⟩)
            dsimp only [Pt.U, Pt.locs, Pt.cells, Pt.slots] at X206 l206 y206 z206 st206 hQ206
            subst l206 y206 z206
            obtain ⟨rfl, Nq206, eh206⟩ := hQ206
            have N206 := Fr.app N204 Nq206
            refine own_by (fun _ k => st206 _ k) ?_
            show own_Fin p e below s _ _ _ T206 (mkF m 196 #[.val (.long p1), .second, .val (.int p2), .val (.ref b120), .val (.int (5 : Int32)), .val (.int (0 : Int32)), .unset] [(.int (v2 &&& (255 : Int32)))])
            refine own_by (fun _ k => XS.sipush X206.here hx rfl (hb hby at_196) k) ?_
            show own_Fin p e below s _ _ _ T206 (mkF m 199 #[.val (.long p1), .second, .val (.int p2), .val (.ref b120), .val (.int (5 : Int32)), .val (.int (0 : Int32)), .unset] [(.int (240 : Int32)), (.int (v2 &&& (255 : Int32)))])
            by_cases hc199_207 : (v2 &&& (255 : Int32)) < (240 : Int32)
            · show own_Fin p e below s _ _ _ T206 (mkF m 199 #[.val (.long p1), .second, .val (.int p2), .val (.ref b120), .val (.int (5 : Int32)), .val (.int (0 : Int32)), .unset] [(.int (240 : Int32)), (.int (v2 &&& (255 : Int32)))])
              refine own_by (fun _ k => XS.icmpYes X206.here hx rfl (pc0 := 199) (pc' := 205) rfl (hb hby at_199) rfl (tlt hc199_207).1 (by decide) (by decide) k) ?_
              show own_Fin p e below s _ _ _ T206 (mkF m 205 #[.val (.long p1), .second, .val (.int p2), .val (.ref b120), .val (.int (5 : Int32)), .val (.int (0 : Int32)), .unset] [])
              exact J205_190 T206 _ X206 eh206 N206 ((0 : Int32)) ((own_eq4 v4 v3 v2 v1).trans (by simp [own_ex3, hc105_193, hc131_196, hc145_200, hc185_205, hc199_207]))
            · show own_Fin p e below s _ _ _ T206 (mkF m 199 #[.val (.long p1), .second, .val (.int p2), .val (.ref b120), .val (.int (5 : Int32)), .val (.int (0 : Int32)), .unset] [(.int (240 : Int32)), (.int (v2 &&& (255 : Int32)))])
              refine own_by (fun _ k => XS.icmpNo X206.here hx rfl (hb hby at_199) rfl (flt hc199_207).1 k) ?_
              show own_Fin p e below s _ _ _ T206 (mkF m 202 #[.val (.long p1), .second, .val (.int p2), .val (.ref b120), .val (.int (5 : Int32)), .val (.int (0 : Int32)), .unset] [])
              refine own_by (fun _ k => XS.iconst X206.here hx rfl (hb hby at_202) (XS.istore X206.here hx rfl (hb hby at_203) rfl (l' := #[.val (.long p1), .second, .val (.int p2), .val (.ref b120), .val (.int (5 : Int32)), .val (.int (3 : Int32)), .unset]) rfl k)) ?_
              show own_Fin p e below s _ _ _ T206 (mkF m 205 #[.val (.long p1), .second, .val (.int p2), .val (.ref b120), .val (.int (5 : Int32)), .val (.int (3 : Int32)), .unset] [])
              exact J205_190 T206 _ X206 eh206 N206 ((3 : Int32)) ((own_eq4 v4 v3 v2 v1).trans (by simp [own_ex3, hc105_193, hc131_196, hc145_200, hc185_205, hc199_207]))
        · show own_Fin p e below s _ _ _ T199 (mkF m 145 #[.val (.long p1), .second, .val (.int p2), .val (.ref b120), .val (.int (5 : Int32)), .val (.int (0 : Int32)), .unset] [(.int (224 : Int32)), (.int (v3 &&& (255 : Int32)))])
          refine own_by (fun _ k => XS.icmpNo X199.here hx rfl (hb hby at_145) rfl (flt hc145_200).1 k) ?_
          show own_Fin p e below s _ _ _ T199 (mkF m 148 #[.val (.long p1), .second, .val (.int p2), .val (.ref b120), .val (.int (5 : Int32)), .val (.int (0 : Int32)), .unset] [])
          refine own_by (fun _ k => XS.iconst X199.here hx rfl (hb hby at_148) (XS.istore X199.here hx rfl (hb hby at_149) rfl (l' := #[.val (.long p1), .second, .val (.int p2), .val (.ref b120), .val (.int (5 : Int32)), .val (.int (2 : Int32)), .unset]) rfl (XS.goto X199.here hx rfl (pc0 := 151) (pc' := 205) rfl (hb hby at_151) (by decide) (by decide) k))) ?_
          show own_Fin p e below s _ _ _ T199 (mkF m 205 #[.val (.long p1), .second, .val (.int p2), .val (.ref b120), .val (.int (5 : Int32)), .val (.int (2 : Int32)), .unset] [])
          exact J205_190 T199 _ X199 eh199 N199 ((2 : Int32)) ((own_eq4 v4 v3 v2 v1).trans (by simp [own_ex3, hc105_193, hc131_196, hc145_200]))
    · show own_Fin p e below s _ _ _ T192 (mkF m 105 #[.val (.long p1), .second, .val (.int p2), .val (.ref b120), .val (.int (5 : Int32)), .val (.int (0 : Int32)), .unset] [(.int (192 : Int32)), (.int (v4 &&& (255 : Int32)))])
      refine own_by (fun _ k => XS.icmpNo X192.here hx rfl (hb hby at_105) rfl (flt hc105_193).1 k) ?_
      show own_Fin p e below s _ _ _ T192 (mkF m 108 #[.val (.long p1), .second, .val (.int p2), .val (.ref b120), .val (.int (5 : Int32)), .val (.int (0 : Int32)), .unset] [])
      refine own_by (fun _ k => XS.iconst X192.here hx rfl (hb hby at_108) (XS.istore X192.here hx rfl (hb hby at_109) rfl (l' := #[.val (.long p1), .second, .val (.int p2), .val (.ref b120), .val (.int (5 : Int32)), .val (.int (1 : Int32)), .unset]) rfl (XS.goto X192.here hx rfl (pc0 := 111) (pc' := 205) rfl (hb hby at_111) (by decide) (by decide) k))) ?_
      show own_Fin p e below s _ _ _ T192 (mkF m 205 #[.val (.long p1), .second, .val (.int p2), .val (.ref b120), .val (.int (5 : Int32)), .val (.int (1 : Int32)), .unset] [])
      exact J205_190 T192 _ X192 eh192 N192 ((1 : Int32)) ((own_eq4 v4 v3 v2 v1).trans (by simp [own_ex3, hc105_193]))
  · show own_Fin p e below s _ _ _ T136 (mkF m 83 #[.val (.long p1), .second, .val (.int p2), .val (.ref b120), .unset, .unset, .unset] [(.int ((p2 &&& (2147483647 : Int32)) % (9 : Int32)))])
    rw [hn]
    show own_Fin p e below s _ _ _ T136 (mkF m 83 #[.val (.long p1), .second, .val (.int p2), .val (.ref b120), .unset, .unset, .unset] [(.int (6 : Int32))])
    refine own_by (fun _ k => XS.istore X136.here hx rfl (hb hby at_83) rfl (l' := #[.val (.long p1), .second, .val (.int p2), .val (.ref b120), .val (.int (6 : Int32)), .unset, .unset]) rfl (XS.iconst X136.here hx rfl (hb hby at_85) (XS.istore X136.here hx rfl (hb hby at_86) rfl (l' := #[.val (.long p1), .second, .val (.int p2), .val (.ref b120), .val (.int (6 : Int32)), .val (.int (0 : Int32)), .unset]) rfl k))) ?_
    show own_Fin p e below s _ _ _ T136 (mkF m 88 #[.val (.long p1), .second, .val (.int p2), .val (.ref b120), .val (.int (6 : Int32)), .val (.int (0 : Int32)), .unset] [])
    have J205_208 : ∀ (Tj208 : State) (lj208 : List Loc) (Xj208 : Stand p l e room_1 s m #[(.long p1), (.int p2)] below meth c Tj208 lj208 1 8) (ej208 : Tj208.heap = h136) (Nj208 : Fr n0 lj208) (ex : Int32) (hx205 : (own_tl4 v5 v4 v3 v2) = ex), own_Fin p e below s room_1.cells room_1.slots (own_Q0 n0) Tj208 (mkF m 205 #[.val (.long p1), .second, .val (.int p2), .val (.ref b120), .val (.int (6 : Int32)), .val (.int ex), .unset] []) := by
      intro Tj208 lj208 Xj208 ej208 Nj208 ex hx205
      show own_Fin p e below s _ _ _ Tj208 (mkF m 205 #[.val (.long p1), .second, .val (.int p2), .val (.ref b120), .val (.int (6 : Int32)), .val (.int ex), .unset] [])
      refine own_by (fun _ k => XS.aloadN Xj208.here hx rfl (hb hby at_205) rfl rfl (XS.iload Xj208.here hx rfl (hb hby at_206) rfl k)) ?_
      show own_Fin p e below s _ _ _ Tj208 (mkF m 208 #[.val (.long p1), .second, .val (.int p2), .val (.ref b120), .val (.int (6 : Int32)), .val (.int ex), .unset] [(.int (6 : Int32)), (.ref b120)])
      obtain ⟨_, _, ⟨T209, L209, k209, n209⟩, -, X209, ⟨Lc209, hQ209, l209, y209, z209⟩, st209⟩ := Jvm.LawKit.callS Xj208 hx (y := (⟨"com/example/munka/munka/util/Utf8", "unfinishedTail", "([BI)I"⟩ : MethodName)) hown (mvT hZ (hw _ (List.mem_of_getElem? (i := 9) rfl))) (mvT hZ (hw _ (List.mem_of_getElem? (i := 10) rfl))) (mvT hZ (hw _ (List.mem_of_getElem? (i := 11) rfl))) (mvT hZ (hw _ (List.mem_of_getElem? (i := 12) rfl))) (by decide) (backOf (W := 0) (rmT6 l Z a0 hw [] b120 k120 v0 v1 v2 v3 v4 v5 v6 v7 h136 n0 Zs136 Vg) hZ (hw _ (List.mem_of_getElem? (i := 12) rfl)) (hw _ (List.mem_of_getElem? (i := 11) rfl)) (by decide) (by decide)) (g := (mkF m 208 #[.val (.long p1), .second, .val (.int p2), .val (.ref b120), .val (.int (6 : Int32)), .val (.int ex), .unset] [(.int (6 : Int32)), (.ref b120)])) rfl (by rw [hml]; rfl) (argsL := [(.ref b120), (.int (6 : Int32))]) (rest := []) (lenOf own_pd97 rfl) rfl (by show 2 * 0 + _ ≤ _; exact Nat.le_of_eq rfl) (hb hby at_208) (fun _ _ => ⟨rfl, ej208, (by decide : 1 + 0 ≤ _), (by decide : 8 + 0 ≤ _)⟩)
      dsimp only [Pt.U, Pt.locs, Pt.cells, Pt.slots] at X209 l209 y209 z209 st209 hQ209
      subst l209 y209 z209
      obtain ⟨rfl, Nq209, eh209⟩ := hQ209
      have N209 := Fr.app Nj208 Nq209
      refine own_by (fun _ k => st209 _ k) ?_
      show own_Fin p e below s _ _ _ T209 (mkF m 211 #[.val (.long p1), .second, .val (.int p2), .val (.ref b120), .val (.int (6 : Int32)), .val (.int ex), .unset] [(.int (own_tl4 v5 v4 v3 v2))])
      refine own_by (fun _ k => XS.istore X209.here hx rfl (hb hby at_211) rfl (l' := #[.val (.long p1), .second, .val (.int p2), .val (.ref b120), .val (.int (6 : Int32)), .val (.int ex), .val (.int (own_tl4 v5 v4 v3 v2))]) rfl (XS.iload X209.here hx rfl (hb hby at_213) rfl (XS.iload X209.here hx rfl (hb hby at_215) rfl k))) ?_
      show own_Fin p e below s _ _ _ T209 (mkF m 217 #[.val (.long p1), .second, .val (.int p2), .val (.ref b120), .val (.int (6 : Int32)), .val (.int ex), .val (.int (own_tl4 v5 v4 v3 v2))] [(.int ex), (.int (own_tl4 v5 v4 v3 v2))])
      refine own_by (fun _ k => XS.icmpNo X209.here hx rfl (hb hby at_217) rfl (teq hx205).2 k) ?_
      show own_Fin p e below s _ _ _ T209 (mkF m 220 #[.val (.long p1), .second, .val (.int p2), .val (.ref b120), .val (.int (6 : Int32)), .val (.int ex), .val (.int (own_tl4 v5 v4 v3 v2))] [])
      refine own_by (fun _ k => XS.iconst X209.here hx rfl (hb hby at_220) (XS.goto X209.here hx rfl (pc0 := 221) (pc' := 225) rfl (hb hby at_221) (by decide) (by decide) k)) ?_
      show own_Fin p e below s _ _ _ T209 (mkF m 225 #[.val (.long p1), .second, .val (.int p2), .val (.ref b120), .val (.int (6 : Int32)), .val (.int ex), .val (.int (own_tl4 v5 v4 v3 v2))] [(.int (1 : Int32))])
      exact own_retZ X209 hx hlk (t := .boolean) Bd.returns (by simp) (hb hby at_225) ⟨rfl, N209⟩ (by decide) (by decide)
    show own_Fin p e below s _ _ _ T136 (mkF m 88 #[.val (.long p1), .second, .val (.int p2), .val (.ref b120), .val (.int (6 : Int32)), .val (.int (0 : Int32)), .unset] [])
    refine own_by (fun _ k => XS.iload X136.here hx rfl (hb hby at_88) rfl (XS.iconst X136.here hx rfl (hb hby at_90) k)) ?_
    show own_Fin p e below s _ _ _ T136 (mkF m 91 #[.val (.long p1), .second, .val (.int p2), .val (.ref b120), .val (.int (6 : Int32)), .val (.int (0 : Int32)), .unset] [(.int (1 : Int32)), (.int (6 : Int32))])
    refine own_by (fun _ k => XS.icmpNo X136.here hx rfl (hb hby at_91) rfl (flt (by decide : ¬ ((6 : Int32) < (1 : Int32)))).1 k) ?_
    show own_Fin p e below s _ _ _ T136 (mkF m 94 #[.val (.long p1), .second, .val (.int p2), .val (.ref b120), .val (.int (6 : Int32)), .val (.int (0 : Int32)), .unset] [])
    refine own_by (fun _ k => XS.aloadN X136.here hx rfl (hb hby at_94) rfl rfl (XS.iload X136.here hx rfl (hb hby at_95) rfl (XS.iconst X136.here hx rfl (hb hby at_97) (XS.isub X136.here hx rfl (hb hby at_98) rfl k)))) ?_
    show own_Fin p e below s _ _ _ T136 (mkF m 99 #[.val (.long p1), .second, .val (.int p2), .val (.ref b120), .val (.int (6 : Int32)), .val (.int (0 : Int32)), .unset] [(.int ((6 : Int32) - (1 : Int32))), (.ref b120)])
    rw [(by decide : ((6 : Int32) - (1 : Int32)) = (5 : Int32))]
    show own_Fin p e below s _ _ _ T136 (mkF m 99 #[.val (.long p1), .second, .val (.int p2), .val (.ref b120), .val (.int (6 : Int32)), .val (.int (0 : Int32)), .unset] [(.int (5 : Int32)), (.ref b120)])
    obtain ⟨_, _, ⟨T210, L210, k210, n210⟩, -, X210, ⟨Lc210, hQ210, l210, y210, z210⟩, st210⟩ := Jvm.LawKit.callS X136 hx (y := (⟨"com/example/munka/munka/util/Utf8UnfinishedTailPinLaw", "u", "([BI)I"⟩ : MethodName)) hown (mvT hZ (hw _ (List.mem_of_getElem? (i := 2) rfl))) (mvT hZ (hw _ (List.mem_of_getElem? (i := 3) rfl))) (mvT hZ (hw _ (List.mem_of_getElem? (i := 4) rfl))) (mvT hZ (hw _ (List.mem_of_getElem? (i := 5) rfl))) (by decide) (backOf (W := 0) (rm1 l Z a0 hw [] b120 (5 : Int32) k120 (8 : Int32) [(.int v0), (.int v1), (.int v2), (.int v3), (.int v4), (.int v5), (.int v6), (.int v7)] v5 h136 n0 Zs136 Vg ⟨by decide, by decide⟩ rfl) hZ (hw _ (List.mem_of_getElem? (i := 5) rfl)) (hw _ (List.mem_of_getElem? (i := 4) rfl)) (by decide) (by decide)) (g := (mkF m 99 #[.val (.long p1), .second, .val (.int p2), .val (.ref b120), .val (.int (6 : Int32)), .val (.int (0 : Int32)), .unset] [(.int (5 : Int32)), (.ref b120)])) rfl (by rw [hml]; rfl) (argsL := [(.ref b120), (.int (5 : Int32))]) (rest := []) (lenOf own_pd97 rfl) rfl (by show 2 * 0 + _ ≤ _; exact Nat.le_of_eq rfl) (hb hby at_99) (fun _ _ => ⟨rfl, e136, (by decide : 1 + 0 ≤ _), (by decide : 8 + 0 ≤ _)⟩)
    dsimp only [Pt.U, Pt.locs, Pt.cells, Pt.slots] at X210 l210 y210 z210 st210 hQ210
    subst l210 y210 z210
    obtain ⟨rfl, Nq210, eh210⟩ := hQ210
    have N210 := Fr.app N136 Nq210
    refine own_by (fun _ k => st210 _ k) ?_
    show own_Fin p e below s _ _ _ T210 (mkF m 102 #[.val (.long p1), .second, .val (.int p2), .val (.ref b120), .val (.int (6 : Int32)), .val (.int (0 : Int32)), .unset] [(.int (v5 &&& (255 : Int32)))])
    refine own_by (fun _ k => XS.sipush X210.here hx rfl (hb hby at_102) k) ?_
    show own_Fin p e below s _ _ _ T210 (mkF m 105 #[.val (.long p1), .second, .val (.int p2), .val (.ref b120), .val (.int (6 : Int32)), .val (.int (0 : Int32)), .unset] [(.int (192 : Int32)), (.int (v5 &&& (255 : Int32)))])
    by_cases hc105_211 : (v5 &&& (255 : Int32)) < (192 : Int32)
    · show own_Fin p e below s _ _ _ T210 (mkF m 105 #[.val (.long p1), .second, .val (.int p2), .val (.ref b120), .val (.int (6 : Int32)), .val (.int (0 : Int32)), .unset] [(.int (192 : Int32)), (.int (v5 &&& (255 : Int32)))])
      refine own_by (fun _ k => XS.icmpYes X210.here hx rfl (pc0 := 105) (pc' := 114) rfl (hb hby at_105) rfl (tlt hc105_211).1 (by decide) (by decide) k) ?_
      show own_Fin p e below s _ _ _ T210 (mkF m 114 #[.val (.long p1), .second, .val (.int p2), .val (.ref b120), .val (.int (6 : Int32)), .val (.int (0 : Int32)), .unset] [])
      refine own_by (fun _ k => XS.iload X210.here hx rfl (hb hby at_114) rfl (XS.iconst X210.here hx rfl (hb hby at_116) k)) ?_
      show own_Fin p e below s _ _ _ T210 (mkF m 117 #[.val (.long p1), .second, .val (.int p2), .val (.ref b120), .val (.int (6 : Int32)), .val (.int (0 : Int32)), .unset] [(.int (2 : Int32)), (.int (6 : Int32))])
      refine own_by (fun _ k => XS.icmpNo X210.here hx rfl (hb hby at_117) rfl (flt (by decide : ¬ ((6 : Int32) < (2 : Int32)))).1 k) ?_
      show own_Fin p e below s _ _ _ T210 (mkF m 120 #[.val (.long p1), .second, .val (.int p2), .val (.ref b120), .val (.int (6 : Int32)), .val (.int (0 : Int32)), .unset] [])
      refine own_by (fun _ k => XS.aloadN X210.here hx rfl (hb hby at_120) rfl rfl (XS.iload X210.here hx rfl (hb hby at_121) rfl (XS.iconst X210.here hx rfl (hb hby at_123) (XS.isub X210.here hx rfl (hb hby at_124) rfl k)))) ?_
      show own_Fin p e below s _ _ _ T210 (mkF m 125 #[.val (.long p1), .second, .val (.int p2), .val (.ref b120), .val (.int (6 : Int32)), .val (.int (0 : Int32)), .unset] [(.int ((6 : Int32) - (1 : Int32))), (.ref b120)])
      rw [(by decide : ((6 : Int32) - (1 : Int32)) = (5 : Int32))]
      show own_Fin p e below s _ _ _ T210 (mkF m 125 #[.val (.long p1), .second, .val (.int p2), .val (.ref b120), .val (.int (6 : Int32)), .val (.int (0 : Int32)), .unset] [(.int (5 : Int32)), (.ref b120)])
      obtain ⟨_, _, ⟨T212, L212, k212, n212⟩, -, X212, ⟨Lc212, hQ212, l212, y212, z212⟩, st212⟩ := Jvm.LawKit.callS X210 hx (y := (⟨"com/example/munka/munka/util/Utf8UnfinishedTailPinLaw", "u", "([BI)I"⟩ : MethodName)) hown (mvT hZ (hw _ (List.mem_of_getElem? (i := 2) rfl))) (mvT hZ (hw _ (List.mem_of_getElem? (i := 3) rfl))) (mvT hZ (hw _ (List.mem_of_getElem? (i := 4) rfl))) (mvT hZ (hw _ (List.mem_of_getElem? (i := 5) rfl))) (by decide) (backOf (W := 0) (rm1 l Z a0 hw [] b120 (5 : Int32) k120 (8 : Int32) [(.int v0), (.int v1), (.int v2), (.int v3), (.int v4), (.int v5), (.int v6), (.int v7)] v5 h136 n0 Zs136 Vg ⟨by decide, by decide⟩ rfl) hZ (hw _ (List.mem_of_getElem? (i := 5) rfl)) (hw _ (List.mem_of_getElem? (i := 4) rfl)) (by decide) (by decide)) (g := (mkF m 125 #[.val (.long p1), .second, .val (.int p2), .val (.ref b120), .val (.int (6 : Int32)), .val (.int (0 : Int32)), .unset] [(.int (5 : Int32)), (.ref b120)])) rfl (by rw [hml]; rfl) (argsL := [(.ref b120), (.int (5 : Int32))]) (rest := []) (lenOf own_pd97 rfl) rfl (by show 2 * 0 + _ ≤ _; exact Nat.le_of_eq rfl) (hb hby at_125) (fun _ _ => ⟨rfl, eh210, (by decide : 1 + 0 ≤ _), (by decide : 8 + 0 ≤ _)⟩)
      dsimp only [Pt.U, Pt.locs, Pt.cells, Pt.slots] at X212 l212 y212 z212 st212 hQ212
      subst l212 y212 z212
      obtain ⟨rfl, Nq212, eh212⟩ := hQ212
      have N212 := Fr.app N210 Nq212
      refine own_by (fun _ k => st212 _ k) ?_
      show own_Fin p e below s _ _ _ T212 (mkF m 128 #[.val (.long p1), .second, .val (.int p2), .val (.ref b120), .val (.int (6 : Int32)), .val (.int (0 : Int32)), .unset] [(.int (v5 &&& (255 : Int32)))])
      obtain ⟨_, _, ⟨T213, L213, k213, n213⟩, -, X213, ⟨Lc213, hQ213, l213, y213, z213⟩, st213⟩ := Jvm.LawKit.callS X212 hx (y := (⟨"com/example/munka/munka/util/Utf8UnfinishedTailPinLaw", "cont", "(I)Z"⟩ : MethodName)) hown (mvT hZ (hw _ (List.mem_of_getElem? (i := 6) rfl))) (mvT hZ (hw _ (List.mem_of_getElem? (i := 7) rfl))) (mvT hZ (hw _ (List.mem_of_getElem? (i := 4) rfl))) (mvT hZ (hw _ (List.mem_of_getElem? (i := 8) rfl))) (by decide) (backOf (W := 0) (rm2 l Z a0 hw [] (v5 &&& (255 : Int32)) h136 n0 Zs136 ) hZ (hw _ (List.mem_of_getElem? (i := 8) rfl)) (hw _ (List.mem_of_getElem? (i := 4) rfl)) (by decide) (by decide)) (g := (mkF m 128 #[.val (.long p1), .second, .val (.int p2), .val (.ref b120), .val (.int (6 : Int32)), .val (.int (0 : Int32)), .unset] [(.int (v5 &&& (255 : Int32)))])) rfl (by rw [hml]; rfl) (argsL := [(.int (v5 &&& (255 : Int32)))]) (rest := []) (lenOf own_pd98 rfl) rfl (by show 2 * 0 + _ ≤ _; exact Nat.le_of_eq rfl) (hb hby at_128) (fun _ _ => ⟨rfl, eh212, (by decide : 1 + 0 ≤ _), (by decide : 8 + 0 ≤ _)⟩)
      dsimp only [Pt.U, Pt.locs, Pt.cells, Pt.slots] at X213 l213 y213 z213 st213 hQ213
      subst l213 y213 z213
      obtain ⟨rfl, Nq213, eh213⟩ := hQ213
      have N213 := Fr.app N212 Nq213
      refine own_by (fun _ k => st213 _ k) ?_
      show own_Fin p e below s _ _ _ T213 (mkF m 131 #[.val (.long p1), .second, .val (.int p2), .val (.ref b120), .val (.int (6 : Int32)), .val (.int (0 : Int32)), .unset] [(.int (own_cont (v5 &&& (255 : Int32))))])
      by_cases hc131_214 : (own_cont (v5 &&& (255 : Int32))) = (0 : Int32)
      · show own_Fin p e below s _ _ _ T213 (mkF m 131 #[.val (.long p1), .second, .val (.int p2), .val (.ref b120), .val (.int (6 : Int32)), .val (.int (0 : Int32)), .unset] [(.int (own_cont (v5 &&& (255 : Int32))))])
        refine own_by (fun _ k => XS.ifYes X213.here hx rfl (pc0 := 131) (pc' := 154) rfl (hb hby at_131) rfl ((if0 _ _).trans (teq hc131_214).1) (by decide) (by decide) k) ?_
        show own_Fin p e below s _ _ _ T213 (mkF m 154 #[.val (.long p1), .second, .val (.int p2), .val (.ref b120), .val (.int (6 : Int32)), .val (.int (0 : Int32)), .unset] [])
        refine own_by (fun _ k => XS.iload X213.here hx rfl (hb hby at_154) rfl (XS.iconst X213.here hx rfl (hb hby at_156) k)) ?_
        show own_Fin p e below s _ _ _ T213 (mkF m 157 #[.val (.long p1), .second, .val (.int p2), .val (.ref b120), .val (.int (6 : Int32)), .val (.int (0 : Int32)), .unset] [(.int (3 : Int32)), (.int (6 : Int32))])
        refine own_by (fun _ k => XS.icmpNo X213.here hx rfl (hb hby at_157) rfl (flt (by decide : ¬ ((6 : Int32) < (3 : Int32)))).1 k) ?_
        show own_Fin p e below s _ _ _ T213 (mkF m 160 #[.val (.long p1), .second, .val (.int p2), .val (.ref b120), .val (.int (6 : Int32)), .val (.int (0 : Int32)), .unset] [])
        refine own_by (fun _ k => XS.aloadN X213.here hx rfl (hb hby at_160) rfl rfl (XS.iload X213.here hx rfl (hb hby at_161) rfl (XS.iconst X213.here hx rfl (hb hby at_163) (XS.isub X213.here hx rfl (hb hby at_164) rfl k)))) ?_
        show own_Fin p e below s _ _ _ T213 (mkF m 165 #[.val (.long p1), .second, .val (.int p2), .val (.ref b120), .val (.int (6 : Int32)), .val (.int (0 : Int32)), .unset] [(.int ((6 : Int32) - (1 : Int32))), (.ref b120)])
        rw [(by decide : ((6 : Int32) - (1 : Int32)) = (5 : Int32))]
        show own_Fin p e below s _ _ _ T213 (mkF m 165 #[.val (.long p1), .second, .val (.int p2), .val (.ref b120), .val (.int (6 : Int32)), .val (.int (0 : Int32)), .unset] [(.int (5 : Int32)), (.ref b120)])
        obtain ⟨_, _, ⟨T215, L215, k215, n215⟩, -, X215, ⟨Lc215, hQ215, l215, y215, z215⟩, st215⟩ := Jvm.LawKit.callS X213 hx (y := (⟨"com/example/munka/munka/util/Utf8UnfinishedTailPinLaw", "u", "([BI)I"⟩ : MethodName)) hown (mvT hZ (hw _ (List.mem_of_getElem? (i := 2) rfl))) (mvT hZ (hw _ (List.mem_of_getElem? (i := 3) rfl))) (mvT hZ (hw _ (List.mem_of_getElem? (i := 4) rfl))) (mvT hZ (hw _ (List.mem_of_getElem? (i := 5) rfl))) (by decide) (backOf (W := 0) (rm1 l Z a0 hw [] b120 (5 : Int32) k120 (8 : Int32) [(.int v0), (.int v1), (.int v2), (.int v3), (.int v4), (.int v5), (.int v6), (.int v7)] v5 h136 n0 Zs136 Vg ⟨by decide, by decide⟩ rfl) hZ (hw _ (List.mem_of_getElem? (i := 5) rfl)) (hw _ (List.mem_of_getElem? (i := 4) rfl)) (by decide) (by decide)) (g := (mkF m 165 #[.val (.long p1), .second, .val (.int p2), .val (.ref b120), .val (.int (6 : Int32)), .val (.int (0 : Int32)), .unset] [(.int (5 : Int32)), (.ref b120)])) rfl (by rw [hml]; rfl) (argsL := [(.ref b120), (.int (5 : Int32))]) (rest := []) (lenOf own_pd97 rfl) rfl (by show 2 * 0 + _ ≤ _; exact Nat.le_of_eq rfl) (hb hby at_165) (fun _ _ => ⟨rfl, eh213, (by decide : 1 + 0 ≤ _), (by decide : 8 + 0 ≤ _)⟩)
        dsimp only [Pt.U, Pt.locs, Pt.cells, Pt.slots] at X215 l215 y215 z215 st215 hQ215
        subst l215 y215 z215
        obtain ⟨rfl, Nq215, eh215⟩ := hQ215
        have N215 := Fr.app N213 Nq215
        refine own_by (fun _ k => st215 _ k) ?_
        show own_Fin p e below s _ _ _ T215 (mkF m 168 #[.val (.long p1), .second, .val (.int p2), .val (.ref b120), .val (.int (6 : Int32)), .val (.int (0 : Int32)), .unset] [(.int (v5 &&& (255 : Int32)))])
        obtain ⟨_, _, ⟨T216, L216, k216, n216⟩, -, X216, ⟨Lc216, hQ216, l216, y216, z216⟩, st216⟩ := Jvm.LawKit.callS X215 hx (y := (⟨"com/example/munka/munka/util/Utf8UnfinishedTailPinLaw", "cont", "(I)Z"⟩ : MethodName)) hown (mvT hZ (hw _ (List.mem_of_getElem? (i := 6) rfl))) (mvT hZ (hw _ (List.mem_of_getElem? (i := 7) rfl))) (mvT hZ (hw _ (List.mem_of_getElem? (i := 4) rfl))) (mvT hZ (hw _ (List.mem_of_getElem? (i := 8) rfl))) (by decide) (backOf (W := 0) (rm2 l Z a0 hw [] (v5 &&& (255 : Int32)) h136 n0 Zs136 ) hZ (hw _ (List.mem_of_getElem? (i := 8) rfl)) (hw _ (List.mem_of_getElem? (i := 4) rfl)) (by decide) (by decide)) (g := (mkF m 168 #[.val (.long p1), .second, .val (.int p2), .val (.ref b120), .val (.int (6 : Int32)), .val (.int (0 : Int32)), .unset] [(.int (v5 &&& (255 : Int32)))])) rfl (by rw [hml]; rfl) (argsL := [(.int (v5 &&& (255 : Int32)))]) (rest := []) (lenOf own_pd98 rfl) rfl (by show 2 * 0 + _ ≤ _; exact Nat.le_of_eq rfl) (hb hby at_168) (fun _ _ => ⟨rfl, eh215, (by decide : 1 + 0 ≤ _), (by decide : 8 + 0 ≤ _)⟩)
        dsimp only [Pt.U, Pt.locs, Pt.cells, Pt.slots] at X216 l216 y216 z216 st216 hQ216
        subst l216 y216 z216
        obtain ⟨rfl, Nq216, eh216⟩ := hQ216
        have N216 := Fr.app N215 Nq216
        refine own_by (fun _ k => st216 _ k) ?_
        show own_Fin p e below s _ _ _ T216 (mkF m 171 #[.val (.long p1), .second, .val (.int p2), .val (.ref b120), .val (.int (6 : Int32)), .val (.int (0 : Int32)), .unset] [(.int (own_cont (v5 &&& (255 : Int32))))])
        refine own_by (fun _ k => XS.ifYes X216.here hx rfl (pc0 := 171) (pc' := 205) rfl (hb hby at_171) rfl ((if0 _ _).trans (teq hc131_214).1) (by decide) (by decide) k) ?_
        show own_Fin p e below s _ _ _ T216 (mkF m 205 #[.val (.long p1), .second, .val (.int p2), .val (.ref b120), .val (.int (6 : Int32)), .val (.int (0 : Int32)), .unset] [])
        exact J205_208 T216 _ X216 eh216 N216 ((0 : Int32)) ((own_eq4 v5 v4 v3 v2).trans (by simp [own_ex3, hc105_211, hc131_214]))
      · show own_Fin p e below s _ _ _ T213 (mkF m 131 #[.val (.long p1), .second, .val (.int p2), .val (.ref b120), .val (.int (6 : Int32)), .val (.int (0 : Int32)), .unset] [(.int (own_cont (v5 &&& (255 : Int32))))])
        refine own_by (fun _ k => XS.ifNo X213.here hx rfl (hb hby at_131) rfl ((if0 _ _).trans (feq hc131_214).1) k) ?_
        show own_Fin p e below s _ _ _ T213 (mkF m 134 #[.val (.long p1), .second, .val (.int p2), .val (.ref b120), .val (.int (6 : Int32)), .val (.int (0 : Int32)), .unset] [])
        refine own_by (fun _ k => XS.aloadN X213.here hx rfl (hb hby at_134) rfl rfl (XS.iload X213.here hx rfl (hb hby at_135) rfl (XS.iconst X213.here hx rfl (hb hby at_137) (XS.isub X213.here hx rfl (hb hby at_138) rfl k)))) ?_
        show own_Fin p e below s _ _ _ T213 (mkF m 139 #[.val (.long p1), .second, .val (.int p2), .val (.ref b120), .val (.int (6 : Int32)), .val (.int (0 : Int32)), .unset] [(.int ((6 : Int32) - (2 : Int32))), (.ref b120)])
        rw [(by decide : ((6 : Int32) - (2 : Int32)) = (4 : Int32))]
        show own_Fin p e below s _ _ _ T213 (mkF m 139 #[.val (.long p1), .second, .val (.int p2), .val (.ref b120), .val (.int (6 : Int32)), .val (.int (0 : Int32)), .unset] [(.int (4 : Int32)), (.ref b120)])
        obtain ⟨_, _, ⟨T217, L217, k217, n217⟩, -, X217, ⟨Lc217, hQ217, l217, y217, z217⟩, st217⟩ := Jvm.LawKit.callS X213 hx (y := (⟨"com/example/munka/munka/util/Utf8UnfinishedTailPinLaw", "u", "([BI)I"⟩ : MethodName)) hown (mvT hZ (hw _ (List.mem_of_getElem? (i := 2) rfl))) (mvT hZ (hw _ (List.mem_of_getElem? (i := 3) rfl))) (mvT hZ (hw _ (List.mem_of_getElem? (i := 4) rfl))) (mvT hZ (hw _ (List.mem_of_getElem? (i := 5) rfl))) (by decide) (backOf (W := 0) (rm1 l Z a0 hw [] b120 (4 : Int32) k120 (8 : Int32) [(.int v0), (.int v1), (.int v2), (.int v3), (.int v4), (.int v5), (.int v6), (.int v7)] v4 h136 n0 Zs136 Vg ⟨by decide, by decide⟩ rfl) hZ (hw _ (List.mem_of_getElem? (i := 5) rfl)) (hw _ (List.mem_of_getElem? (i := 4) rfl)) (by decide) (by decide)) (g := (mkF m 139 #[.val (.long p1), .second, .val (.int p2), .val (.ref b120), .val (.int (6 : Int32)), .val (.int (0 : Int32)), .unset] [(.int (4 : Int32)), (.ref b120)])) rfl (by rw [hml]; rfl) (argsL := [(.ref b120), (.int (4 : Int32))]) (rest := []) (lenOf own_pd97 rfl) rfl (by show 2 * 0 + _ ≤ _; exact Nat.le_of_eq rfl) (hb hby at_139) (fun _ _ => ⟨rfl, eh213, (by decide : 1 + 0 ≤ _), (by decide : 8 + 0 ≤ _)⟩)
        dsimp only [Pt.U, Pt.locs, Pt.cells, Pt.slots] at X217 l217 y217 z217 st217 hQ217
        subst l217 y217 z217
        obtain ⟨rfl, Nq217, eh217⟩ := hQ217
        have N217 := Fr.app N213 Nq217
        refine own_by (fun _ k => st217 _ k) ?_
        show own_Fin p e below s _ _ _ T217 (mkF m 142 #[.val (.long p1), .second, .val (.int p2), .val (.ref b120), .val (.int (6 : Int32)), .val (.int (0 : Int32)), .unset] [(.int (v4 &&& (255 : Int32)))])
        refine own_by (fun _ k => XS.sipush X217.here hx rfl (hb hby at_142) k) ?_
        show own_Fin p e below s _ _ _ T217 (mkF m 145 #[.val (.long p1), .second, .val (.int p2), .val (.ref b120), .val (.int (6 : Int32)), .val (.int (0 : Int32)), .unset] [(.int (224 : Int32)), (.int (v4 &&& (255 : Int32)))])
        by_cases hc145_218 : (v4 &&& (255 : Int32)) < (224 : Int32)
        · show own_Fin p e below s _ _ _ T217 (mkF m 145 #[.val (.long p1), .second, .val (.int p2), .val (.ref b120), .val (.int (6 : Int32)), .val (.int (0 : Int32)), .unset] [(.int (224 : Int32)), (.int (v4 &&& (255 : Int32)))])
          refine own_by (fun _ k => XS.icmpYes X217.here hx rfl (pc0 := 145) (pc' := 154) rfl (hb hby at_145) rfl (tlt hc145_218).1 (by decide) (by decide) k) ?_
          show own_Fin p e below s _ _ _ T217 (mkF m 154 #[.val (.long p1), .second, .val (.int p2), .val (.ref b120), .val (.int (6 : Int32)), .val (.int (0 : Int32)), .unset] [])
          refine own_by (fun _ k => XS.iload X217.here hx rfl (hb hby at_154) rfl (XS.iconst X217.here hx rfl (hb hby at_156) k)) ?_
          show own_Fin p e below s _ _ _ T217 (mkF m 157 #[.val (.long p1), .second, .val (.int p2), .val (.ref b120), .val (.int (6 : Int32)), .val (.int (0 : Int32)), .unset] [(.int (3 : Int32)), (.int (6 : Int32))])
          refine own_by (fun _ k => XS.icmpNo X217.here hx rfl (hb hby at_157) rfl (flt (by decide : ¬ ((6 : Int32) < (3 : Int32)))).1 k) ?_
          show own_Fin p e below s _ _ _ T217 (mkF m 160 #[.val (.long p1), .second, .val (.int p2), .val (.ref b120), .val (.int (6 : Int32)), .val (.int (0 : Int32)), .unset] [])
          refine own_by (fun _ k => XS.aloadN X217.here hx rfl (hb hby at_160) rfl rfl (XS.iload X217.here hx rfl (hb hby at_161) rfl (XS.iconst X217.here hx rfl (hb hby at_163) (XS.isub X217.here hx rfl (hb hby at_164) rfl k)))) ?_
          show own_Fin p e below s _ _ _ T217 (mkF m 165 #[.val (.long p1), .second, .val (.int p2), .val (.ref b120), .val (.int (6 : Int32)), .val (.int (0 : Int32)), .unset] [(.int ((6 : Int32) - (1 : Int32))), (.ref b120)])
          rw [(by decide : ((6 : Int32) - (1 : Int32)) = (5 : Int32))]
          show own_Fin p e below s _ _ _ T217 (mkF m 165 #[.val (.long p1), .second, .val (.int p2), .val (.ref b120), .val (.int (6 : Int32)), .val (.int (0 : Int32)), .unset] [(.int (5 : Int32)), (.ref b120)])
          obtain ⟨_, _, ⟨T219, L219, k219, n219⟩, -, X219, ⟨Lc219, hQ219, l219, y219, z219⟩, st219⟩ := Jvm.LawKit.callS X217 hx (y := (⟨"com/example/munka/munka/util/Utf8UnfinishedTailPinLaw", "u", "([BI)I"⟩ : MethodName)) hown (mvT hZ (hw _ (List.mem_of_getElem? (i := 2) rfl))) (mvT hZ (hw _ (List.mem_of_getElem? (i := 3) rfl))) (mvT hZ (hw _ (List.mem_of_getElem? (i := 4) rfl))) (mvT hZ (hw _ (List.mem_of_getElem? (i := 5) rfl))) (by decide) (backOf (W := 0) (rm1 l Z a0 hw [] b120 (5 : Int32) k120 (8 : Int32) [(.int v0), (.int v1), (.int v2), (.int v3), (.int v4), (.int v5), (.int v6), (.int v7)] v5 h136 n0 Zs136 Vg ⟨by decide, by decide⟩ rfl) hZ (hw _ (List.mem_of_getElem? (i := 5) rfl)) (hw _ (List.mem_of_getElem? (i := 4) rfl)) (by decide) (by decide)) (g := (mkF m 165 #[.val (.long p1), .second, .val (.int p2), .val (.ref b120), .val (.int (6 : Int32)), .val (.int (0 : Int32)), .unset] [(.int (5 : Int32)), (.ref b120)])) rfl (by rw [hml]; rfl) (argsL := [(.ref b120), (.int (5 : Int32))]) (rest := []) (lenOf own_pd97 rfl) rfl (by show 2 * 0 + _ ≤ _; exact Nat.le_of_eq rfl) (hb hby at_165) (fun _ _ => ⟨rfl, eh217, (by decide : 1 + 0 ≤ _), (by decide : 8 + 0 ≤ _)⟩)
          dsimp only [Pt.U, Pt.locs, Pt.cells, Pt.slots] at X219 l219 y219 z219 st219 hQ219
          subst l219 y219 z219
          obtain ⟨rfl, Nq219, eh219⟩ := hQ219
          have N219 := Fr.app N217 Nq219
          refine own_by (fun _ k => st219 _ k) ?_
          show own_Fin p e below s _ _ _ T219 (mkF m 168 #[.val (.long p1), .second, .val (.int p2), .val (.ref b120), .val (.int (6 : Int32)), .val (.int (0 : Int32)), .unset] [(.int (v5 &&& (255 : Int32)))])
          obtain ⟨_, _, ⟨T220, L220, k220, n220⟩, -, X220, ⟨Lc220, hQ220, l220, y220, z220⟩, st220⟩ := Jvm.LawKit.callS X219 hx (y := (⟨"com/example/munka/munka/util/Utf8UnfinishedTailPinLaw", "cont", "(I)Z"⟩ : MethodName)) hown (mvT hZ (hw _ (List.mem_of_getElem? (i := 6) rfl))) (mvT hZ (hw _ (List.mem_of_getElem? (i := 7) rfl))) (mvT hZ (hw _ (List.mem_of_getElem? (i := 4) rfl))) (mvT hZ (hw _ (List.mem_of_getElem? (i := 8) rfl))) (by decide) (backOf (W := 0) (rm2 l Z a0 hw [] (v5 &&& (255 : Int32)) h136 n0 Zs136 ) hZ (hw _ (List.mem_of_getElem? (i := 8) rfl)) (hw _ (List.mem_of_getElem? (i := 4) rfl)) (by decide) (by decide)) (g := (mkF m 168 #[.val (.long p1), .second, .val (.int p2), .val (.ref b120), .val (.int (6 : Int32)), .val (.int (0 : Int32)), .unset] [(.int (v5 &&& (255 : Int32)))])) rfl (by rw [hml]; rfl) (argsL := [(.int (v5 &&& (255 : Int32)))]) (rest := []) (lenOf own_pd98 rfl) rfl (by show 2 * 0 + _ ≤ _; exact Nat.le_of_eq rfl) (hb hby at_168) (fun _ _ => ⟨rfl, eh219, (by decide : 1 + 0 ≤ _), (by decide : 8 + 0 ≤ _)⟩)
          dsimp only [Pt.U, Pt.locs, Pt.cells, Pt.slots] at X220 l220 y220 z220 st220 hQ220
          subst l220 y220 z220
          obtain ⟨rfl, Nq220, eh220⟩ := hQ220
          have N220 := Fr.app N219 Nq220
          refine own_by (fun _ k => st220 _ k) ?_
          show own_Fin p e below s _ _ _ T220 (mkF m 171 #[.val (.long p1), .second, .val (.int p2), .val (.ref b120), .val (.int (6 : Int32)), .val (.int (0 : Int32)), .unset] [(.int (own_cont (v5 &&& (255 : Int32))))])
          refine own_by (fun _ k => XS.ifNo X220.here hx rfl (hb hby at_171) rfl ((if0 _ _).trans (feq hc131_214).1) k) ?_
          show own_Fin p e below s _ _ _ T220 (mkF m 174 #[.val (.long p1), .second, .val (.int p2), .val (.ref b120), .val (.int (6 : Int32)), .val (.int (0 : Int32)), .unset] [])
          refine own_by (fun _ k => XS.aloadN X220.here hx rfl (hb hby at_174) rfl rfl (XS.iload X220.here hx rfl (hb hby at_175) rfl (XS.iconst X220.here hx rfl (hb hby at_177) (XS.isub X220.here hx rfl (hb hby at_178) rfl k)))) ?_
          show own_Fin p e below s _ _ _ T220 (mkF m 179 #[.val (.long p1), .second, .val (.int p2), .val (.ref b120), .val (.int (6 : Int32)), .val (.int (0 : Int32)), .unset] [(.int ((6 : Int32) - (2 : Int32))), (.ref b120)])
          rw [(by decide : ((6 : Int32) - (2 : Int32)) = (4 : Int32))]
          show own_Fin p e below s _ _ _ T220 (mkF m 179 #[.val (.long p1), .second, .val (.int p2), .val (.ref b120), .val (.int (6 : Int32)), .val (.int (0 : Int32)), .unset] [(.int (4 : Int32)), (.ref b120)])
          obtain ⟨_, _, ⟨T221, L221, k221, n221⟩, -, X221, ⟨Lc221, hQ221, l221, y221, z221⟩, st221⟩ := Jvm.LawKit.callS X220 hx (y := (⟨"com/example/munka/munka/util/Utf8UnfinishedTailPinLaw", "u", "([BI)I"⟩ : MethodName)) hown (mvT hZ (hw _ (List.mem_of_getElem? (i := 2) rfl))) (mvT hZ (hw _ (List.mem_of_getElem? (i := 3) rfl))) (mvT hZ (hw _ (List.mem_of_getElem? (i := 4) rfl))) (mvT hZ (hw _ (List.mem_of_getElem? (i := 5) rfl))) (by decide) (backOf (W := 0) (rm1 l Z a0 hw [] b120 (4 : Int32) k120 (8 : Int32) [(.int v0), (.int v1), (.int v2), (.int v3), (.int v4), (.int v5), (.int v6), (.int v7)] v4 h136 n0 Zs136 Vg ⟨by decide, by decide⟩ rfl) hZ (hw _ (List.mem_of_getElem? (i := 5) rfl)) (hw _ (List.mem_of_getElem? (i := 4) rfl)) (by decide) (by decide)) (g := (mkF m 179 #[.val (.long p1), .second, .val (.int p2), .val (.ref b120), .val (.int (6 : Int32)), .val (.int (0 : Int32)), .unset] [(.int (4 : Int32)), (.ref b120)])) rfl (by rw [hml]; rfl) (argsL := [(.ref b120), (.int (4 : Int32))]) (rest := []) (lenOf own_pd97 rfl) rfl (by show 2 * 0 + _ ≤ _; exact Nat.le_of_eq rfl) (hb hby at_179) (fun _ _ => ⟨rfl, eh220, (by decide : 1 + 0 ≤ _), (by decide : 8 + 0 ≤ _)⟩)
          dsimp only [Pt.U, Pt.locs, Pt.cells, Pt.slots] at X221 l221 y221 z221 st221 hQ221
          subst l221 y221 z221
          obtain ⟨rfl, Nq221, eh221⟩ := hQ221
          have N221 := Fr.app N220 Nq221
          refine own_by (fun _ k => st221 _ k) ?_
          show own_Fin p e below s _ _ _ T221 (mkF m 182 #[.val (.long p1), .second, .val (.int p2), .val (.ref b120), .val (.int (6 : Int32)), .val (.int (0 : Int32)), .unset] [(.int (v4 &&& (255 : Int32)))])
          obtain ⟨_, _, ⟨T222, L222, k222, n222⟩, -, X222, ⟨Lc222, hQ222, l222, y222, z222⟩, st222⟩ := Jvm.LawKit.callS X221 hx (y := (⟨"com/example/munka/munka/util/Utf8UnfinishedTailPinLaw", "cont", "(I)Z"⟩ : MethodName)) hown (mvT hZ (hw _ (List.mem_of_getElem? (i := 6) rfl))) (mvT hZ (hw _ (List.mem_of_getElem? (i := 7) rfl))) (mvT hZ (hw _ (List.mem_of_getElem? (i := 4) rfl))) (mvT hZ (hw _ (List.mem_of_getElem? (i := 8) rfl))) (by decide) (backOf (W := 0) (rm2 l Z a0 hw [] (v4 &&& (255 : Int32)) h136 n0 Zs136 ) hZ (hw _ (List.mem_of_getElem? (i := 8) rfl)) (hw _ (List.mem_of_getElem? (i := 4) rfl)) (by decide) (by decide)) (g := (mkF m 182 #[.val (.long p1), .second, .val (.int p2), .val (.ref b120), .val (.int (6 : Int32)), .val (.int (0 : Int32)), .unset] [(.int (v4 &&& (255 : Int32)))])) rfl (by rw [hml]; rfl) (argsL := [(.int (v4 &&& (255 : Int32)))]) (rest := []) (lenOf own_pd98 rfl) rfl (by show 2 * 0 + _ ≤ _; exact Nat.le_of_eq rfl) (hb hby at_182) (fun _ _ => ⟨rfl, eh221, (by decide : 1 + 0 ≤ _), (by decide : 8 + 0 ≤ _)⟩)
          dsimp only [Pt.U, Pt.locs, Pt.cells, Pt.slots] at X222 l222 y222 z222 st222 hQ222
          subst l222 y222 z222
          obtain ⟨rfl, Nq222, eh222⟩ := hQ222
          have N222 := Fr.app N221 Nq222
          refine own_by (fun _ k => st222 _ k) ?_
          show own_Fin p e below s _ _ _ T222 (mkF m 185 #[.val (.long p1), .second, .val (.int p2), .val (.ref b120), .val (.int (6 : Int32)), .val (.int (0 : Int32)), .unset] [(.int (own_cont (v4 &&& (255 : Int32))))])
          by_cases hc185_223 : (own_cont (v4 &&& (255 : Int32))) = (0 : Int32)
          · show own_Fin p e below s _ _ _ T222 (mkF m 185 #[.val (.long p1), .second, .val (.int p2), .val (.ref b120), .val (.int (6 : Int32)), .val (.int (0 : Int32)), .unset] [(.int (own_cont (v4 &&& (255 : Int32))))])
            refine own_by (fun _ k => XS.ifYes X222.here hx rfl (pc0 := 185) (pc' := 205) rfl (hb hby at_185) rfl ((if0 _ _).trans (teq hc185_223).1) (by decide) (by decide) k) ?_
            show own_Fin p e below s _ _ _ T222 (mkF m 205 #[.val (.long p1), .second, .val (.int p2), .val (.ref b120), .val (.int (6 : Int32)), .val (.int (0 : Int32)), .unset] [])
            exact J205_208 T222 _ X222 eh222 N222 ((0 : Int32)) ((own_eq4 v5 v4 v3 v2).trans (by simp [own_ex3, hc105_211, hc131_214, hc145_218, hc185_223]))
          · show own_Fin p e below s _ _ _ T222 (mkF m 185 #[.val (.long p1), .second, .val (.int p2), .val (.ref b120), .val (.int (6 : Int32)), .val (.int (0 : Int32)), .unset] [(.int (own_cont (v4 &&& (255 : Int32))))])
            refine own_by (fun _ k => XS.ifNo X222.here hx rfl (hb hby at_185) rfl ((if0 _ _).trans (feq hc185_223).1) k) ?_
            show own_Fin p e below s _ _ _ T222 (mkF m 188 #[.val (.long p1), .second, .val (.int p2), .val (.ref b120), .val (.int (6 : Int32)), .val (.int (0 : Int32)), .unset] [])
            refine own_by (fun _ k => XS.aloadN X222.here hx rfl (hb hby at_188) rfl rfl (XS.iload X222.here hx rfl (hb hby at_189) rfl (XS.iconst X222.here hx rfl (hb hby at_191) (XS.isub X222.here hx rfl (hb hby at_192) rfl k)))) ?_
            show own_Fin p e below s _ _ _ T222 (mkF m 193 #[.val (.long p1), .second, .val (.int p2), .val (.ref b120), .val (.int (6 : Int32)), .val (.int (0 : Int32)), .unset] [(.int ((6 : Int32) - (3 : Int32))), (.ref b120)])
            rw [(by decide : ((6 : Int32) - (3 : Int32)) = (3 : Int32))]
            show own_Fin p e below s _ _ _ T222 (mkF m 193 #[.val (.long p1), .second, .val (.int p2), .val (.ref b120), .val (.int (6 : Int32)), .val (.int (0 : Int32)), .unset] [(.int (3 : Int32)), (.ref b120)])
            obtain ⟨_, _, ⟨T224, L224, k224, n224⟩, -, X224, ⟨Lc224, hQ224, l224, y224, z224⟩, st224⟩ := Jvm.LawKit.callS X222 hx (y := (⟨"com/example/munka/munka/util/Utf8UnfinishedTailPinLaw", "u", "([BI)I"⟩ : MethodName)) hown (mvT hZ (hw _ (List.mem_of_getElem? (i := 2) rfl))) (mvT hZ (hw _ (List.mem_of_getElem? (i := 3) rfl))) (mvT hZ (hw _ (List.mem_of_getElem? (i := 4) rfl))) (mvT hZ (hw _ (List.mem_of_getElem? (i := 5) rfl))) (by decide) (backOf (W := 0) (rm1 l Z a0 hw [] b120 (3 : Int32) k120 (8 : Int32) [(.int v0), (.int v1), (.int v2), (.int v3), (.int v4), (.int v5), (.int v6), (.int v7)] v3 h136 n0 Zs136 Vg ⟨by decide, by decide⟩ rfl) hZ (hw _ (List.mem_of_getElem? (i := 5) rfl)) (hw _ (List.mem_of_getElem? (i := 4) rfl)) (by decide) (by decide)) (g := (mkF m 193 #[.val (.long p1), .second, .val (.int p2), .val (.ref b120), .val (.int (6 : Int32)), .val (.int (0 : Int32)), .unset] [(.int (3 : Int32)), (.ref b120)])) rfl (by rw [hml]; rfl) (argsL := [(.ref b120), (.int (3 : Int32))]) (rest := []) (lenOf own_pd97 rfl) rfl (by show 2 * 0 + _ ≤ _; exact Nat.le_of_eq rfl) (hb hby at_193) (fun _ _ => ⟨rfl, eh222, (by decide : 1 + 0 ≤ _), (by decide : 8 + 0 ≤ _)⟩)
            dsimp only [Pt.U, Pt.locs, Pt.cells, Pt.slots] at X224 l224 y224 z224 st224 hQ224
            subst l224 y224 z224
            obtain ⟨rfl, Nq224, eh224⟩ := hQ224
            have N224 := Fr.app N222 Nq224
            refine own_by (fun _ k => st224 _ k) ?_
            show own_Fin p e below s _ _ _ T224 (mkF m 196 #[.val (.long p1), .second, .val (.int p2), .val (.ref b120), .val (.int (6 : Int32)), .val (.int (0 : Int32)), .unset] [(.int (v3 &&& (255 : Int32)))])
            refine own_by (fun _ k => XS.sipush X224.here hx rfl (hb hby at_196) k) ?_
            show own_Fin p e below s _ _ _ T224 (mkF m 199 #[.val (.long p1), .second, .val (.int p2), .val (.ref b120), .val (.int (6 : Int32)), .val (.int (0 : Int32)), .unset] [(.int (240 : Int32)), (.int (v3 &&& (255 : Int32)))])
            by_cases hc199_225 : (v3 &&& (255 : Int32)) < (240 : Int32)
            · show own_Fin p e below s _ _ _ T224 (mkF m 199 #[.val (.long p1), .second, .val (.int p2), .val (.ref b120), .val (.int (6 : Int32)), .val (.int (0 : Int32)), .unset] [(.int (240 : Int32)), (.int (v3 &&& (255 : Int32)))])
              refine own_by (fun _ k => XS.icmpYes X224.here hx rfl (pc0 := 199) (pc' := 205) rfl (hb hby at_199) rfl (tlt hc199_225).1 (by decide) (by decide) k) ?_
              show own_Fin p e below s _ _ _ T224 (mkF m 205 #[.val (.long p1), .second, .val (.int p2), .val (.ref b120), .val (.int (6 : Int32)), .val (.int (0 : Int32)), .unset] [])
              exact J205_208 T224 _ X224 eh224 N224 ((0 : Int32)) ((own_eq4 v5 v4 v3 v2).trans (by simp [own_ex3, hc105_211, hc131_214, hc145_218, hc185_223, hc199_225]))
            · show own_Fin p e below s _ _ _ T224 (mkF m 199 #[.val (.long p1), .second, .val (.int p2), .val (.ref b120), .val (.int (6 : Int32)), .val (.int (0 : Int32)), .unset] [(.int (240 : Int32)), (.int (v3 &&& (255 : Int32)))])
              refine own_by (fun _ k => XS.icmpNo X224.here hx rfl (hb hby at_199) rfl (flt hc199_225).1 k) ?_
              show own_Fin p e below s _ _ _ T224 (mkF m 202 #[.val (.long p1), .second, .val (.int p2), .val (.ref b120), .val (.int (6 : Int32)), .val (.int (0 : Int32)), .unset] [])
              refine own_by (fun _ k => XS.iconst X224.here hx rfl (hb hby at_202) (XS.istore X224.here hx rfl (hb hby at_203) rfl (l' := #[.val (.long p1), .second, .val (.int p2), .val (.ref b120), .val (.int (6 : Int32)), .val (.int (3 : Int32)), .unset]) rfl k)) ?_
              show own_Fin p e below s _ _ _ T224 (mkF m 205 #[.val (.long p1), .second, .val (.int p2), .val (.ref b120), .val (.int (6 : Int32)), .val (.int (3 : Int32)), .unset] [])
              exact J205_208 T224 _ X224 eh224 N224 ((3 : Int32)) ((own_eq4 v5 v4 v3 v2).trans (by simp [own_ex3, hc105_211, hc131_214, hc145_218, hc185_223, hc199_225]))
        · show own_Fin p e below s _ _ _ T217 (mkF m 145 #[.val (.long p1), .second, .val (.int p2), .val (.ref b120), .val (.int (6 : Int32)), .val (.int (0 : Int32)), .unset] [(.int (224 : Int32)), (.int (v4 &&& (255 : Int32)))])
          refine own_by (fun _ k => XS.icmpNo X217.here hx rfl (hb hby at_145) rfl (flt hc145_218).1 k) ?_
          show own_Fin p e below s _ _ _ T217 (mkF m 148 #[.val (.long p1), .second, .val (.int p2), .val (.ref b120), .val (.int (6 : Int32)), .val (.int (0 : Int32)), .unset] [])
          refine own_by (fun _ k => XS.iconst X217.here hx rfl (hb hby at_148) (XS.istore X217.here hx rfl (hb hby at_149) rfl (l' := #[.val (.long p1), .second, .val (.int p2), .val (.ref b120), .val (.int (6 : Int32)), .val (.int (2 : Int32)), .unset]) rfl (XS.goto X217.here hx rfl (pc0 := 151) (pc' := 205) rfl (hb hby at_151) (by decide) (by decide) k))) ?_
          show own_Fin p e below s _ _ _ T217 (mkF m 205 #[.val (.long p1), .second, .val (.int p2), .val (.ref b120), .val (.int (6 : Int32)), .val (.int (2 : Int32)), .unset] [])
          exact J205_208 T217 _ X217 eh217 N217 ((2 : Int32)) ((own_eq4 v5 v4 v3 v2).trans (by simp [own_ex3, hc105_211, hc131_214, hc145_218]))
    · show own_Fin p e below s _ _ _ T210 (mkF m 105 #[.val (.long p1), .second, .val (.int p2), .val (.ref b120), .val (.int (6 : Int32)), .val (.int (0 : Int32)), .unset] [(.int (192 : Int32)), (.int (v5 &&& (255 : Int32)))])
      refine own_by (fun _ k => XS.icmpNo X210.here hx rfl (hb hby at_105) rfl (flt hc105_211).1 k) ?_
      show own_Fin p e below s _ _ _ T210 (mkF m 108 #[.val (.long p1), .second, .val (.int p2), .val (.ref b120), .val (.int (6 : Int32)), .val (.int (0 : Int32)), .unset] [])
      refine own_by (fun _ k => XS.iconst X210.here hx rfl (hb hby at_108) (XS.istore X210.here hx rfl (hb hby at_109) rfl (l' := #[.val (.long p1), .second, .val (.int p2), .val (.ref b120), .val (.int (6 : Int32)), .val (.int (1 : Int32)), .unset]) rfl (XS.goto X210.here hx rfl (pc0 := 111) (pc' := 205) rfl (hb hby at_111) (by decide) (by decide) k))) ?_
      show own_Fin p e below s _ _ _ T210 (mkF m 205 #[.val (.long p1), .second, .val (.int p2), .val (.ref b120), .val (.int (6 : Int32)), .val (.int (1 : Int32)), .unset] [])
      exact J205_208 T210 _ X210 eh210 N210 ((1 : Int32)) ((own_eq4 v5 v4 v3 v2).trans (by simp [own_ex3, hc105_211]))
  · show own_Fin p e below s _ _ _ T136 (mkF m 83 #[.val (.long p1), .second, .val (.int p2), .val (.ref b120), .unset, .unset, .unset] [(.int ((p2 &&& (2147483647 : Int32)) % (9 : Int32)))])
    rw [hn]
    show own_Fin p e below s _ _ _ T136 (mkF m 83 #[.val (.long p1), .second, .val (.int p2), .val (.ref b120), .unset, .unset, .unset] [(.int (7 : Int32))])
    refine own_by (fun _ k => XS.istore X136.here hx rfl (hb hby at_83) rfl (l' := #[.val (.long p1), .second, .val (.int p2), .val (.ref b120), .val (.int (7 : Int32)), .unset, .unset]) rfl (XS.iconst X136.here hx rfl (hb hby at_85) (XS.istore X136.here hx rfl (hb hby at_86) rfl (l' := #[.val (.long p1), .second, .val (.int p2), .val (.ref b120), .val (.int (7 : Int32)), .val (.int (0 : Int32)), .unset]) rfl k))) ?_
    show own_Fin p e below s _ _ _ T136 (mkF m 88 #[.val (.long p1), .second, .val (.int p2), .val (.ref b120), .val (.int (7 : Int32)), .val (.int (0 : Int32)), .unset] [])
    have J205_226 : ∀ (Tj226 : State) (lj226 : List Loc) (Xj226 : Stand p l e room_1 s m #[(.long p1), (.int p2)] below meth c Tj226 lj226 1 8) (ej226 : Tj226.heap = h136) (Nj226 : Fr n0 lj226) (ex : Int32) (hx205 : (own_tl4 v6 v5 v4 v3) = ex), own_Fin p e below s room_1.cells room_1.slots (own_Q0 n0) Tj226 (mkF m 205 #[.val (.long p1), .second, .val (.int p2), .val (.ref b120), .val (.int (7 : Int32)), .val (.int ex), .unset] []) := by
      intro Tj226 lj226 Xj226 ej226 Nj226 ex hx205
      show own_Fin p e below s _ _ _ Tj226 (mkF m 205 #[.val (.long p1), .second, .val (.int p2), .val (.ref b120), .val (.int (7 : Int32)), .val (.int ex), .unset] [])
      refine own_by (fun _ k => XS.aloadN Xj226.here hx rfl (hb hby at_205) rfl rfl (XS.iload Xj226.here hx rfl (hb hby at_206) rfl k)) ?_
      show own_Fin p e below s _ _ _ Tj226 (mkF m 208 #[.val (.long p1), .second, .val (.int p2), .val (.ref b120), .val (.int (7 : Int32)), .val (.int ex), .unset] [(.int (7 : Int32)), (.ref b120)])
      obtain ⟨_, _, ⟨T227, L227, k227, n227⟩, -, X227, ⟨Lc227, hQ227, l227, y227, z227⟩, st227⟩ := Jvm.LawKit.callS Xj226 hx (y := (⟨"com/example/munka/munka/util/Utf8", "unfinishedTail", "([BI)I"⟩ : MethodName)) hown (mvT hZ (hw _ (List.mem_of_getElem? (i := 9) rfl))) (mvT hZ (hw _ (List.mem_of_getElem? (i := 10) rfl))) (mvT hZ (hw _ (List.mem_of_getElem? (i := 11) rfl))) (mvT hZ (hw _ (List.mem_of_getElem? (i := 12) rfl))) (by decide) (backOf (W := 0) (rmT7 l Z a0 hw [] b120 k120 v0 v1 v2 v3 v4 v5 v6 v7 h136 n0 Zs136 Vg) hZ (hw _ (List.mem_of_getElem? (i := 12) rfl)) (hw _ (List.mem_of_getElem? (i := 11) rfl)) (by decide) (by decide)) (g := (mkF m 208 #[.val (.long p1), .second, .val (.int p2), .val (.ref b120), .val (.int (7 : Int32)), .val (.int ex), .unset] [(.int (7 : Int32)), (.ref b120)])) rfl (by rw [hml]; rfl) (argsL := [(.ref b120), (.int (7 : Int32))]) (rest := []) (lenOf own_pd97 rfl) rfl (by show 2 * 0 + _ ≤ _; exact Nat.le_of_eq rfl) (hb hby at_208) (fun _ _ => ⟨rfl, ej226, (by decide : 1 + 0 ≤ _), (by decide : 8 + 0 ≤ _)⟩)
      dsimp only [Pt.U, Pt.locs, Pt.cells, Pt.slots] at X227 l227 y227 z227 st227 hQ227
      subst l227 y227 z227
      obtain ⟨rfl, Nq227, eh227⟩ := hQ227
      have N227 := Fr.app Nj226 Nq227
      refine own_by (fun _ k => st227 _ k) ?_
      show own_Fin p e below s _ _ _ T227 (mkF m 211 #[.val (.long p1), .second, .val (.int p2), .val (.ref b120), .val (.int (7 : Int32)), .val (.int ex), .unset] [(.int (own_tl4 v6 v5 v4 v3))])
      refine own_by (fun _ k => XS.istore X227.here hx rfl (hb hby at_211) rfl (l' := #[.val (.long p1), .second, .val (.int p2), .val (.ref b120), .val (.int (7 : Int32)), .val (.int ex), .val (.int (own_tl4 v6 v5 v4 v3))]) rfl (XS.iload X227.here hx rfl (hb hby at_213) rfl (XS.iload X227.here hx rfl (hb hby at_215) rfl k))) ?_
      show own_Fin p e below s _ _ _ T227 (mkF m 217 #[.val (.long p1), .second, .val (.int p2), .val (.ref b120), .val (.int (7 : Int32)), .val (.int ex), .val (.int (own_tl4 v6 v5 v4 v3))] [(.int ex), (.int (own_tl4 v6 v5 v4 v3))])
      refine own_by (fun _ k => XS.icmpNo X227.here hx rfl (hb hby at_217) rfl (teq hx205).2 k) ?_
      show own_Fin p e below s _ _ _ T227 (mkF m 220 #[.val (.long p1), .second, .val (.int p2), .val (.ref b120), .val (.int (7 : Int32)), .val (.int ex), .val (.int (own_tl4 v6 v5 v4 v3))] [])
      refine own_by (fun _ k => XS.iconst X227.here hx rfl (hb hby at_220) (XS.goto X227.here hx rfl (pc0 := 221) (pc' := 225) rfl (hb hby at_221) (by decide) (by decide) k)) ?_
      show own_Fin p e below s _ _ _ T227 (mkF m 225 #[.val (.long p1), .second, .val (.int p2), .val (.ref b120), .val (.int (7 : Int32)), .val (.int ex), .val (.int (own_tl4 v6 v5 v4 v3))] [(.int (1 : Int32))])
      exact own_retZ X227 hx hlk (t := .boolean) Bd.returns (by simp) (hb hby at_225) ⟨rfl, N227⟩ (by decide) (by decide)
    show own_Fin p e below s _ _ _ T136 (mkF m 88 #[.val (.long p1), .second, .val (.int p2), .val (.ref b120), .val (.int (7 : Int32)), .val (.int (0 : Int32)), .unset] [])
    refine own_by (fun _ k => XS.iload X136.here hx rfl (hb hby at_88) rfl (XS.iconst X136.here hx rfl (hb hby at_90) k)) ?_
    show own_Fin p e below s _ _ _ T136 (mkF m 91 #[.val (.long p1), .second, .val (.int p2), .val (.ref b120), .val (.int (7 : Int32)), .val (.int (0 : Int32)), .unset] [(.int (1 : Int32)), (.int (7 : Int32))])
    refine own_by (fun _ k => XS.icmpNo X136.here hx rfl (hb hby at_91) rfl (flt (by decide : ¬ ((7 : Int32) < (1 : Int32)))).1 k) ?_
    show own_Fin p e below s _ _ _ T136 (mkF m 94 #[.val (.long p1), .second, .val (.int p2), .val (.ref b120), .val (.int (7 : Int32)), .val (.int (0 : Int32)), .unset] [])
    refine own_by (fun _ k => XS.aloadN X136.here hx rfl (hb hby at_94) rfl rfl (XS.iload X136.here hx rfl (hb hby at_95) rfl (XS.iconst X136.here hx rfl (hb hby at_97) (XS.isub X136.here hx rfl (hb hby at_98) rfl k)))) ?_
    show own_Fin p e below s _ _ _ T136 (mkF m 99 #[.val (.long p1), .second, .val (.int p2), .val (.ref b120), .val (.int (7 : Int32)), .val (.int (0 : Int32)), .unset] [(.int ((7 : Int32) - (1 : Int32))), (.ref b120)])
    rw [(by decide : ((7 : Int32) - (1 : Int32)) = (6 : Int32))]
    show own_Fin p e below s _ _ _ T136 (mkF m 99 #[.val (.long p1), .second, .val (.int p2), .val (.ref b120), .val (.int (7 : Int32)), .val (.int (0 : Int32)), .unset] [(.int (6 : Int32)), (.ref b120)])
    obtain ⟨_, _, ⟨T228, L228, k228, n228⟩, -, X228, ⟨Lc228, hQ228, l228, y228, z228⟩, st228⟩ := Jvm.LawKit.callS X136 hx (y := (⟨"com/example/munka/munka/util/Utf8UnfinishedTailPinLaw", "u", "([BI)I"⟩ : MethodName)) hown (mvT hZ (hw _ (List.mem_of_getElem? (i := 2) rfl))) (mvT hZ (hw _ (List.mem_of_getElem? (i := 3) rfl))) (mvT hZ (hw _ (List.mem_of_getElem? (i := 4) rfl))) (mvT hZ (hw _ (List.mem_of_getElem? (i := 5) rfl))) (by decide) (backOf (W := 0) (rm1 l Z a0 hw [] b120 (6 : Int32) k120 (8 : Int32) [(.int v0), (.int v1), (.int v2), (.int v3), (.int v4), (.int v5), (.int v6), (.int v7)] v6 h136 n0 Zs136 Vg ⟨by decide, by decide⟩ rfl) hZ (hw _ (List.mem_of_getElem? (i := 5) rfl)) (hw _ (List.mem_of_getElem? (i := 4) rfl)) (by decide) (by decide)) (g := (mkF m 99 #[.val (.long p1), .second, .val (.int p2), .val (.ref b120), .val (.int (7 : Int32)), .val (.int (0 : Int32)), .unset] [(.int (6 : Int32)), (.ref b120)])) rfl (by rw [hml]; rfl) (argsL := [(.ref b120), (.int (6 : Int32))]) (rest := []) (lenOf own_pd97 rfl) rfl (by show 2 * 0 + _ ≤ _; exact Nat.le_of_eq rfl) (hb hby at_99) (fun _ _ => ⟨rfl, e136, (by decide : 1 + 0 ≤ _), (by decide : 8 + 0 ≤ _)⟩)
    dsimp only [Pt.U, Pt.locs, Pt.cells, Pt.slots] at X228 l228 y228 z228 st228 hQ228
    subst l228 y228 z228
    obtain ⟨rfl, Nq228, eh228⟩ := hQ228
    have N228 := Fr.app N136 Nq228
    refine own_by (fun _ k => st228 _ k) ?_
    show own_Fin p e below s _ _ _ T228 (mkF m 102 #[.val (.long p1), .second, .val (.int p2), .val (.ref b120), .val (.int (7 : Int32)), .val (.int (0 : Int32)), .unset] [(.int (v6 &&& (255 : Int32)))])
    refine own_by (fun _ k => XS.sipush X228.here hx rfl (hb hby at_102) k) ?_
    show own_Fin p e below s _ _ _ T228 (mkF m 105 #[.val (.long p1), .second, .val (.int p2), .val (.ref b120), .val (.int (7 : Int32)), .val (.int (0 : Int32)), .unset] [(.int (192 : Int32)), (.int (v6 &&& (255 : Int32)))])
    by_cases hc105_229 : (v6 &&& (255 : Int32)) < (192 : Int32)
    · show own_Fin p e below s _ _ _ T228 (mkF m 105 #[.val (.long p1), .second, .val (.int p2), .val (.ref b120), .val (.int (7 : Int32)), .val (.int (0 : Int32)), .unset] [(.int (192 : Int32)), (.int (v6 &&& (255 : Int32)))])
      refine own_by (fun _ k => XS.icmpYes X228.here hx rfl (pc0 := 105) (pc' := 114) rfl (hb hby at_105) rfl (tlt hc105_229).1 (by decide) (by decide) k) ?_
      show own_Fin p e below s _ _ _ T228 (mkF m 114 #[.val (.long p1), .second, .val (.int p2), .val (.ref b120), .val (.int (7 : Int32)), .val (.int (0 : Int32)), .unset] [])
      refine own_by (fun _ k => XS.iload X228.here hx rfl (hb hby at_114) rfl (XS.iconst X228.here hx rfl (hb hby at_116) k)) ?_
      show own_Fin p e below s _ _ _ T228 (mkF m 117 #[.val (.long p1), .second, .val (.int p2), .val (.ref b120), .val (.int (7 : Int32)), .val (.int (0 : Int32)), .unset] [(.int (2 : Int32)), (.int (7 : Int32))])
      refine own_by (fun _ k => XS.icmpNo X228.here hx rfl (hb hby at_117) rfl (flt (by decide : ¬ ((7 : Int32) < (2 : Int32)))).1 k) ?_
      show own_Fin p e below s _ _ _ T228 (mkF m 120 #[.val (.long p1), .second, .val (.int p2), .val (.ref b120), .val (.int (7 : Int32)), .val (.int (0 : Int32)), .unset] [])
      refine own_by (fun _ k => XS.aloadN X228.here hx rfl (hb hby at_120) rfl rfl (XS.iload X228.here hx rfl (hb hby at_121) rfl (XS.iconst X228.here hx rfl (hb hby at_123) (XS.isub X228.here hx rfl (hb hby at_124) rfl k)))) ?_
      show own_Fin p e below s _ _ _ T228 (mkF m 125 #[.val (.long p1), .second, .val (.int p2), .val (.ref b120), .val (.int (7 : Int32)), .val (.int (0 : Int32)), .unset] [(.int ((7 : Int32) - (1 : Int32))), (.ref b120)])
      rw [(by decide : ((7 : Int32) - (1 : Int32)) = (6 : Int32))]
      show own_Fin p e below s _ _ _ T228 (mkF m 125 #[.val (.long p1), .second, .val (.int p2), .val (.ref b120), .val (.int (7 : Int32)), .val (.int (0 : Int32)), .unset] [(.int (6 : Int32)), (.ref b120)])
      obtain ⟨_, _, ⟨T230, L230, k230, n230⟩, -, X230, ⟨Lc230, hQ230, l230, y230, z230⟩, st230⟩ := Jvm.LawKit.callS X228 hx (y := (⟨"com/example/munka/munka/util/Utf8UnfinishedTailPinLaw", "u", "([BI)I"⟩ : MethodName)) hown (mvT hZ (hw _ (List.mem_of_getElem? (i := 2) rfl))) (mvT hZ (hw _ (List.mem_of_getElem? (i := 3) rfl))) (mvT hZ (hw _ (List.mem_of_getElem? (i := 4) rfl))) (mvT hZ (hw _ (List.mem_of_getElem? (i := 5) rfl))) (by decide) (backOf (W := 0) (rm1 l Z a0 hw [] b120 (6 : Int32) k120 (8 : Int32) [(.int v0), (.int v1), (.int v2), (.int v3), (.int v4), (.int v5), (.int v6), (.int v7)] v6 h136 n0 Zs136 Vg ⟨by decide, by decide⟩ rfl) hZ (hw _ (List.mem_of_getElem? (i := 5) rfl)) (hw _ (List.mem_of_getElem? (i := 4) rfl)) (by decide) (by decide)) (g := (mkF m 125 #[.val (.long p1), .second, .val (.int p2), .val (.ref b120), .val (.int (7 : Int32)), .val (.int (0 : Int32)), .unset] [(.int (6 : Int32)), (.ref b120)])) rfl (by rw [hml]; rfl) (argsL := [(.ref b120), (.int (6 : Int32))]) (rest := []) (lenOf own_pd97 rfl) rfl (by show 2 * 0 + _ ≤ _; exact Nat.le_of_eq rfl) (hb hby at_125) (fun _ _ => ⟨rfl, eh228, (by decide : 1 + 0 ≤ _), (by decide : 8 + 0 ≤ _)⟩)
      dsimp only [Pt.U, Pt.locs, Pt.cells, Pt.slots] at X230 l230 y230 z230 st230 hQ230
      subst l230 y230 z230
      obtain ⟨rfl, Nq230, eh230⟩ := hQ230
      have N230 := Fr.app N228 Nq230
      refine own_by (fun _ k => st230 _ k) ?_
      show own_Fin p e below s _ _ _ T230 (mkF m 128 #[.val (.long p1), .second, .val (.int p2), .val (.ref b120), .val (.int (7 : Int32)), .val (.int (0 : Int32)), .unset] [(.int (v6 &&& (255 : Int32)))])
      obtain ⟨_, _, ⟨T231, L231, k231, n231⟩, -, X231, ⟨Lc231, hQ231, l231, y231, z231⟩, st231⟩ := Jvm.LawKit.callS X230 hx (y := (⟨"com/example/munka/munka/util/Utf8UnfinishedTailPinLaw", "cont", "(I)Z"⟩ : MethodName)) hown (mvT hZ (hw _ (List.mem_of_getElem? (i := 6) rfl))) (mvT hZ (hw _ (List.mem_of_getElem? (i := 7) rfl))) (mvT hZ (hw _ (List.mem_of_getElem? (i := 4) rfl))) (mvT hZ (hw _ (List.mem_of_getElem? (i := 8) rfl))) (by decide) (backOf (W := 0) (rm2 l Z a0 hw [] (v6 &&& (255 : Int32)) h136 n0 Zs136 ) hZ (hw _ (List.mem_of_getElem? (i := 8) rfl)) (hw _ (List.mem_of_getElem? (i := 4) rfl)) (by decide) (by decide)) (g := (mkF m 128 #[.val (.long p1), .second, .val (.int p2), .val (.ref b120), .val (.int (7 : Int32)), .val (.int (0 : Int32)), .unset] [(.int (v6 &&& (255 : Int32)))])) rfl (by rw [hml]; rfl) (argsL := [(.int (v6 &&& (255 : Int32)))]) (rest := []) (lenOf own_pd98 rfl) rfl (by show 2 * 0 + _ ≤ _; exact Nat.le_of_eq rfl) (hb hby at_128) (fun _ _ => ⟨rfl, eh230, (by decide : 1 + 0 ≤ _), (by decide : 8 + 0 ≤ _)⟩)
      dsimp only [Pt.U, Pt.locs, Pt.cells, Pt.slots] at X231 l231 y231 z231 st231 hQ231
      subst l231 y231 z231
      obtain ⟨rfl, Nq231, eh231⟩ := hQ231
      have N231 := Fr.app N230 Nq231
      refine own_by (fun _ k => st231 _ k) ?_
      show own_Fin p e below s _ _ _ T231 (mkF m 131 #[.val (.long p1), .second, .val (.int p2), .val (.ref b120), .val (.int (7 : Int32)), .val (.int (0 : Int32)), .unset] [(.int (own_cont (v6 &&& (255 : Int32))))])
      by_cases hc131_232 : (own_cont (v6 &&& (255 : Int32))) = (0 : Int32)
      · show own_Fin p e below s _ _ _ T231 (mkF m 131 #[.val (.long p1), .second, .val (.int p2), .val (.ref b120), .val (.int (7 : Int32)), .val (.int (0 : Int32)), .unset] [(.int (own_cont (v6 &&& (255 : Int32))))])
        refine own_by (fun _ k => XS.ifYes X231.here hx rfl (pc0 := 131) (pc' := 154) rfl (hb hby at_131) rfl ((if0 _ _).trans (teq hc131_232).1) (by decide) (by decide) k) ?_
        show own_Fin p e below s _ _ _ T231 (mkF m 154 #[.val (.long p1), .second, .val (.int p2), .val (.ref b120), .val (.int (7 : Int32)), .val (.int (0 : Int32)), .unset] [])
        refine own_by (fun _ k => XS.iload X231.here hx rfl (hb hby at_154) rfl (XS.iconst X231.here hx rfl (hb hby at_156) k)) ?_
        show own_Fin p e below s _ _ _ T231 (mkF m 157 #[.val (.long p1), .second, .val (.int p2), .val (.ref b120), .val (.int (7 : Int32)), .val (.int (0 : Int32)), .unset] [(.int (3 : Int32)), (.int (7 : Int32))])
        refine own_by (fun _ k => XS.icmpNo X231.here hx rfl (hb hby at_157) rfl (flt (by decide : ¬ ((7 : Int32) < (3 : Int32)))).1 k) ?_
        show own_Fin p e below s _ _ _ T231 (mkF m 160 #[.val (.long p1), .second, .val (.int p2), .val (.ref b120), .val (.int (7 : Int32)), .val (.int (0 : Int32)), .unset] [])
        refine own_by (fun _ k => XS.aloadN X231.here hx rfl (hb hby at_160) rfl rfl (XS.iload X231.here hx rfl (hb hby at_161) rfl (XS.iconst X231.here hx rfl (hb hby at_163) (XS.isub X231.here hx rfl (hb hby at_164) rfl k)))) ?_
        show own_Fin p e below s _ _ _ T231 (mkF m 165 #[.val (.long p1), .second, .val (.int p2), .val (.ref b120), .val (.int (7 : Int32)), .val (.int (0 : Int32)), .unset] [(.int ((7 : Int32) - (1 : Int32))), (.ref b120)])
        rw [(by decide : ((7 : Int32) - (1 : Int32)) = (6 : Int32))]
        show own_Fin p e below s _ _ _ T231 (mkF m 165 #[.val (.long p1), .second, .val (.int p2), .val (.ref b120), .val (.int (7 : Int32)), .val (.int (0 : Int32)), .unset] [(.int (6 : Int32)), (.ref b120)])
        obtain ⟨_, _, ⟨T233, L233, k233, n233⟩, -, X233, ⟨Lc233, hQ233, l233, y233, z233⟩, st233⟩ := Jvm.LawKit.callS X231 hx (y := (⟨"com/example/munka/munka/util/Utf8UnfinishedTailPinLaw", "u", "([BI)I"⟩ : MethodName)) hown (mvT hZ (hw _ (List.mem_of_getElem? (i := 2) rfl))) (mvT hZ (hw _ (List.mem_of_getElem? (i := 3) rfl))) (mvT hZ (hw _ (List.mem_of_getElem? (i := 4) rfl))) (mvT hZ (hw _ (List.mem_of_getElem? (i := 5) rfl))) (by decide) (backOf (W := 0) (rm1 l Z a0 hw [] b120 (6 : Int32) k120 (8 : Int32) [(.int v0), (.int v1), (.int v2), (.int v3), (.int v4), (.int v5), (.int v6), (.int v7)] v6 h136 n0 Zs136 Vg ⟨by decide, by decide⟩ rfl) hZ (hw _ (List.mem_of_getElem? (i := 5) rfl)) (hw _ (List.mem_of_getElem? (i := 4) rfl)) (by decide) (by decide)) (g := (mkF m 165 #[.val (.long p1), .second, .val (.int p2), .val (.ref b120), .val (.int (7 : Int32)), .val (.int (0 : Int32)), .unset] [(.int (6 : Int32)), (.ref b120)])) rfl (by rw [hml]; rfl) (argsL := [(.ref b120), (.int (6 : Int32))]) (rest := []) (lenOf own_pd97 rfl) rfl (by show 2 * 0 + _ ≤ _; exact Nat.le_of_eq rfl) (hb hby at_165) (fun _ _ => ⟨rfl, eh231, (by decide : 1 + 0 ≤ _), (by decide : 8 + 0 ≤ _)⟩)
        dsimp only [Pt.U, Pt.locs, Pt.cells, Pt.slots] at X233 l233 y233 z233 st233 hQ233
        subst l233 y233 z233
        obtain ⟨rfl, Nq233, eh233⟩ := hQ233
        have N233 := Fr.app N231 Nq233
        refine own_by (fun _ k => st233 _ k) ?_
        show own_Fin p e below s _ _ _ T233 (mkF m 168 #[.val (.long p1), .second, .val (.int p2), .val (.ref b120), .val (.int (7 : Int32)), .val (.int (0 : Int32)), .unset] [(.int (v6 &&& (255 : Int32)))])
        obtain ⟨_, _, ⟨T234, L234, k234, n234⟩, -, X234, ⟨Lc234, hQ234, l234, y234, z234⟩, st234⟩ := Jvm.LawKit.callS X233 hx (y := (⟨"com/example/munka/munka/util/Utf8UnfinishedTailPinLaw", "cont", "(I)Z"⟩ : MethodName)) hown (mvT hZ (hw _ (List.mem_of_getElem? (i := 6) rfl))) (mvT hZ (hw _ (List.mem_of_getElem? (i := 7) rfl))) (mvT hZ (hw _ (List.mem_of_getElem? (i := 4) rfl))) (mvT hZ (hw _ (List.mem_of_getElem? (i := 8) rfl))) (by decide) (backOf (W := 0) (rm2 l Z a0 hw [] (v6 &&& (255 : Int32)) h136 n0 Zs136 ) hZ (hw _ (List.mem_of_getElem? (i := 8) rfl)) (hw _ (List.mem_of_getElem? (i := 4) rfl)) (by decide) (by decide)) (g := (mkF m 168 #[.val (.long p1), .second, .val (.int p2), .val (.ref b120), .val (.int (7 : Int32)), .val (.int (0 : Int32)), .unset] [(.int (v6 &&& (255 : Int32)))])) rfl (by rw [hml]; rfl) (argsL := [(.int (v6 &&& (255 : Int32)))]) (rest := []) (lenOf own_pd98 rfl) rfl (by show 2 * 0 + _ ≤ _; exact Nat.le_of_eq rfl) (hb hby at_168) (fun _ _ => ⟨rfl, eh233, (by decide : 1 + 0 ≤ _), (by decide : 8 + 0 ≤ _)⟩)
        dsimp only [Pt.U, Pt.locs, Pt.cells, Pt.slots] at X234 l234 y234 z234 st234 hQ234
        subst l234 y234 z234
        obtain ⟨rfl, Nq234, eh234⟩ := hQ234
        have N234 := Fr.app N233 Nq234
        refine own_by (fun _ k => st234 _ k) ?_
        show own_Fin p e below s _ _ _ T234 (mkF m 171 #[.val (.long p1), .second, .val (.int p2), .val (.ref b120), .val (.int (7 : Int32)), .val (.int (0 : Int32)), .unset] [(.int (own_cont (v6 &&& (255 : Int32))))])
        refine own_by (fun _ k => XS.ifYes X234.here hx rfl (pc0 := 171) (pc' := 205) rfl (hb hby at_171) rfl ((if0 _ _).trans (teq hc131_232).1) (by decide) (by decide) k) ?_
        show own_Fin p e below s _ _ _ T234 (mkF m 205 #[.val (.long p1), .second, .val (.int p2), .val (.ref b120), .val (.int (7 : Int32)), .val (.int (0 : Int32)), .unset] [])
        exact J205_226 T234 _ X234 eh234 N234 ((0 : Int32)) ((own_eq4 v6 v5 v4 v3).trans (by simp [own_ex3, hc105_229, hc131_232]))
      · show own_Fin p e below s _ _ _ T231 (mkF m 131 #[.val (.long p1), .second, .val (.int p2), .val (.ref b120), .val (.int (7 : Int32)), .val (.int (0 : Int32)), .unset] [(.int (own_cont (v6 &&& (255 : Int32))))])
        refine own_by (fun _ k => XS.ifNo X231.here hx rfl (hb hby at_131) rfl ((if0 _ _).trans (feq hc131_232).1) k) ?_
        show own_Fin p e below s _ _ _ T231 (mkF m 134 #[.val (.long p1), .second, .val (.int p2), .val (.ref b120), .val (.int (7 : Int32)), .val (.int (0 : Int32)), .unset] [])
        refine own_by (fun _ k => XS.aloadN X231.here hx rfl (hb hby at_134) rfl rfl (XS.iload X231.here hx rfl (hb hby at_135) rfl (XS.iconst X231.here hx rfl (hb hby at_137) (XS.isub X231.here hx rfl (hb hby at_138) rfl k)))) ?_
        show own_Fin p e below s _ _ _ T231 (mkF m 139 #[.val (.long p1), .second, .val (.int p2), .val (.ref b120), .val (.int (7 : Int32)), .val (.int (0 : Int32)), .unset] [(.int ((7 : Int32) - (2 : Int32))), (.ref b120)])
        rw [(by decide : ((7 : Int32) - (2 : Int32)) = (5 : Int32))]
        show own_Fin p e below s _ _ _ T231 (mkF m 139 #[.val (.long p1), .second, .val (.int p2), .val (.ref b120), .val (.int (7 : Int32)), .val (.int (0 : Int32)), .unset] [(.int (5 : Int32)), (.ref b120)])
        obtain ⟨_, _, ⟨T235, L235, k235, n235⟩, -, X235, ⟨Lc235, hQ235, l235, y235, z235⟩, st235⟩ := Jvm.LawKit.callS X231 hx (y := (⟨"com/example/munka/munka/util/Utf8UnfinishedTailPinLaw", "u", "([BI)I"⟩ : MethodName)) hown (mvT hZ (hw _ (List.mem_of_getElem? (i := 2) rfl))) (mvT hZ (hw _ (List.mem_of_getElem? (i := 3) rfl))) (mvT hZ (hw _ (List.mem_of_getElem? (i := 4) rfl))) (mvT hZ (hw _ (List.mem_of_getElem? (i := 5) rfl))) (by decide) (backOf (W := 0) (rm1 l Z a0 hw [] b120 (5 : Int32) k120 (8 : Int32) [(.int v0), (.int v1), (.int v2), (.int v3), (.int v4), (.int v5), (.int v6), (.int v7)] v5 h136 n0 Zs136 Vg ⟨by decide, by decide⟩ rfl) hZ (hw _ (List.mem_of_getElem? (i := 5) rfl)) (hw _ (List.mem_of_getElem? (i := 4) rfl)) (by decide) (by decide)) (g := (mkF m 139 #[.val (.long p1), .second, .val (.int p2), .val (.ref b120), .val (.int (7 : Int32)), .val (.int (0 : Int32)), .unset] [(.int (5 : Int32)), (.ref b120)])) rfl (by rw [hml]; rfl) (argsL := [(.ref b120), (.int (5 : Int32))]) (rest := []) (lenOf own_pd97 rfl) rfl (by show 2 * 0 + _ ≤ _; exact Nat.le_of_eq rfl) (hb hby at_139) (fun _ _ => ⟨rfl, eh231, (by decide : 1 + 0 ≤ _), (by decide : 8 + 0 ≤ _)⟩)
        dsimp only [Pt.U, Pt.locs, Pt.cells, Pt.slots] at X235 l235 y235 z235 st235 hQ235
        subst l235 y235 z235
        obtain ⟨rfl, Nq235, eh235⟩ := hQ235
        have N235 := Fr.app N231 Nq235
        refine own_by (fun _ k => st235 _ k) ?_
        show own_Fin p e below s _ _ _ T235 (mkF m 142 #[.val (.long p1), .second, .val (.int p2), .val (.ref b120), .val (.int (7 : Int32)), .val (.int (0 : Int32)), .unset] [(.int (v5 &&& (255 : Int32)))])
        refine own_by (fun _ k => XS.sipush X235.here hx rfl (hb hby at_142) k) ?_
        show own_Fin p e below s _ _ _ T235 (mkF m 145 #[.val (.long p1), .second, .val (.int p2), .val (.ref b120), .val (.int (7 : Int32)), .val (.int (0 : Int32)), .unset] [(.int (224 : Int32)), (.int (v5 &&& (255 : Int32)))])
        by_cases hc145_236 : (v5 &&& (255 : Int32)) < (224 : Int32)
        · show own_Fin p e below s _ _ _ T235 (mkF m 145 #[.val (.long p1), .second, .val (.int p2), .val (.ref b120), .val (.int (7 : Int32)), .val (.int (0 : Int32)), .unset] [(.int (224 : Int32)), (.int (v5 &&& (255 : Int32)))])
          refine own_by (fun _ k => XS.icmpYes X235.here hx rfl (pc0 := 145) (pc' := 154) rfl (hb hby at_145) rfl (tlt hc145_236).1 (by decide) (by decide) k) ?_
          show own_Fin p e below s _ _ _ T235 (mkF m 154 #[.val (.long p1), .second, .val (.int p2), .val (.ref b120), .val (.int (7 : Int32)), .val (.int (0 : Int32)), .unset] [])
          refine own_by (fun _ k => XS.iload X235.here hx rfl (hb hby at_154) rfl (XS.iconst X235.here hx rfl (hb hby at_156) k)) ?_
          show own_Fin p e below s _ _ _ T235 (mkF m 157 #[.val (.long p1), .second, .val (.int p2), .val (.ref b120), .val (.int (7 : Int32)), .val (.int (0 : Int32)), .unset] [(.int (3 : Int32)), (.int (7 : Int32))])
          refine own_by (fun _ k => XS.icmpNo X235.here hx rfl (hb hby at_157) rfl (flt (by decide : ¬ ((7 : Int32) < (3 : Int32)))).1 k) ?_
          show own_Fin p e below s _ _ _ T235 (mkF m 160 #[.val (.long p1), .second, .val (.int p2), .val (.ref b120), .val (.int (7 : Int32)), .val (.int (0 : Int32)), .unset] [])
          refine own_by (fun _ k => XS.aloadN X235.here hx rfl (hb hby at_160) rfl rfl (XS.iload X235.here hx rfl (hb hby at_161) rfl (XS.iconst X235.here hx rfl (hb hby at_163) (XS.isub X235.here hx rfl (hb hby at_164) rfl k)))) ?_
          show own_Fin p e below s _ _ _ T235 (mkF m 165 #[.val (.long p1), .second, .val (.int p2), .val (.ref b120), .val (.int (7 : Int32)), .val (.int (0 : Int32)), .unset] [(.int ((7 : Int32) - (1 : Int32))), (.ref b120)])
          rw [(by decide : ((7 : Int32) - (1 : Int32)) = (6 : Int32))]
          show own_Fin p e below s _ _ _ T235 (mkF m 165 #[.val (.long p1), .second, .val (.int p2), .val (.ref b120), .val (.int (7 : Int32)), .val (.int (0 : Int32)), .unset] [(.int (6 : Int32)), (.ref b120)])
          obtain ⟨_, _, ⟨T237, L237, k237, n237⟩, -, X237, ⟨Lc237, hQ237, l237, y237, z237⟩, st237⟩ := Jvm.LawKit.callS X235 hx (y := (⟨"com/example/munka/munka/util/Utf8UnfinishedTailPinLaw", "u", "([BI)I"⟩ : MethodName)) hown (mvT hZ (hw _ (List.mem_of_getElem? (i := 2) rfl))) (mvT hZ (hw _ (List.mem_of_getElem? (i := 3) rfl))) (mvT hZ (hw _ (List.mem_of_getElem? (i := 4) rfl))) (mvT hZ (hw _ (List.mem_of_getElem? (i := 5) rfl))) (by decide) (backOf (W := 0) (rm1 l Z a0 hw [] b120 (6 : Int32) k120 (8 : Int32) [(.int v0), (.int v1), (.int v2), (.int v3), (.int v4), (.int v5), (.int v6), (.int v7)] v6 h136 n0 Zs136 Vg ⟨by decide, by decide⟩ rfl) hZ (hw _ (List.mem_of_getElem? (i := 5) rfl)) (hw _ (List.mem_of_getElem? (i := 4) rfl)) (by decide) (by decide)) (g := (mkF m 165 #[.val (.long p1), .second, .val (.int p2), .val (.ref b120), .val (.int (7 : Int32)), .val (.int (0 : Int32)), .unset] [(.int (6 : Int32)), (.ref b120)])) rfl (by rw [hml]; rfl) (argsL := [(.ref b120), (.int (6 : Int32))]) (rest := []) (lenOf own_pd97 rfl) rfl (by show 2 * 0 + _ ≤ _; exact Nat.le_of_eq rfl) (hb hby at_165) (fun _ _ => ⟨rfl, eh235, (by decide : 1 + 0 ≤ _), (by decide : 8 + 0 ≤ _)⟩)
          dsimp only [Pt.U, Pt.locs, Pt.cells, Pt.slots] at X237 l237 y237 z237 st237 hQ237
          subst l237 y237 z237
          obtain ⟨rfl, Nq237, eh237⟩ := hQ237
          have N237 := Fr.app N235 Nq237
          refine own_by (fun _ k => st237 _ k) ?_
          show own_Fin p e below s _ _ _ T237 (mkF m 168 #[.val (.long p1), .second, .val (.int p2), .val (.ref b120), .val (.int (7 : Int32)), .val (.int (0 : Int32)), .unset] [(.int (v6 &&& (255 : Int32)))])
          obtain ⟨_, _, ⟨T238, L238, k238, n238⟩, -, X238, ⟨Lc238, hQ238, l238, y238, z238⟩, st238⟩ := Jvm.LawKit.callS X237 hx (y := (⟨"com/example/munka/munka/util/Utf8UnfinishedTailPinLaw", "cont", "(I)Z"⟩ : MethodName)) hown (mvT hZ (hw _ (List.mem_of_getElem? (i := 6) rfl))) (mvT hZ (hw _ (List.mem_of_getElem? (i := 7) rfl))) (mvT hZ (hw _ (List.mem_of_getElem? (i := 4) rfl))) (mvT hZ (hw _ (List.mem_of_getElem? (i := 8) rfl))) (by decide) (backOf (W := 0) (rm2 l Z a0 hw [] (v6 &&& (255 : Int32)) h136 n0 Zs136 ) hZ (hw _ (List.mem_of_getElem? (i := 8) rfl)) (hw _ (List.mem_of_getElem? (i := 4) rfl)) (by decide) (by decide)) (g := (mkF m 168 #[.val (.long p1), .second, .val (.int p2), .val (.ref b120), .val (.int (7 : Int32)), .val (.int (0 : Int32)), .unset] [(.int (v6 &&& (255 : Int32)))])) rfl (by rw [hml]; rfl) (argsL := [(.int (v6 &&& (255 : Int32)))]) (rest := []) (lenOf own_pd98 rfl) rfl (by show 2 * 0 + _ ≤ _; exact Nat.le_of_eq rfl) (hb hby at_168) (fun _ _ => ⟨rfl, eh237, (by decide : 1 + 0 ≤ _), (by decide : 8 + 0 ≤ _)⟩)
          dsimp only [Pt.U, Pt.locs, Pt.cells, Pt.slots] at X238 l238 y238 z238 st238 hQ238
          subst l238 y238 z238
          obtain ⟨rfl, Nq238, eh238⟩ := hQ238
          have N238 := Fr.app N237 Nq238
          refine own_by (fun _ k => st238 _ k) ?_
          show own_Fin p e below s _ _ _ T238 (mkF m 171 #[.val (.long p1), .second, .val (.int p2), .val (.ref b120), .val (.int (7 : Int32)), .val (.int (0 : Int32)), .unset] [(.int (own_cont (v6 &&& (255 : Int32))))])
          refine own_by (fun _ k => XS.ifNo X238.here hx rfl (hb hby at_171) rfl ((if0 _ _).trans (feq hc131_232).1) k) ?_
          show own_Fin p e below s _ _ _ T238 (mkF m 174 #[.val (.long p1), .second, .val (.int p2), .val (.ref b120), .val (.int (7 : Int32)), .val (.int (0 : Int32)), .unset] [])
          refine own_by (fun _ k => XS.aloadN X238.here hx rfl (hb hby at_174) rfl rfl (XS.iload X238.here hx rfl (hb hby at_175) rfl (XS.iconst X238.here hx rfl (hb hby at_177) (XS.isub X238.here hx rfl (hb hby at_178) rfl k)))) ?_
          show own_Fin p e below s _ _ _ T238 (mkF m 179 #[.val (.long p1), .second, .val (.int p2), .val (.ref b120), .val (.int (7 : Int32)), .val (.int (0 : Int32)), .unset] [(.int ((7 : Int32) - (2 : Int32))), (.ref b120)])
          rw [(by decide : ((7 : Int32) - (2 : Int32)) = (5 : Int32))]
          show own_Fin p e below s _ _ _ T238 (mkF m 179 #[.val (.long p1), .second, .val (.int p2), .val (.ref b120), .val (.int (7 : Int32)), .val (.int (0 : Int32)), .unset] [(.int (5 : Int32)), (.ref b120)])
          obtain ⟨_, _, ⟨T239, L239, k239, n239⟩, -, X239, ⟨Lc239, hQ239, l239, y239, z239⟩, st239⟩ := Jvm.LawKit.callS X238 hx (y := (⟨"com/example/munka/munka/util/Utf8UnfinishedTailPinLaw", "u", "([BI)I"⟩ : MethodName)) hown (mvT hZ (hw _ (List.mem_of_getElem? (i := 2) rfl))) (mvT hZ (hw _ (List.mem_of_getElem? (i := 3) rfl))) (mvT hZ (hw _ (List.mem_of_getElem? (i := 4) rfl))) (mvT hZ (hw _ (List.mem_of_getElem? (i := 5) rfl))) (by decide) (backOf (W := 0) (rm1 l Z a0 hw [] b120 (5 : Int32) k120 (8 : Int32) [(.int v0), (.int v1), (.int v2), (.int v3), (.int v4), (.int v5), (.int v6), (.int v7)] v5 h136 n0 Zs136 Vg ⟨by decide, by decide⟩ rfl) hZ (hw _ (List.mem_of_getElem? (i := 5) rfl)) (hw _ (List.mem_of_getElem? (i := 4) rfl)) (by decide) (by decide)) (g := (mkF m 179 #[.val (.long p1), .second, .val (.int p2), .val (.ref b120), .val (.int (7 : Int32)), .val (.int (0 : Int32)), .unset] [(.int (5 : Int32)), (.ref b120)])) rfl (by rw [hml]; rfl) (argsL := [(.ref b120), (.int (5 : Int32))]) (rest := []) (lenOf own_pd97 rfl) rfl (by show 2 * 0 + _ ≤ _; exact Nat.le_of_eq rfl) (hb hby at_179) (fun _ _ => ⟨rfl, eh238, (by decide : 1 + 0 ≤ _), (by decide : 8 + 0 ≤ _)⟩)
          dsimp only [Pt.U, Pt.locs, Pt.cells, Pt.slots] at X239 l239 y239 z239 st239 hQ239
          subst l239 y239 z239
          obtain ⟨rfl, Nq239, eh239⟩ := hQ239
          have N239 := Fr.app N238 Nq239
          refine own_by (fun _ k => st239 _ k) ?_
          show own_Fin p e below s _ _ _ T239 (mkF m 182 #[.val (.long p1), .second, .val (.int p2), .val (.ref b120), .val (.int (7 : Int32)), .val (.int (0 : Int32)), .unset] [(.int (v5 &&& (255 : Int32)))])
          obtain ⟨_, _, ⟨T240, L240, k240, n240⟩, -, X240, ⟨Lc240, hQ240, l240, y240, z240⟩, st240⟩ := Jvm.LawKit.callS X239 hx (y := (⟨"com/example/munka/munka/util/Utf8UnfinishedTailPinLaw", "cont", "(I)Z"⟩ : MethodName)) hown (mvT hZ (hw _ (List.mem_of_getElem? (i := 6) rfl))) (mvT hZ (hw _ (List.mem_of_getElem? (i := 7) rfl))) (mvT hZ (hw _ (List.mem_of_getElem? (i := 4) rfl))) (mvT hZ (hw _ (List.mem_of_getElem? (i := 8) rfl))) (by decide) (backOf (W := 0) (rm2 l Z a0 hw [] (v5 &&& (255 : Int32)) h136 n0 Zs136 ) hZ (hw _ (List.mem_of_getElem? (i := 8) rfl)) (hw _ (List.mem_of_getElem? (i := 4) rfl)) (by decide) (by decide)) (g := (mkF m 182 #[.val (.long p1), .second, .val (.int p2), .val (.ref b120), .val (.int (7 : Int32)), .val (.int (0 : Int32)), .unset] [(.int (v5 &&& (255 : Int32)))])) rfl (by rw [hml]; rfl) (argsL := [(.int (v5 &&& (255 : Int32)))]) (rest := []) (lenOf own_pd98 rfl) rfl (by show 2 * 0 + _ ≤ _; exact Nat.le_of_eq rfl) (hb hby at_182) (fun _ _ => ⟨rfl, eh239, (by decide : 1 + 0 ≤ _), (by decide : 8 + 0 ≤ _)⟩)
          dsimp only [Pt.U, Pt.locs, Pt.cells, Pt.slots] at X240 l240 y240 z240 st240 hQ240
          subst l240 y240 z240
          obtain ⟨rfl, Nq240, eh240⟩ := hQ240
          have N240 := Fr.app N239 Nq240
          refine own_by (fun _ k => st240 _ k) ?_
          show own_Fin p e below s _ _ _ T240 (mkF m 185 #[.val (.long p1), .second, .val (.int p2), .val (.ref b120), .val (.int (7 : Int32)), .val (.int (0 : Int32)), .unset] [(.int (own_cont (v5 &&& (255 : Int32))))])
          by_cases hc185_241 : (own_cont (v5 &&& (255 : Int32))) = (0 : Int32)
          · show own_Fin p e below s _ _ _ T240 (mkF m 185 #[.val (.long p1), .second, .val (.int p2), .val (.ref b120), .val (.int (7 : Int32)), .val (.int (0 : Int32)), .unset] [(.int (own_cont (v5 &&& (255 : Int32))))])
            refine own_by (fun _ k => XS.ifYes X240.here hx rfl (pc0 := 185) (pc' := 205) rfl (hb hby at_185) rfl ((if0 _ _).trans (teq hc185_241).1) (by decide) (by decide) k) ?_
            show own_Fin p e below s _ _ _ T240 (mkF m 205 #[.val (.long p1), .second, .val (.int p2), .val (.ref b120), .val (.int (7 : Int32)), .val (.int (0 : Int32)), .unset] [])
            exact J205_226 T240 _ X240 eh240 N240 ((0 : Int32)) ((own_eq4 v6 v5 v4 v3).trans (by simp [own_ex3, hc105_229, hc131_232, hc145_236, hc185_241]))
          · show own_Fin p e below s _ _ _ T240 (mkF m 185 #[.val (.long p1), .second, .val (.int p2), .val (.ref b120), .val (.int (7 : Int32)), .val (.int (0 : Int32)), .unset] [(.int (own_cont (v5 &&& (255 : Int32))))])
            refine own_by (fun _ k => XS.ifNo X240.here hx rfl (hb hby at_185) rfl ((if0 _ _).trans (feq hc185_241).1) k) ?_
            show own_Fin p e below s _ _ _ T240 (mkF m 188 #[.val (.long p1), .second, .val (.int p2), .val (.ref b120), .val (.int (7 : Int32)), .val (.int (0 : Int32)), .unset] [])
            refine own_by (fun _ k => XS.aloadN X240.here hx rfl (hb hby at_188) rfl rfl (XS.iload X240.here hx rfl (hb hby at_189) rfl (XS.iconst X240.here hx rfl (hb hby at_191) (XS.isub X240.here hx rfl (hb hby at_192) rfl k)))) ?_
            show own_Fin p e below s _ _ _ T240 (mkF m 193 #[.val (.long p1), .second, .val (.int p2), .val (.ref b120), .val (.int (7 : Int32)), .val (.int (0 : Int32)), .unset] [(.int ((7 : Int32) - (3 : Int32))), (.ref b120)])
            rw [(by decide : ((7 : Int32) - (3 : Int32)) = (4 : Int32))]
            show own_Fin p e below s _ _ _ T240 (mkF m 193 #[.val (.long p1), .second, .val (.int p2), .val (.ref b120), .val (.int (7 : Int32)), .val (.int (0 : Int32)), .unset] [(.int (4 : Int32)), (.ref b120)])
            obtain ⟨_, _, ⟨T242, L242, k242, n242⟩, -, X242, ⟨Lc242, hQ242, l242, y242, z242⟩, st242⟩ := Jvm.LawKit.callS X240 hx (y := (⟨"com/example/munka/munka/util/Utf8UnfinishedTailPinLaw", "u", "([BI)I"⟩ : MethodName)) hown (mvT hZ (hw _ (List.mem_of_getElem? (i := 2) rfl))) (mvT hZ (hw _ (List.mem_of_getElem? (i := 3) rfl))) (mvT hZ (hw _ (List.mem_of_getElem? (i := 4) rfl))) (mvT hZ (hw _ (List.mem_of_getElem? (i := 5) rfl))) (by decide) (backOf (W := 0) (rm1 l Z a0 hw [] b120 (4 : Int32) k120 (8 : Int32) [(.int v0), (.int v1), (.int v2), (.int v3), (.int v4), (.int v5), (.int v6), (.int v7)] v4 h136 n0 Zs136 Vg ⟨by decide, by decide⟩ rfl) hZ (hw _ (List.mem_of_getElem? (i := 5) rfl)) (hw _ (List.mem_of_getElem? (i := 4) rfl)) (by decide) (by decide)) (g := (mkF m 193 #[.val (.long p1), .second, .val (.int p2), .val (.ref b120), .val (.int (7 : Int32)), .val (.int (0 : Int32)), .unset] [(.int (4 : Int32)), (.ref b120)])) rfl (by rw [hml]; rfl) (argsL := [(.ref b120), (.int (4 : Int32))]) (rest := []) (lenOf own_pd97 rfl) rfl (by show 2 * 0 + _ ≤ _; exact Nat.le_of_eq rfl) (hb hby at_193) (fun _ _ => ⟨rfl, eh240, (by decide : 1 + 0 ≤ _), (by decide : 8 + 0 ≤ _)⟩)
            dsimp only [Pt.U, Pt.locs, Pt.cells, Pt.slots] at X242 l242 y242 z242 st242 hQ242
            subst l242 y242 z242
            obtain ⟨rfl, Nq242, eh242⟩ := hQ242
            have N242 := Fr.app N240 Nq242
            refine own_by (fun _ k => st242 _ k) ?_
            show own_Fin p e below s _ _ _ T242 (mkF m 196 #[.val (.long p1), .second, .val (.int p2), .val (.ref b120), .val (.int (7 : Int32)), .val (.int (0 : Int32)), .unset] [(.int (v4 &&& (255 : Int32)))])
            refine own_by (fun _ k => XS.sipush X242.here hx rfl (hb hby at_196) k) ?_
            show own_Fin p e below s _ _ _ T242 (mkF m 199 #[.val (.long p1), .second, .val (.int p2), .val (.ref b120), .val (.int (7 : Int32)), .val (.int (0 : Int32)), .unset] [(.int (240 : Int32)), (.int (v4 &&& (255 : Int32)))])
            by_cases hc199_243 : (v4 &&& (255 : Int32)) < (240 : Int32)
            · show own_Fin p e below s _ _ _ T242 (mkF m 199 #[.val (.long p1), .second, .val (.int p2), .val (.ref b120), .val (.int (7 : Int32)), .val (.int (0 : Int32)), .unset] [(.int (240 : Int32)), (.int (v4 &&& (255 : Int32)))])
              refine own_by (fun _ k => XS.icmpYes X242.here hx rfl (pc0 := 199) (pc' := 205) rfl (hb hby at_199) rfl (tlt hc199_243).1 (by decide) (by decide) k) ?_
              show own_Fin p e below s _ _ _ T242 (mkF m 205 #[.val (.long p1), .second, .val (.int p2), .val (.ref b120), .val (.int (7 : Int32)), .val (.int (0 : Int32)), .unset] [])
              exact J205_226 T242 _ X242 eh242 N242 ((0 : Int32)) ((own_eq4 v6 v5 v4 v3).trans (by simp [own_ex3, hc105_229, hc131_232, hc145_236, hc185_241, hc199_243]))
            · show own_Fin p e below s _ _ _ T242 (mkF m 199 #[.val (.long p1), .second, .val (.int p2), .val (.ref b120), .val (.int (7 : Int32)), .val (.int (0 : Int32)), .unset] [(.int (240 : Int32)), (.int (v4 &&& (255 : Int32)))])
              refine own_by (fun _ k => XS.icmpNo X242.here hx rfl (hb hby at_199) rfl (flt hc199_243).1 k) ?_
              show own_Fin p e below s _ _ _ T242 (mkF m 202 #[.val (.long p1), .second, .val (.int p2), .val (.ref b120), .val (.int (7 : Int32)), .val (.int (0 : Int32)), .unset] [])
              refine own_by (fun _ k => XS.iconst X242.here hx rfl (hb hby at_202) (XS.istore X242.here hx rfl (hb hby at_203) rfl (l' := #[.val (.long p1), .second, .val (.int p2), .val (.ref b120), .val (.int (7 : Int32)), .val (.int (3 : Int32)), .unset]) rfl k)) ?_
              show own_Fin p e below s _ _ _ T242 (mkF m 205 #[.val (.long p1), .second, .val (.int p2), .val (.ref b120), .val (.int (7 : Int32)), .val (.int (3 : Int32)), .unset] [])
              exact J205_226 T242 _ X242 eh242 N242 ((3 : Int32)) ((own_eq4 v6 v5 v4 v3).trans (by simp [own_ex3, hc105_229, hc131_232, hc145_236, hc185_241, hc199_243]))
        · show own_Fin p e below s _ _ _ T235 (mkF m 145 #[.val (.long p1), .second, .val (.int p2), .val (.ref b120), .val (.int (7 : Int32)), .val (.int (0 : Int32)), .unset] [(.int (224 : Int32)), (.int (v5 &&& (255 : Int32)))])
          refine own_by (fun _ k => XS.icmpNo X235.here hx rfl (hb hby at_145) rfl (flt hc145_236).1 k) ?_
          show own_Fin p e below s _ _ _ T235 (mkF m 148 #[.val (.long p1), .second, .val (.int p2), .val (.ref b120), .val (.int (7 : Int32)), .val (.int (0 : Int32)), .unset] [])
          refine own_by (fun _ k => XS.iconst X235.here hx rfl (hb hby at_148) (XS.istore X235.here hx rfl (hb hby at_149) rfl (l' := #[.val (.long p1), .second, .val (.int p2), .val (.ref b120), .val (.int (7 : Int32)), .val (.int (2 : Int32)), .unset]) rfl (XS.goto X235.here hx rfl (pc0 := 151) (pc' := 205) rfl (hb hby at_151) (by decide) (by decide) k))) ?_
          show own_Fin p e below s _ _ _ T235 (mkF m 205 #[.val (.long p1), .second, .val (.int p2), .val (.ref b120), .val (.int (7 : Int32)), .val (.int (2 : Int32)), .unset] [])
          exact J205_226 T235 _ X235 eh235 N235 ((2 : Int32)) ((own_eq4 v6 v5 v4 v3).trans (by simp [own_ex3, hc105_229, hc131_232, hc145_236]))
    · show own_Fin p e below s _ _ _ T228 (mkF m 105 #[.val (.long p1), .second, .val (.int p2), .val (.ref b120), .val (.int (7 : Int32)), .val (.int (0 : Int32)), .unset] [(.int (192 : Int32)), (.int (v6 &&& (255 : Int32)))])
      refine own_by (fun _ k => XS.icmpNo X228.here hx rfl (hb hby at_105) rfl (flt hc105_229).1 k) ?_
      show own_Fin p e below s _ _ _ T228 (mkF m 108 #[.val (.long p1), .second, .val (.int p2), .val (.ref b120), .val (.int (7 : Int32)), .val (.int (0 : Int32)), .unset] [])
      refine own_by (fun _ k => XS.iconst X228.here hx rfl (hb hby at_108) (XS.istore X228.here hx rfl (hb hby at_109) rfl (l' := #[.val (.long p1), .second, .val (.int p2), .val (.ref b120), .val (.int (7 : Int32)), .val (.int (1 : Int32)), .unset]) rfl (XS.goto X228.here hx rfl (pc0 := 111) (pc' := 205) rfl (hb hby at_111) (by decide) (by decide) k))) ?_
      show own_Fin p e below s _ _ _ T228 (mkF m 205 #[.val (.long p1), .second, .val (.int p2), .val (.ref b120), .val (.int (7 : Int32)), .val (.int (1 : Int32)), .unset] [])
      exact J205_226 T228 _ X228 eh228 N228 ((1 : Int32)) ((own_eq4 v6 v5 v4 v3).trans (by simp [own_ex3, hc105_229]))
  · show own_Fin p e below s _ _ _ T136 (mkF m 83 #[.val (.long p1), .second, .val (.int p2), .val (.ref b120), .unset, .unset, .unset] [(.int ((p2 &&& (2147483647 : Int32)) % (9 : Int32)))])
    rw [hn]
    show own_Fin p e below s _ _ _ T136 (mkF m 83 #[.val (.long p1), .second, .val (.int p2), .val (.ref b120), .unset, .unset, .unset] [(.int (8 : Int32))])
    refine own_by (fun _ k => XS.istore X136.here hx rfl (hb hby at_83) rfl (l' := #[.val (.long p1), .second, .val (.int p2), .val (.ref b120), .val (.int (8 : Int32)), .unset, .unset]) rfl (XS.iconst X136.here hx rfl (hb hby at_85) (XS.istore X136.here hx rfl (hb hby at_86) rfl (l' := #[.val (.long p1), .second, .val (.int p2), .val (.ref b120), .val (.int (8 : Int32)), .val (.int (0 : Int32)), .unset]) rfl k))) ?_
    show own_Fin p e below s _ _ _ T136 (mkF m 88 #[.val (.long p1), .second, .val (.int p2), .val (.ref b120), .val (.int (8 : Int32)), .val (.int (0 : Int32)), .unset] [])
    have J205_244 : ∀ (Tj244 : State) (lj244 : List Loc) (Xj244 : Stand p l e room_1 s m #[(.long p1), (.int p2)] below meth c Tj244 lj244 1 8) (ej244 : Tj244.heap = h136) (Nj244 : Fr n0 lj244) (ex : Int32) (hx205 : (own_tl4 v7 v6 v5 v4) = ex), own_Fin p e below s room_1.cells room_1.slots (own_Q0 n0) Tj244 (mkF m 205 #[.val (.long p1), .second, .val (.int p2), .val (.ref b120), .val (.int (8 : Int32)), .val (.int ex), .unset] []) := by
      intro Tj244 lj244 Xj244 ej244 Nj244 ex hx205
      show own_Fin p e below s _ _ _ Tj244 (mkF m 205 #[.val (.long p1), .second, .val (.int p2), .val (.ref b120), .val (.int (8 : Int32)), .val (.int ex), .unset] [])
      refine own_by (fun _ k => XS.aloadN Xj244.here hx rfl (hb hby at_205) rfl rfl (XS.iload Xj244.here hx rfl (hb hby at_206) rfl k)) ?_
      show own_Fin p e below s _ _ _ Tj244 (mkF m 208 #[.val (.long p1), .second, .val (.int p2), .val (.ref b120), .val (.int (8 : Int32)), .val (.int ex), .unset] [(.int (8 : Int32)), (.ref b120)])
      obtain ⟨_, _, ⟨T245, L245, k245, n245⟩, -, X245, ⟨Lc245, hQ245, l245, y245, z245⟩, st245⟩ := Jvm.LawKit.callS Xj244 hx (y := (⟨"com/example/munka/munka/util/Utf8", "unfinishedTail", "([BI)I"⟩ : MethodName)) hown (mvT hZ (hw _ (List.mem_of_getElem? (i := 9) rfl))) (mvT hZ (hw _ (List.mem_of_getElem? (i := 10) rfl))) (mvT hZ (hw _ (List.mem_of_getElem? (i := 11) rfl))) (mvT hZ (hw _ (List.mem_of_getElem? (i := 12) rfl))) (by decide) (backOf (W := 0) (rmT8 l Z a0 hw [] b120 k120 v0 v1 v2 v3 v4 v5 v6 v7 h136 n0 Zs136 Vg) hZ (hw _ (List.mem_of_getElem? (i := 12) rfl)) (hw _ (List.mem_of_getElem? (i := 11) rfl)) (by decide) (by decide)) (g := (mkF m 208 #[.val (.long p1), .second, .val (.int p2), .val (.ref b120), .val (.int (8 : Int32)), .val (.int ex), .unset] [(.int (8 : Int32)), (.ref b120)])) rfl (by rw [hml]; rfl) (argsL := [(.ref b120), (.int (8 : Int32))]) (rest := []) (lenOf own_pd97 rfl) rfl (by show 2 * 0 + _ ≤ _; exact Nat.le_of_eq rfl) (hb hby at_208) (fun _ _ => ⟨rfl, ej244, (by decide : 1 + 0 ≤ _), (by decide : 8 + 0 ≤ _)⟩)
      dsimp only [Pt.U, Pt.locs, Pt.cells, Pt.slots] at X245 l245 y245 z245 st245 hQ245
      subst l245 y245 z245
      obtain ⟨rfl, Nq245, eh245⟩ := hQ245
      have N245 := Fr.app Nj244 Nq245
      refine own_by (fun _ k => st245 _ k) ?_
      show own_Fin p e below s _ _ _ T245 (mkF m 211 #[.val (.long p1), .second, .val (.int p2), .val (.ref b120), .val (.int (8 : Int32)), .val (.int ex), .unset] [(.int (own_tl4 v7 v6 v5 v4))])
      refine own_by (fun _ k => XS.istore X245.here hx rfl (hb hby at_211) rfl (l' := #[.val (.long p1), .second, .val (.int p2), .val (.ref b120), .val (.int (8 : Int32)), .val (.int ex), .val (.int (own_tl4 v7 v6 v5 v4))]) rfl (XS.iload X245.here hx rfl (hb hby at_213) rfl (XS.iload X245.here hx rfl (hb hby at_215) rfl k))) ?_
      show own_Fin p e below s _ _ _ T245 (mkF m 217 #[.val (.long p1), .second, .val (.int p2), .val (.ref b120), .val (.int (8 : Int32)), .val (.int ex), .val (.int (own_tl4 v7 v6 v5 v4))] [(.int ex), (.int (own_tl4 v7 v6 v5 v4))])
      refine own_by (fun _ k => XS.icmpNo X245.here hx rfl (hb hby at_217) rfl (teq hx205).2 k) ?_
      show own_Fin p e below s _ _ _ T245 (mkF m 220 #[.val (.long p1), .second, .val (.int p2), .val (.ref b120), .val (.int (8 : Int32)), .val (.int ex), .val (.int (own_tl4 v7 v6 v5 v4))] [])
      refine own_by (fun _ k => XS.iconst X245.here hx rfl (hb hby at_220) (XS.goto X245.here hx rfl (pc0 := 221) (pc' := 225) rfl (hb hby at_221) (by decide) (by decide) k)) ?_
      show own_Fin p e below s _ _ _ T245 (mkF m 225 #[.val (.long p1), .second, .val (.int p2), .val (.ref b120), .val (.int (8 : Int32)), .val (.int ex), .val (.int (own_tl4 v7 v6 v5 v4))] [(.int (1 : Int32))])
      exact own_retZ X245 hx hlk (t := .boolean) Bd.returns (by simp) (hb hby at_225) ⟨rfl, N245⟩ (by decide) (by decide)
    show own_Fin p e below s _ _ _ T136 (mkF m 88 #[.val (.long p1), .second, .val (.int p2), .val (.ref b120), .val (.int (8 : Int32)), .val (.int (0 : Int32)), .unset] [])
    refine own_by (fun _ k => XS.iload X136.here hx rfl (hb hby at_88) rfl (XS.iconst X136.here hx rfl (hb hby at_90) k)) ?_
    show own_Fin p e below s _ _ _ T136 (mkF m 91 #[.val (.long p1), .second, .val (.int p2), .val (.ref b120), .val (.int (8 : Int32)), .val (.int (0 : Int32)), .unset] [(.int (1 : Int32)), (.int (8 : Int32))])
    refine own_by (fun _ k => XS.icmpNo X136.here hx rfl (hb hby at_91) rfl (flt (by decide : ¬ ((8 : Int32) < (1 : Int32)))).1 k) ?_
    show own_Fin p e below s _ _ _ T136 (mkF m 94 #[.val (.long p1), .second, .val (.int p2), .val (.ref b120), .val (.int (8 : Int32)), .val (.int (0 : Int32)), .unset] [])
    refine own_by (fun _ k => XS.aloadN X136.here hx rfl (hb hby at_94) rfl rfl (XS.iload X136.here hx rfl (hb hby at_95) rfl (XS.iconst X136.here hx rfl (hb hby at_97) (XS.isub X136.here hx rfl (hb hby at_98) rfl k)))) ?_
    show own_Fin p e below s _ _ _ T136 (mkF m 99 #[.val (.long p1), .second, .val (.int p2), .val (.ref b120), .val (.int (8 : Int32)), .val (.int (0 : Int32)), .unset] [(.int ((8 : Int32) - (1 : Int32))), (.ref b120)])
    rw [(by decide : ((8 : Int32) - (1 : Int32)) = (7 : Int32))]
    show own_Fin p e below s _ _ _ T136 (mkF m 99 #[.val (.long p1), .second, .val (.int p2), .val (.ref b120), .val (.int (8 : Int32)), .val (.int (0 : Int32)), .unset] [(.int (7 : Int32)), (.ref b120)])
    obtain ⟨_, _, ⟨T246, L246, k246, n246⟩, -, X246, ⟨Lc246, hQ246, l246, y246, z246⟩, st246⟩ := Jvm.LawKit.callS X136 hx (y := (⟨"com/example/munka/munka/util/Utf8UnfinishedTailPinLaw", "u", "([BI)I"⟩ : MethodName)) hown (mvT hZ (hw _ (List.mem_of_getElem? (i := 2) rfl))) (mvT hZ (hw _ (List.mem_of_getElem? (i := 3) rfl))) (mvT hZ (hw _ (List.mem_of_getElem? (i := 4) rfl))) (mvT hZ (hw _ (List.mem_of_getElem? (i := 5) rfl))) (by decide) (backOf (W := 0) (rm1 l Z a0 hw [] b120 (7 : Int32) k120 (8 : Int32) [(.int v0), (.int v1), (.int v2), (.int v3), (.int v4), (.int v5), (.int v6), (.int v7)] v7 h136 n0 Zs136 Vg ⟨by decide, by decide⟩ rfl) hZ (hw _ (List.mem_of_getElem? (i := 5) rfl)) (hw _ (List.mem_of_getElem? (i := 4) rfl)) (by decide) (by decide)) (g := (mkF m 99 #[.val (.long p1), .second, .val (.int p2), .val (.ref b120), .val (.int (8 : Int32)), .val (.int (0 : Int32)), .unset] [(.int (7 : Int32)), (.ref b120)])) rfl (by rw [hml]; rfl) (argsL := [(.ref b120), (.int (7 : Int32))]) (rest := []) (lenOf own_pd97 rfl) rfl (by show 2 * 0 + _ ≤ _; exact Nat.le_of_eq rfl) (hb hby at_99) (fun _ _ => ⟨rfl, e136, (by decide : 1 + 0 ≤ _), (by decide : 8 + 0 ≤ _)⟩)
    dsimp only [Pt.U, Pt.locs, Pt.cells, Pt.slots] at X246 l246 y246 z246 st246 hQ246
    subst l246 y246 z246
    obtain ⟨rfl, Nq246, eh246⟩ := hQ246
    have N246 := Fr.app N136 Nq246
    refine own_by (fun _ k => st246 _ k) ?_
    show own_Fin p e below s _ _ _ T246 (mkF m 102 #[.val (.long p1), .second, .val (.int p2), .val (.ref b120), .val (.int (8 : Int32)), .val (.int (0 : Int32)), .unset] [(.int (v7 &&& (255 : Int32)))])
    refine own_by (fun _ k => XS.sipush X246.here hx rfl (hb hby at_102) k) ?_
    show own_Fin p e below s _ _ _ T246 (mkF m 105 #[.val (.long p1), .second, .val (.int p2), .val (.ref b120), .val (.int (8 : Int32)), .val (.int (0 : Int32)), .unset] [(.int (192 : Int32)), (.int (v7 &&& (255 : Int32)))])
    by_cases hc105_247 : (v7 &&& (255 : Int32)) < (192 : Int32)
    · show own_Fin p e below s _ _ _ T246 (mkF m 105 #[.val (.long p1), .second, .val (.int p2), .val (.ref b120), .val (.int (8 : Int32)), .val (.int (0 : Int32)), .unset] [(.int (192 : Int32)), (.int (v7 &&& (255 : Int32)))])
      refine own_by (fun _ k => XS.icmpYes X246.here hx rfl (pc0 := 105) (pc' := 114) rfl (hb hby at_105) rfl (tlt hc105_247).1 (by decide) (by decide) k) ?_
      show own_Fin p e below s _ _ _ T246 (mkF m 114 #[.val (.long p1), .second, .val (.int p2), .val (.ref b120), .val (.int (8 : Int32)), .val (.int (0 : Int32)), .unset] [])
      refine own_by (fun _ k => XS.iload X246.here hx rfl (hb hby at_114) rfl (XS.iconst X246.here hx rfl (hb hby at_116) k)) ?_
      show own_Fin p e below s _ _ _ T246 (mkF m 117 #[.val (.long p1), .second, .val (.int p2), .val (.ref b120), .val (.int (8 : Int32)), .val (.int (0 : Int32)), .unset] [(.int (2 : Int32)), (.int (8 : Int32))])
      refine own_by (fun _ k => XS.icmpNo X246.here hx rfl (hb hby at_117) rfl (flt (by decide : ¬ ((8 : Int32) < (2 : Int32)))).1 k) ?_
      show own_Fin p e below s _ _ _ T246 (mkF m 120 #[.val (.long p1), .second, .val (.int p2), .val (.ref b120), .val (.int (8 : Int32)), .val (.int (0 : Int32)), .unset] [])
      refine own_by (fun _ k => XS.aloadN X246.here hx rfl (hb hby at_120) rfl rfl (XS.iload X246.here hx rfl (hb hby at_121) rfl (XS.iconst X246.here hx rfl (hb hby at_123) (XS.isub X246.here hx rfl (hb hby at_124) rfl k)))) ?_
      show own_Fin p e below s _ _ _ T246 (mkF m 125 #[.val (.long p1), .second, .val (.int p2), .val (.ref b120), .val (.int (8 : Int32)), .val (.int (0 : Int32)), .unset] [(.int ((8 : Int32) - (1 : Int32))), (.ref b120)])
      rw [(by decide : ((8 : Int32) - (1 : Int32)) = (7 : Int32))]
      show own_Fin p e below s _ _ _ T246 (mkF m 125 #[.val (.long p1), .second, .val (.int p2), .val (.ref b120), .val (.int (8 : Int32)), .val (.int (0 : Int32)), .unset] [(.int (7 : Int32)), (.ref b120)])
      obtain ⟨_, _, ⟨T248, L248, k248, n248⟩, -, X248, ⟨Lc248, hQ248, l248, y248, z248⟩, st248⟩ := Jvm.LawKit.callS X246 hx (y := (⟨"com/example/munka/munka/util/Utf8UnfinishedTailPinLaw", "u", "([BI)I"⟩ : MethodName)) hown (mvT hZ (hw _ (List.mem_of_getElem? (i := 2) rfl))) (mvT hZ (hw _ (List.mem_of_getElem? (i := 3) rfl))) (mvT hZ (hw _ (List.mem_of_getElem? (i := 4) rfl))) (mvT hZ (hw _ (List.mem_of_getElem? (i := 5) rfl))) (by decide) (backOf (W := 0) (rm1 l Z a0 hw [] b120 (7 : Int32) k120 (8 : Int32) [(.int v0), (.int v1), (.int v2), (.int v3), (.int v4), (.int v5), (.int v6), (.int v7)] v7 h136 n0 Zs136 Vg ⟨by decide, by decide⟩ rfl) hZ (hw _ (List.mem_of_getElem? (i := 5) rfl)) (hw _ (List.mem_of_getElem? (i := 4) rfl)) (by decide) (by decide)) (g := (mkF m 125 #[.val (.long p1), .second, .val (.int p2), .val (.ref b120), .val (.int (8 : Int32)), .val (.int (0 : Int32)), .unset] [(.int (7 : Int32)), (.ref b120)])) rfl (by rw [hml]; rfl) (argsL := [(.ref b120), (.int (7 : Int32))]) (rest := []) (lenOf own_pd97 rfl) rfl (by show 2 * 0 + _ ≤ _; exact Nat.le_of_eq rfl) (hb hby at_125) (fun _ _ => ⟨rfl, eh246, (by decide : 1 + 0 ≤ _), (by decide : 8 + 0 ≤ _)⟩)
      dsimp only [Pt.U, Pt.locs, Pt.cells, Pt.slots] at X248 l248 y248 z248 st248 hQ248
      subst l248 y248 z248
      obtain ⟨rfl, Nq248, eh248⟩ := hQ248
      have N248 := Fr.app N246 Nq248
      refine own_by (fun _ k => st248 _ k) ?_
      show own_Fin p e below s _ _ _ T248 (mkF m 128 #[.val (.long p1), .second, .val (.int p2), .val (.ref b120), .val (.int (8 : Int32)), .val (.int (0 : Int32)), .unset] [(.int (v7 &&& (255 : Int32)))])
      obtain ⟨_, _, ⟨T249, L249, k249, n249⟩, -, X249, ⟨Lc249, hQ249, l249, y249, z249⟩, st249⟩ := Jvm.LawKit.callS X248 hx (y := (⟨"com/example/munka/munka/util/Utf8UnfinishedTailPinLaw", "cont", "(I)Z"⟩ : MethodName)) hown (mvT hZ (hw _ (List.mem_of_getElem? (i := 6) rfl))) (mvT hZ (hw _ (List.mem_of_getElem? (i := 7) rfl))) (mvT hZ (hw _ (List.mem_of_getElem? (i := 4) rfl))) (mvT hZ (hw _ (List.mem_of_getElem? (i := 8) rfl))) (by decide) (backOf (W := 0) (rm2 l Z a0 hw [] (v7 &&& (255 : Int32)) h136 n0 Zs136 ) hZ (hw _ (List.mem_of_getElem? (i := 8) rfl)) (hw _ (List.mem_of_getElem? (i := 4) rfl)) (by decide) (by decide)) (g := (mkF m 128 #[.val (.long p1), .second, .val (.int p2), .val (.ref b120), .val (.int (8 : Int32)), .val (.int (0 : Int32)), .unset] [(.int (v7 &&& (255 : Int32)))])) rfl (by rw [hml]; rfl) (argsL := [(.int (v7 &&& (255 : Int32)))]) (rest := []) (lenOf own_pd98 rfl) rfl (by show 2 * 0 + _ ≤ _; exact Nat.le_of_eq rfl) (hb hby at_128) (fun _ _ => ⟨rfl, eh248, (by decide : 1 + 0 ≤ _), (by decide : 8 + 0 ≤ _)⟩)
      dsimp only [Pt.U, Pt.locs, Pt.cells, Pt.slots] at X249 l249 y249 z249 st249 hQ249
      subst l249 y249 z249
      obtain ⟨rfl, Nq249, eh249⟩ := hQ249
      have N249 := Fr.app N248 Nq249
      refine own_by (fun _ k => st249 _ k) ?_
      show own_Fin p e below s _ _ _ T249 (mkF m 131 #[.val (.long p1), .second, .val (.int p2), .val (.ref b120), .val (.int (8 : Int32)), .val (.int (0 : Int32)), .unset] [(.int (own_cont (v7 &&& (255 : Int32))))])
      by_cases hc131_250 : (own_cont (v7 &&& (255 : Int32))) = (0 : Int32)
      · show own_Fin p e below s _ _ _ T249 (mkF m 131 #[.val (.long p1), .second, .val (.int p2), .val (.ref b120), .val (.int (8 : Int32)), .val (.int (0 : Int32)), .unset] [(.int (own_cont (v7 &&& (255 : Int32))))])
        refine own_by (fun _ k => XS.ifYes X249.here hx rfl (pc0 := 131) (pc' := 154) rfl (hb hby at_131) rfl ((if0 _ _).trans (teq hc131_250).1) (by decide) (by decide) k) ?_
        show own_Fin p e below s _ _ _ T249 (mkF m 154 #[.val (.long p1), .second, .val (.int p2), .val (.ref b120), .val (.int (8 : Int32)), .val (.int (0 : Int32)), .unset] [])
        refine own_by (fun _ k => XS.iload X249.here hx rfl (hb hby at_154) rfl (XS.iconst X249.here hx rfl (hb hby at_156) k)) ?_
        show own_Fin p e below s _ _ _ T249 (mkF m 157 #[.val (.long p1), .second, .val (.int p2), .val (.ref b120), .val (.int (8 : Int32)), .val (.int (0 : Int32)), .unset] [(.int (3 : Int32)), (.int (8 : Int32))])
        refine own_by (fun _ k => XS.icmpNo X249.here hx rfl (hb hby at_157) rfl (flt (by decide : ¬ ((8 : Int32) < (3 : Int32)))).1 k) ?_
        show own_Fin p e below s _ _ _ T249 (mkF m 160 #[.val (.long p1), .second, .val (.int p2), .val (.ref b120), .val (.int (8 : Int32)), .val (.int (0 : Int32)), .unset] [])
        refine own_by (fun _ k => XS.aloadN X249.here hx rfl (hb hby at_160) rfl rfl (XS.iload X249.here hx rfl (hb hby at_161) rfl (XS.iconst X249.here hx rfl (hb hby at_163) (XS.isub X249.here hx rfl (hb hby at_164) rfl k)))) ?_
        show own_Fin p e below s _ _ _ T249 (mkF m 165 #[.val (.long p1), .second, .val (.int p2), .val (.ref b120), .val (.int (8 : Int32)), .val (.int (0 : Int32)), .unset] [(.int ((8 : Int32) - (1 : Int32))), (.ref b120)])
        rw [(by decide : ((8 : Int32) - (1 : Int32)) = (7 : Int32))]
        show own_Fin p e below s _ _ _ T249 (mkF m 165 #[.val (.long p1), .second, .val (.int p2), .val (.ref b120), .val (.int (8 : Int32)), .val (.int (0 : Int32)), .unset] [(.int (7 : Int32)), (.ref b120)])
        obtain ⟨_, _, ⟨T251, L251, k251, n251⟩, -, X251, ⟨Lc251, hQ251, l251, y251, z251⟩, st251⟩ := Jvm.LawKit.callS X249 hx (y := (⟨"com/example/munka/munka/util/Utf8UnfinishedTailPinLaw", "u", "([BI)I"⟩ : MethodName)) hown (mvT hZ (hw _ (List.mem_of_getElem? (i := 2) rfl))) (mvT hZ (hw _ (List.mem_of_getElem? (i := 3) rfl))) (mvT hZ (hw _ (List.mem_of_getElem? (i := 4) rfl))) (mvT hZ (hw _ (List.mem_of_getElem? (i := 5) rfl))) (by decide) (backOf (W := 0) (rm1 l Z a0 hw [] b120 (7 : Int32) k120 (8 : Int32) [(.int v0), (.int v1), (.int v2), (.int v3), (.int v4), (.int v5), (.int v6), (.int v7)] v7 h136 n0 Zs136 Vg ⟨by decide, by decide⟩ rfl) hZ (hw _ (List.mem_of_getElem? (i := 5) rfl)) (hw _ (List.mem_of_getElem? (i := 4) rfl)) (by decide) (by decide)) (g := (mkF m 165 #[.val (.long p1), .second, .val (.int p2), .val (.ref b120), .val (.int (8 : Int32)), .val (.int (0 : Int32)), .unset] [(.int (7 : Int32)), (.ref b120)])) rfl (by rw [hml]; rfl) (argsL := [(.ref b120), (.int (7 : Int32))]) (rest := []) (lenOf own_pd97 rfl) rfl (by show 2 * 0 + _ ≤ _; exact Nat.le_of_eq rfl) (hb hby at_165) (fun _ _ => ⟨rfl, eh249, (by decide : 1 + 0 ≤ _), (by decide : 8 + 0 ≤ _)⟩)
        dsimp only [Pt.U, Pt.locs, Pt.cells, Pt.slots] at X251 l251 y251 z251 st251 hQ251
        subst l251 y251 z251
        obtain ⟨rfl, Nq251, eh251⟩ := hQ251
        have N251 := Fr.app N249 Nq251
        refine own_by (fun _ k => st251 _ k) ?_
        show own_Fin p e below s _ _ _ T251 (mkF m 168 #[.val (.long p1), .second, .val (.int p2), .val (.ref b120), .val (.int (8 : Int32)), .val (.int (0 : Int32)), .unset] [(.int (v7 &&& (255 : Int32)))])
        obtain ⟨_, _, ⟨T252, L252, k252, n252⟩, -, X252, ⟨Lc252, hQ252, l252, y252, z252⟩, st252⟩ := Jvm.LawKit.callS X251 hx (y := (⟨"com/example/munka/munka/util/Utf8UnfinishedTailPinLaw", "cont", "(I)Z"⟩ : MethodName)) hown (mvT hZ (hw _ (List.mem_of_getElem? (i := 6) rfl))) (mvT hZ (hw _ (List.mem_of_getElem? (i := 7) rfl))) (mvT hZ (hw _ (List.mem_of_getElem? (i := 4) rfl))) (mvT hZ (hw _ (List.mem_of_getElem? (i := 8) rfl))) (by decide) (backOf (W := 0) (rm2 l Z a0 hw [] (v7 &&& (255 : Int32)) h136 n0 Zs136 ) hZ (hw _ (List.mem_of_getElem? (i := 8) rfl)) (hw _ (List.mem_of_getElem? (i := 4) rfl)) (by decide) (by decide)) (g := (mkF m 168 #[.val (.long p1), .second, .val (.int p2), .val (.ref b120), .val (.int (8 : Int32)), .val (.int (0 : Int32)), .unset] [(.int (v7 &&& (255 : Int32)))])) rfl (by rw [hml]; rfl) (argsL := [(.int (v7 &&& (255 : Int32)))]) (rest := []) (lenOf own_pd98 rfl) rfl (by show 2 * 0 + _ ≤ _; exact Nat.le_of_eq rfl) (hb hby at_168) (fun _ _ => ⟨rfl, eh251, (by decide : 1 + 0 ≤ _), (by decide : 8 + 0 ≤ _)⟩)
        dsimp only [Pt.U, Pt.locs, Pt.cells, Pt.slots] at X252 l252 y252 z252 st252 hQ252
        subst l252 y252 z252
        obtain ⟨rfl, Nq252, eh252⟩ := hQ252
        have N252 := Fr.app N251 Nq252
        refine own_by (fun _ k => st252 _ k) ?_
        show own_Fin p e below s _ _ _ T252 (mkF m 171 #[.val (.long p1), .second, .val (.int p2), .val (.ref b120), .val (.int (8 : Int32)), .val (.int (0 : Int32)), .unset] [(.int (own_cont (v7 &&& (255 : Int32))))])
        refine own_by (fun _ k => XS.ifYes X252.here hx rfl (pc0 := 171) (pc' := 205) rfl (hb hby at_171) rfl ((if0 _ _).trans (teq hc131_250).1) (by decide) (by decide) k) ?_
        show own_Fin p e below s _ _ _ T252 (mkF m 205 #[.val (.long p1), .second, .val (.int p2), .val (.ref b120), .val (.int (8 : Int32)), .val (.int (0 : Int32)), .unset] [])
        exact J205_244 T252 _ X252 eh252 N252 ((0 : Int32)) ((own_eq4 v7 v6 v5 v4).trans (by simp [own_ex3, hc105_247, hc131_250]))
      · show own_Fin p e below s _ _ _ T249 (mkF m 131 #[.val (.long p1), .second, .val (.int p2), .val (.ref b120), .val (.int (8 : Int32)), .val (.int (0 : Int32)), .unset] [(.int (own_cont (v7 &&& (255 : Int32))))])
        refine own_by (fun _ k => XS.ifNo X249.here hx rfl (hb hby at_131) rfl ((if0 _ _).trans (feq hc131_250).1) k) ?_
        show own_Fin p e below s _ _ _ T249 (mkF m 134 #[.val (.long p1), .second, .val (.int p2), .val (.ref b120), .val (.int (8 : Int32)), .val (.int (0 : Int32)), .unset] [])
        refine own_by (fun _ k => XS.aloadN X249.here hx rfl (hb hby at_134) rfl rfl (XS.iload X249.here hx rfl (hb hby at_135) rfl (XS.iconst X249.here hx rfl (hb hby at_137) (XS.isub X249.here hx rfl (hb hby at_138) rfl k)))) ?_
        show own_Fin p e below s _ _ _ T249 (mkF m 139 #[.val (.long p1), .second, .val (.int p2), .val (.ref b120), .val (.int (8 : Int32)), .val (.int (0 : Int32)), .unset] [(.int ((8 : Int32) - (2 : Int32))), (.ref b120)])
        rw [(by decide : ((8 : Int32) - (2 : Int32)) = (6 : Int32))]
        show own_Fin p e below s _ _ _ T249 (mkF m 139 #[.val (.long p1), .second, .val (.int p2), .val (.ref b120), .val (.int (8 : Int32)), .val (.int (0 : Int32)), .unset] [(.int (6 : Int32)), (.ref b120)])
        obtain ⟨_, _, ⟨T253, L253, k253, n253⟩, -, X253, ⟨Lc253, hQ253, l253, y253, z253⟩, st253⟩ := Jvm.LawKit.callS X249 hx (y := (⟨"com/example/munka/munka/util/Utf8UnfinishedTailPinLaw", "u", "([BI)I"⟩ : MethodName)) hown (mvT hZ (hw _ (List.mem_of_getElem? (i := 2) rfl))) (mvT hZ (hw _ (List.mem_of_getElem? (i := 3) rfl))) (mvT hZ (hw _ (List.mem_of_getElem? (i := 4) rfl))) (mvT hZ (hw _ (List.mem_of_getElem? (i := 5) rfl))) (by decide) (backOf (W := 0) (rm1 l Z a0 hw [] b120 (6 : Int32) k120 (8 : Int32) [(.int v0), (.int v1), (.int v2), (.int v3), (.int v4), (.int v5), (.int v6), (.int v7)] v6 h136 n0 Zs136 Vg ⟨by decide, by decide⟩ rfl) hZ (hw _ (List.mem_of_getElem? (i := 5) rfl)) (hw _ (List.mem_of_getElem? (i := 4) rfl)) (by decide) (by decide)) (g := (mkF m 139 #[.val (.long p1), .second, .val (.int p2), .val (.ref b120), .val (.int (8 : Int32)), .val (.int (0 : Int32)), .unset] [(.int (6 : Int32)), (.ref b120)])) rfl (by rw [hml]; rfl) (argsL := [(.ref b120), (.int (6 : Int32))]) (rest := []) (lenOf own_pd97 rfl) rfl (by show 2 * 0 + _ ≤ _; exact Nat.le_of_eq rfl) (hb hby at_139) (fun _ _ => ⟨rfl, eh249, (by decide : 1 + 0 ≤ _), (by decide : 8 + 0 ≤ _)⟩)
        dsimp only [Pt.U, Pt.locs, Pt.cells, Pt.slots] at X253 l253 y253 z253 st253 hQ253
        subst l253 y253 z253
        obtain ⟨rfl, Nq253, eh253⟩ := hQ253
        have N253 := Fr.app N249 Nq253
        refine own_by (fun _ k => st253 _ k) ?_
        show own_Fin p e below s _ _ _ T253 (mkF m 142 #[.val (.long p1), .second, .val (.int p2), .val (.ref b120), .val (.int (8 : Int32)), .val (.int (0 : Int32)), .unset] [(.int (v6 &&& (255 : Int32)))])
        refine own_by (fun _ k => XS.sipush X253.here hx rfl (hb hby at_142) k) ?_
        show own_Fin p e below s _ _ _ T253 (mkF m 145 #[.val (.long p1), .second, .val (.int p2), .val (.ref b120), .val (.int (8 : Int32)), .val (.int (0 : Int32)), .unset] [(.int (224 : Int32)), (.int (v6 &&& (255 : Int32)))])
        by_cases hc145_254 : (v6 &&& (255 : Int32)) < (224 : Int32)
        · show own_Fin p e below s _ _ _ T253 (mkF m 145 #[.val (.long p1), .second, .val (.int p2), .val (.ref b120), .val (.int (8 : Int32)), .val (.int (0 : Int32)), .unset] [(.int (224 : Int32)), (.int (v6 &&& (255 : Int32)))])
          refine own_by (fun _ k => XS.icmpYes X253.here hx rfl (pc0 := 145) (pc' := 154) rfl (hb hby at_145) rfl (tlt hc145_254).1 (by decide) (by decide) k) ?_
          show own_Fin p e below s _ _ _ T253 (mkF m 154 #[.val (.long p1), .second, .val (.int p2), .val (.ref b120), .val (.int (8 : Int32)), .val (.int (0 : Int32)), .unset] [])
          refine own_by (fun _ k => XS.iload X253.here hx rfl (hb hby at_154) rfl (XS.iconst X253.here hx rfl (hb hby at_156) k)) ?_
          show own_Fin p e below s _ _ _ T253 (mkF m 157 #[.val (.long p1), .second, .val (.int p2), .val (.ref b120), .val (.int (8 : Int32)), .val (.int (0 : Int32)), .unset] [(.int (3 : Int32)), (.int (8 : Int32))])
          refine own_by (fun _ k => XS.icmpNo X253.here hx rfl (hb hby at_157) rfl (flt (by decide : ¬ ((8 : Int32) < (3 : Int32)))).1 k) ?_
          show own_Fin p e below s _ _ _ T253 (mkF m 160 #[.val (.long p1), .second, .val (.int p2), .val (.ref b120), .val (.int (8 : Int32)), .val (.int (0 : Int32)), .unset] [])
          refine own_by (fun _ k => XS.aloadN X253.here hx rfl (hb hby at_160) rfl rfl (XS.iload X253.here hx rfl (hb hby at_161) rfl (XS.iconst X253.here hx rfl (hb hby at_163) (XS.isub X253.here hx rfl (hb hby at_164) rfl k)))) ?_
          show own_Fin p e below s _ _ _ T253 (mkF m 165 #[.val (.long p1), .second, .val (.int p2), .val (.ref b120), .val (.int (8 : Int32)), .val (.int (0 : Int32)), .unset] [(.int ((8 : Int32) - (1 : Int32))), (.ref b120)])
          rw [(by decide : ((8 : Int32) - (1 : Int32)) = (7 : Int32))]
          show own_Fin p e below s _ _ _ T253 (mkF m 165 #[.val (.long p1), .second, .val (.int p2), .val (.ref b120), .val (.int (8 : Int32)), .val (.int (0 : Int32)), .unset] [(.int (7 : Int32)), (.ref b120)])
          obtain ⟨_, _, ⟨T255, L255, k255, n255⟩, -, X255, ⟨Lc255, hQ255, l255, y255, z255⟩, st255⟩ := Jvm.LawKit.callS X253 hx (y := (⟨"com/example/munka/munka/util/Utf8UnfinishedTailPinLaw", "u", "([BI)I"⟩ : MethodName)) hown (mvT hZ (hw _ (List.mem_of_getElem? (i := 2) rfl))) (mvT hZ (hw _ (List.mem_of_getElem? (i := 3) rfl))) (mvT hZ (hw _ (List.mem_of_getElem? (i := 4) rfl))) (mvT hZ (hw _ (List.mem_of_getElem? (i := 5) rfl))) (by decide) (backOf (W := 0) (rm1 l Z a0 hw [] b120 (7 : Int32) k120 (8 : Int32) [(.int v0), (.int v1), (.int v2), (.int v3), (.int v4), (.int v5), (.int v6), (.int v7)] v7 h136 n0 Zs136 Vg ⟨by decide, by decide⟩ rfl) hZ (hw _ (List.mem_of_getElem? (i := 5) rfl)) (hw _ (List.mem_of_getElem? (i := 4) rfl)) (by decide) (by decide)) (g := (mkF m 165 #[.val (.long p1), .second, .val (.int p2), .val (.ref b120), .val (.int (8 : Int32)), .val (.int (0 : Int32)), .unset] [(.int (7 : Int32)), (.ref b120)])) rfl (by rw [hml]; rfl) (argsL := [(.ref b120), (.int (7 : Int32))]) (rest := []) (lenOf own_pd97 rfl) rfl (by show 2 * 0 + _ ≤ _; exact Nat.le_of_eq rfl) (hb hby at_165) (fun _ _ => ⟨rfl, eh253, (by decide : 1 + 0 ≤ _), (by decide : 8 + 0 ≤ _)⟩)
          dsimp only [Pt.U, Pt.locs, Pt.cells, Pt.slots] at X255 l255 y255 z255 st255 hQ255
          subst l255 y255 z255
          obtain ⟨rfl, Nq255, eh255⟩ := hQ255
          have N255 := Fr.app N253 Nq255
          refine own_by (fun _ k => st255 _ k) ?_
          show own_Fin p e below s _ _ _ T255 (mkF m 168 #[.val (.long p1), .second, .val (.int p2), .val (.ref b120), .val (.int (8 : Int32)), .val (.int (0 : Int32)), .unset] [(.int (v7 &&& (255 : Int32)))])
          obtain ⟨_, _, ⟨T256, L256, k256, n256⟩, -, X256, ⟨Lc256, hQ256, l256, y256, z256⟩, st256⟩ := Jvm.LawKit.callS X255 hx (y := (⟨"com/example/munka/munka/util/Utf8UnfinishedTailPinLaw", "cont", "(I)Z"⟩ : MethodName)) hown (mvT hZ (hw _ (List.mem_of_getElem? (i := 6) rfl))) (mvT hZ (hw _ (List.mem_of_getElem? (i := 7) rfl))) (mvT hZ (hw _ (List.mem_of_getElem? (i := 4) rfl))) (mvT hZ (hw _ (List.mem_of_getElem? (i := 8) rfl))) (by decide) (backOf (W := 0) (rm2 l Z a0 hw [] (v7 &&& (255 : Int32)) h136 n0 Zs136 ) hZ (hw _ (List.mem_of_getElem? (i := 8) rfl)) (hw _ (List.mem_of_getElem? (i := 4) rfl)) (by decide) (by decide)) (g := (mkF m 168 #[.val (.long p1), .second, .val (.int p2), .val (.ref b120), .val (.int (8 : Int32)), .val (.int (0 : Int32)), .unset] [(.int (v7 &&& (255 : Int32)))])) rfl (by rw [hml]; rfl) (argsL := [(.int (v7 &&& (255 : Int32)))]) (rest := []) (lenOf own_pd98 rfl) rfl (by show 2 * 0 + _ ≤ _; exact Nat.le_of_eq rfl) (hb hby at_168) (fun _ _ => ⟨rfl, eh255, (by decide : 1 + 0 ≤ _), (by decide : 8 + 0 ≤ _)⟩)
          dsimp only [Pt.U, Pt.locs, Pt.cells, Pt.slots] at X256 l256 y256 z256 st256 hQ256
          subst l256 y256 z256
          obtain ⟨rfl, Nq256, eh256⟩ := hQ256
          have N256 := Fr.app N255 Nq256
          refine own_by (fun _ k => st256 _ k) ?_
          show own_Fin p e below s _ _ _ T256 (mkF m 171 #[.val (.long p1), .second, .val (.int p2), .val (.ref b120), .val (.int (8 : Int32)), .val (.int (0 : Int32)), .unset] [(.int (own_cont (v7 &&& (255 : Int32))))])
          refine own_by (fun _ k => XS.ifNo X256.here hx rfl (hb hby at_171) rfl ((if0 _ _).trans (feq hc131_250).1) k) ?_
          show own_Fin p e below s _ _ _ T256 (mkF m 174 #[.val (.long p1), .second, .val (.int p2), .val (.ref b120), .val (.int (8 : Int32)), .val (.int (0 : Int32)), .unset] [])
          refine own_by (fun _ k => XS.aloadN X256.here hx rfl (hb hby at_174) rfl rfl (XS.iload X256.here hx rfl (hb hby at_175) rfl (XS.iconst X256.here hx rfl (hb hby at_177) (XS.isub X256.here hx rfl (hb hby at_178) rfl k)))) ?_
          show own_Fin p e below s _ _ _ T256 (mkF m 179 #[.val (.long p1), .second, .val (.int p2), .val (.ref b120), .val (.int (8 : Int32)), .val (.int (0 : Int32)), .unset] [(.int ((8 : Int32) - (2 : Int32))), (.ref b120)])
          rw [(by decide : ((8 : Int32) - (2 : Int32)) = (6 : Int32))]
          show own_Fin p e below s _ _ _ T256 (mkF m 179 #[.val (.long p1), .second, .val (.int p2), .val (.ref b120), .val (.int (8 : Int32)), .val (.int (0 : Int32)), .unset] [(.int (6 : Int32)), (.ref b120)])
          obtain ⟨_, _, ⟨T257, L257, k257, n257⟩, -, X257, ⟨Lc257, hQ257, l257, y257, z257⟩, st257⟩ := Jvm.LawKit.callS X256 hx (y := (⟨"com/example/munka/munka/util/Utf8UnfinishedTailPinLaw", "u", "([BI)I"⟩ : MethodName)) hown (mvT hZ (hw _ (List.mem_of_getElem? (i := 2) rfl))) (mvT hZ (hw _ (List.mem_of_getElem? (i := 3) rfl))) (mvT hZ (hw _ (List.mem_of_getElem? (i := 4) rfl))) (mvT hZ (hw _ (List.mem_of_getElem? (i := 5) rfl))) (by decide) (backOf (W := 0) (rm1 l Z a0 hw [] b120 (6 : Int32) k120 (8 : Int32) [(.int v0), (.int v1), (.int v2), (.int v3), (.int v4), (.int v5), (.int v6), (.int v7)] v6 h136 n0 Zs136 Vg ⟨by decide, by decide⟩ rfl) hZ (hw _ (List.mem_of_getElem? (i := 5) rfl)) (hw _ (List.mem_of_getElem? (i := 4) rfl)) (by decide) (by decide)) (g := (mkF m 179 #[.val (.long p1), .second, .val (.int p2), .val (.ref b120), .val (.int (8 : Int32)), .val (.int (0 : Int32)), .unset] [(.int (6 : Int32)), (.ref b120)])) rfl (by rw [hml]; rfl) (argsL := [(.ref b120), (.int (6 : Int32))]) (rest := []) (lenOf own_pd97 rfl) rfl (by show 2 * 0 + _ ≤ _; exact Nat.le_of_eq rfl) (hb hby at_179) (fun _ _ => ⟨rfl, eh256, (by decide : 1 + 0 ≤ _), (by decide : 8 + 0 ≤ _)⟩)
          dsimp only [Pt.U, Pt.locs, Pt.cells, Pt.slots] at X257 l257 y257 z257 st257 hQ257
          subst l257 y257 z257
          obtain ⟨rfl, Nq257, eh257⟩ := hQ257
          have N257 := Fr.app N256 Nq257
          refine own_by (fun _ k => st257 _ k) ?_
          show own_Fin p e below s _ _ _ T257 (mkF m 182 #[.val (.long p1), .second, .val (.int p2), .val (.ref b120), .val (.int (8 : Int32)), .val (.int (0 : Int32)), .unset] [(.int (v6 &&& (255 : Int32)))])
          obtain ⟨_, _, ⟨T258, L258, k258, n258⟩, -, X258, ⟨Lc258, hQ258, l258, y258, z258⟩, st258⟩ := Jvm.LawKit.callS X257 hx (y := (⟨"com/example/munka/munka/util/Utf8UnfinishedTailPinLaw", "cont", "(I)Z"⟩ : MethodName)) hown (mvT hZ (hw _ (List.mem_of_getElem? (i := 6) rfl))) (mvT hZ (hw _ (List.mem_of_getElem? (i := 7) rfl))) (mvT hZ (hw _ (List.mem_of_getElem? (i := 4) rfl))) (mvT hZ (hw _ (List.mem_of_getElem? (i := 8) rfl))) (by decide) (backOf (W := 0) (rm2 l Z a0 hw [] (v6 &&& (255 : Int32)) h136 n0 Zs136 ) hZ (hw _ (List.mem_of_getElem? (i := 8) rfl)) (hw _ (List.mem_of_getElem? (i := 4) rfl)) (by decide) (by decide)) (g := (mkF m 182 #[.val (.long p1), .second, .val (.int p2), .val (.ref b120), .val (.int (8 : Int32)), .val (.int (0 : Int32)), .unset] [(.int (v6 &&& (255 : Int32)))])) rfl (by rw [hml]; rfl) (argsL := [(.int (v6 &&& (255 : Int32)))]) (rest := []) (lenOf own_pd98 rfl) rfl (by show 2 * 0 + _ ≤ _; exact Nat.le_of_eq rfl) (hb hby at_182) (fun _ _ => ⟨rfl, eh257, (by decide : 1 + 0 ≤ _), (by decide : 8 + 0 ≤ _)⟩)
          dsimp only [Pt.U, Pt.locs, Pt.cells, Pt.slots] at X258 l258 y258 z258 st258 hQ258
          subst l258 y258 z258
          obtain ⟨rfl, Nq258, eh258⟩ := hQ258
          have N258 := Fr.app N257 Nq258
          refine own_by (fun _ k => st258 _ k) ?_
          show own_Fin p e below s _ _ _ T258 (mkF m 185 #[.val (.long p1), .second, .val (.int p2), .val (.ref b120), .val (.int (8 : Int32)), .val (.int (0 : Int32)), .unset] [(.int (own_cont (v6 &&& (255 : Int32))))])
          by_cases hc185_259 : (own_cont (v6 &&& (255 : Int32))) = (0 : Int32)
          · show own_Fin p e below s _ _ _ T258 (mkF m 185 #[.val (.long p1), .second, .val (.int p2), .val (.ref b120), .val (.int (8 : Int32)), .val (.int (0 : Int32)), .unset] [(.int (own_cont (v6 &&& (255 : Int32))))])
            refine own_by (fun _ k => XS.ifYes X258.here hx rfl (pc0 := 185) (pc' := 205) rfl (hb hby at_185) rfl ((if0 _ _).trans (teq hc185_259).1) (by decide) (by decide) k) ?_
            show own_Fin p e below s _ _ _ T258 (mkF m 205 #[.val (.long p1), .second, .val (.int p2), .val (.ref b120), .val (.int (8 : Int32)), .val (.int (0 : Int32)), .unset] [])
            exact J205_244 T258 _ X258 eh258 N258 ((0 : Int32)) ((own_eq4 v7 v6 v5 v4).trans (by simp [own_ex3, hc105_247, hc131_250, hc145_254, hc185_259]))
          · show own_Fin p e below s _ _ _ T258 (mkF m 185 #[.val (.long p1), .second, .val (.int p2), .val (.ref b120), .val (.int (8 : Int32)), .val (.int (0 : Int32)), .unset] [(.int (own_cont (v6 &&& (255 : Int32))))])
            refine own_by (fun _ k => XS.ifNo X258.here hx rfl (hb hby at_185) rfl ((if0 _ _).trans (feq hc185_259).1) k) ?_
            show own_Fin p e below s _ _ _ T258 (mkF m 188 #[.val (.long p1), .second, .val (.int p2), .val (.ref b120), .val (.int (8 : Int32)), .val (.int (0 : Int32)), .unset] [])
            refine own_by (fun _ k => XS.aloadN X258.here hx rfl (hb hby at_188) rfl rfl (XS.iload X258.here hx rfl (hb hby at_189) rfl (XS.iconst X258.here hx rfl (hb hby at_191) (XS.isub X258.here hx rfl (hb hby at_192) rfl k)))) ?_
            show own_Fin p e below s _ _ _ T258 (mkF m 193 #[.val (.long p1), .second, .val (.int p2), .val (.ref b120), .val (.int (8 : Int32)), .val (.int (0 : Int32)), .unset] [(.int ((8 : Int32) - (3 : Int32))), (.ref b120)])
            rw [(by decide : ((8 : Int32) - (3 : Int32)) = (5 : Int32))]
            show own_Fin p e below s _ _ _ T258 (mkF m 193 #[.val (.long p1), .second, .val (.int p2), .val (.ref b120), .val (.int (8 : Int32)), .val (.int (0 : Int32)), .unset] [(.int (5 : Int32)), (.ref b120)])
            obtain ⟨_, _, ⟨T260, L260, k260, n260⟩, -, X260, ⟨Lc260, hQ260, l260, y260, z260⟩, st260⟩ := Jvm.LawKit.callS X258 hx (y := (⟨"com/example/munka/munka/util/Utf8UnfinishedTailPinLaw", "u", "([BI)I"⟩ : MethodName)) hown (mvT hZ (hw _ (List.mem_of_getElem? (i := 2) rfl))) (mvT hZ (hw _ (List.mem_of_getElem? (i := 3) rfl))) (mvT hZ (hw _ (List.mem_of_getElem? (i := 4) rfl))) (mvT hZ (hw _ (List.mem_of_getElem? (i := 5) rfl))) (by decide) (backOf (W := 0) (rm1 l Z a0 hw [] b120 (5 : Int32) k120 (8 : Int32) [(.int v0), (.int v1), (.int v2), (.int v3), (.int v4), (.int v5), (.int v6), (.int v7)] v5 h136 n0 Zs136 Vg ⟨by decide, by decide⟩ rfl) hZ (hw _ (List.mem_of_getElem? (i := 5) rfl)) (hw _ (List.mem_of_getElem? (i := 4) rfl)) (by decide) (by decide)) (g := (mkF m 193 #[.val (.long p1), .second, .val (.int p2), .val (.ref b120), .val (.int (8 : Int32)), .val (.int (0 : Int32)), .unset] [(.int (5 : Int32)), (.ref b120)])) rfl (by rw [hml]; rfl) (argsL := [(.ref b120), (.int (5 : Int32))]) (rest := []) (lenOf own_pd97 rfl) rfl (by show 2 * 0 + _ ≤ _; exact Nat.le_of_eq rfl) (hb hby at_193) (fun _ _ => ⟨rfl, eh258, (by decide : 1 + 0 ≤ _), (by decide : 8 + 0 ≤ _)⟩)
            dsimp only [Pt.U, Pt.locs, Pt.cells, Pt.slots] at X260 l260 y260 z260 st260 hQ260
            subst l260 y260 z260
            obtain ⟨rfl, Nq260, eh260⟩ := hQ260
            have N260 := Fr.app N258 Nq260
            refine own_by (fun _ k => st260 _ k) ?_
            show own_Fin p e below s _ _ _ T260 (mkF m 196 #[.val (.long p1), .second, .val (.int p2), .val (.ref b120), .val (.int (8 : Int32)), .val (.int (0 : Int32)), .unset] [(.int (v5 &&& (255 : Int32)))])
            refine own_by (fun _ k => XS.sipush X260.here hx rfl (hb hby at_196) k) ?_
            show own_Fin p e below s _ _ _ T260 (mkF m 199 #[.val (.long p1), .second, .val (.int p2), .val (.ref b120), .val (.int (8 : Int32)), .val (.int (0 : Int32)), .unset] [(.int (240 : Int32)), (.int (v5 &&& (255 : Int32)))])
            by_cases hc199_261 : (v5 &&& (255 : Int32)) < (240 : Int32)
            · show own_Fin p e below s _ _ _ T260 (mkF m 199 #[.val (.long p1), .second, .val (.int p2), .val (.ref b120), .val (.int (8 : Int32)), .val (.int (0 : Int32)), .unset] [(.int (240 : Int32)), (.int (v5 &&& (255 : Int32)))])
              refine own_by (fun _ k => XS.icmpYes X260.here hx rfl (pc0 := 199) (pc' := 205) rfl (hb hby at_199) rfl (tlt hc199_261).1 (by decide) (by decide) k) ?_
              show own_Fin p e below s _ _ _ T260 (mkF m 205 #[.val (.long p1), .second, .val (.int p2), .val (.ref b120), .val (.int (8 : Int32)), .val (.int (0 : Int32)), .unset] [])
              exact J205_244 T260 _ X260 eh260 N260 ((0 : Int32)) ((own_eq4 v7 v6 v5 v4).trans (by simp [own_ex3, hc105_247, hc131_250, hc145_254, hc185_259, hc199_261]))
            · show own_Fin p e below s _ _ _ T260 (mkF m 199 #[.val (.long p1), .second, .val (.int p2), .val (.ref b120), .val (.int (8 : Int32)), .val (.int (0 : Int32)), .unset] [(.int (240 : Int32)), (.int (v5 &&& (255 : Int32)))])
              refine own_by (fun _ k => XS.icmpNo X260.here hx rfl (hb hby at_199) rfl (flt hc199_261).1 k) ?_
              show own_Fin p e below s _ _ _ T260 (mkF m 202 #[.val (.long p1), .second, .val (.int p2), .val (.ref b120), .val (.int (8 : Int32)), .val (.int (0 : Int32)), .unset] [])
              refine own_by (fun _ k => XS.iconst X260.here hx rfl (hb hby at_202) (XS.istore X260.here hx rfl (hb hby at_203) rfl (l' := #[.val (.long p1), .second, .val (.int p2), .val (.ref b120), .val (.int (8 : Int32)), .val (.int (3 : Int32)), .unset]) rfl k)) ?_
              show own_Fin p e below s _ _ _ T260 (mkF m 205 #[.val (.long p1), .second, .val (.int p2), .val (.ref b120), .val (.int (8 : Int32)), .val (.int (3 : Int32)), .unset] [])
              exact J205_244 T260 _ X260 eh260 N260 ((3 : Int32)) ((own_eq4 v7 v6 v5 v4).trans (by simp [own_ex3, hc105_247, hc131_250, hc145_254, hc185_259, hc199_261]))
        · show own_Fin p e below s _ _ _ T253 (mkF m 145 #[.val (.long p1), .second, .val (.int p2), .val (.ref b120), .val (.int (8 : Int32)), .val (.int (0 : Int32)), .unset] [(.int (224 : Int32)), (.int (v6 &&& (255 : Int32)))])
          refine own_by (fun _ k => XS.icmpNo X253.here hx rfl (hb hby at_145) rfl (flt hc145_254).1 k) ?_
          show own_Fin p e below s _ _ _ T253 (mkF m 148 #[.val (.long p1), .second, .val (.int p2), .val (.ref b120), .val (.int (8 : Int32)), .val (.int (0 : Int32)), .unset] [])
          refine own_by (fun _ k => XS.iconst X253.here hx rfl (hb hby at_148) (XS.istore X253.here hx rfl (hb hby at_149) rfl (l' := #[.val (.long p1), .second, .val (.int p2), .val (.ref b120), .val (.int (8 : Int32)), .val (.int (2 : Int32)), .unset]) rfl (XS.goto X253.here hx rfl (pc0 := 151) (pc' := 205) rfl (hb hby at_151) (by decide) (by decide) k))) ?_
          show own_Fin p e below s _ _ _ T253 (mkF m 205 #[.val (.long p1), .second, .val (.int p2), .val (.ref b120), .val (.int (8 : Int32)), .val (.int (2 : Int32)), .unset] [])
          exact J205_244 T253 _ X253 eh253 N253 ((2 : Int32)) ((own_eq4 v7 v6 v5 v4).trans (by simp [own_ex3, hc105_247, hc131_250, hc145_254]))
    · show own_Fin p e below s _ _ _ T246 (mkF m 105 #[.val (.long p1), .second, .val (.int p2), .val (.ref b120), .val (.int (8 : Int32)), .val (.int (0 : Int32)), .unset] [(.int (192 : Int32)), (.int (v7 &&& (255 : Int32)))])
      refine own_by (fun _ k => XS.icmpNo X246.here hx rfl (hb hby at_105) rfl (flt hc105_247).1 k) ?_
      show own_Fin p e below s _ _ _ T246 (mkF m 108 #[.val (.long p1), .second, .val (.int p2), .val (.ref b120), .val (.int (8 : Int32)), .val (.int (0 : Int32)), .unset] [])
      refine own_by (fun _ k => XS.iconst X246.here hx rfl (hb hby at_108) (XS.istore X246.here hx rfl (hb hby at_109) rfl (l' := #[.val (.long p1), .second, .val (.int p2), .val (.ref b120), .val (.int (8 : Int32)), .val (.int (1 : Int32)), .unset]) rfl (XS.goto X246.here hx rfl (pc0 := 111) (pc' := 205) rfl (hb hby at_111) (by decide) (by decide) k))) ?_
      show own_Fin p e below s _ _ _ T246 (mkF m 205 #[.val (.long p1), .second, .val (.int p2), .val (.ref b120), .val (.int (8 : Int32)), .val (.int (1 : Int32)), .unset] [])
      exact J205_244 T246 _ X246 eh246 N246 ((1 : Int32)) ((own_eq4 v7 v6 v5 v4).trans (by simp [own_ex3, hc105_247]))
set_option maxRecDepth 65536 in
set_option maxHeartbeats 40000000 in
theorem comes_1 {Post : Tables → Env → Array Value → State → Outcome → State → Prop} (hpost : ∀ tb e args s v u, (limb_1_1.after args s (.returned v) u = true ∧ limb_1_2.after args s (.returned v) u = true ∧ True) → FrameEnd s (.returned v) u (Jvm.fieldLocs frame_1_writes args s ++ Jvm.arrayLocs frame_1_arrays args s ++ Jvm.staticLocs frame_1_statics s) 16 128 → Post tb e args s (.returned v) u) :
    ArmFor flags0 classFile x code maxLocals ret World_1 tables_1 room_1 Calls_1 rest_1 Pre_1 Post := by
  intro l hfl _ _ p e ha hc hk s m args below hf hA hF happ hP
  obtain ⟨hcalls, hrest, hpre⟩ := hP
  obtain ⟨-, -, -, hnamed, -, -, -, hat⟩ := (Spec.applies_iff hf).mp happ
  obtain ⟨hg, hn⟩ := and_e (Cond.before_iff.mp (show (Jvm.Cond.and given_1 narrow_1).before args s = true from hpre))
  obtain ⟨gc, gr0⟩ := and_e hg
  obtain ⟨ga0, gr1⟩ := and_e gr0
  obtain ⟨w0, w1, rfl⟩ : ∃ w0 w1 : Value, args = #[w0, w1] := by
    have hs : args.size = 2 := by simpa [Cond.value, given_1] using gc
    obtain ⟨L⟩ := args
    match L, hs with
    | [w0, w1], _ => exact ⟨w0, w1, rfl⟩
  have hw := fun d (hd : d ∈ tables_1) => atoms_spec (ws := Jvm.Cond.code x code maxLocals ret :: tables_1) hat d (List.mem_cons_of_mem _ hd)
  have hfit : Fit s := fun {y c} hc i hi => by
    obtain ⟨ha, rfl⟩ := Array.getElem?_eq_some_iff.mp hc
    have q := List.all_eq_true.mp ((Array.all_eq_true_iff_forall_mem.mp hF) _ (Array.getElem_mem ha)) i (List.mem_range.mpr hi)
    simpa [Array.getElem?_eq_getElem hi] using q
  obtain ⟨i0, ei0⟩ := isL_v ga0
  obtain rfl : w0 = (.long i0) := Option.some.inj ei0
  obtain ⟨i1, ei1⟩ := is_v gr1
  obtain rfl : w1 = (.int i1) := Option.some.inj ei1
  obtain ⟨n, o, h1, h2, h3, _, L, rfl, ⟨rfl, N⟩, hq⟩ := rm0 l s _ hw tables_1 i0 i1 s.heap s.heap.size (Nat.le_refl _) p e ha hc hk s m _ below hf ((Spec.applies_iff_loose hf).mp happ).1 ⟨rfl, State.Warmed39.refl s, rfl⟩ trivial
  refine ⟨n, _, h1, h2, h3, hpost _ _ _ _ _ _ ⟨Cond.after_iff.mpr rfl, Cond.after_iff.mpr (eq_i res_at (Term.int_eval (1)) rfl), trivial⟩ ⟨hq.1, hq.2.1, (hq.2.2.sift fun y hy => Or.inr (N y hy)).mono (by decide) (by decide)⟩⟩
theorem main_1_1 : Claimed_1_1 := comes_1 fun _ _ _ _ _ _ h hF => ⟨h.1, hF⟩
theorem main_1_2 : Claimed_1_2 := comes_1 fun _ _ _ _ _ _ h hF => ⟨h.2.1, hF⟩
end Jvm.Pilot.@@N@@
namespace Jvm.Pilot.@@N@@
open Jvm Jvm.ClassFile Sem Op Lib Jvm.Free Jvm.Stand Jvm.Pilot.@@N@@.Jvm.D
/-! MADE BY PROGRAM (witnessworld.py) out of the Statement's table words and the real class files: 9 classes; the members and pool entries that the words name. The judged class is class 1, her method 3. -/
namespace start1
open Jvm.ClassFile
def u (s : String) : CpInfo := .utf8 (stringToUtf16 s)
/-- a pool by its gaps: so many unusable entries, then the entry; so many at the end -/
def gap : Nat → List CpInfo → List CpInfo
  | 0, r => r
  | n + 1, r => .unusable :: gap n r
def poolList (es : List (Nat × CpInfo)) (last : Nat) : List CpInfo := es.foldr (fun e r => gap e.1 (e.2 :: r)) (gap last [])
def pool (es : List (Nat × CpInfo)) (last : Nat) : Array CpInfo := ⟨poolList es last⟩
def fileOf (pool : Array CpInfo) (this : Nat) (attrs : Array Attribute := #[]) (ms : Array MethodInfo := #[]) (fl : Nat := 33) (sup : Nat := 0) (ifs : Array Nat := #[]) (fds : Array FieldInfo := #[]) : ClassFile where
  minorVersion := 0
  majorVersion := 65
  constantPool := pool
  accessFlags := fl
  thisClass := this
  superClass := sup
  interfaces := ifs
  fields := fds
  methods := ms
  attributes := attrs
def plain (name : String) (sup : Option ClassId) : Class where
  name := name
  kind := .ordinary
  loader := none
  accessFlags := 33
  super := sup
  interfaces := #[]
  cf := none
  fields := #[]
  methods := #[]
  instanceTypes := #[]
  staticTypes := #[]
  resolved := #[]
  callSites := []
  init := .initialized
  statics := none
  mirror := none

def pool0 : Array CpInfo := pool [(5, u "<init>"), (0, u "()V"), (1, .class_ 10), (1, u "java/lang/Object")] 113

def k0m0 : Method := { name := "<init>", desc := "()V", sig := { parameters := [], returnType := none }, accessFlags := 1, code := none }
/-- java/lang/Object -/
def k0 : Class := { plain "java/lang/Object" none with
  accessFlags := 33
  interfaces := #[]
  cf := some (fileOf pool0 8 #[] #[{ accessFlags := 1, nameIndex := 5, descriptorIndex := 6, attributes := #[] }] 33 0 #[] #[])
  fields := #[]
  methods := #[k0m0]
  instanceTypes := #[]
  staticTypes := #[]
  resolved := Array.replicate 124 none
  statics := none }

def pool1 : Array CpInfo := pool [(2, .class_ 4), (1, u "java/lang/Object"), (0, u "<init>"), (0, u "()V"), (0, .integer 2147483647), (0, .methodref 9 10), (0, .class_ 11), (0, .nameAndType 12 13), (0, u "com/example/munka/munka/util/Utf8UnfinishedTailPinLaw"), (0, u "u"), (0, u "([BI)I"), (0, .methodref 9 15), (0, .nameAndType 16 17), (0, u "cont"), (0, u "(I)Z"), (0, .methodref 19 20), (0, .class_ 21), (0, .nameAndType 22 13), (0, u "com/example/munka/munka/util/Utf8"), (0, u "unfinishedTail"), (3, u "law"), (0, u "(JI)Z")] 4

def k1m0 : Method := { name := "<init>", desc := "()V", sig := { parameters := [], returnType := none }, accessFlags := 2, code := none }
def k1c1 : Code := { maxStack := 2, maxLocals := 2, code := method_2_code, exceptionTable := #[], attributes := #[] }
def k1m1 : Method := { name := "u", desc := "([BI)I", sig := { parameters := [(.array .byte), .int], returnType := some .int }, accessFlags := 10, code := some k1c1 }
def k1c2 : Code := { maxStack := 2, maxLocals := 1, code := method_3_code, exceptionTable := #[], attributes := #[] }
def k1m2 : Method := { name := "cont", desc := "(I)Z", sig := { parameters := [.int], returnType := some .boolean }, accessFlags := 10, code := some k1c2 }
def k1c3 : Code := { maxStack := 5, maxLocals := 7, code := code, exceptionTable := #[], attributes := #[] }
def k1m3 : Method := { name := "law", desc := "(JI)Z", sig := { parameters := [.long, .int], returnType := some .boolean }, accessFlags := 9, code := some k1c3 }
/-- com/example/munka/munka/util/Utf8UnfinishedTailPinLaw -/
def k1 : Class := { plain "com/example/munka/munka/util/Utf8UnfinishedTailPinLaw" (some 0) with
  accessFlags := 49
  interfaces := #[]
  cf := some (fileOf pool1 9 #[] #[{ accessFlags := 2, nameIndex := 5, descriptorIndex := 6, attributes := #[] }, { accessFlags := 10, nameIndex := 12, descriptorIndex := 13, attributes := #[] }, { accessFlags := 10, nameIndex := 16, descriptorIndex := 17, attributes := #[] }, { accessFlags := 9, nameIndex := 26, descriptorIndex := 27, attributes := #[] }] 49 2 #[] #[])
  fields := #[]
  methods := #[k1m0, k1m1, k1m2, k1m3]
  instanceTypes := #[]
  staticTypes := #[]
  resolved := Array.replicate 32 none
  statics := none }

def pool2 : Array CpInfo := pool [(2, .class_ 4), (1, u "java/lang/Object"), (0, u "<init>"), (0, u "()V"), (0, .class_ 8), (0, u "com/example/munka/munka/util/Utf8$StrictReader"), (0, .class_ 10), (0, u "com/example/munka/munka/util/Utf8"), (23, .methodref 9 35), (0, .nameAndType 36 37), (0, u "sequenceLength"), (0, u "(I)I"), (16, u "STREAM_BUFFER_SIZE"), (0, u "I"), (2, u "ARRAY_BUFFER_SIZE"), (6, u "unfinishedTail"), (0, u "([BI)I"), (5, .class_ 73), (0, u "com/example/munka/munka/util/Utf8$MalformedException")] 3

def k2m0 : Method := { name := "<init>", desc := "()V", sig := { parameters := [], returnType := none }, accessFlags := 2, code := none }
def k2c1 : Code := { maxStack := 3, maxLocals := 5, code := prog_43_method_4_code, exceptionTable := #[], attributes := #[] }
def k2m1 : Method := { name := "unfinishedTail", desc := "([BI)I", sig := { parameters := [(.array .byte), .int], returnType := some .int }, accessFlags := 9, code := some k2c1 }
def k2c2 : Code := { maxStack := 2, maxLocals := 2, code := prog_43_method_6_code, exceptionTable := #[], attributes := #[] }
def k2m2 : Method := { name := "sequenceLength", desc := "(I)I", sig := { parameters := [.int], returnType := some .int }, accessFlags := 10, code := some k2c2 }
/-- com/example/munka/munka/util/Utf8 -/
def k2 : Class := { plain "com/example/munka/munka/util/Utf8" (some 0) with
  accessFlags := 49
  interfaces := #[]
  cf := some (fileOf pool2 9 #[.nestMembers #[7, 72]] #[{ accessFlags := 2, nameIndex := 5, descriptorIndex := 6, attributes := #[] }, { accessFlags := 9, nameIndex := 65, descriptorIndex := 66, attributes := #[] }, { accessFlags := 10, nameIndex := 36, descriptorIndex := 37, attributes := #[] }] 49 2 #[] #[{ accessFlags := 26, nameIndex := 54, descriptorIndex := 55, attributes := #[] }, { accessFlags := 26, nameIndex := 58, descriptorIndex := 55, attributes := #[] }])
  fields := #[{ name := "STREAM_BUFFER_SIZE", type := .int, accessFlags := 26, slot := 0, constantValue := 0 }, { name := "ARRAY_BUFFER_SIZE", type := .int, accessFlags := 26, slot := 1, constantValue := 0 }]
  methods := #[k2m0, k2m1, k2m2]
  instanceTypes := #[]
  staticTypes := #[.int, .int]
  resolved := Array.replicate 77 none
  statics := none }

def pool3 : Array CpInfo := pool [(1, u "java/lang/Cloneable"), (0, .class_ 1), (0, u "java/lang/Object"), (0, .class_ 3)] 3

/-- java/lang/Cloneable -/
def k3 : Class := { plain "java/lang/Cloneable" (some 0) with
  accessFlags := 1537
  interfaces := #[]
  cf := some (fileOf pool3 2 #[] #[] 1537 4 #[] #[])
  fields := #[]
  methods := #[]
  instanceTypes := #[]
  staticTypes := #[]
  resolved := Array.replicate 8 none
  statics := none }

def pool4 : Array CpInfo := pool [(1, u "java/io/Serializable"), (0, .class_ 1), (0, u "java/lang/Object"), (0, .class_ 3)] 3

/-- java/io/Serializable -/
def k4 : Class := { plain "java/io/Serializable" (some 0) with
  accessFlags := 1537
  interfaces := #[]
  cf := some (fileOf pool4 2 #[] #[] 1537 4 #[] #[])
  fields := #[]
  methods := #[]
  instanceTypes := #[]
  staticTypes := #[]
  resolved := Array.replicate 8 none
  statics := none }

/-- the primitive byte -/
def k5 : Class := { plain "byte" none with kind := .primitive 'B', accessFlags := 0x411 }
/-- [B -/
def k6 : Class := { plain "[B" (some 0) with kind := .array 5 .byte, interfaces := #[3, 4], accessFlags := 1041 }

/-- the primitive int -/
def k7 : Class := { plain "int" none with kind := .primitive 'I', accessFlags := 0x411 }
/-- [I -/
def k8 : Class := { plain "[I" (some 0) with kind := .array 7 .int, interfaces := #[3, 4], accessFlags := 1041 }

def heap : Heap := #[]
def classes : Array Class := #[k0, k1, k2, k3, k4, k5, k6, k7, k8]
def interned : List (Array UInt16 × Addr) := []
def slotsUsed : Nat := 0
def theMethod : MethodId := ⟨1, 3⟩
def args0 : Array Value := #[.long 5, .int 5]
def aboutOver (below : List Frame) : State where
  vm := { classes := classes, interned := interned.toArray }
  heap := heap
  slotsUsed := slotsUsed
  threads := #[{ frames := .invoking theMethod args0 :: below }]
def below0 : List Frame := [.native { method := ⟨0, 0⟩, args := #[] }]
def about1 : State := aboutOver below0
def p0 : Program := .bare "" "" ""
def e0 : Env := launch0.env 0 0 0
theorem w_frames : about1.frames = Frame.invoking theMethod args0 :: below0 := rfl
set_option maxRecDepth 65536 in
theorem w_args : argsFit about1.vm theMethod args0 = true := by decide +kernel
set_option maxRecDepth 65536 in
theorem w_heap : heapFits about1 = true := by decide +kernel
set_option maxRecDepth 65536 in
theorem w_runnable : about1.curStatus? = some .runnable := by decide +kernel
set_option maxRecDepth 65536 in
theorem w_alone : about1.alone = true := by decide +kernel
set_option maxRecDepth 65536 in
theorem w_named : about1.methodNamed? x = some theMethod := by decide +kernel
set_option maxRecDepth 65536 in
theorem w_hears : about1.hears theMethod below0 = true := by decide +kernel
set_option maxRecDepth 65536 in
theorem w_ripe : about1.ripe theMethod args0 below0 = true := by decide +kernel
theorem w_running : about1.status = .running := rfl
set_option maxRecDepth 65536 in
theorem w_room : about1.hasRoom e0.platform room_1 = true :=
  launch0.hasRoom_least _ room_1 (by decide +kernel) (by decide +kernel) (by decide +kernel) (by decide +kernel) (by decide +kernel) (by decide +kernel)
theorem allAtoms_all (ts : List Jvm.Cond) (a : Array Jvm.Value) (st : Jvm.State) : (allAtoms ts).before a st = ts.all (fun c => c.before a st) := by
  induction ts with
  | nil => rfl
  | cons c t ih =>
    show (Jvm.Cond.and c (allAtoms t)).before a st = _
    rw [Jvm.Cond.before_and, ih, List.all_cons]
def words1 : List Jvm.Cond := Jvm.Cond.code x code maxLocals ret :: tables_1
/-- a 'code' word, met by the world's own term for the bytes: nothing is compared byte by byte -/
theorem code_word {y : MethodName} {bytes : ByteArray} {mx : Nat} {rt : Option FieldType} {a : Array Value} {s : State} {m : MethodId} {meth : Method} {c : Code} (h1 : s.methodNamed? y = some m) (h2 : s.vm.method? m = some meth) (h3 : meth.code = some c) (h4 : c.code = bytes)
    (h5 : (c.maxLocals == mx && c.exceptionTable.isEmpty && decide (c.maxStack ≤ mostOperands) && decide (meth.sig.returnType = rt) && !meth.locks && decide (parseMethodDescriptor y.desc = some meth.sig)) = true) : (Jvm.Cond.code y bytes mx rt).before a s = true := by
  simp only [Bool.and_eq_true, beq_iff_eq, Bool.not_eq_true', decide_eq_true_eq] at h5
  obtain ⟨⟨⟨⟨⟨g1, g2⟩, g3⟩, g4⟩, g5⟩, g6⟩ := h5
  simp [Cond.before, Cond.holds, Cond.value, h1, h2, h3, h4, g1, g2, g3, g4, g5, g6]
def isCode : Jvm.Cond → Bool
  | .code _ _ _ _ => true
  | _ => false
theorem all_split {L : List Jvm.Cond} {P : Jvm.Cond → Bool} (h1 : L.all (fun c => isCode c || P c) = true) (h2 : ∀ c ∈ L.filter isCode, P c = true) : L.all P = true := by
  refine List.all_eq_true.mpr fun c hc => ?_
  have h := List.all_eq_true.mp h1 c hc
  rcases Bool.eq_false_or_eq_true (isCode c) with hi | hi
  · exact h2 c (List.mem_filter.mpr ⟨hc, hi⟩)
  · simpa [hi] using h
set_option maxRecDepth 65536 in
theorem w_c0 : (Jvm.Cond.code x code maxLocals ret).before args0 about1 = true := code_word (m := ⟨1, 3⟩) (meth := k1m3) (c := k1c3) (by decide +kernel) rfl rfl rfl (by decide +kernel)
set_option maxRecDepth 65536 in
theorem w_c1 : (Jvm.Cond.code ({ cls := "com/example/munka/munka/util/Utf8UnfinishedTailPinLaw", name := "u", desc := "([BI)I" } : Jvm.MethodName) method_2_code (2 : Nat) (Option.some Jvm.ClassFile.FieldType.int)).before args0 about1 = true := code_word (m := ⟨1, 1⟩) (meth := k1m1) (c := k1c1) (by decide +kernel) rfl rfl rfl (by decide +kernel)
set_option maxRecDepth 65536 in
theorem w_c2 : (Jvm.Cond.code ({ cls := "com/example/munka/munka/util/Utf8UnfinishedTailPinLaw", name := "cont", desc := "(I)Z" } : Jvm.MethodName) method_3_code (1 : Nat) (Option.some Jvm.ClassFile.FieldType.boolean)).before args0 about1 = true := code_word (m := ⟨1, 2⟩) (meth := k1m2) (c := k1c2) (by decide +kernel) rfl rfl rfl (by decide +kernel)
set_option maxRecDepth 65536 in
theorem w_c3 : (Jvm.Cond.code ({ cls := "com/example/munka/munka/util/Utf8", name := "unfinishedTail", desc := "([BI)I" } : Jvm.MethodName) prog_43_method_4_code (5 : Nat) (Option.some Jvm.ClassFile.FieldType.int)).before args0 about1 = true := code_word (m := ⟨2, 1⟩) (meth := k2m1) (c := k2c1) (by decide +kernel) rfl rfl rfl (by decide +kernel)
set_option maxRecDepth 65536 in
theorem w_c4 : (Jvm.Cond.code ({ cls := "com/example/munka/munka/util/Utf8", name := "sequenceLength", desc := "(I)I" } : Jvm.MethodName) prog_43_method_6_code (2 : Nat) (Option.some Jvm.ClassFile.FieldType.int)).before args0 about1 = true := code_word (m := ⟨2, 2⟩) (meth := k2m2) (c := k2c2) (by decide +kernel) rfl rfl rfl (by decide +kernel)
def codes1 : List Jvm.Cond := [Jvm.Cond.code x code maxLocals ret, Jvm.Cond.code ({ cls := "com/example/munka/munka/util/Utf8UnfinishedTailPinLaw", name := "u", desc := "([BI)I" } : Jvm.MethodName) method_2_code (2 : Nat) (Option.some Jvm.ClassFile.FieldType.int), Jvm.Cond.code ({ cls := "com/example/munka/munka/util/Utf8UnfinishedTailPinLaw", name := "cont", desc := "(I)Z" } : Jvm.MethodName) method_3_code (1 : Nat) (Option.some Jvm.ClassFile.FieldType.boolean), Jvm.Cond.code ({ cls := "com/example/munka/munka/util/Utf8", name := "unfinishedTail", desc := "([BI)I" } : Jvm.MethodName) prog_43_method_4_code (5 : Nat) (Option.some Jvm.ClassFile.FieldType.int), Jvm.Cond.code ({ cls := "com/example/munka/munka/util/Utf8", name := "sequenceLength", desc := "(I)I" } : Jvm.MethodName) prog_43_method_6_code (2 : Nat) (Option.some Jvm.ClassFile.FieldType.int)]
set_option maxRecDepth 65536 in
theorem codes_eq : words1.filter isCode = codes1 := rfl
theorem w_codes : ∀ c ∈ words1.filter isCode, c.before args0 about1 = true := by
  rw [codes_eq]
  intro c hc
  simp only [codes1, List.mem_cons, List.not_mem_nil, or_false] at hc
  rcases hc with rfl | rfl | rfl | rfl | rfl
  · exact w_c0
  · exact w_c1
  · exact w_c2
  · exact w_c3
  · exact w_c4
set_option maxRecDepth 65536 in
theorem w_t1 : words1.all (fun c => isCode c || c.before args0 about1) = true := by decide +kernel
theorem w_tables : (allAtoms (Jvm.Cond.code x code maxLocals ret :: tables_1)).before args0 about1 = true := by
  rw [allAtoms_all]
  show words1.all (fun c => c.before args0 about1) = true
  refine all_split ?_ w_codes
  rw [w_t1]
set_option maxRecDepth 65536 in
theorem w_case : (Jvm.Cond.and given_1 narrow_1).before args0 about1 = true := by decide +kernel
theorem w_applies : (headSpec (Jvm.Cond.code x code maxLocals ret :: tables_1) room_1).applies x e0.platform about1 = true :=
  (Spec.applies_iff w_frames).mpr ⟨w_running, w_runnable, w_alone, w_named, w_hears, w_ripe, w_room, w_tables⟩
theorem atStart : AtStart classFile x code maxLocals ret World_1 tables_1 room_1 Calls_1 rest_1 Pre_1 launch0 p0 e0 about1 theMethod args0 below0 :=
  ⟨lists_1, trivial, launch0.admits_env _ _ _, launch0.least_env, fairChoices_fair.cas, fairChoices_fair.clock, w_frames, w_args, w_heap, w_applies, trivial, trivial, w_case⟩
end start1
theorem witness_1 : WitnessClaimed_1 := ⟨start1.p0, start1.e0, start1.about1, start1.theMethod, start1.args0, start1.below0, start1.atStart⟩
end Jvm.Pilot.@@N@@
