import JvmDerived
import JvmDerived.Pilot.@@N@@Statement
import JvmDerived.Pilot.@@N@@Code
set_option linter.unusedVariables false
set_option linter.unusedSimpArgs false
namespace Jvm.Pilot.@@N@@
open Jvm Jvm.ClassFile Sem Op Lib Jvm.Free Jvm.Stand Jvm.LawKit Jvm.RoadKit Bundle Jvm.Pilot.@@N@@.Jvm.D
section Own
variable {p : Program} {l : Launch} {e : Env} {R : Room} {s : State} {m : MethodId} {args : Array Value} {below : List Frame} {meth : Method} {c : Code} {T T' : State} {locs : List Loc} {cells slots : Nat}
/-- from T with the frame f on top the method comes to its end; what it returns, the heap and the places written answer Q; at most C cells and N slots are new -/
def own_Fin (p : Program) (e : Env) (below : List Frame) (s : State) (C N : Nat) (Q : Option Value → Heap → List Loc → Prop) (T : State) (f : JFrame) : Prop :=
  ∃ s₂ o, Steps p.tables e below (T.setTop f) s₂ ∧ s₂.status = .running ∧ Ended s₂ below o ∧ ∃ v L, o = .returned v ∧ Q v s₂.heap L ∧ FrameEnd s o s₂ L C N
variable {C N : Nat} {Q : Option Value → Heap → List Loc → Prop} {f f' : JFrame}
theorem own_by (h : ∀ t, Steps p.tables e below (T'.setTop f') t → Steps p.tables e below (T.setTop f) t) (k : own_Fin p e below s C N Q T' f') : own_Fin p e below s C N Q T f := by
  obtain ⟨s2, o, h1, h2⟩ := k
  exact ⟨s2, o, h _ h1, h2⟩
theorem own_start (q : f = f') (k : own_Fin p e below s C N Q T f') : ∃ s₂ o, Steps p.tables e below (T.setTop f) s₂ ∧ s₂.status = .running ∧ Ended s₂ below o ∧ ∃ v L, o = .returned v ∧ Q v s₂.heap L ∧ FrameEnd s o s₂ L C N := by
  subst q; exact k
theorem own_leaf (X : Stand p l e R s m args below meth c T locs cells slots) (hlk : meth.locks = false) {v : Option Value} (hv : meth.sig.returnType = none → v = none)
    (hs : ∀ fs, (∀ (f : JFrame) (acts : List Action), f.method = m → f.locked = none → f.entered = [] → (doReturn e (T.setTop f) acts v).1 = T.setFrames fs) → Steps p.tables e below (T.setTop f) (T.setFrames fs))
    (hQ : Q v T.heap locs) (hc : cells ≤ C) (hn : slots ≤ N) : own_Fin p e below s C N Q T f := by
  obtain ⟨fs, hr, hrun, hended, hW, hsame⟩ := X.leave (v := v) hv hlk
  exact ⟨_, _, hs fs hr, hrun, hended, _, _, rfl, hQ, ⟨_, rfl⟩, hW, hsame.mono hc hn⟩
theorem own_retV (X : Stand p l e R s m args below meth c T locs cells slots) (hx : p.tables.exec = Jvm.exec) (hlk : meth.locks = false) {pc : Nat} {Ls : Array Slot} (hret : meth.sig.returnType = none) (hd : decode c.code pc = .ok (.return_, 1))
    (hQ : Q none T.heap locs) (hc : cells ≤ C) (hn : slots ≤ N) : own_Fin p e below s C N Q T (mkF m pc Ls []) :=
  own_leaf X hlk (fun _ => rfl) (fun fs hr => X.returnOut hx hret hd hr) hQ hc hn
theorem own_retZ (X : Stand p l e R s m args below meth c T locs cells slots) (hx : p.tables.exec = Jvm.exec) (hlk : meth.locks = false) {pc : Nat} {Ls : Array Slot} {z : Int32} {t : FieldType} {rest : List Value} (hret : meth.sig.returnType = some t) (ht : t = .boolean ∨ t = .byte ∨ t = .char ∨ t = .short) (hd : decode c.code pc = .ok (.ireturn, 1))
    (hQ : Q (some (.int (nar t z))) T.heap locs) (hc : cells ≤ C) (hn : slots ≤ N) : own_Fin p e below s C N Q T (mkF m pc Ls (.int z :: rest)) :=
  own_leaf X hlk (fun h => by rw [hret] at h; cases h) (fun fs hr => retN X hx hret ht hd hr) hQ hc hn
theorem own_retO (X : Stand p l e R s m args below meth c T locs cells slots) (hx : p.tables.exec = Jvm.exec) (hlk : meth.locks = false) {pc : Nat} {Ls : Array Slot} {w : Value} {t : FieldType} {i : Instr} {rest : List Value} (hret : meth.sig.returnType = some t) (hn' : narrow t w = w)
    (hi : (i = .ireturn ∧ (t = .int ∨ t = .boolean ∨ t = .byte ∨ t = .char ∨ t = .short) ∧ ∃ z, w = .int z) ∨ (i = .lreturn ∧ t = .long ∧ ∃ z, w = .long z) ∨ (i = .dreturn ∧ t = .double ∧ ∃ z, w = .double z) ∨ (i = .freturn ∧ t = .float ∧ ∃ z, w = .float z) ∨ (i = .areturn ∧ t.isReference = true ∧ w.isRef = true))
    (hd : decode c.code pc = .ok (i, 1)) (hQ : Q (some w) T.heap locs) (hc : cells ≤ C) (hn : slots ≤ N) : own_Fin p e below s C N Q T (mkF m pc Ls (w :: rest)) :=
  own_leaf X hlk (fun h => by rw [hret] at h; cases h) (fun fs hr => retOut X hx hret hn' hi hd hr) hQ hc hn
theorem own_retI (X : Stand p l e R s m args below meth c T locs cells slots) (hx : p.tables.exec = Jvm.exec) (hlk : meth.locks = false) {pc : Nat} {Ls : Array Slot} {z : Int32} {rest : List Value} (hret : meth.sig.returnType = some .int) (hd : decode c.code pc = .ok (.ireturn, 1))
    (hQ : Q (some (.int z)) T.heap locs) (hc : cells ≤ C) (hn : slots ≤ N) : own_Fin p e below s C N Q T (mkF m pc Ls (.int z :: rest)) :=
  own_retO X hx hlk hret rfl (Or.inl ⟨rfl, Or.inl rfl, _, rfl⟩) hd hQ hc hn
theorem own_retJ (X : Stand p l e R s m args below meth c T locs cells slots) (hx : p.tables.exec = Jvm.exec) (hlk : meth.locks = false) {pc : Nat} {Ls : Array Slot} {z : Int64} {rest : List Value} (hret : meth.sig.returnType = some .long) (hd : decode c.code pc = .ok (.lreturn, 1))
    (hQ : Q (some (.long z)) T.heap locs) (hc : cells ≤ C) (hn : slots ≤ N) : own_Fin p e below s C N Q T (mkF m pc Ls (.long z :: rest)) :=
  own_retO X hx hlk hret rfl (Or.inr (Or.inl ⟨rfl, rfl, _, rfl⟩)) hd hQ hc hn
theorem own_retA (X : Stand p l e R s m args below meth c T locs cells slots) (hx : p.tables.exec = Jvm.exec) (hlk : meth.locks = false) {pc : Nat} {Ls : Array Slot} {w : Value} {t : FieldType} {rest : List Value} (hret : meth.sig.returnType = some t) (hr : t.isReference = true) (hn' : narrow t w = w) (hw : w.isRef = true) (hd : decode c.code pc = .ok (.areturn, 1))
    (hQ : Q (some w) T.heap locs) (hc : cells ≤ C) (hn : slots ≤ N) : own_Fin p e below s C N Q T (mkF m pc Ls (w :: rest)) :=
  own_retO X hx hlk hret hn' (Or.inr (Or.inr (Or.inr (Or.inr ⟨rfl, hr, hw⟩)))) hd hQ hc hn
/-- a room by its four numbers -/
abbrev own_R (f c s l : Nat) : Room := { frames := f, cells := c, slots := s, locals := l }
/-- the contract's form: called with A at a heap h0 it returns, and Q holds of what it returns, the heap and the places written -/
abbrev own_Met (l : Launch) (Z : State) (y : MethodName) (code : ByteArray) (ml : Nat) (ret : Option FieldType) (ws : List Jvm.Cond) (R : Room) (A : Array Value) (h0 : Heap) (Q : Option Value → Heap → List Loc → Prop) : Prop :=
  MetFree l y (head1 (Jvm.Cond.code y code ml ret :: ws) R) (fun a U => a = A ∧ Z.Warmed39 U.vm ∧ U.heap = h0) (fun _ _ _ _ _ => True) (fun _ U o U' => ∃ v L, o = .returned v ∧ Q v U'.heap L ∧ FrameEnd U o U' L R.cells R.slots)
theorem own_enter {Z : State} {y : MethodName} {code : ByteArray} {ml : Nat} {ret : Option FieldType} {ws : List Jvm.Cond} {A : Array Value} {h0 : Heap} {f0 : MethodId → JFrame} (n0 : Nat) (hpn : plainName y.cls = true) (hef : ∀ m, entryFrame m A ml = f0 m)
    (H : ∀ (p : Program) (e : Env) (s : State) (m : MethodId) (below : List Frame) (meth : Method) (c : Code) (s₁ : State), p.tables.exec = Jvm.exec → c.code = code → meth.locks = false → c.maxLocals = ml → meth.sig.returnType = ret → s.vm.findClass y.cls = some m.cls → meth.name = y.name →
      Z.Warmed39 s.vm → Stand p l e R s m A below meth c s₁ [] 0 0 → s₁.heap = h0 → Fr n0 [] → own_Fin p e below s R.cells R.slots Q s₁ (f0 m)) : own_Met l Z y code ml ret ws R A h0 Q := by
  refine MetFree.of_bodySF (plainFor_of_name hpn) hisR ?_
  intro p e s m args below meth c s₁ Bd hml hP _
  obtain ⟨rfl, hZ, hh⟩ := hP
  have q := H p e s m below meth c s₁ Bd.exec Bd.bytes Bd.notSynchronized hml Bd.returns (findClass_of_methodNamed Bd.named) (name_of_methodNamed Bd.named Bd.method).1 hZ (Stand.of_body Bd) (by rw [← hh, Bd.state]; rfl) (Fr.nil n0)
  rw [hef m]
  exact q
end Own

theorem own_vi {a b : Int32} (h : a = b) : some (Value.int a) = some (Value.int b) := h ▸ rfl
def own_iso (c : Int32) : Int32 := if (159 : Int32) < c then 0 else if c < (127 : Int32) then (if ((c.toUInt32 >>> ((5 : Int32) &&& 31).toUInt32).toInt32) = (0 : Int32) then 1 else 0) else 1
def own_esc (c : Int32) : Int32 := if own_iso c = (0 : Int32) then (if c = (8232 : Int32) then 1 else if c = (8233 : Int32) then 1 else 0) else 1
def own_exp3 (c : Int32) : Int32 := if c = (8232 : Int32) then 1 else if c = (8233 : Int32) then 1 else 0
def own_exp2 (c : Int32) : Int32 := if c < (127 : Int32) then own_exp3 c else if (159 : Int32) < c then own_exp3 c else 1
def own_exp (c : Int32) : Int32 := if c < (0 : Int32) then own_exp2 c else if (31 : Int32) < c then own_exp2 c else 1
theorem own_sh (c : Int32) : ((c.toUInt32 >>> ((5 : Int32) &&& 31).toUInt32).toInt32) = (0 : Int32) ↔ (¬ c < (0 : Int32) ∧ ¬ (31 : Int32) < c) := by
  have h1 : ((c.toUInt32 >>> ((5 : Int32) &&& 31).toUInt32).toInt32) = (0 : Int32) ↔ (c.toUInt32 >>> (5 : UInt32)) = 0 := by
    constructor
    · intro h
      have := congrArg Int32.toUInt32 h
      have e : ((5 : Int32) &&& 31).toUInt32 = 5 := by decide
      rw [e] at this
      exact this
    · intro h
      have e : ((5 : Int32) &&& 31).toUInt32 = 5 := by decide
      rw [e, h]; rfl
  have h2 : (c.toUInt32 >>> (5 : UInt32)) = 0 ↔ c.toUInt32.toNat < 32 := by
    rw [← UInt32.toNat_inj, UInt32.toNat_shiftRight]
    have e : (5 : UInt32).toNat % 32 = 5 := by decide
    have z : (0 : UInt32).toNat = 0 := by decide
    rw [e, z, Nat.shiftRight_eq_div_pow]
    omega
  rw [h1, h2, Int32.lt_iff_toInt_lt, Int32.lt_iff_toInt_lt]
  have e0 : (0 : Int32).toInt = 0 := by decide
  have e31 : (31 : Int32).toInt = 31 := by decide
  rw [e0, e31]
  have e3 : c.toInt = if 2 * c.toUInt32.toNat < 2 ^ 32 then (c.toUInt32.toNat : Int) else (c.toUInt32.toNat : Int) - 2 ^ 32 := by
    have := BitVec.toInt_eq_toNat_cond c.toBitVec
    exact this
  have e4 : c.toUInt32.toNat < 2 ^ 32 := UInt32.toNat_lt _
  rw [e3]; split <;> omega
theorem own_eq (c : Int32) : own_esc c = own_exp c := by
  have L : ∀ a b : Int32, a < b ↔ a.toInt < b.toInt := fun a b => Int32.lt_iff_toInt_lt
  have k0 : (0 : Int32).toInt = 0 := by decide
  have k1 : (31 : Int32).toInt = 31 := by decide
  have k2 : (127 : Int32).toInt = 127 := by decide
  have k3 : (159 : Int32).toInt = 159 := by decide
  unfold own_esc own_iso own_exp own_exp2 own_exp3
  by_cases a1 : (159 : Int32) < c
  · have a2 : ¬ c < (0 : Int32) := by rw [L] at *; omega
    have a3 : (31 : Int32) < c := by rw [L] at *; omega
    have a4 : ¬ c < (127 : Int32) := by rw [L] at *; omega
    simp [a1, a2, a3, a4]
  · by_cases a2 : c < (127 : Int32)
    · by_cases a3 : c < (0 : Int32)
      · have q : ¬ ((c.toUInt32 >>> ((5 : Int32) &&& 31).toUInt32).toInt32) = (0 : Int32) := fun h => ((own_sh c).mp h).1 a3
        rw [if_neg a1, if_pos a2, if_neg q, if_pos rfl, if_pos a3, if_pos a2]
      · by_cases a4 : (31 : Int32) < c
        · have q : ¬ ((c.toUInt32 >>> ((5 : Int32) &&& 31).toUInt32).toInt32) = (0 : Int32) := fun h => ((own_sh c).mp h).2 a4
          rw [if_neg a1, if_pos a2, if_neg q, if_pos rfl, if_neg a3, if_pos a4, if_pos a2]
        · have q := (own_sh c).mpr ⟨a3, a4⟩
          rw [if_neg a1, if_pos a2, if_pos q, if_neg (by decide), if_neg a3, if_neg a4]
    · have a3 : ¬ c < (0 : Int32) := by rw [L] at *; omega
      have a4 : (31 : Int32) < c := by rw [L] at *; omega
      rw [if_neg a1, if_neg a2, if_neg (by decide), if_neg a3, if_pos a4, if_neg a2, if_neg a1]
theorem own_pn1 : plainName "java/lang/Character" = true := by first | (simp [plainName, overriddenIn]; done) | decide +kernel
theorem d2_0 : decode jdk_89_method_89_code 0 = .ok (.iload_n 0, 1) := by decide +kernel
theorem d2_1 : decode jdk_89_method_89_code 1 = .ok (.sipush 159, 3) := by decide +kernel
theorem d2_4 : decode jdk_89_method_89_code 4 = .ok (.if_icmp .gt 19, 3) := by decide +kernel
theorem d2_23 : decode jdk_89_method_89_code 23 = .ok (.iconst 0, 1) := by decide +kernel
theorem d2_24 : decode jdk_89_method_89_code 24 = .ok (.ireturn, 1) := by decide +kernel
theorem d2_7 : decode jdk_89_method_89_code 7 = .ok (.iload_n 0, 1) := by decide +kernel
theorem d2_8 : decode jdk_89_method_89_code 8 = .ok (.bipush 127, 2) := by decide +kernel
theorem d2_10 : decode jdk_89_method_89_code 10 = .ok (.if_icmp .ge 9, 3) := by decide +kernel
theorem d2_13 : decode jdk_89_method_89_code 13 = .ok (.iload_n 0, 1) := by decide +kernel
theorem d2_14 : decode jdk_89_method_89_code 14 = .ok (.iconst 5, 1) := by decide +kernel
theorem d2_15 : decode jdk_89_method_89_code 15 = .ok (.iushr, 1) := by decide +kernel
theorem d2_16 : decode jdk_89_method_89_code 16 = .ok (.ifCond .ne 7, 3) := by decide +kernel
theorem d2_19 : decode jdk_89_method_89_code 19 = .ok (.iconst 1, 1) := by decide +kernel
theorem d2_20 : decode jdk_89_method_89_code 20 = .ok (.goto 4, 3) := by decide +kernel
theorem ef_rm2 (m : MethodId) (x0 : Int32) : entryFrame m #[(.int x0)] 1 = mkF m 0 #[.val (.int x0)] [] := by first | (simp [entryFrame, mkF, argsToLocals, Value.category]; done) | rfl
def own_Q2 (p1 : Int32) (h0 : Heap) (n0 : Nat) (v : Option Value) (h : Heap) (L : List Loc) : Prop := v = some (.int (own_iso p1)) ∧ Fr n0 L ∧ h = h0
set_option maxRecDepth 65536 in
set_option maxHeartbeats 40000000 in
theorem rm2 (l : Launch) (Z : State) (a0 : Array Value) (hw : ∀ d ∈ tables_1, d.before a0 Z = true) (ws : List Jvm.Cond) (p1 : Int32) (h0 : Heap) (n0 : Nat) (Z0 : n0 ≤ h0.size)  : own_Met l Z (⟨"java/lang/Character", "isISOControl", "(I)Z"⟩ : MethodName) jdk_89_method_89_code 1 (some .boolean) ws (own_R 0 0 0 0) #[(.int p1)] h0 (own_Q2 p1 h0 n0) := by
  refine own_enter n0 own_pn1 (fun m => ef_rm2 m p1 ) (fun p e s m below meth c s₁ hx hby hlk hml hret hown hnm hZ X0 e0 N0 => ?_)
  show own_Fin p e below s _ _ _ s₁ (mkF m 0 #[.val (.int p1)] [])
  refine own_by (fun _ k => XS.iloadN X0.here hx rfl (hb hby d2_0) rfl (XS.sipush X0.here hx rfl (hb hby d2_1) k)) ?_
  show own_Fin p e below s _ _ _ s₁ (mkF m 4 #[.val (.int p1)] [(.int (159 : Int32)), (.int p1)])
  by_cases hc4_1 : (159 : Int32) < p1
  · show own_Fin p e below s _ _ _ s₁ (mkF m 4 #[.val (.int p1)] [(.int (159 : Int32)), (.int p1)])
    refine own_by (fun _ k => XS.icmpYes X0.here hx rfl (pc0 := 4) (pc' := 23) rfl (hb hby d2_4) rfl (tlt hc4_1).2.2.1 (by decide) (by decide) k) ?_
    show own_Fin p e below s _ _ _ s₁ (mkF m 23 #[.val (.int p1)] [])
    refine own_by (fun _ k => XS.iconst X0.here hx rfl (hb hby d2_23) k) ?_
    show own_Fin p e below s _ _ _ s₁ (mkF m 24 #[.val (.int p1)] [(.int (0 : Int32))])
    exact own_retZ X0 hx hlk (t := .boolean) hret (by simp) (hb hby d2_24) ⟨own_vi (by show (0 : Int32) = _; first | (simp only [own_iso, hc4_1, if_true, if_false]; done) | (simp only [own_iso, hc4_1, if_true, if_false]; decide) | simp [own_iso, hc4_1]), N0, e0⟩ (by decide) (by decide)
  · show own_Fin p e below s _ _ _ s₁ (mkF m 4 #[.val (.int p1)] [(.int (159 : Int32)), (.int p1)])
    refine own_by (fun _ k => XS.icmpNo X0.here hx rfl (hb hby d2_4) rfl (flt hc4_1).2.2.1 k) ?_
    show own_Fin p e below s _ _ _ s₁ (mkF m 7 #[.val (.int p1)] [])
    refine own_by (fun _ k => XS.iloadN X0.here hx rfl (hb hby d2_7) rfl (XS.bipush X0.here hx rfl (hb hby d2_8) k)) ?_
    show own_Fin p e below s _ _ _ s₁ (mkF m 10 #[.val (.int p1)] [(.int (127 : Int32)), (.int p1)])
    by_cases hc10_2 : p1 < (127 : Int32)
    · show own_Fin p e below s _ _ _ s₁ (mkF m 10 #[.val (.int p1)] [(.int (127 : Int32)), (.int p1)])
      refine own_by (fun _ k => XS.icmpNo X0.here hx rfl (hb hby d2_10) rfl (tlt hc10_2).2.1 k) ?_
      show own_Fin p e below s _ _ _ s₁ (mkF m 13 #[.val (.int p1)] [])
      refine own_by (fun _ k => XS.iloadN X0.here hx rfl (hb hby d2_13) rfl (XS.iconst X0.here hx rfl (hb hby d2_14) (XS.iushr X0.here hx rfl (hb hby d2_15) rfl k))) ?_
      show own_Fin p e below s _ _ _ s₁ (mkF m 16 #[.val (.int p1)] [(.int ((p1.toUInt32 >>> ((5 : Int32) &&& 31).toUInt32).toInt32))])
      by_cases hc16_3 : ((p1.toUInt32 >>> ((5 : Int32) &&& 31).toUInt32).toInt32) = (0 : Int32)
      · show own_Fin p e below s _ _ _ s₁ (mkF m 16 #[.val (.int p1)] [(.int ((p1.toUInt32 >>> ((5 : Int32) &&& 31).toUInt32).toInt32))])
        refine own_by (fun _ k => XS.ifNo X0.here hx rfl (hb hby d2_16) rfl ((if0 _ _).trans (teq hc16_3).2) k) ?_
        show own_Fin p e below s _ _ _ s₁ (mkF m 19 #[.val (.int p1)] [])
        refine own_by (fun _ k => XS.iconst X0.here hx rfl (hb hby d2_19) (XS.goto X0.here hx rfl (pc0 := 20) (pc' := 24) rfl (hb hby d2_20) (by decide) (by decide) k)) ?_
        show own_Fin p e below s _ _ _ s₁ (mkF m 24 #[.val (.int p1)] [(.int (1 : Int32))])
        exact own_retZ X0 hx hlk (t := .boolean) hret (by simp) (hb hby d2_24) ⟨own_vi (by show (1 : Int32) = _; first | (simp only [own_iso, hc4_1, hc10_2, hc16_3, if_true, if_false]; done) | (simp only [own_iso, hc4_1, hc10_2, hc16_3, if_true, if_false]; decide) | simp [own_iso, hc4_1, hc10_2, hc16_3]), N0, e0⟩ (by decide) (by decide)
      · show own_Fin p e below s _ _ _ s₁ (mkF m 16 #[.val (.int p1)] [(.int ((p1.toUInt32 >>> ((5 : Int32) &&& 31).toUInt32).toInt32))])
        refine own_by (fun _ k => XS.ifYes X0.here hx rfl (pc0 := 16) (pc' := 23) rfl (hb hby d2_16) rfl ((if0 _ _).trans (feq hc16_3).2) (by decide) (by decide) k) ?_
        show own_Fin p e below s _ _ _ s₁ (mkF m 23 #[.val (.int p1)] [])
        refine own_by (fun _ k => XS.iconst X0.here hx rfl (hb hby d2_23) k) ?_
        show own_Fin p e below s _ _ _ s₁ (mkF m 24 #[.val (.int p1)] [(.int (0 : Int32))])
        exact own_retZ X0 hx hlk (t := .boolean) hret (by simp) (hb hby d2_24) ⟨own_vi (by show (0 : Int32) = _; first | (simp only [own_iso, hc4_1, hc10_2, hc16_3, if_true, if_false]; done) | (simp only [own_iso, hc4_1, hc10_2, hc16_3, if_true, if_false]; decide) | simp [own_iso, hc4_1, hc10_2, hc16_3]), N0, e0⟩ (by decide) (by decide)
    · show own_Fin p e below s _ _ _ s₁ (mkF m 10 #[.val (.int p1)] [(.int (127 : Int32)), (.int p1)])
      refine own_by (fun _ k => XS.icmpYes X0.here hx rfl (pc0 := 10) (pc' := 19) rfl (hb hby d2_10) rfl (flt hc10_2).2.1 (by decide) (by decide) k) ?_
      show own_Fin p e below s _ _ _ s₁ (mkF m 19 #[.val (.int p1)] [])
      refine own_by (fun _ k => XS.iconst X0.here hx rfl (hb hby d2_19) (XS.goto X0.here hx rfl (pc0 := 20) (pc' := 24) rfl (hb hby d2_20) (by decide) (by decide) k)) ?_
      show own_Fin p e below s _ _ _ s₁ (mkF m 24 #[.val (.int p1)] [(.int (1 : Int32))])
      exact own_retZ X0 hx hlk (t := .boolean) hret (by simp) (hb hby d2_24) ⟨own_vi (by show (1 : Int32) = _; first | (simp only [own_iso, hc4_1, hc10_2, if_true, if_false]; done) | (simp only [own_iso, hc4_1, hc10_2, if_true, if_false]; decide) | simp [own_iso, hc4_1, hc10_2]), N0, e0⟩ (by decide) (by decide)
theorem own_pn17 : plainName "com/example/trustee/trustee/Quoted" = true := by first | (simp [plainName, overriddenIn]; done) | decide +kernel
theorem d1_0 : decode prog_24_method_4_code 0 = .ok (.iload_n 0, 1) := by decide +kernel
theorem d1_1 : decode prog_24_method_4_code 1 = .ok (.invokestatic 87, 3) := by decide +kernel
theorem own_pd20 : parseMethodDescriptor "(I)Z" = some ⟨[.int], some .boolean⟩ := by decide +kernel
theorem d1_4 : decode prog_24_method_4_code 4 = .ok (.ifCond .ne 17, 3) := by decide +kernel
theorem d1_7 : decode prog_24_method_4_code 7 = .ok (.iload_n 0, 1) := by decide +kernel
theorem d1_8 : decode prog_24_method_4_code 8 = .ok (.sipush 8232, 3) := by decide +kernel
theorem d1_11 : decode prog_24_method_4_code 11 = .ok (.if_icmp .eq 10, 3) := by decide +kernel
theorem d1_21 : decode prog_24_method_4_code 21 = .ok (.iconst 1, 1) := by decide +kernel
theorem d1_22 : decode prog_24_method_4_code 22 = .ok (.goto 4, 3) := by decide +kernel
theorem d1_26 : decode prog_24_method_4_code 26 = .ok (.ireturn, 1) := by decide +kernel
theorem d1_14 : decode prog_24_method_4_code 14 = .ok (.iload_n 0, 1) := by decide +kernel
theorem d1_15 : decode prog_24_method_4_code 15 = .ok (.sipush 8233, 3) := by decide +kernel
theorem d1_18 : decode prog_24_method_4_code 18 = .ok (.if_icmp .ne 7, 3) := by decide +kernel
theorem d1_25 : decode prog_24_method_4_code 25 = .ok (.iconst 0, 1) := by decide +kernel
theorem ef_rm1 (m : MethodId) (x0 : Int32) : entryFrame m #[(.int x0)] 1 = mkF m 0 #[.val (.int x0)] [] := by first | (simp [entryFrame, mkF, argsToLocals, Value.category]; done) | rfl
def own_Q1 (p1 : Int32) (h0 : Heap) (n0 : Nat) (v : Option Value) (h : Heap) (L : List Loc) : Prop := v = some (.int (own_esc p1)) ∧ Fr n0 L ∧ h = h0
set_option maxRecDepth 65536 in
set_option maxHeartbeats 40000000 in
theorem rm1 (l : Launch) (Z : State) (a0 : Array Value) (hw : ∀ d ∈ tables_1, d.before a0 Z = true) (ws : List Jvm.Cond) (p1 : Int32) (h0 : Heap) (n0 : Nat) (Z0 : n0 ≤ h0.size)  : own_Met l Z (⟨"com/example/trustee/trustee/Quoted", "needsEscape", "(I)Z"⟩ : MethodName) prog_24_method_4_code 1 (some .boolean) ws (own_R 1 0 0 12) #[(.int p1)] h0 (own_Q1 p1 h0 n0) := by
  refine own_enter n0 own_pn17 (fun m => ef_rm1 m p1 ) (fun p e s m below meth c s₁ hx hby hlk hml hret hown hnm hZ X0 e0 N0 => ?_)
  show own_Fin p e below s _ _ _ s₁ (mkF m 0 #[.val (.int p1)] [])
  refine own_by (fun _ k => XS.iloadN X0.here hx rfl (hb hby d1_0) rfl k) ?_
  show own_Fin p e below s _ _ _ s₁ (mkF m 1 #[.val (.int p1)] [(.int p1)])
  obtain ⟨_, _, ⟨T4, L4, k4, n4⟩, -, X4, ⟨Lc4, hQ4, l4, y4, z4⟩, st4⟩ := Jvm.LawKit.callS X0 hx (y := (⟨"java/lang/Character", "isISOControl", "(I)Z"⟩ : MethodName)) hown (mvT hZ (hw _ (List.mem_of_getElem? (i := 4) rfl))) (mvT hZ (hw _ (List.mem_of_getElem? (i := 5) rfl))) (mvT hZ (hw _ (List.mem_of_getElem? (i := 6) rfl))) (mvT hZ (hw _ (List.mem_of_getElem? (i := 7) rfl))) (by decide) (backOf (W := 0) (rm2 l Z a0 hw [] p1 h0 n0 Z0) hZ (hw _ (List.mem_of_getElem? (i := 7) rfl)) (hw _ (List.mem_of_getElem? (i := 6) rfl)) (by decide) (by decide)) (g := (mkF m 1 #[.val (.int p1)] [(.int p1)])) rfl (by rw [hml]; rfl) (argsL := [(.int p1)]) (rest := []) (lenOf own_pd20 rfl) rfl (by show 2 * 0 + _ ≤ _; exact Nat.le_of_eq rfl) (hb hby d1_1) (fun _ _ => ⟨rfl, e0, (by decide : 0 + 0 ≤ _), (by decide : 0 + 0 ≤ _)⟩)
  dsimp only [Pt.U, Pt.locs, Pt.cells, Pt.slots] at X4 l4 y4 z4 st4 hQ4
  subst l4 y4 z4
  obtain ⟨rfl, Nq4, eh4⟩ := hQ4
  have N4 := Fr.app N0 Nq4
  refine own_by (fun _ k => st4 _ k) ?_
  replace eh4 : T4.heap = h0 := eh4
  show own_Fin p e below s _ _ _ T4 (mkF m 4 #[.val (.int p1)] [(.int (own_iso p1))])
  by_cases hc4_5 : (own_iso p1) = (0 : Int32)
  · show own_Fin p e below s _ _ _ T4 (mkF m 4 #[.val (.int p1)] [(.int (own_iso p1))])
    refine own_by (fun _ k => XS.ifNo X4.here hx rfl (hb hby d1_4) rfl ((if0 _ _).trans (teq hc4_5).2) k) ?_
    show own_Fin p e below s _ _ _ T4 (mkF m 7 #[.val (.int p1)] [])
    refine own_by (fun _ k => XS.iloadN X4.here hx rfl (hb hby d1_7) rfl (XS.sipush X4.here hx rfl (hb hby d1_8) k)) ?_
    show own_Fin p e below s _ _ _ T4 (mkF m 11 #[.val (.int p1)] [(.int (8232 : Int32)), (.int p1)])
    by_cases hc11_6 : p1 = (8232 : Int32)
    · show own_Fin p e below s _ _ _ T4 (mkF m 11 #[.val (.int p1)] [(.int (8232 : Int32)), (.int p1)])
      refine own_by (fun _ k => XS.icmpYes X4.here hx rfl (pc0 := 11) (pc' := 21) rfl (hb hby d1_11) rfl (teq hc11_6).1 (by decide) (by decide) k) ?_
      show own_Fin p e below s _ _ _ T4 (mkF m 21 #[.val (.int p1)] [])
      refine own_by (fun _ k => XS.iconst X4.here hx rfl (hb hby d1_21) (XS.goto X4.here hx rfl (pc0 := 22) (pc' := 26) rfl (hb hby d1_22) (by decide) (by decide) k)) ?_
      show own_Fin p e below s _ _ _ T4 (mkF m 26 #[.val (.int p1)] [(.int (1 : Int32))])
      exact own_retZ X4 hx hlk (t := .boolean) hret (by simp) (hb hby d1_26) ⟨own_vi (by show (1 : Int32) = _; first | (simp only [own_esc, hc4_5, hc11_6, if_true, if_false]; done) | (simp only [own_esc, hc4_5, hc11_6, if_true, if_false]; decide) | simp [own_esc, hc4_5, hc11_6]), N4, eh4⟩ (by decide) (by decide)
    · show own_Fin p e below s _ _ _ T4 (mkF m 11 #[.val (.int p1)] [(.int (8232 : Int32)), (.int p1)])
      refine own_by (fun _ k => XS.icmpNo X4.here hx rfl (hb hby d1_11) rfl (feq hc11_6).1 k) ?_
      show own_Fin p e below s _ _ _ T4 (mkF m 14 #[.val (.int p1)] [])
      refine own_by (fun _ k => XS.iloadN X4.here hx rfl (hb hby d1_14) rfl (XS.sipush X4.here hx rfl (hb hby d1_15) k)) ?_
      show own_Fin p e below s _ _ _ T4 (mkF m 18 #[.val (.int p1)] [(.int (8233 : Int32)), (.int p1)])
      by_cases hc18_7 : p1 = (8233 : Int32)
      · show own_Fin p e below s _ _ _ T4 (mkF m 18 #[.val (.int p1)] [(.int (8233 : Int32)), (.int p1)])
        refine own_by (fun _ k => XS.icmpNo X4.here hx rfl (hb hby d1_18) rfl (teq hc18_7).2 k) ?_
        show own_Fin p e below s _ _ _ T4 (mkF m 21 #[.val (.int p1)] [])
        refine own_by (fun _ k => XS.iconst X4.here hx rfl (hb hby d1_21) (XS.goto X4.here hx rfl (pc0 := 22) (pc' := 26) rfl (hb hby d1_22) (by decide) (by decide) k)) ?_
        show own_Fin p e below s _ _ _ T4 (mkF m 26 #[.val (.int p1)] [(.int (1 : Int32))])
        exact own_retZ X4 hx hlk (t := .boolean) hret (by simp) (hb hby d1_26) ⟨own_vi (by show (1 : Int32) = _; first | (simp only [own_esc, hc4_5, hc11_6, hc18_7, if_true, if_false]; done) | (simp only [own_esc, hc4_5, hc11_6, hc18_7, if_true, if_false]; decide) | simp [own_esc, hc4_5, hc11_6, hc18_7]), N4, eh4⟩ (by decide) (by decide)
      · show own_Fin p e below s _ _ _ T4 (mkF m 18 #[.val (.int p1)] [(.int (8233 : Int32)), (.int p1)])
        refine own_by (fun _ k => XS.icmpYes X4.here hx rfl (pc0 := 18) (pc' := 25) rfl (hb hby d1_18) rfl (feq hc18_7).2 (by decide) (by decide) k) ?_
        show own_Fin p e below s _ _ _ T4 (mkF m 25 #[.val (.int p1)] [])
        refine own_by (fun _ k => XS.iconst X4.here hx rfl (hb hby d1_25) k) ?_
        show own_Fin p e below s _ _ _ T4 (mkF m 26 #[.val (.int p1)] [(.int (0 : Int32))])
        exact own_retZ X4 hx hlk (t := .boolean) hret (by simp) (hb hby d1_26) ⟨own_vi (by show (0 : Int32) = _; first | (simp only [own_esc, hc4_5, hc11_6, hc18_7, if_true, if_false]; done) | (simp only [own_esc, hc4_5, hc11_6, hc18_7, if_true, if_false]; decide) | simp [own_esc, hc4_5, hc11_6, hc18_7]), N4, eh4⟩ (by decide) (by decide)
  · show own_Fin p e below s _ _ _ T4 (mkF m 4 #[.val (.int p1)] [(.int (own_iso p1))])
    refine own_by (fun _ k => XS.ifYes X4.here hx rfl (pc0 := 4) (pc' := 21) rfl (hb hby d1_4) rfl ((if0 _ _).trans (feq hc4_5).2) (by decide) (by decide) k) ?_
    show own_Fin p e below s _ _ _ T4 (mkF m 21 #[.val (.int p1)] [])
    refine own_by (fun _ k => XS.iconst X4.here hx rfl (hb hby d1_21) (XS.goto X4.here hx rfl (pc0 := 22) (pc' := 26) rfl (hb hby d1_22) (by decide) (by decide) k)) ?_
    show own_Fin p e below s _ _ _ T4 (mkF m 26 #[.val (.int p1)] [(.int (1 : Int32))])
    exact own_retZ X4 hx hlk (t := .boolean) hret (by simp) (hb hby d1_26) ⟨own_vi (by show (1 : Int32) = _; first | (simp only [own_esc, hc4_5, if_true, if_false]; done) | (simp only [own_esc, hc4_5, if_true, if_false]; decide) | simp [own_esc, hc4_5]), N4, eh4⟩ (by decide) (by decide)
theorem own_pn33 : plainName "com/example/trustee/trustee/QuotedNeedsEscapePinLaw" = true := by first | (simp [plainName, overriddenIn]; done) | decide +kernel
theorem d3_0 : decode method_2_code 0 = .ok (.iload_n 0, 1) := by decide +kernel
theorem d3_1 : decode method_2_code 1 = .ok (.ifCond .lt 11, 3) := by decide +kernel
theorem d3_12 : decode method_2_code 12 = .ok (.iload_n 0, 1) := by decide +kernel
theorem d3_13 : decode method_2_code 13 = .ok (.bipush 127, 2) := by decide +kernel
theorem d3_15 : decode method_2_code 15 = .ok (.if_icmp .lt 12, 3) := by decide +kernel
theorem d3_27 : decode method_2_code 27 = .ok (.iload_n 0, 1) := by decide +kernel
theorem d3_28 : decode method_2_code 28 = .ok (.sipush 8232, 3) := by decide +kernel
theorem d3_31 : decode method_2_code 31 = .ok (.if_icmp .ne 5, 3) := by decide +kernel
theorem d3_34 : decode method_2_code 34 = .ok (.iconst 1, 1) := by decide +kernel
theorem d3_35 : decode method_2_code 35 = .ok (.ireturn, 1) := by decide +kernel
theorem d3_36 : decode method_2_code 36 = .ok (.iload_n 0, 1) := by decide +kernel
theorem d3_37 : decode method_2_code 37 = .ok (.sipush 8233, 3) := by decide +kernel
theorem d3_40 : decode method_2_code 40 = .ok (.if_icmp .ne 5, 3) := by decide +kernel
theorem d3_43 : decode method_2_code 43 = .ok (.iconst 1, 1) := by decide +kernel
theorem d3_44 : decode method_2_code 44 = .ok (.ireturn, 1) := by decide +kernel
theorem d3_45 : decode method_2_code 45 = .ok (.iconst 0, 1) := by decide +kernel
theorem d3_46 : decode method_2_code 46 = .ok (.ireturn, 1) := by decide +kernel
theorem d3_18 : decode method_2_code 18 = .ok (.iload_n 0, 1) := by decide +kernel
theorem d3_19 : decode method_2_code 19 = .ok (.sipush 159, 3) := by decide +kernel
theorem d3_22 : decode method_2_code 22 = .ok (.if_icmp .gt 5, 3) := by decide +kernel
theorem d3_25 : decode method_2_code 25 = .ok (.iconst 1, 1) := by decide +kernel
theorem d3_26 : decode method_2_code 26 = .ok (.ireturn, 1) := by decide +kernel
theorem d3_4 : decode method_2_code 4 = .ok (.iload_n 0, 1) := by decide +kernel
theorem d3_5 : decode method_2_code 5 = .ok (.bipush 31, 2) := by decide +kernel
theorem d3_7 : decode method_2_code 7 = .ok (.if_icmp .gt 5, 3) := by decide +kernel
theorem d3_10 : decode method_2_code 10 = .ok (.iconst 1, 1) := by decide +kernel
theorem d3_11 : decode method_2_code 11 = .ok (.ireturn, 1) := by decide +kernel
theorem ef_rm3 (m : MethodId) (x0 : Int32) : entryFrame m #[(.int x0)] 1 = mkF m 0 #[.val (.int x0)] [] := by first | (simp [entryFrame, mkF, argsToLocals, Value.category]; done) | rfl
def own_Q3 (p1 : Int32) (h0 : Heap) (n0 : Nat) (v : Option Value) (h : Heap) (L : List Loc) : Prop := v = some (.int (own_exp p1)) ∧ Fr n0 L ∧ h = h0
set_option maxRecDepth 65536 in
set_option maxHeartbeats 40000000 in
theorem rm3 (l : Launch) (Z : State) (a0 : Array Value) (hw : ∀ d ∈ tables_1, d.before a0 Z = true) (ws : List Jvm.Cond) (p1 : Int32) (h0 : Heap) (n0 : Nat) (Z0 : n0 ≤ h0.size)  : own_Met l Z (⟨"com/example/trustee/trustee/QuotedNeedsEscapePinLaw", "expected", "(I)Z"⟩ : MethodName) method_2_code 1 (some .boolean) ws (own_R 0 0 0 0) #[(.int p1)] h0 (own_Q3 p1 h0 n0) := by
  refine own_enter n0 own_pn33 (fun m => ef_rm3 m p1 ) (fun p e s m below meth c s₁ hx hby hlk hml hret hown hnm hZ X0 e0 N0 => ?_)
  show own_Fin p e below s _ _ _ s₁ (mkF m 0 #[.val (.int p1)] [])
  refine own_by (fun _ k => XS.iloadN X0.here hx rfl (hb hby d3_0) rfl k) ?_
  show own_Fin p e below s _ _ _ s₁ (mkF m 1 #[.val (.int p1)] [(.int p1)])
  by_cases hc1_8 : p1 < (0 : Int32)
  · show own_Fin p e below s _ _ _ s₁ (mkF m 1 #[.val (.int p1)] [(.int p1)])
    refine own_by (fun _ k => XS.ifYes X0.here hx rfl (pc0 := 1) (pc' := 12) rfl (hb hby d3_1) rfl ((if0 _ _).trans (tlt hc1_8).1) (by decide) (by decide) k) ?_
    show own_Fin p e below s _ _ _ s₁ (mkF m 12 #[.val (.int p1)] [])
    refine own_by (fun _ k => XS.iloadN X0.here hx rfl (hb hby d3_12) rfl (XS.bipush X0.here hx rfl (hb hby d3_13) k)) ?_
    show own_Fin p e below s _ _ _ s₁ (mkF m 15 #[.val (.int p1)] [(.int (127 : Int32)), (.int p1)])
    by_cases hc15_9 : p1 < (127 : Int32)
    · show own_Fin p e below s _ _ _ s₁ (mkF m 15 #[.val (.int p1)] [(.int (127 : Int32)), (.int p1)])
      refine own_by (fun _ k => XS.icmpYes X0.here hx rfl (pc0 := 15) (pc' := 27) rfl (hb hby d3_15) rfl (tlt hc15_9).1 (by decide) (by decide) k) ?_
      show own_Fin p e below s _ _ _ s₁ (mkF m 27 #[.val (.int p1)] [])
      refine own_by (fun _ k => XS.iloadN X0.here hx rfl (hb hby d3_27) rfl (XS.sipush X0.here hx rfl (hb hby d3_28) k)) ?_
      show own_Fin p e below s _ _ _ s₁ (mkF m 31 #[.val (.int p1)] [(.int (8232 : Int32)), (.int p1)])
      by_cases hc31_10 : p1 = (8232 : Int32)
      · show own_Fin p e below s _ _ _ s₁ (mkF m 31 #[.val (.int p1)] [(.int (8232 : Int32)), (.int p1)])
        refine own_by (fun _ k => XS.icmpNo X0.here hx rfl (hb hby d3_31) rfl (teq hc31_10).2 k) ?_
        show own_Fin p e below s _ _ _ s₁ (mkF m 34 #[.val (.int p1)] [])
        refine own_by (fun _ k => XS.iconst X0.here hx rfl (hb hby d3_34) k) ?_
        show own_Fin p e below s _ _ _ s₁ (mkF m 35 #[.val (.int p1)] [(.int (1 : Int32))])
        exact own_retZ X0 hx hlk (t := .boolean) hret (by simp) (hb hby d3_35) ⟨own_vi (by show (1 : Int32) = _; first | (simp only [own_exp, own_exp2, own_exp3, hc1_8, hc15_9, hc31_10, if_true, if_false]; done) | (simp only [own_exp, own_exp2, own_exp3, hc1_8, hc15_9, hc31_10, if_true, if_false]; decide) | simp [own_exp, own_exp2, own_exp3, hc1_8, hc15_9, hc31_10]), N0, e0⟩ (by decide) (by decide)
      · show own_Fin p e below s _ _ _ s₁ (mkF m 31 #[.val (.int p1)] [(.int (8232 : Int32)), (.int p1)])
        refine own_by (fun _ k => XS.icmpYes X0.here hx rfl (pc0 := 31) (pc' := 36) rfl (hb hby d3_31) rfl (feq hc31_10).2 (by decide) (by decide) k) ?_
        show own_Fin p e below s _ _ _ s₁ (mkF m 36 #[.val (.int p1)] [])
        refine own_by (fun _ k => XS.iloadN X0.here hx rfl (hb hby d3_36) rfl (XS.sipush X0.here hx rfl (hb hby d3_37) k)) ?_
        show own_Fin p e below s _ _ _ s₁ (mkF m 40 #[.val (.int p1)] [(.int (8233 : Int32)), (.int p1)])
        by_cases hc40_11 : p1 = (8233 : Int32)
        · show own_Fin p e below s _ _ _ s₁ (mkF m 40 #[.val (.int p1)] [(.int (8233 : Int32)), (.int p1)])
          refine own_by (fun _ k => XS.icmpNo X0.here hx rfl (hb hby d3_40) rfl (teq hc40_11).2 k) ?_
          show own_Fin p e below s _ _ _ s₁ (mkF m 43 #[.val (.int p1)] [])
          refine own_by (fun _ k => XS.iconst X0.here hx rfl (hb hby d3_43) k) ?_
          show own_Fin p e below s _ _ _ s₁ (mkF m 44 #[.val (.int p1)] [(.int (1 : Int32))])
          exact own_retZ X0 hx hlk (t := .boolean) hret (by simp) (hb hby d3_44) ⟨own_vi (by show (1 : Int32) = _; first | (simp only [own_exp, own_exp2, own_exp3, hc1_8, hc15_9, hc31_10, hc40_11, if_true, if_false]; done) | (simp only [own_exp, own_exp2, own_exp3, hc1_8, hc15_9, hc31_10, hc40_11, if_true, if_false]; decide) | simp [own_exp, own_exp2, own_exp3, hc1_8, hc15_9, hc31_10, hc40_11]), N0, e0⟩ (by decide) (by decide)
        · show own_Fin p e below s _ _ _ s₁ (mkF m 40 #[.val (.int p1)] [(.int (8233 : Int32)), (.int p1)])
          refine own_by (fun _ k => XS.icmpYes X0.here hx rfl (pc0 := 40) (pc' := 45) rfl (hb hby d3_40) rfl (feq hc40_11).2 (by decide) (by decide) k) ?_
          show own_Fin p e below s _ _ _ s₁ (mkF m 45 #[.val (.int p1)] [])
          refine own_by (fun _ k => XS.iconst X0.here hx rfl (hb hby d3_45) k) ?_
          show own_Fin p e below s _ _ _ s₁ (mkF m 46 #[.val (.int p1)] [(.int (0 : Int32))])
          exact own_retZ X0 hx hlk (t := .boolean) hret (by simp) (hb hby d3_46) ⟨own_vi (by show (0 : Int32) = _; first | (simp only [own_exp, own_exp2, own_exp3, hc1_8, hc15_9, hc31_10, hc40_11, if_true, if_false]; done) | (simp only [own_exp, own_exp2, own_exp3, hc1_8, hc15_9, hc31_10, hc40_11, if_true, if_false]; decide) | simp [own_exp, own_exp2, own_exp3, hc1_8, hc15_9, hc31_10, hc40_11]), N0, e0⟩ (by decide) (by decide)
    · show own_Fin p e below s _ _ _ s₁ (mkF m 15 #[.val (.int p1)] [(.int (127 : Int32)), (.int p1)])
      refine own_by (fun _ k => XS.icmpNo X0.here hx rfl (hb hby d3_15) rfl (flt hc15_9).1 k) ?_
      show own_Fin p e below s _ _ _ s₁ (mkF m 18 #[.val (.int p1)] [])
      refine own_by (fun _ k => XS.iloadN X0.here hx rfl (hb hby d3_18) rfl (XS.sipush X0.here hx rfl (hb hby d3_19) k)) ?_
      show own_Fin p e below s _ _ _ s₁ (mkF m 22 #[.val (.int p1)] [(.int (159 : Int32)), (.int p1)])
      by_cases hc22_12 : (159 : Int32) < p1
      · show own_Fin p e below s _ _ _ s₁ (mkF m 22 #[.val (.int p1)] [(.int (159 : Int32)), (.int p1)])
        refine own_by (fun _ k => XS.icmpYes X0.here hx rfl (pc0 := 22) (pc' := 27) rfl (hb hby d3_22) rfl (tlt hc22_12).2.2.1 (by decide) (by decide) k) ?_
        show own_Fin p e below s _ _ _ s₁ (mkF m 27 #[.val (.int p1)] [])
        refine own_by (fun _ k => XS.iloadN X0.here hx rfl (hb hby d3_27) rfl (XS.sipush X0.here hx rfl (hb hby d3_28) k)) ?_
        show own_Fin p e below s _ _ _ s₁ (mkF m 31 #[.val (.int p1)] [(.int (8232 : Int32)), (.int p1)])
        by_cases hc31_13 : p1 = (8232 : Int32)
        · show own_Fin p e below s _ _ _ s₁ (mkF m 31 #[.val (.int p1)] [(.int (8232 : Int32)), (.int p1)])
          refine own_by (fun _ k => XS.icmpNo X0.here hx rfl (hb hby d3_31) rfl (teq hc31_13).2 k) ?_
          show own_Fin p e below s _ _ _ s₁ (mkF m 34 #[.val (.int p1)] [])
          refine own_by (fun _ k => XS.iconst X0.here hx rfl (hb hby d3_34) k) ?_
          show own_Fin p e below s _ _ _ s₁ (mkF m 35 #[.val (.int p1)] [(.int (1 : Int32))])
          exact own_retZ X0 hx hlk (t := .boolean) hret (by simp) (hb hby d3_35) ⟨own_vi (by show (1 : Int32) = _; first | (simp only [own_exp, own_exp2, own_exp3, hc1_8, hc15_9, hc22_12, hc31_13, if_true, if_false]; done) | (simp only [own_exp, own_exp2, own_exp3, hc1_8, hc15_9, hc22_12, hc31_13, if_true, if_false]; decide) | simp [own_exp, own_exp2, own_exp3, hc1_8, hc15_9, hc22_12, hc31_13]), N0, e0⟩ (by decide) (by decide)
        · show own_Fin p e below s _ _ _ s₁ (mkF m 31 #[.val (.int p1)] [(.int (8232 : Int32)), (.int p1)])
          refine own_by (fun _ k => XS.icmpYes X0.here hx rfl (pc0 := 31) (pc' := 36) rfl (hb hby d3_31) rfl (feq hc31_13).2 (by decide) (by decide) k) ?_
          show own_Fin p e below s _ _ _ s₁ (mkF m 36 #[.val (.int p1)] [])
          refine own_by (fun _ k => XS.iloadN X0.here hx rfl (hb hby d3_36) rfl (XS.sipush X0.here hx rfl (hb hby d3_37) k)) ?_
          show own_Fin p e below s _ _ _ s₁ (mkF m 40 #[.val (.int p1)] [(.int (8233 : Int32)), (.int p1)])
          by_cases hc40_14 : p1 = (8233 : Int32)
          · show own_Fin p e below s _ _ _ s₁ (mkF m 40 #[.val (.int p1)] [(.int (8233 : Int32)), (.int p1)])
            refine own_by (fun _ k => XS.icmpNo X0.here hx rfl (hb hby d3_40) rfl (teq hc40_14).2 k) ?_
            show own_Fin p e below s _ _ _ s₁ (mkF m 43 #[.val (.int p1)] [])
            refine own_by (fun _ k => XS.iconst X0.here hx rfl (hb hby d3_43) k) ?_
            show own_Fin p e below s _ _ _ s₁ (mkF m 44 #[.val (.int p1)] [(.int (1 : Int32))])
            exact own_retZ X0 hx hlk (t := .boolean) hret (by simp) (hb hby d3_44) ⟨own_vi (by show (1 : Int32) = _; first | (simp only [own_exp, own_exp2, own_exp3, hc1_8, hc15_9, hc22_12, hc31_13, hc40_14, if_true, if_false]; done) | (simp only [own_exp, own_exp2, own_exp3, hc1_8, hc15_9, hc22_12, hc31_13, hc40_14, if_true, if_false]; decide) | simp [own_exp, own_exp2, own_exp3, hc1_8, hc15_9, hc22_12, hc31_13, hc40_14]), N0, e0⟩ (by decide) (by decide)
          · show own_Fin p e below s _ _ _ s₁ (mkF m 40 #[.val (.int p1)] [(.int (8233 : Int32)), (.int p1)])
            refine own_by (fun _ k => XS.icmpYes X0.here hx rfl (pc0 := 40) (pc' := 45) rfl (hb hby d3_40) rfl (feq hc40_14).2 (by decide) (by decide) k) ?_
            show own_Fin p e below s _ _ _ s₁ (mkF m 45 #[.val (.int p1)] [])
            refine own_by (fun _ k => XS.iconst X0.here hx rfl (hb hby d3_45) k) ?_
            show own_Fin p e below s _ _ _ s₁ (mkF m 46 #[.val (.int p1)] [(.int (0 : Int32))])
            exact own_retZ X0 hx hlk (t := .boolean) hret (by simp) (hb hby d3_46) ⟨own_vi (by show (0 : Int32) = _; first | (simp only [own_exp, own_exp2, own_exp3, hc1_8, hc15_9, hc22_12, hc31_13, hc40_14, if_true, if_false]; done) | (simp only [own_exp, own_exp2, own_exp3, hc1_8, hc15_9, hc22_12, hc31_13, hc40_14, if_true, if_false]; decide) | simp [own_exp, own_exp2, own_exp3, hc1_8, hc15_9, hc22_12, hc31_13, hc40_14]), N0, e0⟩ (by decide) (by decide)
      · show own_Fin p e below s _ _ _ s₁ (mkF m 22 #[.val (.int p1)] [(.int (159 : Int32)), (.int p1)])
        refine own_by (fun _ k => XS.icmpNo X0.here hx rfl (hb hby d3_22) rfl (flt hc22_12).2.2.1 k) ?_
        show own_Fin p e below s _ _ _ s₁ (mkF m 25 #[.val (.int p1)] [])
        refine own_by (fun _ k => XS.iconst X0.here hx rfl (hb hby d3_25) k) ?_
        show own_Fin p e below s _ _ _ s₁ (mkF m 26 #[.val (.int p1)] [(.int (1 : Int32))])
        exact own_retZ X0 hx hlk (t := .boolean) hret (by simp) (hb hby d3_26) ⟨own_vi (by show (1 : Int32) = _; first | (simp only [own_exp, own_exp2, own_exp3, hc1_8, hc15_9, hc22_12, if_true, if_false]; done) | (simp only [own_exp, own_exp2, own_exp3, hc1_8, hc15_9, hc22_12, if_true, if_false]; decide) | simp [own_exp, own_exp2, own_exp3, hc1_8, hc15_9, hc22_12]), N0, e0⟩ (by decide) (by decide)
  · show own_Fin p e below s _ _ _ s₁ (mkF m 1 #[.val (.int p1)] [(.int p1)])
    refine own_by (fun _ k => XS.ifNo X0.here hx rfl (hb hby d3_1) rfl ((if0 _ _).trans (flt hc1_8).1) k) ?_
    show own_Fin p e below s _ _ _ s₁ (mkF m 4 #[.val (.int p1)] [])
    refine own_by (fun _ k => XS.iloadN X0.here hx rfl (hb hby d3_4) rfl (XS.bipush X0.here hx rfl (hb hby d3_5) k)) ?_
    show own_Fin p e below s _ _ _ s₁ (mkF m 7 #[.val (.int p1)] [(.int (31 : Int32)), (.int p1)])
    by_cases hc7_15 : (31 : Int32) < p1
    · show own_Fin p e below s _ _ _ s₁ (mkF m 7 #[.val (.int p1)] [(.int (31 : Int32)), (.int p1)])
      refine own_by (fun _ k => XS.icmpYes X0.here hx rfl (pc0 := 7) (pc' := 12) rfl (hb hby d3_7) rfl (tlt hc7_15).2.2.1 (by decide) (by decide) k) ?_
      show own_Fin p e below s _ _ _ s₁ (mkF m 12 #[.val (.int p1)] [])
      refine own_by (fun _ k => XS.iloadN X0.here hx rfl (hb hby d3_12) rfl (XS.bipush X0.here hx rfl (hb hby d3_13) k)) ?_
      show own_Fin p e below s _ _ _ s₁ (mkF m 15 #[.val (.int p1)] [(.int (127 : Int32)), (.int p1)])
      by_cases hc15_16 : p1 < (127 : Int32)
      · show own_Fin p e below s _ _ _ s₁ (mkF m 15 #[.val (.int p1)] [(.int (127 : Int32)), (.int p1)])
        refine own_by (fun _ k => XS.icmpYes X0.here hx rfl (pc0 := 15) (pc' := 27) rfl (hb hby d3_15) rfl (tlt hc15_16).1 (by decide) (by decide) k) ?_
        show own_Fin p e below s _ _ _ s₁ (mkF m 27 #[.val (.int p1)] [])
        refine own_by (fun _ k => XS.iloadN X0.here hx rfl (hb hby d3_27) rfl (XS.sipush X0.here hx rfl (hb hby d3_28) k)) ?_
        show own_Fin p e below s _ _ _ s₁ (mkF m 31 #[.val (.int p1)] [(.int (8232 : Int32)), (.int p1)])
        by_cases hc31_17 : p1 = (8232 : Int32)
        · show own_Fin p e below s _ _ _ s₁ (mkF m 31 #[.val (.int p1)] [(.int (8232 : Int32)), (.int p1)])
          refine own_by (fun _ k => XS.icmpNo X0.here hx rfl (hb hby d3_31) rfl (teq hc31_17).2 k) ?_
          show own_Fin p e below s _ _ _ s₁ (mkF m 34 #[.val (.int p1)] [])
          refine own_by (fun _ k => XS.iconst X0.here hx rfl (hb hby d3_34) k) ?_
          show own_Fin p e below s _ _ _ s₁ (mkF m 35 #[.val (.int p1)] [(.int (1 : Int32))])
          exact own_retZ X0 hx hlk (t := .boolean) hret (by simp) (hb hby d3_35) ⟨own_vi (by show (1 : Int32) = _; first | (simp only [own_exp, own_exp2, own_exp3, hc1_8, hc7_15, hc15_16, hc31_17, if_true, if_false]; done) | (simp only [own_exp, own_exp2, own_exp3, hc1_8, hc7_15, hc15_16, hc31_17, if_true, if_false]; decide) | simp [own_exp, own_exp2, own_exp3, hc1_8, hc7_15, hc15_16, hc31_17]), N0, e0⟩ (by decide) (by decide)
        · show own_Fin p e below s _ _ _ s₁ (mkF m 31 #[.val (.int p1)] [(.int (8232 : Int32)), (.int p1)])
          refine own_by (fun _ k => XS.icmpYes X0.here hx rfl (pc0 := 31) (pc' := 36) rfl (hb hby d3_31) rfl (feq hc31_17).2 (by decide) (by decide) k) ?_
          show own_Fin p e below s _ _ _ s₁ (mkF m 36 #[.val (.int p1)] [])
          refine own_by (fun _ k => XS.iloadN X0.here hx rfl (hb hby d3_36) rfl (XS.sipush X0.here hx rfl (hb hby d3_37) k)) ?_
          show own_Fin p e below s _ _ _ s₁ (mkF m 40 #[.val (.int p1)] [(.int (8233 : Int32)), (.int p1)])
          by_cases hc40_18 : p1 = (8233 : Int32)
          · show own_Fin p e below s _ _ _ s₁ (mkF m 40 #[.val (.int p1)] [(.int (8233 : Int32)), (.int p1)])
            refine own_by (fun _ k => XS.icmpNo X0.here hx rfl (hb hby d3_40) rfl (teq hc40_18).2 k) ?_
            show own_Fin p e below s _ _ _ s₁ (mkF m 43 #[.val (.int p1)] [])
            refine own_by (fun _ k => XS.iconst X0.here hx rfl (hb hby d3_43) k) ?_
            show own_Fin p e below s _ _ _ s₁ (mkF m 44 #[.val (.int p1)] [(.int (1 : Int32))])
            exact own_retZ X0 hx hlk (t := .boolean) hret (by simp) (hb hby d3_44) ⟨own_vi (by show (1 : Int32) = _; first | (simp only [own_exp, own_exp2, own_exp3, hc1_8, hc7_15, hc15_16, hc31_17, hc40_18, if_true, if_false]; done) | (simp only [own_exp, own_exp2, own_exp3, hc1_8, hc7_15, hc15_16, hc31_17, hc40_18, if_true, if_false]; decide) | simp [own_exp, own_exp2, own_exp3, hc1_8, hc7_15, hc15_16, hc31_17, hc40_18]), N0, e0⟩ (by decide) (by decide)
          · show own_Fin p e below s _ _ _ s₁ (mkF m 40 #[.val (.int p1)] [(.int (8233 : Int32)), (.int p1)])
            refine own_by (fun _ k => XS.icmpYes X0.here hx rfl (pc0 := 40) (pc' := 45) rfl (hb hby d3_40) rfl (feq hc40_18).2 (by decide) (by decide) k) ?_
            show own_Fin p e below s _ _ _ s₁ (mkF m 45 #[.val (.int p1)] [])
            refine own_by (fun _ k => XS.iconst X0.here hx rfl (hb hby d3_45) k) ?_
            show own_Fin p e below s _ _ _ s₁ (mkF m 46 #[.val (.int p1)] [(.int (0 : Int32))])
            exact own_retZ X0 hx hlk (t := .boolean) hret (by simp) (hb hby d3_46) ⟨own_vi (by show (0 : Int32) = _; first | (simp only [own_exp, own_exp2, own_exp3, hc1_8, hc7_15, hc15_16, hc31_17, hc40_18, if_true, if_false]; done) | (simp only [own_exp, own_exp2, own_exp3, hc1_8, hc7_15, hc15_16, hc31_17, hc40_18, if_true, if_false]; decide) | simp [own_exp, own_exp2, own_exp3, hc1_8, hc7_15, hc15_16, hc31_17, hc40_18]), N0, e0⟩ (by decide) (by decide)
      · show own_Fin p e below s _ _ _ s₁ (mkF m 15 #[.val (.int p1)] [(.int (127 : Int32)), (.int p1)])
        refine own_by (fun _ k => XS.icmpNo X0.here hx rfl (hb hby d3_15) rfl (flt hc15_16).1 k) ?_
        show own_Fin p e below s _ _ _ s₁ (mkF m 18 #[.val (.int p1)] [])
        refine own_by (fun _ k => XS.iloadN X0.here hx rfl (hb hby d3_18) rfl (XS.sipush X0.here hx rfl (hb hby d3_19) k)) ?_
        show own_Fin p e below s _ _ _ s₁ (mkF m 22 #[.val (.int p1)] [(.int (159 : Int32)), (.int p1)])
        by_cases hc22_19 : (159 : Int32) < p1
        · show own_Fin p e below s _ _ _ s₁ (mkF m 22 #[.val (.int p1)] [(.int (159 : Int32)), (.int p1)])
          refine own_by (fun _ k => XS.icmpYes X0.here hx rfl (pc0 := 22) (pc' := 27) rfl (hb hby d3_22) rfl (tlt hc22_19).2.2.1 (by decide) (by decide) k) ?_
          show own_Fin p e below s _ _ _ s₁ (mkF m 27 #[.val (.int p1)] [])
          refine own_by (fun _ k => XS.iloadN X0.here hx rfl (hb hby d3_27) rfl (XS.sipush X0.here hx rfl (hb hby d3_28) k)) ?_
          show own_Fin p e below s _ _ _ s₁ (mkF m 31 #[.val (.int p1)] [(.int (8232 : Int32)), (.int p1)])
          by_cases hc31_20 : p1 = (8232 : Int32)
          · show own_Fin p e below s _ _ _ s₁ (mkF m 31 #[.val (.int p1)] [(.int (8232 : Int32)), (.int p1)])
            refine own_by (fun _ k => XS.icmpNo X0.here hx rfl (hb hby d3_31) rfl (teq hc31_20).2 k) ?_
            show own_Fin p e below s _ _ _ s₁ (mkF m 34 #[.val (.int p1)] [])
            refine own_by (fun _ k => XS.iconst X0.here hx rfl (hb hby d3_34) k) ?_
            show own_Fin p e below s _ _ _ s₁ (mkF m 35 #[.val (.int p1)] [(.int (1 : Int32))])
            exact own_retZ X0 hx hlk (t := .boolean) hret (by simp) (hb hby d3_35) ⟨own_vi (by show (1 : Int32) = _; first | (simp only [own_exp, own_exp2, own_exp3, hc1_8, hc7_15, hc15_16, hc22_19, hc31_20, if_true, if_false]; done) | (simp only [own_exp, own_exp2, own_exp3, hc1_8, hc7_15, hc15_16, hc22_19, hc31_20, if_true, if_false]; decide) | simp [own_exp, own_exp2, own_exp3, hc1_8, hc7_15, hc15_16, hc22_19, hc31_20]), N0, e0⟩ (by decide) (by decide)
          · show own_Fin p e below s _ _ _ s₁ (mkF m 31 #[.val (.int p1)] [(.int (8232 : Int32)), (.int p1)])
            refine own_by (fun _ k => XS.icmpYes X0.here hx rfl (pc0 := 31) (pc' := 36) rfl (hb hby d3_31) rfl (feq hc31_20).2 (by decide) (by decide) k) ?_
            show own_Fin p e below s _ _ _ s₁ (mkF m 36 #[.val (.int p1)] [])
            refine own_by (fun _ k => XS.iloadN X0.here hx rfl (hb hby d3_36) rfl (XS.sipush X0.here hx rfl (hb hby d3_37) k)) ?_
            show own_Fin p e below s _ _ _ s₁ (mkF m 40 #[.val (.int p1)] [(.int (8233 : Int32)), (.int p1)])
            by_cases hc40_21 : p1 = (8233 : Int32)
            · show own_Fin p e below s _ _ _ s₁ (mkF m 40 #[.val (.int p1)] [(.int (8233 : Int32)), (.int p1)])
              refine own_by (fun _ k => XS.icmpNo X0.here hx rfl (hb hby d3_40) rfl (teq hc40_21).2 k) ?_
              show own_Fin p e below s _ _ _ s₁ (mkF m 43 #[.val (.int p1)] [])
              refine own_by (fun _ k => XS.iconst X0.here hx rfl (hb hby d3_43) k) ?_
              show own_Fin p e below s _ _ _ s₁ (mkF m 44 #[.val (.int p1)] [(.int (1 : Int32))])
              exact own_retZ X0 hx hlk (t := .boolean) hret (by simp) (hb hby d3_44) ⟨own_vi (by show (1 : Int32) = _; first | (simp only [own_exp, own_exp2, own_exp3, hc1_8, hc7_15, hc15_16, hc22_19, hc31_20, hc40_21, if_true, if_false]; done) | (simp only [own_exp, own_exp2, own_exp3, hc1_8, hc7_15, hc15_16, hc22_19, hc31_20, hc40_21, if_true, if_false]; decide) | simp [own_exp, own_exp2, own_exp3, hc1_8, hc7_15, hc15_16, hc22_19, hc31_20, hc40_21]), N0, e0⟩ (by decide) (by decide)
            · show own_Fin p e below s _ _ _ s₁ (mkF m 40 #[.val (.int p1)] [(.int (8233 : Int32)), (.int p1)])
              refine own_by (fun _ k => XS.icmpYes X0.here hx rfl (pc0 := 40) (pc' := 45) rfl (hb hby d3_40) rfl (feq hc40_21).2 (by decide) (by decide) k) ?_
              show own_Fin p e below s _ _ _ s₁ (mkF m 45 #[.val (.int p1)] [])
              refine own_by (fun _ k => XS.iconst X0.here hx rfl (hb hby d3_45) k) ?_
              show own_Fin p e below s _ _ _ s₁ (mkF m 46 #[.val (.int p1)] [(.int (0 : Int32))])
              exact own_retZ X0 hx hlk (t := .boolean) hret (by simp) (hb hby d3_46) ⟨own_vi (by show (0 : Int32) = _; first | (simp only [own_exp, own_exp2, own_exp3, hc1_8, hc7_15, hc15_16, hc22_19, hc31_20, hc40_21, if_true, if_false]; done) | (simp only [own_exp, own_exp2, own_exp3, hc1_8, hc7_15, hc15_16, hc22_19, hc31_20, hc40_21, if_true, if_false]; decide) | simp [own_exp, own_exp2, own_exp3, hc1_8, hc7_15, hc15_16, hc22_19, hc31_20, hc40_21]), N0, e0⟩ (by decide) (by decide)
        · show own_Fin p e below s _ _ _ s₁ (mkF m 22 #[.val (.int p1)] [(.int (159 : Int32)), (.int p1)])
          refine own_by (fun _ k => XS.icmpNo X0.here hx rfl (hb hby d3_22) rfl (flt hc22_19).2.2.1 k) ?_
          show own_Fin p e below s _ _ _ s₁ (mkF m 25 #[.val (.int p1)] [])
          refine own_by (fun _ k => XS.iconst X0.here hx rfl (hb hby d3_25) k) ?_
          show own_Fin p e below s _ _ _ s₁ (mkF m 26 #[.val (.int p1)] [(.int (1 : Int32))])
          exact own_retZ X0 hx hlk (t := .boolean) hret (by simp) (hb hby d3_26) ⟨own_vi (by show (1 : Int32) = _; first | (simp only [own_exp, own_exp2, own_exp3, hc1_8, hc7_15, hc15_16, hc22_19, if_true, if_false]; done) | (simp only [own_exp, own_exp2, own_exp3, hc1_8, hc7_15, hc15_16, hc22_19, if_true, if_false]; decide) | simp [own_exp, own_exp2, own_exp3, hc1_8, hc7_15, hc15_16, hc22_19]), N0, e0⟩ (by decide) (by decide)
    · show own_Fin p e below s _ _ _ s₁ (mkF m 7 #[.val (.int p1)] [(.int (31 : Int32)), (.int p1)])
      refine own_by (fun _ k => XS.icmpNo X0.here hx rfl (hb hby d3_7) rfl (flt hc7_15).2.2.1 k) ?_
      show own_Fin p e below s _ _ _ s₁ (mkF m 10 #[.val (.int p1)] [])
      refine own_by (fun _ k => XS.iconst X0.here hx rfl (hb hby d3_10) k) ?_
      show own_Fin p e below s _ _ _ s₁ (mkF m 11 #[.val (.int p1)] [(.int (1 : Int32))])
      exact own_retZ X0 hx hlk (t := .boolean) hret (by simp) (hb hby d3_11) ⟨own_vi (by show (1 : Int32) = _; first | (simp only [own_exp, own_exp2, own_exp3, hc1_8, hc7_15, if_true, if_false]; done) | (simp only [own_exp, own_exp2, own_exp3, hc1_8, hc7_15, if_true, if_false]; decide) | simp [own_exp, own_exp2, own_exp3, hc1_8, hc7_15]), N0, e0⟩ (by decide) (by decide)
theorem ef_rm0 (m : MethodId) (x0 : Int32) (x1 : Int32) : entryFrame m #[(.int x0), (.int x1)] maxLocals = mkF m 0 #[.val (.int x0), .val (.int x1), .unset, .unset] [] := by first | (simp [entryFrame, mkF, argsToLocals, Value.category, maxLocals]; done) | rfl
def own_Q0 (n0 : Nat) (v : Option Value) (h : Heap) (L : List Loc) : Prop := v = some (.int (1 : Int32)) ∧ Fr n0 L
set_option maxRecDepth 65536 in
set_option maxHeartbeats 40000000 in
theorem rm0 (l : Launch) (Z : State) (a0 : Array Value) (hw : ∀ d ∈ tables_1, d.before a0 Z = true) (ws : List Jvm.Cond) (p1 p2 : Int32) (h0 : Heap) (n0 : Nat) (Z0 : n0 ≤ h0.size)  :
    MetFree l x (head1 (Jvm.Cond.code x code maxLocals ret :: ws) room_1) (fun a U => a = #[(.int p1), (.int p2)] ∧ Z.Warmed39 U.vm ∧ U.heap = h0) (fun _ _ _ _ _ => True) (fun _ U o U' => ∃ v L, o = .returned v ∧ own_Q0 n0 v U'.heap L ∧ FrameEnd U o U' L room_1.cells room_1.slots) := by
  refine MetFree.of_bodySF (plainFor_of_name own_pn33) hisR ?_
  intro p e s m args below meth c s₁ Bd hml0 hP hK
  obtain ⟨rfl, hZ, hh⟩ := hP
  have hx := Bd.exec
  have hby := Bd.bytes
  have hlk := Bd.notSynchronized
  have hml : c.maxLocals = 4 := hml0
  have hown : s.vm.findClass "com/example/trustee/trustee/QuotedNeedsEscapePinLaw" = some m.cls := findClass_of_methodNamed Bd.named
  have hnm := (name_of_methodNamed Bd.named Bd.method).1
  have X0 : Stand p l e room_1 s m #[(.int p1), (.int p2)] below meth c s₁ [] 0 0 := Stand.of_body Bd
  have e0 : s₁.heap = h0 := by rw [← hh, Bd.state]; rfl
  have N0 := Fr.nil n0
  refine own_start (Q := own_Q0 n0) (C := room_1.cells) (N := room_1.slots) (ef_rm0 m p1 p2 ) ?_
  show own_Fin p e below s _ _ _ s₁ (mkF m 0 #[.val (.int p1), .val (.int p2), .unset, .unset] [])
  refine own_by (fun _ k => XS.iloadN X0.here hx rfl (hb hby at_0) rfl (XS.iconst X0.here hx rfl (hb hby at_1) (XS.iand X0.here hx rfl (hb hby at_2) rfl (XS.istoreN X0.here hx rfl (hb hby at_3) rfl (l' := #[.val (.int p1), .val (.int p2), .val (.int (p2 &&& (3 : Int32))), .unset]) rfl k)))) ?_
  show own_Fin p e below s _ _ _ s₁ (mkF m 4 #[.val (.int p1), .val (.int p2), .val (.int (p2 &&& (3 : Int32))), .unset] [])
  have J50_22 : ∀ (c3 : Int32) , own_Fin p e below s room_1.cells room_1.slots (own_Q0 n0) s₁ (mkF m 50 #[.val (.int p1), .val (.int p2), .val (.int (p2 &&& (3 : Int32))), .val (.int c3)] []) := by
    intro c3
    show own_Fin p e below s _ _ _ s₁ (mkF m 50 #[.val (.int p1), .val (.int p2), .val (.int (p2 &&& (3 : Int32))), .val (.int c3)] [])
    refine own_by (fun _ k => XS.iloadN X0.here hx rfl (hb hby at_50) rfl k) ?_
    show own_Fin p e below s _ _ _ s₁ (mkF m 51 #[.val (.int p1), .val (.int p2), .val (.int (p2 &&& (3 : Int32))), .val (.int c3)] [(.int c3)])
    obtain ⟨_, _, ⟨T23, L23, k23, n23⟩, -, X23, ⟨Lc23, hQ23, l23, y23, z23⟩, st23⟩ := Jvm.LawKit.callS X0 hx (y := (⟨"com/example/trustee/trustee/Quoted", "needsEscape", "(I)Z"⟩ : MethodName)) hown (mvT hZ (hw _ (List.mem_of_getElem? (i := 0) rfl))) (mvT hZ (hw _ (List.mem_of_getElem? (i := 1) rfl))) (mvT hZ (hw _ (List.mem_of_getElem? (i := 2) rfl))) (mvT hZ (hw _ (List.mem_of_getElem? (i := 3) rfl))) (by decide) (backOf (W := 0) (rm1 l Z a0 hw [] c3 h0 n0 Z0) hZ (hw _ (List.mem_of_getElem? (i := 3) rfl)) (hw _ (List.mem_of_getElem? (i := 2) rfl)) (by decide) (by decide)) (g := (mkF m 51 #[.val (.int p1), .val (.int p2), .val (.int (p2 &&& (3 : Int32))), .val (.int c3)] [(.int c3)])) rfl (by rw [hml]; rfl) (argsL := [(.int c3)]) (rest := []) (lenOf own_pd20 rfl) rfl (by show 2 * 0 + _ ≤ _; exact Nat.le_of_eq rfl) (hb hby at_51) (fun _ _ => ⟨rfl, e0, (by decide : 0 + 0 ≤ _), (by decide : 0 + 0 ≤ _)⟩)
    dsimp only [Pt.U, Pt.locs, Pt.cells, Pt.slots] at X23 l23 y23 z23 st23 hQ23
    subst l23 y23 z23
    obtain ⟨rfl, Nq23, eh23⟩ := hQ23
    have N23 := Fr.app N0 Nq23
    refine own_by (fun _ k => st23 _ k) ?_
    replace eh23 : T23.heap = h0 := eh23
    show own_Fin p e below s _ _ _ T23 (mkF m 54 #[.val (.int p1), .val (.int p2), .val (.int (p2 &&& (3 : Int32))), .val (.int c3)] [(.int (own_esc c3))])
    refine own_by (fun _ k => XS.iloadN X23.here hx rfl (hb hby at_54) rfl k) ?_
    show own_Fin p e below s _ _ _ T23 (mkF m 55 #[.val (.int p1), .val (.int p2), .val (.int (p2 &&& (3 : Int32))), .val (.int c3)] [(.int c3), (.int (own_esc c3))])
    obtain ⟨_, _, ⟨T24, L24, k24, n24⟩, -, X24, ⟨Lc24, hQ24, l24, y24, z24⟩, st24⟩ := Jvm.LawKit.callS X23 hx (y := (⟨"com/example/trustee/trustee/QuotedNeedsEscapePinLaw", "expected", "(I)Z"⟩ : MethodName)) hown (mvT hZ (hw _ (List.mem_of_getElem? (i := 8) rfl))) (mvT hZ (hw _ (List.mem_of_getElem? (i := 9) rfl))) (mvT hZ (hw _ (List.mem_of_getElem? (i := 10) rfl))) (mvT hZ (hw _ (List.mem_of_getElem? (i := 11) rfl))) (by decide) (backOf (W := 1) (rm3 l Z a0 hw [] c3 h0 n0 Z0) hZ (hw _ (List.mem_of_getElem? (i := 11) rfl)) (hw _ (List.mem_of_getElem? (i := 10) rfl)) (by decide) (by decide)) (g := (mkF m 55 #[.val (.int p1), .val (.int p2), .val (.int (p2 &&& (3 : Int32))), .val (.int c3)] [(.int c3), (.int (own_esc c3))])) rfl (by rw [hml]; rfl) (argsL := [(.int c3)]) (rest := [(.int (own_esc c3))]) (lenOf own_pd20 rfl) rfl (by show 2 * 0 + _ ≤ _; exact Nat.le_of_eq rfl) (hb hby at_55) (fun _ _ => ⟨rfl, eh23, (by decide : 0 + 0 ≤ _), (by decide : 0 + 0 ≤ _)⟩)
    dsimp only [Pt.U, Pt.locs, Pt.cells, Pt.slots] at X24 l24 y24 z24 st24 hQ24
    subst l24 y24 z24
    obtain ⟨rfl, Nq24, eh24⟩ := hQ24
    have N24 := Fr.app N23 Nq24
    refine own_by (fun _ k => st24 _ k) ?_
    replace eh24 : T24.heap = h0 := eh24
    show own_Fin p e below s _ _ _ T24 (mkF m 58 #[.val (.int p1), .val (.int p2), .val (.int (p2 &&& (3 : Int32))), .val (.int c3)] [(.int (own_exp c3)), (.int (own_esc c3))])
    refine own_by (fun _ k => XS.icmpNo X24.here hx rfl (hb hby at_58) rfl (teq (own_eq c3)).2 k) ?_
    show own_Fin p e below s _ _ _ T24 (mkF m 61 #[.val (.int p1), .val (.int p2), .val (.int (p2 &&& (3 : Int32))), .val (.int c3)] [])
    refine own_by (fun _ k => XS.iconst X24.here hx rfl (hb hby at_61) (XS.goto X24.here hx rfl (pc0 := 62) (pc' := 66) rfl (hb hby at_62) (by decide) (by decide) k)) ?_
    show own_Fin p e below s _ _ _ T24 (mkF m 66 #[.val (.int p1), .val (.int p2), .val (.int (p2 &&& (3 : Int32))), .val (.int c3)] [(.int (1 : Int32))])
    exact own_retZ X24 hx hlk (t := .boolean) Bd.returns (by simp) (hb hby at_66) ⟨rfl, N24⟩ (by decide) (by decide)
  show own_Fin p e below s _ _ _ s₁ (mkF m 4 #[.val (.int p1), .val (.int p2), .val (.int (p2 &&& (3 : Int32))), .unset] [])
  refine own_by (fun _ k => XS.iloadN X0.here hx rfl (hb hby at_4) rfl k) ?_
  show own_Fin p e below s _ _ _ s₁ (mkF m 5 #[.val (.int p1), .val (.int p2), .val (.int (p2 &&& (3 : Int32))), .unset] [(.int (p2 &&& (3 : Int32)))])
  by_cases hc5_25 : (p2 &&& (3 : Int32)) = (0 : Int32)
  · show own_Fin p e below s _ _ _ s₁ (mkF m 5 #[.val (.int p1), .val (.int p2), .val (.int (p2 &&& (3 : Int32))), .unset] [(.int (p2 &&& (3 : Int32)))])
    refine own_by (fun _ k => XS.ifNo X0.here hx rfl (hb hby at_5) rfl ((if0 _ _).trans (teq hc5_25).2) k) ?_
    show own_Fin p e below s _ _ _ s₁ (mkF m 8 #[.val (.int p1), .val (.int p2), .val (.int (p2 &&& (3 : Int32))), .unset] [])
    refine own_by (fun _ k => XS.iloadN X0.here hx rfl (hb hby at_8) rfl (XS.istoreN X0.here hx rfl (hb hby at_9) rfl (l' := #[.val (.int p1), .val (.int p2), .val (.int (p2 &&& (3 : Int32))), .val (.int p1)]) rfl (XS.goto X0.here hx rfl (pc0 := 10) (pc' := 50) rfl (hb hby at_10) (by decide) (by decide) k))) ?_
    show own_Fin p e below s _ _ _ s₁ (mkF m 50 #[.val (.int p1), .val (.int p2), .val (.int (p2 &&& (3 : Int32))), .val (.int p1)] [])
    exact J50_22 (p1) 
  · show own_Fin p e below s _ _ _ s₁ (mkF m 5 #[.val (.int p1), .val (.int p2), .val (.int (p2 &&& (3 : Int32))), .unset] [(.int (p2 &&& (3 : Int32)))])
    refine own_by (fun _ k => XS.ifYes X0.here hx rfl (pc0 := 5) (pc' := 13) rfl (hb hby at_5) rfl ((if0 _ _).trans (feq hc5_25).2) (by decide) (by decide) k) ?_
    show own_Fin p e below s _ _ _ s₁ (mkF m 13 #[.val (.int p1), .val (.int p2), .val (.int (p2 &&& (3 : Int32))), .unset] [])
    refine own_by (fun _ k => XS.iloadN X0.here hx rfl (hb hby at_13) rfl (XS.iconst X0.here hx rfl (hb hby at_14) k)) ?_
    show own_Fin p e below s _ _ _ s₁ (mkF m 15 #[.val (.int p1), .val (.int p2), .val (.int (p2 &&& (3 : Int32))), .unset] [(.int (1 : Int32)), (.int (p2 &&& (3 : Int32)))])
    by_cases hc15_26 : (p2 &&& (3 : Int32)) = (1 : Int32)
    · show own_Fin p e below s _ _ _ s₁ (mkF m 15 #[.val (.int p1), .val (.int p2), .val (.int (p2 &&& (3 : Int32))), .unset] [(.int (1 : Int32)), (.int (p2 &&& (3 : Int32)))])
      refine own_by (fun _ k => XS.icmpNo X0.here hx rfl (hb hby at_15) rfl (teq hc15_26).2 k) ?_
      show own_Fin p e below s _ _ _ s₁ (mkF m 18 #[.val (.int p1), .val (.int p2), .val (.int (p2 &&& (3 : Int32))), .unset] [])
      refine own_by (fun _ k => XS.iloadN X0.here hx rfl (hb hby at_18) rfl (XS.sipush X0.here hx rfl (hb hby at_19) (XS.iand X0.here hx rfl (hb hby at_22) rfl (XS.istoreN X0.here hx rfl (hb hby at_23) rfl (l' := #[.val (.int p1), .val (.int p2), .val (.int (p2 &&& (3 : Int32))), .val (.int (p1 &&& (255 : Int32)))]) rfl (XS.goto X0.here hx rfl (pc0 := 24) (pc' := 50) rfl (hb hby at_24) (by decide) (by decide) k))))) ?_
      show own_Fin p e below s _ _ _ s₁ (mkF m 50 #[.val (.int p1), .val (.int p2), .val (.int (p2 &&& (3 : Int32))), .val (.int (p1 &&& (255 : Int32)))] [])
      exact J50_22 ((p1 &&& (255 : Int32))) 
    · show own_Fin p e below s _ _ _ s₁ (mkF m 15 #[.val (.int p1), .val (.int p2), .val (.int (p2 &&& (3 : Int32))), .unset] [(.int (1 : Int32)), (.int (p2 &&& (3 : Int32)))])
      refine own_by (fun _ k => XS.icmpYes X0.here hx rfl (pc0 := 15) (pc' := 27) rfl (hb hby at_15) rfl (feq hc15_26).2 (by decide) (by decide) k) ?_
      show own_Fin p e below s _ _ _ s₁ (mkF m 27 #[.val (.int p1), .val (.int p2), .val (.int (p2 &&& (3 : Int32))), .unset] [])
      refine own_by (fun _ k => XS.iloadN X0.here hx rfl (hb hby at_27) rfl (XS.iconst X0.here hx rfl (hb hby at_28) k)) ?_
      show own_Fin p e below s _ _ _ s₁ (mkF m 29 #[.val (.int p1), .val (.int p2), .val (.int (p2 &&& (3 : Int32))), .unset] [(.int (2 : Int32)), (.int (p2 &&& (3 : Int32)))])
      by_cases hc29_27 : (p2 &&& (3 : Int32)) = (2 : Int32)
      · show own_Fin p e below s _ _ _ s₁ (mkF m 29 #[.val (.int p1), .val (.int p2), .val (.int (p2 &&& (3 : Int32))), .unset] [(.int (2 : Int32)), (.int (p2 &&& (3 : Int32)))])
        refine own_by (fun _ k => XS.icmpNo X0.here hx rfl (hb hby at_29) rfl (teq hc29_27).2 k) ?_
        show own_Fin p e below s _ _ _ s₁ (mkF m 32 #[.val (.int p1), .val (.int p2), .val (.int (p2 &&& (3 : Int32))), .unset] [])
        refine own_by (fun _ k => XS.sipush X0.here hx rfl (hb hby at_32) (XS.iloadN X0.here hx rfl (hb hby at_35) rfl (XS.bipush X0.here hx rfl (hb hby at_36) (XS.iand X0.here hx rfl (hb hby at_38) rfl (XS.iadd X0.here hx rfl (hb hby at_39) rfl (XS.istoreN X0.here hx rfl (hb hby at_40) rfl (l' := #[.val (.int p1), .val (.int p2), .val (.int (p2 &&& (3 : Int32))), .val (.int ((8192 : Int32) + (p1 &&& (63 : Int32))))]) rfl (XS.goto X0.here hx rfl (pc0 := 41) (pc' := 50) rfl (hb hby at_41) (by decide) (by decide) k))))))) ?_
        show own_Fin p e below s _ _ _ s₁ (mkF m 50 #[.val (.int p1), .val (.int p2), .val (.int (p2 &&& (3 : Int32))), .val (.int ((8192 : Int32) + (p1 &&& (63 : Int32))))] [])
        exact J50_22 (((8192 : Int32) + (p1 &&& (63 : Int32)))) 
      · show own_Fin p e below s _ _ _ s₁ (mkF m 29 #[.val (.int p1), .val (.int p2), .val (.int (p2 &&& (3 : Int32))), .unset] [(.int (2 : Int32)), (.int (p2 &&& (3 : Int32)))])
        refine own_by (fun _ k => XS.icmpYes X0.here hx rfl (pc0 := 29) (pc' := 44) rfl (hb hby at_29) rfl (feq hc29_27).2 (by decide) (by decide) k) ?_
        show own_Fin p e below s _ _ _ s₁ (mkF m 44 #[.val (.int p1), .val (.int p2), .val (.int (p2 &&& (3 : Int32))), .unset] [])
        refine own_by (fun _ k => XS.iloadN X0.here hx rfl (hb hby at_44) rfl (XS.sipush X0.here hx rfl (hb hby at_45) (XS.iand X0.here hx rfl (hb hby at_48) rfl (XS.istoreN X0.here hx rfl (hb hby at_49) rfl (l' := #[.val (.int p1), .val (.int p2), .val (.int (p2 &&& (3 : Int32))), .val (.int (p1 &&& (16383 : Int32)))]) rfl k)))) ?_
        show own_Fin p e below s _ _ _ s₁ (mkF m 50 #[.val (.int p1), .val (.int p2), .val (.int (p2 &&& (3 : Int32))), .val (.int (p1 &&& (16383 : Int32)))] [])
        exact J50_22 ((p1 &&& (16383 : Int32))) 
set_option maxRecDepth 65536 in
set_option maxHeartbeats 40000000 in
theorem comes_1 {Post : Tables → Env → Array Value → State → Outcome → State → Prop} (hpost : ∀ tb e args s v u, (limb_1_1.after args s (.returned v) u = true ∧ limb_1_2.after args s (.returned v) u = true ∧ True) → FrameEnd s (.returned v) u (Jvm.fieldLocs frame_1_writes args s ++ Jvm.arrayLocs frame_1_arrays args s ++ Jvm.staticLocs frame_1_statics s) 0 0 → Post tb e args s (.returned v) u) :
    ArmFor flags0 classFile x code maxLocals ret World_1 tables_1 room_1 Calls_1 rest_1 Pre_1 Post := by
  intro l hfl _ _ p e ha hc hk s m args below hf hA hF happ hP
  obtain ⟨hcalls, hrest, hpre⟩ := hP
  obtain ⟨-, -, -, hnamed, -, -, -, hat⟩ := (Spec.applies_iff hf).mp happ
  obtain ⟨hg, hn⟩ := and_e (Cond.before_iff.mp (show (Jvm.Cond.and given_1 narrow_1).before args s = true from hpre))
  obtain ⟨gc, gr0⟩ := and_e hg
  obtain ⟨ga0, gr1⟩ := and_e gr0
  obtain ⟨w0, w1, rfl⟩ : ∃ w0 w1 : Value, args = #[w0, w1] := by
    have hs : args.size = 2 := by simpa [Cond.value, given_1] using gc
    obtain ⟨L⟩ := args
    match L, hs with
    | [w0, w1], _ => exact ⟨w0, w1, rfl⟩
  have hw := fun d (hd : d ∈ tables_1) => atoms_spec (ws := Jvm.Cond.code x code maxLocals ret :: tables_1) hat d (List.mem_cons_of_mem _ hd)
  have hfit : Fit s := fun {y c} hc i hi => by
    obtain ⟨ha, rfl⟩ := Array.getElem?_eq_some_iff.mp hc
    have q := List.all_eq_true.mp ((Array.all_eq_true_iff_forall_mem.mp hF) _ (Array.getElem_mem ha)) i (List.mem_range.mpr hi)
    simpa [Array.getElem?_eq_getElem hi] using q
  obtain ⟨i0, ei0⟩ := is_v ga0
  obtain rfl : w0 = (.int i0) := Option.some.inj ei0
  obtain ⟨i1, ei1⟩ := is_v gr1
  obtain rfl : w1 = (.int i1) := Option.some.inj ei1
  obtain ⟨n, o, h1, h2, h3, _, L, rfl, ⟨rfl, N⟩, hq⟩ := rm0 l s _ hw tables_1 i0 i1 s.heap s.heap.size (Nat.le_refl _) p e ha hc hk s m _ below hf ((Spec.applies_iff_loose hf).mp happ).1 ⟨rfl, State.Warmed39.refl s, rfl⟩ trivial
  refine ⟨n, _, h1, h2, h3, hpost _ _ _ _ _ _ ⟨Cond.after_iff.mpr rfl, Cond.after_iff.mpr (eq_i res_at (Term.int_eval (1)) rfl), trivial⟩ ⟨hq.1, hq.2.1, (hq.2.2.sift fun y hy => Or.inr (N y hy)).mono (by decide) (by decide)⟩⟩
theorem main_1_1 : Claimed_1_1 := comes_1 fun _ _ _ _ _ _ h hF => ⟨h.1, hF⟩
theorem main_1_2 : Claimed_1_2 := comes_1 fun _ _ _ _ _ _ h hF => ⟨h.2.1, hF⟩
end Jvm.Pilot.@@N@@
namespace Jvm.Pilot.@@N@@
open Jvm Jvm.ClassFile Sem Op Lib Jvm.Free Jvm.Stand Jvm.Pilot.@@N@@.Jvm.D
/-! MADE BY PROGRAM (witnessworld.py) out of the Statement's table words and the real class files: 12 classes; the members and pool entries that the words name. The judged class is class 1, her method 2. -/
namespace start1
open Jvm.ClassFile
def u (s : String) : CpInfo := .utf8 (stringToUtf16 s)
/-- a pool by its gaps: so many unusable entries, then the entry; so many at the end -/
def gap : Nat → List CpInfo → List CpInfo
  | 0, r => r
  | n + 1, r => .unusable :: gap n r
def poolList (es : List (Nat × CpInfo)) (last : Nat) : List CpInfo := es.foldr (fun e r => gap e.1 (e.2 :: r)) (gap last [])
def pool (es : List (Nat × CpInfo)) (last : Nat) : Array CpInfo := ⟨poolList es last⟩
def fileOf (pool : Array CpInfo) (this : Nat) (attrs : Array Attribute := #[]) (ms : Array MethodInfo := #[]) (fl : Nat := 33) (sup : Nat := 0) (ifs : Array Nat := #[]) (fds : Array FieldInfo := #[]) : ClassFile where
  minorVersion := 0
  majorVersion := 65
  constantPool := pool
  accessFlags := fl
  thisClass := this
  superClass := sup
  interfaces := ifs
  fields := fds
  methods := ms
  attributes := attrs
def plain (name : String) (sup : Option ClassId) : Class where
  name := name
  kind := .ordinary
  loader := none
  accessFlags := 33
  super := sup
  interfaces := #[]
  cf := none
  fields := #[]
  methods := #[]
  instanceTypes := #[]
  staticTypes := #[]
  resolved := #[]
  callSites := []
  init := .initialized
  statics := none
  mirror := none

def pool0 : Array CpInfo := pool [(5, u "<init>"), (0, u "()V"), (1, .class_ 10), (1, u "java/lang/Object")] 113

def k0m0 : Method := { name := "<init>", desc := "()V", sig := { parameters := [], returnType := none }, accessFlags := 1, code := none }
/-- java/lang/Object -/
def k0 : Class := { plain "java/lang/Object" none with
  accessFlags := 33
  interfaces := #[]
  cf := some (fileOf pool0 8 #[] #[{ accessFlags := 1, nameIndex := 5, descriptorIndex := 6, attributes := #[] }] 33 0 #[] #[])
  fields := #[]
  methods := #[k0m0]
  instanceTypes := #[]
  staticTypes := #[]
  resolved := Array.replicate 124 none
  statics := none }

def pool1 : Array CpInfo := pool [(2, .class_ 4), (1, u "java/lang/Object"), (0, u "<init>"), (0, u "()V"), (0, .methodref 8 9), (0, .class_ 10), (0, .nameAndType 11 12), (0, u "com/example/trustee/trustee/Quoted"), (0, u "needsEscape"), (0, u "(I)Z"), (0, .methodref 14 15), (0, .class_ 16), (0, .nameAndType 17 12), (0, u "com/example/trustee/trustee/QuotedNeedsEscapePinLaw"), (0, u "expected"), (3, u "law"), (0, u "(II)Z")] 2

def k1m0 : Method := { name := "<init>", desc := "()V", sig := { parameters := [], returnType := none }, accessFlags := 2, code := none }
def k1c1 : Code := { maxStack := 2, maxLocals := 1, code := method_2_code, exceptionTable := #[], attributes := #[] }
def k1m1 : Method := { name := "expected", desc := "(I)Z", sig := { parameters := [.int], returnType := some .boolean }, accessFlags := 10, code := some k1c1 }
def k1c2 : Code := { maxStack := 3, maxLocals := 4, code := code, exceptionTable := #[], attributes := #[] }
def k1m2 : Method := { name := "law", desc := "(II)Z", sig := { parameters := [.int, .int], returnType := some .boolean }, accessFlags := 9, code := some k1c2 }
/-- com/example/trustee/trustee/QuotedNeedsEscapePinLaw -/
def k1 : Class := { plain "com/example/trustee/trustee/QuotedNeedsEscapePinLaw" (some 0) with
  accessFlags := 49
  interfaces := #[]
  cf := some (fileOf pool1 14 #[] #[{ accessFlags := 2, nameIndex := 5, descriptorIndex := 6, attributes := #[] }, { accessFlags := 10, nameIndex := 17, descriptorIndex := 12, attributes := #[] }, { accessFlags := 9, nameIndex := 21, descriptorIndex := 22, attributes := #[] }] 49 2 #[] #[])
  fields := #[]
  methods := #[k1m0, k1m1, k1m2]
  instanceTypes := #[]
  staticTypes := #[]
  resolved := Array.replicate 25 none
  statics := none }

def pool2 : Array CpInfo := pool [(2, .class_ 4), (1, u "java/lang/Object"), (0, u "<init>"), (0, u "()V"), (6, .class_ 14), (0, u "com/example/trustee/trustee/Quoted"), (61, u "needsEscape"), (0, u "(I)Z"), (9, .methodref 88 89), (0, .class_ 90), (0, .nameAndType 91 77), (0, u "java/lang/Character"), (0, u "isISOControl"), (0, u "SHOWN"), (0, u "I"), (2, u "LINE_SEPARATOR"), (1, u "PARAGRAPH_SEPARATOR")] 31

def k2m0 : Method := { name := "<init>", desc := "()V", sig := { parameters := [], returnType := none }, accessFlags := 2, code := none }
def k2c1 : Code := { maxStack := 2, maxLocals := 1, code := prog_24_method_4_code, exceptionTable := #[], attributes := #[] }
def k2m1 : Method := { name := "needsEscape", desc := "(I)Z", sig := { parameters := [.int], returnType := some .boolean }, accessFlags := 8, code := some k2c1 }
/-- com/example/trustee/trustee/Quoted -/
def k2 : Class := { plain "com/example/trustee/trustee/Quoted" (some 0) with
  accessFlags := 49
  interfaces := #[]
  cf := some (fileOf pool2 13 #[] #[{ accessFlags := 2, nameIndex := 5, descriptorIndex := 6, attributes := #[] }, { accessFlags := 8, nameIndex := 76, descriptorIndex := 77, attributes := #[] }] 49 2 #[] #[{ accessFlags := 26, nameIndex := 92, descriptorIndex := 93, attributes := #[] }, { accessFlags := 26, nameIndex := 96, descriptorIndex := 93, attributes := #[] }, { accessFlags := 26, nameIndex := 98, descriptorIndex := 93, attributes := #[] }])
  fields := #[{ name := "SHOWN", type := .int, accessFlags := 26, slot := 0, constantValue := 0 }, { name := "LINE_SEPARATOR", type := .int, accessFlags := 26, slot := 1, constantValue := 0 }, { name := "PARAGRAPH_SEPARATOR", type := .int, accessFlags := 26, slot := 2, constantValue := 0 }]
  methods := #[k2m0, k2m1]
  instanceTypes := #[]
  staticTypes := #[.int, .int, .int]
  resolved := Array.replicate 130 none
  statics := none }

def pool3 : Array CpInfo := pool [(1, .class_ 2), (0, u "java/io/Serializable"), (0, .class_ 4), (0, u "java/lang/Object")] 2

/-- java/io/Serializable -/
def k3 : Class := { plain "java/io/Serializable" (some 0) with
  accessFlags := 1537
  interfaces := #[]
  cf := some (fileOf pool3 1 #[] #[] 1537 3 #[] #[])
  fields := #[]
  methods := #[]
  instanceTypes := #[]
  staticTypes := #[]
  resolved := Array.replicate 7 none
  statics := none }

def pool4 : Array CpInfo := pool [(1, .class_ 2), (0, u "java/lang/Comparable"), (0, .class_ 4), (0, u "java/lang/Object")] 7

/-- java/lang/Comparable -/
def k4 : Class := { plain "java/lang/Comparable" (some 0) with
  accessFlags := 1537
  interfaces := #[]
  cf := some (fileOf pool4 1 #[] #[] 1537 3 #[] #[])
  fields := #[]
  methods := #[]
  instanceTypes := #[]
  staticTypes := #[]
  resolved := Array.replicate 12 none
  statics := none }

def pool5 : Array CpInfo := pool [(1, .class_ 2), (0, u "java/lang/constant/Constable"), (0, .class_ 4), (0, u "java/lang/Object")] 6

/-- java/lang/constant/Constable -/
def k5 : Class := { plain "java/lang/constant/Constable" (some 0) with
  accessFlags := 1537
  interfaces := #[]
  cf := some (fileOf pool5 1 #[] #[] 1537 3 #[] #[])
  fields := #[]
  methods := #[]
  instanceTypes := #[]
  staticTypes := #[]
  resolved := Array.replicate 11 none
  statics := none }

def pool6 : Array CpInfo := pool [(1, .class_ 2), (0, u "java/lang/Character"), (18, u "value"), (0, u "C"), (19, .class_ 44), (1, u "java/lang/Object"), (3, .class_ 50), (1, u "java/lang/Character$CharacterCache"), (63, u "(I)Z"), (153, u "isISOControl"), (15, u "$assertionsDisabled"), (0, u "Z"), (21, .class_ 309), (1, u "java/lang/Character$UnicodeBlock"), (73, u "TYPE"), (0, u "Ljava/lang/Class;"), (0, .class_ 386), (0, u "java/io/Serializable"), (0, .class_ 388), (0, u "java/lang/Comparable"), (0, .class_ 390), (0, u "java/lang/constant/Constable"), (0, u "MIN_RADIX"), (0, u "I"), (2, u "MAX_RADIX"), (1, u "MIN_VALUE"), (1, u "MAX_VALUE"), (3, u "UNASSIGNED"), (0, u "B"), (0, u "UPPERCASE_LETTER"), (1, u "LOWERCASE_LETTER"), (0, u "TITLECASE_LETTER"), (1, u "MODIFIER_LETTER"), (1, u "OTHER_LETTER"), (1, u "NON_SPACING_MARK"), (1, u "ENCLOSING_MARK"), (1, u "COMBINING_SPACING_MARK"), (1, u "DECIMAL_DIGIT_NUMBER"), (1, u "LETTER_NUMBER"), (1, u "OTHER_NUMBER"), (1, u "SPACE_SEPARATOR"), (1, u "LINE_SEPARATOR"), (1, u "PARAGRAPH_SEPARATOR"), (1, u "CONTROL"), (1, u "FORMAT"), (1, u "PRIVATE_USE"), (1, u "SURROGATE"), (1, u "DASH_PUNCTUATION"), (1, u "START_PUNCTUATION"), (1, u "END_PUNCTUATION"), (1, u "CONNECTOR_PUNCTUATION"), (1, u "OTHER_PUNCTUATION"), (1, u "MATH_SYMBOL"), (1, u "CURRENCY_SYMBOL"), (1, u "MODIFIER_SYMBOL"), (1, u "OTHER_SYMBOL"), (1, u "INITIAL_QUOTE_PUNCTUATION"), (1, u "FINAL_QUOTE_PUNCTUATION"), (1, u "ERROR"), (1, u "DIRECTIONALITY_UNDEFINED"), (0, u "DIRECTIONALITY_LEFT_TO_RIGHT"), (0, u "DIRECTIONALITY_RIGHT_TO_LEFT"), (0, u "DIRECTIONALITY_RIGHT_TO_LEFT_ARABIC"), (0, u "DIRECTIONALITY_EUROPEAN_NUMBER"), (0, u "DIRECTIONALITY_EUROPEAN_NUMBER_SEPARATOR"), (0, u "DIRECTIONALITY_EUROPEAN_NUMBER_TERMINATOR"), (0, u "DIRECTIONALITY_ARABIC_NUMBER"), (0, u "DIRECTIONALITY_COMMON_NUMBER_SEPARATOR"), (0, u "DIRECTIONALITY_NONSPACING_MARK"), (0, u "DIRECTIONALITY_BOUNDARY_NEUTRAL"), (0, u "DIRECTIONALITY_PARAGRAPH_SEPARATOR"), (0, u "DIRECTIONALITY_SEGMENT_SEPARATOR"), (0, u "DIRECTIONALITY_WHITESPACE"), (0, u "DIRECTIONALITY_OTHER_NEUTRALS"), (0, u "DIRECTIONALITY_LEFT_TO_RIGHT_EMBEDDING"), (0, u "DIRECTIONALITY_LEFT_TO_RIGHT_OVERRIDE"), (0, u "DIRECTIONALITY_RIGHT_TO_LEFT_EMBEDDING"), (0, u "DIRECTIONALITY_RIGHT_TO_LEFT_OVERRIDE"), (1, u "DIRECTIONALITY_POP_DIRECTIONAL_FORMAT"), (0, u "DIRECTIONALITY_LEFT_TO_RIGHT_ISOLATE"), (0, u "DIRECTIONALITY_RIGHT_TO_LEFT_ISOLATE"), (0, u "DIRECTIONALITY_FIRST_STRONG_ISOLATE"), (0, u "DIRECTIONALITY_POP_DIRECTIONAL_ISOLATE"), (0, u "MIN_HIGH_SURROGATE"), (0, u "MAX_HIGH_SURROGATE"), (1, u "MIN_LOW_SURROGATE"), (0, u "MAX_LOW_SURROGATE"), (1, u "MIN_SURROGATE"), (0, u "MAX_SURROGATE"), (0, u "MIN_SUPPLEMENTARY_CODE_POINT"), (0, u "MIN_CODE_POINT"), (0, u "MAX_CODE_POINT"), (1, u "serialVersionUID"), (0, u "J"), (2, u "SIZE"), (0, u "BYTES"), (88, .class_ 596), (0, u "java/lang/Character$UnicodeScript"), (0, .class_ 598), (0, u "java/lang/Character$Subset")] 5

def k6c0 : Code := { maxStack := 2, maxLocals := 1, code := jdk_89_method_89_code, exceptionTable := #[], attributes := #[] }
def k6m0 : Method := { name := "isISOControl", desc := "(I)Z", sig := { parameters := [.int], returnType := some .boolean }, accessFlags := 9, code := some k6c0 }
/-- java/lang/Character -/
def k6 : Class := { plain "java/lang/Character" (some 0) with
  accessFlags := 49
  interfaces := #[3, 4, 5]
  cf := some (fileOf pool6 1 #[.nestMembers #[48, 595, 307, 597]] #[{ accessFlags := 9, nameIndex := 268, descriptorIndex := 114, attributes := #[] }] 49 42 #[385, 387, 389] #[{ accessFlags := 25, nameIndex := 391, descriptorIndex := 392, attributes := #[] }, { accessFlags := 25, nameIndex := 395, descriptorIndex := 392, attributes := #[] }, { accessFlags := 25, nameIndex := 397, descriptorIndex := 22, attributes := #[] }, { accessFlags := 25, nameIndex := 399, descriptorIndex := 22, attributes := #[] }, { accessFlags := 25, nameIndex := 383, descriptorIndex := 384, attributes := #[] }, { accessFlags := 25, nameIndex := 403, descriptorIndex := 404, attributes := #[] }, { accessFlags := 25, nameIndex := 405, descriptorIndex := 404, attributes := #[] }, { accessFlags := 25, nameIndex := 407, descriptorIndex := 404, attributes := #[] }, { accessFlags := 25, nameIndex := 408, descriptorIndex := 404, attributes := #[] }, { accessFlags := 25, nameIndex := 410, descriptorIndex := 404, attributes := #[] }, { accessFlags := 25, nameIndex := 412, descriptorIndex := 404, attributes := #[] }, { accessFlags := 25, nameIndex := 414, descriptorIndex := 404, attributes := #[] }, { accessFlags := 25, nameIndex := 416, descriptorIndex := 404, attributes := #[] }, { accessFlags := 25, nameIndex := 418, descriptorIndex := 404, attributes := #[] }, { accessFlags := 25, nameIndex := 420, descriptorIndex := 404, attributes := #[] }, { accessFlags := 25, nameIndex := 422, descriptorIndex := 404, attributes := #[] }, { accessFlags := 25, nameIndex := 424, descriptorIndex := 404, attributes := #[] }, { accessFlags := 25, nameIndex := 426, descriptorIndex := 404, attributes := #[] }, { accessFlags := 25, nameIndex := 428, descriptorIndex := 404, attributes := #[] }, { accessFlags := 25, nameIndex := 430, descriptorIndex := 404, attributes := #[] }, { accessFlags := 25, nameIndex := 432, descriptorIndex := 404, attributes := #[] }, { accessFlags := 25, nameIndex := 434, descriptorIndex := 404, attributes := #[] }, { accessFlags := 25, nameIndex := 436, descriptorIndex := 404, attributes := #[] }, { accessFlags := 25, nameIndex := 438, descriptorIndex := 404, attributes := #[] }, { accessFlags := 25, nameIndex := 440, descriptorIndex := 404, attributes := #[] }, { accessFlags := 25, nameIndex := 442, descriptorIndex := 404, attributes := #[] }, { accessFlags := 25, nameIndex := 444, descriptorIndex := 404, attributes := #[] }, { accessFlags := 25, nameIndex := 446, descriptorIndex := 404, attributes := #[] }, { accessFlags := 25, nameIndex := 448, descriptorIndex := 404, attributes := #[] }, { accessFlags := 25, nameIndex := 450, descriptorIndex := 404, attributes := #[] }, { accessFlags := 25, nameIndex := 452, descriptorIndex := 404, attributes := #[] }, { accessFlags := 25, nameIndex := 454, descriptorIndex := 404, attributes := #[] }, { accessFlags := 25, nameIndex := 456, descriptorIndex := 404, attributes := #[] }, { accessFlags := 25, nameIndex := 458, descriptorIndex := 404, attributes := #[] }, { accessFlags := 25, nameIndex := 460, descriptorIndex := 404, attributes := #[] }, { accessFlags := 24, nameIndex := 462, descriptorIndex := 392, attributes := #[] }, { accessFlags := 25, nameIndex := 464, descriptorIndex := 404, attributes := #[] }, { accessFlags := 25, nameIndex := 465, descriptorIndex := 404, attributes := #[] }, { accessFlags := 25, nameIndex := 466, descriptorIndex := 404, attributes := #[] }, { accessFlags := 25, nameIndex := 467, descriptorIndex := 404, attributes := #[] }, { accessFlags := 25, nameIndex := 468, descriptorIndex := 404, attributes := #[] }, { accessFlags := 25, nameIndex := 469, descriptorIndex := 404, attributes := #[] }, { accessFlags := 25, nameIndex := 470, descriptorIndex := 404, attributes := #[] }, { accessFlags := 25, nameIndex := 471, descriptorIndex := 404, attributes := #[] }, { accessFlags := 25, nameIndex := 472, descriptorIndex := 404, attributes := #[] }, { accessFlags := 25, nameIndex := 473, descriptorIndex := 404, attributes := #[] }, { accessFlags := 25, nameIndex := 474, descriptorIndex := 404, attributes := #[] }, { accessFlags := 25, nameIndex := 475, descriptorIndex := 404, attributes := #[] }, { accessFlags := 25, nameIndex := 476, descriptorIndex := 404, attributes := #[] }, { accessFlags := 25, nameIndex := 477, descriptorIndex := 404, attributes := #[] }, { accessFlags := 25, nameIndex := 478, descriptorIndex := 404, attributes := #[] }, { accessFlags := 25, nameIndex := 479, descriptorIndex := 404, attributes := #[] }, { accessFlags := 25, nameIndex := 480, descriptorIndex := 404, attributes := #[] }, { accessFlags := 25, nameIndex := 481, descriptorIndex := 404, attributes := #[] }, { accessFlags := 25, nameIndex := 482, descriptorIndex := 404, attributes := #[] }, { accessFlags := 25, nameIndex := 484, descriptorIndex := 404, attributes := #[] }, { accessFlags := 25, nameIndex := 485, descriptorIndex := 404, attributes := #[] }, { accessFlags := 25, nameIndex := 486, descriptorIndex := 404, attributes := #[] }, { accessFlags := 25, nameIndex := 487, descriptorIndex := 404, attributes := #[] }, { accessFlags := 25, nameIndex := 488, descriptorIndex := 404, attributes := #[] }, { accessFlags := 25, nameIndex := 489, descriptorIndex := 22, attributes := #[] }, { accessFlags := 25, nameIndex := 490, descriptorIndex := 22, attributes := #[] }, { accessFlags := 25, nameIndex := 492, descriptorIndex := 22, attributes := #[] }, { accessFlags := 25, nameIndex := 493, descriptorIndex := 22, attributes := #[] }, { accessFlags := 25, nameIndex := 495, descriptorIndex := 22, attributes := #[] }, { accessFlags := 25, nameIndex := 496, descriptorIndex := 22, attributes := #[] }, { accessFlags := 25, nameIndex := 497, descriptorIndex := 392, attributes := #[] }, { accessFlags := 25, nameIndex := 498, descriptorIndex := 392, attributes := #[] }, { accessFlags := 25, nameIndex := 499, descriptorIndex := 392, attributes := #[] }, { accessFlags := 18, nameIndex := 21, descriptorIndex := 22, attributes := #[] }, { accessFlags := 26, nameIndex := 501, descriptorIndex := 502, attributes := #[] }, { accessFlags := 25, nameIndex := 505, descriptorIndex := 392, attributes := #[] }, { accessFlags := 25, nameIndex := 506, descriptorIndex := 392, attributes := #[] }, { accessFlags := 4120, nameIndex := 284, descriptorIndex := 285, attributes := #[] }])
  fields := #[{ name := "MIN_RADIX", type := .int, accessFlags := 25, slot := 0, constantValue := 0 }, { name := "MAX_RADIX", type := .int, accessFlags := 25, slot := 1, constantValue := 0 }, { name := "MIN_VALUE", type := .char, accessFlags := 25, slot := 2, constantValue := 0 }, { name := "MAX_VALUE", type := .char, accessFlags := 25, slot := 3, constantValue := 0 }, { name := "TYPE", type := (.object "java/lang/Class"), accessFlags := 25, slot := 4, constantValue := 0 }, { name := "UNASSIGNED", type := .byte, accessFlags := 25, slot := 5, constantValue := 0 }, { name := "UPPERCASE_LETTER", type := .byte, accessFlags := 25, slot := 6, constantValue := 0 }, { name := "LOWERCASE_LETTER", type := .byte, accessFlags := 25, slot := 7, constantValue := 0 }, { name := "TITLECASE_LETTER", type := .byte, accessFlags := 25, slot := 8, constantValue := 0 }, { name := "MODIFIER_LETTER", type := .byte, accessFlags := 25, slot := 9, constantValue := 0 }, { name := "OTHER_LETTER", type := .byte, accessFlags := 25, slot := 10, constantValue := 0 }, { name := "NON_SPACING_MARK", type := .byte, accessFlags := 25, slot := 11, constantValue := 0 }, { name := "ENCLOSING_MARK", type := .byte, accessFlags := 25, slot := 12, constantValue := 0 }, { name := "COMBINING_SPACING_MARK", type := .byte, accessFlags := 25, slot := 13, constantValue := 0 }, { name := "DECIMAL_DIGIT_NUMBER", type := .byte, accessFlags := 25, slot := 14, constantValue := 0 }, { name := "LETTER_NUMBER", type := .byte, accessFlags := 25, slot := 15, constantValue := 0 }, { name := "OTHER_NUMBER", type := .byte, accessFlags := 25, slot := 16, constantValue := 0 }, { name := "SPACE_SEPARATOR", type := .byte, accessFlags := 25, slot := 17, constantValue := 0 }, { name := "LINE_SEPARATOR", type := .byte, accessFlags := 25, slot := 18, constantValue := 0 }, { name := "PARAGRAPH_SEPARATOR", type := .byte, accessFlags := 25, slot := 19, constantValue := 0 }, { name := "CONTROL", type := .byte, accessFlags := 25, slot := 20, constantValue := 0 }, { name := "FORMAT", type := .byte, accessFlags := 25, slot := 21, constantValue := 0 }, { name := "PRIVATE_USE", type := .byte, accessFlags := 25, slot := 22, constantValue := 0 }, { name := "SURROGATE", type := .byte, accessFlags := 25, slot := 23, constantValue := 0 }, { name := "DASH_PUNCTUATION", type := .byte, accessFlags := 25, slot := 24, constantValue := 0 }, { name := "START_PUNCTUATION", type := .byte, accessFlags := 25, slot := 25, constantValue := 0 }, { name := "END_PUNCTUATION", type := .byte, accessFlags := 25, slot := 26, constantValue := 0 }, { name := "CONNECTOR_PUNCTUATION", type := .byte, accessFlags := 25, slot := 27, constantValue := 0 }, { name := "OTHER_PUNCTUATION", type := .byte, accessFlags := 25, slot := 28, constantValue := 0 }, { name := "MATH_SYMBOL", type := .byte, accessFlags := 25, slot := 29, constantValue := 0 }, { name := "CURRENCY_SYMBOL", type := .byte, accessFlags := 25, slot := 30, constantValue := 0 }, { name := "MODIFIER_SYMBOL", type := .byte, accessFlags := 25, slot := 31, constantValue := 0 }, { name := "OTHER_SYMBOL", type := .byte, accessFlags := 25, slot := 32, constantValue := 0 }, { name := "INITIAL_QUOTE_PUNCTUATION", type := .byte, accessFlags := 25, slot := 33, constantValue := 0 }, { name := "FINAL_QUOTE_PUNCTUATION", type := .byte, accessFlags := 25, slot := 34, constantValue := 0 }, { name := "ERROR", type := .int, accessFlags := 24, slot := 35, constantValue := 0 }, { name := "DIRECTIONALITY_UNDEFINED", type := .byte, accessFlags := 25, slot := 36, constantValue := 0 }, { name := "DIRECTIONALITY_LEFT_TO_RIGHT", type := .byte, accessFlags := 25, slot := 37, constantValue := 0 }, { name := "DIRECTIONALITY_RIGHT_TO_LEFT", type := .byte, accessFlags := 25, slot := 38, constantValue := 0 }, { name := "DIRECTIONALITY_RIGHT_TO_LEFT_ARABIC", type := .byte, accessFlags := 25, slot := 39, constantValue := 0 }, { name := "DIRECTIONALITY_EUROPEAN_NUMBER", type := .byte, accessFlags := 25, slot := 40, constantValue := 0 }, { name := "DIRECTIONALITY_EUROPEAN_NUMBER_SEPARATOR", type := .byte, accessFlags := 25, slot := 41, constantValue := 0 }, { name := "DIRECTIONALITY_EUROPEAN_NUMBER_TERMINATOR", type := .byte, accessFlags := 25, slot := 42, constantValue := 0 }, { name := "DIRECTIONALITY_ARABIC_NUMBER", type := .byte, accessFlags := 25, slot := 43, constantValue := 0 }, { name := "DIRECTIONALITY_COMMON_NUMBER_SEPARATOR", type := .byte, accessFlags := 25, slot := 44, constantValue := 0 }, { name := "DIRECTIONALITY_NONSPACING_MARK", type := .byte, accessFlags := 25, slot := 45, constantValue := 0 }, { name := "DIRECTIONALITY_BOUNDARY_NEUTRAL", type := .byte, accessFlags := 25, slot := 46, constantValue := 0 }, { name := "DIRECTIONALITY_PARAGRAPH_SEPARATOR", type := .byte, accessFlags := 25, slot := 47, constantValue := 0 }, { name := "DIRECTIONALITY_SEGMENT_SEPARATOR", type := .byte, accessFlags := 25, slot := 48, constantValue := 0 }, { name := "DIRECTIONALITY_WHITESPACE", type := .byte, accessFlags := 25, slot := 49, constantValue := 0 }, { name := "DIRECTIONALITY_OTHER_NEUTRALS", type := .byte, accessFlags := 25, slot := 50, constantValue := 0 }, { name := "DIRECTIONALITY_LEFT_TO_RIGHT_EMBEDDING", type := .byte, accessFlags := 25, slot := 51, constantValue := 0 }, { name := "DIRECTIONALITY_LEFT_TO_RIGHT_OVERRIDE", type := .byte, accessFlags := 25, slot := 52, constantValue := 0 }, { name := "DIRECTIONALITY_RIGHT_TO_LEFT_EMBEDDING", type := .byte, accessFlags := 25, slot := 53, constantValue := 0 }, { name := "DIRECTIONALITY_RIGHT_TO_LEFT_OVERRIDE", type := .byte, accessFlags := 25, slot := 54, constantValue := 0 }, { name := "DIRECTIONALITY_POP_DIRECTIONAL_FORMAT", type := .byte, accessFlags := 25, slot := 55, constantValue := 0 }, { name := "DIRECTIONALITY_LEFT_TO_RIGHT_ISOLATE", type := .byte, accessFlags := 25, slot := 56, constantValue := 0 }, { name := "DIRECTIONALITY_RIGHT_TO_LEFT_ISOLATE", type := .byte, accessFlags := 25, slot := 57, constantValue := 0 }, { name := "DIRECTIONALITY_FIRST_STRONG_ISOLATE", type := .byte, accessFlags := 25, slot := 58, constantValue := 0 }, { name := "DIRECTIONALITY_POP_DIRECTIONAL_ISOLATE", type := .byte, accessFlags := 25, slot := 59, constantValue := 0 }, { name := "MIN_HIGH_SURROGATE", type := .char, accessFlags := 25, slot := 60, constantValue := 0 }, { name := "MAX_HIGH_SURROGATE", type := .char, accessFlags := 25, slot := 61, constantValue := 0 }, { name := "MIN_LOW_SURROGATE", type := .char, accessFlags := 25, slot := 62, constantValue := 0 }, { name := "MAX_LOW_SURROGATE", type := .char, accessFlags := 25, slot := 63, constantValue := 0 }, { name := "MIN_SURROGATE", type := .char, accessFlags := 25, slot := 64, constantValue := 0 }, { name := "MAX_SURROGATE", type := .char, accessFlags := 25, slot := 65, constantValue := 0 }, { name := "MIN_SUPPLEMENTARY_CODE_POINT", type := .int, accessFlags := 25, slot := 66, constantValue := 0 }, { name := "MIN_CODE_POINT", type := .int, accessFlags := 25, slot := 67, constantValue := 0 }, { name := "MAX_CODE_POINT", type := .int, accessFlags := 25, slot := 68, constantValue := 0 }, { name := "value", type := .char, accessFlags := 18, slot := 0, constantValue := 0 }, { name := "serialVersionUID", type := .long, accessFlags := 26, slot := 69, constantValue := 0 }, { name := "SIZE", type := .int, accessFlags := 25, slot := 70, constantValue := 0 }, { name := "BYTES", type := .int, accessFlags := 25, slot := 71, constantValue := 0 }, { name := "$assertionsDisabled", type := .boolean, accessFlags := 4120, slot := 72, constantValue := 0 }]
  methods := #[k6m0]
  instanceTypes := #[.char]
  staticTypes := #[.int, .int, .char, .char, (.object "java/lang/Class"), .byte, .byte, .byte, .byte, .byte, .byte, .byte, .byte, .byte, .byte, .byte, .byte, .byte, .byte, .byte, .byte, .byte, .byte, .byte, .byte, .byte, .byte, .byte, .byte, .byte, .byte, .byte, .byte, .byte, .byte, .int, .byte, .byte, .byte, .byte, .byte, .byte, .byte, .byte, .byte, .byte, .byte, .byte, .byte, .byte, .byte, .byte, .byte, .byte, .byte, .byte, .byte, .byte, .byte, .byte, .char, .char, .char, .char, .char, .char, .int, .int, .int, .long, .int, .int, .boolean]
  resolved := Array.replicate 604 none
  statics := none }

def pool7 : Array CpInfo := pool [(1, u "java/lang/Cloneable"), (0, .class_ 1), (0, u "java/lang/Object"), (0, .class_ 3)] 3

/-- java/lang/Cloneable -/
def k7 : Class := { plain "java/lang/Cloneable" (some 0) with
  accessFlags := 1537
  interfaces := #[]
  cf := some (fileOf pool7 2 #[] #[] 1537 4 #[] #[])
  fields := #[]
  methods := #[]
  instanceTypes := #[]
  staticTypes := #[]
  resolved := Array.replicate 8 none
  statics := none }

/-- the primitive byte -/
def k8 : Class := { plain "byte" none with kind := .primitive 'B', accessFlags := 0x411 }
/-- [B -/
def k9 : Class := { plain "[B" (some 0) with kind := .array 8 .byte, interfaces := #[7, 3], accessFlags := 1041 }

/-- the primitive int -/
def k10 : Class := { plain "int" none with kind := .primitive 'I', accessFlags := 0x411 }
/-- [I -/
def k11 : Class := { plain "[I" (some 0) with kind := .array 10 .int, interfaces := #[7, 3], accessFlags := 1041 }

def heap : Heap := #[]
def classes : Array Class := #[k0, k1, k2, k3, k4, k5, k6, k7, k8, k9, k10, k11]
def interned : List (Array UInt16 × Addr) := []
def slotsUsed : Nat := 0
def theMethod : MethodId := ⟨1, 2⟩
def args0 : Array Value := #[.int 5, .int 5]
def aboutOver (below : List Frame) : State where
  vm := { classes := classes, interned := interned.toArray }
  heap := heap
  slotsUsed := slotsUsed
  threads := #[{ frames := .invoking theMethod args0 :: below }]
def below0 : List Frame := [.native { method := ⟨0, 0⟩, args := #[] }]
def about1 : State := aboutOver below0
def p0 : Program := .bare "" "" ""
def e0 : Env := launch0.env 0 0 0
theorem w_frames : about1.frames = Frame.invoking theMethod args0 :: below0 := rfl
set_option maxRecDepth 65536 in
theorem w_args : argsFit about1.vm theMethod args0 = true := by decide +kernel
set_option maxRecDepth 65536 in
theorem w_heap : heapFits about1 = true := by decide +kernel
set_option maxRecDepth 65536 in
theorem w_runnable : about1.curStatus? = some .runnable := by decide +kernel
set_option maxRecDepth 65536 in
theorem w_alone : about1.alone = true := by decide +kernel
set_option maxRecDepth 65536 in
theorem w_named : about1.methodNamed? x = some theMethod := by decide +kernel
set_option maxRecDepth 65536 in
theorem w_hears : about1.hears theMethod below0 = true := by decide +kernel
set_option maxRecDepth 65536 in
theorem w_ripe : about1.ripe theMethod args0 below0 = true := by decide +kernel
theorem w_running : about1.status = .running := rfl
set_option maxRecDepth 65536 in
theorem w_room : about1.hasRoom e0.platform room_1 = true :=
  launch0.hasRoom_least _ room_1 (by decide +kernel) (by decide +kernel) (by decide +kernel) (by decide +kernel) (by decide +kernel) (by decide +kernel)
theorem allAtoms_all (ts : List Jvm.Cond) (a : Array Jvm.Value) (st : Jvm.State) : (allAtoms ts).before a st = ts.all (fun c => c.before a st) := by
  induction ts with
  | nil => rfl
  | cons c t ih =>
    show (Jvm.Cond.and c (allAtoms t)).before a st = _
    rw [Jvm.Cond.before_and, ih, List.all_cons]
def words1 : List Jvm.Cond := Jvm.Cond.code x code maxLocals ret :: tables_1
/-- a 'code' word, met by the world's own term for the bytes: nothing is compared byte by byte -/
theorem code_word {y : MethodName} {bytes : ByteArray} {mx : Nat} {rt : Option FieldType} {a : Array Value} {s : State} {m : MethodId} {meth : Method} {c : Code} (h1 : s.methodNamed? y = some m) (h2 : s.vm.method? m = some meth) (h3 : meth.code = some c) (h4 : c.code = bytes)
    (h5 : (c.maxLocals == mx && c.exceptionTable.isEmpty && decide (c.maxStack ≤ mostOperands) && decide (meth.sig.returnType = rt) && !meth.locks && decide (parseMethodDescriptor y.desc = some meth.sig)) = true) : (Jvm.Cond.code y bytes mx rt).before a s = true := by
  simp only [Bool.and_eq_true, beq_iff_eq, Bool.not_eq_true', decide_eq_true_eq] at h5
  obtain ⟨⟨⟨⟨⟨g1, g2⟩, g3⟩, g4⟩, g5⟩, g6⟩ := h5
  simp [Cond.before, Cond.holds, Cond.value, h1, h2, h3, h4, g1, g2, g3, g4, g5, g6]
def isCode : Jvm.Cond → Bool
  | .code _ _ _ _ => true
  | _ => false
theorem all_split {L : List Jvm.Cond} {P : Jvm.Cond → Bool} (h1 : L.all (fun c => isCode c || P c) = true) (h2 : ∀ c ∈ L.filter isCode, P c = true) : L.all P = true := by
  refine List.all_eq_true.mpr fun c hc => ?_
  have h := List.all_eq_true.mp h1 c hc
  rcases Bool.eq_false_or_eq_true (isCode c) with hi | hi
  · exact h2 c (List.mem_filter.mpr ⟨hc, hi⟩)
  · simpa [hi] using h
set_option maxRecDepth 65536 in
theorem w_c0 : (Jvm.Cond.code x code maxLocals ret).before args0 about1 = true := code_word (m := ⟨1, 2⟩) (meth := k1m2) (c := k1c2) (by decide +kernel) rfl rfl rfl (by decide +kernel)
set_option maxRecDepth 65536 in
theorem w_c1 : (Jvm.Cond.code ({ cls := "com/example/trustee/trustee/Quoted", name := "needsEscape", desc := "(I)Z" } : Jvm.MethodName) prog_24_method_4_code (1 : Nat) (Option.some Jvm.ClassFile.FieldType.boolean)).before args0 about1 = true := code_word (m := ⟨2, 1⟩) (meth := k2m1) (c := k2c1) (by decide +kernel) rfl rfl rfl (by decide +kernel)
set_option maxRecDepth 65536 in
theorem w_c2 : (Jvm.Cond.code ({ cls := "java/lang/Character", name := "isISOControl", desc := "(I)Z" } : Jvm.MethodName) jdk_89_method_89_code (1 : Nat) (Option.some Jvm.ClassFile.FieldType.boolean)).before args0 about1 = true := code_word (m := ⟨6, 0⟩) (meth := k6m0) (c := k6c0) (by decide +kernel) rfl rfl rfl (by decide +kernel)
set_option maxRecDepth 65536 in
theorem w_c3 : (Jvm.Cond.code ({ cls := "com/example/trustee/trustee/QuotedNeedsEscapePinLaw", name := "expected", desc := "(I)Z" } : Jvm.MethodName) method_2_code (1 : Nat) (Option.some Jvm.ClassFile.FieldType.boolean)).before args0 about1 = true := code_word (m := ⟨1, 1⟩) (meth := k1m1) (c := k1c1) (by decide +kernel) rfl rfl rfl (by decide +kernel)
def codes1 : List Jvm.Cond := [Jvm.Cond.code x code maxLocals ret, Jvm.Cond.code ({ cls := "com/example/trustee/trustee/Quoted", name := "needsEscape", desc := "(I)Z" } : Jvm.MethodName) prog_24_method_4_code (1 : Nat) (Option.some Jvm.ClassFile.FieldType.boolean), Jvm.Cond.code ({ cls := "java/lang/Character", name := "isISOControl", desc := "(I)Z" } : Jvm.MethodName) jdk_89_method_89_code (1 : Nat) (Option.some Jvm.ClassFile.FieldType.boolean), Jvm.Cond.code ({ cls := "com/example/trustee/trustee/QuotedNeedsEscapePinLaw", name := "expected", desc := "(I)Z" } : Jvm.MethodName) method_2_code (1 : Nat) (Option.some Jvm.ClassFile.FieldType.boolean)]
set_option maxRecDepth 65536 in
theorem codes_eq : words1.filter isCode = codes1 := rfl
theorem w_codes : ∀ c ∈ words1.filter isCode, c.before args0 about1 = true := by
  rw [codes_eq]
  intro c hc
  simp only [codes1, List.mem_cons, List.not_mem_nil, or_false] at hc
  rcases hc with rfl | rfl | rfl | rfl
  · exact w_c0
  · exact w_c1
  · exact w_c2
  · exact w_c3
set_option maxRecDepth 65536 in
theorem w_t1 : words1.all (fun c => isCode c || c.before args0 about1) = true := by decide +kernel
theorem w_tables : (allAtoms (Jvm.Cond.code x code maxLocals ret :: tables_1)).before args0 about1 = true := by
  rw [allAtoms_all]
  show words1.all (fun c => c.before args0 about1) = true
  refine all_split ?_ w_codes
  rw [w_t1]
set_option maxRecDepth 65536 in
theorem w_case : (Jvm.Cond.and given_1 narrow_1).before args0 about1 = true := by decide +kernel
theorem w_applies : (headSpec (Jvm.Cond.code x code maxLocals ret :: tables_1) room_1).applies x e0.platform about1 = true :=
  (Spec.applies_iff w_frames).mpr ⟨w_running, w_runnable, w_alone, w_named, w_hears, w_ripe, w_room, w_tables⟩
theorem atStart : AtStart classFile x code maxLocals ret World_1 tables_1 room_1 Calls_1 rest_1 Pre_1 launch0 p0 e0 about1 theMethod args0 below0 :=
  ⟨lists_1, trivial, launch0.admits_env _ _ _, launch0.least_env, fairChoices_fair.cas, fairChoices_fair.clock, w_frames, w_args, w_heap, w_applies, trivial, trivial, w_case⟩
end start1
theorem witness_1 : WitnessClaimed_1 := ⟨start1.p0, start1.e0, start1.about1, start1.theMethod, start1.args0, start1.below0, start1.atStart⟩
end Jvm.Pilot.@@N@@
