import JvmDerived
import JvmDerived.Pilot.@@N@@Statement
import JvmDerived.Pilot.@@N@@Code
set_option linter.unusedVariables false
set_option linter.unusedSimpArgs false
namespace Jvm.Pilot.@@N@@
open Jvm Jvm.ClassFile Sem Op Lib Jvm.Free Jvm.Stand Jvm.LawKit Jvm.RoadKit Bundle Jvm.Pilot.@@N@@.Jvm.D
section Own
variable {p : Program} {l : Launch} {e : Env} {R : Room} {s : State} {m : MethodId} {args : Array Value} {below : List Frame} {meth : Method} {c : Code} {T T' : State} {locs : List Loc} {cells slots : Nat}
/-- from T with the frame f on top the method comes to its end; what it returns, the heap and the places written answer Q; at most C cells and N slots are new -/
def own_Fin (p : Program) (e : Env) (below : List Frame) (s : State) (C N : Nat) (Q : Option Value → Heap → List Loc → Prop) (T : State) (f : JFrame) : Prop :=
  ∃ s₂ o, Steps p.tables e below (T.setTop f) s₂ ∧ s₂.status = .running ∧ Ended s₂ below o ∧ ∃ v L, o = .returned v ∧ Q v s₂.heap L ∧ FrameEnd s o s₂ L C N
variable {C N : Nat} {Q : Option Value → Heap → List Loc → Prop} {f f' : JFrame}
theorem own_by (h : ∀ t, Steps p.tables e below (T'.setTop f') t → Steps p.tables e below (T.setTop f) t) (k : own_Fin p e below s C N Q T' f') : own_Fin p e below s C N Q T f := by
  obtain ⟨s2, o, h1, h2⟩ := k
  exact ⟨s2, o, h _ h1, h2⟩
theorem own_start (q : f = f') (k : own_Fin p e below s C N Q T f') : ∃ s₂ o, Steps p.tables e below (T.setTop f) s₂ ∧ s₂.status = .running ∧ Ended s₂ below o ∧ ∃ v L, o = .returned v ∧ Q v s₂.heap L ∧ FrameEnd s o s₂ L C N := by
  subst q; exact k
theorem own_leaf (X : Stand p l e R s m args below meth c T locs cells slots) (hlk : meth.locks = false) {v : Option Value} (hv : meth.sig.returnType = none → v = none)
    (hs : ∀ fs, (∀ (f : JFrame) (acts : List Action), f.method = m → f.locked = none → f.entered = [] → (doReturn e (T.setTop f) acts v).1 = T.setFrames fs) → Steps p.tables e below (T.setTop f) (T.setFrames fs))
    (hQ : Q v T.heap locs) (hc : cells ≤ C) (hn : slots ≤ N) : own_Fin p e below s C N Q T f := by
  obtain ⟨fs, hr, hrun, hended, hW, hsame⟩ := X.leave (v := v) hv hlk
  exact ⟨_, _, hs fs hr, hrun, hended, _, _, rfl, hQ, ⟨_, rfl⟩, hW, hsame.mono hc hn⟩
theorem own_retV (X : Stand p l e R s m args below meth c T locs cells slots) (hx : p.tables.exec = Jvm.exec) (hlk : meth.locks = false) {pc : Nat} {Ls : Array Slot} (hret : meth.sig.returnType = none) (hd : decode c.code pc = .ok (.return_, 1))
    (hQ : Q none T.heap locs) (hc : cells ≤ C) (hn : slots ≤ N) : own_Fin p e below s C N Q T (mkF m pc Ls []) :=
  own_leaf X hlk (fun _ => rfl) (fun fs hr => X.returnOut hx hret hd hr) hQ hc hn
theorem own_retZ (X : Stand p l e R s m args below meth c T locs cells slots) (hx : p.tables.exec = Jvm.exec) (hlk : meth.locks = false) {pc : Nat} {Ls : Array Slot} {z : Int32} {t : FieldType} {rest : List Value} (hret : meth.sig.returnType = some t) (ht : t = .boolean ∨ t = .byte ∨ t = .char ∨ t = .short) (hd : decode c.code pc = .ok (.ireturn, 1))
    (hQ : Q (some (.int (nar t z))) T.heap locs) (hc : cells ≤ C) (hn : slots ≤ N) : own_Fin p e below s C N Q T (mkF m pc Ls (.int z :: rest)) :=
  own_leaf X hlk (fun h => by rw [hret] at h; cases h) (fun fs hr => retN X hx hret ht hd hr) hQ hc hn
theorem own_retO (X : Stand p l e R s m args below meth c T locs cells slots) (hx : p.tables.exec = Jvm.exec) (hlk : meth.locks = false) {pc : Nat} {Ls : Array Slot} {w : Value} {t : FieldType} {i : Instr} {rest : List Value} (hret : meth.sig.returnType = some t) (hn' : narrow t w = w)
    (hi : (i = .ireturn ∧ (t = .int ∨ t = .boolean ∨ t = .byte ∨ t = .char ∨ t = .short) ∧ ∃ z, w = .int z) ∨ (i = .lreturn ∧ t = .long ∧ ∃ z, w = .long z) ∨ (i = .dreturn ∧ t = .double ∧ ∃ z, w = .double z) ∨ (i = .freturn ∧ t = .float ∧ ∃ z, w = .float z) ∨ (i = .areturn ∧ t.isReference = true ∧ w.isRef = true))
    (hd : decode c.code pc = .ok (i, 1)) (hQ : Q (some w) T.heap locs) (hc : cells ≤ C) (hn : slots ≤ N) : own_Fin p e below s C N Q T (mkF m pc Ls (w :: rest)) :=
  own_leaf X hlk (fun h => by rw [hret] at h; cases h) (fun fs hr => retOut X hx hret hn' hi hd hr) hQ hc hn
theorem own_retI (X : Stand p l e R s m args below meth c T locs cells slots) (hx : p.tables.exec = Jvm.exec) (hlk : meth.locks = false) {pc : Nat} {Ls : Array Slot} {z : Int32} {rest : List Value} (hret : meth.sig.returnType = some .int) (hd : decode c.code pc = .ok (.ireturn, 1))
    (hQ : Q (some (.int z)) T.heap locs) (hc : cells ≤ C) (hn : slots ≤ N) : own_Fin p e below s C N Q T (mkF m pc Ls (.int z :: rest)) :=
  own_retO X hx hlk hret rfl (Or.inl ⟨rfl, Or.inl rfl, _, rfl⟩) hd hQ hc hn
theorem own_retJ (X : Stand p l e R s m args below meth c T locs cells slots) (hx : p.tables.exec = Jvm.exec) (hlk : meth.locks = false) {pc : Nat} {Ls : Array Slot} {z : Int64} {rest : List Value} (hret : meth.sig.returnType = some .long) (hd : decode c.code pc = .ok (.lreturn, 1))
    (hQ : Q (some (.long z)) T.heap locs) (hc : cells ≤ C) (hn : slots ≤ N) : own_Fin p e below s C N Q T (mkF m pc Ls (.long z :: rest)) :=
  own_retO X hx hlk hret rfl (Or.inr (Or.inl ⟨rfl, rfl, _, rfl⟩)) hd hQ hc hn
theorem own_retA (X : Stand p l e R s m args below meth c T locs cells slots) (hx : p.tables.exec = Jvm.exec) (hlk : meth.locks = false) {pc : Nat} {Ls : Array Slot} {w : Value} {t : FieldType} {rest : List Value} (hret : meth.sig.returnType = some t) (hr : t.isReference = true) (hn' : narrow t w = w) (hw : w.isRef = true) (hd : decode c.code pc = .ok (.areturn, 1))
    (hQ : Q (some w) T.heap locs) (hc : cells ≤ C) (hn : slots ≤ N) : own_Fin p e below s C N Q T (mkF m pc Ls (w :: rest)) :=
  own_retO X hx hlk hret hn' (Or.inr (Or.inr (Or.inr (Or.inr ⟨rfl, hr, hw⟩)))) hd hQ hc hn
/-- a room by its four numbers -/
abbrev own_R (f c s l : Nat) : Room := { frames := f, cells := c, slots := s, locals := l }
/-- the contract's form: called with A at a heap h0 it returns, and Q holds of what it returns, the heap and the places written -/
abbrev own_Met (l : Launch) (Z : State) (y : MethodName) (code : ByteArray) (ml : Nat) (ret : Option FieldType) (ws : List Jvm.Cond) (R : Room) (A : Array Value) (h0 : Heap) (Q : Option Value → Heap → List Loc → Prop) : Prop :=
  MetFree l y (head1 (Jvm.Cond.code y code ml ret :: ws) R) (fun a U => a = A ∧ Z.Warmed39 U.vm ∧ U.heap = h0) (fun _ _ _ _ _ => True) (fun _ U o U' => ∃ v L, o = .returned v ∧ Q v U'.heap L ∧ FrameEnd U o U' L R.cells R.slots)
theorem own_enter {Z : State} {y : MethodName} {code : ByteArray} {ml : Nat} {ret : Option FieldType} {ws : List Jvm.Cond} {A : Array Value} {h0 : Heap} {f0 : MethodId → JFrame} (n0 : Nat) (hpn : plainName y.cls = true) (hef : ∀ m, entryFrame m A ml = f0 m)
    (H : ∀ (p : Program) (e : Env) (s : State) (m : MethodId) (below : List Frame) (meth : Method) (c : Code) (s₁ : State), p.tables.exec = Jvm.exec → c.code = code → meth.locks = false → c.maxLocals = ml → meth.sig.returnType = ret → s.vm.findClass y.cls = some m.cls → meth.name = y.name →
      Z.Warmed39 s.vm → Stand p l e R s m A below meth c s₁ [] 0 0 → s₁.heap = h0 → Fr n0 [] → own_Fin p e below s R.cells R.slots Q s₁ (f0 m)) : own_Met l Z y code ml ret ws R A h0 Q := by
  refine MetFree.of_bodySF (plainFor_of_name hpn) hisR ?_
  intro p e s m args below meth c s₁ Bd hml hP _
  obtain ⟨rfl, hZ, hh⟩ := hP
  have q := H p e s m below meth c s₁ Bd.exec Bd.bytes Bd.notSynchronized hml Bd.returns (findClass_of_methodNamed Bd.named) (name_of_methodNamed Bd.named Bd.method).1 hZ (Stand.of_body Bd) (by rw [← hh, Bd.state]; rfl) (Fr.nil n0)
  rw [hef m]
  exact q
end Own
theorem own_vi {a b : Int32} (h : a = b) : some (Value.int a) = some (Value.int b) := h ▸ rfl
theorem own_words (p1 : Int64) : ∃ z : Int32, (((((p1 &&& (16383 : Int64)) + (64 : Int64)) - (1 : Int64)) / (64 : Int64)).toInt32) = z ∧ ¬ z < 0 ∧ z.toNatClampNeg ≤ 256 ∧ ((lcmpW ((p1 &&& (16383 : Int64)) - (p1 &&& (16383 : Int64)) / (64 : Int64) * (64 : Int64)) (0 : Int64)) = (0 : Int32) → (((p1 &&& (16383 : Int64)) / (64 : Int64)).toInt32 + (0 : Int32)) = z) ∧ (¬ (lcmpW ((p1 &&& (16383 : Int64)) - (p1 &&& (16383 : Int64)) / (64 : Int64) * (64 : Int64)) (0 : Int64)) = (0 : Int32) → (((p1 &&& (16383 : Int64)) / (64 : Int64)).toInt32 + (1 : Int32)) = z) := by
  have m := c_maskL p1 16383 14 (by decide) (by decide)
  obtain ⟨b, hb⟩ : ∃ b, b = (p1 &&& (16383 : Int64)) := ⟨_, rfl⟩
  rw [← hb] at m ⊢
  have k64 : (64 : Int64).toInt = 64 := by decide
  have k1 : (1 : Int64).toInt = 1 := by decide
  have k0 : (0 : Int64).toInt = 0 := by decide
  have j1 : (1 : Int32).toInt = 1 := by decide
  have j0 : (0 : Int32).toInt = 0 := by decide
  have m' : b.toInt = p1.toInt % 16384 := m
  have r0 : 0 ≤ b.toInt ∧ b.toInt < 16384 := by omega
  have a1 := c_ladd b 64
  have a1l := Int64.toInt_lt (b + 64)
  have a1g := Int64.le_toInt (b + 64)
  have a2 := c_lsub (b + 64) 1
  have a2l := Int64.toInt_lt (b + 64 - 1)
  have a2g := Int64.le_toInt (b + 64 - 1)
  have a3 : (b + 64 - 1).toInt = b.toInt + 63 := by omega
  have d1 := (c_ldiv (b + 64 - 1) 64 64 k64 (by decide)).1 (by omega)
  have d2 := (c_ldiv b 64 64 k64 (by decide)).1 (by omega)
  have i1 := c_l2i ((b + 64 - 1) / 64)
  have i1l := Int32.toInt_lt ((b + 64 - 1) / 64).toInt32
  have i1g := Int32.le_toInt ((b + 64 - 1) / 64).toInt32
  have i2 := c_l2i (b / 64)
  have i2l := Int32.toInt_lt (b / 64).toInt32
  have i2g := Int32.le_toInt (b / 64).toInt32
  have e1 : ((b + 64 - 1) / 64).toInt32.toInt = (b.toInt + 63) / 64 := by omega
  have e2 : (b / 64).toInt32.toInt = b.toInt / 64 := by omega
  have s0 := c_iadd (b / 64).toInt32 0
  have s0l := Int32.toInt_lt ((b / 64).toInt32 + 0)
  have s0g := Int32.le_toInt ((b / 64).toInt32 + 0)
  have s1 := c_iadd (b / 64).toInt32 1
  have s1l := Int32.toInt_lt ((b / 64).toInt32 + 1)
  have s1g := Int32.le_toInt ((b / 64).toInt32 + 1)
  have rr := (c_lrem b 64 64 k64).1 (by omega)
  refine ⟨_, rfl, ?_, ?_, fun h => ?_, fun h => ?_⟩
  · rw [Int32.lt_iff_toInt_lt, e1, j0]; omega
  · unfold Int32.toNatClampNeg; rw [e1]; omega
  · have q := (lw_eq _ _).mp h
    have q' := congrArg Int64.toInt q
    rw [rr, k0] at q'
    apply Int32.toInt_inj.mp
    rw [e1]; omega
  · have q : ¬ b.toInt % 64 = 0 := fun q => h ((lw_eq _ _).mpr (Int64.toInt_inj.mp (by rw [rr, k0, q])))
    apply Int32.toInt_inj.mp
    rw [e1]; omega
theorem own_idx (k z : Int32) (h0 : ¬ z < 0) (h1 : ¬ z = (0 : Int32)) : ∃ i : Int32, ((k &&& (2147483647 : Int32)) % z) = i ∧ ¬ i < 0 ∧ i < z ∧ (0 : Int32) < z ∧ ¬ (z - (1 : Int32)) < 0 ∧ (z - (1 : Int32)) < z := by
  have j0 : (0 : Int32).toInt = 0 := by decide
  have j1 : (1 : Int32).toInt = 1 := by decide
  have m := c_and k 2147483647 (by decide)
  have z0 : ¬ z.toInt = 0 := fun q => h1 (Int32.toInt_inj.mp (by rw [q, j0]))
  rw [Int32.lt_iff_toInt_lt, j0] at h0
  have r := (c_iremV (k &&& 2147483647) z).1 m.1 (by omega)
  have s := c_isub z 1
  have sl := Int32.toInt_lt (z - 1)
  have sg := Int32.le_toInt (z - 1)
  have zl := Int32.toInt_lt z
  refine ⟨_, rfl, ?_, ?_, ?_, ?_, ?_⟩ <;> rw [Int32.lt_iff_toInt_lt] <;> omega
theorem own_pn1 : plainName "com/example/fading_filter/fadingfilter/model/Words" = true := by first | (simp [plainName, overriddenIn]; done) | decide +kernel
theorem d1_0 : decode prog_49_method_2_code 0 = .ok (.lload_n 0, 1) := by decide +kernel
theorem d1_1 : decode prog_49_method_2_code 1 = .ok (.ldc2_w 9, 3) := by decide +kernel
theorem d1_4 : decode prog_49_method_2_code 4 = .ok (.ladd, 1) := by decide +kernel
theorem d1_5 : decode prog_49_method_2_code 5 = .ok (.lconst 1, 1) := by decide +kernel
theorem d1_6 : decode prog_49_method_2_code 6 = .ok (.lsub, 1) := by decide +kernel
theorem d1_7 : decode prog_49_method_2_code 7 = .ok (.ldc2_w 9, 3) := by decide +kernel
theorem d1_10 : decode prog_49_method_2_code 10 = .ok (.ldiv, 1) := by decide +kernel
theorem d1_11 : decode prog_49_method_2_code 11 = .ok (.l2i, 1) := by decide +kernel
theorem d1_12 : decode prog_49_method_2_code 12 = .ok (.newarray .long, 2) := by decide +kernel
theorem d1_14 : decode prog_49_method_2_code 14 = .ok (.areturn, 1) := by decide +kernel
theorem ef_rm1 (m : MethodId) (x0 : Int64) : entryFrame m #[(.long x0)] 2 = mkF m 0 #[.val (.long x0), .second] [] := by first | (simp [entryFrame, mkF, argsToLocals, Value.category]; done) | rfl
def own_Q1 (Z : State) (z : Int32) (h0 : Heap) (n0 : Nat) (v : Option Value) (h : Heap) (L : List Loc) : Prop := ∃ (a : Addr) (k : ClassId), v = some (.ref a) ∧ Fr n0 L ∧ Keep h0 h [] ∧ h0.size = a ∧ Arv Z h a k .long z [] (.long (0 : Int64))
set_option maxRecDepth 65536 in
set_option maxHeartbeats 40000000 in
theorem rm1 (l : Launch) (Z : State) (a0 : Array Value) (hw : ∀ d ∈ tables_1, d.before a0 Z = true) (ws : List Jvm.Cond) (p1 : Int64) (z : Int32) (h0 : Heap) (n0 : Nat) (Z0 : n0 ≤ h0.size) (hz : ((((p1 + (64 : Int64)) - (1 : Int64)) / (64 : Int64)).toInt32) = z) (hz0 : ¬ z < 0) (hz1 : z.toNatClampNeg ≤ 256) : own_Met l Z (⟨"com/example/fading_filter/fadingfilter/model/Words", "of", "(J)[J"⟩ : MethodName) prog_49_method_2_code 2 (some (.array .long)) ws (own_R 0 1 256 0) #[(.long p1)] h0 (own_Q1 Z z h0 n0) := by
  refine own_enter n0 own_pn1 (fun m => ef_rm1 m p1 ) (fun p e s m below meth c s₁ hx hby hlk hml hret hown hnm hZ X0 e0 N0 => ?_)
  show own_Fin p e below s _ _ _ s₁ (mkF m 0 #[.val (.long p1), .second] [])
  have Kp1 : Keep h0 h0 [] := Keep.refl h0 _
  refine own_by (fun _ k => XS.lloadN X0.here hx rfl (hb hby d1_0) rfl k) ?_
  show own_Fin p e below s _ _ _ s₁ (mkF m 1 #[.val (.long p1), .second] [(.long p1)])
  refine own_by (fun _ k => X0.ldc2Long hx hown (mvT hZ (hw _ (List.mem_of_getElem? (i := 5) rfl))) (g := (mkF m 1 #[.val (.long p1), .second] [(.long p1)])) rfl (hb hby d1_1) _ k) ?_
  show own_Fin p e below s _ _ _ s₁ (mkF m 4 #[.val (.long p1), .second] [(.long (64 : Int64)), (.long p1)])
  refine own_by (fun _ k => XS.ladd X0.here hx rfl (hb hby d1_4) rfl (XS.lconst X0.here hx rfl (hb hby d1_5) (XS.lsub X0.here hx rfl (hb hby d1_6) rfl k))) ?_
  show own_Fin p e below s _ _ _ s₁ (mkF m 7 #[.val (.long p1), .second] [(.long ((p1 + (64 : Int64)) - (1 : Int64)))])
  refine own_by (fun _ k => X0.ldc2Long hx hown (mvT hZ (hw _ (List.mem_of_getElem? (i := 5) rfl))) (g := (mkF m 7 #[.val (.long p1), .second] [(.long ((p1 + (64 : Int64)) - (1 : Int64)))])) rfl (hb hby d1_7) _ k) ?_
  show own_Fin p e below s _ _ _ s₁ (mkF m 10 #[.val (.long p1), .second] [(.long (64 : Int64)), (.long ((p1 + (64 : Int64)) - (1 : Int64)))])
  refine own_by (fun _ k => XS.ldiv X0.here hx rfl (hb hby d1_10) rfl (by decide) (XS.l2i X0.here hx rfl (hb hby d1_11) rfl k)) ?_
  show own_Fin p e below s _ _ _ s₁ (mkF m 12 #[.val (.long p1), .second] [(.int ((((p1 + (64 : Int64)) - (1 : Int64)) / (64 : Int64)).toInt32))])
  rw [hz]
  show own_Fin p e below s _ _ _ s₁ (mkF m 12 #[.val (.long p1), .second] [(.int z)])
  obtain ⟨T2, h2, k2, X2, e2, E2, A2, st2⟩ := newP X0 hx hZ (hw _ (List.mem_of_getElem? (i := 6) rfl)) e0 (g := (mkF m 12 #[.val (.long p1), .second] [(.int z)])) rfl (hb hby d1_12) rfl hz0 (cap := 256) hz1 (by decide) (by decide) (by decide)
  obtain ⟨b2, g2⟩ : ∃ z, z = h0.size := ⟨_, rfl⟩
  rw [← g2] at A2 st2
  refine own_by (fun _ k => st2 _ k) ?_
  have V2 : Arv Z h2 b2 k2 .long z [] (.long (0 : Int64)) := Arv.new A2 hz0
  have gf2 : n0 ≤ b2 := Nat.le_trans Z0 (Nat.le_of_eq g2.symm)
  have Zs2 : n0 ≤ h2.size := Nat.le_trans Z0 E2.1
  have Kp2 : Keep h0 h2 [] := Kp1.ext E2
  have sz_b2 : h0.size ≤ b2 := Nat.le_trans Kp1.1 (Nat.le_of_eq g2.symm)
  show own_Fin p e below s _ _ _ T2 (mkF m 14 #[.val (.long p1), .second] [(.ref b2)])
  exact own_retA X2 hx hlk (t := (.array .long)) hret rfl rfl rfl (hb hby d1_14) (by rw [e2]; exact ⟨_, _, rfl, N0, Kp2, g2.symm, V2⟩) (by decide) (by decide)
theorem own_pn13 : plainName "com/example/fading_filter/fadingfilter/model/WordsOfPinLaw" = true := by first | (simp [plainName, overriddenIn]; done) | decide +kernel
theorem own_pd14 : parseMethodDescriptor "(J)[J" = some ⟨[.long], some (.array .long)⟩ := by decide +kernel
theorem ef_rm0 (m : MethodId) (x0 : Int64) (x1 : Int32) : entryFrame m #[(.long x0), (.int x1)] maxLocals = mkF m 0 #[.val (.long x0), .second, .val (.int x1), .unset, .unset, .unset, .unset, .unset, .unset, .unset] [] := by first | (simp [entryFrame, mkF, argsToLocals, Value.category, maxLocals]; done) | rfl
def own_Q0 (n0 : Nat) (v : Option Value) (h : Heap) (L : List Loc) : Prop := v = some (.int (1 : Int32)) ∧ Fr n0 L
set_option maxRecDepth 65536 in
set_option maxHeartbeats 40000000 in
theorem rm0 (l : Launch) (Z : State) (a0 : Array Value) (hw : ∀ d ∈ tables_1, d.before a0 Z = true) (ws : List Jvm.Cond) (p1 : Int64) (p2 : Int32) (h0 : Heap) (n0 : Nat) (Z0 : n0 ≤ h0.size)  :
    MetFree l x (head1 (Jvm.Cond.code x code maxLocals ret :: ws) room_1) (fun a U => a = #[(.long p1), (.int p2)] ∧ Z.Warmed39 U.vm ∧ U.heap = h0) (fun _ _ _ _ _ => True) (fun _ U o U' => ∃ v L, o = .returned v ∧ own_Q0 n0 v U'.heap L ∧ FrameEnd U o U' L room_1.cells room_1.slots) := by
  refine MetFree.of_bodySF (plainFor_of_name own_pn13) hisR ?_
  intro p e s m args below meth c s₁ Bd hml0 hP hK
  obtain ⟨rfl, hZ, hh⟩ := hP
  have hx := Bd.exec
  have hby := Bd.bytes
  have hlk := Bd.notSynchronized
  have hml : c.maxLocals = 10 := hml0
  have hown : s.vm.findClass "com/example/fading_filter/fadingfilter/model/WordsOfPinLaw" = some m.cls := findClass_of_methodNamed Bd.named
  have hnm := (name_of_methodNamed Bd.named Bd.method).1
  have X0 : Stand p l e room_1 s m #[(.long p1), (.int p2)] below meth c s₁ [] 0 0 := Stand.of_body Bd
  have e0 : s₁.heap = h0 := by rw [← hh, Bd.state]; rfl
  have N0 := Fr.nil n0
  refine own_start (Q := own_Q0 n0) (C := room_1.cells) (N := room_1.slots) (ef_rm0 m p1 p2 ) ?_
  show own_Fin p e below s _ _ _ s₁ (mkF m 0 #[.val (.long p1), .second, .val (.int p2), .unset, .unset, .unset, .unset, .unset, .unset, .unset] [])
  refine own_by (fun _ k => XS.lloadN X0.here hx rfl (hb hby at_0) rfl k) ?_
  show own_Fin p e below s _ _ _ s₁ (mkF m 1 #[.val (.long p1), .second, .val (.int p2), .unset, .unset, .unset, .unset, .unset, .unset, .unset] [(.long p1)])
  refine own_by (fun _ k => X0.ldc2Long hx hown (mvT hZ (hw _ (List.mem_of_getElem? (i := 0) rfl))) (g := (mkF m 1 #[.val (.long p1), .second, .val (.int p2), .unset, .unset, .unset, .unset, .unset, .unset, .unset] [(.long p1)])) rfl (hb hby at_1) _ k) ?_
  show own_Fin p e below s _ _ _ s₁ (mkF m 4 #[.val (.long p1), .second, .val (.int p2), .unset, .unset, .unset, .unset, .unset, .unset, .unset] [(.long (16383 : Int64)), (.long p1)])
  refine own_by (fun _ k => XS.land X0.here hx rfl (hb hby at_4) rfl (XS.lstoreN X0.here hx rfl (hb hby at_5) rfl (l' := #[.val (.long p1), .second, .val (.int p2), .val (.long (p1 &&& (16383 : Int64))), .second, .unset, .unset, .unset, .unset, .unset]) rfl k)) ?_
  show own_Fin p e below s _ _ _ s₁ (mkF m 6 #[.val (.long p1), .second, .val (.int p2), .val (.long (p1 &&& (16383 : Int64))), .second, .unset, .unset, .unset, .unset, .unset] [])
  obtain ⟨z, hz, hz0, hz1, hza, hzb⟩ := own_words p1
  refine own_by (fun _ k => XS.lloadN X0.here hx rfl (hb hby at_6) rfl k) ?_
  show own_Fin p e below s _ _ _ s₁ (mkF m 7 #[.val (.long p1), .second, .val (.int p2), .val (.long (p1 &&& (16383 : Int64))), .second, .unset, .unset, .unset, .unset, .unset] [(.long (p1 &&& (16383 : Int64)))])
  obtain ⟨_, _, ⟨T4, L4, k4, n4⟩, -, X4, ⟨Lc4, hQ4, l4, y4, z4⟩, st4⟩ := Jvm.LawKit.callS X0 hx (y := (⟨"com/example/fading_filter/fadingfilter/model/Words", "of", "(J)[J"⟩ : MethodName)) hown (mvT hZ (hw _ (List.mem_of_getElem? (i := 1) rfl))) (mvT hZ (hw _ (List.mem_of_getElem? (i := 2) rfl))) (mvT hZ (hw _ (List.mem_of_getElem? (i := 3) rfl))) (mvT hZ (hw _ (List.mem_of_getElem? (i := 4) rfl))) (by decide) (backOf (W := 0) (rm1 l Z a0 hw [] (p1 &&& (16383 : Int64)) z h0 n0 Z0 hz hz0 hz1) hZ (hw _ (List.mem_of_getElem? (i := 4) rfl)) (hw _ (List.mem_of_getElem? (i := 3) rfl)) (by decide) (by decide)) (g := (mkF m 7 #[.val (.long p1), .second, .val (.int p2), .val (.long (p1 &&& (16383 : Int64))), .second, .unset, .unset, .unset, .unset, .unset] [(.long (p1 &&& (16383 : Int64)))])) rfl (by rw [hml]; rfl) (argsL := [(.long (p1 &&& (16383 : Int64)))]) (rest := []) (lenOf own_pd14 rfl) rfl (by show 2 * 0 + _ ≤ _; exact Nat.le_of_eq rfl) (hb hby at_7) (fun _ _ => ⟨rfl, e0, (by decide : 0 + 1 ≤ _), (by decide : 0 + 256 ≤ _)⟩)
  dsimp only [Pt.U, Pt.locs, Pt.cells, Pt.slots] at X4 l4 y4 z4 st4 hQ4
  subst l4 y4 z4
  obtain ⟨b4, k4, rfl, Nq4, K4, ge4, V4⟩ := hQ4
  have N4 := Fr.app N0 Nq4
  refine own_by (fun _ k => st4 _ k) ?_
  have Zs4 : n0 ≤ T4.heap.size := Nat.le_trans Z0 K4.1
  have gf4 : n0 ≤ b4 := Nat.le_trans Z0 (Nat.le_of_eq ge4)
  show own_Fin p e below s _ _ _ T4 (mkF m 10 #[.val (.long p1), .second, .val (.int p2), .val (.long (p1 &&& (16383 : Int64))), .second, .unset, .unset, .unset, .unset, .unset] [(.ref b4)])
  refine own_by (fun _ k => XS.astore X4.here hx rfl (hb hby at_10) rfl rfl (l' := #[.val (.long p1), .second, .val (.int p2), .val (.long (p1 &&& (16383 : Int64))), .second, .val (.ref b4), .unset, .unset, .unset, .unset]) rfl (XS.lloadN X4.here hx rfl (hb hby at_12) rfl k)) ?_
  show own_Fin p e below s _ _ _ T4 (mkF m 13 #[.val (.long p1), .second, .val (.int p2), .val (.long (p1 &&& (16383 : Int64))), .second, .val (.ref b4), .unset, .unset, .unset, .unset] [(.long (p1 &&& (16383 : Int64)))])
  obtain ⟨_, _, ⟨T6, L6, k6, n6⟩, -, X6, ⟨Lc6, hQ6, l6, y6, z6⟩, st6⟩ := Jvm.LawKit.callS X4 hx (y := (⟨"com/example/fading_filter/fadingfilter/model/Words", "of", "(J)[J"⟩ : MethodName)) hown (mvT hZ (hw _ (List.mem_of_getElem? (i := 1) rfl))) (mvT hZ (hw _ (List.mem_of_getElem? (i := 2) rfl))) (mvT hZ (hw _ (List.mem_of_getElem? (i := 3) rfl))) (mvT hZ (hw _ (List.mem_of_getElem? (i := 4) rfl))) (by decide) (backOf (W := 0) (rm1 l Z a0 hw [] (p1 &&& (16383 : Int64)) z T4.heap n0 Zs4 hz hz0 hz1) hZ (hw _ (List.mem_of_getElem? (i := 4) rfl)) (hw _ (List.mem_of_getElem? (i := 3) rfl)) (by decide) (by decide)) (g := (mkF m 13 #[.val (.long p1), .second, .val (.int p2), .val (.long (p1 &&& (16383 : Int64))), .second, .val (.ref b4), .unset, .unset, .unset, .unset] [(.long (p1 &&& (16383 : Int64)))])) rfl (by rw [hml]; rfl) (argsL := [(.long (p1 &&& (16383 : Int64)))]) (rest := []) (lenOf own_pd14 rfl) rfl (by show 2 * 0 + _ ≤ _; exact Nat.le_of_eq rfl) (hb hby at_13) (fun _ _ => ⟨rfl, rfl, (by decide : 1 + 1 ≤ _), (by decide : 256 + 256 ≤ _)⟩)
  dsimp only [Pt.U, Pt.locs, Pt.cells, Pt.slots] at X6 l6 y6 z6 st6 hQ6
  subst l6 y6 z6
  obtain ⟨b6, k6, rfl, Nq6, K6, ge6, V6⟩ := hQ6
  have N6 := Fr.app N4 Nq6
  refine own_by (fun _ k => st6 _ k) ?_
  have Zs6 : n0 ≤ T6.heap.size := Nat.le_trans Zs4 K6.1
  have f7_0 : Arv Z T6.heap b4 k4 .long z [] (.long (0 : Int64)) := V4.keep K6 nin0
  have ne6_b4 : b4 ≠ b6 := Nat.ne_of_lt (Nat.lt_of_lt_of_le V4.lt (Nat.le_of_eq ge6))
  have gf6 : n0 ≤ b6 := Nat.le_trans Zs4 (Nat.le_of_eq ge6)
  show own_Fin p e below s _ _ _ T6 (mkF m 16 #[.val (.long p1), .second, .val (.int p2), .val (.long (p1 &&& (16383 : Int64))), .second, .val (.ref b4), .unset, .unset, .unset, .unset] [(.ref b6)])
  refine own_by (fun _ k => XS.astore X6.here hx rfl (hb hby at_16) rfl rfl (l' := #[.val (.long p1), .second, .val (.int p2), .val (.long (p1 &&& (16383 : Int64))), .second, .val (.ref b4), .val (.ref b6), .unset, .unset, .unset]) rfl (XS.lloadN X6.here hx rfl (hb hby at_18) rfl k)) ?_
  show own_Fin p e below s _ _ _ T6 (mkF m 19 #[.val (.long p1), .second, .val (.int p2), .val (.long (p1 &&& (16383 : Int64))), .second, .val (.ref b4), .val (.ref b6), .unset, .unset, .unset] [(.long (p1 &&& (16383 : Int64)))])
  refine own_by (fun _ k => X6.ldc2Long hx hown (mvT hZ (hw _ (List.mem_of_getElem? (i := 7) rfl))) (g := (mkF m 19 #[.val (.long p1), .second, .val (.int p2), .val (.long (p1 &&& (16383 : Int64))), .second, .val (.ref b4), .val (.ref b6), .unset, .unset, .unset] [(.long (p1 &&& (16383 : Int64)))])) rfl (hb hby at_19) _ k) ?_
  show own_Fin p e below s _ _ _ T6 (mkF m 22 #[.val (.long p1), .second, .val (.int p2), .val (.long (p1 &&& (16383 : Int64))), .second, .val (.ref b4), .val (.ref b6), .unset, .unset, .unset] [(.long (64 : Int64)), (.long (p1 &&& (16383 : Int64)))])
  refine own_by (fun _ k => XS.ldiv X6.here hx rfl (hb hby at_22) rfl (by decide) (XS.l2i X6.here hx rfl (hb hby at_23) rfl (XS.lloadN X6.here hx rfl (hb hby at_24) rfl k))) ?_
  show own_Fin p e below s _ _ _ T6 (mkF m 25 #[.val (.long p1), .second, .val (.int p2), .val (.long (p1 &&& (16383 : Int64))), .second, .val (.ref b4), .val (.ref b6), .unset, .unset, .unset] [(.long (p1 &&& (16383 : Int64))), (.int (((p1 &&& (16383 : Int64)) / (64 : Int64)).toInt32))])
  refine own_by (fun _ k => X6.ldc2Long hx hown (mvT hZ (hw _ (List.mem_of_getElem? (i := 7) rfl))) (g := (mkF m 25 #[.val (.long p1), .second, .val (.int p2), .val (.long (p1 &&& (16383 : Int64))), .second, .val (.ref b4), .val (.ref b6), .unset, .unset, .unset] [(.long (p1 &&& (16383 : Int64))), (.int (((p1 &&& (16383 : Int64)) / (64 : Int64)).toInt32))])) rfl (hb hby at_25) _ k) ?_
  show own_Fin p e below s _ _ _ T6 (mkF m 28 #[.val (.long p1), .second, .val (.int p2), .val (.long (p1 &&& (16383 : Int64))), .second, .val (.ref b4), .val (.ref b6), .unset, .unset, .unset] [(.long (64 : Int64)), (.long (p1 &&& (16383 : Int64))), (.int (((p1 &&& (16383 : Int64)) / (64 : Int64)).toInt32))])
  refine own_by (fun _ k => XS.lrem X6.here hx rfl (hb hby at_28) rfl (by decide) (XS.lconst X6.here hx rfl (hb hby at_29) (XS.lcmp X6.here hx rfl (hb hby at_30) rfl k))) ?_
  show own_Fin p e below s _ _ _ T6 (mkF m 31 #[.val (.long p1), .second, .val (.int p2), .val (.long (p1 &&& (16383 : Int64))), .second, .val (.ref b4), .val (.ref b6), .unset, .unset, .unset] [(.int (lcmpW ((p1 &&& (16383 : Int64)) - (p1 &&& (16383 : Int64)) / (64 : Int64) * (64 : Int64)) (0 : Int64))), (.int (((p1 &&& (16383 : Int64)) / (64 : Int64)).toInt32))])
  by_cases hc31_8 : (lcmpW ((p1 &&& (16383 : Int64)) - (p1 &&& (16383 : Int64)) / (64 : Int64) * (64 : Int64)) (0 : Int64)) = (0 : Int32)
  · show own_Fin p e below s _ _ _ T6 (mkF m 31 #[.val (.long p1), .second, .val (.int p2), .val (.long (p1 &&& (16383 : Int64))), .second, .val (.ref b4), .val (.ref b6), .unset, .unset, .unset] [(.int (lcmpW ((p1 &&& (16383 : Int64)) - (p1 &&& (16383 : Int64)) / (64 : Int64) * (64 : Int64)) (0 : Int64))), (.int (((p1 &&& (16383 : Int64)) / (64 : Int64)).toInt32))])
    refine own_by (fun _ k => XS.ifYes X6.here hx rfl (pc0 := 31) (pc' := 38) rfl (hb hby at_31) rfl ((if0 _ _).trans (teq hc31_8).1) (by decide) (by decide) k) ?_
    show own_Fin p e below s _ _ _ T6 (mkF m 38 #[.val (.long p1), .second, .val (.int p2), .val (.long (p1 &&& (16383 : Int64))), .second, .val (.ref b4), .val (.ref b6), .unset, .unset, .unset] [(.int (((p1 &&& (16383 : Int64)) / (64 : Int64)).toInt32))])
    refine own_by (fun _ k => XS.iconst X6.here hx rfl (hb hby at_38) (XS.iadd X6.here hx rfl (hb hby at_39) rfl k)) ?_
    show own_Fin p e below s _ _ _ T6 (mkF m 40 #[.val (.long p1), .second, .val (.int p2), .val (.long (p1 &&& (16383 : Int64))), .second, .val (.ref b4), .val (.ref b6), .unset, .unset, .unset] [(.int ((((p1 &&& (16383 : Int64)) / (64 : Int64)).toInt32) + (0 : Int32)))])
    rw [hza hc31_8]
    show own_Fin p e below s _ _ _ T6 (mkF m 40 #[.val (.long p1), .second, .val (.int p2), .val (.long (p1 &&& (16383 : Int64))), .second, .val (.ref b4), .val (.ref b6), .unset, .unset, .unset] [(.int z)])
    refine own_by (fun _ k => XS.istore X6.here hx rfl (hb hby at_40) rfl (l' := #[.val (.long p1), .second, .val (.int p2), .val (.long (p1 &&& (16383 : Int64))), .second, .val (.ref b4), .val (.ref b6), .val (.int z), .unset, .unset]) rfl (XS.aload X6.here hx rfl (hb hby at_42) rfl rfl k)) ?_
    show own_Fin p e below s _ _ _ T6 (mkF m 44 #[.val (.long p1), .second, .val (.int p2), .val (.long (p1 &&& (16383 : Int64))), .second, .val (.ref b4), .val (.ref b6), .val (.int z), .unset, .unset] [(.ref b4)])
    obtain ⟨cl9, Ar9, -, S9, M9, -, -⟩ := id f7_0
    refine own_by (fun _ k => X6.arraylength hx Ar9.1 (State.isArrayOf_alike hZ.alike Ar9.2.1) (g := (mkF m 44 #[.val (.long p1), .second, .val (.int p2), .val (.long (p1 &&& (16383 : Int64))), .second, .val (.ref b4), .val (.ref b6), .val (.int z), .unset, .unset] [(.ref b4)])) rfl rfl (hb hby at_44) _ k) ?_
    rw [len_of S9 M9]
    show own_Fin p e below s _ _ _ T6 (mkF m 45 #[.val (.long p1), .second, .val (.int p2), .val (.long (p1 &&& (16383 : Int64))), .second, .val (.ref b4), .val (.ref b6), .val (.int z), .unset, .unset] [(.int z)])
    refine own_by (fun _ k => XS.iload X6.here hx rfl (hb hby at_45) rfl k) ?_
    show own_Fin p e below s _ _ _ T6 (mkF m 47 #[.val (.long p1), .second, .val (.int p2), .val (.long (p1 &&& (16383 : Int64))), .second, .val (.ref b4), .val (.ref b6), .val (.int z), .unset, .unset] [(.int z), (.int z)])
    refine own_by (fun _ k => XS.icmpNo X6.here hx rfl (hb hby at_47) rfl (teq (rfl : z = z)).2 k) ?_
    show own_Fin p e below s _ _ _ T6 (mkF m 50 #[.val (.long p1), .second, .val (.int p2), .val (.long (p1 &&& (16383 : Int64))), .second, .val (.ref b4), .val (.ref b6), .val (.int z), .unset, .unset] [])
    refine own_by (fun _ k => XS.aload X6.here hx rfl (hb hby at_50) rfl rfl k) ?_
    show own_Fin p e below s _ _ _ T6 (mkF m 52 #[.val (.long p1), .second, .val (.int p2), .val (.long (p1 &&& (16383 : Int64))), .second, .val (.ref b4), .val (.ref b6), .val (.int z), .unset, .unset] [(.ref b6)])
    obtain ⟨cl10, Ar10, -, S10, M10, -, -⟩ := id V6
    refine own_by (fun _ k => X6.arraylength hx Ar10.1 (State.isArrayOf_alike hZ.alike Ar10.2.1) (g := (mkF m 52 #[.val (.long p1), .second, .val (.int p2), .val (.long (p1 &&& (16383 : Int64))), .second, .val (.ref b4), .val (.ref b6), .val (.int z), .unset, .unset] [(.ref b6)])) rfl rfl (hb hby at_52) _ k) ?_
    rw [len_of S10 M10]
    show own_Fin p e below s _ _ _ T6 (mkF m 53 #[.val (.long p1), .second, .val (.int p2), .val (.long (p1 &&& (16383 : Int64))), .second, .val (.ref b4), .val (.ref b6), .val (.int z), .unset, .unset] [(.int z)])
    refine own_by (fun _ k => XS.iload X6.here hx rfl (hb hby at_53) rfl k) ?_
    show own_Fin p e below s _ _ _ T6 (mkF m 55 #[.val (.long p1), .second, .val (.int p2), .val (.long (p1 &&& (16383 : Int64))), .second, .val (.ref b4), .val (.ref b6), .val (.int z), .unset, .unset] [(.int z), (.int z)])
    refine own_by (fun _ k => XS.icmpYes X6.here hx rfl (pc0 := 55) (pc' := 60) rfl (hb hby at_55) rfl (teq (rfl : z = z)).1 (by decide) (by decide) k) ?_
    show own_Fin p e below s _ _ _ T6 (mkF m 60 #[.val (.long p1), .second, .val (.int p2), .val (.long (p1 &&& (16383 : Int64))), .second, .val (.ref b4), .val (.ref b6), .val (.int z), .unset, .unset] [])
    refine own_by (fun _ k => XS.aload X6.here hx rfl (hb hby at_60) rfl rfl (XS.aload X6.here hx rfl (hb hby at_62) rfl rfl k)) ?_
    show own_Fin p e below s _ _ _ T6 (mkF m 64 #[.val (.long p1), .second, .val (.int p2), .val (.long (p1 &&& (16383 : Int64))), .second, .val (.ref b4), .val (.ref b6), .val (.int z), .unset, .unset] [(.ref b6), (.ref b4)])
    refine own_by (fun _ k => Jvm.RoadKit.acmp (g := (mkF m 64 #[.val (.long p1), .second, .val (.int p2), .val (.long (p1 &&& (16383 : Int64))), .second, .val (.ref b4), .val (.ref b6), .val (.int z), .unset, .unset] [(.ref b6), (.ref b4)])) X6 hx rfl rfl rfl (pc0 := 64) (pc' := 69) (same := false) rfl (hb hby at_64) rfl (decide_eq_false fun q => ne6_b4 (Value.ref.inj q)) (by decide) (by decide) k) ?_
    show own_Fin p e below s _ _ _ T6 (mkF m 69 #[.val (.long p1), .second, .val (.int p2), .val (.long (p1 &&& (16383 : Int64))), .second, .val (.ref b4), .val (.ref b6), .val (.int z), .unset, .unset] [])
    refine own_by (fun _ k => XS.iload X6.here hx rfl (hb hby at_69) rfl k) ?_
    show own_Fin p e below s _ _ _ T6 (mkF m 71 #[.val (.long p1), .second, .val (.int p2), .val (.long (p1 &&& (16383 : Int64))), .second, .val (.ref b4), .val (.ref b6), .val (.int z), .unset, .unset] [(.int z)])
    by_cases hc71_11 : z = (0 : Int32)
    · show own_Fin p e below s _ _ _ T6 (mkF m 71 #[.val (.long p1), .second, .val (.int p2), .val (.long (p1 &&& (16383 : Int64))), .second, .val (.ref b4), .val (.ref b6), .val (.int z), .unset, .unset] [(.int z)])
      refine own_by (fun _ k => XS.ifNo X6.here hx rfl (hb hby at_71) rfl ((if0 _ _).trans (teq hc71_11).2) k) ?_
      show own_Fin p e below s _ _ _ T6 (mkF m 74 #[.val (.long p1), .second, .val (.int p2), .val (.long (p1 &&& (16383 : Int64))), .second, .val (.ref b4), .val (.ref b6), .val (.int z), .unset, .unset] [])
      refine own_by (fun _ k => XS.iconst X6.here hx rfl (hb hby at_74) k) ?_
      show own_Fin p e below s _ _ _ T6 (mkF m 75 #[.val (.long p1), .second, .val (.int p2), .val (.long (p1 &&& (16383 : Int64))), .second, .val (.ref b4), .val (.ref b6), .val (.int z), .unset, .unset] [(.int (1 : Int32))])
      exact own_retZ X6 hx hlk (t := .boolean) Bd.returns (by simp) (hb hby at_75) ⟨rfl, N6⟩ (by decide) (by decide)
    · show own_Fin p e below s _ _ _ T6 (mkF m 71 #[.val (.long p1), .second, .val (.int p2), .val (.long (p1 &&& (16383 : Int64))), .second, .val (.ref b4), .val (.ref b6), .val (.int z), .unset, .unset] [(.int z)])
      refine own_by (fun _ k => XS.ifYes X6.here hx rfl (pc0 := 71) (pc' := 76) rfl (hb hby at_71) rfl ((if0 _ _).trans (feq hc71_11).2) (by decide) (by decide) k) ?_
      show own_Fin p e below s _ _ _ T6 (mkF m 76 #[.val (.long p1), .second, .val (.int p2), .val (.long (p1 &&& (16383 : Int64))), .second, .val (.ref b4), .val (.ref b6), .val (.int z), .unset, .unset] [])
      obtain ⟨i, hi, hi0, hi1, hzp, hzm0, hzm1⟩ := own_idx p2 z hz0 hc71_11
      refine own_by (fun _ k => XS.iloadN X6.here hx rfl (hb hby at_76) rfl k) ?_
      show own_Fin p e below s _ _ _ T6 (mkF m 77 #[.val (.long p1), .second, .val (.int p2), .val (.long (p1 &&& (16383 : Int64))), .second, .val (.ref b4), .val (.ref b6), .val (.int z), .unset, .unset] [(.int p2)])
      refine own_by (fun _ k => X6.ldcInt hx hown (mvT hZ (hw _ (List.mem_of_getElem? (i := 8) rfl))) (g := (mkF m 77 #[.val (.long p1), .second, .val (.int p2), .val (.long (p1 &&& (16383 : Int64))), .second, .val (.ref b4), .val (.ref b6), .val (.int z), .unset, .unset] [(.int p2)])) rfl (hb hby at_77) _ k) ?_
      show own_Fin p e below s _ _ _ T6 (mkF m 79 #[.val (.long p1), .second, .val (.int p2), .val (.long (p1 &&& (16383 : Int64))), .second, .val (.ref b4), .val (.ref b6), .val (.int z), .unset, .unset] [(.int (2147483647 : Int32)), (.int p2)])
      refine own_by (fun _ k => XS.iand X6.here hx rfl (hb hby at_79) rfl (XS.iload X6.here hx rfl (hb hby at_80) rfl (iremM X6 hx rfl (hb hby at_82) rfl hc71_11 k))) ?_
      show own_Fin p e below s _ _ _ T6 (mkF m 83 #[.val (.long p1), .second, .val (.int p2), .val (.long (p1 &&& (16383 : Int64))), .second, .val (.ref b4), .val (.ref b6), .val (.int z), .unset, .unset] [(.int ((p2 &&& (2147483647 : Int32)) % z))])
      rw [hi]
      show own_Fin p e below s _ _ _ T6 (mkF m 83 #[.val (.long p1), .second, .val (.int p2), .val (.long (p1 &&& (16383 : Int64))), .second, .val (.ref b4), .val (.ref b6), .val (.int z), .unset, .unset] [(.int i)])
      refine own_by (fun _ k => XS.istore X6.here hx rfl (hb hby at_83) rfl (l' := #[.val (.long p1), .second, .val (.int p2), .val (.long (p1 &&& (16383 : Int64))), .second, .val (.ref b4), .val (.ref b6), .val (.int z), .val (.int i), .unset]) rfl (XS.aload X6.here hx rfl (hb hby at_85) rfl rfl (XS.iconst X6.here hx rfl (hb hby at_87) k))) ?_
      show own_Fin p e below s _ _ _ T6 (mkF m 88 #[.val (.long p1), .second, .val (.int p2), .val (.long (p1 &&& (16383 : Int64))), .second, .val (.ref b4), .val (.ref b6), .val (.int z), .val (.int i), .unset] [(.int (0 : Int32)), (.ref b4)])
      obtain ⟨cl12, Ar12, -, S12, M12, H12, -⟩ := id f7_0
      have hin12 : ¬ ((0 : Int32) < 0 ∨ cl12.slots.size ≤ ((0 : Int32)).toNatClampNeg) := inb_of S12 ⟨by decide, hzp⟩
      have hat12 : cl12.slots[((0 : Int32)).toNatClampNeg]? = some (.long (0 : Int64)) := Has.at H12 hin12 rfl
      refine own_by (fun _ k => X6.laload hx (j := (0 : Int32)) (v := (.long (0 : Int64))) Ar12.1 (State.isArrayOf_alike hZ.alike Ar12.2.1) Ar12.2.2 hin12 hat12 (g := (mkF m 88 #[.val (.long p1), .second, .val (.int p2), .val (.long (p1 &&& (16383 : Int64))), .second, .val (.ref b4), .val (.ref b6), .val (.int z), .val (.int i), .unset] [(.int (0 : Int32)), (.ref b4)])) rfl rfl (hb hby at_88) _ k) ?_
      show own_Fin p e below s _ _ _ T6 (mkF m 89 #[.val (.long p1), .second, .val (.int p2), .val (.long (p1 &&& (16383 : Int64))), .second, .val (.ref b4), .val (.ref b6), .val (.int z), .val (.int i), .unset] [(.long (0 : Int64))])
      refine own_by (fun _ k => XS.lconst X6.here hx rfl (hb hby at_89) (XS.lcmp X6.here hx rfl (hb hby at_90) rfl k)) ?_
      show own_Fin p e below s _ _ _ T6 (mkF m 91 #[.val (.long p1), .second, .val (.int p2), .val (.long (p1 &&& (16383 : Int64))), .second, .val (.ref b4), .val (.ref b6), .val (.int z), .val (.int i), .unset] [(.int (lcmpW (0 : Int64) (0 : Int64)))])
      refine own_by (fun _ k => XS.ifNo X6.here hx rfl (hb hby at_91) rfl ((if0 _ _).trans (teq (by decide : (lcmpW (0 : Int64) (0 : Int64)) = (0 : Int32))).2) k) ?_
      show own_Fin p e below s _ _ _ T6 (mkF m 94 #[.val (.long p1), .second, .val (.int p2), .val (.long (p1 &&& (16383 : Int64))), .second, .val (.ref b4), .val (.ref b6), .val (.int z), .val (.int i), .unset] [])
      refine own_by (fun _ k => XS.aload X6.here hx rfl (hb hby at_94) rfl rfl (XS.iload X6.here hx rfl (hb hby at_96) rfl (XS.iconst X6.here hx rfl (hb hby at_98) (XS.isub X6.here hx rfl (hb hby at_99) rfl k)))) ?_
      show own_Fin p e below s _ _ _ T6 (mkF m 100 #[.val (.long p1), .second, .val (.int p2), .val (.long (p1 &&& (16383 : Int64))), .second, .val (.ref b4), .val (.ref b6), .val (.int z), .val (.int i), .unset] [(.int (z - (1 : Int32))), (.ref b4)])
      obtain ⟨cl13, Ar13, -, S13, M13, H13, -⟩ := id f7_0
      have hin13 : ¬ ((z - (1 : Int32)) < 0 ∨ cl13.slots.size ≤ ((z - (1 : Int32))).toNatClampNeg) := inb_of S13 ⟨hzm0, hzm1⟩
      have hat13 : cl13.slots[((z - (1 : Int32))).toNatClampNeg]? = some (.long (0 : Int64)) := Has.at H13 hin13 rfl
      refine own_by (fun _ k => X6.laload hx (j := (z - (1 : Int32))) (v := (.long (0 : Int64))) Ar13.1 (State.isArrayOf_alike hZ.alike Ar13.2.1) Ar13.2.2 hin13 hat13 (g := (mkF m 100 #[.val (.long p1), .second, .val (.int p2), .val (.long (p1 &&& (16383 : Int64))), .second, .val (.ref b4), .val (.ref b6), .val (.int z), .val (.int i), .unset] [(.int (z - (1 : Int32))), (.ref b4)])) rfl rfl (hb hby at_100) _ k) ?_
      show own_Fin p e below s _ _ _ T6 (mkF m 101 #[.val (.long p1), .second, .val (.int p2), .val (.long (p1 &&& (16383 : Int64))), .second, .val (.ref b4), .val (.ref b6), .val (.int z), .val (.int i), .unset] [(.long (0 : Int64))])
      refine own_by (fun _ k => XS.lconst X6.here hx rfl (hb hby at_101) (XS.lcmp X6.here hx rfl (hb hby at_102) rfl k)) ?_
      show own_Fin p e below s _ _ _ T6 (mkF m 103 #[.val (.long p1), .second, .val (.int p2), .val (.long (p1 &&& (16383 : Int64))), .second, .val (.ref b4), .val (.ref b6), .val (.int z), .val (.int i), .unset] [(.int (lcmpW (0 : Int64) (0 : Int64)))])
      refine own_by (fun _ k => XS.ifNo X6.here hx rfl (hb hby at_103) rfl ((if0 _ _).trans (teq (by decide : (lcmpW (0 : Int64) (0 : Int64)) = (0 : Int32))).2) k) ?_
      show own_Fin p e below s _ _ _ T6 (mkF m 106 #[.val (.long p1), .second, .val (.int p2), .val (.long (p1 &&& (16383 : Int64))), .second, .val (.ref b4), .val (.ref b6), .val (.int z), .val (.int i), .unset] [])
      refine own_by (fun _ k => XS.aload X6.here hx rfl (hb hby at_106) rfl rfl (XS.iload X6.here hx rfl (hb hby at_108) rfl k)) ?_
      show own_Fin p e below s _ _ _ T6 (mkF m 110 #[.val (.long p1), .second, .val (.int p2), .val (.long (p1 &&& (16383 : Int64))), .second, .val (.ref b4), .val (.ref b6), .val (.int z), .val (.int i), .unset] [(.int i), (.ref b4)])
      obtain ⟨cl14, Ar14, -, S14, M14, H14, -⟩ := id f7_0
      have hin14 : ¬ (i < 0 ∨ cl14.slots.size ≤ (i).toNatClampNeg) := inb_of S14 ⟨hi0, hi1⟩
      have hat14 : cl14.slots[(i).toNatClampNeg]? = some (.long (0 : Int64)) := Has.at H14 hin14 rfl
      refine own_by (fun _ k => X6.laload hx (j := i) (v := (.long (0 : Int64))) Ar14.1 (State.isArrayOf_alike hZ.alike Ar14.2.1) Ar14.2.2 hin14 hat14 (g := (mkF m 110 #[.val (.long p1), .second, .val (.int p2), .val (.long (p1 &&& (16383 : Int64))), .second, .val (.ref b4), .val (.ref b6), .val (.int z), .val (.int i), .unset] [(.int i), (.ref b4)])) rfl rfl (hb hby at_110) _ k) ?_
      show own_Fin p e below s _ _ _ T6 (mkF m 111 #[.val (.long p1), .second, .val (.int p2), .val (.long (p1 &&& (16383 : Int64))), .second, .val (.ref b4), .val (.ref b6), .val (.int z), .val (.int i), .unset] [(.long (0 : Int64))])
      refine own_by (fun _ k => XS.lconst X6.here hx rfl (hb hby at_111) (XS.lcmp X6.here hx rfl (hb hby at_112) rfl k)) ?_
      show own_Fin p e below s _ _ _ T6 (mkF m 113 #[.val (.long p1), .second, .val (.int p2), .val (.long (p1 &&& (16383 : Int64))), .second, .val (.ref b4), .val (.ref b6), .val (.int z), .val (.int i), .unset] [(.int (lcmpW (0 : Int64) (0 : Int64)))])
      refine own_by (fun _ k => XS.ifNo X6.here hx rfl (hb hby at_113) rfl ((if0 _ _).trans (teq (by decide : (lcmpW (0 : Int64) (0 : Int64)) = (0 : Int32))).2) k) ?_
      show own_Fin p e below s _ _ _ T6 (mkF m 116 #[.val (.long p1), .second, .val (.int p2), .val (.long (p1 &&& (16383 : Int64))), .second, .val (.ref b4), .val (.ref b6), .val (.int z), .val (.int i), .unset] [])
      refine own_by (fun _ k => XS.iconst X6.here hx rfl (hb hby at_116) (XS.goto X6.here hx rfl (pc0 := 117) (pc' := 121) rfl (hb hby at_117) (by decide) (by decide) (XS.istore X6.here hx rfl (hb hby at_121) rfl (l' := #[.val (.long p1), .second, .val (.int p2), .val (.long (p1 &&& (16383 : Int64))), .second, .val (.ref b4), .val (.ref b6), .val (.int z), .val (.int i), .val (.int (1 : Int32))]) rfl (XS.aload X6.here hx rfl (hb hby at_123) rfl rfl (XS.iload X6.here hx rfl (hb hby at_125) rfl (XS.lconst X6.here hx rfl (hb hby at_127) k)))))) ?_
      show own_Fin p e below s _ _ _ T6 (mkF m 128 #[.val (.long p1), .second, .val (.int p2), .val (.long (p1 &&& (16383 : Int64))), .second, .val (.ref b4), .val (.ref b6), .val (.int z), .val (.int i), .val (.int (1 : Int32))] [(.long (1 : Int64)), (.int i), (.ref b4)])
      obtain ⟨cl15, Ar15, q15, S15, M15, H15, G15⟩ := id f7_0
      have hin15 : ¬ (i < 0 ∨ cl15.slots.size ≤ (i).toNatClampNeg) := inb_of S15 ⟨hi0, hi1⟩
      obtain ⟨T15, h15, X15, e15, W15, st15⟩ := stJ X6 hx hZ rfl Ar15 (j := i) hin15 (g := (mkF m 128 #[.val (.long p1), .second, .val (.int p2), .val (.long (p1 &&& (16383 : Int64))), .second, .val (.ref b4), .val (.ref b6), .val (.int z), .val (.int i), .val (.int (1 : Int32))] [(.long (1 : Int64)), (.int i), (.ref b4)])) rfl rfl (hb hby at_128)
      refine own_by (fun _ k => st15 _ k) ?_
      have Zs15 : n0 ≤ h15.size := Nat.le_trans Zs6 (Keep.of_wr W15).1
      have N15 := Fr.snoc X15 N6 gf4
      have f16_1 : Arv Z h15 b6 k6 .long z [] (.long (0 : Int64)) := V6.other W15 (Ne.symm ne6_b4)
      show own_Fin p e below s _ _ _ T15 (mkF m 129 #[.val (.long p1), .second, .val (.int p2), .val (.long (p1 &&& (16383 : Int64))), .second, .val (.ref b4), .val (.ref b6), .val (.int z), .val (.int i), .val (.int (1 : Int32))] [])
      refine own_by (fun _ k => XS.iload X15.here hx rfl (hb hby at_129) rfl k) ?_
      show own_Fin p e below s _ _ _ T15 (mkF m 131 #[.val (.long p1), .second, .val (.int p2), .val (.long (p1 &&& (16383 : Int64))), .second, .val (.ref b4), .val (.ref b6), .val (.int z), .val (.int i), .val (.int (1 : Int32))] [(.int (1 : Int32))])
      refine own_by (fun _ k => XS.ifNo X15.here hx rfl (hb hby at_131) rfl ((if0 _ _).trans (feq (by decide : ¬ ((1 : Int32) = (0 : Int32)))).1) k) ?_
      show own_Fin p e below s _ _ _ T15 (mkF m 134 #[.val (.long p1), .second, .val (.int p2), .val (.long (p1 &&& (16383 : Int64))), .second, .val (.ref b4), .val (.ref b6), .val (.int z), .val (.int i), .val (.int (1 : Int32))] [])
      refine own_by (fun _ k => XS.aload X15.here hx rfl (hb hby at_134) rfl rfl (XS.iconst X15.here hx rfl (hb hby at_136) k)) ?_
      show own_Fin p e below s _ _ _ T15 (mkF m 137 #[.val (.long p1), .second, .val (.int p2), .val (.long (p1 &&& (16383 : Int64))), .second, .val (.ref b4), .val (.ref b6), .val (.int z), .val (.int i), .val (.int (1 : Int32))] [(.int (0 : Int32)), (.ref b6)])
      obtain ⟨cl17, Ar17, -, S17, M17, H17, -⟩ := id f16_1
      have hin17 : ¬ ((0 : Int32) < 0 ∨ cl17.slots.size ≤ ((0 : Int32)).toNatClampNeg) := inb_of S17 ⟨by decide, hzp⟩
      have hat17 : cl17.slots[((0 : Int32)).toNatClampNeg]? = some (.long (0 : Int64)) := Has.at H17 hin17 rfl
      refine own_by (fun _ k => X15.laload hx (j := (0 : Int32)) (v := (.long (0 : Int64))) (by rw [e15]; exact Ar17.1) (State.isArrayOf_alike hZ.alike Ar17.2.1) Ar17.2.2 hin17 hat17 (g := (mkF m 137 #[.val (.long p1), .second, .val (.int p2), .val (.long (p1 &&& (16383 : Int64))), .second, .val (.ref b4), .val (.ref b6), .val (.int z), .val (.int i), .val (.int (1 : Int32))] [(.int (0 : Int32)), (.ref b6)])) rfl rfl (hb hby at_137) _ k) ?_
      show own_Fin p e below s _ _ _ T15 (mkF m 138 #[.val (.long p1), .second, .val (.int p2), .val (.long (p1 &&& (16383 : Int64))), .second, .val (.ref b4), .val (.ref b6), .val (.int z), .val (.int i), .val (.int (1 : Int32))] [(.long (0 : Int64))])
      refine own_by (fun _ k => XS.lconst X15.here hx rfl (hb hby at_138) (XS.lcmp X15.here hx rfl (hb hby at_139) rfl k)) ?_
      show own_Fin p e below s _ _ _ T15 (mkF m 140 #[.val (.long p1), .second, .val (.int p2), .val (.long (p1 &&& (16383 : Int64))), .second, .val (.ref b4), .val (.ref b6), .val (.int z), .val (.int i), .val (.int (1 : Int32))] [(.int (lcmpW (0 : Int64) (0 : Int64)))])
      refine own_by (fun _ k => XS.ifNo X15.here hx rfl (hb hby at_140) rfl ((if0 _ _).trans (teq (by decide : (lcmpW (0 : Int64) (0 : Int64)) = (0 : Int32))).2) k) ?_
      show own_Fin p e below s _ _ _ T15 (mkF m 143 #[.val (.long p1), .second, .val (.int p2), .val (.long (p1 &&& (16383 : Int64))), .second, .val (.ref b4), .val (.ref b6), .val (.int z), .val (.int i), .val (.int (1 : Int32))] [])
      refine own_by (fun _ k => XS.aload X15.here hx rfl (hb hby at_143) rfl rfl (XS.iload X15.here hx rfl (hb hby at_145) rfl (XS.iconst X15.here hx rfl (hb hby at_147) (XS.isub X15.here hx rfl (hb hby at_148) rfl k)))) ?_
      show own_Fin p e below s _ _ _ T15 (mkF m 149 #[.val (.long p1), .second, .val (.int p2), .val (.long (p1 &&& (16383 : Int64))), .second, .val (.ref b4), .val (.ref b6), .val (.int z), .val (.int i), .val (.int (1 : Int32))] [(.int (z - (1 : Int32))), (.ref b6)])
      obtain ⟨cl18, Ar18, -, S18, M18, H18, -⟩ := id f16_1
      have hin18 : ¬ ((z - (1 : Int32)) < 0 ∨ cl18.slots.size ≤ ((z - (1 : Int32))).toNatClampNeg) := inb_of S18 ⟨hzm0, hzm1⟩
      have hat18 : cl18.slots[((z - (1 : Int32))).toNatClampNeg]? = some (.long (0 : Int64)) := Has.at H18 hin18 rfl
      refine own_by (fun _ k => X15.laload hx (j := (z - (1 : Int32))) (v := (.long (0 : Int64))) (by rw [e15]; exact Ar18.1) (State.isArrayOf_alike hZ.alike Ar18.2.1) Ar18.2.2 hin18 hat18 (g := (mkF m 149 #[.val (.long p1), .second, .val (.int p2), .val (.long (p1 &&& (16383 : Int64))), .second, .val (.ref b4), .val (.ref b6), .val (.int z), .val (.int i), .val (.int (1 : Int32))] [(.int (z - (1 : Int32))), (.ref b6)])) rfl rfl (hb hby at_149) _ k) ?_
      show own_Fin p e below s _ _ _ T15 (mkF m 150 #[.val (.long p1), .second, .val (.int p2), .val (.long (p1 &&& (16383 : Int64))), .second, .val (.ref b4), .val (.ref b6), .val (.int z), .val (.int i), .val (.int (1 : Int32))] [(.long (0 : Int64))])
      refine own_by (fun _ k => XS.lconst X15.here hx rfl (hb hby at_150) (XS.lcmp X15.here hx rfl (hb hby at_151) rfl k)) ?_
      show own_Fin p e below s _ _ _ T15 (mkF m 152 #[.val (.long p1), .second, .val (.int p2), .val (.long (p1 &&& (16383 : Int64))), .second, .val (.ref b4), .val (.ref b6), .val (.int z), .val (.int i), .val (.int (1 : Int32))] [(.int (lcmpW (0 : Int64) (0 : Int64)))])
      refine own_by (fun _ k => XS.ifNo X15.here hx rfl (hb hby at_152) rfl ((if0 _ _).trans (teq (by decide : (lcmpW (0 : Int64) (0 : Int64)) = (0 : Int32))).2) k) ?_
      show own_Fin p e below s _ _ _ T15 (mkF m 155 #[.val (.long p1), .second, .val (.int p2), .val (.long (p1 &&& (16383 : Int64))), .second, .val (.ref b4), .val (.ref b6), .val (.int z), .val (.int i), .val (.int (1 : Int32))] [])
      refine own_by (fun _ k => XS.aload X15.here hx rfl (hb hby at_155) rfl rfl (XS.iload X15.here hx rfl (hb hby at_157) rfl k)) ?_
      show own_Fin p e below s _ _ _ T15 (mkF m 159 #[.val (.long p1), .second, .val (.int p2), .val (.long (p1 &&& (16383 : Int64))), .second, .val (.ref b4), .val (.ref b6), .val (.int z), .val (.int i), .val (.int (1 : Int32))] [(.int i), (.ref b6)])
      obtain ⟨cl19, Ar19, -, S19, M19, H19, -⟩ := id f16_1
      have hin19 : ¬ (i < 0 ∨ cl19.slots.size ≤ (i).toNatClampNeg) := inb_of S19 ⟨hi0, hi1⟩
      have hat19 : cl19.slots[(i).toNatClampNeg]? = some (.long (0 : Int64)) := Has.at H19 hin19 rfl
      refine own_by (fun _ k => X15.laload hx (j := i) (v := (.long (0 : Int64))) (by rw [e15]; exact Ar19.1) (State.isArrayOf_alike hZ.alike Ar19.2.1) Ar19.2.2 hin19 hat19 (g := (mkF m 159 #[.val (.long p1), .second, .val (.int p2), .val (.long (p1 &&& (16383 : Int64))), .second, .val (.ref b4), .val (.ref b6), .val (.int z), .val (.int i), .val (.int (1 : Int32))] [(.int i), (.ref b6)])) rfl rfl (hb hby at_159) _ k) ?_
      show own_Fin p e below s _ _ _ T15 (mkF m 160 #[.val (.long p1), .second, .val (.int p2), .val (.long (p1 &&& (16383 : Int64))), .second, .val (.ref b4), .val (.ref b6), .val (.int z), .val (.int i), .val (.int (1 : Int32))] [(.long (0 : Int64))])
      refine own_by (fun _ k => XS.lconst X15.here hx rfl (hb hby at_160) (XS.lcmp X15.here hx rfl (hb hby at_161) rfl k)) ?_
      show own_Fin p e below s _ _ _ T15 (mkF m 162 #[.val (.long p1), .second, .val (.int p2), .val (.long (p1 &&& (16383 : Int64))), .second, .val (.ref b4), .val (.ref b6), .val (.int z), .val (.int i), .val (.int (1 : Int32))] [(.int (lcmpW (0 : Int64) (0 : Int64)))])
      refine own_by (fun _ k => XS.ifNo X15.here hx rfl (hb hby at_162) rfl ((if0 _ _).trans (teq (by decide : (lcmpW (0 : Int64) (0 : Int64)) = (0 : Int32))).2) k) ?_
      show own_Fin p e below s _ _ _ T15 (mkF m 165 #[.val (.long p1), .second, .val (.int p2), .val (.long (p1 &&& (16383 : Int64))), .second, .val (.ref b4), .val (.ref b6), .val (.int z), .val (.int i), .val (.int (1 : Int32))] [])
      refine own_by (fun _ k => XS.iconst X15.here hx rfl (hb hby at_165) (XS.goto X15.here hx rfl (pc0 := 166) (pc' := 170) rfl (hb hby at_166) (by decide) (by decide) k)) ?_
      show own_Fin p e below s _ _ _ T15 (mkF m 170 #[.val (.long p1), .second, .val (.int p2), .val (.long (p1 &&& (16383 : Int64))), .second, .val (.ref b4), .val (.ref b6), .val (.int z), .val (.int i), .val (.int (1 : Int32))] [(.int (1 : Int32))])
      exact own_retZ X15 hx hlk (t := .boolean) Bd.returns (by simp) (hb hby at_170) ⟨rfl, N15⟩ (by decide) (by decide)
  · show own_Fin p e below s _ _ _ T6 (mkF m 31 #[.val (.long p1), .second, .val (.int p2), .val (.long (p1 &&& (16383 : Int64))), .second, .val (.ref b4), .val (.ref b6), .unset, .unset, .unset] [(.int (lcmpW ((p1 &&& (16383 : Int64)) - (p1 &&& (16383 : Int64)) / (64 : Int64) * (64 : Int64)) (0 : Int64))), (.int (((p1 &&& (16383 : Int64)) / (64 : Int64)).toInt32))])
    refine own_by (fun _ k => XS.ifNo X6.here hx rfl (hb hby at_31) rfl ((if0 _ _).trans (feq hc31_8).1) k) ?_
    show own_Fin p e below s _ _ _ T6 (mkF m 34 #[.val (.long p1), .second, .val (.int p2), .val (.long (p1 &&& (16383 : Int64))), .second, .val (.ref b4), .val (.ref b6), .unset, .unset, .unset] [(.int (((p1 &&& (16383 : Int64)) / (64 : Int64)).toInt32))])
    refine own_by (fun _ k => XS.iconst X6.here hx rfl (hb hby at_34) (XS.goto X6.here hx rfl (pc0 := 35) (pc' := 39) rfl (hb hby at_35) (by decide) (by decide) (XS.iadd X6.here hx rfl (hb hby at_39) rfl k))) ?_
    show own_Fin p e below s _ _ _ T6 (mkF m 40 #[.val (.long p1), .second, .val (.int p2), .val (.long (p1 &&& (16383 : Int64))), .second, .val (.ref b4), .val (.ref b6), .unset, .unset, .unset] [(.int ((((p1 &&& (16383 : Int64)) / (64 : Int64)).toInt32) + (1 : Int32)))])
    rw [hzb hc31_8]
    show own_Fin p e below s _ _ _ T6 (mkF m 40 #[.val (.long p1), .second, .val (.int p2), .val (.long (p1 &&& (16383 : Int64))), .second, .val (.ref b4), .val (.ref b6), .unset, .unset, .unset] [(.int z)])
    refine own_by (fun _ k => XS.istore X6.here hx rfl (hb hby at_40) rfl (l' := #[.val (.long p1), .second, .val (.int p2), .val (.long (p1 &&& (16383 : Int64))), .second, .val (.ref b4), .val (.ref b6), .val (.int z), .unset, .unset]) rfl (XS.aload X6.here hx rfl (hb hby at_42) rfl rfl k)) ?_
    show own_Fin p e below s _ _ _ T6 (mkF m 44 #[.val (.long p1), .second, .val (.int p2), .val (.long (p1 &&& (16383 : Int64))), .second, .val (.ref b4), .val (.ref b6), .val (.int z), .unset, .unset] [(.ref b4)])
    obtain ⟨cl20, Ar20, -, S20, M20, -, -⟩ := id f7_0
    refine own_by (fun _ k => X6.arraylength hx Ar20.1 (State.isArrayOf_alike hZ.alike Ar20.2.1) (g := (mkF m 44 #[.val (.long p1), .second, .val (.int p2), .val (.long (p1 &&& (16383 : Int64))), .second, .val (.ref b4), .val (.ref b6), .val (.int z), .unset, .unset] [(.ref b4)])) rfl rfl (hb hby at_44) _ k) ?_
    rw [len_of S20 M20]
    show own_Fin p e below s _ _ _ T6 (mkF m 45 #[.val (.long p1), .second, .val (.int p2), .val (.long (p1 &&& (16383 : Int64))), .second, .val (.ref b4), .val (.ref b6), .val (.int z), .unset, .unset] [(.int z)])
    refine own_by (fun _ k => XS.iload X6.here hx rfl (hb hby at_45) rfl k) ?_
    show own_Fin p e below s _ _ _ T6 (mkF m 47 #[.val (.long p1), .second, .val (.int p2), .val (.long (p1 &&& (16383 : Int64))), .second, .val (.ref b4), .val (.ref b6), .val (.int z), .unset, .unset] [(.int z), (.int z)])
    refine own_by (fun _ k => XS.icmpNo X6.here hx rfl (hb hby at_47) rfl (teq (rfl : z = z)).2 k) ?_
    show own_Fin p e below s _ _ _ T6 (mkF m 50 #[.val (.long p1), .second, .val (.int p2), .val (.long (p1 &&& (16383 : Int64))), .second, .val (.ref b4), .val (.ref b6), .val (.int z), .unset, .unset] [])
    refine own_by (fun _ k => XS.aload X6.here hx rfl (hb hby at_50) rfl rfl k) ?_
    show own_Fin p e below s _ _ _ T6 (mkF m 52 #[.val (.long p1), .second, .val (.int p2), .val (.long (p1 &&& (16383 : Int64))), .second, .val (.ref b4), .val (.ref b6), .val (.int z), .unset, .unset] [(.ref b6)])
    obtain ⟨cl21, Ar21, -, S21, M21, -, -⟩ := id V6
    refine own_by (fun _ k => X6.arraylength hx Ar21.1 (State.isArrayOf_alike hZ.alike Ar21.2.1) (g := (mkF m 52 #[.val (.long p1), .second, .val (.int p2), .val (.long (p1 &&& (16383 : Int64))), .second, .val (.ref b4), .val (.ref b6), .val (.int z), .unset, .unset] [(.ref b6)])) rfl rfl (hb hby at_52) _ k) ?_
    rw [len_of S21 M21]
    show own_Fin p e below s _ _ _ T6 (mkF m 53 #[.val (.long p1), .second, .val (.int p2), .val (.long (p1 &&& (16383 : Int64))), .second, .val (.ref b4), .val (.ref b6), .val (.int z), .unset, .unset] [(.int z)])
    refine own_by (fun _ k => XS.iload X6.here hx rfl (hb hby at_53) rfl k) ?_
    show own_Fin p e below s _ _ _ T6 (mkF m 55 #[.val (.long p1), .second, .val (.int p2), .val (.long (p1 &&& (16383 : Int64))), .second, .val (.ref b4), .val (.ref b6), .val (.int z), .unset, .unset] [(.int z), (.int z)])
    refine own_by (fun _ k => XS.icmpYes X6.here hx rfl (pc0 := 55) (pc' := 60) rfl (hb hby at_55) rfl (teq (rfl : z = z)).1 (by decide) (by decide) k) ?_
    show own_Fin p e below s _ _ _ T6 (mkF m 60 #[.val (.long p1), .second, .val (.int p2), .val (.long (p1 &&& (16383 : Int64))), .second, .val (.ref b4), .val (.ref b6), .val (.int z), .unset, .unset] [])
    refine own_by (fun _ k => XS.aload X6.here hx rfl (hb hby at_60) rfl rfl (XS.aload X6.here hx rfl (hb hby at_62) rfl rfl k)) ?_
    show own_Fin p e below s _ _ _ T6 (mkF m 64 #[.val (.long p1), .second, .val (.int p2), .val (.long (p1 &&& (16383 : Int64))), .second, .val (.ref b4), .val (.ref b6), .val (.int z), .unset, .unset] [(.ref b6), (.ref b4)])
    refine own_by (fun _ k => Jvm.RoadKit.acmp (g := (mkF m 64 #[.val (.long p1), .second, .val (.int p2), .val (.long (p1 &&& (16383 : Int64))), .second, .val (.ref b4), .val (.ref b6), .val (.int z), .unset, .unset] [(.ref b6), (.ref b4)])) X6 hx rfl rfl rfl (pc0 := 64) (pc' := 69) (same := false) rfl (hb hby at_64) rfl (decide_eq_false fun q => ne6_b4 (Value.ref.inj q)) (by decide) (by decide) k) ?_
    show own_Fin p e below s _ _ _ T6 (mkF m 69 #[.val (.long p1), .second, .val (.int p2), .val (.long (p1 &&& (16383 : Int64))), .second, .val (.ref b4), .val (.ref b6), .val (.int z), .unset, .unset] [])
    refine own_by (fun _ k => XS.iload X6.here hx rfl (hb hby at_69) rfl k) ?_
    show own_Fin p e below s _ _ _ T6 (mkF m 71 #[.val (.long p1), .second, .val (.int p2), .val (.long (p1 &&& (16383 : Int64))), .second, .val (.ref b4), .val (.ref b6), .val (.int z), .unset, .unset] [(.int z)])
    by_cases hc71_22 : z = (0 : Int32)
    · show own_Fin p e below s _ _ _ T6 (mkF m 71 #[.val (.long p1), .second, .val (.int p2), .val (.long (p1 &&& (16383 : Int64))), .second, .val (.ref b4), .val (.ref b6), .val (.int z), .unset, .unset] [(.int z)])
      refine own_by (fun _ k => XS.ifNo X6.here hx rfl (hb hby at_71) rfl ((if0 _ _).trans (teq hc71_22).2) k) ?_
      show own_Fin p e below s _ _ _ T6 (mkF m 74 #[.val (.long p1), .second, .val (.int p2), .val (.long (p1 &&& (16383 : Int64))), .second, .val (.ref b4), .val (.ref b6), .val (.int z), .unset, .unset] [])
      refine own_by (fun _ k => XS.iconst X6.here hx rfl (hb hby at_74) k) ?_
      show own_Fin p e below s _ _ _ T6 (mkF m 75 #[.val (.long p1), .second, .val (.int p2), .val (.long (p1 &&& (16383 : Int64))), .second, .val (.ref b4), .val (.ref b6), .val (.int z), .unset, .unset] [(.int (1 : Int32))])
      exact own_retZ X6 hx hlk (t := .boolean) Bd.returns (by simp) (hb hby at_75) ⟨rfl, N6⟩ (by decide) (by decide)
    · show own_Fin p e below s _ _ _ T6 (mkF m 71 #[.val (.long p1), .second, .val (.int p2), .val (.long (p1 &&& (16383 : Int64))), .second, .val (.ref b4), .val (.ref b6), .val (.int z), .unset, .unset] [(.int z)])
      refine own_by (fun _ k => XS.ifYes X6.here hx rfl (pc0 := 71) (pc' := 76) rfl (hb hby at_71) rfl ((if0 _ _).trans (feq hc71_22).2) (by decide) (by decide) k) ?_
      show own_Fin p e below s _ _ _ T6 (mkF m 76 #[.val (.long p1), .second, .val (.int p2), .val (.long (p1 &&& (16383 : Int64))), .second, .val (.ref b4), .val (.ref b6), .val (.int z), .unset, .unset] [])
      obtain ⟨i, hi, hi0, hi1, hzp, hzm0, hzm1⟩ := own_idx p2 z hz0 hc71_22
      refine own_by (fun _ k => XS.iloadN X6.here hx rfl (hb hby at_76) rfl k) ?_
      show own_Fin p e below s _ _ _ T6 (mkF m 77 #[.val (.long p1), .second, .val (.int p2), .val (.long (p1 &&& (16383 : Int64))), .second, .val (.ref b4), .val (.ref b6), .val (.int z), .unset, .unset] [(.int p2)])
      refine own_by (fun _ k => X6.ldcInt hx hown (mvT hZ (hw _ (List.mem_of_getElem? (i := 8) rfl))) (g := (mkF m 77 #[.val (.long p1), .second, .val (.int p2), .val (.long (p1 &&& (16383 : Int64))), .second, .val (.ref b4), .val (.ref b6), .val (.int z), .unset, .unset] [(.int p2)])) rfl (hb hby at_77) _ k) ?_
      show own_Fin p e below s _ _ _ T6 (mkF m 79 #[.val (.long p1), .second, .val (.int p2), .val (.long (p1 &&& (16383 : Int64))), .second, .val (.ref b4), .val (.ref b6), .val (.int z), .unset, .unset] [(.int (2147483647 : Int32)), (.int p2)])
      refine own_by (fun _ k => XS.iand X6.here hx rfl (hb hby at_79) rfl (XS.iload X6.here hx rfl (hb hby at_80) rfl (iremM X6 hx rfl (hb hby at_82) rfl hc71_22 k))) ?_
      show own_Fin p e below s _ _ _ T6 (mkF m 83 #[.val (.long p1), .second, .val (.int p2), .val (.long (p1 &&& (16383 : Int64))), .second, .val (.ref b4), .val (.ref b6), .val (.int z), .unset, .unset] [(.int ((p2 &&& (2147483647 : Int32)) % z))])
      rw [hi]
      show own_Fin p e below s _ _ _ T6 (mkF m 83 #[.val (.long p1), .second, .val (.int p2), .val (.long (p1 &&& (16383 : Int64))), .second, .val (.ref b4), .val (.ref b6), .val (.int z), .unset, .unset] [(.int i)])
      refine own_by (fun _ k => XS.istore X6.here hx rfl (hb hby at_83) rfl (l' := #[.val (.long p1), .second, .val (.int p2), .val (.long (p1 &&& (16383 : Int64))), .second, .val (.ref b4), .val (.ref b6), .val (.int z), .val (.int i), .unset]) rfl (XS.aload X6.here hx rfl (hb hby at_85) rfl rfl (XS.iconst X6.here hx rfl (hb hby at_87) k))) ?_
      show own_Fin p e below s _ _ _ T6 (mkF m 88 #[.val (.long p1), .second, .val (.int p2), .val (.long (p1 &&& (16383 : Int64))), .second, .val (.ref b4), .val (.ref b6), .val (.int z), .val (.int i), .unset] [(.int (0 : Int32)), (.ref b4)])
      obtain ⟨cl23, Ar23, -, S23, M23, H23, -⟩ := id f7_0
      have hin23 : ¬ ((0 : Int32) < 0 ∨ cl23.slots.size ≤ ((0 : Int32)).toNatClampNeg) := inb_of S23 ⟨by decide, hzp⟩
      have hat23 : cl23.slots[((0 : Int32)).toNatClampNeg]? = some (.long (0 : Int64)) := Has.at H23 hin23 rfl
      refine own_by (fun _ k => X6.laload hx (j := (0 : Int32)) (v := (.long (0 : Int64))) Ar23.1 (State.isArrayOf_alike hZ.alike Ar23.2.1) Ar23.2.2 hin23 hat23 (g := (mkF m 88 #[.val (.long p1), .second, .val (.int p2), .val (.long (p1 &&& (16383 : Int64))), .second, .val (.ref b4), .val (.ref b6), .val (.int z), .val (.int i), .unset] [(.int (0 : Int32)), (.ref b4)])) rfl rfl (hb hby at_88) _ k) ?_
      show own_Fin p e below s _ _ _ T6 (mkF m 89 #[.val (.long p1), .second, .val (.int p2), .val (.long (p1 &&& (16383 : Int64))), .second, .val (.ref b4), .val (.ref b6), .val (.int z), .val (.int i), .unset] [(.long (0 : Int64))])
      refine own_by (fun _ k => XS.lconst X6.here hx rfl (hb hby at_89) (XS.lcmp X6.here hx rfl (hb hby at_90) rfl k)) ?_
      show own_Fin p e below s _ _ _ T6 (mkF m 91 #[.val (.long p1), .second, .val (.int p2), .val (.long (p1 &&& (16383 : Int64))), .second, .val (.ref b4), .val (.ref b6), .val (.int z), .val (.int i), .unset] [(.int (lcmpW (0 : Int64) (0 : Int64)))])
      refine own_by (fun _ k => XS.ifNo X6.here hx rfl (hb hby at_91) rfl ((if0 _ _).trans (teq (by decide : (lcmpW (0 : Int64) (0 : Int64)) = (0 : Int32))).2) k) ?_
      show own_Fin p e below s _ _ _ T6 (mkF m 94 #[.val (.long p1), .second, .val (.int p2), .val (.long (p1 &&& (16383 : Int64))), .second, .val (.ref b4), .val (.ref b6), .val (.int z), .val (.int i), .unset] [])
      refine own_by (fun _ k => XS.aload X6.here hx rfl (hb hby at_94) rfl rfl (XS.iload X6.here hx rfl (hb hby at_96) rfl (XS.iconst X6.here hx rfl (hb hby at_98) (XS.isub X6.here hx rfl (hb hby at_99) rfl k)))) ?_
      show own_Fin p e below s _ _ _ T6 (mkF m 100 #[.val (.long p1), .second, .val (.int p2), .val (.long (p1 &&& (16383 : Int64))), .second, .val (.ref b4), .val (.ref b6), .val (.int z), .val (.int i), .unset] [(.int (z - (1 : Int32))), (.ref b4)])
      obtain ⟨cl24, Ar24, -, S24, M24, H24, -⟩ := id f7_0
      have hin24 : ¬ ((z - (1 : Int32)) < 0 ∨ cl24.slots.size ≤ ((z - (1 : Int32))).toNatClampNeg) := inb_of S24 ⟨hzm0, hzm1⟩
      have hat24 : cl24.slots[((z - (1 : Int32))).toNatClampNeg]? = some (.long (0 : Int64)) := Has.at H24 hin24 rfl
      refine own_by (fun _ k => X6.laload hx (j := (z - (1 : Int32))) (v := (.long (0 : Int64))) Ar24.1 (State.isArrayOf_alike hZ.alike Ar24.2.1) Ar24.2.2 hin24 hat24 (g := (mkF m 100 #[.val (.long p1), .second, .val (.int p2), .val (.long (p1 &&& (16383 : Int64))), .second, .val (.ref b4), .val (.ref b6), .val (.int z), .val (.int i), .unset] [(.int (z - (1 : Int32))), (.ref b4)])) rfl rfl (hb hby at_100) _ k) ?_
      show own_Fin p e below s _ _ _ T6 (mkF m 101 #[.val (.long p1), .second, .val (.int p2), .val (.long (p1 &&& (16383 : Int64))), .second, .val (.ref b4), .val (.ref b6), .val (.int z), .val (.int i), .unset] [(.long (0 : Int64))])
      refine own_by (fun _ k => XS.lconst X6.here hx rfl (hb hby at_101) (XS.lcmp X6.here hx rfl (hb hby at_102) rfl k)) ?_
      show own_Fin p e below s _ _ _ T6 (mkF m 103 #[.val (.long p1), .second, .val (.int p2), .val (.long (p1 &&& (16383 : Int64))), .second, .val (.ref b4), .val (.ref b6), .val (.int z), .val (.int i), .unset] [(.int (lcmpW (0 : Int64) (0 : Int64)))])
      refine own_by (fun _ k => XS.ifNo X6.here hx rfl (hb hby at_103) rfl ((if0 _ _).trans (teq (by decide : (lcmpW (0 : Int64) (0 : Int64)) = (0 : Int32))).2) k) ?_
      show own_Fin p e below s _ _ _ T6 (mkF m 106 #[.val (.long p1), .second, .val (.int p2), .val (.long (p1 &&& (16383 : Int64))), .second, .val (.ref b4), .val (.ref b6), .val (.int z), .val (.int i), .unset] [])
      refine own_by (fun _ k => XS.aload X6.here hx rfl (hb hby at_106) rfl rfl (XS.iload X6.here hx rfl (hb hby at_108) rfl k)) ?_
      show own_Fin p e below s _ _ _ T6 (mkF m 110 #[.val (.long p1), .second, .val (.int p2), .val (.long (p1 &&& (16383 : Int64))), .second, .val (.ref b4), .val (.ref b6), .val (.int z), .val (.int i), .unset] [(.int i), (.ref b4)])
      obtain ⟨cl25, Ar25, -, S25, M25, H25, -⟩ := id f7_0
      have hin25 : ¬ (i < 0 ∨ cl25.slots.size ≤ (i).toNatClampNeg) := inb_of S25 ⟨hi0, hi1⟩
      have hat25 : cl25.slots[(i).toNatClampNeg]? = some (.long (0 : Int64)) := Has.at H25 hin25 rfl
      refine own_by (fun _ k => X6.laload hx (j := i) (v := (.long (0 : Int64))) Ar25.1 (State.isArrayOf_alike hZ.alike Ar25.2.1) Ar25.2.2 hin25 hat25 (g := (mkF m 110 #[.val (.long p1), .second, .val (.int p2), .val (.long (p1 &&& (16383 : Int64))), .second, .val (.ref b4), .val (.ref b6), .val (.int z), .val (.int i), .unset] [(.int i), (.ref b4)])) rfl rfl (hb hby at_110) _ k) ?_
      show own_Fin p e below s _ _ _ T6 (mkF m 111 #[.val (.long p1), .second, .val (.int p2), .val (.long (p1 &&& (16383 : Int64))), .second, .val (.ref b4), .val (.ref b6), .val (.int z), .val (.int i), .unset] [(.long (0 : Int64))])
      refine own_by (fun _ k => XS.lconst X6.here hx rfl (hb hby at_111) (XS.lcmp X6.here hx rfl (hb hby at_112) rfl k)) ?_
      show own_Fin p e below s _ _ _ T6 (mkF m 113 #[.val (.long p1), .second, .val (.int p2), .val (.long (p1 &&& (16383 : Int64))), .second, .val (.ref b4), .val (.ref b6), .val (.int z), .val (.int i), .unset] [(.int (lcmpW (0 : Int64) (0 : Int64)))])
      refine own_by (fun _ k => XS.ifNo X6.here hx rfl (hb hby at_113) rfl ((if0 _ _).trans (teq (by decide : (lcmpW (0 : Int64) (0 : Int64)) = (0 : Int32))).2) k) ?_
      show own_Fin p e below s _ _ _ T6 (mkF m 116 #[.val (.long p1), .second, .val (.int p2), .val (.long (p1 &&& (16383 : Int64))), .second, .val (.ref b4), .val (.ref b6), .val (.int z), .val (.int i), .unset] [])
      refine own_by (fun _ k => XS.iconst X6.here hx rfl (hb hby at_116) (XS.goto X6.here hx rfl (pc0 := 117) (pc' := 121) rfl (hb hby at_117) (by decide) (by decide) (XS.istore X6.here hx rfl (hb hby at_121) rfl (l' := #[.val (.long p1), .second, .val (.int p2), .val (.long (p1 &&& (16383 : Int64))), .second, .val (.ref b4), .val (.ref b6), .val (.int z), .val (.int i), .val (.int (1 : Int32))]) rfl (XS.aload X6.here hx rfl (hb hby at_123) rfl rfl (XS.iload X6.here hx rfl (hb hby at_125) rfl (XS.lconst X6.here hx rfl (hb hby at_127) k)))))) ?_
      show own_Fin p e below s _ _ _ T6 (mkF m 128 #[.val (.long p1), .second, .val (.int p2), .val (.long (p1 &&& (16383 : Int64))), .second, .val (.ref b4), .val (.ref b6), .val (.int z), .val (.int i), .val (.int (1 : Int32))] [(.long (1 : Int64)), (.int i), (.ref b4)])
      obtain ⟨cl26, Ar26, q26, S26, M26, H26, G26⟩ := id f7_0
      have hin26 : ¬ (i < 0 ∨ cl26.slots.size ≤ (i).toNatClampNeg) := inb_of S26 ⟨hi0, hi1⟩
      obtain ⟨T26, h26, X26, e26, W26, st26⟩ := stJ X6 hx hZ rfl Ar26 (j := i) hin26 (g := (mkF m 128 #[.val (.long p1), .second, .val (.int p2), .val (.long (p1 &&& (16383 : Int64))), .second, .val (.ref b4), .val (.ref b6), .val (.int z), .val (.int i), .val (.int (1 : Int32))] [(.long (1 : Int64)), (.int i), (.ref b4)])) rfl rfl (hb hby at_128)
      refine own_by (fun _ k => st26 _ k) ?_
      have Zs26 : n0 ≤ h26.size := Nat.le_trans Zs6 (Keep.of_wr W26).1
      have N26 := Fr.snoc X26 N6 gf4
      have f27_1 : Arv Z h26 b6 k6 .long z [] (.long (0 : Int64)) := V6.other W26 (Ne.symm ne6_b4)
      show own_Fin p e below s _ _ _ T26 (mkF m 129 #[.val (.long p1), .second, .val (.int p2), .val (.long (p1 &&& (16383 : Int64))), .second, .val (.ref b4), .val (.ref b6), .val (.int z), .val (.int i), .val (.int (1 : Int32))] [])
      refine own_by (fun _ k => XS.iload X26.here hx rfl (hb hby at_129) rfl k) ?_
      show own_Fin p e below s _ _ _ T26 (mkF m 131 #[.val (.long p1), .second, .val (.int p2), .val (.long (p1 &&& (16383 : Int64))), .second, .val (.ref b4), .val (.ref b6), .val (.int z), .val (.int i), .val (.int (1 : Int32))] [(.int (1 : Int32))])
      refine own_by (fun _ k => XS.ifNo X26.here hx rfl (hb hby at_131) rfl ((if0 _ _).trans (feq (by decide : ¬ ((1 : Int32) = (0 : Int32)))).1) k) ?_
      show own_Fin p e below s _ _ _ T26 (mkF m 134 #[.val (.long p1), .second, .val (.int p2), .val (.long (p1 &&& (16383 : Int64))), .second, .val (.ref b4), .val (.ref b6), .val (.int z), .val (.int i), .val (.int (1 : Int32))] [])
      refine own_by (fun _ k => XS.aload X26.here hx rfl (hb hby at_134) rfl rfl (XS.iconst X26.here hx rfl (hb hby at_136) k)) ?_
      show own_Fin p e below s _ _ _ T26 (mkF m 137 #[.val (.long p1), .second, .val (.int p2), .val (.long (p1 &&& (16383 : Int64))), .second, .val (.ref b4), .val (.ref b6), .val (.int z), .val (.int i), .val (.int (1 : Int32))] [(.int (0 : Int32)), (.ref b6)])
      obtain ⟨cl28, Ar28, -, S28, M28, H28, -⟩ := id f27_1
      have hin28 : ¬ ((0 : Int32) < 0 ∨ cl28.slots.size ≤ ((0 : Int32)).toNatClampNeg) := inb_of S28 ⟨by decide, hzp⟩
      have hat28 : cl28.slots[((0 : Int32)).toNatClampNeg]? = some (.long (0 : Int64)) := Has.at H28 hin28 rfl
      refine own_by (fun _ k => X26.laload hx (j := (0 : Int32)) (v := (.long (0 : Int64))) (by rw [e26]; exact Ar28.1) (State.isArrayOf_alike hZ.alike Ar28.2.1) Ar28.2.2 hin28 hat28 (g := (mkF m 137 #[.val (.long p1), .second, .val (.int p2), .val (.long (p1 &&& (16383 : Int64))), .second, .val (.ref b4), .val (.ref b6), .val (.int z), .val (.int i), .val (.int (1 : Int32))] [(.int (0 : Int32)), (.ref b6)])) rfl rfl (hb hby at_137) _ k) ?_
      show own_Fin p e below s _ _ _ T26 (mkF m 138 #[.val (.long p1), .second, .val (.int p2), .val (.long (p1 &&& (16383 : Int64))), .second, .val (.ref b4), .val (.ref b6), .val (.int z), .val (.int i), .val (.int (1 : Int32))] [(.long (0 : Int64))])
      refine own_by (fun _ k => XS.lconst X26.here hx rfl (hb hby at_138) (XS.lcmp X26.here hx rfl (hb hby at_139) rfl k)) ?_
      show own_Fin p e below s _ _ _ T26 (mkF m 140 #[.val (.long p1), .second, .val (.int p2), .val (.long (p1 &&& (16383 : Int64))), .second, .val (.ref b4), .val (.ref b6), .val (.int z), .val (.int i), .val (.int (1 : Int32))] [(.int (lcmpW (0 : Int64) (0 : Int64)))])
      refine own_by (fun _ k => XS.ifNo X26.here hx rfl (hb hby at_140) rfl ((if0 _ _).trans (teq (by decide : (lcmpW (0 : Int64) (0 : Int64)) = (0 : Int32))).2) k) ?_
      show own_Fin p e below s _ _ _ T26 (mkF m 143 #[.val (.long p1), .second, .val (.int p2), .val (.long (p1 &&& (16383 : Int64))), .second, .val (.ref b4), .val (.ref b6), .val (.int z), .val (.int i), .val (.int (1 : Int32))] [])
      refine own_by (fun _ k => XS.aload X26.here hx rfl (hb hby at_143) rfl rfl (XS.iload X26.here hx rfl (hb hby at_145) rfl (XS.iconst X26.here hx rfl (hb hby at_147) (XS.isub X26.here hx rfl (hb hby at_148) rfl k)))) ?_
      show own_Fin p e below s _ _ _ T26 (mkF m 149 #[.val (.long p1), .second, .val (.int p2), .val (.long (p1 &&& (16383 : Int64))), .second, .val (.ref b4), .val (.ref b6), .val (.int z), .val (.int i), .val (.int (1 : Int32))] [(.int (z - (1 : Int32))), (.ref b6)])
      obtain ⟨cl29, Ar29, -, S29, M29, H29, -⟩ := id f27_1
      have hin29 : ¬ ((z - (1 : Int32)) < 0 ∨ cl29.slots.size ≤ ((z - (1 : Int32))).toNatClampNeg) := inb_of S29 ⟨hzm0, hzm1⟩
      have hat29 : cl29.slots[((z - (1 : Int32))).toNatClampNeg]? = some (.long (0 : Int64)) := Has.at H29 hin29 rfl
      refine own_by (fun _ k => X26.laload hx (j := (z - (1 : Int32))) (v := (.long (0 : Int64))) (by rw [e26]; exact Ar29.1) (State.isArrayOf_alike hZ.alike Ar29.2.1) Ar29.2.2 hin29 hat29 (g := (mkF m 149 #[.val (.long p1), .second, .val (.int p2), .val (.long (p1 &&& (16383 : Int64))), .second, .val (.ref b4), .val (.ref b6), .val (.int z), .val (.int i), .val (.int (1 : Int32))] [(.int (z - (1 : Int32))), (.ref b6)])) rfl rfl (hb hby at_149) _ k) ?_
      show own_Fin p e below s _ _ _ T26 (mkF m 150 #[.val (.long p1), .second, .val (.int p2), .val (.long (p1 &&& (16383 : Int64))), .second, .val (.ref b4), .val (.ref b6), .val (.int z), .val (.int i), .val (.int (1 : Int32))] [(.long (0 : Int64))])
      refine own_by (fun _ k => XS.lconst X26.here hx rfl (hb hby at_150) (XS.lcmp X26.here hx rfl (hb hby at_151) rfl k)) ?_
      show own_Fin p e below s _ _ _ T26 (mkF m 152 #[.val (.long p1), .second, .val (.int p2), .val (.long (p1 &&& (16383 : Int64))), .second, .val (.ref b4), .val (.ref b6), .val (.int z), .val (.int i), .val (.int (1 : Int32))] [(.int (lcmpW (0 : Int64) (0 : Int64)))])
      refine own_by (fun _ k => XS.ifNo X26.here hx rfl (hb hby at_152) rfl ((if0 _ _).trans (teq (by decide : (lcmpW (0 : Int64) (0 : Int64)) = (0 : Int32))).2) k) ?_
      show own_Fin p e below s _ _ _ T26 (mkF m 155 #[.val (.long p1), .second, .val (.int p2), .val (.long (p1 &&& (16383 : Int64))), .second, .val (.ref b4), .val (.ref b6), .val (.int z), .val (.int i), .val (.int (1 : Int32))] [])
      refine own_by (fun _ k => XS.aload X26.here hx rfl (hb hby at_155) rfl rfl (XS.iload X26.here hx rfl (hb hby at_157) rfl k)) ?_
      show own_Fin p e below s _ _ _ T26 (mkF m 159 #[.val (.long p1), .second, .val (.int p2), .val (.long (p1 &&& (16383 : Int64))), .second, .val (.ref b4), .val (.ref b6), .val (.int z), .val (.int i), .val (.int (1 : Int32))] [(.int i), (.ref b6)])
      obtain ⟨cl30, Ar30, -, S30, M30, H30, -⟩ := id f27_1
      have hin30 : ¬ (i < 0 ∨ cl30.slots.size ≤ (i).toNatClampNeg) := inb_of S30 ⟨hi0, hi1⟩
      have hat30 : cl30.slots[(i).toNatClampNeg]? = some (.long (0 : Int64)) := Has.at H30 hin30 rfl
      refine own_by (fun _ k => X26.laload hx (j := i) (v := (.long (0 : Int64))) (by rw [e26]; exact Ar30.1) (State.isArrayOf_alike hZ.alike Ar30.2.1) Ar30.2.2 hin30 hat30 (g := (mkF m 159 #[.val (.long p1), .second, .val (.int p2), .val (.long (p1 &&& (16383 : Int64))), .second, .val (.ref b4), .val (.ref b6), .val (.int z), .val (.int i), .val (.int (1 : Int32))] [(.int i), (.ref b6)])) rfl rfl (hb hby at_159) _ k) ?_
      show own_Fin p e below s _ _ _ T26 (mkF m 160 #[.val (.long p1), .second, .val (.int p2), .val (.long (p1 &&& (16383 : Int64))), .second, .val (.ref b4), .val (.ref b6), .val (.int z), .val (.int i), .val (.int (1 : Int32))] [(.long (0 : Int64))])
      refine own_by (fun _ k => XS.lconst X26.here hx rfl (hb hby at_160) (XS.lcmp X26.here hx rfl (hb hby at_161) rfl k)) ?_
      show own_Fin p e below s _ _ _ T26 (mkF m 162 #[.val (.long p1), .second, .val (.int p2), .val (.long (p1 &&& (16383 : Int64))), .second, .val (.ref b4), .val (.ref b6), .val (.int z), .val (.int i), .val (.int (1 : Int32))] [(.int (lcmpW (0 : Int64) (0 : Int64)))])
      refine own_by (fun _ k => XS.ifNo X26.here hx rfl (hb hby at_162) rfl ((if0 _ _).trans (teq (by decide : (lcmpW (0 : Int64) (0 : Int64)) = (0 : Int32))).2) k) ?_
      show own_Fin p e below s _ _ _ T26 (mkF m 165 #[.val (.long p1), .second, .val (.int p2), .val (.long (p1 &&& (16383 : Int64))), .second, .val (.ref b4), .val (.ref b6), .val (.int z), .val (.int i), .val (.int (1 : Int32))] [])
      refine own_by (fun _ k => XS.iconst X26.here hx rfl (hb hby at_165) (XS.goto X26.here hx rfl (pc0 := 166) (pc' := 170) rfl (hb hby at_166) (by decide) (by decide) k)) ?_
      show own_Fin p e below s _ _ _ T26 (mkF m 170 #[.val (.long p1), .second, .val (.int p2), .val (.long (p1 &&& (16383 : Int64))), .second, .val (.ref b4), .val (.ref b6), .val (.int z), .val (.int i), .val (.int (1 : Int32))] [(.int (1 : Int32))])
      exact own_retZ X26 hx hlk (t := .boolean) Bd.returns (by simp) (hb hby at_170) ⟨rfl, N26⟩ (by decide) (by decide)
set_option maxRecDepth 65536 in
set_option maxHeartbeats 40000000 in
theorem comes_1 {Post : Tables → Env → Array Value → State → Outcome → State → Prop} (hpost : ∀ tb e args s v u, (limb_1_1.after args s (.returned v) u = true ∧ limb_1_2.after args s (.returned v) u = true ∧ True) → FrameEnd s (.returned v) u (Jvm.fieldLocs frame_1_writes args s ++ Jvm.arrayLocs frame_1_arrays args s ++ Jvm.staticLocs frame_1_statics s) 16 1088 → Post tb e args s (.returned v) u) :
    ArmFor flags0 classFile x code maxLocals ret World_1 tables_1 room_1 Calls_1 rest_1 Pre_1 Post := by
  intro l hfl _ _ p e ha hc hk s m args below hf hA hF happ hP
  obtain ⟨hcalls, hrest, hpre⟩ := hP
  obtain ⟨-, -, -, hnamed, -, -, -, hat⟩ := (Spec.applies_iff hf).mp happ
  obtain ⟨hg, hn⟩ := and_e (Cond.before_iff.mp (show (Jvm.Cond.and given_1 narrow_1).before args s = true from hpre))
  obtain ⟨gc, gr0⟩ := and_e hg
  obtain ⟨ga0, gr1⟩ := and_e gr0
  obtain ⟨w0, w1, rfl⟩ : ∃ w0 w1 : Value, args = #[w0, w1] := by
    have hs : args.size = 2 := by simpa [Cond.value, given_1] using gc
    obtain ⟨L⟩ := args
    match L, hs with
    | [w0, w1], _ => exact ⟨w0, w1, rfl⟩
  have hw := fun d (hd : d ∈ tables_1) => atoms_spec (ws := Jvm.Cond.code x code maxLocals ret :: tables_1) hat d (List.mem_cons_of_mem _ hd)
  have hfit : Fit s := fun {y c} hc i hi => by
    obtain ⟨ha, rfl⟩ := Array.getElem?_eq_some_iff.mp hc
    have q := List.all_eq_true.mp ((Array.all_eq_true_iff_forall_mem.mp hF) _ (Array.getElem_mem ha)) i (List.mem_range.mpr hi)
    simpa [Array.getElem?_eq_getElem hi] using q
  obtain ⟨i0, ei0⟩ := isL_v ga0
  obtain rfl : w0 = (.long i0) := Option.some.inj ei0
  obtain ⟨i1, ei1⟩ := is_v gr1
  obtain rfl : w1 = (.int i1) := Option.some.inj ei1
  obtain ⟨n, o, h1, h2, h3, _, L, rfl, ⟨rfl, N⟩, hq⟩ := rm0 l s _ hw tables_1 i0 i1 s.heap s.heap.size (Nat.le_refl _) p e ha hc hk s m _ below hf ((Spec.applies_iff_loose hf).mp happ).1 ⟨rfl, State.Warmed39.refl s, rfl⟩ trivial
  refine ⟨n, _, h1, h2, h3, hpost _ _ _ _ _ _ ⟨Cond.after_iff.mpr rfl, Cond.after_iff.mpr (eq_i res_at (Term.int_eval (1)) rfl), trivial⟩ ⟨hq.1, hq.2.1, (hq.2.2.sift fun y hy => Or.inr (N y hy)).mono (by decide) (by decide)⟩⟩
theorem main_1_1 : Claimed_1_1 := comes_1 fun _ _ _ _ _ _ h hF => ⟨h.1, hF⟩
theorem main_1_2 : Claimed_1_2 := comes_1 fun _ _ _ _ _ _ h hF => ⟨h.2.1, hF⟩
end Jvm.Pilot.@@N@@
namespace Jvm.Pilot.@@N@@
open Jvm Jvm.ClassFile Sem Op Lib Jvm.Free Jvm.Stand Jvm.Pilot.@@N@@.Jvm.D
/-! MADE BY PROGRAM (witnessworld.py) out of the Statement's table words and the real class files: 11 classes; the members and pool entries that the words name. The judged class is class 1, her method 1. -/
namespace start1
open Jvm.ClassFile
def u (s : String) : CpInfo := .utf8 (stringToUtf16 s)
/-- a pool by its gaps: so many unusable entries, then the entry; so many at the end -/
def gap : Nat → List CpInfo → List CpInfo
  | 0, r => r
  | n + 1, r => .unusable :: gap n r
def poolList (es : List (Nat × CpInfo)) (last : Nat) : List CpInfo := es.foldr (fun e r => gap e.1 (e.2 :: r)) (gap last [])
def pool (es : List (Nat × CpInfo)) (last : Nat) : Array CpInfo := ⟨poolList es last⟩
def fileOf (pool : Array CpInfo) (this : Nat) (attrs : Array Attribute := #[]) (ms : Array MethodInfo := #[]) (fl : Nat := 33) (sup : Nat := 0) (ifs : Array Nat := #[]) (fds : Array FieldInfo := #[]) : ClassFile where
  minorVersion := 0
  majorVersion := 65
  constantPool := pool
  accessFlags := fl
  thisClass := this
  superClass := sup
  interfaces := ifs
  fields := fds
  methods := ms
  attributes := attrs
def plain (name : String) (sup : Option ClassId) : Class where
  name := name
  kind := .ordinary
  loader := none
  accessFlags := 33
  super := sup
  interfaces := #[]
  cf := none
  fields := #[]
  methods := #[]
  instanceTypes := #[]
  staticTypes := #[]
  resolved := #[]
  callSites := []
  init := .initialized
  statics := none
  mirror := none

def pool0 : Array CpInfo := pool [(5, u "<init>"), (0, u "()V"), (1, .class_ 10), (1, u "java/lang/Object")] 113

def k0m0 : Method := { name := "<init>", desc := "()V", sig := { parameters := [], returnType := none }, accessFlags := 1, code := none }
/-- java/lang/Object -/
def k0 : Class := { plain "java/lang/Object" none with
  accessFlags := 33
  interfaces := #[]
  cf := some (fileOf pool0 8 #[] #[{ accessFlags := 1, nameIndex := 5, descriptorIndex := 6, attributes := #[] }] 33 0 #[] #[])
  fields := #[]
  methods := #[k0m0]
  instanceTypes := #[]
  staticTypes := #[]
  resolved := Array.replicate 124 none
  statics := none }

def pool1 : Array CpInfo := pool [(2, .class_ 4), (1, u "java/lang/Object"), (0, u "<init>"), (0, u "()V"), (0, .long 16383), (1, .methodref 10 11), (0, .class_ 12), (0, .nameAndType 13 14), (0, u "com/example/fading_filter/fadingfilter/model/Words"), (0, u "of"), (0, u "(J)[J"), (0, .long 64), (1, .integer 2147483647), (0, .class_ 19), (0, u "com/example/fading_filter/fadingfilter/model/WordsOfPinLaw"), (2, u "law"), (0, u "(JI)Z")] 5

def k1m0 : Method := { name := "<init>", desc := "()V", sig := { parameters := [], returnType := none }, accessFlags := 1, code := none }
def k1c1 : Code := { maxStack := 5, maxLocals := 10, code := code, exceptionTable := #[], attributes := #[] }
def k1m1 : Method := { name := "law", desc := "(JI)Z", sig := { parameters := [.long, .int], returnType := some .boolean }, accessFlags := 9, code := some k1c1 }
/-- com/example/fading_filter/fadingfilter/model/WordsOfPinLaw -/
def k1 : Class := { plain "com/example/fading_filter/fadingfilter/model/WordsOfPinLaw" (some 0) with
  accessFlags := 49
  interfaces := #[]
  cf := some (fileOf pool1 18 #[] #[{ accessFlags := 1, nameIndex := 5, descriptorIndex := 6, attributes := #[] }, { accessFlags := 9, nameIndex := 22, descriptorIndex := 23, attributes := #[] }] 49 2 #[] #[])
  fields := #[]
  methods := #[k1m0, k1m1]
  instanceTypes := #[]
  staticTypes := #[]
  resolved := Array.replicate 29 none
  statics := none }

def pool2 : Array CpInfo := pool [(2, .class_ 4), (1, u "java/lang/Object"), (0, u "<init>"), (0, u "()V"), (2, .long 64), (2, .class_ 14), (1, u "com/example/fading_filter/fadingfilter/model/Words"), (0, u "WORD"), (0, u "Ljava/lang/invoke/VarHandle;"), (20, u "LITTLE_ENDIAN"), (52, u "of"), (0, u "(J)[J"), (37, u "CHUNK"), (0, u "I")] 29

def k2m0 : Method := { name := "<init>", desc := "()V", sig := { parameters := [], returnType := none }, accessFlags := 2, code := none }
def k2c1 : Code := { maxStack := 4, maxLocals := 2, code := prog_49_method_2_code, exceptionTable := #[], attributes := #[] }
def k2m1 : Method := { name := "of", desc := "(J)[J", sig := { parameters := [.long], returnType := some (.array .long) }, accessFlags := 8, code := some k2c1 }
/-- com/example/fading_filter/fadingfilter/model/Words -/
def k2 : Class := { plain "com/example/fading_filter/fadingfilter/model/Words" (some 0) with
  accessFlags := 32
  interfaces := #[]
  cf := some (fileOf pool2 12 #[] #[{ accessFlags := 2, nameIndex := 5, descriptorIndex := 6, attributes := #[] }, { accessFlags := 8, nameIndex := 90, descriptorIndex := 91, attributes := #[] }] 32 2 #[] #[{ accessFlags := 26, nameIndex := 15, descriptorIndex := 16, attributes := #[] }, { accessFlags := 26, nameIndex := 37, descriptorIndex := 16, attributes := #[] }, { accessFlags := 26, nameIndex := 129, descriptorIndex := 130, attributes := #[] }])
  fields := #[{ name := "WORD", type := (.object "java/lang/invoke/VarHandle"), accessFlags := 26, slot := 0, constantValue := 0 }, { name := "LITTLE_ENDIAN", type := (.object "java/lang/invoke/VarHandle"), accessFlags := 26, slot := 1, constantValue := 0 }, { name := "CHUNK", type := .int, accessFlags := 26, slot := 2, constantValue := 0 }]
  methods := #[k2m0, k2m1]
  instanceTypes := #[]
  staticTypes := #[(.object "java/lang/invoke/VarHandle"), (.object "java/lang/invoke/VarHandle"), .int]
  resolved := Array.replicate 160 none
  statics := none }

def pool3 : Array CpInfo := pool [(1, u "java/lang/Cloneable"), (0, .class_ 1), (0, u "java/lang/Object"), (0, .class_ 3)] 3

/-- java/lang/Cloneable -/
def k3 : Class := { plain "java/lang/Cloneable" (some 0) with
  accessFlags := 1537
  interfaces := #[]
  cf := some (fileOf pool3 2 #[] #[] 1537 4 #[] #[])
  fields := #[]
  methods := #[]
  instanceTypes := #[]
  staticTypes := #[]
  resolved := Array.replicate 8 none
  statics := none }

def pool4 : Array CpInfo := pool [(1, u "java/io/Serializable"), (0, .class_ 1), (0, u "java/lang/Object"), (0, .class_ 3)] 3

/-- java/io/Serializable -/
def k4 : Class := { plain "java/io/Serializable" (some 0) with
  accessFlags := 1537
  interfaces := #[]
  cf := some (fileOf pool4 2 #[] #[] 1537 4 #[] #[])
  fields := #[]
  methods := #[]
  instanceTypes := #[]
  staticTypes := #[]
  resolved := Array.replicate 8 none
  statics := none }

/-- the primitive byte -/
def k5 : Class := { plain "byte" none with kind := .primitive 'B', accessFlags := 0x411 }
/-- [B -/
def k6 : Class := { plain "[B" (some 0) with kind := .array 5 .byte, interfaces := #[3, 4], accessFlags := 1041 }

/-- the primitive int -/
def k7 : Class := { plain "int" none with kind := .primitive 'I', accessFlags := 0x411 }
/-- [I -/
def k8 : Class := { plain "[I" (some 0) with kind := .array 7 .int, interfaces := #[3, 4], accessFlags := 1041 }

/-- the primitive long -/
def k9 : Class := { plain "long" none with kind := .primitive 'J', accessFlags := 0x411 }
/-- [J -/
def k10 : Class := { plain "[J" (some 0) with kind := .array 9 .long, interfaces := #[3, 4], accessFlags := 1041 }

def heap : Heap := #[]
def classes : Array Class := #[k0, k1, k2, k3, k4, k5, k6, k7, k8, k9, k10]
def interned : List (Array UInt16 × Addr) := []
def slotsUsed : Nat := 0
def theMethod : MethodId := ⟨1, 1⟩
def args0 : Array Value := #[.long 5, .int 5]
def aboutOver (below : List Frame) : State where
  vm := { classes := classes, interned := interned.toArray }
  heap := heap
  slotsUsed := slotsUsed
  threads := #[{ frames := .invoking theMethod args0 :: below }]
def below0 : List Frame := [.native { method := ⟨0, 0⟩, args := #[] }]
def about1 : State := aboutOver below0
def p0 : Program := .bare "" "" ""
def e0 : Env := launch0.env 0 0 0
theorem w_frames : about1.frames = Frame.invoking theMethod args0 :: below0 := rfl
set_option maxRecDepth 65536 in
theorem w_args : argsFit about1.vm theMethod args0 = true := by decide +kernel
set_option maxRecDepth 65536 in
theorem w_heap : heapFits about1 = true := by decide +kernel
set_option maxRecDepth 65536 in
theorem w_runnable : about1.curStatus? = some .runnable := by decide +kernel
set_option maxRecDepth 65536 in
theorem w_alone : about1.alone = true := by decide +kernel
set_option maxRecDepth 65536 in
theorem w_named : about1.methodNamed? x = some theMethod := by decide +kernel
set_option maxRecDepth 65536 in
theorem w_hears : about1.hears theMethod below0 = true := by decide +kernel
set_option maxRecDepth 65536 in
theorem w_ripe : about1.ripe theMethod args0 below0 = true := by decide +kernel
theorem w_running : about1.status = .running := rfl
set_option maxRecDepth 65536 in
theorem w_room : about1.hasRoom e0.platform room_1 = true :=
  launch0.hasRoom_least _ room_1 (by decide +kernel) (by decide +kernel) (by decide +kernel) (by decide +kernel) (by decide +kernel) (by decide +kernel)
theorem allAtoms_all (ts : List Jvm.Cond) (a : Array Jvm.Value) (st : Jvm.State) : (allAtoms ts).before a st = ts.all (fun c => c.before a st) := by
  induction ts with
  | nil => rfl
  | cons c t ih =>
    show (Jvm.Cond.and c (allAtoms t)).before a st = _
    rw [Jvm.Cond.before_and, ih, List.all_cons]
def words1 : List Jvm.Cond := Jvm.Cond.code x code maxLocals ret :: tables_1
/-- a 'code' word, met by the world's own term for the bytes: nothing is compared byte by byte -/
theorem code_word {y : MethodName} {bytes : ByteArray} {mx : Nat} {rt : Option FieldType} {a : Array Value} {s : State} {m : MethodId} {meth : Method} {c : Code} (h1 : s.methodNamed? y = some m) (h2 : s.vm.method? m = some meth) (h3 : meth.code = some c) (h4 : c.code = bytes)
    (h5 : (c.maxLocals == mx && c.exceptionTable.isEmpty && decide (c.maxStack ≤ mostOperands) && decide (meth.sig.returnType = rt) && !meth.locks && decide (parseMethodDescriptor y.desc = some meth.sig)) = true) : (Jvm.Cond.code y bytes mx rt).before a s = true := by
  simp only [Bool.and_eq_true, beq_iff_eq, Bool.not_eq_true', decide_eq_true_eq] at h5
  obtain ⟨⟨⟨⟨⟨g1, g2⟩, g3⟩, g4⟩, g5⟩, g6⟩ := h5
  simp [Cond.before, Cond.holds, Cond.value, h1, h2, h3, h4, g1, g2, g3, g4, g5, g6]
def isCode : Jvm.Cond → Bool
  | .code _ _ _ _ => true
  | _ => false
theorem all_split {L : List Jvm.Cond} {P : Jvm.Cond → Bool} (h1 : L.all (fun c => isCode c || P c) = true) (h2 : ∀ c ∈ L.filter isCode, P c = true) : L.all P = true := by
  refine List.all_eq_true.mpr fun c hc => ?_
  have h := List.all_eq_true.mp h1 c hc
  rcases Bool.eq_false_or_eq_true (isCode c) with hi | hi
  · exact h2 c (List.mem_filter.mpr ⟨hc, hi⟩)
  · simpa [hi] using h
set_option maxRecDepth 65536 in
theorem w_c0 : (Jvm.Cond.code x code maxLocals ret).before args0 about1 = true := code_word (m := ⟨1, 1⟩) (meth := k1m1) (c := k1c1) (by decide +kernel) rfl rfl rfl (by decide +kernel)
set_option maxRecDepth 65536 in
theorem w_c1 : (Jvm.Cond.code ({ cls := "com/example/fading_filter/fadingfilter/model/Words", name := "of", desc := "(J)[J" } : Jvm.MethodName) prog_49_method_2_code (2 : Nat) (Option.some (Jvm.ClassFile.FieldType.array Jvm.ClassFile.FieldType.long))).before args0 about1 = true := code_word (m := ⟨2, 1⟩) (meth := k2m1) (c := k2c1) (by decide +kernel) rfl rfl rfl (by decide +kernel)
def codes1 : List Jvm.Cond := [Jvm.Cond.code x code maxLocals ret, Jvm.Cond.code ({ cls := "com/example/fading_filter/fadingfilter/model/Words", name := "of", desc := "(J)[J" } : Jvm.MethodName) prog_49_method_2_code (2 : Nat) (Option.some (Jvm.ClassFile.FieldType.array Jvm.ClassFile.FieldType.long))]
set_option maxRecDepth 65536 in
theorem codes_eq : words1.filter isCode = codes1 := rfl
theorem w_codes : ∀ c ∈ words1.filter isCode, c.before args0 about1 = true := by
  rw [codes_eq]
  intro c hc
  simp only [codes1, List.mem_cons, List.not_mem_nil, or_false] at hc
  rcases hc with rfl | rfl
  · exact w_c0
  · exact w_c1
set_option maxRecDepth 65536 in
theorem w_t1 : words1.all (fun c => isCode c || c.before args0 about1) = true := by decide +kernel
theorem w_tables : (allAtoms (Jvm.Cond.code x code maxLocals ret :: tables_1)).before args0 about1 = true := by
  rw [allAtoms_all]
  show words1.all (fun c => c.before args0 about1) = true
  refine all_split ?_ w_codes
  rw [w_t1]
set_option maxRecDepth 65536 in
theorem w_case : (Jvm.Cond.and given_1 narrow_1).before args0 about1 = true := by decide +kernel
theorem w_applies : (headSpec (Jvm.Cond.code x code maxLocals ret :: tables_1) room_1).applies x e0.platform about1 = true :=
  (Spec.applies_iff w_frames).mpr ⟨w_running, w_runnable, w_alone, w_named, w_hears, w_ripe, w_room, w_tables⟩
theorem atStart : AtStart classFile x code maxLocals ret World_1 tables_1 room_1 Calls_1 rest_1 Pre_1 launch0 p0 e0 about1 theMethod args0 below0 :=
  ⟨lists_1, trivial, launch0.admits_env _ _ _, launch0.least_env, fairChoices_fair.cas, fairChoices_fair.clock, w_frames, w_args, w_heap, w_applies, trivial, trivial, w_case⟩
end start1
theorem witness_1 : WitnessClaimed_1 := ⟨start1.p0, start1.e0, start1.about1, start1.theMethod, start1.args0, start1.below0, start1.atStart⟩
end Jvm.Pilot.@@N@@
