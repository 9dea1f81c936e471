import JvmDerived
import JvmDerived.Pilot.@@N@@Statement
import JvmDerived.Pilot.@@N@@Code
set_option linter.unusedVariables false
set_option linter.unusedSimpArgs false
namespace Jvm.Pilot.@@N@@
open Jvm Jvm.ClassFile Sem Op Lib Jvm.Free Jvm.Stand Jvm.LawKit Jvm.RoadKit Bundle Jvm.Pilot.@@N@@.Jvm.D
/-! own_Ends: from here the run comes to its return, and what it leaves is as Qf says -/
def own_Ends (p : Program) (e : Env) (below : List Frame) (s : State) (Qf : Option Value → Heap → List Loc → Prop) (ce sl : Nat) (W : State) : Prop :=
  ∃ U o, Steps p.tables e below W U ∧ U.status = .running ∧ Ended U below o ∧ ∃ v L, o = .returned v ∧ Qf v U.heap L ∧ FrameEnd s o U L ce sl
section Own
variable {p : Program} {l : Launch} {e : Env} {R : Room} {s : State} {m : MethodId} {args : Array Value} {below : List Frame} {meth : Method} {c : Code} {T : State} {locs : List Loc} {cells slots : Nat} {Qf : Option Value → Heap → List Loc → Prop} {ce sl : Nat} {W0 W1 : State}
theorem own_go (h : ∀ t, Steps p.tables e below W1 t → Steps p.tables e below W0 t) (k : own_Ends p e below s Qf ce sl W1) : own_Ends p e below s Qf ce sl W0 := by
  obtain ⟨U, o, h1, h2⟩ := k
  exact ⟨U, o, h _ h1, h2⟩
theorem own_tr (h : Steps p.tables e below W0 W1) (k : own_Ends p e below s Qf ce sl W1) : own_Ends p e below s Qf ce sl W0 := own_go (fun t k => h.trans k) k
theorem own_st {t : State} (h : ∀ t, Steps p.tables e below W1 t → Steps p.tables e below W0 t) (k : Steps p.tables e below W1 t) : Steps p.tables e below W0 t := h t k
theorem own_done (X : Stand p l e R s m args below meth c T locs cells slots) {v : Option Value} (hv : meth.sig.returnType = none → v = none) (hlk : meth.locks = false) (hc : cells ≤ ce) (hs : slots ≤ sl) (hQ : Qf v T.heap locs)
    (h : ∀ fs, (∀ (f : JFrame) (acts : List Action), f.method = m → f.locked = none → f.entered = [] → (doReturn e (T.setTop f) acts v).1 = T.setFrames fs) → Steps p.tables e below W0 (T.setFrames fs)) : own_Ends p e below s Qf ce sl W0 := by
  obtain ⟨fs, hr, hrun, hended, hW, hsame⟩ := X.leave (v := v) hv hlk
  exact ⟨_, _, h fs hr, hrun, hended, _, _, rfl, hQ, ⟨_, rfl⟩, hW, hsame.mono hc hs⟩
theorem own_some {t : FieldType} {v : Option Value} (hret : meth.sig.returnType = some t) : meth.sig.returnType = none → v = none := fun h => by rw [hret] at h; cases h
theorem own_retI (X : Stand p l e R s m args below meth c T locs cells slots) (hx : p.tables.exec = Jvm.exec) {pc : Nat} {Ls : Array Slot} {z : Int32} {rest : List Value} (hret : meth.sig.returnType = some .int) (hd : decode c.code pc = .ok (.ireturn, 1)) (hlk : meth.locks = false) (hc : cells ≤ ce) (hs : slots ≤ sl) (hQ : Qf (some (.int z)) T.heap locs) :
    own_Ends p e below s Qf ce sl (T.setTop (mkF m pc Ls (.int z :: rest))) :=
  own_done X (own_some hret) hlk hc hs hQ fun fs hr => retOut X hx hret rfl (Or.inl ⟨rfl, Or.inl rfl, _, rfl⟩) hd hr
theorem own_retN (X : Stand p l e R s m args below meth c T locs cells slots) (hx : p.tables.exec = Jvm.exec) {pc : Nat} {Ls : Array Slot} {z : Int32} {t : FieldType} {rest : List Value} (hret : meth.sig.returnType = some t) (ht : t = .boolean ∨ t = .byte ∨ t = .char ∨ t = .short) (hd : decode c.code pc = .ok (.ireturn, 1)) (hlk : meth.locks = false) (hc : cells ≤ ce) (hs : slots ≤ sl) (hQ : Qf (some (.int (nar t z))) T.heap locs) :
    own_Ends p e below s Qf ce sl (T.setTop (mkF m pc Ls (.int z :: rest))) :=
  own_done X (own_some hret) hlk hc hs hQ fun fs hr => retN X hx hret ht hd hr
theorem own_retJ (X : Stand p l e R s m args below meth c T locs cells slots) (hx : p.tables.exec = Jvm.exec) {pc : Nat} {Ls : Array Slot} {z : Int64} {rest : List Value} (hret : meth.sig.returnType = some .long) (hd : decode c.code pc = .ok (.lreturn, 1)) (hlk : meth.locks = false) (hc : cells ≤ ce) (hs : slots ≤ sl) (hQ : Qf (some (.long z)) T.heap locs) :
    own_Ends p e below s Qf ce sl (T.setTop (mkF m pc Ls (.long z :: rest))) :=
  own_done X (own_some hret) hlk hc hs hQ fun fs hr => retOut X hx hret rfl (Or.inr (Or.inl ⟨rfl, rfl, _, rfl⟩)) hd hr
theorem own_retD (X : Stand p l e R s m args below meth c T locs cells slots) (hx : p.tables.exec = Jvm.exec) {pc : Nat} {Ls : Array Slot} {z : UInt64} {rest : List Value} (hret : meth.sig.returnType = some .double) (hd : decode c.code pc = .ok (.dreturn, 1)) (hlk : meth.locks = false) (hc : cells ≤ ce) (hs : slots ≤ sl) (hQ : Qf (some (.double z)) T.heap locs) :
    own_Ends p e below s Qf ce sl (T.setTop (mkF m pc Ls (.double z :: rest))) :=
  own_done X (own_some hret) hlk hc hs hQ fun fs hr => retOut X hx hret rfl (Or.inr (Or.inr (Or.inl ⟨rfl, rfl, _, rfl⟩))) hd hr
theorem own_retR (X : Stand p l e R s m args below meth c T locs cells slots) (hx : p.tables.exec = Jvm.exec) {pc : Nat} {Ls : Array Slot} {w : Value} {t : FieldType} {rest : List Value} (hret : meth.sig.returnType = some t) (ht : t.isReference = true) (hw : w.isRef = true) (hd : decode c.code pc = .ok (.areturn, 1)) (hlk : meth.locks = false) (hc : cells ≤ ce) (hs : slots ≤ sl) (hQ : Qf (some w) T.heap locs) :
    own_Ends p e below s Qf ce sl (T.setTop (mkF m pc Ls (w :: rest))) :=
  own_done X (own_some hret) hlk hc hs hQ fun fs hr => retOut X hx hret (by cases t <;> first | rfl | (simp [FieldType.isReference] at ht)) (Or.inr (Or.inr (Or.inr (Or.inr ⟨rfl, ht, hw⟩)))) hd hr
theorem own_retV (X : Stand p l e R s m args below meth c T locs cells slots) (hx : p.tables.exec = Jvm.exec) {pc : Nat} {Ls : Array Slot} (hret : meth.sig.returnType = none) (hd : decode c.code pc = .ok (.return_, 1)) (hlk : meth.locks = false) (hc : cells ≤ ce) (hs : slots ≤ sl) (hQ : Qf none T.heap locs) :
    own_Ends p e below s Qf ce sl (T.setTop (mkF m pc Ls [])) :=
  own_done X (fun _ => rfl) hlk hc hs hQ fun fs hr => X.returnOut hx hret hd hr
def own_b2i (P : Prop) [Decidable P] : Int32 := if P then 1 else 0
theorem own_b1 {P : Prop} [Decidable P] (h : P) : own_b2i P = 1 := if_pos h
theorem own_b0 {P : Prop} [Decidable P] (h : ¬ P) : own_b2i P = 0 := if_neg h
end Own
theorem own_arv {Z : State} {h : Heap} {a : Addr} {k : ClassId} {ty : FieldType} {z : Int32} {vs : List Value} {dv : Value} (F : Arh Z h a k ty z [] vs dv) : Arv Z h a k ty z vs dv := by
  obtain ⟨c, A, q, S, M, H, G⟩ := F
  exact ⟨c, A, q, S, M, H, G⟩
theorem own_n (s : Int32) : 1 + (s &&& 3) = 1 ∨ 1 + (s &&& 3) = 2 ∨ 1 + (s &&& 3) = 3 ∨ 1 + (s &&& 3) = 4 := by
  have h := c_mask s 3 2 (by decide) (by decide)
  have a := c_iadd 1 (s &&& 3)
  have r := rng32 (1 + (s &&& 3))
  have e1 : (1 : Int32).toInt = 1 := rfl
  have e2 : (2 : Int32).toInt = 2 := rfl
  have e3 : (3 : Int32).toInt = 3 := rfl
  have e4 : (4 : Int32).toInt = 4 := rfl
  simp only [← Int32.toInt_inj]
  omega
def own_Qt (Z : State) (vs : List Value) (z : Int32) (h0 : Heap) (n0 : Nat) (v : Option Value) (h : Heap) (L : List Loc) : Prop := ∃ (b : Addr) (kb : ClassId), v = some (.ref b) ∧ Fr n0 L ∧ Keep h0 h [] ∧ h0.size ≤ b ∧ Arv Z h b kb .int z vs (.int 0)
def own_Q0 (n0 : Nat) (v : Option Value) (h : Heap) (L : List Loc) : Prop := v = some (.int 1) ∧ Fr n0 L
theorem own_pn_com_example_quietzone_quietzone_read_SymbolReader : plainName "com/example/quietzone/quietzone/read/SymbolReader" = true := by first | (simp [plainName, overriddenIn]; done) | decide +kernel
theorem d1_0 : decode prog_97_method_9_code 0 = .ok (.aload_n 0, 1) := by decide +kernel
theorem d1_1 : decode prog_97_method_9_code 1 = .ok (.invokevirtual 201, 3) := by decide +kernel
theorem d1_4 : decode prog_97_method_9_code 4 = .ok (.checkcast 202, 3) := by decide +kernel
theorem d1_7 : decode prog_97_method_9_code 7 = .ok (.astore_n 2, 1) := by decide +kernel
theorem d1_8 : decode prog_97_method_9_code 8 = .ok (.aload_n 2, 1) := by decide +kernel
theorem d1_9 : decode prog_97_method_9_code 9 = .ok (.iconst 0, 1) := by decide +kernel
theorem d1_10 : decode prog_97_method_9_code 10 = .ok (.dup2, 1) := by decide +kernel
theorem d1_11 : decode prog_97_method_9_code 11 = .ok (.iaload, 1) := by decide +kernel
theorem d1_12 : decode prog_97_method_9_code 12 = .ok (.iload_n 1, 1) := by decide +kernel
theorem d1_13 : decode prog_97_method_9_code 13 = .ok (.bipush 10, 2) := by decide +kernel
theorem d1_15 : decode prog_97_method_9_code 15 = .ok (.imul, 1) := by decide +kernel
theorem d1_16 : decode prog_97_method_9_code 16 = .ok (.iadd, 1) := by decide +kernel
theorem d1_17 : decode prog_97_method_9_code 17 = .ok (.iastore, 1) := by decide +kernel
theorem d1_18 : decode prog_97_method_9_code 18 = .ok (.aload_n 2, 1) := by decide +kernel
theorem d1_19 : decode prog_97_method_9_code 19 = .ok (.aload_n 2, 1) := by decide +kernel
theorem d1_20 : decode prog_97_method_9_code 20 = .ok (.arraylength, 1) := by decide +kernel
theorem d1_21 : decode prog_97_method_9_code 21 = .ok (.iconst 1, 1) := by decide +kernel
theorem d1_22 : decode prog_97_method_9_code 22 = .ok (.isub, 1) := by decide +kernel
theorem d1_23 : decode prog_97_method_9_code 23 = .ok (.dup2, 1) := by decide +kernel
theorem d1_24 : decode prog_97_method_9_code 24 = .ok (.iaload, 1) := by decide +kernel
theorem d1_25 : decode prog_97_method_9_code 25 = .ok (.iload_n 1, 1) := by decide +kernel
theorem d1_26 : decode prog_97_method_9_code 26 = .ok (.bipush 10, 2) := by decide +kernel
theorem d1_28 : decode prog_97_method_9_code 28 = .ok (.imul, 1) := by decide +kernel
theorem d1_29 : decode prog_97_method_9_code 29 = .ok (.iadd, 1) := by decide +kernel
theorem d1_30 : decode prog_97_method_9_code 30 = .ok (.iastore, 1) := by decide +kernel
theorem d1_31 : decode prog_97_method_9_code 31 = .ok (.aload_n 2, 1) := by decide +kernel
theorem d1_32 : decode prog_97_method_9_code 32 = .ok (.areturn, 1) := by decide +kernel
theorem ef_rm1_1 (m : MethodId) (x0 : Addr) (x1 : Int32)  : entryFrame m #[(.ref x0), (.int x1)] 3 = mkF m 0 #[.val (.ref x0), .val (.int x1), .unset] [] := by first | (simp [entryFrame, mkF, argsToLocals, Value.category]; done) | rfl
set_option maxRecDepth 65536 in
set_option maxHeartbeats 40000000 in
theorem rm1_1 (l : Launch) (Z : State) (a0 : Array Value) (hw : ∀ d ∈ tables_1, d.before a0 Z = true) (ws : List Jvm.Cond) (u : Addr) (ku : ClassId) (p1 x0 : Int32) (h0 : Heap) (n0 : Nat) (Z0 : n0 ≤ h0.size) (E_u : Exa Z h0 u "[I") (V_u : Arv Z h0 u ku .int 1 [(.int x0)] (.int 0)) :
    MetFree l (⟨"com/example/quietzone/quietzone/read/SymbolReader", "throughTheEdges", "([II)[I"⟩ : MethodName) (head1 (Jvm.Cond.code (⟨"com/example/quietzone/quietzone/read/SymbolReader", "throughTheEdges", "([II)[I"⟩ : MethodName) prog_97_method_9_code 3 (some (.array .int)) :: ws) ({ frames := 1, cells := 1, slots := 1, locals := 14 } : Room)) (fun a U => a = #[(.ref u), (.int p1)] ∧ Z.Warmed39 U.vm ∧ U.heap = h0) (fun _ _ _ _ _ => True) (fun _ U o U' => ∃ v L, o = .returned v ∧ own_Qt Z [(.int ((x0 + (p1 * (10 : Int32))) + (p1 * (10 : Int32))))] 1 h0 n0 v U'.heap L ∧ FrameEnd U o U' L ({ frames := 1, cells := 1, slots := 1, locals := 14 } : Room).cells ({ frames := 1, cells := 1, slots := 1, locals := 14 } : Room).slots) := by
  refine MetFree.of_bodySF (plainFor_of_name own_pn_com_example_quietzone_quietzone_read_SymbolReader) hisR ?_
  intro p e s m args below meth c s₁ Bd hml0 hP hK
  obtain ⟨rfl, hZ, hh⟩ := hP
  have hx := Bd.exec
  have hby := Bd.bytes
  have hlk := BodyLoose.notSynchronized Bd
  have hml : c.maxLocals = 3 := hml0
  have hown : s.vm.findClass "com/example/quietzone/quietzone/read/SymbolReader" = some m.cls := findClass_of_methodNamed Bd.named
  have hnm := (name_of_methodNamed Bd.named Bd.method).1
  have X0 : Stand p l e ({ frames := 1, cells := 1, slots := 1, locals := 14 } : Room) s m #[(.ref u), (.int p1)] below meth c s₁ [] 0 0 := Stand.of_body Bd
  have e0 : s₁.heap = h0 := by rw [← hh, Bd.state]; rfl
  have N0 := Fr.nil n0
  show own_Ends p e below s (own_Qt Z [(.int ((x0 + (p1 * (10 : Int32))) + (p1 * (10 : Int32))))] 1 h0 n0) 1 1 (s₁.setTop (entryFrame m #[(.ref u), (.int p1)] 3))
  refine own_go (W1 := s₁.setTop (mkF m 0 #[.val (.ref u), .val (.int p1), .unset] [])) (fun t k => castTop (ef_rm1_1 m u p1 ) k) ?_
  have K0 := Keep.refl h0 []
  refine own_go (W1 := s₁.setTop (mkF m 1 #[.val (.ref u), .val (.int p1), .unset] [(.ref u)])) (fun t k => XS.aloadN X0.here hx rfl (hb hby d1_0) rfl rfl  k) ?_
  obtain ⟨T1, h1, X1, e1, E1, A1, Ea1, st1⟩ := cloneH X0 hx hZ hown (hw _ (List.mem_of_getElem? (i := 5) rfl)) (hw _ (List.mem_of_getElem? (i := 6) rfl)) (hw _ (List.mem_of_getElem? (i := 10) rfl)) (hw _ (List.mem_of_getElem? (i := 8) rfl)) (hw _ (List.mem_of_getElem? (i := 9) rfl)) (hw _ (List.mem_of_getElem? (i := 11) rfl)) e0 V_u.arh E_u (g := (mkF m 1 #[.val (.ref u), .val (.int p1), .unset] [(.ref u)])) rfl (by rw [hml]; rfl) rfl (hb hby d1_1) (by decide) (W := 0) (cap := 1) (by show 2 * 0 + _ ≤ _; exact Nat.le_of_eq rfl) (by decide) (by decide) (by decide) (by decide)
  obtain ⟨b, g1⟩ : ∃ z, z = h0.size := ⟨_, rfl⟩
  have ne_u_b : u ≠ b := Nat.ne_of_lt (Nat.lt_of_lt_of_le E_u.lt (Nat.le_of_eq g1.symm))
  have ge_b : n0 ≤ b := Nat.le_trans Z0 (Nat.le_of_eq g1.symm)
  have sz_b : h0.size ≤ b := Nat.le_trans K0.1 (Nat.le_of_eq g1.symm)
  rw [← g1] at A1 Ea1 st1
  have E_u := E_u.ext E1
  have V_u := V_u.ext E1
  have Z1 : n0 ≤ h1.size := Nat.le_trans Z0 E1.1
  have K1 := K0.ext E1
  have E_b := Ea1
  have V_b := own_arv A1
  refine own_go (W1 := T1.setTop (mkF m 4 #[.val (.ref u), .val (.int p1), .unset] [(.ref b)])) (st1) ?_
  obtain ⟨T2, X2, e2, st2⟩ := castY X1 hx hZ hown (hw _ (List.mem_of_getElem? (i := 12) rfl)) e1 (Ins.self E_b) (g := (mkF m 4 #[.val (.ref u), .val (.int p1), .unset] [(.ref b)])) rfl rfl (hb hby d1_4)
  refine own_go (W1 := T2.setTop (mkF m 7 #[.val (.ref u), .val (.int p1), .unset] [(.ref b)])) (st2) ?_
  refine own_go (W1 := T2.setTop (mkF m 8 #[.val (.ref u), .val (.int p1), .val (.ref b)] [])) (fun t k => XS.astoreN X2.here hx rfl (hb hby d1_7) rfl rfl (l' := #[.val (.ref u), .val (.int p1), .val (.ref b)]) rfl k) ?_
  refine own_go (W1 := T2.setTop (mkF m 9 #[.val (.ref u), .val (.int p1), .val (.ref b)] [(.ref b)])) (fun t k => XS.aloadN X2.here hx rfl (hb hby d1_8) rfl rfl  k) ?_
  refine own_go (W1 := T2.setTop (mkF m 10 #[.val (.ref u), .val (.int p1), .val (.ref b)] [(.int (0 : Int32)), (.ref b)])) (fun t k => XS.iconst X2.here hx rfl (hb hby d1_9) k) ?_
  refine own_go (W1 := T2.setTop (mkF m 11 #[.val (.ref u), .val (.int p1), .val (.ref b)] [(.int (0 : Int32)), (.ref b), (.int (0 : Int32)), (.ref b)])) (fun t k => Jvm.Free.XT.dup2 X2.here hx rfl (hb hby d1_10) rfl rfl rfl k) ?_
  obtain ⟨cl3, Ar3, q3, S3, M3, H3, G3⟩ := id V_b
  have hin3 : ¬ ((0 : Int32) < 0 ∨ cl3.slots.size ≤ ((0 : Int32)).toNatClampNeg) := inb_of S3 ⟨by decide, by decide⟩
  have hat3 : cl3.slots[((0 : Int32)).toNatClampNeg]? = some (.int x0) := Has.at H3 hin3 rfl
  refine own_go (W1 := T2.setTop (mkF m 12 #[.val (.ref u), .val (.int p1), .val (.ref b)] [(.int x0), (.int (0 : Int32)), (.ref b)])) (X2.iaload hx (j := (0 : Int32)) (v := (.int x0)) (by rw [e2]; exact Ar3.1) (State.isArrayOf_alike hZ.alike Ar3.2.1) Ar3.2.2 hin3 hat3 (g := (mkF m 11 #[.val (.ref u), .val (.int p1), .val (.ref b)] [(.int (0 : Int32)), (.ref b), (.int (0 : Int32)), (.ref b)])) rfl rfl (hb hby d1_11)) ?_
  refine own_go (W1 := T2.setTop (mkF m 13 #[.val (.ref u), .val (.int p1), .val (.ref b)] [(.int p1), (.int x0), (.int (0 : Int32)), (.ref b)])) (fun t k => XS.iloadN X2.here hx rfl (hb hby d1_12) rfl  k) ?_
  refine own_go (W1 := T2.setTop (mkF m 15 #[.val (.ref u), .val (.int p1), .val (.ref b)] [(.int (10 : Int32)), (.int p1), (.int x0), (.int (0 : Int32)), (.ref b)])) (fun t k => XS.bipush X2.here hx rfl (hb hby d1_13) k) ?_
  refine own_go (W1 := T2.setTop (mkF m 16 #[.val (.ref u), .val (.int p1), .val (.ref b)] [(.int (p1 * (10 : Int32))), (.int x0), (.int (0 : Int32)), (.ref b)])) (fun t k => XS.imul X2.here hx rfl (hb hby d1_15) rfl k) ?_
  refine own_go (W1 := T2.setTop (mkF m 17 #[.val (.ref u), .val (.int p1), .val (.ref b)] [(.int (x0 + (p1 * (10 : Int32)))), (.int (0 : Int32)), (.ref b)])) (fun t k => XS.iadd X2.here hx rfl (hb hby d1_16) rfl k) ?_
  obtain ⟨cl4, Ar4, q4, S4, M4, H4, G4⟩ := id V_b
  have hin4 : ¬ ((0 : Int32) < 0 ∨ cl4.slots.size ≤ ((0 : Int32)).toNatClampNeg) := inb_of S4 ⟨by decide, by decide⟩
  obtain ⟨T4, h4, X4, e4, W4, st4⟩ := stI X2 hx hZ e2 Ar4 (j := (0 : Int32)) hin4 (g := (mkF m 17 #[.val (.ref u), .val (.int p1), .val (.ref b)] [(.int (x0 + (p1 * (10 : Int32)))), (.int (0 : Int32)), (.ref b)])) rfl rfl (hb hby d1_17)
  have V_b : Arv Z h4 b ku .int (1 : Int32) [(.int (x0 + (p1 * (10 : Int32))))] (.int (0 : Int32)) := Arv.set Ar4 q4 S4 M4 H4 G4 rfl W4 0 rfl (Nat.le_of_ble_eq_true rfl)
  have E_u := E_u.wr W4
  have V_u := V_u.other W4 ne_u_b
  have E_b := E_b.wr W4
  have Z4 : n0 ≤ h4.size := by rw [W4.size]; exact Z1
  have K4 := K1.wr W4 (Or.inr sz_b)
  have N4 := Fr.snoc X4 N0 ge_b
  refine own_go (W1 := T4.setTop (mkF m 18 #[.val (.ref u), .val (.int p1), .val (.ref b)] [])) (st4) ?_
  refine own_go (W1 := T4.setTop (mkF m 19 #[.val (.ref u), .val (.int p1), .val (.ref b)] [(.ref b)])) (fun t k => XS.aloadN X4.here hx rfl (hb hby d1_18) rfl rfl  k) ?_
  refine own_go (W1 := T4.setTop (mkF m 20 #[.val (.ref u), .val (.int p1), .val (.ref b)] [(.ref b), (.ref b)])) (fun t k => XS.aloadN X4.here hx rfl (hb hby d1_19) rfl rfl  k) ?_
  obtain ⟨cl5, Ar5, -, S5, M5, -, -⟩ := id V_b
  have al5 := X4.arraylength hx (by rw [e4]; exact Ar5.1) (State.isArrayOf_alike hZ.alike Ar5.2.1) (g := (mkF m 20 #[.val (.ref u), .val (.int p1), .val (.ref b)] [(.ref b), (.ref b)])) rfl rfl (hb hby d1_20)
  rw [len_of S5 M5] at al5
  refine own_go (W1 := T4.setTop (mkF m 21 #[.val (.ref u), .val (.int p1), .val (.ref b)] [(.int (1 : Int32)), (.ref b)])) (al5) ?_
  refine own_go (W1 := T4.setTop (mkF m 22 #[.val (.ref u), .val (.int p1), .val (.ref b)] [(.int (1 : Int32)), (.int (1 : Int32)), (.ref b)])) (fun t k => XS.iconst X4.here hx rfl (hb hby d1_21) k) ?_
  refine own_go (W1 := T4.setTop (mkF m 23 #[.val (.ref u), .val (.int p1), .val (.ref b)] [(.int ((1 : Int32) - (1 : Int32))), (.ref b)])) (fun t k => XS.isub X4.here hx rfl (hb hby d1_22) rfl k) ?_
  rw [show ((1 : Int32) - (1 : Int32)) = (0 : Int32) from by decide]
  refine own_go (W1 := T4.setTop (mkF m 24 #[.val (.ref u), .val (.int p1), .val (.ref b)] [(.int (0 : Int32)), (.ref b), (.int (0 : Int32)), (.ref b)])) (fun t k => Jvm.Free.XT.dup2 X4.here hx rfl (hb hby d1_23) rfl rfl rfl k) ?_
  obtain ⟨cl6, Ar6, q6, S6, M6, H6, G6⟩ := id V_b
  have hin6 : ¬ ((0 : Int32) < 0 ∨ cl6.slots.size ≤ ((0 : Int32)).toNatClampNeg) := inb_of S6 ⟨by decide, by decide⟩
  have hat6 : cl6.slots[((0 : Int32)).toNatClampNeg]? = some (.int (x0 + (p1 * (10 : Int32)))) := Has.at H6 hin6 rfl
  refine own_go (W1 := T4.setTop (mkF m 25 #[.val (.ref u), .val (.int p1), .val (.ref b)] [(.int (x0 + (p1 * (10 : Int32)))), (.int (0 : Int32)), (.ref b)])) (X4.iaload hx (j := (0 : Int32)) (v := (.int (x0 + (p1 * (10 : Int32))))) (by rw [e4]; exact Ar6.1) (State.isArrayOf_alike hZ.alike Ar6.2.1) Ar6.2.2 hin6 hat6 (g := (mkF m 24 #[.val (.ref u), .val (.int p1), .val (.ref b)] [(.int (0 : Int32)), (.ref b), (.int (0 : Int32)), (.ref b)])) rfl rfl (hb hby d1_24)) ?_
  refine own_go (W1 := T4.setTop (mkF m 26 #[.val (.ref u), .val (.int p1), .val (.ref b)] [(.int p1), (.int (x0 + (p1 * (10 : Int32)))), (.int (0 : Int32)), (.ref b)])) (fun t k => XS.iloadN X4.here hx rfl (hb hby d1_25) rfl  k) ?_
  refine own_go (W1 := T4.setTop (mkF m 28 #[.val (.ref u), .val (.int p1), .val (.ref b)] [(.int (10 : Int32)), (.int p1), (.int (x0 + (p1 * (10 : Int32)))), (.int (0 : Int32)), (.ref b)])) (fun t k => XS.bipush X4.here hx rfl (hb hby d1_26) k) ?_
  refine own_go (W1 := T4.setTop (mkF m 29 #[.val (.ref u), .val (.int p1), .val (.ref b)] [(.int (p1 * (10 : Int32))), (.int (x0 + (p1 * (10 : Int32)))), (.int (0 : Int32)), (.ref b)])) (fun t k => XS.imul X4.here hx rfl (hb hby d1_28) rfl k) ?_
  refine own_go (W1 := T4.setTop (mkF m 30 #[.val (.ref u), .val (.int p1), .val (.ref b)] [(.int ((x0 + (p1 * (10 : Int32))) + (p1 * (10 : Int32)))), (.int (0 : Int32)), (.ref b)])) (fun t k => XS.iadd X4.here hx rfl (hb hby d1_29) rfl k) ?_
  obtain ⟨cl7, Ar7, q7, S7, M7, H7, G7⟩ := id V_b
  have hin7 : ¬ ((0 : Int32) < 0 ∨ cl7.slots.size ≤ ((0 : Int32)).toNatClampNeg) := inb_of S7 ⟨by decide, by decide⟩
  obtain ⟨T7, h7, X7, e7, W7, st7⟩ := stI X4 hx hZ e4 Ar7 (j := (0 : Int32)) hin7 (g := (mkF m 30 #[.val (.ref u), .val (.int p1), .val (.ref b)] [(.int ((x0 + (p1 * (10 : Int32))) + (p1 * (10 : Int32)))), (.int (0 : Int32)), (.ref b)])) rfl rfl (hb hby d1_30)
  have V_b : Arv Z h7 b ku .int (1 : Int32) [(.int ((x0 + (p1 * (10 : Int32))) + (p1 * (10 : Int32))))] (.int (0 : Int32)) := Arv.set Ar7 q7 S7 M7 H7 G7 rfl W7 0 rfl (Nat.le_of_ble_eq_true rfl)
  have E_u := E_u.wr W7
  have V_u := V_u.other W7 ne_u_b
  have E_b := E_b.wr W7
  have Z7 : n0 ≤ h7.size := by rw [W7.size]; exact Z4
  have K7 := K4.wr W7 (Or.inr sz_b)
  have N7 := Fr.snoc X7 N4 ge_b
  refine own_go (W1 := T7.setTop (mkF m 31 #[.val (.ref u), .val (.int p1), .val (.ref b)] [])) (st7) ?_
  refine own_go (W1 := T7.setTop (mkF m 32 #[.val (.ref u), .val (.int p1), .val (.ref b)] [(.ref b)])) (fun t k => XS.aloadN X7.here hx rfl (hb hby d1_31) rfl rfl  k) ?_
  exact own_retR X7 hx Bd.returns rfl rfl (hb hby d1_32) hlk (by decide) (by decide) (by rw [e7]; exact ⟨b, _, rfl, N7, K7, sz_b, V_b⟩)
theorem ef_rm1_2 (m : MethodId) (x0 : Addr) (x1 : Int32)  : entryFrame m #[(.ref x0), (.int x1)] 3 = mkF m 0 #[.val (.ref x0), .val (.int x1), .unset] [] := by first | (simp [entryFrame, mkF, argsToLocals, Value.category]; done) | rfl
set_option maxRecDepth 65536 in
set_option maxHeartbeats 40000000 in
theorem rm1_2 (l : Launch) (Z : State) (a0 : Array Value) (hw : ∀ d ∈ tables_1, d.before a0 Z = true) (ws : List Jvm.Cond) (u : Addr) (ku : ClassId) (p1 x0 x1 : Int32) (h0 : Heap) (n0 : Nat) (Z0 : n0 ≤ h0.size) (E_u : Exa Z h0 u "[I") (V_u : Arv Z h0 u ku .int 2 [(.int x0), (.int x1)] (.int 0)) :
    MetFree l (⟨"com/example/quietzone/quietzone/read/SymbolReader", "throughTheEdges", "([II)[I"⟩ : MethodName) (head1 (Jvm.Cond.code (⟨"com/example/quietzone/quietzone/read/SymbolReader", "throughTheEdges", "([II)[I"⟩ : MethodName) prog_97_method_9_code 3 (some (.array .int)) :: ws) ({ frames := 1, cells := 1, slots := 2, locals := 14 } : Room)) (fun a U => a = #[(.ref u), (.int p1)] ∧ Z.Warmed39 U.vm ∧ U.heap = h0) (fun _ _ _ _ _ => True) (fun _ U o U' => ∃ v L, o = .returned v ∧ own_Qt Z [(.int (x0 + (p1 * (10 : Int32)))), (.int (x1 + (p1 * (10 : Int32))))] 2 h0 n0 v U'.heap L ∧ FrameEnd U o U' L ({ frames := 1, cells := 1, slots := 2, locals := 14 } : Room).cells ({ frames := 1, cells := 1, slots := 2, locals := 14 } : Room).slots) := by
  refine MetFree.of_bodySF (plainFor_of_name own_pn_com_example_quietzone_quietzone_read_SymbolReader) hisR ?_
  intro p e s m args below meth c s₁ Bd hml0 hP hK
  obtain ⟨rfl, hZ, hh⟩ := hP
  have hx := Bd.exec
  have hby := Bd.bytes
  have hlk := BodyLoose.notSynchronized Bd
  have hml : c.maxLocals = 3 := hml0
  have hown : s.vm.findClass "com/example/quietzone/quietzone/read/SymbolReader" = some m.cls := findClass_of_methodNamed Bd.named
  have hnm := (name_of_methodNamed Bd.named Bd.method).1
  have X0 : Stand p l e ({ frames := 1, cells := 1, slots := 2, locals := 14 } : Room) s m #[(.ref u), (.int p1)] below meth c s₁ [] 0 0 := Stand.of_body Bd
  have e0 : s₁.heap = h0 := by rw [← hh, Bd.state]; rfl
  have N0 := Fr.nil n0
  show own_Ends p e below s (own_Qt Z [(.int (x0 + (p1 * (10 : Int32)))), (.int (x1 + (p1 * (10 : Int32))))] 2 h0 n0) 1 2 (s₁.setTop (entryFrame m #[(.ref u), (.int p1)] 3))
  refine own_go (W1 := s₁.setTop (mkF m 0 #[.val (.ref u), .val (.int p1), .unset] [])) (fun t k => castTop (ef_rm1_2 m u p1 ) k) ?_
  have K0 := Keep.refl h0 []
  refine own_go (W1 := s₁.setTop (mkF m 1 #[.val (.ref u), .val (.int p1), .unset] [(.ref u)])) (fun t k => XS.aloadN X0.here hx rfl (hb hby d1_0) rfl rfl  k) ?_
  obtain ⟨T1, h1, X1, e1, E1, A1, Ea1, st1⟩ := cloneH X0 hx hZ hown (hw _ (List.mem_of_getElem? (i := 5) rfl)) (hw _ (List.mem_of_getElem? (i := 6) rfl)) (hw _ (List.mem_of_getElem? (i := 10) rfl)) (hw _ (List.mem_of_getElem? (i := 8) rfl)) (hw _ (List.mem_of_getElem? (i := 9) rfl)) (hw _ (List.mem_of_getElem? (i := 11) rfl)) e0 V_u.arh E_u (g := (mkF m 1 #[.val (.ref u), .val (.int p1), .unset] [(.ref u)])) rfl (by rw [hml]; rfl) rfl (hb hby d1_1) (by decide) (W := 0) (cap := 2) (by show 2 * 0 + _ ≤ _; exact Nat.le_of_eq rfl) (by decide) (by decide) (by decide) (by decide)
  obtain ⟨b, g1⟩ : ∃ z, z = h0.size := ⟨_, rfl⟩
  have ne_u_b : u ≠ b := Nat.ne_of_lt (Nat.lt_of_lt_of_le E_u.lt (Nat.le_of_eq g1.symm))
  have ge_b : n0 ≤ b := Nat.le_trans Z0 (Nat.le_of_eq g1.symm)
  have sz_b : h0.size ≤ b := Nat.le_trans K0.1 (Nat.le_of_eq g1.symm)
  rw [← g1] at A1 Ea1 st1
  have E_u := E_u.ext E1
  have V_u := V_u.ext E1
  have Z1 : n0 ≤ h1.size := Nat.le_trans Z0 E1.1
  have K1 := K0.ext E1
  have E_b := Ea1
  have V_b := own_arv A1
  refine own_go (W1 := T1.setTop (mkF m 4 #[.val (.ref u), .val (.int p1), .unset] [(.ref b)])) (st1) ?_
  obtain ⟨T2, X2, e2, st2⟩ := castY X1 hx hZ hown (hw _ (List.mem_of_getElem? (i := 12) rfl)) e1 (Ins.self E_b) (g := (mkF m 4 #[.val (.ref u), .val (.int p1), .unset] [(.ref b)])) rfl rfl (hb hby d1_4)
  refine own_go (W1 := T2.setTop (mkF m 7 #[.val (.ref u), .val (.int p1), .unset] [(.ref b)])) (st2) ?_
  refine own_go (W1 := T2.setTop (mkF m 8 #[.val (.ref u), .val (.int p1), .val (.ref b)] [])) (fun t k => XS.astoreN X2.here hx rfl (hb hby d1_7) rfl rfl (l' := #[.val (.ref u), .val (.int p1), .val (.ref b)]) rfl k) ?_
  refine own_go (W1 := T2.setTop (mkF m 9 #[.val (.ref u), .val (.int p1), .val (.ref b)] [(.ref b)])) (fun t k => XS.aloadN X2.here hx rfl (hb hby d1_8) rfl rfl  k) ?_
  refine own_go (W1 := T2.setTop (mkF m 10 #[.val (.ref u), .val (.int p1), .val (.ref b)] [(.int (0 : Int32)), (.ref b)])) (fun t k => XS.iconst X2.here hx rfl (hb hby d1_9) k) ?_
  refine own_go (W1 := T2.setTop (mkF m 11 #[.val (.ref u), .val (.int p1), .val (.ref b)] [(.int (0 : Int32)), (.ref b), (.int (0 : Int32)), (.ref b)])) (fun t k => Jvm.Free.XT.dup2 X2.here hx rfl (hb hby d1_10) rfl rfl rfl k) ?_
  obtain ⟨cl3, Ar3, q3, S3, M3, H3, G3⟩ := id V_b
  have hin3 : ¬ ((0 : Int32) < 0 ∨ cl3.slots.size ≤ ((0 : Int32)).toNatClampNeg) := inb_of S3 ⟨by decide, by decide⟩
  have hat3 : cl3.slots[((0 : Int32)).toNatClampNeg]? = some (.int x0) := Has.at H3 hin3 rfl
  refine own_go (W1 := T2.setTop (mkF m 12 #[.val (.ref u), .val (.int p1), .val (.ref b)] [(.int x0), (.int (0 : Int32)), (.ref b)])) (X2.iaload hx (j := (0 : Int32)) (v := (.int x0)) (by rw [e2]; exact Ar3.1) (State.isArrayOf_alike hZ.alike Ar3.2.1) Ar3.2.2 hin3 hat3 (g := (mkF m 11 #[.val (.ref u), .val (.int p1), .val (.ref b)] [(.int (0 : Int32)), (.ref b), (.int (0 : Int32)), (.ref b)])) rfl rfl (hb hby d1_11)) ?_
  refine own_go (W1 := T2.setTop (mkF m 13 #[.val (.ref u), .val (.int p1), .val (.ref b)] [(.int p1), (.int x0), (.int (0 : Int32)), (.ref b)])) (fun t k => XS.iloadN X2.here hx rfl (hb hby d1_12) rfl  k) ?_
  refine own_go (W1 := T2.setTop (mkF m 15 #[.val (.ref u), .val (.int p1), .val (.ref b)] [(.int (10 : Int32)), (.int p1), (.int x0), (.int (0 : Int32)), (.ref b)])) (fun t k => XS.bipush X2.here hx rfl (hb hby d1_13) k) ?_
  refine own_go (W1 := T2.setTop (mkF m 16 #[.val (.ref u), .val (.int p1), .val (.ref b)] [(.int (p1 * (10 : Int32))), (.int x0), (.int (0 : Int32)), (.ref b)])) (fun t k => XS.imul X2.here hx rfl (hb hby d1_15) rfl k) ?_
  refine own_go (W1 := T2.setTop (mkF m 17 #[.val (.ref u), .val (.int p1), .val (.ref b)] [(.int (x0 + (p1 * (10 : Int32)))), (.int (0 : Int32)), (.ref b)])) (fun t k => XS.iadd X2.here hx rfl (hb hby d1_16) rfl k) ?_
  obtain ⟨cl4, Ar4, q4, S4, M4, H4, G4⟩ := id V_b
  have hin4 : ¬ ((0 : Int32) < 0 ∨ cl4.slots.size ≤ ((0 : Int32)).toNatClampNeg) := inb_of S4 ⟨by decide, by decide⟩
  obtain ⟨T4, h4, X4, e4, W4, st4⟩ := stI X2 hx hZ e2 Ar4 (j := (0 : Int32)) hin4 (g := (mkF m 17 #[.val (.ref u), .val (.int p1), .val (.ref b)] [(.int (x0 + (p1 * (10 : Int32)))), (.int (0 : Int32)), (.ref b)])) rfl rfl (hb hby d1_17)
  have V_b : Arv Z h4 b ku .int (2 : Int32) [(.int (x0 + (p1 * (10 : Int32)))), (.int x1)] (.int (0 : Int32)) := Arv.set Ar4 q4 S4 M4 H4 G4 rfl W4 0 rfl (Nat.le_of_ble_eq_true rfl)
  have E_u := E_u.wr W4
  have V_u := V_u.other W4 ne_u_b
  have E_b := E_b.wr W4
  have Z4 : n0 ≤ h4.size := by rw [W4.size]; exact Z1
  have K4 := K1.wr W4 (Or.inr sz_b)
  have N4 := Fr.snoc X4 N0 ge_b
  refine own_go (W1 := T4.setTop (mkF m 18 #[.val (.ref u), .val (.int p1), .val (.ref b)] [])) (st4) ?_
  refine own_go (W1 := T4.setTop (mkF m 19 #[.val (.ref u), .val (.int p1), .val (.ref b)] [(.ref b)])) (fun t k => XS.aloadN X4.here hx rfl (hb hby d1_18) rfl rfl  k) ?_
  refine own_go (W1 := T4.setTop (mkF m 20 #[.val (.ref u), .val (.int p1), .val (.ref b)] [(.ref b), (.ref b)])) (fun t k => XS.aloadN X4.here hx rfl (hb hby d1_19) rfl rfl  k) ?_
  obtain ⟨cl5, Ar5, -, S5, M5, -, -⟩ := id V_b
  have al5 := X4.arraylength hx (by rw [e4]; exact Ar5.1) (State.isArrayOf_alike hZ.alike Ar5.2.1) (g := (mkF m 20 #[.val (.ref u), .val (.int p1), .val (.ref b)] [(.ref b), (.ref b)])) rfl rfl (hb hby d1_20)
  rw [len_of S5 M5] at al5
  refine own_go (W1 := T4.setTop (mkF m 21 #[.val (.ref u), .val (.int p1), .val (.ref b)] [(.int (2 : Int32)), (.ref b)])) (al5) ?_
  refine own_go (W1 := T4.setTop (mkF m 22 #[.val (.ref u), .val (.int p1), .val (.ref b)] [(.int (1 : Int32)), (.int (2 : Int32)), (.ref b)])) (fun t k => XS.iconst X4.here hx rfl (hb hby d1_21) k) ?_
  refine own_go (W1 := T4.setTop (mkF m 23 #[.val (.ref u), .val (.int p1), .val (.ref b)] [(.int ((2 : Int32) - (1 : Int32))), (.ref b)])) (fun t k => XS.isub X4.here hx rfl (hb hby d1_22) rfl k) ?_
  rw [show ((2 : Int32) - (1 : Int32)) = (1 : Int32) from by decide]
  refine own_go (W1 := T4.setTop (mkF m 24 #[.val (.ref u), .val (.int p1), .val (.ref b)] [(.int (1 : Int32)), (.ref b), (.int (1 : Int32)), (.ref b)])) (fun t k => Jvm.Free.XT.dup2 X4.here hx rfl (hb hby d1_23) rfl rfl rfl k) ?_
  obtain ⟨cl6, Ar6, q6, S6, M6, H6, G6⟩ := id V_b
  have hin6 : ¬ ((1 : Int32) < 0 ∨ cl6.slots.size ≤ ((1 : Int32)).toNatClampNeg) := inb_of S6 ⟨by decide, by decide⟩
  have hat6 : cl6.slots[((1 : Int32)).toNatClampNeg]? = some (.int x1) := Has.at H6 hin6 rfl
  refine own_go (W1 := T4.setTop (mkF m 25 #[.val (.ref u), .val (.int p1), .val (.ref b)] [(.int x1), (.int (1 : Int32)), (.ref b)])) (X4.iaload hx (j := (1 : Int32)) (v := (.int x1)) (by rw [e4]; exact Ar6.1) (State.isArrayOf_alike hZ.alike Ar6.2.1) Ar6.2.2 hin6 hat6 (g := (mkF m 24 #[.val (.ref u), .val (.int p1), .val (.ref b)] [(.int (1 : Int32)), (.ref b), (.int (1 : Int32)), (.ref b)])) rfl rfl (hb hby d1_24)) ?_
  refine own_go (W1 := T4.setTop (mkF m 26 #[.val (.ref u), .val (.int p1), .val (.ref b)] [(.int p1), (.int x1), (.int (1 : Int32)), (.ref b)])) (fun t k => XS.iloadN X4.here hx rfl (hb hby d1_25) rfl  k) ?_
  refine own_go (W1 := T4.setTop (mkF m 28 #[.val (.ref u), .val (.int p1), .val (.ref b)] [(.int (10 : Int32)), (.int p1), (.int x1), (.int (1 : Int32)), (.ref b)])) (fun t k => XS.bipush X4.here hx rfl (hb hby d1_26) k) ?_
  refine own_go (W1 := T4.setTop (mkF m 29 #[.val (.ref u), .val (.int p1), .val (.ref b)] [(.int (p1 * (10 : Int32))), (.int x1), (.int (1 : Int32)), (.ref b)])) (fun t k => XS.imul X4.here hx rfl (hb hby d1_28) rfl k) ?_
  refine own_go (W1 := T4.setTop (mkF m 30 #[.val (.ref u), .val (.int p1), .val (.ref b)] [(.int (x1 + (p1 * (10 : Int32)))), (.int (1 : Int32)), (.ref b)])) (fun t k => XS.iadd X4.here hx rfl (hb hby d1_29) rfl k) ?_
  obtain ⟨cl7, Ar7, q7, S7, M7, H7, G7⟩ := id V_b
  have hin7 : ¬ ((1 : Int32) < 0 ∨ cl7.slots.size ≤ ((1 : Int32)).toNatClampNeg) := inb_of S7 ⟨by decide, by decide⟩
  obtain ⟨T7, h7, X7, e7, W7, st7⟩ := stI X4 hx hZ e4 Ar7 (j := (1 : Int32)) hin7 (g := (mkF m 30 #[.val (.ref u), .val (.int p1), .val (.ref b)] [(.int (x1 + (p1 * (10 : Int32)))), (.int (1 : Int32)), (.ref b)])) rfl rfl (hb hby d1_30)
  have V_b : Arv Z h7 b ku .int (2 : Int32) [(.int (x0 + (p1 * (10 : Int32)))), (.int (x1 + (p1 * (10 : Int32))))] (.int (0 : Int32)) := Arv.set Ar7 q7 S7 M7 H7 G7 rfl W7 1 rfl (Nat.le_of_ble_eq_true rfl)
  have E_u := E_u.wr W7
  have V_u := V_u.other W7 ne_u_b
  have E_b := E_b.wr W7
  have Z7 : n0 ≤ h7.size := by rw [W7.size]; exact Z4
  have K7 := K4.wr W7 (Or.inr sz_b)
  have N7 := Fr.snoc X7 N4 ge_b
  refine own_go (W1 := T7.setTop (mkF m 31 #[.val (.ref u), .val (.int p1), .val (.ref b)] [])) (st7) ?_
  refine own_go (W1 := T7.setTop (mkF m 32 #[.val (.ref u), .val (.int p1), .val (.ref b)] [(.ref b)])) (fun t k => XS.aloadN X7.here hx rfl (hb hby d1_31) rfl rfl  k) ?_
  exact own_retR X7 hx Bd.returns rfl rfl (hb hby d1_32) hlk (by decide) (by decide) (by rw [e7]; exact ⟨b, _, rfl, N7, K7, sz_b, V_b⟩)
theorem ef_rm1_3 (m : MethodId) (x0 : Addr) (x1 : Int32)  : entryFrame m #[(.ref x0), (.int x1)] 3 = mkF m 0 #[.val (.ref x0), .val (.int x1), .unset] [] := by first | (simp [entryFrame, mkF, argsToLocals, Value.category]; done) | rfl
set_option maxRecDepth 65536 in
set_option maxHeartbeats 40000000 in
theorem rm1_3 (l : Launch) (Z : State) (a0 : Array Value) (hw : ∀ d ∈ tables_1, d.before a0 Z = true) (ws : List Jvm.Cond) (u : Addr) (ku : ClassId) (p1 x0 x1 x2 : Int32) (h0 : Heap) (n0 : Nat) (Z0 : n0 ≤ h0.size) (E_u : Exa Z h0 u "[I") (V_u : Arv Z h0 u ku .int 3 [(.int x0), (.int x1), (.int x2)] (.int 0)) :
    MetFree l (⟨"com/example/quietzone/quietzone/read/SymbolReader", "throughTheEdges", "([II)[I"⟩ : MethodName) (head1 (Jvm.Cond.code (⟨"com/example/quietzone/quietzone/read/SymbolReader", "throughTheEdges", "([II)[I"⟩ : MethodName) prog_97_method_9_code 3 (some (.array .int)) :: ws) ({ frames := 1, cells := 1, slots := 3, locals := 14 } : Room)) (fun a U => a = #[(.ref u), (.int p1)] ∧ Z.Warmed39 U.vm ∧ U.heap = h0) (fun _ _ _ _ _ => True) (fun _ U o U' => ∃ v L, o = .returned v ∧ own_Qt Z [(.int (x0 + (p1 * (10 : Int32)))), (.int x1), (.int (x2 + (p1 * (10 : Int32))))] 3 h0 n0 v U'.heap L ∧ FrameEnd U o U' L ({ frames := 1, cells := 1, slots := 3, locals := 14 } : Room).cells ({ frames := 1, cells := 1, slots := 3, locals := 14 } : Room).slots) := by
  refine MetFree.of_bodySF (plainFor_of_name own_pn_com_example_quietzone_quietzone_read_SymbolReader) hisR ?_
  intro p e s m args below meth c s₁ Bd hml0 hP hK
  obtain ⟨rfl, hZ, hh⟩ := hP
  have hx := Bd.exec
  have hby := Bd.bytes
  have hlk := BodyLoose.notSynchronized Bd
  have hml : c.maxLocals = 3 := hml0
  have hown : s.vm.findClass "com/example/quietzone/quietzone/read/SymbolReader" = some m.cls := findClass_of_methodNamed Bd.named
  have hnm := (name_of_methodNamed Bd.named Bd.method).1
  have X0 : Stand p l e ({ frames := 1, cells := 1, slots := 3, locals := 14 } : Room) s m #[(.ref u), (.int p1)] below meth c s₁ [] 0 0 := Stand.of_body Bd
  have e0 : s₁.heap = h0 := by rw [← hh, Bd.state]; rfl
  have N0 := Fr.nil n0
  show own_Ends p e below s (own_Qt Z [(.int (x0 + (p1 * (10 : Int32)))), (.int x1), (.int (x2 + (p1 * (10 : Int32))))] 3 h0 n0) 1 3 (s₁.setTop (entryFrame m #[(.ref u), (.int p1)] 3))
  refine own_go (W1 := s₁.setTop (mkF m 0 #[.val (.ref u), .val (.int p1), .unset] [])) (fun t k => castTop (ef_rm1_3 m u p1 ) k) ?_
  have K0 := Keep.refl h0 []
  refine own_go (W1 := s₁.setTop (mkF m 1 #[.val (.ref u), .val (.int p1), .unset] [(.ref u)])) (fun t k => XS.aloadN X0.here hx rfl (hb hby d1_0) rfl rfl  k) ?_
  obtain ⟨T1, h1, X1, e1, E1, A1, Ea1, st1⟩ := cloneH X0 hx hZ hown (hw _ (List.mem_of_getElem? (i := 5) rfl)) (hw _ (List.mem_of_getElem? (i := 6) rfl)) (hw _ (List.mem_of_getElem? (i := 10) rfl)) (hw _ (List.mem_of_getElem? (i := 8) rfl)) (hw _ (List.mem_of_getElem? (i := 9) rfl)) (hw _ (List.mem_of_getElem? (i := 11) rfl)) e0 V_u.arh E_u (g := (mkF m 1 #[.val (.ref u), .val (.int p1), .unset] [(.ref u)])) rfl (by rw [hml]; rfl) rfl (hb hby d1_1) (by decide) (W := 0) (cap := 3) (by show 2 * 0 + _ ≤ _; exact Nat.le_of_eq rfl) (by decide) (by decide) (by decide) (by decide)
  obtain ⟨b, g1⟩ : ∃ z, z = h0.size := ⟨_, rfl⟩
  have ne_u_b : u ≠ b := Nat.ne_of_lt (Nat.lt_of_lt_of_le E_u.lt (Nat.le_of_eq g1.symm))
  have ge_b : n0 ≤ b := Nat.le_trans Z0 (Nat.le_of_eq g1.symm)
  have sz_b : h0.size ≤ b := Nat.le_trans K0.1 (Nat.le_of_eq g1.symm)
  rw [← g1] at A1 Ea1 st1
  have E_u := E_u.ext E1
  have V_u := V_u.ext E1
  have Z1 : n0 ≤ h1.size := Nat.le_trans Z0 E1.1
  have K1 := K0.ext E1
  have E_b := Ea1
  have V_b := own_arv A1
  refine own_go (W1 := T1.setTop (mkF m 4 #[.val (.ref u), .val (.int p1), .unset] [(.ref b)])) (st1) ?_
  obtain ⟨T2, X2, e2, st2⟩ := castY X1 hx hZ hown (hw _ (List.mem_of_getElem? (i := 12) rfl)) e1 (Ins.self E_b) (g := (mkF m 4 #[.val (.ref u), .val (.int p1), .unset] [(.ref b)])) rfl rfl (hb hby d1_4)
  refine own_go (W1 := T2.setTop (mkF m 7 #[.val (.ref u), .val (.int p1), .unset] [(.ref b)])) (st2) ?_
  refine own_go (W1 := T2.setTop (mkF m 8 #[.val (.ref u), .val (.int p1), .val (.ref b)] [])) (fun t k => XS.astoreN X2.here hx rfl (hb hby d1_7) rfl rfl (l' := #[.val (.ref u), .val (.int p1), .val (.ref b)]) rfl k) ?_
  refine own_go (W1 := T2.setTop (mkF m 9 #[.val (.ref u), .val (.int p1), .val (.ref b)] [(.ref b)])) (fun t k => XS.aloadN X2.here hx rfl (hb hby d1_8) rfl rfl  k) ?_
  refine own_go (W1 := T2.setTop (mkF m 10 #[.val (.ref u), .val (.int p1), .val (.ref b)] [(.int (0 : Int32)), (.ref b)])) (fun t k => XS.iconst X2.here hx rfl (hb hby d1_9) k) ?_
  refine own_go (W1 := T2.setTop (mkF m 11 #[.val (.ref u), .val (.int p1), .val (.ref b)] [(.int (0 : Int32)), (.ref b), (.int (0 : Int32)), (.ref b)])) (fun t k => Jvm.Free.XT.dup2 X2.here hx rfl (hb hby d1_10) rfl rfl rfl k) ?_
  obtain ⟨cl3, Ar3, q3, S3, M3, H3, G3⟩ := id V_b
  have hin3 : ¬ ((0 : Int32) < 0 ∨ cl3.slots.size ≤ ((0 : Int32)).toNatClampNeg) := inb_of S3 ⟨by decide, by decide⟩
  have hat3 : cl3.slots[((0 : Int32)).toNatClampNeg]? = some (.int x0) := Has.at H3 hin3 rfl
  refine own_go (W1 := T2.setTop (mkF m 12 #[.val (.ref u), .val (.int p1), .val (.ref b)] [(.int x0), (.int (0 : Int32)), (.ref b)])) (X2.iaload hx (j := (0 : Int32)) (v := (.int x0)) (by rw [e2]; exact Ar3.1) (State.isArrayOf_alike hZ.alike Ar3.2.1) Ar3.2.2 hin3 hat3 (g := (mkF m 11 #[.val (.ref u), .val (.int p1), .val (.ref b)] [(.int (0 : Int32)), (.ref b), (.int (0 : Int32)), (.ref b)])) rfl rfl (hb hby d1_11)) ?_
  refine own_go (W1 := T2.setTop (mkF m 13 #[.val (.ref u), .val (.int p1), .val (.ref b)] [(.int p1), (.int x0), (.int (0 : Int32)), (.ref b)])) (fun t k => XS.iloadN X2.here hx rfl (hb hby d1_12) rfl  k) ?_
  refine own_go (W1 := T2.setTop (mkF m 15 #[.val (.ref u), .val (.int p1), .val (.ref b)] [(.int (10 : Int32)), (.int p1), (.int x0), (.int (0 : Int32)), (.ref b)])) (fun t k => XS.bipush X2.here hx rfl (hb hby d1_13) k) ?_
  refine own_go (W1 := T2.setTop (mkF m 16 #[.val (.ref u), .val (.int p1), .val (.ref b)] [(.int (p1 * (10 : Int32))), (.int x0), (.int (0 : Int32)), (.ref b)])) (fun t k => XS.imul X2.here hx rfl (hb hby d1_15) rfl k) ?_
  refine own_go (W1 := T2.setTop (mkF m 17 #[.val (.ref u), .val (.int p1), .val (.ref b)] [(.int (x0 + (p1 * (10 : Int32)))), (.int (0 : Int32)), (.ref b)])) (fun t k => XS.iadd X2.here hx rfl (hb hby d1_16) rfl k) ?_
  obtain ⟨cl4, Ar4, q4, S4, M4, H4, G4⟩ := id V_b
  have hin4 : ¬ ((0 : Int32) < 0 ∨ cl4.slots.size ≤ ((0 : Int32)).toNatClampNeg) := inb_of S4 ⟨by decide, by decide⟩
  obtain ⟨T4, h4, X4, e4, W4, st4⟩ := stI X2 hx hZ e2 Ar4 (j := (0 : Int32)) hin4 (g := (mkF m 17 #[.val (.ref u), .val (.int p1), .val (.ref b)] [(.int (x0 + (p1 * (10 : Int32)))), (.int (0 : Int32)), (.ref b)])) rfl rfl (hb hby d1_17)
  have V_b : Arv Z h4 b ku .int (3 : Int32) [(.int (x0 + (p1 * (10 : Int32)))), (.int x1), (.int x2)] (.int (0 : Int32)) := Arv.set Ar4 q4 S4 M4 H4 G4 rfl W4 0 rfl (Nat.le_of_ble_eq_true rfl)
  have E_u := E_u.wr W4
  have V_u := V_u.other W4 ne_u_b
  have E_b := E_b.wr W4
  have Z4 : n0 ≤ h4.size := by rw [W4.size]; exact Z1
  have K4 := K1.wr W4 (Or.inr sz_b)
  have N4 := Fr.snoc X4 N0 ge_b
  refine own_go (W1 := T4.setTop (mkF m 18 #[.val (.ref u), .val (.int p1), .val (.ref b)] [])) (st4) ?_
  refine own_go (W1 := T4.setTop (mkF m 19 #[.val (.ref u), .val (.int p1), .val (.ref b)] [(.ref b)])) (fun t k => XS.aloadN X4.here hx rfl (hb hby d1_18) rfl rfl  k) ?_
  refine own_go (W1 := T4.setTop (mkF m 20 #[.val (.ref u), .val (.int p1), .val (.ref b)] [(.ref b), (.ref b)])) (fun t k => XS.aloadN X4.here hx rfl (hb hby d1_19) rfl rfl  k) ?_
  obtain ⟨cl5, Ar5, -, S5, M5, -, -⟩ := id V_b
  have al5 := X4.arraylength hx (by rw [e4]; exact Ar5.1) (State.isArrayOf_alike hZ.alike Ar5.2.1) (g := (mkF m 20 #[.val (.ref u), .val (.int p1), .val (.ref b)] [(.ref b), (.ref b)])) rfl rfl (hb hby d1_20)
  rw [len_of S5 M5] at al5
  refine own_go (W1 := T4.setTop (mkF m 21 #[.val (.ref u), .val (.int p1), .val (.ref b)] [(.int (3 : Int32)), (.ref b)])) (al5) ?_
  refine own_go (W1 := T4.setTop (mkF m 22 #[.val (.ref u), .val (.int p1), .val (.ref b)] [(.int (1 : Int32)), (.int (3 : Int32)), (.ref b)])) (fun t k => XS.iconst X4.here hx rfl (hb hby d1_21) k) ?_
  refine own_go (W1 := T4.setTop (mkF m 23 #[.val (.ref u), .val (.int p1), .val (.ref b)] [(.int ((3 : Int32) - (1 : Int32))), (.ref b)])) (fun t k => XS.isub X4.here hx rfl (hb hby d1_22) rfl k) ?_
  rw [show ((3 : Int32) - (1 : Int32)) = (2 : Int32) from by decide]
  refine own_go (W1 := T4.setTop (mkF m 24 #[.val (.ref u), .val (.int p1), .val (.ref b)] [(.int (2 : Int32)), (.ref b), (.int (2 : Int32)), (.ref b)])) (fun t k => Jvm.Free.XT.dup2 X4.here hx rfl (hb hby d1_23) rfl rfl rfl k) ?_
  obtain ⟨cl6, Ar6, q6, S6, M6, H6, G6⟩ := id V_b
  have hin6 : ¬ ((2 : Int32) < 0 ∨ cl6.slots.size ≤ ((2 : Int32)).toNatClampNeg) := inb_of S6 ⟨by decide, by decide⟩
  have hat6 : cl6.slots[((2 : Int32)).toNatClampNeg]? = some (.int x2) := Has.at H6 hin6 rfl
  refine own_go (W1 := T4.setTop (mkF m 25 #[.val (.ref u), .val (.int p1), .val (.ref b)] [(.int x2), (.int (2 : Int32)), (.ref b)])) (X4.iaload hx (j := (2 : Int32)) (v := (.int x2)) (by rw [e4]; exact Ar6.1) (State.isArrayOf_alike hZ.alike Ar6.2.1) Ar6.2.2 hin6 hat6 (g := (mkF m 24 #[.val (.ref u), .val (.int p1), .val (.ref b)] [(.int (2 : Int32)), (.ref b), (.int (2 : Int32)), (.ref b)])) rfl rfl (hb hby d1_24)) ?_
  refine own_go (W1 := T4.setTop (mkF m 26 #[.val (.ref u), .val (.int p1), .val (.ref b)] [(.int p1), (.int x2), (.int (2 : Int32)), (.ref b)])) (fun t k => XS.iloadN X4.here hx rfl (hb hby d1_25) rfl  k) ?_
  refine own_go (W1 := T4.setTop (mkF m 28 #[.val (.ref u), .val (.int p1), .val (.ref b)] [(.int (10 : Int32)), (.int p1), (.int x2), (.int (2 : Int32)), (.ref b)])) (fun t k => XS.bipush X4.here hx rfl (hb hby d1_26) k) ?_
  refine own_go (W1 := T4.setTop (mkF m 29 #[.val (.ref u), .val (.int p1), .val (.ref b)] [(.int (p1 * (10 : Int32))), (.int x2), (.int (2 : Int32)), (.ref b)])) (fun t k => XS.imul X4.here hx rfl (hb hby d1_28) rfl k) ?_
  refine own_go (W1 := T4.setTop (mkF m 30 #[.val (.ref u), .val (.int p1), .val (.ref b)] [(.int (x2 + (p1 * (10 : Int32)))), (.int (2 : Int32)), (.ref b)])) (fun t k => XS.iadd X4.here hx rfl (hb hby d1_29) rfl k) ?_
  obtain ⟨cl7, Ar7, q7, S7, M7, H7, G7⟩ := id V_b
  have hin7 : ¬ ((2 : Int32) < 0 ∨ cl7.slots.size ≤ ((2 : Int32)).toNatClampNeg) := inb_of S7 ⟨by decide, by decide⟩
  obtain ⟨T7, h7, X7, e7, W7, st7⟩ := stI X4 hx hZ e4 Ar7 (j := (2 : Int32)) hin7 (g := (mkF m 30 #[.val (.ref u), .val (.int p1), .val (.ref b)] [(.int (x2 + (p1 * (10 : Int32)))), (.int (2 : Int32)), (.ref b)])) rfl rfl (hb hby d1_30)
  have V_b : Arv Z h7 b ku .int (3 : Int32) [(.int (x0 + (p1 * (10 : Int32)))), (.int x1), (.int (x2 + (p1 * (10 : Int32))))] (.int (0 : Int32)) := Arv.set Ar7 q7 S7 M7 H7 G7 rfl W7 2 rfl (Nat.le_of_ble_eq_true rfl)
  have E_u := E_u.wr W7
  have V_u := V_u.other W7 ne_u_b
  have E_b := E_b.wr W7
  have Z7 : n0 ≤ h7.size := by rw [W7.size]; exact Z4
  have K7 := K4.wr W7 (Or.inr sz_b)
  have N7 := Fr.snoc X7 N4 ge_b
  refine own_go (W1 := T7.setTop (mkF m 31 #[.val (.ref u), .val (.int p1), .val (.ref b)] [])) (st7) ?_
  refine own_go (W1 := T7.setTop (mkF m 32 #[.val (.ref u), .val (.int p1), .val (.ref b)] [(.ref b)])) (fun t k => XS.aloadN X7.here hx rfl (hb hby d1_31) rfl rfl  k) ?_
  exact own_retR X7 hx Bd.returns rfl rfl (hb hby d1_32) hlk (by decide) (by decide) (by rw [e7]; exact ⟨b, _, rfl, N7, K7, sz_b, V_b⟩)
theorem ef_rm1_4 (m : MethodId) (x0 : Addr) (x1 : Int32)  : entryFrame m #[(.ref x0), (.int x1)] 3 = mkF m 0 #[.val (.ref x0), .val (.int x1), .unset] [] := by first | (simp [entryFrame, mkF, argsToLocals, Value.category]; done) | rfl
set_option maxRecDepth 65536 in
set_option maxHeartbeats 40000000 in
theorem rm1_4 (l : Launch) (Z : State) (a0 : Array Value) (hw : ∀ d ∈ tables_1, d.before a0 Z = true) (ws : List Jvm.Cond) (u : Addr) (ku : ClassId) (p1 x0 x1 x2 x3 : Int32) (h0 : Heap) (n0 : Nat) (Z0 : n0 ≤ h0.size) (E_u : Exa Z h0 u "[I") (V_u : Arv Z h0 u ku .int 4 [(.int x0), (.int x1), (.int x2), (.int x3)] (.int 0)) :
    MetFree l (⟨"com/example/quietzone/quietzone/read/SymbolReader", "throughTheEdges", "([II)[I"⟩ : MethodName) (head1 (Jvm.Cond.code (⟨"com/example/quietzone/quietzone/read/SymbolReader", "throughTheEdges", "([II)[I"⟩ : MethodName) prog_97_method_9_code 3 (some (.array .int)) :: ws) ({ frames := 1, cells := 1, slots := 4, locals := 14 } : Room)) (fun a U => a = #[(.ref u), (.int p1)] ∧ Z.Warmed39 U.vm ∧ U.heap = h0) (fun _ _ _ _ _ => True) (fun _ U o U' => ∃ v L, o = .returned v ∧ own_Qt Z [(.int (x0 + (p1 * (10 : Int32)))), (.int x1), (.int x2), (.int (x3 + (p1 * (10 : Int32))))] 4 h0 n0 v U'.heap L ∧ FrameEnd U o U' L ({ frames := 1, cells := 1, slots := 4, locals := 14 } : Room).cells ({ frames := 1, cells := 1, slots := 4, locals := 14 } : Room).slots) := by
  refine MetFree.of_bodySF (plainFor_of_name own_pn_com_example_quietzone_quietzone_read_SymbolReader) hisR ?_
  intro p e s m args below meth c s₁ Bd hml0 hP hK
  obtain ⟨rfl, hZ, hh⟩ := hP
  have hx := Bd.exec
  have hby := Bd.bytes
  have hlk := BodyLoose.notSynchronized Bd
  have hml : c.maxLocals = 3 := hml0
  have hown : s.vm.findClass "com/example/quietzone/quietzone/read/SymbolReader" = some m.cls := findClass_of_methodNamed Bd.named
  have hnm := (name_of_methodNamed Bd.named Bd.method).1
  have X0 : Stand p l e ({ frames := 1, cells := 1, slots := 4, locals := 14 } : Room) s m #[(.ref u), (.int p1)] below meth c s₁ [] 0 0 := Stand.of_body Bd
  have e0 : s₁.heap = h0 := by rw [← hh, Bd.state]; rfl
  have N0 := Fr.nil n0
  show own_Ends p e below s (own_Qt Z [(.int (x0 + (p1 * (10 : Int32)))), (.int x1), (.int x2), (.int (x3 + (p1 * (10 : Int32))))] 4 h0 n0) 1 4 (s₁.setTop (entryFrame m #[(.ref u), (.int p1)] 3))
  refine own_go (W1 := s₁.setTop (mkF m 0 #[.val (.ref u), .val (.int p1), .unset] [])) (fun t k => castTop (ef_rm1_4 m u p1 ) k) ?_
  have K0 := Keep.refl h0 []
  refine own_go (W1 := s₁.setTop (mkF m 1 #[.val (.ref u), .val (.int p1), .unset] [(.ref u)])) (fun t k => XS.aloadN X0.here hx rfl (hb hby d1_0) rfl rfl  k) ?_
  obtain ⟨T1, h1, X1, e1, E1, A1, Ea1, st1⟩ := cloneH X0 hx hZ hown (hw _ (List.mem_of_getElem? (i := 5) rfl)) (hw _ (List.mem_of_getElem? (i := 6) rfl)) (hw _ (List.mem_of_getElem? (i := 10) rfl)) (hw _ (List.mem_of_getElem? (i := 8) rfl)) (hw _ (List.mem_of_getElem? (i := 9) rfl)) (hw _ (List.mem_of_getElem? (i := 11) rfl)) e0 V_u.arh E_u (g := (mkF m 1 #[.val (.ref u), .val (.int p1), .unset] [(.ref u)])) rfl (by rw [hml]; rfl) rfl (hb hby d1_1) (by decide) (W := 0) (cap := 4) (by show 2 * 0 + _ ≤ _; exact Nat.le_of_eq rfl) (by decide) (by decide) (by decide) (by decide)
  obtain ⟨b, g1⟩ : ∃ z, z = h0.size := ⟨_, rfl⟩
  have ne_u_b : u ≠ b := Nat.ne_of_lt (Nat.lt_of_lt_of_le E_u.lt (Nat.le_of_eq g1.symm))
  have ge_b : n0 ≤ b := Nat.le_trans Z0 (Nat.le_of_eq g1.symm)
  have sz_b : h0.size ≤ b := Nat.le_trans K0.1 (Nat.le_of_eq g1.symm)
  rw [← g1] at A1 Ea1 st1
  have E_u := E_u.ext E1
  have V_u := V_u.ext E1
  have Z1 : n0 ≤ h1.size := Nat.le_trans Z0 E1.1
  have K1 := K0.ext E1
  have E_b := Ea1
  have V_b := own_arv A1
  refine own_go (W1 := T1.setTop (mkF m 4 #[.val (.ref u), .val (.int p1), .unset] [(.ref b)])) (st1) ?_
  obtain ⟨T2, X2, e2, st2⟩ := castY X1 hx hZ hown (hw _ (List.mem_of_getElem? (i := 12) rfl)) e1 (Ins.self E_b) (g := (mkF m 4 #[.val (.ref u), .val (.int p1), .unset] [(.ref b)])) rfl rfl (hb hby d1_4)
  refine own_go (W1 := T2.setTop (mkF m 7 #[.val (.ref u), .val (.int p1), .unset] [(.ref b)])) (st2) ?_
  refine own_go (W1 := T2.setTop (mkF m 8 #[.val (.ref u), .val (.int p1), .val (.ref b)] [])) (fun t k => XS.astoreN X2.here hx rfl (hb hby d1_7) rfl rfl (l' := #[.val (.ref u), .val (.int p1), .val (.ref b)]) rfl k) ?_
  refine own_go (W1 := T2.setTop (mkF m 9 #[.val (.ref u), .val (.int p1), .val (.ref b)] [(.ref b)])) (fun t k => XS.aloadN X2.here hx rfl (hb hby d1_8) rfl rfl  k) ?_
  refine own_go (W1 := T2.setTop (mkF m 10 #[.val (.ref u), .val (.int p1), .val (.ref b)] [(.int (0 : Int32)), (.ref b)])) (fun t k => XS.iconst X2.here hx rfl (hb hby d1_9) k) ?_
  refine own_go (W1 := T2.setTop (mkF m 11 #[.val (.ref u), .val (.int p1), .val (.ref b)] [(.int (0 : Int32)), (.ref b), (.int (0 : Int32)), (.ref b)])) (fun t k => Jvm.Free.XT.dup2 X2.here hx rfl (hb hby d1_10) rfl rfl rfl k) ?_
  obtain ⟨cl3, Ar3, q3, S3, M3, H3, G3⟩ := id V_b
  have hin3 : ¬ ((0 : Int32) < 0 ∨ cl3.slots.size ≤ ((0 : Int32)).toNatClampNeg) := inb_of S3 ⟨by decide, by decide⟩
  have hat3 : cl3.slots[((0 : Int32)).toNatClampNeg]? = some (.int x0) := Has.at H3 hin3 rfl
  refine own_go (W1 := T2.setTop (mkF m 12 #[.val (.ref u), .val (.int p1), .val (.ref b)] [(.int x0), (.int (0 : Int32)), (.ref b)])) (X2.iaload hx (j := (0 : Int32)) (v := (.int x0)) (by rw [e2]; exact Ar3.1) (State.isArrayOf_alike hZ.alike Ar3.2.1) Ar3.2.2 hin3 hat3 (g := (mkF m 11 #[.val (.ref u), .val (.int p1), .val (.ref b)] [(.int (0 : Int32)), (.ref b), (.int (0 : Int32)), (.ref b)])) rfl rfl (hb hby d1_11)) ?_
  refine own_go (W1 := T2.setTop (mkF m 13 #[.val (.ref u), .val (.int p1), .val (.ref b)] [(.int p1), (.int x0), (.int (0 : Int32)), (.ref b)])) (fun t k => XS.iloadN X2.here hx rfl (hb hby d1_12) rfl  k) ?_
  refine own_go (W1 := T2.setTop (mkF m 15 #[.val (.ref u), .val (.int p1), .val (.ref b)] [(.int (10 : Int32)), (.int p1), (.int x0), (.int (0 : Int32)), (.ref b)])) (fun t k => XS.bipush X2.here hx rfl (hb hby d1_13) k) ?_
  refine own_go (W1 := T2.setTop (mkF m 16 #[.val (.ref u), .val (.int p1), .val (.ref b)] [(.int (p1 * (10 : Int32))), (.int x0), (.int (0 : Int32)), (.ref b)])) (fun t k => XS.imul X2.here hx rfl (hb hby d1_15) rfl k) ?_
  refine own_go (W1 := T2.setTop (mkF m 17 #[.val (.ref u), .val (.int p1), .val (.ref b)] [(.int (x0 + (p1 * (10 : Int32)))), (.int (0 : Int32)), (.ref b)])) (fun t k => XS.iadd X2.here hx rfl (hb hby d1_16) rfl k) ?_
  obtain ⟨cl4, Ar4, q4, S4, M4, H4, G4⟩ := id V_b
  have hin4 : ¬ ((0 : Int32) < 0 ∨ cl4.slots.size ≤ ((0 : Int32)).toNatClampNeg) := inb_of S4 ⟨by decide, by decide⟩
  obtain ⟨T4, h4, X4, e4, W4, st4⟩ := stI X2 hx hZ e2 Ar4 (j := (0 : Int32)) hin4 (g := (mkF m 17 #[.val (.ref u), .val (.int p1), .val (.ref b)] [(.int (x0 + (p1 * (10 : Int32)))), (.int (0 : Int32)), (.ref b)])) rfl rfl (hb hby d1_17)
  have V_b : Arv Z h4 b ku .int (4 : Int32) [(.int (x0 + (p1 * (10 : Int32)))), (.int x1), (.int x2), (.int x3)] (.int (0 : Int32)) := Arv.set Ar4 q4 S4 M4 H4 G4 rfl W4 0 rfl (Nat.le_of_ble_eq_true rfl)
  have E_u := E_u.wr W4
  have V_u := V_u.other W4 ne_u_b
  have E_b := E_b.wr W4
  have Z4 : n0 ≤ h4.size := by rw [W4.size]; exact Z1
  have K4 := K1.wr W4 (Or.inr sz_b)
  have N4 := Fr.snoc X4 N0 ge_b
  refine own_go (W1 := T4.setTop (mkF m 18 #[.val (.ref u), .val (.int p1), .val (.ref b)] [])) (st4) ?_
  refine own_go (W1 := T4.setTop (mkF m 19 #[.val (.ref u), .val (.int p1), .val (.ref b)] [(.ref b)])) (fun t k => XS.aloadN X4.here hx rfl (hb hby d1_18) rfl rfl  k) ?_
  refine own_go (W1 := T4.setTop (mkF m 20 #[.val (.ref u), .val (.int p1), .val (.ref b)] [(.ref b), (.ref b)])) (fun t k => XS.aloadN X4.here hx rfl (hb hby d1_19) rfl rfl  k) ?_
  obtain ⟨cl5, Ar5, -, S5, M5, -, -⟩ := id V_b
  have al5 := X4.arraylength hx (by rw [e4]; exact Ar5.1) (State.isArrayOf_alike hZ.alike Ar5.2.1) (g := (mkF m 20 #[.val (.ref u), .val (.int p1), .val (.ref b)] [(.ref b), (.ref b)])) rfl rfl (hb hby d1_20)
  rw [len_of S5 M5] at al5
  refine own_go (W1 := T4.setTop (mkF m 21 #[.val (.ref u), .val (.int p1), .val (.ref b)] [(.int (4 : Int32)), (.ref b)])) (al5) ?_
  refine own_go (W1 := T4.setTop (mkF m 22 #[.val (.ref u), .val (.int p1), .val (.ref b)] [(.int (1 : Int32)), (.int (4 : Int32)), (.ref b)])) (fun t k => XS.iconst X4.here hx rfl (hb hby d1_21) k) ?_
  refine own_go (W1 := T4.setTop (mkF m 23 #[.val (.ref u), .val (.int p1), .val (.ref b)] [(.int ((4 : Int32) - (1 : Int32))), (.ref b)])) (fun t k => XS.isub X4.here hx rfl (hb hby d1_22) rfl k) ?_
  rw [show ((4 : Int32) - (1 : Int32)) = (3 : Int32) from by decide]
  refine own_go (W1 := T4.setTop (mkF m 24 #[.val (.ref u), .val (.int p1), .val (.ref b)] [(.int (3 : Int32)), (.ref b), (.int (3 : Int32)), (.ref b)])) (fun t k => Jvm.Free.XT.dup2 X4.here hx rfl (hb hby d1_23) rfl rfl rfl k) ?_
  obtain ⟨cl6, Ar6, q6, S6, M6, H6, G6⟩ := id V_b
  have hin6 : ¬ ((3 : Int32) < 0 ∨ cl6.slots.size ≤ ((3 : Int32)).toNatClampNeg) := inb_of S6 ⟨by decide, by decide⟩
  have hat6 : cl6.slots[((3 : Int32)).toNatClampNeg]? = some (.int x3) := Has.at H6 hin6 rfl
  refine own_go (W1 := T4.setTop (mkF m 25 #[.val (.ref u), .val (.int p1), .val (.ref b)] [(.int x3), (.int (3 : Int32)), (.ref b)])) (X4.iaload hx (j := (3 : Int32)) (v := (.int x3)) (by rw [e4]; exact Ar6.1) (State.isArrayOf_alike hZ.alike Ar6.2.1) Ar6.2.2 hin6 hat6 (g := (mkF m 24 #[.val (.ref u), .val (.int p1), .val (.ref b)] [(.int (3 : Int32)), (.ref b), (.int (3 : Int32)), (.ref b)])) rfl rfl (hb hby d1_24)) ?_
  refine own_go (W1 := T4.setTop (mkF m 26 #[.val (.ref u), .val (.int p1), .val (.ref b)] [(.int p1), (.int x3), (.int (3 : Int32)), (.ref b)])) (fun t k => XS.iloadN X4.here hx rfl (hb hby d1_25) rfl  k) ?_
  refine own_go (W1 := T4.setTop (mkF m 28 #[.val (.ref u), .val (.int p1), .val (.ref b)] [(.int (10 : Int32)), (.int p1), (.int x3), (.int (3 : Int32)), (.ref b)])) (fun t k => XS.bipush X4.here hx rfl (hb hby d1_26) k) ?_
  refine own_go (W1 := T4.setTop (mkF m 29 #[.val (.ref u), .val (.int p1), .val (.ref b)] [(.int (p1 * (10 : Int32))), (.int x3), (.int (3 : Int32)), (.ref b)])) (fun t k => XS.imul X4.here hx rfl (hb hby d1_28) rfl k) ?_
  refine own_go (W1 := T4.setTop (mkF m 30 #[.val (.ref u), .val (.int p1), .val (.ref b)] [(.int (x3 + (p1 * (10 : Int32)))), (.int (3 : Int32)), (.ref b)])) (fun t k => XS.iadd X4.here hx rfl (hb hby d1_29) rfl k) ?_
  obtain ⟨cl7, Ar7, q7, S7, M7, H7, G7⟩ := id V_b
  have hin7 : ¬ ((3 : Int32) < 0 ∨ cl7.slots.size ≤ ((3 : Int32)).toNatClampNeg) := inb_of S7 ⟨by decide, by decide⟩
  obtain ⟨T7, h7, X7, e7, W7, st7⟩ := stI X4 hx hZ e4 Ar7 (j := (3 : Int32)) hin7 (g := (mkF m 30 #[.val (.ref u), .val (.int p1), .val (.ref b)] [(.int (x3 + (p1 * (10 : Int32)))), (.int (3 : Int32)), (.ref b)])) rfl rfl (hb hby d1_30)
  have V_b : Arv Z h7 b ku .int (4 : Int32) [(.int (x0 + (p1 * (10 : Int32)))), (.int x1), (.int x2), (.int (x3 + (p1 * (10 : Int32))))] (.int (0 : Int32)) := Arv.set Ar7 q7 S7 M7 H7 G7 rfl W7 3 rfl (Nat.le_of_ble_eq_true rfl)
  have E_u := E_u.wr W7
  have V_u := V_u.other W7 ne_u_b
  have E_b := E_b.wr W7
  have Z7 : n0 ≤ h7.size := by rw [W7.size]; exact Z4
  have K7 := K4.wr W7 (Or.inr sz_b)
  have N7 := Fr.snoc X7 N4 ge_b
  refine own_go (W1 := T7.setTop (mkF m 31 #[.val (.ref u), .val (.int p1), .val (.ref b)] [])) (st7) ?_
  refine own_go (W1 := T7.setTop (mkF m 32 #[.val (.ref u), .val (.int p1), .val (.ref b)] [(.ref b)])) (fun t k => XS.aloadN X7.here hx rfl (hb hby d1_31) rfl rfl  k) ?_
  exact own_retR X7 hx Bd.returns rfl rfl (hb hby d1_32) hlk (by decide) (by decide) (by rw [e7]; exact ⟨b, _, rfl, N7, K7, sz_b, V_b⟩)
theorem own_pn_com_example_quietzone_quietzone_read_SymbolReaderThroughTheEdgesPinLaw : plainName "com/example/quietzone/quietzone/read/SymbolReaderThroughTheEdgesPinLaw" = true := by first | (simp [plainName, overriddenIn]; done) | decide +kernel
theorem own_pd0 : parseMethodDescriptor "([II)[I" = some ⟨[(.array .int), .int], some (.array .int)⟩ := by decide +kernel
theorem ef_rm0 (m : MethodId) (x0 : Int32) (x1 : Int32) (x2 : Int32) (x3 : Int32) (x4 : Int32) (x5 : Int32)  : entryFrame m #[(.int x0), (.int x1), (.int x2), (.int x3), (.int x4), (.int x5)] maxLocals = mkF m 0 #[.val (.int x0), .val (.int x1), .val (.int x2), .val (.int x3), .val (.int x4), .val (.int x5), .unset, .unset, .unset, .unset] [] := by first | (simp [entryFrame, mkF, argsToLocals, Value.category, maxLocals]; done) | rfl
set_option maxRecDepth 65536 in
set_option maxHeartbeats 40000000 in
theorem rm0 (l : Launch) (Z : State) (a0 : Array Value) (hw : ∀ d ∈ tables_1, d.before a0 Z = true) (ws : List Jvm.Cond) (w0 w1 w2 w3 len sel : Int32) (h0 : Heap) (n0 : Nat) (Z0 : n0 ≤ h0.size)  :
    MetFree l x (head1 (Jvm.Cond.code x code maxLocals ret :: ws) room_1) (fun a U => a = #[(.int w0), (.int w1), (.int w2), (.int w3), (.int len), (.int sel)] ∧ Z.Warmed39 U.vm ∧ U.heap = h0) (fun _ _ _ _ _ => True) (fun _ U o U' => ∃ v L, o = .returned v ∧ own_Q0 n0 v U'.heap L ∧ FrameEnd U o U' L 16 128) := by
  refine MetFree.of_bodySF (plainFor_of_name own_pn_com_example_quietzone_quietzone_read_SymbolReaderThroughTheEdgesPinLaw) hisR ?_
  intro p e s m args below meth c s₁ Bd hml0 hP hK
  obtain ⟨rfl, hZ, hh⟩ := hP
  have hx := Bd.exec
  have hby := Bd.bytes
  have hlk := BodyLoose.notSynchronized Bd
  have hml : c.maxLocals = 10 := hml0
  have hown : s.vm.findClass "com/example/quietzone/quietzone/read/SymbolReaderThroughTheEdgesPinLaw" = some m.cls := findClass_of_methodNamed Bd.named
  have hnm := (name_of_methodNamed Bd.named Bd.method).1
  have X0 : Stand p l e room_1 s m #[(.int w0), (.int w1), (.int w2), (.int w3), (.int len), (.int sel)] below meth c s₁ [] 0 0 := Stand.of_body Bd
  have e0 : s₁.heap = h0 := by rw [← hh, Bd.state]; rfl
  have N0 := Fr.nil n0
  show own_Ends p e below s (own_Q0 n0) 16 128 (s₁.setTop (entryFrame m #[(.int w0), (.int w1), (.int w2), (.int w3), (.int len), (.int sel)] maxLocals))
  refine own_go (W1 := s₁.setTop (mkF m 0 #[.val (.int w0), .val (.int w1), .val (.int w2), .val (.int w3), .val (.int len), .val (.int sel), .unset, .unset, .unset, .unset] [])) (fun t k => castTop (ef_rm0 m w0 w1 w2 w3 len sel ) k) ?_
  refine own_go (W1 := s₁.setTop (mkF m 1 #[.val (.int w0), .val (.int w1), .val (.int w2), .val (.int w3), .val (.int len), .val (.int sel), .unset, .unset, .unset, .unset] [(.int (1 : Int32))])) (fun t k => XS.iconst X0.here hx rfl (hb hby at_0) k) ?_
  refine own_go (W1 := s₁.setTop (mkF m 3 #[.val (.int w0), .val (.int w1), .val (.int w2), .val (.int w3), .val (.int len), .val (.int sel), .unset, .unset, .unset, .unset] [(.int sel), (.int (1 : Int32))])) (fun t k => XS.iload X0.here hx rfl (hb hby at_1) rfl  k) ?_
  refine own_go (W1 := s₁.setTop (mkF m 4 #[.val (.int w0), .val (.int w1), .val (.int w2), .val (.int w3), .val (.int len), .val (.int sel), .unset, .unset, .unset, .unset] [(.int (3 : Int32)), (.int sel), (.int (1 : Int32))])) (fun t k => XS.iconst X0.here hx rfl (hb hby at_3) k) ?_
  refine own_go (W1 := s₁.setTop (mkF m 5 #[.val (.int w0), .val (.int w1), .val (.int w2), .val (.int w3), .val (.int len), .val (.int sel), .unset, .unset, .unset, .unset] [(.int (sel &&& (3 : Int32))), (.int (1 : Int32))])) (fun t k => XS.iand X0.here hx rfl (hb hby at_4) rfl k) ?_
  refine own_go (W1 := s₁.setTop (mkF m 6 #[.val (.int w0), .val (.int w1), .val (.int w2), .val (.int w3), .val (.int len), .val (.int sel), .unset, .unset, .unset, .unset] [(.int ((1 : Int32) + (sel &&& (3 : Int32))))])) (fun t k => XS.iadd X0.here hx rfl (hb hby at_5) rfl k) ?_
  refine own_go (W1 := s₁.setTop (mkF m 8 #[.val (.int w0), .val (.int w1), .val (.int w2), .val (.int w3), .val (.int len), .val (.int sel), .val (.int ((1 : Int32) + (sel &&& (3 : Int32)))), .unset, .unset, .unset] [])) (fun t k => XS.istore X0.here hx rfl (hb hby at_6) rfl (l' := #[.val (.int w0), .val (.int w1), .val (.int w2), .val (.int w3), .val (.int len), .val (.int sel), .val (.int ((1 : Int32) + (sel &&& (3 : Int32)))), .unset, .unset, .unset]) rfl k) ?_
  rcases own_n sel with hn | hn | hn | hn
  · rw [show ((1 : Int32) + (sel &&& (3 : Int32))) = (1 : Int32) from hn]
    refine own_go (W1 := s₁.setTop (mkF m 10 #[.val (.int w0), .val (.int w1), .val (.int w2), .val (.int w3), .val (.int len), .val (.int sel), .val (.int (1 : Int32)), .unset, .unset, .unset] [(.int (1 : Int32))])) (fun t k => XS.iload X0.here hx rfl (hb hby at_8) rfl  k) ?_
    obtain ⟨T1, h1, k1, X1, e1, E1, A1, Ea1, st1⟩ := newPE X0 hx hZ (hw _ (List.mem_of_getElem? (i := 0) rfl)) e0 (g := (mkF m 10 #[.val (.int w0), .val (.int w1), .val (.int w2), .val (.int w3), .val (.int len), .val (.int sel), .val (.int (1 : Int32)), .unset, .unset, .unset] [(.int (1 : Int32))])) rfl (hb hby at_10) rfl (by decide) (cap := 1) (by decide) (by decide) (by decide) (by decide) (ad := "[I") rfl
    obtain ⟨u, g1⟩ : ∃ z, z = h0.size := ⟨_, rfl⟩
    have ge_u : n0 ≤ u := Nat.le_trans Z0 (Nat.le_of_eq g1.symm)
    rw [← g1] at A1 st1 Ea1
    have Z1 : n0 ≤ h1.size := Nat.le_trans Z0 E1.1
    have E_u := Ea1
    have V_u : Arv Z h1 u k1 .int (1 : Int32) [(.int (0 : Int32))] (.int (0 : Int32)) := (Arv.new A1 (by decide)).pad (pad_rep [] (.int (0 : Int32)) 1)
    refine own_go (W1 := T1.setTop (mkF m 12 #[.val (.int w0), .val (.int w1), .val (.int w2), .val (.int w3), .val (.int len), .val (.int sel), .val (.int (1 : Int32)), .unset, .unset, .unset] [(.ref u)])) (st1) ?_
    refine own_go (W1 := T1.setTop (mkF m 14 #[.val (.int w0), .val (.int w1), .val (.int w2), .val (.int w3), .val (.int len), .val (.int sel), .val (.int (1 : Int32)), .val (.ref u), .unset, .unset] [])) (fun t k => XS.astore X1.here hx rfl (hb hby at_12) rfl rfl (l' := #[.val (.int w0), .val (.int w1), .val (.int w2), .val (.int w3), .val (.int len), .val (.int sel), .val (.int (1 : Int32)), .val (.ref u), .unset, .unset]) rfl k) ?_
    refine own_go (W1 := T1.setTop (mkF m 16 #[.val (.int w0), .val (.int w1), .val (.int w2), .val (.int w3), .val (.int len), .val (.int sel), .val (.int (1 : Int32)), .val (.ref u), .unset, .unset] [(.ref u)])) (fun t k => XS.aload X1.here hx rfl (hb hby at_14) rfl rfl  k) ?_
    refine own_go (W1 := T1.setTop (mkF m 17 #[.val (.int w0), .val (.int w1), .val (.int w2), .val (.int w3), .val (.int len), .val (.int sel), .val (.int (1 : Int32)), .val (.ref u), .unset, .unset] [(.int (0 : Int32)), (.ref u)])) (fun t k => XS.iconst X1.here hx rfl (hb hby at_16) k) ?_
    refine own_go (W1 := T1.setTop (mkF m 18 #[.val (.int w0), .val (.int w1), .val (.int w2), .val (.int w3), .val (.int len), .val (.int sel), .val (.int (1 : Int32)), .val (.ref u), .unset, .unset] [(.int w0), (.int (0 : Int32)), (.ref u)])) (fun t k => XS.iloadN X1.here hx rfl (hb hby at_17) rfl  k) ?_
    obtain ⟨cl2, Ar2, q2, S2, M2, H2, G2⟩ := id V_u
    have hin2 : ¬ ((0 : Int32) < 0 ∨ cl2.slots.size ≤ ((0 : Int32)).toNatClampNeg) := inb_of S2 ⟨by decide, by decide⟩
    obtain ⟨T2, h2, X2, e2, W2, st2⟩ := stI X1 hx hZ e1 Ar2 (j := (0 : Int32)) hin2 (g := (mkF m 18 #[.val (.int w0), .val (.int w1), .val (.int w2), .val (.int w3), .val (.int len), .val (.int sel), .val (.int (1 : Int32)), .val (.ref u), .unset, .unset] [(.int w0), (.int (0 : Int32)), (.ref u)])) rfl rfl (hb hby at_18)
    have V_u : Arv Z h2 u k1 .int (1 : Int32) [(.int w0)] (.int (0 : Int32)) := Arv.set Ar2 q2 S2 M2 H2 G2 rfl W2 0 rfl (Nat.le_of_ble_eq_true rfl)
    have E_u := E_u.wr W2
    have Z2 : n0 ≤ h2.size := by rw [W2.size]; exact Z1
    have N2 := Fr.snoc X2 N0 ge_u
    refine own_go (W1 := T2.setTop (mkF m 19 #[.val (.int w0), .val (.int w1), .val (.int w2), .val (.int w3), .val (.int len), .val (.int sel), .val (.int (1 : Int32)), .val (.ref u), .unset, .unset] [])) (st2) ?_
    refine own_go (W1 := T2.setTop (mkF m 21 #[.val (.int w0), .val (.int w1), .val (.int w2), .val (.int w3), .val (.int len), .val (.int sel), .val (.int (1 : Int32)), .val (.ref u), .unset, .unset] [(.int (1 : Int32))])) (fun t k => XS.iload X2.here hx rfl (hb hby at_19) rfl  k) ?_
    refine own_go (W1 := T2.setTop (mkF m 22 #[.val (.int w0), .val (.int w1), .val (.int w2), .val (.int w3), .val (.int len), .val (.int sel), .val (.int (1 : Int32)), .val (.ref u), .unset, .unset] [(.int (1 : Int32)), (.int (1 : Int32))])) (fun t k => XS.iconst X2.here hx rfl (hb hby at_21) k) ?_
    refine own_go (W1 := T2.setTop (mkF m 30 #[.val (.int w0), .val (.int w1), .val (.int w2), .val (.int w3), .val (.int len), .val (.int sel), .val (.int (1 : Int32)), .val (.ref u), .unset, .unset] [])) (fun t k => XS.icmpYes X2.here hx rfl (pc0 := 22) (pc' := 30) rfl (hb hby at_22) rfl (flt (show ¬ ((1 : Int32) < (1 : Int32)) from (by decide))).2.2.2 (by decide) (by decide) k) ?_
    refine own_go (W1 := T2.setTop (mkF m 32 #[.val (.int w0), .val (.int w1), .val (.int w2), .val (.int w3), .val (.int len), .val (.int sel), .val (.int (1 : Int32)), .val (.ref u), .unset, .unset] [(.int (1 : Int32))])) (fun t k => XS.iload X2.here hx rfl (hb hby at_30) rfl  k) ?_
    refine own_go (W1 := T2.setTop (mkF m 33 #[.val (.int w0), .val (.int w1), .val (.int w2), .val (.int w3), .val (.int len), .val (.int sel), .val (.int (1 : Int32)), .val (.ref u), .unset, .unset] [(.int (2 : Int32)), (.int (1 : Int32))])) (fun t k => XS.iconst X2.here hx rfl (hb hby at_32) k) ?_
    refine own_go (W1 := T2.setTop (mkF m 41 #[.val (.int w0), .val (.int w1), .val (.int w2), .val (.int w3), .val (.int len), .val (.int sel), .val (.int (1 : Int32)), .val (.ref u), .unset, .unset] [])) (fun t k => XS.icmpYes X2.here hx rfl (pc0 := 33) (pc' := 41) rfl (hb hby at_33) rfl (flt (show ¬ ((2 : Int32) < (1 : Int32)) from (by decide))).2.2.2 (by decide) (by decide) k) ?_
    refine own_go (W1 := T2.setTop (mkF m 43 #[.val (.int w0), .val (.int w1), .val (.int w2), .val (.int w3), .val (.int len), .val (.int sel), .val (.int (1 : Int32)), .val (.ref u), .unset, .unset] [(.int (1 : Int32))])) (fun t k => XS.iload X2.here hx rfl (hb hby at_41) rfl  k) ?_
    refine own_go (W1 := T2.setTop (mkF m 44 #[.val (.int w0), .val (.int w1), .val (.int w2), .val (.int w3), .val (.int len), .val (.int sel), .val (.int (1 : Int32)), .val (.ref u), .unset, .unset] [(.int (3 : Int32)), (.int (1 : Int32))])) (fun t k => XS.iconst X2.here hx rfl (hb hby at_43) k) ?_
    refine own_go (W1 := T2.setTop (mkF m 52 #[.val (.int w0), .val (.int w1), .val (.int w2), .val (.int w3), .val (.int len), .val (.int sel), .val (.int (1 : Int32)), .val (.ref u), .unset, .unset] [])) (fun t k => XS.icmpYes X2.here hx rfl (pc0 := 44) (pc' := 52) rfl (hb hby at_44) rfl (flt (show ¬ ((3 : Int32) < (1 : Int32)) from (by decide))).2.2.2 (by decide) (by decide) k) ?_
    refine own_go (W1 := T2.setTop (mkF m 54 #[.val (.int w0), .val (.int w1), .val (.int w2), .val (.int w3), .val (.int len), .val (.int sel), .val (.int (1 : Int32)), .val (.ref u), .unset, .unset] [(.ref u)])) (fun t k => XS.aload X2.here hx rfl (hb hby at_52) rfl rfl  k) ?_
    refine own_go (W1 := T2.setTop (mkF m 56 #[.val (.int w0), .val (.int w1), .val (.int w2), .val (.int w3), .val (.int len), .val (.int sel), .val (.int (1 : Int32)), .val (.ref u), .unset, .unset] [(.int len), (.ref u)])) (fun t k => XS.iload X2.here hx rfl (hb hby at_54) rfl  k) ?_
    obtain ⟨_, _, ⟨T3, L3, k3, n3⟩, -, X3, ⟨Lc3, hQ3, l3, y3, z3⟩, st3⟩ := Jvm.LawKit.callS X2 hx (y := (⟨"com/example/quietzone/quietzone/read/SymbolReader", "throughTheEdges", "([II)[I"⟩ : MethodName)) hown (mvT hZ (hw _ (List.mem_of_getElem? (i := 1) rfl))) (mvT hZ (hw _ (List.mem_of_getElem? (i := 2) rfl))) (mvT hZ (hw _ (List.mem_of_getElem? (i := 3) rfl))) (mvT hZ (hw _ (List.mem_of_getElem? (i := 4) rfl))) (by decide) (backOf (W := 0) (rm1_1 l Z a0 hw [] u k1 len w0 h2 n0 Z2 E_u V_u) hZ (hw _ (List.mem_of_getElem? (i := 4) rfl)) (hw _ (List.mem_of_getElem? (i := 3) rfl)) (by decide) (by decide)) (g := (mkF m 56 #[.val (.int w0), .val (.int w1), .val (.int w2), .val (.int w3), .val (.int len), .val (.int sel), .val (.int (1 : Int32)), .val (.ref u), .unset, .unset] [(.int len), (.ref u)])) rfl (by rw [hml]; rfl) (argsL := [(.ref u), (.int len)]) (rest := []) (lenOf own_pd0 rfl) rfl (by show 2 * 0 + _ ≤ _; exact Nat.le_of_eq rfl) (hb hby at_56) (fun _ _ => ⟨rfl, e2, (by decide : 1 + 1 ≤ _), (by decide : 1 + 1 ≤ _)⟩)
    dsimp only [Pt.U, Pt.locs, Pt.cells, Pt.slots] at X3 l3 y3 z3 st3 hQ3
    subst l3 y3 z3
    obtain ⟨b, kb, rfl, Nq3, Kq3, gq3, V_b⟩ := hQ3
    have ne_u_b : u ≠ b := Nat.ne_of_lt (Nat.lt_of_lt_of_le V_u.lt gq3)
    have E_u := E_u.keep Kq3
    have V_u := V_u.keep Kq3 nin0
    have Z3 : n0 ≤ T3.heap.size := Nat.le_trans Z2 Kq3.1
    have N3 := Fr.app N2 Nq3
    refine own_go (W1 := T3.setTop (mkF m 59 #[.val (.int w0), .val (.int w1), .val (.int w2), .val (.int w3), .val (.int len), .val (.int sel), .val (.int (1 : Int32)), .val (.ref u), .unset, .unset] [(.ref b)])) st3 ?_
    refine own_go (W1 := T3.setTop (mkF m 61 #[.val (.int w0), .val (.int w1), .val (.int w2), .val (.int w3), .val (.int len), .val (.int sel), .val (.int (1 : Int32)), .val (.ref u), .val (.ref b), .unset] [])) (fun t k => XS.astore X3.here hx rfl (hb hby at_59) rfl rfl (l' := #[.val (.int w0), .val (.int w1), .val (.int w2), .val (.int w3), .val (.int len), .val (.int sel), .val (.int (1 : Int32)), .val (.ref u), .val (.ref b), .unset]) rfl k) ?_
    refine own_go (W1 := T3.setTop (mkF m 63 #[.val (.int w0), .val (.int w1), .val (.int w2), .val (.int w3), .val (.int len), .val (.int sel), .val (.int (1 : Int32)), .val (.ref u), .val (.ref b), .unset] [(.ref b)])) (fun t k => XS.aload X3.here hx rfl (hb hby at_61) rfl rfl  k) ?_
    refine own_go (W1 := T3.setTop (mkF m 65 #[.val (.int w0), .val (.int w1), .val (.int w2), .val (.int w3), .val (.int len), .val (.int sel), .val (.int (1 : Int32)), .val (.ref u), .val (.ref b), .unset] [(.ref u), (.ref b)])) (fun t k => XS.aload X3.here hx rfl (hb hby at_63) rfl rfl  k) ?_
    refine own_go (W1 := T3.setTop (mkF m 70 #[.val (.int w0), .val (.int w1), .val (.int w2), .val (.int w3), .val (.int len), .val (.int sel), .val (.int (1 : Int32)), .val (.ref u), .val (.ref b), .unset] [])) (fun t k => Jvm.RoadKit.acmp (g := (mkF m 65 #[.val (.int w0), .val (.int w1), .val (.int w2), .val (.int w3), .val (.int len), .val (.int sel), .val (.int (1 : Int32)), .val (.ref u), .val (.ref b), .unset] [(.ref u), (.ref b)])) X3 hx rfl rfl rfl (pc0 := 65) (pc' := 70) (same := false) rfl (hb hby at_65) rfl (decide_eq_false fun q => (Ne.symm ne_u_b) (Value.ref.inj q)) (by decide) (by decide) k) ?_
    refine own_go (W1 := T3.setTop (mkF m 72 #[.val (.int w0), .val (.int w1), .val (.int w2), .val (.int w3), .val (.int len), .val (.int sel), .val (.int (1 : Int32)), .val (.ref u), .val (.ref b), .unset] [(.ref b)])) (fun t k => XS.aload X3.here hx rfl (hb hby at_70) rfl rfl  k) ?_
    obtain ⟨cl4, Ar4, -, S4, M4, -, -⟩ := id V_b
    have al4 := X3.arraylength hx (by rw [(rfl : T3.heap = T3.heap)]; exact Ar4.1) (State.isArrayOf_alike hZ.alike Ar4.2.1) (g := (mkF m 72 #[.val (.int w0), .val (.int w1), .val (.int w2), .val (.int w3), .val (.int len), .val (.int sel), .val (.int (1 : Int32)), .val (.ref u), .val (.ref b), .unset] [(.ref b)])) rfl rfl (hb hby at_72)
    rw [len_of S4 M4] at al4
    refine own_go (W1 := T3.setTop (mkF m 73 #[.val (.int w0), .val (.int w1), .val (.int w2), .val (.int w3), .val (.int len), .val (.int sel), .val (.int (1 : Int32)), .val (.ref u), .val (.ref b), .unset] [(.int (1 : Int32))])) (al4) ?_
    refine own_go (W1 := T3.setTop (mkF m 75 #[.val (.int w0), .val (.int w1), .val (.int w2), .val (.int w3), .val (.int len), .val (.int sel), .val (.int (1 : Int32)), .val (.ref u), .val (.ref b), .unset] [(.int (1 : Int32)), (.int (1 : Int32))])) (fun t k => XS.iload X3.here hx rfl (hb hby at_73) rfl  k) ?_
    refine own_go (W1 := T3.setTop (mkF m 80 #[.val (.int w0), .val (.int w1), .val (.int w2), .val (.int w3), .val (.int len), .val (.int sel), .val (.int (1 : Int32)), .val (.ref u), .val (.ref b), .unset] [])) (fun t k => XS.icmpYes X3.here hx rfl (pc0 := 75) (pc' := 80) rfl (hb hby at_75) rfl (teq (show (1 : Int32) = (1 : Int32) from (by decide))).1 (by decide) (by decide) k) ?_
    refine own_go (W1 := T3.setTop (mkF m 82 #[.val (.int w0), .val (.int w1), .val (.int w2), .val (.int w3), .val (.int len), .val (.int sel), .val (.int (1 : Int32)), .val (.ref u), .val (.ref b), .unset] [(.ref u)])) (fun t k => XS.aload X3.here hx rfl (hb hby at_80) rfl rfl  k) ?_
    refine own_go (W1 := T3.setTop (mkF m 83 #[.val (.int w0), .val (.int w1), .val (.int w2), .val (.int w3), .val (.int len), .val (.int sel), .val (.int (1 : Int32)), .val (.ref u), .val (.ref b), .unset] [(.int (0 : Int32)), (.ref u)])) (fun t k => XS.iconst X3.here hx rfl (hb hby at_82) k) ?_
    obtain ⟨cl5, Ar5, q5, S5, M5, H5, G5⟩ := id V_u
    have hin5 : ¬ ((0 : Int32) < 0 ∨ cl5.slots.size ≤ ((0 : Int32)).toNatClampNeg) := inb_of S5 ⟨by decide, by decide⟩
    have hat5 : cl5.slots[((0 : Int32)).toNatClampNeg]? = some (.int w0) := Has.at H5 hin5 rfl
    refine own_go (W1 := T3.setTop (mkF m 84 #[.val (.int w0), .val (.int w1), .val (.int w2), .val (.int w3), .val (.int len), .val (.int sel), .val (.int (1 : Int32)), .val (.ref u), .val (.ref b), .unset] [(.int w0)])) (X3.iaload hx (j := (0 : Int32)) (v := (.int w0)) (by rw [(rfl : T3.heap = T3.heap)]; exact Ar5.1) (State.isArrayOf_alike hZ.alike Ar5.2.1) Ar5.2.2 hin5 hat5 (g := (mkF m 83 #[.val (.int w0), .val (.int w1), .val (.int w2), .val (.int w3), .val (.int len), .val (.int sel), .val (.int (1 : Int32)), .val (.ref u), .val (.ref b), .unset] [(.int (0 : Int32)), (.ref u)])) rfl rfl (hb hby at_83)) ?_
    refine own_go (W1 := T3.setTop (mkF m 85 #[.val (.int w0), .val (.int w1), .val (.int w2), .val (.int w3), .val (.int len), .val (.int sel), .val (.int (1 : Int32)), .val (.ref u), .val (.ref b), .unset] [(.int w0), (.int w0)])) (fun t k => XS.iloadN X3.here hx rfl (hb hby at_84) rfl  k) ?_
    refine own_go (W1 := T3.setTop (mkF m 90 #[.val (.int w0), .val (.int w1), .val (.int w2), .val (.int w3), .val (.int len), .val (.int sel), .val (.int (1 : Int32)), .val (.ref u), .val (.ref b), .unset] [])) (fun t k => XS.icmpYes X3.here hx rfl (pc0 := 85) (pc' := 90) rfl (hb hby at_85) rfl (teq (show w0 = w0 from rfl)).1 (by decide) (by decide) k) ?_
    refine own_go (W1 := T3.setTop (mkF m 92 #[.val (.int w0), .val (.int w1), .val (.int w2), .val (.int w3), .val (.int len), .val (.int sel), .val (.int (1 : Int32)), .val (.ref u), .val (.ref b), .unset] [(.int (1 : Int32))])) (fun t k => XS.iload X3.here hx rfl (hb hby at_90) rfl  k) ?_
    refine own_go (W1 := T3.setTop (mkF m 93 #[.val (.int w0), .val (.int w1), .val (.int w2), .val (.int w3), .val (.int len), .val (.int sel), .val (.int (1 : Int32)), .val (.ref u), .val (.ref b), .unset] [(.int (1 : Int32)), (.int (1 : Int32))])) (fun t k => XS.iconst X3.here hx rfl (hb hby at_92) k) ?_
    refine own_go (W1 := T3.setTop (mkF m 106 #[.val (.int w0), .val (.int w1), .val (.int w2), .val (.int w3), .val (.int len), .val (.int sel), .val (.int (1 : Int32)), .val (.ref u), .val (.ref b), .unset] [])) (fun t k => XS.icmpYes X3.here hx rfl (pc0 := 93) (pc' := 106) rfl (hb hby at_93) rfl (flt (show ¬ ((1 : Int32) < (1 : Int32)) from (by decide))).2.2.2 (by decide) (by decide) k) ?_
    refine own_go (W1 := T3.setTop (mkF m 108 #[.val (.int w0), .val (.int w1), .val (.int w2), .val (.int w3), .val (.int len), .val (.int sel), .val (.int (1 : Int32)), .val (.ref u), .val (.ref b), .unset] [(.int (1 : Int32))])) (fun t k => XS.iload X3.here hx rfl (hb hby at_106) rfl  k) ?_
    refine own_go (W1 := T3.setTop (mkF m 109 #[.val (.int w0), .val (.int w1), .val (.int w2), .val (.int w3), .val (.int len), .val (.int sel), .val (.int (1 : Int32)), .val (.ref u), .val (.ref b), .unset] [(.int (2 : Int32)), (.int (1 : Int32))])) (fun t k => XS.iconst X3.here hx rfl (hb hby at_108) k) ?_
    refine own_go (W1 := T3.setTop (mkF m 122 #[.val (.int w0), .val (.int w1), .val (.int w2), .val (.int w3), .val (.int len), .val (.int sel), .val (.int (1 : Int32)), .val (.ref u), .val (.ref b), .unset] [])) (fun t k => XS.icmpYes X3.here hx rfl (pc0 := 109) (pc' := 122) rfl (hb hby at_109) rfl (flt (show ¬ ((2 : Int32) < (1 : Int32)) from (by decide))).2.2.2 (by decide) (by decide) k) ?_
    refine own_go (W1 := T3.setTop (mkF m 124 #[.val (.int w0), .val (.int w1), .val (.int w2), .val (.int w3), .val (.int len), .val (.int sel), .val (.int (1 : Int32)), .val (.ref u), .val (.ref b), .unset] [(.int (1 : Int32))])) (fun t k => XS.iload X3.here hx rfl (hb hby at_122) rfl  k) ?_
    refine own_go (W1 := T3.setTop (mkF m 125 #[.val (.int w0), .val (.int w1), .val (.int w2), .val (.int w3), .val (.int len), .val (.int sel), .val (.int (1 : Int32)), .val (.ref u), .val (.ref b), .unset] [(.int (3 : Int32)), (.int (1 : Int32))])) (fun t k => XS.iconst X3.here hx rfl (hb hby at_124) k) ?_
    refine own_go (W1 := T3.setTop (mkF m 138 #[.val (.int w0), .val (.int w1), .val (.int w2), .val (.int w3), .val (.int len), .val (.int sel), .val (.int (1 : Int32)), .val (.ref u), .val (.ref b), .unset] [])) (fun t k => XS.icmpYes X3.here hx rfl (pc0 := 125) (pc' := 138) rfl (hb hby at_125) rfl (flt (show ¬ ((3 : Int32) < (1 : Int32)) from (by decide))).2.2.2 (by decide) (by decide) k) ?_
    refine own_go (W1 := T3.setTop (mkF m 140 #[.val (.int w0), .val (.int w1), .val (.int w2), .val (.int w3), .val (.int len), .val (.int sel), .val (.int (1 : Int32)), .val (.ref u), .val (.ref b), .unset] [(.int len)])) (fun t k => XS.iload X3.here hx rfl (hb hby at_138) rfl  k) ?_
    refine own_go (W1 := T3.setTop (mkF m 142 #[.val (.int w0), .val (.int w1), .val (.int w2), .val (.int w3), .val (.int len), .val (.int sel), .val (.int (1 : Int32)), .val (.ref u), .val (.ref b), .unset] [(.int (10 : Int32)), (.int len)])) (fun t k => XS.bipush X3.here hx rfl (hb hby at_140) k) ?_
    refine own_go (W1 := T3.setTop (mkF m 143 #[.val (.int w0), .val (.int w1), .val (.int w2), .val (.int w3), .val (.int len), .val (.int sel), .val (.int (1 : Int32)), .val (.ref u), .val (.ref b), .unset] [(.int (len * (10 : Int32)))])) (fun t k => XS.imul X3.here hx rfl (hb hby at_142) rfl k) ?_
    refine own_go (W1 := T3.setTop (mkF m 145 #[.val (.int w0), .val (.int w1), .val (.int w2), .val (.int w3), .val (.int len), .val (.int sel), .val (.int (1 : Int32)), .val (.ref u), .val (.ref b), .val (.int (len * (10 : Int32)))] [])) (fun t k => XS.istore X3.here hx rfl (hb hby at_143) rfl (l' := #[.val (.int w0), .val (.int w1), .val (.int w2), .val (.int w3), .val (.int len), .val (.int sel), .val (.int (1 : Int32)), .val (.ref u), .val (.ref b), .val (.int (len * (10 : Int32)))]) rfl k) ?_
    refine own_go (W1 := T3.setTop (mkF m 147 #[.val (.int w0), .val (.int w1), .val (.int w2), .val (.int w3), .val (.int len), .val (.int sel), .val (.int (1 : Int32)), .val (.ref u), .val (.ref b), .val (.int (len * (10 : Int32)))] [(.int (1 : Int32))])) (fun t k => XS.iload X3.here hx rfl (hb hby at_145) rfl  k) ?_
    refine own_go (W1 := T3.setTop (mkF m 148 #[.val (.int w0), .val (.int w1), .val (.int w2), .val (.int w3), .val (.int len), .val (.int sel), .val (.int (1 : Int32)), .val (.ref u), .val (.ref b), .val (.int (len * (10 : Int32)))] [(.int (1 : Int32)), (.int (1 : Int32))])) (fun t k => XS.iconst X3.here hx rfl (hb hby at_147) k) ?_
    refine own_go (W1 := T3.setTop (mkF m 151 #[.val (.int w0), .val (.int w1), .val (.int w2), .val (.int w3), .val (.int len), .val (.int sel), .val (.int (1 : Int32)), .val (.ref u), .val (.ref b), .val (.int (len * (10 : Int32)))] [])) (fun t k => XS.icmpNo X3.here hx rfl (hb hby at_148) rfl (teq (show (1 : Int32) = (1 : Int32) from (by decide))).2 k) ?_
    refine own_go (W1 := T3.setTop (mkF m 153 #[.val (.int w0), .val (.int w1), .val (.int w2), .val (.int w3), .val (.int len), .val (.int sel), .val (.int (1 : Int32)), .val (.ref u), .val (.ref b), .val (.int (len * (10 : Int32)))] [(.ref b)])) (fun t k => XS.aload X3.here hx rfl (hb hby at_151) rfl rfl  k) ?_
    refine own_go (W1 := T3.setTop (mkF m 154 #[.val (.int w0), .val (.int w1), .val (.int w2), .val (.int w3), .val (.int len), .val (.int sel), .val (.int (1 : Int32)), .val (.ref u), .val (.ref b), .val (.int (len * (10 : Int32)))] [(.int (0 : Int32)), (.ref b)])) (fun t k => XS.iconst X3.here hx rfl (hb hby at_153) k) ?_
    obtain ⟨cl6, Ar6, q6, S6, M6, H6, G6⟩ := id V_b
    have hin6 : ¬ ((0 : Int32) < 0 ∨ cl6.slots.size ≤ ((0 : Int32)).toNatClampNeg) := inb_of S6 ⟨by decide, by decide⟩
    have hat6 : cl6.slots[((0 : Int32)).toNatClampNeg]? = some (.int ((w0 + (len * (10 : Int32))) + (len * (10 : Int32)))) := Has.at H6 hin6 rfl
    refine own_go (W1 := T3.setTop (mkF m 155 #[.val (.int w0), .val (.int w1), .val (.int w2), .val (.int w3), .val (.int len), .val (.int sel), .val (.int (1 : Int32)), .val (.ref u), .val (.ref b), .val (.int (len * (10 : Int32)))] [(.int ((w0 + (len * (10 : Int32))) + (len * (10 : Int32))))])) (X3.iaload hx (j := (0 : Int32)) (v := (.int ((w0 + (len * (10 : Int32))) + (len * (10 : Int32))))) (by rw [(rfl : T3.heap = T3.heap)]; exact Ar6.1) (State.isArrayOf_alike hZ.alike Ar6.2.1) Ar6.2.2 hin6 hat6 (g := (mkF m 154 #[.val (.int w0), .val (.int w1), .val (.int w2), .val (.int w3), .val (.int len), .val (.int sel), .val (.int (1 : Int32)), .val (.ref u), .val (.ref b), .val (.int (len * (10 : Int32)))] [(.int (0 : Int32)), (.ref b)])) rfl rfl (hb hby at_154)) ?_
    refine own_go (W1 := T3.setTop (mkF m 156 #[.val (.int w0), .val (.int w1), .val (.int w2), .val (.int w3), .val (.int len), .val (.int sel), .val (.int (1 : Int32)), .val (.ref u), .val (.ref b), .val (.int (len * (10 : Int32)))] [(.int w0), (.int ((w0 + (len * (10 : Int32))) + (len * (10 : Int32))))])) (fun t k => XS.iloadN X3.here hx rfl (hb hby at_155) rfl  k) ?_
    refine own_go (W1 := T3.setTop (mkF m 158 #[.val (.int w0), .val (.int w1), .val (.int w2), .val (.int w3), .val (.int len), .val (.int sel), .val (.int (1 : Int32)), .val (.ref u), .val (.ref b), .val (.int (len * (10 : Int32)))] [(.int (len * (10 : Int32))), (.int w0), (.int ((w0 + (len * (10 : Int32))) + (len * (10 : Int32))))])) (fun t k => XS.iload X3.here hx rfl (hb hby at_156) rfl  k) ?_
    refine own_go (W1 := T3.setTop (mkF m 159 #[.val (.int w0), .val (.int w1), .val (.int w2), .val (.int w3), .val (.int len), .val (.int sel), .val (.int (1 : Int32)), .val (.ref u), .val (.ref b), .val (.int (len * (10 : Int32)))] [(.int (w0 + (len * (10 : Int32)))), (.int ((w0 + (len * (10 : Int32))) + (len * (10 : Int32))))])) (fun t k => XS.iadd X3.here hx rfl (hb hby at_158) rfl k) ?_
    refine own_go (W1 := T3.setTop (mkF m 161 #[.val (.int w0), .val (.int w1), .val (.int w2), .val (.int w3), .val (.int len), .val (.int sel), .val (.int (1 : Int32)), .val (.ref u), .val (.ref b), .val (.int (len * (10 : Int32)))] [(.int (len * (10 : Int32))), (.int (w0 + (len * (10 : Int32)))), (.int ((w0 + (len * (10 : Int32))) + (len * (10 : Int32))))])) (fun t k => XS.iload X3.here hx rfl (hb hby at_159) rfl  k) ?_
    refine own_go (W1 := T3.setTop (mkF m 162 #[.val (.int w0), .val (.int w1), .val (.int w2), .val (.int w3), .val (.int len), .val (.int sel), .val (.int (1 : Int32)), .val (.ref u), .val (.ref b), .val (.int (len * (10 : Int32)))] [(.int ((w0 + (len * (10 : Int32))) + (len * (10 : Int32)))), (.int ((w0 + (len * (10 : Int32))) + (len * (10 : Int32))))])) (fun t k => XS.iadd X3.here hx rfl (hb hby at_161) rfl k) ?_
    refine own_go (W1 := T3.setTop (mkF m 165 #[.val (.int w0), .val (.int w1), .val (.int w2), .val (.int w3), .val (.int len), .val (.int sel), .val (.int (1 : Int32)), .val (.ref u), .val (.ref b), .val (.int (len * (10 : Int32)))] [])) (fun t k => XS.icmpNo X3.here hx rfl (hb hby at_162) rfl (teq (show ((w0 + (len * (10 : Int32))) + (len * (10 : Int32))) = ((w0 + (len * (10 : Int32))) + (len * (10 : Int32))) from rfl)).2 k) ?_
    refine own_go (W1 := T3.setTop (mkF m 166 #[.val (.int w0), .val (.int w1), .val (.int w2), .val (.int w3), .val (.int len), .val (.int sel), .val (.int (1 : Int32)), .val (.ref u), .val (.ref b), .val (.int (len * (10 : Int32)))] [(.int (1 : Int32))])) (fun t k => XS.iconst X3.here hx rfl (hb hby at_165) k) ?_
    refine own_go (W1 := T3.setTop (mkF m 170 #[.val (.int w0), .val (.int w1), .val (.int w2), .val (.int w3), .val (.int len), .val (.int sel), .val (.int (1 : Int32)), .val (.ref u), .val (.ref b), .val (.int (len * (10 : Int32)))] [(.int (1 : Int32))])) (fun t k => XS.goto X3.here hx rfl (pc0 := 166) (pc' := 170) rfl (hb hby at_166) (by decide) (by decide) k) ?_
    exact own_retN X3 hx (t := .boolean) Bd.returns (by simp) (hb hby at_170) hlk (by decide) (by decide) ⟨rfl, N3⟩
  · rw [show ((1 : Int32) + (sel &&& (3 : Int32))) = (2 : Int32) from hn]
    refine own_go (W1 := s₁.setTop (mkF m 10 #[.val (.int w0), .val (.int w1), .val (.int w2), .val (.int w3), .val (.int len), .val (.int sel), .val (.int (2 : Int32)), .unset, .unset, .unset] [(.int (2 : Int32))])) (fun t k => XS.iload X0.here hx rfl (hb hby at_8) rfl  k) ?_
    obtain ⟨T7, h7, k7, X7, e7, E7, A7, Ea7, st7⟩ := newPE X0 hx hZ (hw _ (List.mem_of_getElem? (i := 0) rfl)) e0 (g := (mkF m 10 #[.val (.int w0), .val (.int w1), .val (.int w2), .val (.int w3), .val (.int len), .val (.int sel), .val (.int (2 : Int32)), .unset, .unset, .unset] [(.int (2 : Int32))])) rfl (hb hby at_10) rfl (by decide) (cap := 2) (by decide) (by decide) (by decide) (by decide) (ad := "[I") rfl
    obtain ⟨u, g7⟩ : ∃ z, z = h0.size := ⟨_, rfl⟩
    have ge_u : n0 ≤ u := Nat.le_trans Z0 (Nat.le_of_eq g7.symm)
    rw [← g7] at A7 st7 Ea7
    have Z7 : n0 ≤ h7.size := Nat.le_trans Z0 E7.1
    have E_u := Ea7
    have V_u : Arv Z h7 u k7 .int (2 : Int32) [(.int (0 : Int32)), (.int (0 : Int32))] (.int (0 : Int32)) := (Arv.new A7 (by decide)).pad (pad_rep [] (.int (0 : Int32)) 2)
    refine own_go (W1 := T7.setTop (mkF m 12 #[.val (.int w0), .val (.int w1), .val (.int w2), .val (.int w3), .val (.int len), .val (.int sel), .val (.int (2 : Int32)), .unset, .unset, .unset] [(.ref u)])) (st7) ?_
    refine own_go (W1 := T7.setTop (mkF m 14 #[.val (.int w0), .val (.int w1), .val (.int w2), .val (.int w3), .val (.int len), .val (.int sel), .val (.int (2 : Int32)), .val (.ref u), .unset, .unset] [])) (fun t k => XS.astore X7.here hx rfl (hb hby at_12) rfl rfl (l' := #[.val (.int w0), .val (.int w1), .val (.int w2), .val (.int w3), .val (.int len), .val (.int sel), .val (.int (2 : Int32)), .val (.ref u), .unset, .unset]) rfl k) ?_
    refine own_go (W1 := T7.setTop (mkF m 16 #[.val (.int w0), .val (.int w1), .val (.int w2), .val (.int w3), .val (.int len), .val (.int sel), .val (.int (2 : Int32)), .val (.ref u), .unset, .unset] [(.ref u)])) (fun t k => XS.aload X7.here hx rfl (hb hby at_14) rfl rfl  k) ?_
    refine own_go (W1 := T7.setTop (mkF m 17 #[.val (.int w0), .val (.int w1), .val (.int w2), .val (.int w3), .val (.int len), .val (.int sel), .val (.int (2 : Int32)), .val (.ref u), .unset, .unset] [(.int (0 : Int32)), (.ref u)])) (fun t k => XS.iconst X7.here hx rfl (hb hby at_16) k) ?_
    refine own_go (W1 := T7.setTop (mkF m 18 #[.val (.int w0), .val (.int w1), .val (.int w2), .val (.int w3), .val (.int len), .val (.int sel), .val (.int (2 : Int32)), .val (.ref u), .unset, .unset] [(.int w0), (.int (0 : Int32)), (.ref u)])) (fun t k => XS.iloadN X7.here hx rfl (hb hby at_17) rfl  k) ?_
    obtain ⟨cl8, Ar8, q8, S8, M8, H8, G8⟩ := id V_u
    have hin8 : ¬ ((0 : Int32) < 0 ∨ cl8.slots.size ≤ ((0 : Int32)).toNatClampNeg) := inb_of S8 ⟨by decide, by decide⟩
    obtain ⟨T8, h8, X8, e8, W8, st8⟩ := stI X7 hx hZ e7 Ar8 (j := (0 : Int32)) hin8 (g := (mkF m 18 #[.val (.int w0), .val (.int w1), .val (.int w2), .val (.int w3), .val (.int len), .val (.int sel), .val (.int (2 : Int32)), .val (.ref u), .unset, .unset] [(.int w0), (.int (0 : Int32)), (.ref u)])) rfl rfl (hb hby at_18)
    have V_u : Arv Z h8 u k7 .int (2 : Int32) [(.int w0), (.int (0 : Int32))] (.int (0 : Int32)) := Arv.set Ar8 q8 S8 M8 H8 G8 rfl W8 0 rfl (Nat.le_of_ble_eq_true rfl)
    have E_u := E_u.wr W8
    have Z8 : n0 ≤ h8.size := by rw [W8.size]; exact Z7
    have N8 := Fr.snoc X8 N0 ge_u
    refine own_go (W1 := T8.setTop (mkF m 19 #[.val (.int w0), .val (.int w1), .val (.int w2), .val (.int w3), .val (.int len), .val (.int sel), .val (.int (2 : Int32)), .val (.ref u), .unset, .unset] [])) (st8) ?_
    refine own_go (W1 := T8.setTop (mkF m 21 #[.val (.int w0), .val (.int w1), .val (.int w2), .val (.int w3), .val (.int len), .val (.int sel), .val (.int (2 : Int32)), .val (.ref u), .unset, .unset] [(.int (2 : Int32))])) (fun t k => XS.iload X8.here hx rfl (hb hby at_19) rfl  k) ?_
    refine own_go (W1 := T8.setTop (mkF m 22 #[.val (.int w0), .val (.int w1), .val (.int w2), .val (.int w3), .val (.int len), .val (.int sel), .val (.int (2 : Int32)), .val (.ref u), .unset, .unset] [(.int (1 : Int32)), (.int (2 : Int32))])) (fun t k => XS.iconst X8.here hx rfl (hb hby at_21) k) ?_
    refine own_go (W1 := T8.setTop (mkF m 25 #[.val (.int w0), .val (.int w1), .val (.int w2), .val (.int w3), .val (.int len), .val (.int sel), .val (.int (2 : Int32)), .val (.ref u), .unset, .unset] [])) (fun t k => XS.icmpNo X8.here hx rfl (hb hby at_22) rfl (tlt (show (1 : Int32) < (2 : Int32) from (by decide))).2.2.2 k) ?_
    refine own_go (W1 := T8.setTop (mkF m 27 #[.val (.int w0), .val (.int w1), .val (.int w2), .val (.int w3), .val (.int len), .val (.int sel), .val (.int (2 : Int32)), .val (.ref u), .unset, .unset] [(.ref u)])) (fun t k => XS.aload X8.here hx rfl (hb hby at_25) rfl rfl  k) ?_
    refine own_go (W1 := T8.setTop (mkF m 28 #[.val (.int w0), .val (.int w1), .val (.int w2), .val (.int w3), .val (.int len), .val (.int sel), .val (.int (2 : Int32)), .val (.ref u), .unset, .unset] [(.int (1 : Int32)), (.ref u)])) (fun t k => XS.iconst X8.here hx rfl (hb hby at_27) k) ?_
    refine own_go (W1 := T8.setTop (mkF m 29 #[.val (.int w0), .val (.int w1), .val (.int w2), .val (.int w3), .val (.int len), .val (.int sel), .val (.int (2 : Int32)), .val (.ref u), .unset, .unset] [(.int w1), (.int (1 : Int32)), (.ref u)])) (fun t k => XS.iloadN X8.here hx rfl (hb hby at_28) rfl  k) ?_
    obtain ⟨cl9, Ar9, q9, S9, M9, H9, G9⟩ := id V_u
    have hin9 : ¬ ((1 : Int32) < 0 ∨ cl9.slots.size ≤ ((1 : Int32)).toNatClampNeg) := inb_of S9 ⟨by decide, by decide⟩
    obtain ⟨T9, h9, X9, e9, W9, st9⟩ := stI X8 hx hZ e8 Ar9 (j := (1 : Int32)) hin9 (g := (mkF m 29 #[.val (.int w0), .val (.int w1), .val (.int w2), .val (.int w3), .val (.int len), .val (.int sel), .val (.int (2 : Int32)), .val (.ref u), .unset, .unset] [(.int w1), (.int (1 : Int32)), (.ref u)])) rfl rfl (hb hby at_29)
    have V_u : Arv Z h9 u k7 .int (2 : Int32) [(.int w0), (.int w1)] (.int (0 : Int32)) := Arv.set Ar9 q9 S9 M9 H9 G9 rfl W9 1 rfl (Nat.le_of_ble_eq_true rfl)
    have E_u := E_u.wr W9
    have Z9 : n0 ≤ h9.size := by rw [W9.size]; exact Z8
    have N9 := Fr.snoc X9 N8 ge_u
    refine own_go (W1 := T9.setTop (mkF m 30 #[.val (.int w0), .val (.int w1), .val (.int w2), .val (.int w3), .val (.int len), .val (.int sel), .val (.int (2 : Int32)), .val (.ref u), .unset, .unset] [])) (st9) ?_
    refine own_go (W1 := T9.setTop (mkF m 32 #[.val (.int w0), .val (.int w1), .val (.int w2), .val (.int w3), .val (.int len), .val (.int sel), .val (.int (2 : Int32)), .val (.ref u), .unset, .unset] [(.int (2 : Int32))])) (fun t k => XS.iload X9.here hx rfl (hb hby at_30) rfl  k) ?_
    refine own_go (W1 := T9.setTop (mkF m 33 #[.val (.int w0), .val (.int w1), .val (.int w2), .val (.int w3), .val (.int len), .val (.int sel), .val (.int (2 : Int32)), .val (.ref u), .unset, .unset] [(.int (2 : Int32)), (.int (2 : Int32))])) (fun t k => XS.iconst X9.here hx rfl (hb hby at_32) k) ?_
    refine own_go (W1 := T9.setTop (mkF m 41 #[.val (.int w0), .val (.int w1), .val (.int w2), .val (.int w3), .val (.int len), .val (.int sel), .val (.int (2 : Int32)), .val (.ref u), .unset, .unset] [])) (fun t k => XS.icmpYes X9.here hx rfl (pc0 := 33) (pc' := 41) rfl (hb hby at_33) rfl (flt (show ¬ ((2 : Int32) < (2 : Int32)) from (by decide))).2.2.2 (by decide) (by decide) k) ?_
    refine own_go (W1 := T9.setTop (mkF m 43 #[.val (.int w0), .val (.int w1), .val (.int w2), .val (.int w3), .val (.int len), .val (.int sel), .val (.int (2 : Int32)), .val (.ref u), .unset, .unset] [(.int (2 : Int32))])) (fun t k => XS.iload X9.here hx rfl (hb hby at_41) rfl  k) ?_
    refine own_go (W1 := T9.setTop (mkF m 44 #[.val (.int w0), .val (.int w1), .val (.int w2), .val (.int w3), .val (.int len), .val (.int sel), .val (.int (2 : Int32)), .val (.ref u), .unset, .unset] [(.int (3 : Int32)), (.int (2 : Int32))])) (fun t k => XS.iconst X9.here hx rfl (hb hby at_43) k) ?_
    refine own_go (W1 := T9.setTop (mkF m 52 #[.val (.int w0), .val (.int w1), .val (.int w2), .val (.int w3), .val (.int len), .val (.int sel), .val (.int (2 : Int32)), .val (.ref u), .unset, .unset] [])) (fun t k => XS.icmpYes X9.here hx rfl (pc0 := 44) (pc' := 52) rfl (hb hby at_44) rfl (flt (show ¬ ((3 : Int32) < (2 : Int32)) from (by decide))).2.2.2 (by decide) (by decide) k) ?_
    refine own_go (W1 := T9.setTop (mkF m 54 #[.val (.int w0), .val (.int w1), .val (.int w2), .val (.int w3), .val (.int len), .val (.int sel), .val (.int (2 : Int32)), .val (.ref u), .unset, .unset] [(.ref u)])) (fun t k => XS.aload X9.here hx rfl (hb hby at_52) rfl rfl  k) ?_
    refine own_go (W1 := T9.setTop (mkF m 56 #[.val (.int w0), .val (.int w1), .val (.int w2), .val (.int w3), .val (.int len), .val (.int sel), .val (.int (2 : Int32)), .val (.ref u), .unset, .unset] [(.int len), (.ref u)])) (fun t k => XS.iload X9.here hx rfl (hb hby at_54) rfl  k) ?_
    obtain ⟨_, _, ⟨T10, L10, k10, n10⟩, -, X10, ⟨Lc10, hQ10, l10, y10, z10⟩, st10⟩ := Jvm.LawKit.callS X9 hx (y := (⟨"com/example/quietzone/quietzone/read/SymbolReader", "throughTheEdges", "([II)[I"⟩ : MethodName)) hown (mvT hZ (hw _ (List.mem_of_getElem? (i := 1) rfl))) (mvT hZ (hw _ (List.mem_of_getElem? (i := 2) rfl))) (mvT hZ (hw _ (List.mem_of_getElem? (i := 3) rfl))) (mvT hZ (hw _ (List.mem_of_getElem? (i := 4) rfl))) (by decide) (backOf (W := 0) (rm1_2 l Z a0 hw [] u k7 len w0 w1 h9 n0 Z9 E_u V_u) hZ (hw _ (List.mem_of_getElem? (i := 4) rfl)) (hw _ (List.mem_of_getElem? (i := 3) rfl)) (by decide) (by decide)) (g := (mkF m 56 #[.val (.int w0), .val (.int w1), .val (.int w2), .val (.int w3), .val (.int len), .val (.int sel), .val (.int (2 : Int32)), .val (.ref u), .unset, .unset] [(.int len), (.ref u)])) rfl (by rw [hml]; rfl) (argsL := [(.ref u), (.int len)]) (rest := []) (lenOf own_pd0 rfl) rfl (by show 2 * 0 + _ ≤ _; exact Nat.le_of_eq rfl) (hb hby at_56) (fun _ _ => ⟨rfl, e9, (by decide : 1 + 1 ≤ _), (by decide : 2 + 2 ≤ _)⟩)
    dsimp only [Pt.U, Pt.locs, Pt.cells, Pt.slots] at X10 l10 y10 z10 st10 hQ10
    subst l10 y10 z10
    obtain ⟨b, kb, rfl, Nq10, Kq10, gq10, V_b⟩ := hQ10
    have ne_u_b : u ≠ b := Nat.ne_of_lt (Nat.lt_of_lt_of_le V_u.lt gq10)
    have E_u := E_u.keep Kq10
    have V_u := V_u.keep Kq10 nin0
    have Z10 : n0 ≤ T10.heap.size := Nat.le_trans Z9 Kq10.1
    have N10 := Fr.app N9 Nq10
    refine own_go (W1 := T10.setTop (mkF m 59 #[.val (.int w0), .val (.int w1), .val (.int w2), .val (.int w3), .val (.int len), .val (.int sel), .val (.int (2 : Int32)), .val (.ref u), .unset, .unset] [(.ref b)])) st10 ?_
    refine own_go (W1 := T10.setTop (mkF m 61 #[.val (.int w0), .val (.int w1), .val (.int w2), .val (.int w3), .val (.int len), .val (.int sel), .val (.int (2 : Int32)), .val (.ref u), .val (.ref b), .unset] [])) (fun t k => XS.astore X10.here hx rfl (hb hby at_59) rfl rfl (l' := #[.val (.int w0), .val (.int w1), .val (.int w2), .val (.int w3), .val (.int len), .val (.int sel), .val (.int (2 : Int32)), .val (.ref u), .val (.ref b), .unset]) rfl k) ?_
    refine own_go (W1 := T10.setTop (mkF m 63 #[.val (.int w0), .val (.int w1), .val (.int w2), .val (.int w3), .val (.int len), .val (.int sel), .val (.int (2 : Int32)), .val (.ref u), .val (.ref b), .unset] [(.ref b)])) (fun t k => XS.aload X10.here hx rfl (hb hby at_61) rfl rfl  k) ?_
    refine own_go (W1 := T10.setTop (mkF m 65 #[.val (.int w0), .val (.int w1), .val (.int w2), .val (.int w3), .val (.int len), .val (.int sel), .val (.int (2 : Int32)), .val (.ref u), .val (.ref b), .unset] [(.ref u), (.ref b)])) (fun t k => XS.aload X10.here hx rfl (hb hby at_63) rfl rfl  k) ?_
    refine own_go (W1 := T10.setTop (mkF m 70 #[.val (.int w0), .val (.int w1), .val (.int w2), .val (.int w3), .val (.int len), .val (.int sel), .val (.int (2 : Int32)), .val (.ref u), .val (.ref b), .unset] [])) (fun t k => Jvm.RoadKit.acmp (g := (mkF m 65 #[.val (.int w0), .val (.int w1), .val (.int w2), .val (.int w3), .val (.int len), .val (.int sel), .val (.int (2 : Int32)), .val (.ref u), .val (.ref b), .unset] [(.ref u), (.ref b)])) X10 hx rfl rfl rfl (pc0 := 65) (pc' := 70) (same := false) rfl (hb hby at_65) rfl (decide_eq_false fun q => (Ne.symm ne_u_b) (Value.ref.inj q)) (by decide) (by decide) k) ?_
    refine own_go (W1 := T10.setTop (mkF m 72 #[.val (.int w0), .val (.int w1), .val (.int w2), .val (.int w3), .val (.int len), .val (.int sel), .val (.int (2 : Int32)), .val (.ref u), .val (.ref b), .unset] [(.ref b)])) (fun t k => XS.aload X10.here hx rfl (hb hby at_70) rfl rfl  k) ?_
    obtain ⟨cl11, Ar11, -, S11, M11, -, -⟩ := id V_b
    have al11 := X10.arraylength hx (by rw [(rfl : T10.heap = T10.heap)]; exact Ar11.1) (State.isArrayOf_alike hZ.alike Ar11.2.1) (g := (mkF m 72 #[.val (.int w0), .val (.int w1), .val (.int w2), .val (.int w3), .val (.int len), .val (.int sel), .val (.int (2 : Int32)), .val (.ref u), .val (.ref b), .unset] [(.ref b)])) rfl rfl (hb hby at_72)
    rw [len_of S11 M11] at al11
    refine own_go (W1 := T10.setTop (mkF m 73 #[.val (.int w0), .val (.int w1), .val (.int w2), .val (.int w3), .val (.int len), .val (.int sel), .val (.int (2 : Int32)), .val (.ref u), .val (.ref b), .unset] [(.int (2 : Int32))])) (al11) ?_
    refine own_go (W1 := T10.setTop (mkF m 75 #[.val (.int w0), .val (.int w1), .val (.int w2), .val (.int w3), .val (.int len), .val (.int sel), .val (.int (2 : Int32)), .val (.ref u), .val (.ref b), .unset] [(.int (2 : Int32)), (.int (2 : Int32))])) (fun t k => XS.iload X10.here hx rfl (hb hby at_73) rfl  k) ?_
    refine own_go (W1 := T10.setTop (mkF m 80 #[.val (.int w0), .val (.int w1), .val (.int w2), .val (.int w3), .val (.int len), .val (.int sel), .val (.int (2 : Int32)), .val (.ref u), .val (.ref b), .unset] [])) (fun t k => XS.icmpYes X10.here hx rfl (pc0 := 75) (pc' := 80) rfl (hb hby at_75) rfl (teq (show (2 : Int32) = (2 : Int32) from (by decide))).1 (by decide) (by decide) k) ?_
    refine own_go (W1 := T10.setTop (mkF m 82 #[.val (.int w0), .val (.int w1), .val (.int w2), .val (.int w3), .val (.int len), .val (.int sel), .val (.int (2 : Int32)), .val (.ref u), .val (.ref b), .unset] [(.ref u)])) (fun t k => XS.aload X10.here hx rfl (hb hby at_80) rfl rfl  k) ?_
    refine own_go (W1 := T10.setTop (mkF m 83 #[.val (.int w0), .val (.int w1), .val (.int w2), .val (.int w3), .val (.int len), .val (.int sel), .val (.int (2 : Int32)), .val (.ref u), .val (.ref b), .unset] [(.int (0 : Int32)), (.ref u)])) (fun t k => XS.iconst X10.here hx rfl (hb hby at_82) k) ?_
    obtain ⟨cl12, Ar12, q12, S12, M12, H12, G12⟩ := id V_u
    have hin12 : ¬ ((0 : Int32) < 0 ∨ cl12.slots.size ≤ ((0 : Int32)).toNatClampNeg) := inb_of S12 ⟨by decide, by decide⟩
    have hat12 : cl12.slots[((0 : Int32)).toNatClampNeg]? = some (.int w0) := Has.at H12 hin12 rfl
    refine own_go (W1 := T10.setTop (mkF m 84 #[.val (.int w0), .val (.int w1), .val (.int w2), .val (.int w3), .val (.int len), .val (.int sel), .val (.int (2 : Int32)), .val (.ref u), .val (.ref b), .unset] [(.int w0)])) (X10.iaload hx (j := (0 : Int32)) (v := (.int w0)) (by rw [(rfl : T10.heap = T10.heap)]; exact Ar12.1) (State.isArrayOf_alike hZ.alike Ar12.2.1) Ar12.2.2 hin12 hat12 (g := (mkF m 83 #[.val (.int w0), .val (.int w1), .val (.int w2), .val (.int w3), .val (.int len), .val (.int sel), .val (.int (2 : Int32)), .val (.ref u), .val (.ref b), .unset] [(.int (0 : Int32)), (.ref u)])) rfl rfl (hb hby at_83)) ?_
    refine own_go (W1 := T10.setTop (mkF m 85 #[.val (.int w0), .val (.int w1), .val (.int w2), .val (.int w3), .val (.int len), .val (.int sel), .val (.int (2 : Int32)), .val (.ref u), .val (.ref b), .unset] [(.int w0), (.int w0)])) (fun t k => XS.iloadN X10.here hx rfl (hb hby at_84) rfl  k) ?_
    refine own_go (W1 := T10.setTop (mkF m 90 #[.val (.int w0), .val (.int w1), .val (.int w2), .val (.int w3), .val (.int len), .val (.int sel), .val (.int (2 : Int32)), .val (.ref u), .val (.ref b), .unset] [])) (fun t k => XS.icmpYes X10.here hx rfl (pc0 := 85) (pc' := 90) rfl (hb hby at_85) rfl (teq (show w0 = w0 from rfl)).1 (by decide) (by decide) k) ?_
    refine own_go (W1 := T10.setTop (mkF m 92 #[.val (.int w0), .val (.int w1), .val (.int w2), .val (.int w3), .val (.int len), .val (.int sel), .val (.int (2 : Int32)), .val (.ref u), .val (.ref b), .unset] [(.int (2 : Int32))])) (fun t k => XS.iload X10.here hx rfl (hb hby at_90) rfl  k) ?_
    refine own_go (W1 := T10.setTop (mkF m 93 #[.val (.int w0), .val (.int w1), .val (.int w2), .val (.int w3), .val (.int len), .val (.int sel), .val (.int (2 : Int32)), .val (.ref u), .val (.ref b), .unset] [(.int (1 : Int32)), (.int (2 : Int32))])) (fun t k => XS.iconst X10.here hx rfl (hb hby at_92) k) ?_
    refine own_go (W1 := T10.setTop (mkF m 96 #[.val (.int w0), .val (.int w1), .val (.int w2), .val (.int w3), .val (.int len), .val (.int sel), .val (.int (2 : Int32)), .val (.ref u), .val (.ref b), .unset] [])) (fun t k => XS.icmpNo X10.here hx rfl (hb hby at_93) rfl (tlt (show (1 : Int32) < (2 : Int32) from (by decide))).2.2.2 k) ?_
    refine own_go (W1 := T10.setTop (mkF m 98 #[.val (.int w0), .val (.int w1), .val (.int w2), .val (.int w3), .val (.int len), .val (.int sel), .val (.int (2 : Int32)), .val (.ref u), .val (.ref b), .unset] [(.ref u)])) (fun t k => XS.aload X10.here hx rfl (hb hby at_96) rfl rfl  k) ?_
    refine own_go (W1 := T10.setTop (mkF m 99 #[.val (.int w0), .val (.int w1), .val (.int w2), .val (.int w3), .val (.int len), .val (.int sel), .val (.int (2 : Int32)), .val (.ref u), .val (.ref b), .unset] [(.int (1 : Int32)), (.ref u)])) (fun t k => XS.iconst X10.here hx rfl (hb hby at_98) k) ?_
    obtain ⟨cl13, Ar13, q13, S13, M13, H13, G13⟩ := id V_u
    have hin13 : ¬ ((1 : Int32) < 0 ∨ cl13.slots.size ≤ ((1 : Int32)).toNatClampNeg) := inb_of S13 ⟨by decide, by decide⟩
    have hat13 : cl13.slots[((1 : Int32)).toNatClampNeg]? = some (.int w1) := Has.at H13 hin13 rfl
    refine own_go (W1 := T10.setTop (mkF m 100 #[.val (.int w0), .val (.int w1), .val (.int w2), .val (.int w3), .val (.int len), .val (.int sel), .val (.int (2 : Int32)), .val (.ref u), .val (.ref b), .unset] [(.int w1)])) (X10.iaload hx (j := (1 : Int32)) (v := (.int w1)) (by rw [(rfl : T10.heap = T10.heap)]; exact Ar13.1) (State.isArrayOf_alike hZ.alike Ar13.2.1) Ar13.2.2 hin13 hat13 (g := (mkF m 99 #[.val (.int w0), .val (.int w1), .val (.int w2), .val (.int w3), .val (.int len), .val (.int sel), .val (.int (2 : Int32)), .val (.ref u), .val (.ref b), .unset] [(.int (1 : Int32)), (.ref u)])) rfl rfl (hb hby at_99)) ?_
    refine own_go (W1 := T10.setTop (mkF m 101 #[.val (.int w0), .val (.int w1), .val (.int w2), .val (.int w3), .val (.int len), .val (.int sel), .val (.int (2 : Int32)), .val (.ref u), .val (.ref b), .unset] [(.int w1), (.int w1)])) (fun t k => XS.iloadN X10.here hx rfl (hb hby at_100) rfl  k) ?_
    refine own_go (W1 := T10.setTop (mkF m 106 #[.val (.int w0), .val (.int w1), .val (.int w2), .val (.int w3), .val (.int len), .val (.int sel), .val (.int (2 : Int32)), .val (.ref u), .val (.ref b), .unset] [])) (fun t k => XS.icmpYes X10.here hx rfl (pc0 := 101) (pc' := 106) rfl (hb hby at_101) rfl (teq (show w1 = w1 from rfl)).1 (by decide) (by decide) k) ?_
    refine own_go (W1 := T10.setTop (mkF m 108 #[.val (.int w0), .val (.int w1), .val (.int w2), .val (.int w3), .val (.int len), .val (.int sel), .val (.int (2 : Int32)), .val (.ref u), .val (.ref b), .unset] [(.int (2 : Int32))])) (fun t k => XS.iload X10.here hx rfl (hb hby at_106) rfl  k) ?_
    refine own_go (W1 := T10.setTop (mkF m 109 #[.val (.int w0), .val (.int w1), .val (.int w2), .val (.int w3), .val (.int len), .val (.int sel), .val (.int (2 : Int32)), .val (.ref u), .val (.ref b), .unset] [(.int (2 : Int32)), (.int (2 : Int32))])) (fun t k => XS.iconst X10.here hx rfl (hb hby at_108) k) ?_
    refine own_go (W1 := T10.setTop (mkF m 122 #[.val (.int w0), .val (.int w1), .val (.int w2), .val (.int w3), .val (.int len), .val (.int sel), .val (.int (2 : Int32)), .val (.ref u), .val (.ref b), .unset] [])) (fun t k => XS.icmpYes X10.here hx rfl (pc0 := 109) (pc' := 122) rfl (hb hby at_109) rfl (flt (show ¬ ((2 : Int32) < (2 : Int32)) from (by decide))).2.2.2 (by decide) (by decide) k) ?_
    refine own_go (W1 := T10.setTop (mkF m 124 #[.val (.int w0), .val (.int w1), .val (.int w2), .val (.int w3), .val (.int len), .val (.int sel), .val (.int (2 : Int32)), .val (.ref u), .val (.ref b), .unset] [(.int (2 : Int32))])) (fun t k => XS.iload X10.here hx rfl (hb hby at_122) rfl  k) ?_
    refine own_go (W1 := T10.setTop (mkF m 125 #[.val (.int w0), .val (.int w1), .val (.int w2), .val (.int w3), .val (.int len), .val (.int sel), .val (.int (2 : Int32)), .val (.ref u), .val (.ref b), .unset] [(.int (3 : Int32)), (.int (2 : Int32))])) (fun t k => XS.iconst X10.here hx rfl (hb hby at_124) k) ?_
    refine own_go (W1 := T10.setTop (mkF m 138 #[.val (.int w0), .val (.int w1), .val (.int w2), .val (.int w3), .val (.int len), .val (.int sel), .val (.int (2 : Int32)), .val (.ref u), .val (.ref b), .unset] [])) (fun t k => XS.icmpYes X10.here hx rfl (pc0 := 125) (pc' := 138) rfl (hb hby at_125) rfl (flt (show ¬ ((3 : Int32) < (2 : Int32)) from (by decide))).2.2.2 (by decide) (by decide) k) ?_
    refine own_go (W1 := T10.setTop (mkF m 140 #[.val (.int w0), .val (.int w1), .val (.int w2), .val (.int w3), .val (.int len), .val (.int sel), .val (.int (2 : Int32)), .val (.ref u), .val (.ref b), .unset] [(.int len)])) (fun t k => XS.iload X10.here hx rfl (hb hby at_138) rfl  k) ?_
    refine own_go (W1 := T10.setTop (mkF m 142 #[.val (.int w0), .val (.int w1), .val (.int w2), .val (.int w3), .val (.int len), .val (.int sel), .val (.int (2 : Int32)), .val (.ref u), .val (.ref b), .unset] [(.int (10 : Int32)), (.int len)])) (fun t k => XS.bipush X10.here hx rfl (hb hby at_140) k) ?_
    refine own_go (W1 := T10.setTop (mkF m 143 #[.val (.int w0), .val (.int w1), .val (.int w2), .val (.int w3), .val (.int len), .val (.int sel), .val (.int (2 : Int32)), .val (.ref u), .val (.ref b), .unset] [(.int (len * (10 : Int32)))])) (fun t k => XS.imul X10.here hx rfl (hb hby at_142) rfl k) ?_
    refine own_go (W1 := T10.setTop (mkF m 145 #[.val (.int w0), .val (.int w1), .val (.int w2), .val (.int w3), .val (.int len), .val (.int sel), .val (.int (2 : Int32)), .val (.ref u), .val (.ref b), .val (.int (len * (10 : Int32)))] [])) (fun t k => XS.istore X10.here hx rfl (hb hby at_143) rfl (l' := #[.val (.int w0), .val (.int w1), .val (.int w2), .val (.int w3), .val (.int len), .val (.int sel), .val (.int (2 : Int32)), .val (.ref u), .val (.ref b), .val (.int (len * (10 : Int32)))]) rfl k) ?_
    refine own_go (W1 := T10.setTop (mkF m 147 #[.val (.int w0), .val (.int w1), .val (.int w2), .val (.int w3), .val (.int len), .val (.int sel), .val (.int (2 : Int32)), .val (.ref u), .val (.ref b), .val (.int (len * (10 : Int32)))] [(.int (2 : Int32))])) (fun t k => XS.iload X10.here hx rfl (hb hby at_145) rfl  k) ?_
    refine own_go (W1 := T10.setTop (mkF m 148 #[.val (.int w0), .val (.int w1), .val (.int w2), .val (.int w3), .val (.int len), .val (.int sel), .val (.int (2 : Int32)), .val (.ref u), .val (.ref b), .val (.int (len * (10 : Int32)))] [(.int (1 : Int32)), (.int (2 : Int32))])) (fun t k => XS.iconst X10.here hx rfl (hb hby at_147) k) ?_
    refine own_go (W1 := T10.setTop (mkF m 171 #[.val (.int w0), .val (.int w1), .val (.int w2), .val (.int w3), .val (.int len), .val (.int sel), .val (.int (2 : Int32)), .val (.ref u), .val (.ref b), .val (.int (len * (10 : Int32)))] [])) (fun t k => XS.icmpYes X10.here hx rfl (pc0 := 148) (pc' := 171) rfl (hb hby at_148) rfl (feq (show ¬ ((2 : Int32) = (1 : Int32)) from (by decide))).2 (by decide) (by decide) k) ?_
    refine own_go (W1 := T10.setTop (mkF m 173 #[.val (.int w0), .val (.int w1), .val (.int w2), .val (.int w3), .val (.int len), .val (.int sel), .val (.int (2 : Int32)), .val (.ref u), .val (.ref b), .val (.int (len * (10 : Int32)))] [(.ref b)])) (fun t k => XS.aload X10.here hx rfl (hb hby at_171) rfl rfl  k) ?_
    refine own_go (W1 := T10.setTop (mkF m 174 #[.val (.int w0), .val (.int w1), .val (.int w2), .val (.int w3), .val (.int len), .val (.int sel), .val (.int (2 : Int32)), .val (.ref u), .val (.ref b), .val (.int (len * (10 : Int32)))] [(.int (0 : Int32)), (.ref b)])) (fun t k => XS.iconst X10.here hx rfl (hb hby at_173) k) ?_
    obtain ⟨cl14, Ar14, q14, S14, M14, H14, G14⟩ := id V_b
    have hin14 : ¬ ((0 : Int32) < 0 ∨ cl14.slots.size ≤ ((0 : Int32)).toNatClampNeg) := inb_of S14 ⟨by decide, by decide⟩
    have hat14 : cl14.slots[((0 : Int32)).toNatClampNeg]? = some (.int (w0 + (len * (10 : Int32)))) := Has.at H14 hin14 rfl
    refine own_go (W1 := T10.setTop (mkF m 175 #[.val (.int w0), .val (.int w1), .val (.int w2), .val (.int w3), .val (.int len), .val (.int sel), .val (.int (2 : Int32)), .val (.ref u), .val (.ref b), .val (.int (len * (10 : Int32)))] [(.int (w0 + (len * (10 : Int32))))])) (X10.iaload hx (j := (0 : Int32)) (v := (.int (w0 + (len * (10 : Int32))))) (by rw [(rfl : T10.heap = T10.heap)]; exact Ar14.1) (State.isArrayOf_alike hZ.alike Ar14.2.1) Ar14.2.2 hin14 hat14 (g := (mkF m 174 #[.val (.int w0), .val (.int w1), .val (.int w2), .val (.int w3), .val (.int len), .val (.int sel), .val (.int (2 : Int32)), .val (.ref u), .val (.ref b), .val (.int (len * (10 : Int32)))] [(.int (0 : Int32)), (.ref b)])) rfl rfl (hb hby at_174)) ?_
    refine own_go (W1 := T10.setTop (mkF m 176 #[.val (.int w0), .val (.int w1), .val (.int w2), .val (.int w3), .val (.int len), .val (.int sel), .val (.int (2 : Int32)), .val (.ref u), .val (.ref b), .val (.int (len * (10 : Int32)))] [(.int w0), (.int (w0 + (len * (10 : Int32))))])) (fun t k => XS.iloadN X10.here hx rfl (hb hby at_175) rfl  k) ?_
    refine own_go (W1 := T10.setTop (mkF m 178 #[.val (.int w0), .val (.int w1), .val (.int w2), .val (.int w3), .val (.int len), .val (.int sel), .val (.int (2 : Int32)), .val (.ref u), .val (.ref b), .val (.int (len * (10 : Int32)))] [(.int (len * (10 : Int32))), (.int w0), (.int (w0 + (len * (10 : Int32))))])) (fun t k => XS.iload X10.here hx rfl (hb hby at_176) rfl  k) ?_
    refine own_go (W1 := T10.setTop (mkF m 179 #[.val (.int w0), .val (.int w1), .val (.int w2), .val (.int w3), .val (.int len), .val (.int sel), .val (.int (2 : Int32)), .val (.ref u), .val (.ref b), .val (.int (len * (10 : Int32)))] [(.int (w0 + (len * (10 : Int32)))), (.int (w0 + (len * (10 : Int32))))])) (fun t k => XS.iadd X10.here hx rfl (hb hby at_178) rfl k) ?_
    refine own_go (W1 := T10.setTop (mkF m 184 #[.val (.int w0), .val (.int w1), .val (.int w2), .val (.int w3), .val (.int len), .val (.int sel), .val (.int (2 : Int32)), .val (.ref u), .val (.ref b), .val (.int (len * (10 : Int32)))] [])) (fun t k => XS.icmpYes X10.here hx rfl (pc0 := 179) (pc' := 184) rfl (hb hby at_179) rfl (teq (show (w0 + (len * (10 : Int32))) = (w0 + (len * (10 : Int32))) from rfl)).1 (by decide) (by decide) k) ?_
    refine own_go (W1 := T10.setTop (mkF m 186 #[.val (.int w0), .val (.int w1), .val (.int w2), .val (.int w3), .val (.int len), .val (.int sel), .val (.int (2 : Int32)), .val (.ref u), .val (.ref b), .val (.int (len * (10 : Int32)))] [(.int (2 : Int32))])) (fun t k => XS.iload X10.here hx rfl (hb hby at_184) rfl  k) ?_
    refine own_go (W1 := T10.setTop (mkF m 187 #[.val (.int w0), .val (.int w1), .val (.int w2), .val (.int w3), .val (.int len), .val (.int sel), .val (.int (2 : Int32)), .val (.ref u), .val (.ref b), .val (.int (len * (10 : Int32)))] [(.int (2 : Int32)), (.int (2 : Int32))])) (fun t k => XS.iconst X10.here hx rfl (hb hby at_186) k) ?_
    refine own_go (W1 := T10.setTop (mkF m 190 #[.val (.int w0), .val (.int w1), .val (.int w2), .val (.int w3), .val (.int len), .val (.int sel), .val (.int (2 : Int32)), .val (.ref u), .val (.ref b), .val (.int (len * (10 : Int32)))] [])) (fun t k => XS.icmpNo X10.here hx rfl (hb hby at_187) rfl (teq (show (2 : Int32) = (2 : Int32) from (by decide))).2 k) ?_
    refine own_go (W1 := T10.setTop (mkF m 192 #[.val (.int w0), .val (.int w1), .val (.int w2), .val (.int w3), .val (.int len), .val (.int sel), .val (.int (2 : Int32)), .val (.ref u), .val (.ref b), .val (.int (len * (10 : Int32)))] [(.ref b)])) (fun t k => XS.aload X10.here hx rfl (hb hby at_190) rfl rfl  k) ?_
    refine own_go (W1 := T10.setTop (mkF m 193 #[.val (.int w0), .val (.int w1), .val (.int w2), .val (.int w3), .val (.int len), .val (.int sel), .val (.int (2 : Int32)), .val (.ref u), .val (.ref b), .val (.int (len * (10 : Int32)))] [(.int (1 : Int32)), (.ref b)])) (fun t k => XS.iconst X10.here hx rfl (hb hby at_192) k) ?_
    obtain ⟨cl15, Ar15, q15, S15, M15, H15, G15⟩ := id V_b
    have hin15 : ¬ ((1 : Int32) < 0 ∨ cl15.slots.size ≤ ((1 : Int32)).toNatClampNeg) := inb_of S15 ⟨by decide, by decide⟩
    have hat15 : cl15.slots[((1 : Int32)).toNatClampNeg]? = some (.int (w1 + (len * (10 : Int32)))) := Has.at H15 hin15 rfl
    refine own_go (W1 := T10.setTop (mkF m 194 #[.val (.int w0), .val (.int w1), .val (.int w2), .val (.int w3), .val (.int len), .val (.int sel), .val (.int (2 : Int32)), .val (.ref u), .val (.ref b), .val (.int (len * (10 : Int32)))] [(.int (w1 + (len * (10 : Int32))))])) (X10.iaload hx (j := (1 : Int32)) (v := (.int (w1 + (len * (10 : Int32))))) (by rw [(rfl : T10.heap = T10.heap)]; exact Ar15.1) (State.isArrayOf_alike hZ.alike Ar15.2.1) Ar15.2.2 hin15 hat15 (g := (mkF m 193 #[.val (.int w0), .val (.int w1), .val (.int w2), .val (.int w3), .val (.int len), .val (.int sel), .val (.int (2 : Int32)), .val (.ref u), .val (.ref b), .val (.int (len * (10 : Int32)))] [(.int (1 : Int32)), (.ref b)])) rfl rfl (hb hby at_193)) ?_
    refine own_go (W1 := T10.setTop (mkF m 195 #[.val (.int w0), .val (.int w1), .val (.int w2), .val (.int w3), .val (.int len), .val (.int sel), .val (.int (2 : Int32)), .val (.ref u), .val (.ref b), .val (.int (len * (10 : Int32)))] [(.int w1), (.int (w1 + (len * (10 : Int32))))])) (fun t k => XS.iloadN X10.here hx rfl (hb hby at_194) rfl  k) ?_
    refine own_go (W1 := T10.setTop (mkF m 197 #[.val (.int w0), .val (.int w1), .val (.int w2), .val (.int w3), .val (.int len), .val (.int sel), .val (.int (2 : Int32)), .val (.ref u), .val (.ref b), .val (.int (len * (10 : Int32)))] [(.int (len * (10 : Int32))), (.int w1), (.int (w1 + (len * (10 : Int32))))])) (fun t k => XS.iload X10.here hx rfl (hb hby at_195) rfl  k) ?_
    refine own_go (W1 := T10.setTop (mkF m 198 #[.val (.int w0), .val (.int w1), .val (.int w2), .val (.int w3), .val (.int len), .val (.int sel), .val (.int (2 : Int32)), .val (.ref u), .val (.ref b), .val (.int (len * (10 : Int32)))] [(.int (w1 + (len * (10 : Int32)))), (.int (w1 + (len * (10 : Int32))))])) (fun t k => XS.iadd X10.here hx rfl (hb hby at_197) rfl k) ?_
    refine own_go (W1 := T10.setTop (mkF m 201 #[.val (.int w0), .val (.int w1), .val (.int w2), .val (.int w3), .val (.int len), .val (.int sel), .val (.int (2 : Int32)), .val (.ref u), .val (.ref b), .val (.int (len * (10 : Int32)))] [])) (fun t k => XS.icmpNo X10.here hx rfl (hb hby at_198) rfl (teq (show (w1 + (len * (10 : Int32))) = (w1 + (len * (10 : Int32))) from rfl)).2 k) ?_
    refine own_go (W1 := T10.setTop (mkF m 202 #[.val (.int w0), .val (.int w1), .val (.int w2), .val (.int w3), .val (.int len), .val (.int sel), .val (.int (2 : Int32)), .val (.ref u), .val (.ref b), .val (.int (len * (10 : Int32)))] [(.int (1 : Int32))])) (fun t k => XS.iconst X10.here hx rfl (hb hby at_201) k) ?_
    refine own_go (W1 := T10.setTop (mkF m 206 #[.val (.int w0), .val (.int w1), .val (.int w2), .val (.int w3), .val (.int len), .val (.int sel), .val (.int (2 : Int32)), .val (.ref u), .val (.ref b), .val (.int (len * (10 : Int32)))] [(.int (1 : Int32))])) (fun t k => XS.goto X10.here hx rfl (pc0 := 202) (pc' := 206) rfl (hb hby at_202) (by decide) (by decide) k) ?_
    exact own_retN X10 hx (t := .boolean) Bd.returns (by simp) (hb hby at_206) hlk (by decide) (by decide) ⟨rfl, N10⟩
  · rw [show ((1 : Int32) + (sel &&& (3 : Int32))) = (3 : Int32) from hn]
    refine own_go (W1 := s₁.setTop (mkF m 10 #[.val (.int w0), .val (.int w1), .val (.int w2), .val (.int w3), .val (.int len), .val (.int sel), .val (.int (3 : Int32)), .unset, .unset, .unset] [(.int (3 : Int32))])) (fun t k => XS.iload X0.here hx rfl (hb hby at_8) rfl  k) ?_
    obtain ⟨T16, h16, k16, X16, e16, E16, A16, Ea16, st16⟩ := newPE X0 hx hZ (hw _ (List.mem_of_getElem? (i := 0) rfl)) e0 (g := (mkF m 10 #[.val (.int w0), .val (.int w1), .val (.int w2), .val (.int w3), .val (.int len), .val (.int sel), .val (.int (3 : Int32)), .unset, .unset, .unset] [(.int (3 : Int32))])) rfl (hb hby at_10) rfl (by decide) (cap := 3) (by decide) (by decide) (by decide) (by decide) (ad := "[I") rfl
    obtain ⟨u, g16⟩ : ∃ z, z = h0.size := ⟨_, rfl⟩
    have ge_u : n0 ≤ u := Nat.le_trans Z0 (Nat.le_of_eq g16.symm)
    rw [← g16] at A16 st16 Ea16
    have Z16 : n0 ≤ h16.size := Nat.le_trans Z0 E16.1
    have E_u := Ea16
    have V_u : Arv Z h16 u k16 .int (3 : Int32) [(.int (0 : Int32)), (.int (0 : Int32)), (.int (0 : Int32))] (.int (0 : Int32)) := (Arv.new A16 (by decide)).pad (pad_rep [] (.int (0 : Int32)) 3)
    refine own_go (W1 := T16.setTop (mkF m 12 #[.val (.int w0), .val (.int w1), .val (.int w2), .val (.int w3), .val (.int len), .val (.int sel), .val (.int (3 : Int32)), .unset, .unset, .unset] [(.ref u)])) (st16) ?_
    refine own_go (W1 := T16.setTop (mkF m 14 #[.val (.int w0), .val (.int w1), .val (.int w2), .val (.int w3), .val (.int len), .val (.int sel), .val (.int (3 : Int32)), .val (.ref u), .unset, .unset] [])) (fun t k => XS.astore X16.here hx rfl (hb hby at_12) rfl rfl (l' := #[.val (.int w0), .val (.int w1), .val (.int w2), .val (.int w3), .val (.int len), .val (.int sel), .val (.int (3 : Int32)), .val (.ref u), .unset, .unset]) rfl k) ?_
    refine own_go (W1 := T16.setTop (mkF m 16 #[.val (.int w0), .val (.int w1), .val (.int w2), .val (.int w3), .val (.int len), .val (.int sel), .val (.int (3 : Int32)), .val (.ref u), .unset, .unset] [(.ref u)])) (fun t k => XS.aload X16.here hx rfl (hb hby at_14) rfl rfl  k) ?_
    refine own_go (W1 := T16.setTop (mkF m 17 #[.val (.int w0), .val (.int w1), .val (.int w2), .val (.int w3), .val (.int len), .val (.int sel), .val (.int (3 : Int32)), .val (.ref u), .unset, .unset] [(.int (0 : Int32)), (.ref u)])) (fun t k => XS.iconst X16.here hx rfl (hb hby at_16) k) ?_
    refine own_go (W1 := T16.setTop (mkF m 18 #[.val (.int w0), .val (.int w1), .val (.int w2), .val (.int w3), .val (.int len), .val (.int sel), .val (.int (3 : Int32)), .val (.ref u), .unset, .unset] [(.int w0), (.int (0 : Int32)), (.ref u)])) (fun t k => XS.iloadN X16.here hx rfl (hb hby at_17) rfl  k) ?_
    obtain ⟨cl17, Ar17, q17, S17, M17, H17, G17⟩ := id V_u
    have hin17 : ¬ ((0 : Int32) < 0 ∨ cl17.slots.size ≤ ((0 : Int32)).toNatClampNeg) := inb_of S17 ⟨by decide, by decide⟩
    obtain ⟨T17, h17, X17, e17, W17, st17⟩ := stI X16 hx hZ e16 Ar17 (j := (0 : Int32)) hin17 (g := (mkF m 18 #[.val (.int w0), .val (.int w1), .val (.int w2), .val (.int w3), .val (.int len), .val (.int sel), .val (.int (3 : Int32)), .val (.ref u), .unset, .unset] [(.int w0), (.int (0 : Int32)), (.ref u)])) rfl rfl (hb hby at_18)
    have V_u : Arv Z h17 u k16 .int (3 : Int32) [(.int w0), (.int (0 : Int32)), (.int (0 : Int32))] (.int (0 : Int32)) := Arv.set Ar17 q17 S17 M17 H17 G17 rfl W17 0 rfl (Nat.le_of_ble_eq_true rfl)
    have E_u := E_u.wr W17
    have Z17 : n0 ≤ h17.size := by rw [W17.size]; exact Z16
    have N17 := Fr.snoc X17 N0 ge_u
    refine own_go (W1 := T17.setTop (mkF m 19 #[.val (.int w0), .val (.int w1), .val (.int w2), .val (.int w3), .val (.int len), .val (.int sel), .val (.int (3 : Int32)), .val (.ref u), .unset, .unset] [])) (st17) ?_
    refine own_go (W1 := T17.setTop (mkF m 21 #[.val (.int w0), .val (.int w1), .val (.int w2), .val (.int w3), .val (.int len), .val (.int sel), .val (.int (3 : Int32)), .val (.ref u), .unset, .unset] [(.int (3 : Int32))])) (fun t k => XS.iload X17.here hx rfl (hb hby at_19) rfl  k) ?_
    refine own_go (W1 := T17.setTop (mkF m 22 #[.val (.int w0), .val (.int w1), .val (.int w2), .val (.int w3), .val (.int len), .val (.int sel), .val (.int (3 : Int32)), .val (.ref u), .unset, .unset] [(.int (1 : Int32)), (.int (3 : Int32))])) (fun t k => XS.iconst X17.here hx rfl (hb hby at_21) k) ?_
    refine own_go (W1 := T17.setTop (mkF m 25 #[.val (.int w0), .val (.int w1), .val (.int w2), .val (.int w3), .val (.int len), .val (.int sel), .val (.int (3 : Int32)), .val (.ref u), .unset, .unset] [])) (fun t k => XS.icmpNo X17.here hx rfl (hb hby at_22) rfl (tlt (show (1 : Int32) < (3 : Int32) from (by decide))).2.2.2 k) ?_
    refine own_go (W1 := T17.setTop (mkF m 27 #[.val (.int w0), .val (.int w1), .val (.int w2), .val (.int w3), .val (.int len), .val (.int sel), .val (.int (3 : Int32)), .val (.ref u), .unset, .unset] [(.ref u)])) (fun t k => XS.aload X17.here hx rfl (hb hby at_25) rfl rfl  k) ?_
    refine own_go (W1 := T17.setTop (mkF m 28 #[.val (.int w0), .val (.int w1), .val (.int w2), .val (.int w3), .val (.int len), .val (.int sel), .val (.int (3 : Int32)), .val (.ref u), .unset, .unset] [(.int (1 : Int32)), (.ref u)])) (fun t k => XS.iconst X17.here hx rfl (hb hby at_27) k) ?_
    refine own_go (W1 := T17.setTop (mkF m 29 #[.val (.int w0), .val (.int w1), .val (.int w2), .val (.int w3), .val (.int len), .val (.int sel), .val (.int (3 : Int32)), .val (.ref u), .unset, .unset] [(.int w1), (.int (1 : Int32)), (.ref u)])) (fun t k => XS.iloadN X17.here hx rfl (hb hby at_28) rfl  k) ?_
    obtain ⟨cl18, Ar18, q18, S18, M18, H18, G18⟩ := id V_u
    have hin18 : ¬ ((1 : Int32) < 0 ∨ cl18.slots.size ≤ ((1 : Int32)).toNatClampNeg) := inb_of S18 ⟨by decide, by decide⟩
    obtain ⟨T18, h18, X18, e18, W18, st18⟩ := stI X17 hx hZ e17 Ar18 (j := (1 : Int32)) hin18 (g := (mkF m 29 #[.val (.int w0), .val (.int w1), .val (.int w2), .val (.int w3), .val (.int len), .val (.int sel), .val (.int (3 : Int32)), .val (.ref u), .unset, .unset] [(.int w1), (.int (1 : Int32)), (.ref u)])) rfl rfl (hb hby at_29)
    have V_u : Arv Z h18 u k16 .int (3 : Int32) [(.int w0), (.int w1), (.int (0 : Int32))] (.int (0 : Int32)) := Arv.set Ar18 q18 S18 M18 H18 G18 rfl W18 1 rfl (Nat.le_of_ble_eq_true rfl)
    have E_u := E_u.wr W18
    have Z18 : n0 ≤ h18.size := by rw [W18.size]; exact Z17
    have N18 := Fr.snoc X18 N17 ge_u
    refine own_go (W1 := T18.setTop (mkF m 30 #[.val (.int w0), .val (.int w1), .val (.int w2), .val (.int w3), .val (.int len), .val (.int sel), .val (.int (3 : Int32)), .val (.ref u), .unset, .unset] [])) (st18) ?_
    refine own_go (W1 := T18.setTop (mkF m 32 #[.val (.int w0), .val (.int w1), .val (.int w2), .val (.int w3), .val (.int len), .val (.int sel), .val (.int (3 : Int32)), .val (.ref u), .unset, .unset] [(.int (3 : Int32))])) (fun t k => XS.iload X18.here hx rfl (hb hby at_30) rfl  k) ?_
    refine own_go (W1 := T18.setTop (mkF m 33 #[.val (.int w0), .val (.int w1), .val (.int w2), .val (.int w3), .val (.int len), .val (.int sel), .val (.int (3 : Int32)), .val (.ref u), .unset, .unset] [(.int (2 : Int32)), (.int (3 : Int32))])) (fun t k => XS.iconst X18.here hx rfl (hb hby at_32) k) ?_
    refine own_go (W1 := T18.setTop (mkF m 36 #[.val (.int w0), .val (.int w1), .val (.int w2), .val (.int w3), .val (.int len), .val (.int sel), .val (.int (3 : Int32)), .val (.ref u), .unset, .unset] [])) (fun t k => XS.icmpNo X18.here hx rfl (hb hby at_33) rfl (tlt (show (2 : Int32) < (3 : Int32) from (by decide))).2.2.2 k) ?_
    refine own_go (W1 := T18.setTop (mkF m 38 #[.val (.int w0), .val (.int w1), .val (.int w2), .val (.int w3), .val (.int len), .val (.int sel), .val (.int (3 : Int32)), .val (.ref u), .unset, .unset] [(.ref u)])) (fun t k => XS.aload X18.here hx rfl (hb hby at_36) rfl rfl  k) ?_
    refine own_go (W1 := T18.setTop (mkF m 39 #[.val (.int w0), .val (.int w1), .val (.int w2), .val (.int w3), .val (.int len), .val (.int sel), .val (.int (3 : Int32)), .val (.ref u), .unset, .unset] [(.int (2 : Int32)), (.ref u)])) (fun t k => XS.iconst X18.here hx rfl (hb hby at_38) k) ?_
    refine own_go (W1 := T18.setTop (mkF m 40 #[.val (.int w0), .val (.int w1), .val (.int w2), .val (.int w3), .val (.int len), .val (.int sel), .val (.int (3 : Int32)), .val (.ref u), .unset, .unset] [(.int w2), (.int (2 : Int32)), (.ref u)])) (fun t k => XS.iloadN X18.here hx rfl (hb hby at_39) rfl  k) ?_
    obtain ⟨cl19, Ar19, q19, S19, M19, H19, G19⟩ := id V_u
    have hin19 : ¬ ((2 : Int32) < 0 ∨ cl19.slots.size ≤ ((2 : Int32)).toNatClampNeg) := inb_of S19 ⟨by decide, by decide⟩
    obtain ⟨T19, h19, X19, e19, W19, st19⟩ := stI X18 hx hZ e18 Ar19 (j := (2 : Int32)) hin19 (g := (mkF m 40 #[.val (.int w0), .val (.int w1), .val (.int w2), .val (.int w3), .val (.int len), .val (.int sel), .val (.int (3 : Int32)), .val (.ref u), .unset, .unset] [(.int w2), (.int (2 : Int32)), (.ref u)])) rfl rfl (hb hby at_40)
    have V_u : Arv Z h19 u k16 .int (3 : Int32) [(.int w0), (.int w1), (.int w2)] (.int (0 : Int32)) := Arv.set Ar19 q19 S19 M19 H19 G19 rfl W19 2 rfl (Nat.le_of_ble_eq_true rfl)
    have E_u := E_u.wr W19
    have Z19 : n0 ≤ h19.size := by rw [W19.size]; exact Z18
    have N19 := Fr.snoc X19 N18 ge_u
    refine own_go (W1 := T19.setTop (mkF m 41 #[.val (.int w0), .val (.int w1), .val (.int w2), .val (.int w3), .val (.int len), .val (.int sel), .val (.int (3 : Int32)), .val (.ref u), .unset, .unset] [])) (st19) ?_
    refine own_go (W1 := T19.setTop (mkF m 43 #[.val (.int w0), .val (.int w1), .val (.int w2), .val (.int w3), .val (.int len), .val (.int sel), .val (.int (3 : Int32)), .val (.ref u), .unset, .unset] [(.int (3 : Int32))])) (fun t k => XS.iload X19.here hx rfl (hb hby at_41) rfl  k) ?_
    refine own_go (W1 := T19.setTop (mkF m 44 #[.val (.int w0), .val (.int w1), .val (.int w2), .val (.int w3), .val (.int len), .val (.int sel), .val (.int (3 : Int32)), .val (.ref u), .unset, .unset] [(.int (3 : Int32)), (.int (3 : Int32))])) (fun t k => XS.iconst X19.here hx rfl (hb hby at_43) k) ?_
    refine own_go (W1 := T19.setTop (mkF m 52 #[.val (.int w0), .val (.int w1), .val (.int w2), .val (.int w3), .val (.int len), .val (.int sel), .val (.int (3 : Int32)), .val (.ref u), .unset, .unset] [])) (fun t k => XS.icmpYes X19.here hx rfl (pc0 := 44) (pc' := 52) rfl (hb hby at_44) rfl (flt (show ¬ ((3 : Int32) < (3 : Int32)) from (by decide))).2.2.2 (by decide) (by decide) k) ?_
    refine own_go (W1 := T19.setTop (mkF m 54 #[.val (.int w0), .val (.int w1), .val (.int w2), .val (.int w3), .val (.int len), .val (.int sel), .val (.int (3 : Int32)), .val (.ref u), .unset, .unset] [(.ref u)])) (fun t k => XS.aload X19.here hx rfl (hb hby at_52) rfl rfl  k) ?_
    refine own_go (W1 := T19.setTop (mkF m 56 #[.val (.int w0), .val (.int w1), .val (.int w2), .val (.int w3), .val (.int len), .val (.int sel), .val (.int (3 : Int32)), .val (.ref u), .unset, .unset] [(.int len), (.ref u)])) (fun t k => XS.iload X19.here hx rfl (hb hby at_54) rfl  k) ?_
    obtain ⟨_, _, ⟨T20, L20, k20, n20⟩, -, X20, ⟨Lc20, hQ20, l20, y20, z20⟩, st20⟩ := Jvm.LawKit.callS X19 hx (y := (⟨"com/example/quietzone/quietzone/read/SymbolReader", "throughTheEdges", "([II)[I"⟩ : MethodName)) hown (mvT hZ (hw _ (List.mem_of_getElem? (i := 1) rfl))) (mvT hZ (hw _ (List.mem_of_getElem? (i := 2) rfl))) (mvT hZ (hw _ (List.mem_of_getElem? (i := 3) rfl))) (mvT hZ (hw _ (List.mem_of_getElem? (i := 4) rfl))) (by decide) (backOf (W := 0) (rm1_3 l Z a0 hw [] u k16 len w0 w1 w2 h19 n0 Z19 E_u V_u) hZ (hw _ (List.mem_of_getElem? (i := 4) rfl)) (hw _ (List.mem_of_getElem? (i := 3) rfl)) (by decide) (by decide)) (g := (mkF m 56 #[.val (.int w0), .val (.int w1), .val (.int w2), .val (.int w3), .val (.int len), .val (.int sel), .val (.int (3 : Int32)), .val (.ref u), .unset, .unset] [(.int len), (.ref u)])) rfl (by rw [hml]; rfl) (argsL := [(.ref u), (.int len)]) (rest := []) (lenOf own_pd0 rfl) rfl (by show 2 * 0 + _ ≤ _; exact Nat.le_of_eq rfl) (hb hby at_56) (fun _ _ => ⟨rfl, e19, (by decide : 1 + 1 ≤ _), (by decide : 3 + 3 ≤ _)⟩)
    dsimp only [Pt.U, Pt.locs, Pt.cells, Pt.slots] at X20 l20 y20 z20 st20 hQ20
    subst l20 y20 z20
    obtain ⟨b, kb, rfl, Nq20, Kq20, gq20, V_b⟩ := hQ20
    have ne_u_b : u ≠ b := Nat.ne_of_lt (Nat.lt_of_lt_of_le V_u.lt gq20)
    have E_u := E_u.keep Kq20
    have V_u := V_u.keep Kq20 nin0
    have Z20 : n0 ≤ T20.heap.size := Nat.le_trans Z19 Kq20.1
    have N20 := Fr.app N19 Nq20
    refine own_go (W1 := T20.setTop (mkF m 59 #[.val (.int w0), .val (.int w1), .val (.int w2), .val (.int w3), .val (.int len), .val (.int sel), .val (.int (3 : Int32)), .val (.ref u), .unset, .unset] [(.ref b)])) st20 ?_
    refine own_go (W1 := T20.setTop (mkF m 61 #[.val (.int w0), .val (.int w1), .val (.int w2), .val (.int w3), .val (.int len), .val (.int sel), .val (.int (3 : Int32)), .val (.ref u), .val (.ref b), .unset] [])) (fun t k => XS.astore X20.here hx rfl (hb hby at_59) rfl rfl (l' := #[.val (.int w0), .val (.int w1), .val (.int w2), .val (.int w3), .val (.int len), .val (.int sel), .val (.int (3 : Int32)), .val (.ref u), .val (.ref b), .unset]) rfl k) ?_
    refine own_go (W1 := T20.setTop (mkF m 63 #[.val (.int w0), .val (.int w1), .val (.int w2), .val (.int w3), .val (.int len), .val (.int sel), .val (.int (3 : Int32)), .val (.ref u), .val (.ref b), .unset] [(.ref b)])) (fun t k => XS.aload X20.here hx rfl (hb hby at_61) rfl rfl  k) ?_
    refine own_go (W1 := T20.setTop (mkF m 65 #[.val (.int w0), .val (.int w1), .val (.int w2), .val (.int w3), .val (.int len), .val (.int sel), .val (.int (3 : Int32)), .val (.ref u), .val (.ref b), .unset] [(.ref u), (.ref b)])) (fun t k => XS.aload X20.here hx rfl (hb hby at_63) rfl rfl  k) ?_
    refine own_go (W1 := T20.setTop (mkF m 70 #[.val (.int w0), .val (.int w1), .val (.int w2), .val (.int w3), .val (.int len), .val (.int sel), .val (.int (3 : Int32)), .val (.ref u), .val (.ref b), .unset] [])) (fun t k => Jvm.RoadKit.acmp (g := (mkF m 65 #[.val (.int w0), .val (.int w1), .val (.int w2), .val (.int w3), .val (.int len), .val (.int sel), .val (.int (3 : Int32)), .val (.ref u), .val (.ref b), .unset] [(.ref u), (.ref b)])) X20 hx rfl rfl rfl (pc0 := 65) (pc' := 70) (same := false) rfl (hb hby at_65) rfl (decide_eq_false fun q => (Ne.symm ne_u_b) (Value.ref.inj q)) (by decide) (by decide) k) ?_
    refine own_go (W1 := T20.setTop (mkF m 72 #[.val (.int w0), .val (.int w1), .val (.int w2), .val (.int w3), .val (.int len), .val (.int sel), .val (.int (3 : Int32)), .val (.ref u), .val (.ref b), .unset] [(.ref b)])) (fun t k => XS.aload X20.here hx rfl (hb hby at_70) rfl rfl  k) ?_
    obtain ⟨cl21, Ar21, -, S21, M21, -, -⟩ := id V_b
    have al21 := X20.arraylength hx (by rw [(rfl : T20.heap = T20.heap)]; exact Ar21.1) (State.isArrayOf_alike hZ.alike Ar21.2.1) (g := (mkF m 72 #[.val (.int w0), .val (.int w1), .val (.int w2), .val (.int w3), .val (.int len), .val (.int sel), .val (.int (3 : Int32)), .val (.ref u), .val (.ref b), .unset] [(.ref b)])) rfl rfl (hb hby at_72)
    rw [len_of S21 M21] at al21
    refine own_go (W1 := T20.setTop (mkF m 73 #[.val (.int w0), .val (.int w1), .val (.int w2), .val (.int w3), .val (.int len), .val (.int sel), .val (.int (3 : Int32)), .val (.ref u), .val (.ref b), .unset] [(.int (3 : Int32))])) (al21) ?_
    refine own_go (W1 := T20.setTop (mkF m 75 #[.val (.int w0), .val (.int w1), .val (.int w2), .val (.int w3), .val (.int len), .val (.int sel), .val (.int (3 : Int32)), .val (.ref u), .val (.ref b), .unset] [(.int (3 : Int32)), (.int (3 : Int32))])) (fun t k => XS.iload X20.here hx rfl (hb hby at_73) rfl  k) ?_
    refine own_go (W1 := T20.setTop (mkF m 80 #[.val (.int w0), .val (.int w1), .val (.int w2), .val (.int w3), .val (.int len), .val (.int sel), .val (.int (3 : Int32)), .val (.ref u), .val (.ref b), .unset] [])) (fun t k => XS.icmpYes X20.here hx rfl (pc0 := 75) (pc' := 80) rfl (hb hby at_75) rfl (teq (show (3 : Int32) = (3 : Int32) from (by decide))).1 (by decide) (by decide) k) ?_
    refine own_go (W1 := T20.setTop (mkF m 82 #[.val (.int w0), .val (.int w1), .val (.int w2), .val (.int w3), .val (.int len), .val (.int sel), .val (.int (3 : Int32)), .val (.ref u), .val (.ref b), .unset] [(.ref u)])) (fun t k => XS.aload X20.here hx rfl (hb hby at_80) rfl rfl  k) ?_
    refine own_go (W1 := T20.setTop (mkF m 83 #[.val (.int w0), .val (.int w1), .val (.int w2), .val (.int w3), .val (.int len), .val (.int sel), .val (.int (3 : Int32)), .val (.ref u), .val (.ref b), .unset] [(.int (0 : Int32)), (.ref u)])) (fun t k => XS.iconst X20.here hx rfl (hb hby at_82) k) ?_
    obtain ⟨cl22, Ar22, q22, S22, M22, H22, G22⟩ := id V_u
    have hin22 : ¬ ((0 : Int32) < 0 ∨ cl22.slots.size ≤ ((0 : Int32)).toNatClampNeg) := inb_of S22 ⟨by decide, by decide⟩
    have hat22 : cl22.slots[((0 : Int32)).toNatClampNeg]? = some (.int w0) := Has.at H22 hin22 rfl
    refine own_go (W1 := T20.setTop (mkF m 84 #[.val (.int w0), .val (.int w1), .val (.int w2), .val (.int w3), .val (.int len), .val (.int sel), .val (.int (3 : Int32)), .val (.ref u), .val (.ref b), .unset] [(.int w0)])) (X20.iaload hx (j := (0 : Int32)) (v := (.int w0)) (by rw [(rfl : T20.heap = T20.heap)]; exact Ar22.1) (State.isArrayOf_alike hZ.alike Ar22.2.1) Ar22.2.2 hin22 hat22 (g := (mkF m 83 #[.val (.int w0), .val (.int w1), .val (.int w2), .val (.int w3), .val (.int len), .val (.int sel), .val (.int (3 : Int32)), .val (.ref u), .val (.ref b), .unset] [(.int (0 : Int32)), (.ref u)])) rfl rfl (hb hby at_83)) ?_
    refine own_go (W1 := T20.setTop (mkF m 85 #[.val (.int w0), .val (.int w1), .val (.int w2), .val (.int w3), .val (.int len), .val (.int sel), .val (.int (3 : Int32)), .val (.ref u), .val (.ref b), .unset] [(.int w0), (.int w0)])) (fun t k => XS.iloadN X20.here hx rfl (hb hby at_84) rfl  k) ?_
    refine own_go (W1 := T20.setTop (mkF m 90 #[.val (.int w0), .val (.int w1), .val (.int w2), .val (.int w3), .val (.int len), .val (.int sel), .val (.int (3 : Int32)), .val (.ref u), .val (.ref b), .unset] [])) (fun t k => XS.icmpYes X20.here hx rfl (pc0 := 85) (pc' := 90) rfl (hb hby at_85) rfl (teq (show w0 = w0 from rfl)).1 (by decide) (by decide) k) ?_
    refine own_go (W1 := T20.setTop (mkF m 92 #[.val (.int w0), .val (.int w1), .val (.int w2), .val (.int w3), .val (.int len), .val (.int sel), .val (.int (3 : Int32)), .val (.ref u), .val (.ref b), .unset] [(.int (3 : Int32))])) (fun t k => XS.iload X20.here hx rfl (hb hby at_90) rfl  k) ?_
    refine own_go (W1 := T20.setTop (mkF m 93 #[.val (.int w0), .val (.int w1), .val (.int w2), .val (.int w3), .val (.int len), .val (.int sel), .val (.int (3 : Int32)), .val (.ref u), .val (.ref b), .unset] [(.int (1 : Int32)), (.int (3 : Int32))])) (fun t k => XS.iconst X20.here hx rfl (hb hby at_92) k) ?_
    refine own_go (W1 := T20.setTop (mkF m 96 #[.val (.int w0), .val (.int w1), .val (.int w2), .val (.int w3), .val (.int len), .val (.int sel), .val (.int (3 : Int32)), .val (.ref u), .val (.ref b), .unset] [])) (fun t k => XS.icmpNo X20.here hx rfl (hb hby at_93) rfl (tlt (show (1 : Int32) < (3 : Int32) from (by decide))).2.2.2 k) ?_
    refine own_go (W1 := T20.setTop (mkF m 98 #[.val (.int w0), .val (.int w1), .val (.int w2), .val (.int w3), .val (.int len), .val (.int sel), .val (.int (3 : Int32)), .val (.ref u), .val (.ref b), .unset] [(.ref u)])) (fun t k => XS.aload X20.here hx rfl (hb hby at_96) rfl rfl  k) ?_
    refine own_go (W1 := T20.setTop (mkF m 99 #[.val (.int w0), .val (.int w1), .val (.int w2), .val (.int w3), .val (.int len), .val (.int sel), .val (.int (3 : Int32)), .val (.ref u), .val (.ref b), .unset] [(.int (1 : Int32)), (.ref u)])) (fun t k => XS.iconst X20.here hx rfl (hb hby at_98) k) ?_
    obtain ⟨cl23, Ar23, q23, S23, M23, H23, G23⟩ := id V_u
    have hin23 : ¬ ((1 : Int32) < 0 ∨ cl23.slots.size ≤ ((1 : Int32)).toNatClampNeg) := inb_of S23 ⟨by decide, by decide⟩
    have hat23 : cl23.slots[((1 : Int32)).toNatClampNeg]? = some (.int w1) := Has.at H23 hin23 rfl
    refine own_go (W1 := T20.setTop (mkF m 100 #[.val (.int w0), .val (.int w1), .val (.int w2), .val (.int w3), .val (.int len), .val (.int sel), .val (.int (3 : Int32)), .val (.ref u), .val (.ref b), .unset] [(.int w1)])) (X20.iaload hx (j := (1 : Int32)) (v := (.int w1)) (by rw [(rfl : T20.heap = T20.heap)]; exact Ar23.1) (State.isArrayOf_alike hZ.alike Ar23.2.1) Ar23.2.2 hin23 hat23 (g := (mkF m 99 #[.val (.int w0), .val (.int w1), .val (.int w2), .val (.int w3), .val (.int len), .val (.int sel), .val (.int (3 : Int32)), .val (.ref u), .val (.ref b), .unset] [(.int (1 : Int32)), (.ref u)])) rfl rfl (hb hby at_99)) ?_
    refine own_go (W1 := T20.setTop (mkF m 101 #[.val (.int w0), .val (.int w1), .val (.int w2), .val (.int w3), .val (.int len), .val (.int sel), .val (.int (3 : Int32)), .val (.ref u), .val (.ref b), .unset] [(.int w1), (.int w1)])) (fun t k => XS.iloadN X20.here hx rfl (hb hby at_100) rfl  k) ?_
    refine own_go (W1 := T20.setTop (mkF m 106 #[.val (.int w0), .val (.int w1), .val (.int w2), .val (.int w3), .val (.int len), .val (.int sel), .val (.int (3 : Int32)), .val (.ref u), .val (.ref b), .unset] [])) (fun t k => XS.icmpYes X20.here hx rfl (pc0 := 101) (pc' := 106) rfl (hb hby at_101) rfl (teq (show w1 = w1 from rfl)).1 (by decide) (by decide) k) ?_
    refine own_go (W1 := T20.setTop (mkF m 108 #[.val (.int w0), .val (.int w1), .val (.int w2), .val (.int w3), .val (.int len), .val (.int sel), .val (.int (3 : Int32)), .val (.ref u), .val (.ref b), .unset] [(.int (3 : Int32))])) (fun t k => XS.iload X20.here hx rfl (hb hby at_106) rfl  k) ?_
    refine own_go (W1 := T20.setTop (mkF m 109 #[.val (.int w0), .val (.int w1), .val (.int w2), .val (.int w3), .val (.int len), .val (.int sel), .val (.int (3 : Int32)), .val (.ref u), .val (.ref b), .unset] [(.int (2 : Int32)), (.int (3 : Int32))])) (fun t k => XS.iconst X20.here hx rfl (hb hby at_108) k) ?_
    refine own_go (W1 := T20.setTop (mkF m 112 #[.val (.int w0), .val (.int w1), .val (.int w2), .val (.int w3), .val (.int len), .val (.int sel), .val (.int (3 : Int32)), .val (.ref u), .val (.ref b), .unset] [])) (fun t k => XS.icmpNo X20.here hx rfl (hb hby at_109) rfl (tlt (show (2 : Int32) < (3 : Int32) from (by decide))).2.2.2 k) ?_
    refine own_go (W1 := T20.setTop (mkF m 114 #[.val (.int w0), .val (.int w1), .val (.int w2), .val (.int w3), .val (.int len), .val (.int sel), .val (.int (3 : Int32)), .val (.ref u), .val (.ref b), .unset] [(.ref u)])) (fun t k => XS.aload X20.here hx rfl (hb hby at_112) rfl rfl  k) ?_
    refine own_go (W1 := T20.setTop (mkF m 115 #[.val (.int w0), .val (.int w1), .val (.int w2), .val (.int w3), .val (.int len), .val (.int sel), .val (.int (3 : Int32)), .val (.ref u), .val (.ref b), .unset] [(.int (2 : Int32)), (.ref u)])) (fun t k => XS.iconst X20.here hx rfl (hb hby at_114) k) ?_
    obtain ⟨cl24, Ar24, q24, S24, M24, H24, G24⟩ := id V_u
    have hin24 : ¬ ((2 : Int32) < 0 ∨ cl24.slots.size ≤ ((2 : Int32)).toNatClampNeg) := inb_of S24 ⟨by decide, by decide⟩
    have hat24 : cl24.slots[((2 : Int32)).toNatClampNeg]? = some (.int w2) := Has.at H24 hin24 rfl
    refine own_go (W1 := T20.setTop (mkF m 116 #[.val (.int w0), .val (.int w1), .val (.int w2), .val (.int w3), .val (.int len), .val (.int sel), .val (.int (3 : Int32)), .val (.ref u), .val (.ref b), .unset] [(.int w2)])) (X20.iaload hx (j := (2 : Int32)) (v := (.int w2)) (by rw [(rfl : T20.heap = T20.heap)]; exact Ar24.1) (State.isArrayOf_alike hZ.alike Ar24.2.1) Ar24.2.2 hin24 hat24 (g := (mkF m 115 #[.val (.int w0), .val (.int w1), .val (.int w2), .val (.int w3), .val (.int len), .val (.int sel), .val (.int (3 : Int32)), .val (.ref u), .val (.ref b), .unset] [(.int (2 : Int32)), (.ref u)])) rfl rfl (hb hby at_115)) ?_
    refine own_go (W1 := T20.setTop (mkF m 117 #[.val (.int w0), .val (.int w1), .val (.int w2), .val (.int w3), .val (.int len), .val (.int sel), .val (.int (3 : Int32)), .val (.ref u), .val (.ref b), .unset] [(.int w2), (.int w2)])) (fun t k => XS.iloadN X20.here hx rfl (hb hby at_116) rfl  k) ?_
    refine own_go (W1 := T20.setTop (mkF m 122 #[.val (.int w0), .val (.int w1), .val (.int w2), .val (.int w3), .val (.int len), .val (.int sel), .val (.int (3 : Int32)), .val (.ref u), .val (.ref b), .unset] [])) (fun t k => XS.icmpYes X20.here hx rfl (pc0 := 117) (pc' := 122) rfl (hb hby at_117) rfl (teq (show w2 = w2 from rfl)).1 (by decide) (by decide) k) ?_
    refine own_go (W1 := T20.setTop (mkF m 124 #[.val (.int w0), .val (.int w1), .val (.int w2), .val (.int w3), .val (.int len), .val (.int sel), .val (.int (3 : Int32)), .val (.ref u), .val (.ref b), .unset] [(.int (3 : Int32))])) (fun t k => XS.iload X20.here hx rfl (hb hby at_122) rfl  k) ?_
    refine own_go (W1 := T20.setTop (mkF m 125 #[.val (.int w0), .val (.int w1), .val (.int w2), .val (.int w3), .val (.int len), .val (.int sel), .val (.int (3 : Int32)), .val (.ref u), .val (.ref b), .unset] [(.int (3 : Int32)), (.int (3 : Int32))])) (fun t k => XS.iconst X20.here hx rfl (hb hby at_124) k) ?_
    refine own_go (W1 := T20.setTop (mkF m 138 #[.val (.int w0), .val (.int w1), .val (.int w2), .val (.int w3), .val (.int len), .val (.int sel), .val (.int (3 : Int32)), .val (.ref u), .val (.ref b), .unset] [])) (fun t k => XS.icmpYes X20.here hx rfl (pc0 := 125) (pc' := 138) rfl (hb hby at_125) rfl (flt (show ¬ ((3 : Int32) < (3 : Int32)) from (by decide))).2.2.2 (by decide) (by decide) k) ?_
    refine own_go (W1 := T20.setTop (mkF m 140 #[.val (.int w0), .val (.int w1), .val (.int w2), .val (.int w3), .val (.int len), .val (.int sel), .val (.int (3 : Int32)), .val (.ref u), .val (.ref b), .unset] [(.int len)])) (fun t k => XS.iload X20.here hx rfl (hb hby at_138) rfl  k) ?_
    refine own_go (W1 := T20.setTop (mkF m 142 #[.val (.int w0), .val (.int w1), .val (.int w2), .val (.int w3), .val (.int len), .val (.int sel), .val (.int (3 : Int32)), .val (.ref u), .val (.ref b), .unset] [(.int (10 : Int32)), (.int len)])) (fun t k => XS.bipush X20.here hx rfl (hb hby at_140) k) ?_
    refine own_go (W1 := T20.setTop (mkF m 143 #[.val (.int w0), .val (.int w1), .val (.int w2), .val (.int w3), .val (.int len), .val (.int sel), .val (.int (3 : Int32)), .val (.ref u), .val (.ref b), .unset] [(.int (len * (10 : Int32)))])) (fun t k => XS.imul X20.here hx rfl (hb hby at_142) rfl k) ?_
    refine own_go (W1 := T20.setTop (mkF m 145 #[.val (.int w0), .val (.int w1), .val (.int w2), .val (.int w3), .val (.int len), .val (.int sel), .val (.int (3 : Int32)), .val (.ref u), .val (.ref b), .val (.int (len * (10 : Int32)))] [])) (fun t k => XS.istore X20.here hx rfl (hb hby at_143) rfl (l' := #[.val (.int w0), .val (.int w1), .val (.int w2), .val (.int w3), .val (.int len), .val (.int sel), .val (.int (3 : Int32)), .val (.ref u), .val (.ref b), .val (.int (len * (10 : Int32)))]) rfl k) ?_
    refine own_go (W1 := T20.setTop (mkF m 147 #[.val (.int w0), .val (.int w1), .val (.int w2), .val (.int w3), .val (.int len), .val (.int sel), .val (.int (3 : Int32)), .val (.ref u), .val (.ref b), .val (.int (len * (10 : Int32)))] [(.int (3 : Int32))])) (fun t k => XS.iload X20.here hx rfl (hb hby at_145) rfl  k) ?_
    refine own_go (W1 := T20.setTop (mkF m 148 #[.val (.int w0), .val (.int w1), .val (.int w2), .val (.int w3), .val (.int len), .val (.int sel), .val (.int (3 : Int32)), .val (.ref u), .val (.ref b), .val (.int (len * (10 : Int32)))] [(.int (1 : Int32)), (.int (3 : Int32))])) (fun t k => XS.iconst X20.here hx rfl (hb hby at_147) k) ?_
    refine own_go (W1 := T20.setTop (mkF m 171 #[.val (.int w0), .val (.int w1), .val (.int w2), .val (.int w3), .val (.int len), .val (.int sel), .val (.int (3 : Int32)), .val (.ref u), .val (.ref b), .val (.int (len * (10 : Int32)))] [])) (fun t k => XS.icmpYes X20.here hx rfl (pc0 := 148) (pc' := 171) rfl (hb hby at_148) rfl (feq (show ¬ ((3 : Int32) = (1 : Int32)) from (by decide))).2 (by decide) (by decide) k) ?_
    refine own_go (W1 := T20.setTop (mkF m 173 #[.val (.int w0), .val (.int w1), .val (.int w2), .val (.int w3), .val (.int len), .val (.int sel), .val (.int (3 : Int32)), .val (.ref u), .val (.ref b), .val (.int (len * (10 : Int32)))] [(.ref b)])) (fun t k => XS.aload X20.here hx rfl (hb hby at_171) rfl rfl  k) ?_
    refine own_go (W1 := T20.setTop (mkF m 174 #[.val (.int w0), .val (.int w1), .val (.int w2), .val (.int w3), .val (.int len), .val (.int sel), .val (.int (3 : Int32)), .val (.ref u), .val (.ref b), .val (.int (len * (10 : Int32)))] [(.int (0 : Int32)), (.ref b)])) (fun t k => XS.iconst X20.here hx rfl (hb hby at_173) k) ?_
    obtain ⟨cl25, Ar25, q25, S25, M25, H25, G25⟩ := id V_b
    have hin25 : ¬ ((0 : Int32) < 0 ∨ cl25.slots.size ≤ ((0 : Int32)).toNatClampNeg) := inb_of S25 ⟨by decide, by decide⟩
    have hat25 : cl25.slots[((0 : Int32)).toNatClampNeg]? = some (.int (w0 + (len * (10 : Int32)))) := Has.at H25 hin25 rfl
    refine own_go (W1 := T20.setTop (mkF m 175 #[.val (.int w0), .val (.int w1), .val (.int w2), .val (.int w3), .val (.int len), .val (.int sel), .val (.int (3 : Int32)), .val (.ref u), .val (.ref b), .val (.int (len * (10 : Int32)))] [(.int (w0 + (len * (10 : Int32))))])) (X20.iaload hx (j := (0 : Int32)) (v := (.int (w0 + (len * (10 : Int32))))) (by rw [(rfl : T20.heap = T20.heap)]; exact Ar25.1) (State.isArrayOf_alike hZ.alike Ar25.2.1) Ar25.2.2 hin25 hat25 (g := (mkF m 174 #[.val (.int w0), .val (.int w1), .val (.int w2), .val (.int w3), .val (.int len), .val (.int sel), .val (.int (3 : Int32)), .val (.ref u), .val (.ref b), .val (.int (len * (10 : Int32)))] [(.int (0 : Int32)), (.ref b)])) rfl rfl (hb hby at_174)) ?_
    refine own_go (W1 := T20.setTop (mkF m 176 #[.val (.int w0), .val (.int w1), .val (.int w2), .val (.int w3), .val (.int len), .val (.int sel), .val (.int (3 : Int32)), .val (.ref u), .val (.ref b), .val (.int (len * (10 : Int32)))] [(.int w0), (.int (w0 + (len * (10 : Int32))))])) (fun t k => XS.iloadN X20.here hx rfl (hb hby at_175) rfl  k) ?_
    refine own_go (W1 := T20.setTop (mkF m 178 #[.val (.int w0), .val (.int w1), .val (.int w2), .val (.int w3), .val (.int len), .val (.int sel), .val (.int (3 : Int32)), .val (.ref u), .val (.ref b), .val (.int (len * (10 : Int32)))] [(.int (len * (10 : Int32))), (.int w0), (.int (w0 + (len * (10 : Int32))))])) (fun t k => XS.iload X20.here hx rfl (hb hby at_176) rfl  k) ?_
    refine own_go (W1 := T20.setTop (mkF m 179 #[.val (.int w0), .val (.int w1), .val (.int w2), .val (.int w3), .val (.int len), .val (.int sel), .val (.int (3 : Int32)), .val (.ref u), .val (.ref b), .val (.int (len * (10 : Int32)))] [(.int (w0 + (len * (10 : Int32)))), (.int (w0 + (len * (10 : Int32))))])) (fun t k => XS.iadd X20.here hx rfl (hb hby at_178) rfl k) ?_
    refine own_go (W1 := T20.setTop (mkF m 184 #[.val (.int w0), .val (.int w1), .val (.int w2), .val (.int w3), .val (.int len), .val (.int sel), .val (.int (3 : Int32)), .val (.ref u), .val (.ref b), .val (.int (len * (10 : Int32)))] [])) (fun t k => XS.icmpYes X20.here hx rfl (pc0 := 179) (pc' := 184) rfl (hb hby at_179) rfl (teq (show (w0 + (len * (10 : Int32))) = (w0 + (len * (10 : Int32))) from rfl)).1 (by decide) (by decide) k) ?_
    refine own_go (W1 := T20.setTop (mkF m 186 #[.val (.int w0), .val (.int w1), .val (.int w2), .val (.int w3), .val (.int len), .val (.int sel), .val (.int (3 : Int32)), .val (.ref u), .val (.ref b), .val (.int (len * (10 : Int32)))] [(.int (3 : Int32))])) (fun t k => XS.iload X20.here hx rfl (hb hby at_184) rfl  k) ?_
    refine own_go (W1 := T20.setTop (mkF m 187 #[.val (.int w0), .val (.int w1), .val (.int w2), .val (.int w3), .val (.int len), .val (.int sel), .val (.int (3 : Int32)), .val (.ref u), .val (.ref b), .val (.int (len * (10 : Int32)))] [(.int (2 : Int32)), (.int (3 : Int32))])) (fun t k => XS.iconst X20.here hx rfl (hb hby at_186) k) ?_
    refine own_go (W1 := T20.setTop (mkF m 207 #[.val (.int w0), .val (.int w1), .val (.int w2), .val (.int w3), .val (.int len), .val (.int sel), .val (.int (3 : Int32)), .val (.ref u), .val (.ref b), .val (.int (len * (10 : Int32)))] [])) (fun t k => XS.icmpYes X20.here hx rfl (pc0 := 187) (pc' := 207) rfl (hb hby at_187) rfl (feq (show ¬ ((3 : Int32) = (2 : Int32)) from (by decide))).2 (by decide) (by decide) k) ?_
    refine own_go (W1 := T20.setTop (mkF m 209 #[.val (.int w0), .val (.int w1), .val (.int w2), .val (.int w3), .val (.int len), .val (.int sel), .val (.int (3 : Int32)), .val (.ref u), .val (.ref b), .val (.int (len * (10 : Int32)))] [(.ref b)])) (fun t k => XS.aload X20.here hx rfl (hb hby at_207) rfl rfl  k) ?_
    refine own_go (W1 := T20.setTop (mkF m 210 #[.val (.int w0), .val (.int w1), .val (.int w2), .val (.int w3), .val (.int len), .val (.int sel), .val (.int (3 : Int32)), .val (.ref u), .val (.ref b), .val (.int (len * (10 : Int32)))] [(.int (1 : Int32)), (.ref b)])) (fun t k => XS.iconst X20.here hx rfl (hb hby at_209) k) ?_
    obtain ⟨cl26, Ar26, q26, S26, M26, H26, G26⟩ := id V_b
    have hin26 : ¬ ((1 : Int32) < 0 ∨ cl26.slots.size ≤ ((1 : Int32)).toNatClampNeg) := inb_of S26 ⟨by decide, by decide⟩
    have hat26 : cl26.slots[((1 : Int32)).toNatClampNeg]? = some (.int w1) := Has.at H26 hin26 rfl
    refine own_go (W1 := T20.setTop (mkF m 211 #[.val (.int w0), .val (.int w1), .val (.int w2), .val (.int w3), .val (.int len), .val (.int sel), .val (.int (3 : Int32)), .val (.ref u), .val (.ref b), .val (.int (len * (10 : Int32)))] [(.int w1)])) (X20.iaload hx (j := (1 : Int32)) (v := (.int w1)) (by rw [(rfl : T20.heap = T20.heap)]; exact Ar26.1) (State.isArrayOf_alike hZ.alike Ar26.2.1) Ar26.2.2 hin26 hat26 (g := (mkF m 210 #[.val (.int w0), .val (.int w1), .val (.int w2), .val (.int w3), .val (.int len), .val (.int sel), .val (.int (3 : Int32)), .val (.ref u), .val (.ref b), .val (.int (len * (10 : Int32)))] [(.int (1 : Int32)), (.ref b)])) rfl rfl (hb hby at_210)) ?_
    refine own_go (W1 := T20.setTop (mkF m 212 #[.val (.int w0), .val (.int w1), .val (.int w2), .val (.int w3), .val (.int len), .val (.int sel), .val (.int (3 : Int32)), .val (.ref u), .val (.ref b), .val (.int (len * (10 : Int32)))] [(.int w1), (.int w1)])) (fun t k => XS.iloadN X20.here hx rfl (hb hby at_211) rfl  k) ?_
    refine own_go (W1 := T20.setTop (mkF m 217 #[.val (.int w0), .val (.int w1), .val (.int w2), .val (.int w3), .val (.int len), .val (.int sel), .val (.int (3 : Int32)), .val (.ref u), .val (.ref b), .val (.int (len * (10 : Int32)))] [])) (fun t k => XS.icmpYes X20.here hx rfl (pc0 := 212) (pc' := 217) rfl (hb hby at_212) rfl (teq (show w1 = w1 from rfl)).1 (by decide) (by decide) k) ?_
    refine own_go (W1 := T20.setTop (mkF m 219 #[.val (.int w0), .val (.int w1), .val (.int w2), .val (.int w3), .val (.int len), .val (.int sel), .val (.int (3 : Int32)), .val (.ref u), .val (.ref b), .val (.int (len * (10 : Int32)))] [(.int (3 : Int32))])) (fun t k => XS.iload X20.here hx rfl (hb hby at_217) rfl  k) ?_
    refine own_go (W1 := T20.setTop (mkF m 220 #[.val (.int w0), .val (.int w1), .val (.int w2), .val (.int w3), .val (.int len), .val (.int sel), .val (.int (3 : Int32)), .val (.ref u), .val (.ref b), .val (.int (len * (10 : Int32)))] [(.int (3 : Int32)), (.int (3 : Int32))])) (fun t k => XS.iconst X20.here hx rfl (hb hby at_219) k) ?_
    refine own_go (W1 := T20.setTop (mkF m 223 #[.val (.int w0), .val (.int w1), .val (.int w2), .val (.int w3), .val (.int len), .val (.int sel), .val (.int (3 : Int32)), .val (.ref u), .val (.ref b), .val (.int (len * (10 : Int32)))] [])) (fun t k => XS.icmpNo X20.here hx rfl (hb hby at_220) rfl (teq (show (3 : Int32) = (3 : Int32) from (by decide))).2 k) ?_
    refine own_go (W1 := T20.setTop (mkF m 225 #[.val (.int w0), .val (.int w1), .val (.int w2), .val (.int w3), .val (.int len), .val (.int sel), .val (.int (3 : Int32)), .val (.ref u), .val (.ref b), .val (.int (len * (10 : Int32)))] [(.ref b)])) (fun t k => XS.aload X20.here hx rfl (hb hby at_223) rfl rfl  k) ?_
    refine own_go (W1 := T20.setTop (mkF m 226 #[.val (.int w0), .val (.int w1), .val (.int w2), .val (.int w3), .val (.int len), .val (.int sel), .val (.int (3 : Int32)), .val (.ref u), .val (.ref b), .val (.int (len * (10 : Int32)))] [(.int (2 : Int32)), (.ref b)])) (fun t k => XS.iconst X20.here hx rfl (hb hby at_225) k) ?_
    obtain ⟨cl27, Ar27, q27, S27, M27, H27, G27⟩ := id V_b
    have hin27 : ¬ ((2 : Int32) < 0 ∨ cl27.slots.size ≤ ((2 : Int32)).toNatClampNeg) := inb_of S27 ⟨by decide, by decide⟩
    have hat27 : cl27.slots[((2 : Int32)).toNatClampNeg]? = some (.int (w2 + (len * (10 : Int32)))) := Has.at H27 hin27 rfl
    refine own_go (W1 := T20.setTop (mkF m 227 #[.val (.int w0), .val (.int w1), .val (.int w2), .val (.int w3), .val (.int len), .val (.int sel), .val (.int (3 : Int32)), .val (.ref u), .val (.ref b), .val (.int (len * (10 : Int32)))] [(.int (w2 + (len * (10 : Int32))))])) (X20.iaload hx (j := (2 : Int32)) (v := (.int (w2 + (len * (10 : Int32))))) (by rw [(rfl : T20.heap = T20.heap)]; exact Ar27.1) (State.isArrayOf_alike hZ.alike Ar27.2.1) Ar27.2.2 hin27 hat27 (g := (mkF m 226 #[.val (.int w0), .val (.int w1), .val (.int w2), .val (.int w3), .val (.int len), .val (.int sel), .val (.int (3 : Int32)), .val (.ref u), .val (.ref b), .val (.int (len * (10 : Int32)))] [(.int (2 : Int32)), (.ref b)])) rfl rfl (hb hby at_226)) ?_
    refine own_go (W1 := T20.setTop (mkF m 228 #[.val (.int w0), .val (.int w1), .val (.int w2), .val (.int w3), .val (.int len), .val (.int sel), .val (.int (3 : Int32)), .val (.ref u), .val (.ref b), .val (.int (len * (10 : Int32)))] [(.int w2), (.int (w2 + (len * (10 : Int32))))])) (fun t k => XS.iloadN X20.here hx rfl (hb hby at_227) rfl  k) ?_
    refine own_go (W1 := T20.setTop (mkF m 230 #[.val (.int w0), .val (.int w1), .val (.int w2), .val (.int w3), .val (.int len), .val (.int sel), .val (.int (3 : Int32)), .val (.ref u), .val (.ref b), .val (.int (len * (10 : Int32)))] [(.int (len * (10 : Int32))), (.int w2), (.int (w2 + (len * (10 : Int32))))])) (fun t k => XS.iload X20.here hx rfl (hb hby at_228) rfl  k) ?_
    refine own_go (W1 := T20.setTop (mkF m 231 #[.val (.int w0), .val (.int w1), .val (.int w2), .val (.int w3), .val (.int len), .val (.int sel), .val (.int (3 : Int32)), .val (.ref u), .val (.ref b), .val (.int (len * (10 : Int32)))] [(.int (w2 + (len * (10 : Int32)))), (.int (w2 + (len * (10 : Int32))))])) (fun t k => XS.iadd X20.here hx rfl (hb hby at_230) rfl k) ?_
    refine own_go (W1 := T20.setTop (mkF m 234 #[.val (.int w0), .val (.int w1), .val (.int w2), .val (.int w3), .val (.int len), .val (.int sel), .val (.int (3 : Int32)), .val (.ref u), .val (.ref b), .val (.int (len * (10 : Int32)))] [])) (fun t k => XS.icmpNo X20.here hx rfl (hb hby at_231) rfl (teq (show (w2 + (len * (10 : Int32))) = (w2 + (len * (10 : Int32))) from rfl)).2 k) ?_
    refine own_go (W1 := T20.setTop (mkF m 235 #[.val (.int w0), .val (.int w1), .val (.int w2), .val (.int w3), .val (.int len), .val (.int sel), .val (.int (3 : Int32)), .val (.ref u), .val (.ref b), .val (.int (len * (10 : Int32)))] [(.int (1 : Int32))])) (fun t k => XS.iconst X20.here hx rfl (hb hby at_234) k) ?_
    refine own_go (W1 := T20.setTop (mkF m 239 #[.val (.int w0), .val (.int w1), .val (.int w2), .val (.int w3), .val (.int len), .val (.int sel), .val (.int (3 : Int32)), .val (.ref u), .val (.ref b), .val (.int (len * (10 : Int32)))] [(.int (1 : Int32))])) (fun t k => XS.goto X20.here hx rfl (pc0 := 235) (pc' := 239) rfl (hb hby at_235) (by decide) (by decide) k) ?_
    exact own_retN X20 hx (t := .boolean) Bd.returns (by simp) (hb hby at_239) hlk (by decide) (by decide) ⟨rfl, N20⟩
  · rw [show ((1 : Int32) + (sel &&& (3 : Int32))) = (4 : Int32) from hn]
    refine own_go (W1 := s₁.setTop (mkF m 10 #[.val (.int w0), .val (.int w1), .val (.int w2), .val (.int w3), .val (.int len), .val (.int sel), .val (.int (4 : Int32)), .unset, .unset, .unset] [(.int (4 : Int32))])) (fun t k => XS.iload X0.here hx rfl (hb hby at_8) rfl  k) ?_
    obtain ⟨T28, h28, k28, X28, e28, E28, A28, Ea28, st28⟩ := newPE X0 hx hZ (hw _ (List.mem_of_getElem? (i := 0) rfl)) e0 (g := (mkF m 10 #[.val (.int w0), .val (.int w1), .val (.int w2), .val (.int w3), .val (.int len), .val (.int sel), .val (.int (4 : Int32)), .unset, .unset, .unset] [(.int (4 : Int32))])) rfl (hb hby at_10) rfl (by decide) (cap := 4) (by decide) (by decide) (by decide) (by decide) (ad := "[I") rfl
    obtain ⟨u, g28⟩ : ∃ z, z = h0.size := ⟨_, rfl⟩
    have ge_u : n0 ≤ u := Nat.le_trans Z0 (Nat.le_of_eq g28.symm)
    rw [← g28] at A28 st28 Ea28
    have Z28 : n0 ≤ h28.size := Nat.le_trans Z0 E28.1
    have E_u := Ea28
    have V_u : Arv Z h28 u k28 .int (4 : Int32) [(.int (0 : Int32)), (.int (0 : Int32)), (.int (0 : Int32)), (.int (0 : Int32))] (.int (0 : Int32)) := (Arv.new A28 (by decide)).pad (pad_rep [] (.int (0 : Int32)) 4)
    refine own_go (W1 := T28.setTop (mkF m 12 #[.val (.int w0), .val (.int w1), .val (.int w2), .val (.int w3), .val (.int len), .val (.int sel), .val (.int (4 : Int32)), .unset, .unset, .unset] [(.ref u)])) (st28) ?_
    refine own_go (W1 := T28.setTop (mkF m 14 #[.val (.int w0), .val (.int w1), .val (.int w2), .val (.int w3), .val (.int len), .val (.int sel), .val (.int (4 : Int32)), .val (.ref u), .unset, .unset] [])) (fun t k => XS.astore X28.here hx rfl (hb hby at_12) rfl rfl (l' := #[.val (.int w0), .val (.int w1), .val (.int w2), .val (.int w3), .val (.int len), .val (.int sel), .val (.int (4 : Int32)), .val (.ref u), .unset, .unset]) rfl k) ?_
    refine own_go (W1 := T28.setTop (mkF m 16 #[.val (.int w0), .val (.int w1), .val (.int w2), .val (.int w3), .val (.int len), .val (.int sel), .val (.int (4 : Int32)), .val (.ref u), .unset, .unset] [(.ref u)])) (fun t k => XS.aload X28.here hx rfl (hb hby at_14) rfl rfl  k) ?_
    refine own_go (W1 := T28.setTop (mkF m 17 #[.val (.int w0), .val (.int w1), .val (.int w2), .val (.int w3), .val (.int len), .val (.int sel), .val (.int (4 : Int32)), .val (.ref u), .unset, .unset] [(.int (0 : Int32)), (.ref u)])) (fun t k => XS.iconst X28.here hx rfl (hb hby at_16) k) ?_
    refine own_go (W1 := T28.setTop (mkF m 18 #[.val (.int w0), .val (.int w1), .val (.int w2), .val (.int w3), .val (.int len), .val (.int sel), .val (.int (4 : Int32)), .val (.ref u), .unset, .unset] [(.int w0), (.int (0 : Int32)), (.ref u)])) (fun t k => XS.iloadN X28.here hx rfl (hb hby at_17) rfl  k) ?_
    obtain ⟨cl29, Ar29, q29, S29, M29, H29, G29⟩ := id V_u
    have hin29 : ¬ ((0 : Int32) < 0 ∨ cl29.slots.size ≤ ((0 : Int32)).toNatClampNeg) := inb_of S29 ⟨by decide, by decide⟩
    obtain ⟨T29, h29, X29, e29, W29, st29⟩ := stI X28 hx hZ e28 Ar29 (j := (0 : Int32)) hin29 (g := (mkF m 18 #[.val (.int w0), .val (.int w1), .val (.int w2), .val (.int w3), .val (.int len), .val (.int sel), .val (.int (4 : Int32)), .val (.ref u), .unset, .unset] [(.int w0), (.int (0 : Int32)), (.ref u)])) rfl rfl (hb hby at_18)
    have V_u : Arv Z h29 u k28 .int (4 : Int32) [(.int w0), (.int (0 : Int32)), (.int (0 : Int32)), (.int (0 : Int32))] (.int (0 : Int32)) := Arv.set Ar29 q29 S29 M29 H29 G29 rfl W29 0 rfl (Nat.le_of_ble_eq_true rfl)
    have E_u := E_u.wr W29
    have Z29 : n0 ≤ h29.size := by rw [W29.size]; exact Z28
    have N29 := Fr.snoc X29 N0 ge_u
    refine own_go (W1 := T29.setTop (mkF m 19 #[.val (.int w0), .val (.int w1), .val (.int w2), .val (.int w3), .val (.int len), .val (.int sel), .val (.int (4 : Int32)), .val (.ref u), .unset, .unset] [])) (st29) ?_
    refine own_go (W1 := T29.setTop (mkF m 21 #[.val (.int w0), .val (.int w1), .val (.int w2), .val (.int w3), .val (.int len), .val (.int sel), .val (.int (4 : Int32)), .val (.ref u), .unset, .unset] [(.int (4 : Int32))])) (fun t k => XS.iload X29.here hx rfl (hb hby at_19) rfl  k) ?_
    refine own_go (W1 := T29.setTop (mkF m 22 #[.val (.int w0), .val (.int w1), .val (.int w2), .val (.int w3), .val (.int len), .val (.int sel), .val (.int (4 : Int32)), .val (.ref u), .unset, .unset] [(.int (1 : Int32)), (.int (4 : Int32))])) (fun t k => XS.iconst X29.here hx rfl (hb hby at_21) k) ?_
    refine own_go (W1 := T29.setTop (mkF m 25 #[.val (.int w0), .val (.int w1), .val (.int w2), .val (.int w3), .val (.int len), .val (.int sel), .val (.int (4 : Int32)), .val (.ref u), .unset, .unset] [])) (fun t k => XS.icmpNo X29.here hx rfl (hb hby at_22) rfl (tlt (show (1 : Int32) < (4 : Int32) from (by decide))).2.2.2 k) ?_
    refine own_go (W1 := T29.setTop (mkF m 27 #[.val (.int w0), .val (.int w1), .val (.int w2), .val (.int w3), .val (.int len), .val (.int sel), .val (.int (4 : Int32)), .val (.ref u), .unset, .unset] [(.ref u)])) (fun t k => XS.aload X29.here hx rfl (hb hby at_25) rfl rfl  k) ?_
    refine own_go (W1 := T29.setTop (mkF m 28 #[.val (.int w0), .val (.int w1), .val (.int w2), .val (.int w3), .val (.int len), .val (.int sel), .val (.int (4 : Int32)), .val (.ref u), .unset, .unset] [(.int (1 : Int32)), (.ref u)])) (fun t k => XS.iconst X29.here hx rfl (hb hby at_27) k) ?_
    refine own_go (W1 := T29.setTop (mkF m 29 #[.val (.int w0), .val (.int w1), .val (.int w2), .val (.int w3), .val (.int len), .val (.int sel), .val (.int (4 : Int32)), .val (.ref u), .unset, .unset] [(.int w1), (.int (1 : Int32)), (.ref u)])) (fun t k => XS.iloadN X29.here hx rfl (hb hby at_28) rfl  k) ?_
    obtain ⟨cl30, Ar30, q30, S30, M30, H30, G30⟩ := id V_u
    have hin30 : ¬ ((1 : Int32) < 0 ∨ cl30.slots.size ≤ ((1 : Int32)).toNatClampNeg) := inb_of S30 ⟨by decide, by decide⟩
    obtain ⟨T30, h30, X30, e30, W30, st30⟩ := stI X29 hx hZ e29 Ar30 (j := (1 : Int32)) hin30 (g := (mkF m 29 #[.val (.int w0), .val (.int w1), .val (.int w2), .val (.int w3), .val (.int len), .val (.int sel), .val (.int (4 : Int32)), .val (.ref u), .unset, .unset] [(.int w1), (.int (1 : Int32)), (.ref u)])) rfl rfl (hb hby at_29)
    have V_u : Arv Z h30 u k28 .int (4 : Int32) [(.int w0), (.int w1), (.int (0 : Int32)), (.int (0 : Int32))] (.int (0 : Int32)) := Arv.set Ar30 q30 S30 M30 H30 G30 rfl W30 1 rfl (Nat.le_of_ble_eq_true rfl)
    have E_u := E_u.wr W30
    have Z30 : n0 ≤ h30.size := by rw [W30.size]; exact Z29
    have N30 := Fr.snoc X30 N29 ge_u
    refine own_go (W1 := T30.setTop (mkF m 30 #[.val (.int w0), .val (.int w1), .val (.int w2), .val (.int w3), .val (.int len), .val (.int sel), .val (.int (4 : Int32)), .val (.ref u), .unset, .unset] [])) (st30) ?_
    refine own_go (W1 := T30.setTop (mkF m 32 #[.val (.int w0), .val (.int w1), .val (.int w2), .val (.int w3), .val (.int len), .val (.int sel), .val (.int (4 : Int32)), .val (.ref u), .unset, .unset] [(.int (4 : Int32))])) (fun t k => XS.iload X30.here hx rfl (hb hby at_30) rfl  k) ?_
    refine own_go (W1 := T30.setTop (mkF m 33 #[.val (.int w0), .val (.int w1), .val (.int w2), .val (.int w3), .val (.int len), .val (.int sel), .val (.int (4 : Int32)), .val (.ref u), .unset, .unset] [(.int (2 : Int32)), (.int (4 : Int32))])) (fun t k => XS.iconst X30.here hx rfl (hb hby at_32) k) ?_
    refine own_go (W1 := T30.setTop (mkF m 36 #[.val (.int w0), .val (.int w1), .val (.int w2), .val (.int w3), .val (.int len), .val (.int sel), .val (.int (4 : Int32)), .val (.ref u), .unset, .unset] [])) (fun t k => XS.icmpNo X30.here hx rfl (hb hby at_33) rfl (tlt (show (2 : Int32) < (4 : Int32) from (by decide))).2.2.2 k) ?_
    refine own_go (W1 := T30.setTop (mkF m 38 #[.val (.int w0), .val (.int w1), .val (.int w2), .val (.int w3), .val (.int len), .val (.int sel), .val (.int (4 : Int32)), .val (.ref u), .unset, .unset] [(.ref u)])) (fun t k => XS.aload X30.here hx rfl (hb hby at_36) rfl rfl  k) ?_
    refine own_go (W1 := T30.setTop (mkF m 39 #[.val (.int w0), .val (.int w1), .val (.int w2), .val (.int w3), .val (.int len), .val (.int sel), .val (.int (4 : Int32)), .val (.ref u), .unset, .unset] [(.int (2 : Int32)), (.ref u)])) (fun t k => XS.iconst X30.here hx rfl (hb hby at_38) k) ?_
    refine own_go (W1 := T30.setTop (mkF m 40 #[.val (.int w0), .val (.int w1), .val (.int w2), .val (.int w3), .val (.int len), .val (.int sel), .val (.int (4 : Int32)), .val (.ref u), .unset, .unset] [(.int w2), (.int (2 : Int32)), (.ref u)])) (fun t k => XS.iloadN X30.here hx rfl (hb hby at_39) rfl  k) ?_
    obtain ⟨cl31, Ar31, q31, S31, M31, H31, G31⟩ := id V_u
    have hin31 : ¬ ((2 : Int32) < 0 ∨ cl31.slots.size ≤ ((2 : Int32)).toNatClampNeg) := inb_of S31 ⟨by decide, by decide⟩
    obtain ⟨T31, h31, X31, e31, W31, st31⟩ := stI X30 hx hZ e30 Ar31 (j := (2 : Int32)) hin31 (g := (mkF m 40 #[.val (.int w0), .val (.int w1), .val (.int w2), .val (.int w3), .val (.int len), .val (.int sel), .val (.int (4 : Int32)), .val (.ref u), .unset, .unset] [(.int w2), (.int (2 : Int32)), (.ref u)])) rfl rfl (hb hby at_40)
    have V_u : Arv Z h31 u k28 .int (4 : Int32) [(.int w0), (.int w1), (.int w2), (.int (0 : Int32))] (.int (0 : Int32)) := Arv.set Ar31 q31 S31 M31 H31 G31 rfl W31 2 rfl (Nat.le_of_ble_eq_true rfl)
    have E_u := E_u.wr W31
    have Z31 : n0 ≤ h31.size := by rw [W31.size]; exact Z30
    have N31 := Fr.snoc X31 N30 ge_u
    refine own_go (W1 := T31.setTop (mkF m 41 #[.val (.int w0), .val (.int w1), .val (.int w2), .val (.int w3), .val (.int len), .val (.int sel), .val (.int (4 : Int32)), .val (.ref u), .unset, .unset] [])) (st31) ?_
    refine own_go (W1 := T31.setTop (mkF m 43 #[.val (.int w0), .val (.int w1), .val (.int w2), .val (.int w3), .val (.int len), .val (.int sel), .val (.int (4 : Int32)), .val (.ref u), .unset, .unset] [(.int (4 : Int32))])) (fun t k => XS.iload X31.here hx rfl (hb hby at_41) rfl  k) ?_
    refine own_go (W1 := T31.setTop (mkF m 44 #[.val (.int w0), .val (.int w1), .val (.int w2), .val (.int w3), .val (.int len), .val (.int sel), .val (.int (4 : Int32)), .val (.ref u), .unset, .unset] [(.int (3 : Int32)), (.int (4 : Int32))])) (fun t k => XS.iconst X31.here hx rfl (hb hby at_43) k) ?_
    refine own_go (W1 := T31.setTop (mkF m 47 #[.val (.int w0), .val (.int w1), .val (.int w2), .val (.int w3), .val (.int len), .val (.int sel), .val (.int (4 : Int32)), .val (.ref u), .unset, .unset] [])) (fun t k => XS.icmpNo X31.here hx rfl (hb hby at_44) rfl (tlt (show (3 : Int32) < (4 : Int32) from (by decide))).2.2.2 k) ?_
    refine own_go (W1 := T31.setTop (mkF m 49 #[.val (.int w0), .val (.int w1), .val (.int w2), .val (.int w3), .val (.int len), .val (.int sel), .val (.int (4 : Int32)), .val (.ref u), .unset, .unset] [(.ref u)])) (fun t k => XS.aload X31.here hx rfl (hb hby at_47) rfl rfl  k) ?_
    refine own_go (W1 := T31.setTop (mkF m 50 #[.val (.int w0), .val (.int w1), .val (.int w2), .val (.int w3), .val (.int len), .val (.int sel), .val (.int (4 : Int32)), .val (.ref u), .unset, .unset] [(.int (3 : Int32)), (.ref u)])) (fun t k => XS.iconst X31.here hx rfl (hb hby at_49) k) ?_
    refine own_go (W1 := T31.setTop (mkF m 51 #[.val (.int w0), .val (.int w1), .val (.int w2), .val (.int w3), .val (.int len), .val (.int sel), .val (.int (4 : Int32)), .val (.ref u), .unset, .unset] [(.int w3), (.int (3 : Int32)), (.ref u)])) (fun t k => XS.iloadN X31.here hx rfl (hb hby at_50) rfl  k) ?_
    obtain ⟨cl32, Ar32, q32, S32, M32, H32, G32⟩ := id V_u
    have hin32 : ¬ ((3 : Int32) < 0 ∨ cl32.slots.size ≤ ((3 : Int32)).toNatClampNeg) := inb_of S32 ⟨by decide, by decide⟩
    obtain ⟨T32, h32, X32, e32, W32, st32⟩ := stI X31 hx hZ e31 Ar32 (j := (3 : Int32)) hin32 (g := (mkF m 51 #[.val (.int w0), .val (.int w1), .val (.int w2), .val (.int w3), .val (.int len), .val (.int sel), .val (.int (4 : Int32)), .val (.ref u), .unset, .unset] [(.int w3), (.int (3 : Int32)), (.ref u)])) rfl rfl (hb hby at_51)
    have V_u : Arv Z h32 u k28 .int (4 : Int32) [(.int w0), (.int w1), (.int w2), (.int w3)] (.int (0 : Int32)) := Arv.set Ar32 q32 S32 M32 H32 G32 rfl W32 3 rfl (Nat.le_of_ble_eq_true rfl)
    have E_u := E_u.wr W32
    have Z32 : n0 ≤ h32.size := by rw [W32.size]; exact Z31
    have N32 := Fr.snoc X32 N31 ge_u
    refine own_go (W1 := T32.setTop (mkF m 52 #[.val (.int w0), .val (.int w1), .val (.int w2), .val (.int w3), .val (.int len), .val (.int sel), .val (.int (4 : Int32)), .val (.ref u), .unset, .unset] [])) (st32) ?_
    refine own_go (W1 := T32.setTop (mkF m 54 #[.val (.int w0), .val (.int w1), .val (.int w2), .val (.int w3), .val (.int len), .val (.int sel), .val (.int (4 : Int32)), .val (.ref u), .unset, .unset] [(.ref u)])) (fun t k => XS.aload X32.here hx rfl (hb hby at_52) rfl rfl  k) ?_
    refine own_go (W1 := T32.setTop (mkF m 56 #[.val (.int w0), .val (.int w1), .val (.int w2), .val (.int w3), .val (.int len), .val (.int sel), .val (.int (4 : Int32)), .val (.ref u), .unset, .unset] [(.int len), (.ref u)])) (fun t k => XS.iload X32.here hx rfl (hb hby at_54) rfl  k) ?_
    obtain ⟨_, _, ⟨T33, L33, k33, n33⟩, -, X33, ⟨Lc33, hQ33, l33, y33, z33⟩, st33⟩ := Jvm.LawKit.callS X32 hx (y := (⟨"com/example/quietzone/quietzone/read/SymbolReader", "throughTheEdges", "([II)[I"⟩ : MethodName)) hown (mvT hZ (hw _ (List.mem_of_getElem? (i := 1) rfl))) (mvT hZ (hw _ (List.mem_of_getElem? (i := 2) rfl))) (mvT hZ (hw _ (List.mem_of_getElem? (i := 3) rfl))) (mvT hZ (hw _ (List.mem_of_getElem? (i := 4) rfl))) (by decide) (backOf (W := 0) (rm1_4 l Z a0 hw [] u k28 len w0 w1 w2 w3 h32 n0 Z32 E_u V_u) hZ (hw _ (List.mem_of_getElem? (i := 4) rfl)) (hw _ (List.mem_of_getElem? (i := 3) rfl)) (by decide) (by decide)) (g := (mkF m 56 #[.val (.int w0), .val (.int w1), .val (.int w2), .val (.int w3), .val (.int len), .val (.int sel), .val (.int (4 : Int32)), .val (.ref u), .unset, .unset] [(.int len), (.ref u)])) rfl (by rw [hml]; rfl) (argsL := [(.ref u), (.int len)]) (rest := []) (lenOf own_pd0 rfl) rfl (by show 2 * 0 + _ ≤ _; exact Nat.le_of_eq rfl) (hb hby at_56) (fun _ _ => ⟨rfl, e32, (by decide : 1 + 1 ≤ _), (by decide : 4 + 4 ≤ _)⟩)
    dsimp only [Pt.U, Pt.locs, Pt.cells, Pt.slots] at X33 l33 y33 z33 st33 hQ33
    subst l33 y33 z33
    obtain ⟨b, kb, rfl, Nq33, Kq33, gq33, V_b⟩ := hQ33
    have ne_u_b : u ≠ b := Nat.ne_of_lt (Nat.lt_of_lt_of_le V_u.lt gq33)
    have E_u := E_u.keep Kq33
    have V_u := V_u.keep Kq33 nin0
    have Z33 : n0 ≤ T33.heap.size := Nat.le_trans Z32 Kq33.1
    have N33 := Fr.app N32 Nq33
    refine own_go (W1 := T33.setTop (mkF m 59 #[.val (.int w0), .val (.int w1), .val (.int w2), .val (.int w3), .val (.int len), .val (.int sel), .val (.int (4 : Int32)), .val (.ref u), .unset, .unset] [(.ref b)])) st33 ?_
    refine own_go (W1 := T33.setTop (mkF m 61 #[.val (.int w0), .val (.int w1), .val (.int w2), .val (.int w3), .val (.int len), .val (.int sel), .val (.int (4 : Int32)), .val (.ref u), .val (.ref b), .unset] [])) (fun t k => XS.astore X33.here hx rfl (hb hby at_59) rfl rfl (l' := #[.val (.int w0), .val (.int w1), .val (.int w2), .val (.int w3), .val (.int len), .val (.int sel), .val (.int (4 : Int32)), .val (.ref u), .val (.ref b), .unset]) rfl k) ?_
    refine own_go (W1 := T33.setTop (mkF m 63 #[.val (.int w0), .val (.int w1), .val (.int w2), .val (.int w3), .val (.int len), .val (.int sel), .val (.int (4 : Int32)), .val (.ref u), .val (.ref b), .unset] [(.ref b)])) (fun t k => XS.aload X33.here hx rfl (hb hby at_61) rfl rfl  k) ?_
    refine own_go (W1 := T33.setTop (mkF m 65 #[.val (.int w0), .val (.int w1), .val (.int w2), .val (.int w3), .val (.int len), .val (.int sel), .val (.int (4 : Int32)), .val (.ref u), .val (.ref b), .unset] [(.ref u), (.ref b)])) (fun t k => XS.aload X33.here hx rfl (hb hby at_63) rfl rfl  k) ?_
    refine own_go (W1 := T33.setTop (mkF m 70 #[.val (.int w0), .val (.int w1), .val (.int w2), .val (.int w3), .val (.int len), .val (.int sel), .val (.int (4 : Int32)), .val (.ref u), .val (.ref b), .unset] [])) (fun t k => Jvm.RoadKit.acmp (g := (mkF m 65 #[.val (.int w0), .val (.int w1), .val (.int w2), .val (.int w3), .val (.int len), .val (.int sel), .val (.int (4 : Int32)), .val (.ref u), .val (.ref b), .unset] [(.ref u), (.ref b)])) X33 hx rfl rfl rfl (pc0 := 65) (pc' := 70) (same := false) rfl (hb hby at_65) rfl (decide_eq_false fun q => (Ne.symm ne_u_b) (Value.ref.inj q)) (by decide) (by decide) k) ?_
    refine own_go (W1 := T33.setTop (mkF m 72 #[.val (.int w0), .val (.int w1), .val (.int w2), .val (.int w3), .val (.int len), .val (.int sel), .val (.int (4 : Int32)), .val (.ref u), .val (.ref b), .unset] [(.ref b)])) (fun t k => XS.aload X33.here hx rfl (hb hby at_70) rfl rfl  k) ?_
    obtain ⟨cl34, Ar34, -, S34, M34, -, -⟩ := id V_b
    have al34 := X33.arraylength hx (by rw [(rfl : T33.heap = T33.heap)]; exact Ar34.1) (State.isArrayOf_alike hZ.alike Ar34.2.1) (g := (mkF m 72 #[.val (.int w0), .val (.int w1), .val (.int w2), .val (.int w3), .val (.int len), .val (.int sel), .val (.int (4 : Int32)), .val (.ref u), .val (.ref b), .unset] [(.ref b)])) rfl rfl (hb hby at_72)
    rw [len_of S34 M34] at al34
    refine own_go (W1 := T33.setTop (mkF m 73 #[.val (.int w0), .val (.int w1), .val (.int w2), .val (.int w3), .val (.int len), .val (.int sel), .val (.int (4 : Int32)), .val (.ref u), .val (.ref b), .unset] [(.int (4 : Int32))])) (al34) ?_
    refine own_go (W1 := T33.setTop (mkF m 75 #[.val (.int w0), .val (.int w1), .val (.int w2), .val (.int w3), .val (.int len), .val (.int sel), .val (.int (4 : Int32)), .val (.ref u), .val (.ref b), .unset] [(.int (4 : Int32)), (.int (4 : Int32))])) (fun t k => XS.iload X33.here hx rfl (hb hby at_73) rfl  k) ?_
    refine own_go (W1 := T33.setTop (mkF m 80 #[.val (.int w0), .val (.int w1), .val (.int w2), .val (.int w3), .val (.int len), .val (.int sel), .val (.int (4 : Int32)), .val (.ref u), .val (.ref b), .unset] [])) (fun t k => XS.icmpYes X33.here hx rfl (pc0 := 75) (pc' := 80) rfl (hb hby at_75) rfl (teq (show (4 : Int32) = (4 : Int32) from (by decide))).1 (by decide) (by decide) k) ?_
    refine own_go (W1 := T33.setTop (mkF m 82 #[.val (.int w0), .val (.int w1), .val (.int w2), .val (.int w3), .val (.int len), .val (.int sel), .val (.int (4 : Int32)), .val (.ref u), .val (.ref b), .unset] [(.ref u)])) (fun t k => XS.aload X33.here hx rfl (hb hby at_80) rfl rfl  k) ?_
    refine own_go (W1 := T33.setTop (mkF m 83 #[.val (.int w0), .val (.int w1), .val (.int w2), .val (.int w3), .val (.int len), .val (.int sel), .val (.int (4 : Int32)), .val (.ref u), .val (.ref b), .unset] [(.int (0 : Int32)), (.ref u)])) (fun t k => XS.iconst X33.here hx rfl (hb hby at_82) k) ?_
    obtain ⟨cl35, Ar35, q35, S35, M35, H35, G35⟩ := id V_u
    have hin35 : ¬ ((0 : Int32) < 0 ∨ cl35.slots.size ≤ ((0 : Int32)).toNatClampNeg) := inb_of S35 ⟨by decide, by decide⟩
    have hat35 : cl35.slots[((0 : Int32)).toNatClampNeg]? = some (.int w0) := Has.at H35 hin35 rfl
    refine own_go (W1 := T33.setTop (mkF m 84 #[.val (.int w0), .val (.int w1), .val (.int w2), .val (.int w3), .val (.int len), .val (.int sel), .val (.int (4 : Int32)), .val (.ref u), .val (.ref b), .unset] [(.int w0)])) (X33.iaload hx (j := (0 : Int32)) (v := (.int w0)) (by rw [(rfl : T33.heap = T33.heap)]; exact Ar35.1) (State.isArrayOf_alike hZ.alike Ar35.2.1) Ar35.2.2 hin35 hat35 (g := (mkF m 83 #[.val (.int w0), .val (.int w1), .val (.int w2), .val (.int w3), .val (.int len), .val (.int sel), .val (.int (4 : Int32)), .val (.ref u), .val (.ref b), .unset] [(.int (0 : Int32)), (.ref u)])) rfl rfl (hb hby at_83)) ?_
    refine own_go (W1 := T33.setTop (mkF m 85 #[.val (.int w0), .val (.int w1), .val (.int w2), .val (.int w3), .val (.int len), .val (.int sel), .val (.int (4 : Int32)), .val (.ref u), .val (.ref b), .unset] [(.int w0), (.int w0)])) (fun t k => XS.iloadN X33.here hx rfl (hb hby at_84) rfl  k) ?_
    refine own_go (W1 := T33.setTop (mkF m 90 #[.val (.int w0), .val (.int w1), .val (.int w2), .val (.int w3), .val (.int len), .val (.int sel), .val (.int (4 : Int32)), .val (.ref u), .val (.ref b), .unset] [])) (fun t k => XS.icmpYes X33.here hx rfl (pc0 := 85) (pc' := 90) rfl (hb hby at_85) rfl (teq (show w0 = w0 from rfl)).1 (by decide) (by decide) k) ?_
    refine own_go (W1 := T33.setTop (mkF m 92 #[.val (.int w0), .val (.int w1), .val (.int w2), .val (.int w3), .val (.int len), .val (.int sel), .val (.int (4 : Int32)), .val (.ref u), .val (.ref b), .unset] [(.int (4 : Int32))])) (fun t k => XS.iload X33.here hx rfl (hb hby at_90) rfl  k) ?_
    refine own_go (W1 := T33.setTop (mkF m 93 #[.val (.int w0), .val (.int w1), .val (.int w2), .val (.int w3), .val (.int len), .val (.int sel), .val (.int (4 : Int32)), .val (.ref u), .val (.ref b), .unset] [(.int (1 : Int32)), (.int (4 : Int32))])) (fun t k => XS.iconst X33.here hx rfl (hb hby at_92) k) ?_
    refine own_go (W1 := T33.setTop (mkF m 96 #[.val (.int w0), .val (.int w1), .val (.int w2), .val (.int w3), .val (.int len), .val (.int sel), .val (.int (4 : Int32)), .val (.ref u), .val (.ref b), .unset] [])) (fun t k => XS.icmpNo X33.here hx rfl (hb hby at_93) rfl (tlt (show (1 : Int32) < (4 : Int32) from (by decide))).2.2.2 k) ?_
    refine own_go (W1 := T33.setTop (mkF m 98 #[.val (.int w0), .val (.int w1), .val (.int w2), .val (.int w3), .val (.int len), .val (.int sel), .val (.int (4 : Int32)), .val (.ref u), .val (.ref b), .unset] [(.ref u)])) (fun t k => XS.aload X33.here hx rfl (hb hby at_96) rfl rfl  k) ?_
    refine own_go (W1 := T33.setTop (mkF m 99 #[.val (.int w0), .val (.int w1), .val (.int w2), .val (.int w3), .val (.int len), .val (.int sel), .val (.int (4 : Int32)), .val (.ref u), .val (.ref b), .unset] [(.int (1 : Int32)), (.ref u)])) (fun t k => XS.iconst X33.here hx rfl (hb hby at_98) k) ?_
    obtain ⟨cl36, Ar36, q36, S36, M36, H36, G36⟩ := id V_u
    have hin36 : ¬ ((1 : Int32) < 0 ∨ cl36.slots.size ≤ ((1 : Int32)).toNatClampNeg) := inb_of S36 ⟨by decide, by decide⟩
    have hat36 : cl36.slots[((1 : Int32)).toNatClampNeg]? = some (.int w1) := Has.at H36 hin36 rfl
    refine own_go (W1 := T33.setTop (mkF m 100 #[.val (.int w0), .val (.int w1), .val (.int w2), .val (.int w3), .val (.int len), .val (.int sel), .val (.int (4 : Int32)), .val (.ref u), .val (.ref b), .unset] [(.int w1)])) (X33.iaload hx (j := (1 : Int32)) (v := (.int w1)) (by rw [(rfl : T33.heap = T33.heap)]; exact Ar36.1) (State.isArrayOf_alike hZ.alike Ar36.2.1) Ar36.2.2 hin36 hat36 (g := (mkF m 99 #[.val (.int w0), .val (.int w1), .val (.int w2), .val (.int w3), .val (.int len), .val (.int sel), .val (.int (4 : Int32)), .val (.ref u), .val (.ref b), .unset] [(.int (1 : Int32)), (.ref u)])) rfl rfl (hb hby at_99)) ?_
    refine own_go (W1 := T33.setTop (mkF m 101 #[.val (.int w0), .val (.int w1), .val (.int w2), .val (.int w3), .val (.int len), .val (.int sel), .val (.int (4 : Int32)), .val (.ref u), .val (.ref b), .unset] [(.int w1), (.int w1)])) (fun t k => XS.iloadN X33.here hx rfl (hb hby at_100) rfl  k) ?_
    refine own_go (W1 := T33.setTop (mkF m 106 #[.val (.int w0), .val (.int w1), .val (.int w2), .val (.int w3), .val (.int len), .val (.int sel), .val (.int (4 : Int32)), .val (.ref u), .val (.ref b), .unset] [])) (fun t k => XS.icmpYes X33.here hx rfl (pc0 := 101) (pc' := 106) rfl (hb hby at_101) rfl (teq (show w1 = w1 from rfl)).1 (by decide) (by decide) k) ?_
    refine own_go (W1 := T33.setTop (mkF m 108 #[.val (.int w0), .val (.int w1), .val (.int w2), .val (.int w3), .val (.int len), .val (.int sel), .val (.int (4 : Int32)), .val (.ref u), .val (.ref b), .unset] [(.int (4 : Int32))])) (fun t k => XS.iload X33.here hx rfl (hb hby at_106) rfl  k) ?_
    refine own_go (W1 := T33.setTop (mkF m 109 #[.val (.int w0), .val (.int w1), .val (.int w2), .val (.int w3), .val (.int len), .val (.int sel), .val (.int (4 : Int32)), .val (.ref u), .val (.ref b), .unset] [(.int (2 : Int32)), (.int (4 : Int32))])) (fun t k => XS.iconst X33.here hx rfl (hb hby at_108) k) ?_
    refine own_go (W1 := T33.setTop (mkF m 112 #[.val (.int w0), .val (.int w1), .val (.int w2), .val (.int w3), .val (.int len), .val (.int sel), .val (.int (4 : Int32)), .val (.ref u), .val (.ref b), .unset] [])) (fun t k => XS.icmpNo X33.here hx rfl (hb hby at_109) rfl (tlt (show (2 : Int32) < (4 : Int32) from (by decide))).2.2.2 k) ?_
    refine own_go (W1 := T33.setTop (mkF m 114 #[.val (.int w0), .val (.int w1), .val (.int w2), .val (.int w3), .val (.int len), .val (.int sel), .val (.int (4 : Int32)), .val (.ref u), .val (.ref b), .unset] [(.ref u)])) (fun t k => XS.aload X33.here hx rfl (hb hby at_112) rfl rfl  k) ?_
    refine own_go (W1 := T33.setTop (mkF m 115 #[.val (.int w0), .val (.int w1), .val (.int w2), .val (.int w3), .val (.int len), .val (.int sel), .val (.int (4 : Int32)), .val (.ref u), .val (.ref b), .unset] [(.int (2 : Int32)), (.ref u)])) (fun t k => XS.iconst X33.here hx rfl (hb hby at_114) k) ?_
    obtain ⟨cl37, Ar37, q37, S37, M37, H37, G37⟩ := id V_u
    have hin37 : ¬ ((2 : Int32) < 0 ∨ cl37.slots.size ≤ ((2 : Int32)).toNatClampNeg) := inb_of S37 ⟨by decide, by decide⟩
    have hat37 : cl37.slots[((2 : Int32)).toNatClampNeg]? = some (.int w2) := Has.at H37 hin37 rfl
    refine own_go (W1 := T33.setTop (mkF m 116 #[.val (.int w0), .val (.int w1), .val (.int w2), .val (.int w3), .val (.int len), .val (.int sel), .val (.int (4 : Int32)), .val (.ref u), .val (.ref b), .unset] [(.int w2)])) (X33.iaload hx (j := (2 : Int32)) (v := (.int w2)) (by rw [(rfl : T33.heap = T33.heap)]; exact Ar37.1) (State.isArrayOf_alike hZ.alike Ar37.2.1) Ar37.2.2 hin37 hat37 (g := (mkF m 115 #[.val (.int w0), .val (.int w1), .val (.int w2), .val (.int w3), .val (.int len), .val (.int sel), .val (.int (4 : Int32)), .val (.ref u), .val (.ref b), .unset] [(.int (2 : Int32)), (.ref u)])) rfl rfl (hb hby at_115)) ?_
    refine own_go (W1 := T33.setTop (mkF m 117 #[.val (.int w0), .val (.int w1), .val (.int w2), .val (.int w3), .val (.int len), .val (.int sel), .val (.int (4 : Int32)), .val (.ref u), .val (.ref b), .unset] [(.int w2), (.int w2)])) (fun t k => XS.iloadN X33.here hx rfl (hb hby at_116) rfl  k) ?_
    refine own_go (W1 := T33.setTop (mkF m 122 #[.val (.int w0), .val (.int w1), .val (.int w2), .val (.int w3), .val (.int len), .val (.int sel), .val (.int (4 : Int32)), .val (.ref u), .val (.ref b), .unset] [])) (fun t k => XS.icmpYes X33.here hx rfl (pc0 := 117) (pc' := 122) rfl (hb hby at_117) rfl (teq (show w2 = w2 from rfl)).1 (by decide) (by decide) k) ?_
    refine own_go (W1 := T33.setTop (mkF m 124 #[.val (.int w0), .val (.int w1), .val (.int w2), .val (.int w3), .val (.int len), .val (.int sel), .val (.int (4 : Int32)), .val (.ref u), .val (.ref b), .unset] [(.int (4 : Int32))])) (fun t k => XS.iload X33.here hx rfl (hb hby at_122) rfl  k) ?_
    refine own_go (W1 := T33.setTop (mkF m 125 #[.val (.int w0), .val (.int w1), .val (.int w2), .val (.int w3), .val (.int len), .val (.int sel), .val (.int (4 : Int32)), .val (.ref u), .val (.ref b), .unset] [(.int (3 : Int32)), (.int (4 : Int32))])) (fun t k => XS.iconst X33.here hx rfl (hb hby at_124) k) ?_
    refine own_go (W1 := T33.setTop (mkF m 128 #[.val (.int w0), .val (.int w1), .val (.int w2), .val (.int w3), .val (.int len), .val (.int sel), .val (.int (4 : Int32)), .val (.ref u), .val (.ref b), .unset] [])) (fun t k => XS.icmpNo X33.here hx rfl (hb hby at_125) rfl (tlt (show (3 : Int32) < (4 : Int32) from (by decide))).2.2.2 k) ?_
    refine own_go (W1 := T33.setTop (mkF m 130 #[.val (.int w0), .val (.int w1), .val (.int w2), .val (.int w3), .val (.int len), .val (.int sel), .val (.int (4 : Int32)), .val (.ref u), .val (.ref b), .unset] [(.ref u)])) (fun t k => XS.aload X33.here hx rfl (hb hby at_128) rfl rfl  k) ?_
    refine own_go (W1 := T33.setTop (mkF m 131 #[.val (.int w0), .val (.int w1), .val (.int w2), .val (.int w3), .val (.int len), .val (.int sel), .val (.int (4 : Int32)), .val (.ref u), .val (.ref b), .unset] [(.int (3 : Int32)), (.ref u)])) (fun t k => XS.iconst X33.here hx rfl (hb hby at_130) k) ?_
    obtain ⟨cl38, Ar38, q38, S38, M38, H38, G38⟩ := id V_u
    have hin38 : ¬ ((3 : Int32) < 0 ∨ cl38.slots.size ≤ ((3 : Int32)).toNatClampNeg) := inb_of S38 ⟨by decide, by decide⟩
    have hat38 : cl38.slots[((3 : Int32)).toNatClampNeg]? = some (.int w3) := Has.at H38 hin38 rfl
    refine own_go (W1 := T33.setTop (mkF m 132 #[.val (.int w0), .val (.int w1), .val (.int w2), .val (.int w3), .val (.int len), .val (.int sel), .val (.int (4 : Int32)), .val (.ref u), .val (.ref b), .unset] [(.int w3)])) (X33.iaload hx (j := (3 : Int32)) (v := (.int w3)) (by rw [(rfl : T33.heap = T33.heap)]; exact Ar38.1) (State.isArrayOf_alike hZ.alike Ar38.2.1) Ar38.2.2 hin38 hat38 (g := (mkF m 131 #[.val (.int w0), .val (.int w1), .val (.int w2), .val (.int w3), .val (.int len), .val (.int sel), .val (.int (4 : Int32)), .val (.ref u), .val (.ref b), .unset] [(.int (3 : Int32)), (.ref u)])) rfl rfl (hb hby at_131)) ?_
    refine own_go (W1 := T33.setTop (mkF m 133 #[.val (.int w0), .val (.int w1), .val (.int w2), .val (.int w3), .val (.int len), .val (.int sel), .val (.int (4 : Int32)), .val (.ref u), .val (.ref b), .unset] [(.int w3), (.int w3)])) (fun t k => XS.iloadN X33.here hx rfl (hb hby at_132) rfl  k) ?_
    refine own_go (W1 := T33.setTop (mkF m 138 #[.val (.int w0), .val (.int w1), .val (.int w2), .val (.int w3), .val (.int len), .val (.int sel), .val (.int (4 : Int32)), .val (.ref u), .val (.ref b), .unset] [])) (fun t k => XS.icmpYes X33.here hx rfl (pc0 := 133) (pc' := 138) rfl (hb hby at_133) rfl (teq (show w3 = w3 from rfl)).1 (by decide) (by decide) k) ?_
    refine own_go (W1 := T33.setTop (mkF m 140 #[.val (.int w0), .val (.int w1), .val (.int w2), .val (.int w3), .val (.int len), .val (.int sel), .val (.int (4 : Int32)), .val (.ref u), .val (.ref b), .unset] [(.int len)])) (fun t k => XS.iload X33.here hx rfl (hb hby at_138) rfl  k) ?_
    refine own_go (W1 := T33.setTop (mkF m 142 #[.val (.int w0), .val (.int w1), .val (.int w2), .val (.int w3), .val (.int len), .val (.int sel), .val (.int (4 : Int32)), .val (.ref u), .val (.ref b), .unset] [(.int (10 : Int32)), (.int len)])) (fun t k => XS.bipush X33.here hx rfl (hb hby at_140) k) ?_
    refine own_go (W1 := T33.setTop (mkF m 143 #[.val (.int w0), .val (.int w1), .val (.int w2), .val (.int w3), .val (.int len), .val (.int sel), .val (.int (4 : Int32)), .val (.ref u), .val (.ref b), .unset] [(.int (len * (10 : Int32)))])) (fun t k => XS.imul X33.here hx rfl (hb hby at_142) rfl k) ?_
    refine own_go (W1 := T33.setTop (mkF m 145 #[.val (.int w0), .val (.int w1), .val (.int w2), .val (.int w3), .val (.int len), .val (.int sel), .val (.int (4 : Int32)), .val (.ref u), .val (.ref b), .val (.int (len * (10 : Int32)))] [])) (fun t k => XS.istore X33.here hx rfl (hb hby at_143) rfl (l' := #[.val (.int w0), .val (.int w1), .val (.int w2), .val (.int w3), .val (.int len), .val (.int sel), .val (.int (4 : Int32)), .val (.ref u), .val (.ref b), .val (.int (len * (10 : Int32)))]) rfl k) ?_
    refine own_go (W1 := T33.setTop (mkF m 147 #[.val (.int w0), .val (.int w1), .val (.int w2), .val (.int w3), .val (.int len), .val (.int sel), .val (.int (4 : Int32)), .val (.ref u), .val (.ref b), .val (.int (len * (10 : Int32)))] [(.int (4 : Int32))])) (fun t k => XS.iload X33.here hx rfl (hb hby at_145) rfl  k) ?_
    refine own_go (W1 := T33.setTop (mkF m 148 #[.val (.int w0), .val (.int w1), .val (.int w2), .val (.int w3), .val (.int len), .val (.int sel), .val (.int (4 : Int32)), .val (.ref u), .val (.ref b), .val (.int (len * (10 : Int32)))] [(.int (1 : Int32)), (.int (4 : Int32))])) (fun t k => XS.iconst X33.here hx rfl (hb hby at_147) k) ?_
    refine own_go (W1 := T33.setTop (mkF m 171 #[.val (.int w0), .val (.int w1), .val (.int w2), .val (.int w3), .val (.int len), .val (.int sel), .val (.int (4 : Int32)), .val (.ref u), .val (.ref b), .val (.int (len * (10 : Int32)))] [])) (fun t k => XS.icmpYes X33.here hx rfl (pc0 := 148) (pc' := 171) rfl (hb hby at_148) rfl (feq (show ¬ ((4 : Int32) = (1 : Int32)) from (by decide))).2 (by decide) (by decide) k) ?_
    refine own_go (W1 := T33.setTop (mkF m 173 #[.val (.int w0), .val (.int w1), .val (.int w2), .val (.int w3), .val (.int len), .val (.int sel), .val (.int (4 : Int32)), .val (.ref u), .val (.ref b), .val (.int (len * (10 : Int32)))] [(.ref b)])) (fun t k => XS.aload X33.here hx rfl (hb hby at_171) rfl rfl  k) ?_
    refine own_go (W1 := T33.setTop (mkF m 174 #[.val (.int w0), .val (.int w1), .val (.int w2), .val (.int w3), .val (.int len), .val (.int sel), .val (.int (4 : Int32)), .val (.ref u), .val (.ref b), .val (.int (len * (10 : Int32)))] [(.int (0 : Int32)), (.ref b)])) (fun t k => XS.iconst X33.here hx rfl (hb hby at_173) k) ?_
    obtain ⟨cl39, Ar39, q39, S39, M39, H39, G39⟩ := id V_b
    have hin39 : ¬ ((0 : Int32) < 0 ∨ cl39.slots.size ≤ ((0 : Int32)).toNatClampNeg) := inb_of S39 ⟨by decide, by decide⟩
    have hat39 : cl39.slots[((0 : Int32)).toNatClampNeg]? = some (.int (w0 + (len * (10 : Int32)))) := Has.at H39 hin39 rfl
    refine own_go (W1 := T33.setTop (mkF m 175 #[.val (.int w0), .val (.int w1), .val (.int w2), .val (.int w3), .val (.int len), .val (.int sel), .val (.int (4 : Int32)), .val (.ref u), .val (.ref b), .val (.int (len * (10 : Int32)))] [(.int (w0 + (len * (10 : Int32))))])) (X33.iaload hx (j := (0 : Int32)) (v := (.int (w0 + (len * (10 : Int32))))) (by rw [(rfl : T33.heap = T33.heap)]; exact Ar39.1) (State.isArrayOf_alike hZ.alike Ar39.2.1) Ar39.2.2 hin39 hat39 (g := (mkF m 174 #[.val (.int w0), .val (.int w1), .val (.int w2), .val (.int w3), .val (.int len), .val (.int sel), .val (.int (4 : Int32)), .val (.ref u), .val (.ref b), .val (.int (len * (10 : Int32)))] [(.int (0 : Int32)), (.ref b)])) rfl rfl (hb hby at_174)) ?_
    refine own_go (W1 := T33.setTop (mkF m 176 #[.val (.int w0), .val (.int w1), .val (.int w2), .val (.int w3), .val (.int len), .val (.int sel), .val (.int (4 : Int32)), .val (.ref u), .val (.ref b), .val (.int (len * (10 : Int32)))] [(.int w0), (.int (w0 + (len * (10 : Int32))))])) (fun t k => XS.iloadN X33.here hx rfl (hb hby at_175) rfl  k) ?_
    refine own_go (W1 := T33.setTop (mkF m 178 #[.val (.int w0), .val (.int w1), .val (.int w2), .val (.int w3), .val (.int len), .val (.int sel), .val (.int (4 : Int32)), .val (.ref u), .val (.ref b), .val (.int (len * (10 : Int32)))] [(.int (len * (10 : Int32))), (.int w0), (.int (w0 + (len * (10 : Int32))))])) (fun t k => XS.iload X33.here hx rfl (hb hby at_176) rfl  k) ?_
    refine own_go (W1 := T33.setTop (mkF m 179 #[.val (.int w0), .val (.int w1), .val (.int w2), .val (.int w3), .val (.int len), .val (.int sel), .val (.int (4 : Int32)), .val (.ref u), .val (.ref b), .val (.int (len * (10 : Int32)))] [(.int (w0 + (len * (10 : Int32)))), (.int (w0 + (len * (10 : Int32))))])) (fun t k => XS.iadd X33.here hx rfl (hb hby at_178) rfl k) ?_
    refine own_go (W1 := T33.setTop (mkF m 184 #[.val (.int w0), .val (.int w1), .val (.int w2), .val (.int w3), .val (.int len), .val (.int sel), .val (.int (4 : Int32)), .val (.ref u), .val (.ref b), .val (.int (len * (10 : Int32)))] [])) (fun t k => XS.icmpYes X33.here hx rfl (pc0 := 179) (pc' := 184) rfl (hb hby at_179) rfl (teq (show (w0 + (len * (10 : Int32))) = (w0 + (len * (10 : Int32))) from rfl)).1 (by decide) (by decide) k) ?_
    refine own_go (W1 := T33.setTop (mkF m 186 #[.val (.int w0), .val (.int w1), .val (.int w2), .val (.int w3), .val (.int len), .val (.int sel), .val (.int (4 : Int32)), .val (.ref u), .val (.ref b), .val (.int (len * (10 : Int32)))] [(.int (4 : Int32))])) (fun t k => XS.iload X33.here hx rfl (hb hby at_184) rfl  k) ?_
    refine own_go (W1 := T33.setTop (mkF m 187 #[.val (.int w0), .val (.int w1), .val (.int w2), .val (.int w3), .val (.int len), .val (.int sel), .val (.int (4 : Int32)), .val (.ref u), .val (.ref b), .val (.int (len * (10 : Int32)))] [(.int (2 : Int32)), (.int (4 : Int32))])) (fun t k => XS.iconst X33.here hx rfl (hb hby at_186) k) ?_
    refine own_go (W1 := T33.setTop (mkF m 207 #[.val (.int w0), .val (.int w1), .val (.int w2), .val (.int w3), .val (.int len), .val (.int sel), .val (.int (4 : Int32)), .val (.ref u), .val (.ref b), .val (.int (len * (10 : Int32)))] [])) (fun t k => XS.icmpYes X33.here hx rfl (pc0 := 187) (pc' := 207) rfl (hb hby at_187) rfl (feq (show ¬ ((4 : Int32) = (2 : Int32)) from (by decide))).2 (by decide) (by decide) k) ?_
    refine own_go (W1 := T33.setTop (mkF m 209 #[.val (.int w0), .val (.int w1), .val (.int w2), .val (.int w3), .val (.int len), .val (.int sel), .val (.int (4 : Int32)), .val (.ref u), .val (.ref b), .val (.int (len * (10 : Int32)))] [(.ref b)])) (fun t k => XS.aload X33.here hx rfl (hb hby at_207) rfl rfl  k) ?_
    refine own_go (W1 := T33.setTop (mkF m 210 #[.val (.int w0), .val (.int w1), .val (.int w2), .val (.int w3), .val (.int len), .val (.int sel), .val (.int (4 : Int32)), .val (.ref u), .val (.ref b), .val (.int (len * (10 : Int32)))] [(.int (1 : Int32)), (.ref b)])) (fun t k => XS.iconst X33.here hx rfl (hb hby at_209) k) ?_
    obtain ⟨cl40, Ar40, q40, S40, M40, H40, G40⟩ := id V_b
    have hin40 : ¬ ((1 : Int32) < 0 ∨ cl40.slots.size ≤ ((1 : Int32)).toNatClampNeg) := inb_of S40 ⟨by decide, by decide⟩
    have hat40 : cl40.slots[((1 : Int32)).toNatClampNeg]? = some (.int w1) := Has.at H40 hin40 rfl
    refine own_go (W1 := T33.setTop (mkF m 211 #[.val (.int w0), .val (.int w1), .val (.int w2), .val (.int w3), .val (.int len), .val (.int sel), .val (.int (4 : Int32)), .val (.ref u), .val (.ref b), .val (.int (len * (10 : Int32)))] [(.int w1)])) (X33.iaload hx (j := (1 : Int32)) (v := (.int w1)) (by rw [(rfl : T33.heap = T33.heap)]; exact Ar40.1) (State.isArrayOf_alike hZ.alike Ar40.2.1) Ar40.2.2 hin40 hat40 (g := (mkF m 210 #[.val (.int w0), .val (.int w1), .val (.int w2), .val (.int w3), .val (.int len), .val (.int sel), .val (.int (4 : Int32)), .val (.ref u), .val (.ref b), .val (.int (len * (10 : Int32)))] [(.int (1 : Int32)), (.ref b)])) rfl rfl (hb hby at_210)) ?_
    refine own_go (W1 := T33.setTop (mkF m 212 #[.val (.int w0), .val (.int w1), .val (.int w2), .val (.int w3), .val (.int len), .val (.int sel), .val (.int (4 : Int32)), .val (.ref u), .val (.ref b), .val (.int (len * (10 : Int32)))] [(.int w1), (.int w1)])) (fun t k => XS.iloadN X33.here hx rfl (hb hby at_211) rfl  k) ?_
    refine own_go (W1 := T33.setTop (mkF m 217 #[.val (.int w0), .val (.int w1), .val (.int w2), .val (.int w3), .val (.int len), .val (.int sel), .val (.int (4 : Int32)), .val (.ref u), .val (.ref b), .val (.int (len * (10 : Int32)))] [])) (fun t k => XS.icmpYes X33.here hx rfl (pc0 := 212) (pc' := 217) rfl (hb hby at_212) rfl (teq (show w1 = w1 from rfl)).1 (by decide) (by decide) k) ?_
    refine own_go (W1 := T33.setTop (mkF m 219 #[.val (.int w0), .val (.int w1), .val (.int w2), .val (.int w3), .val (.int len), .val (.int sel), .val (.int (4 : Int32)), .val (.ref u), .val (.ref b), .val (.int (len * (10 : Int32)))] [(.int (4 : Int32))])) (fun t k => XS.iload X33.here hx rfl (hb hby at_217) rfl  k) ?_
    refine own_go (W1 := T33.setTop (mkF m 220 #[.val (.int w0), .val (.int w1), .val (.int w2), .val (.int w3), .val (.int len), .val (.int sel), .val (.int (4 : Int32)), .val (.ref u), .val (.ref b), .val (.int (len * (10 : Int32)))] [(.int (3 : Int32)), (.int (4 : Int32))])) (fun t k => XS.iconst X33.here hx rfl (hb hby at_219) k) ?_
    refine own_go (W1 := T33.setTop (mkF m 240 #[.val (.int w0), .val (.int w1), .val (.int w2), .val (.int w3), .val (.int len), .val (.int sel), .val (.int (4 : Int32)), .val (.ref u), .val (.ref b), .val (.int (len * (10 : Int32)))] [])) (fun t k => XS.icmpYes X33.here hx rfl (pc0 := 220) (pc' := 240) rfl (hb hby at_220) rfl (feq (show ¬ ((4 : Int32) = (3 : Int32)) from (by decide))).2 (by decide) (by decide) k) ?_
    refine own_go (W1 := T33.setTop (mkF m 242 #[.val (.int w0), .val (.int w1), .val (.int w2), .val (.int w3), .val (.int len), .val (.int sel), .val (.int (4 : Int32)), .val (.ref u), .val (.ref b), .val (.int (len * (10 : Int32)))] [(.ref b)])) (fun t k => XS.aload X33.here hx rfl (hb hby at_240) rfl rfl  k) ?_
    refine own_go (W1 := T33.setTop (mkF m 243 #[.val (.int w0), .val (.int w1), .val (.int w2), .val (.int w3), .val (.int len), .val (.int sel), .val (.int (4 : Int32)), .val (.ref u), .val (.ref b), .val (.int (len * (10 : Int32)))] [(.int (2 : Int32)), (.ref b)])) (fun t k => XS.iconst X33.here hx rfl (hb hby at_242) k) ?_
    obtain ⟨cl41, Ar41, q41, S41, M41, H41, G41⟩ := id V_b
    have hin41 : ¬ ((2 : Int32) < 0 ∨ cl41.slots.size ≤ ((2 : Int32)).toNatClampNeg) := inb_of S41 ⟨by decide, by decide⟩
    have hat41 : cl41.slots[((2 : Int32)).toNatClampNeg]? = some (.int w2) := Has.at H41 hin41 rfl
    refine own_go (W1 := T33.setTop (mkF m 244 #[.val (.int w0), .val (.int w1), .val (.int w2), .val (.int w3), .val (.int len), .val (.int sel), .val (.int (4 : Int32)), .val (.ref u), .val (.ref b), .val (.int (len * (10 : Int32)))] [(.int w2)])) (X33.iaload hx (j := (2 : Int32)) (v := (.int w2)) (by rw [(rfl : T33.heap = T33.heap)]; exact Ar41.1) (State.isArrayOf_alike hZ.alike Ar41.2.1) Ar41.2.2 hin41 hat41 (g := (mkF m 243 #[.val (.int w0), .val (.int w1), .val (.int w2), .val (.int w3), .val (.int len), .val (.int sel), .val (.int (4 : Int32)), .val (.ref u), .val (.ref b), .val (.int (len * (10 : Int32)))] [(.int (2 : Int32)), (.ref b)])) rfl rfl (hb hby at_243)) ?_
    refine own_go (W1 := T33.setTop (mkF m 245 #[.val (.int w0), .val (.int w1), .val (.int w2), .val (.int w3), .val (.int len), .val (.int sel), .val (.int (4 : Int32)), .val (.ref u), .val (.ref b), .val (.int (len * (10 : Int32)))] [(.int w2), (.int w2)])) (fun t k => XS.iloadN X33.here hx rfl (hb hby at_244) rfl  k) ?_
    refine own_go (W1 := T33.setTop (mkF m 250 #[.val (.int w0), .val (.int w1), .val (.int w2), .val (.int w3), .val (.int len), .val (.int sel), .val (.int (4 : Int32)), .val (.ref u), .val (.ref b), .val (.int (len * (10 : Int32)))] [])) (fun t k => XS.icmpYes X33.here hx rfl (pc0 := 245) (pc' := 250) rfl (hb hby at_245) rfl (teq (show w2 = w2 from rfl)).1 (by decide) (by decide) k) ?_
    refine own_go (W1 := T33.setTop (mkF m 252 #[.val (.int w0), .val (.int w1), .val (.int w2), .val (.int w3), .val (.int len), .val (.int sel), .val (.int (4 : Int32)), .val (.ref u), .val (.ref b), .val (.int (len * (10 : Int32)))] [(.ref b)])) (fun t k => XS.aload X33.here hx rfl (hb hby at_250) rfl rfl  k) ?_
    refine own_go (W1 := T33.setTop (mkF m 253 #[.val (.int w0), .val (.int w1), .val (.int w2), .val (.int w3), .val (.int len), .val (.int sel), .val (.int (4 : Int32)), .val (.ref u), .val (.ref b), .val (.int (len * (10 : Int32)))] [(.int (3 : Int32)), (.ref b)])) (fun t k => XS.iconst X33.here hx rfl (hb hby at_252) k) ?_
    obtain ⟨cl42, Ar42, q42, S42, M42, H42, G42⟩ := id V_b
    have hin42 : ¬ ((3 : Int32) < 0 ∨ cl42.slots.size ≤ ((3 : Int32)).toNatClampNeg) := inb_of S42 ⟨by decide, by decide⟩
    have hat42 : cl42.slots[((3 : Int32)).toNatClampNeg]? = some (.int (w3 + (len * (10 : Int32)))) := Has.at H42 hin42 rfl
    refine own_go (W1 := T33.setTop (mkF m 254 #[.val (.int w0), .val (.int w1), .val (.int w2), .val (.int w3), .val (.int len), .val (.int sel), .val (.int (4 : Int32)), .val (.ref u), .val (.ref b), .val (.int (len * (10 : Int32)))] [(.int (w3 + (len * (10 : Int32))))])) (X33.iaload hx (j := (3 : Int32)) (v := (.int (w3 + (len * (10 : Int32))))) (by rw [(rfl : T33.heap = T33.heap)]; exact Ar42.1) (State.isArrayOf_alike hZ.alike Ar42.2.1) Ar42.2.2 hin42 hat42 (g := (mkF m 253 #[.val (.int w0), .val (.int w1), .val (.int w2), .val (.int w3), .val (.int len), .val (.int sel), .val (.int (4 : Int32)), .val (.ref u), .val (.ref b), .val (.int (len * (10 : Int32)))] [(.int (3 : Int32)), (.ref b)])) rfl rfl (hb hby at_253)) ?_
    refine own_go (W1 := T33.setTop (mkF m 255 #[.val (.int w0), .val (.int w1), .val (.int w2), .val (.int w3), .val (.int len), .val (.int sel), .val (.int (4 : Int32)), .val (.ref u), .val (.ref b), .val (.int (len * (10 : Int32)))] [(.int w3), (.int (w3 + (len * (10 : Int32))))])) (fun t k => XS.iloadN X33.here hx rfl (hb hby at_254) rfl  k) ?_
    refine own_go (W1 := T33.setTop (mkF m 257 #[.val (.int w0), .val (.int w1), .val (.int w2), .val (.int w3), .val (.int len), .val (.int sel), .val (.int (4 : Int32)), .val (.ref u), .val (.ref b), .val (.int (len * (10 : Int32)))] [(.int (len * (10 : Int32))), (.int w3), (.int (w3 + (len * (10 : Int32))))])) (fun t k => XS.iload X33.here hx rfl (hb hby at_255) rfl  k) ?_
    refine own_go (W1 := T33.setTop (mkF m 258 #[.val (.int w0), .val (.int w1), .val (.int w2), .val (.int w3), .val (.int len), .val (.int sel), .val (.int (4 : Int32)), .val (.ref u), .val (.ref b), .val (.int (len * (10 : Int32)))] [(.int (w3 + (len * (10 : Int32)))), (.int (w3 + (len * (10 : Int32))))])) (fun t k => XS.iadd X33.here hx rfl (hb hby at_257) rfl k) ?_
    refine own_go (W1 := T33.setTop (mkF m 261 #[.val (.int w0), .val (.int w1), .val (.int w2), .val (.int w3), .val (.int len), .val (.int sel), .val (.int (4 : Int32)), .val (.ref u), .val (.ref b), .val (.int (len * (10 : Int32)))] [])) (fun t k => XS.icmpNo X33.here hx rfl (hb hby at_258) rfl (teq (show (w3 + (len * (10 : Int32))) = (w3 + (len * (10 : Int32))) from rfl)).2 k) ?_
    refine own_go (W1 := T33.setTop (mkF m 262 #[.val (.int w0), .val (.int w1), .val (.int w2), .val (.int w3), .val (.int len), .val (.int sel), .val (.int (4 : Int32)), .val (.ref u), .val (.ref b), .val (.int (len * (10 : Int32)))] [(.int (1 : Int32))])) (fun t k => XS.iconst X33.here hx rfl (hb hby at_261) k) ?_
    refine own_go (W1 := T33.setTop (mkF m 266 #[.val (.int w0), .val (.int w1), .val (.int w2), .val (.int w3), .val (.int len), .val (.int sel), .val (.int (4 : Int32)), .val (.ref u), .val (.ref b), .val (.int (len * (10 : Int32)))] [(.int (1 : Int32))])) (fun t k => XS.goto X33.here hx rfl (pc0 := 262) (pc' := 266) rfl (hb hby at_262) (by decide) (by decide) k) ?_
    exact own_retN X33 hx (t := .boolean) Bd.returns (by simp) (hb hby at_266) hlk (by decide) (by decide) ⟨rfl, N33⟩
set_option maxRecDepth 65536 in
set_option maxHeartbeats 40000000 in
theorem comes_1 {Post : Tables → Env → Array Value → State → Outcome → State → Prop} (hpost : ∀ tb e args s v u, (limb_1_1.after args s (.returned v) u = true ∧ limb_1_2.after args s (.returned v) u = true ∧ True) → FrameEnd s (.returned v) u (Jvm.fieldLocs frame_1_writes args s ++ Jvm.arrayLocs frame_1_arrays args s ++ Jvm.staticLocs frame_1_statics s) 16 128 → Post tb e args s (.returned v) u) :
    ArmFor flags0 classFile x code maxLocals ret World_1 tables_1 room_1 Calls_1 rest_1 Pre_1 Post := by
  intro l hfl _ _ p e ha hc hk s m args below hf hA hF happ hP
  obtain ⟨hcalls, hrest, hpre⟩ := hP
  obtain ⟨-, -, -, hnamed, -, -, -, hat⟩ := (Spec.applies_iff hf).mp happ
  obtain ⟨hg, hn⟩ := and_e (Cond.before_iff.mp (show (Jvm.Cond.and given_1 narrow_1).before args s = true from hpre))
  obtain ⟨gc, hg⟩ := and_e hg
  obtain ⟨ga0, hg⟩ := and_e hg
  obtain ⟨ga1, hg⟩ := and_e hg
  obtain ⟨ga2, hg⟩ := and_e hg
  obtain ⟨ga3, hg⟩ := and_e hg
  obtain ⟨ga4, hg⟩ := and_e hg
  have ga5 := hg
  obtain ⟨w0, w1, w2, w3, w4, w5, rfl⟩ : ∃ w0 w1 w2 w3 w4 w5 : Value, args = #[w0, w1, w2, w3, w4, w5] := by
    have hs : args.size = 6 := by simpa [Cond.value, given_1] using gc
    obtain ⟨L⟩ := args
    match L, hs with
    | [w0, w1, w2, w3, w4, w5], _ => exact ⟨w0, w1, w2, w3, w4, w5, rfl⟩
  have hw := fun d (hd : d ∈ tables_1) => atoms_spec (ws := Jvm.Cond.code x code maxLocals ret :: tables_1) hat d (List.mem_cons_of_mem _ hd)
  have hfit : Fit s := fun {y c} hc i hi => by
    obtain ⟨ha, rfl⟩ := Array.getElem?_eq_some_iff.mp hc
    have q := List.all_eq_true.mp ((Array.all_eq_true_iff_forall_mem.mp hF) _ (Array.getElem_mem ha)) i (List.mem_range.mpr hi)
    simpa [Array.getElem?_eq_getElem hi] using q
  obtain ⟨i0, ei0⟩ := is_v ga0
  obtain rfl : w0 = (.int i0) := Option.some.inj ei0
  obtain ⟨i1, ei1⟩ := is_v ga1
  obtain rfl : w1 = (.int i1) := Option.some.inj ei1
  obtain ⟨i2, ei2⟩ := is_v ga2
  obtain rfl : w2 = (.int i2) := Option.some.inj ei2
  obtain ⟨i3, ei3⟩ := is_v ga3
  obtain rfl : w3 = (.int i3) := Option.some.inj ei3
  obtain ⟨i4, ei4⟩ := is_v ga4
  obtain rfl : w4 = (.int i4) := Option.some.inj ei4
  obtain ⟨i5, ei5⟩ := is_v ga5
  obtain rfl : w5 = (.int i5) := Option.some.inj ei5
  obtain ⟨n, o, h1, h2, h3, _, L, rfl, ⟨rfl, N⟩, hq⟩ := rm0 l s _ hw tables_1 i0 i1 i2 i3 i4 i5 s.heap s.heap.size (Nat.le_refl _)  p e ha hc hk s m _ below hf ((Spec.applies_iff_loose hf).mp happ).1 ⟨rfl, State.Warmed39.refl s, rfl⟩ trivial
  refine ⟨n, _, h1, h2, h3, hpost _ _ _ _ _ _ ⟨Cond.after_iff.mpr rfl, Cond.after_iff.mpr (eq_i res_at (Term.int_eval (1)) rfl), trivial⟩ ⟨hq.1, hq.2.1, (hq.2.2.sift fun y hy => Or.inr (N y hy)).mono (by decide) (by decide)⟩⟩
theorem main_1_1 : Claimed_1_1 := comes_1 fun _ _ _ _ _ _ h hF => ⟨h.1, hF⟩
theorem main_1_2 : Claimed_1_2 := comes_1 fun _ _ _ _ _ _ h hF => ⟨h.2.1, hF⟩
end Jvm.Pilot.@@N@@
namespace Jvm.Pilot.@@N@@
open Jvm Jvm.ClassFile Sem Op Lib Jvm.Free Jvm.Stand Jvm.Pilot.@@N@@.Jvm.D
/-! MADE BY PROGRAM (witnessworld.py) out of the Statement's table words and the real class files: 9 classes; the members and pool entries that the words name. The judged class is class 1, her method 1. -/
namespace start1
open Jvm.ClassFile
def u (s : String) : CpInfo := .utf8 (stringToUtf16 s)
/-- a pool by its gaps: so many unusable entries, then the entry; so many at the end -/
def gap : Nat → List CpInfo → List CpInfo
  | 0, r => r
  | n + 1, r => .unusable :: gap n r
def poolList (es : List (Nat × CpInfo)) (last : Nat) : List CpInfo := es.foldr (fun e r => gap e.1 (e.2 :: r)) (gap last [])
def pool (es : List (Nat × CpInfo)) (last : Nat) : Array CpInfo := ⟨poolList es last⟩
def fileOf (pool : Array CpInfo) (this : Nat) (attrs : Array Attribute := #[]) (ms : Array MethodInfo := #[]) (fl : Nat := 33) (sup : Nat := 0) (ifs : Array Nat := #[]) (fds : Array FieldInfo := #[]) : ClassFile where
  minorVersion := 0
  majorVersion := 65
  constantPool := pool
  accessFlags := fl
  thisClass := this
  superClass := sup
  interfaces := ifs
  fields := fds
  methods := ms
  attributes := attrs
def plain (name : String) (sup : Option ClassId) : Class where
  name := name
  kind := .ordinary
  loader := none
  accessFlags := 33
  super := sup
  interfaces := #[]
  cf := none
  fields := #[]
  methods := #[]
  instanceTypes := #[]
  staticTypes := #[]
  resolved := #[]
  callSites := []
  init := .initialized
  statics := none
  mirror := none

def pool0 : Array CpInfo := pool [(5, u "<init>"), (0, u "()V"), (1, .class_ 10), (1, u "java/lang/Object"), (85, u "clone"), (0, u "()Ljava/lang/Object;")] 26

def k0m0 : Method := { name := "<init>", desc := "()V", sig := { parameters := [], returnType := none }, accessFlags := 1, code := none }
def k0m1 : Method := { name := "clone", desc := "()Ljava/lang/Object;", sig := { parameters := [], returnType := some (.object "java/lang/Object") }, accessFlags := 260, code := none }
/-- java/lang/Object -/
def k0 : Class := { plain "java/lang/Object" none with
  accessFlags := 33
  interfaces := #[]
  cf := some (fileOf pool0 8 #[] #[{ accessFlags := 1, nameIndex := 5, descriptorIndex := 6, attributes := #[] }, { accessFlags := 260, nameIndex := 96, descriptorIndex := 97, attributes := #[] }] 33 0 #[] #[])
  fields := #[]
  methods := #[k0m0, k0m1]
  instanceTypes := #[]
  staticTypes := #[]
  resolved := Array.replicate 124 none
  statics := none }

def pool1 : Array CpInfo := pool [(2, .class_ 4), (1, u "java/lang/Object"), (0, u "<init>"), (0, u "()V"), (0, .methodref 8 9), (0, .class_ 10), (0, .nameAndType 11 12), (0, u "com/example/quietzone/quietzone/read/SymbolReader"), (0, u "throughTheEdges"), (0, u "([II)[I"), (0, .class_ 14), (0, u "com/example/quietzone/quietzone/read/SymbolReaderThroughTheEdgesPinLaw"), (2, u "law"), (0, u "(IIIIII)Z")] 5

def k1m0 : Method := { name := "<init>", desc := "()V", sig := { parameters := [], returnType := none }, accessFlags := 1, code := none }
def k1c1 : Code := { maxStack := 3, maxLocals := 10, code := code, exceptionTable := #[], attributes := #[] }
def k1m1 : Method := { name := "law", desc := "(IIIIII)Z", sig := { parameters := [.int, .int, .int, .int, .int, .int], returnType := some .boolean }, accessFlags := 9, code := some k1c1 }
/-- com/example/quietzone/quietzone/read/SymbolReaderThroughTheEdgesPinLaw -/
def k1 : Class := { plain "com/example/quietzone/quietzone/read/SymbolReaderThroughTheEdgesPinLaw" (some 0) with
  accessFlags := 49
  interfaces := #[]
  cf := some (fileOf pool1 13 #[] #[{ accessFlags := 1, nameIndex := 5, descriptorIndex := 6, attributes := #[] }, { accessFlags := 9, nameIndex := 17, descriptorIndex := 18, attributes := #[] }] 49 2 #[] #[])
  fields := #[]
  methods := #[k1m0, k1m1]
  instanceTypes := #[]
  staticTypes := #[]
  resolved := Array.replicate 24 none
  statics := none }

def pool2 : Array CpInfo := pool [(2, .class_ 4), (1, u "java/lang/Object"), (0, u "<init>"), (0, u "()V"), (0, .class_ 8), (0, u "com/example/quietzone/quietzone/read/SymbolReader"), (16, .class_ 26), (0, u "com/example/quietzone/quietzone/read/SymbolReader$Lines"), (12, .class_ 40), (0, u "com/example/quietzone/quietzone/read/SymbolReader$Weighings"), (47, u "()Ljava/lang/Object;"), (70, u "throughTheEdges"), (0, u "([II)[I"), (32, .class_ 194), (0, u "com/example/quietzone/quietzone/read/SymbolReader$Decoding"), (6, .methodref 202 203), (0, .class_ 204), (0, .nameAndType 205 88), (0, u "[I"), (0, u "clone"), (7, u "DECODERS"), (0, u "[Lcom/example/quietzone/quietzone/symbol/RowDecoder;"), (2, u "LEAST_MODULE"), (2, u "TAKE_THE_EDGE"), (0, u "[Z"), (44, u "MAX_PIXELS"), (0, u "I"), (1, u "FIRST_LINES"), (1, u "FURTHER_READINGS"), (1, u "LAST_LINES")] 33

def k2m0 : Method := { name := "<init>", desc := "()V", sig := { parameters := [], returnType := none }, accessFlags := 2, code := none }
def k2c1 : Code := { maxStack := 5, maxLocals := 3, code := prog_97_method_9_code, exceptionTable := #[], attributes := #[] }
def k2m1 : Method := { name := "throughTheEdges", desc := "([II)[I", sig := { parameters := [(.array .int), .int], returnType := some (.array .int) }, accessFlags := 8, code := some k2c1 }
/-- com/example/quietzone/quietzone/read/SymbolReader -/
def k2 : Class := { plain "com/example/quietzone/quietzone/read/SymbolReader" (some 0) with
  accessFlags := 33
  interfaces := #[]
  cf := some (fileOf pool2 7 #[.nestMembers #[193, 25, 39]] #[{ accessFlags := 2, nameIndex := 5, descriptorIndex := 6, attributes := #[] }, { accessFlags := 8, nameIndex := 159, descriptorIndex := 160, attributes := #[] }] 33 2 #[] #[{ accessFlags := 25, nameIndex := 266, descriptorIndex := 267, attributes := #[] }, { accessFlags := 26, nameIndex := 269, descriptorIndex := 267, attributes := #[] }, { accessFlags := 26, nameIndex := 271, descriptorIndex := 267, attributes := #[] }, { accessFlags := 26, nameIndex := 273, descriptorIndex := 267, attributes := #[] }, { accessFlags := 24, nameIndex := 213, descriptorIndex := 214, attributes := #[] }, { accessFlags := 26, nameIndex := 220, descriptorIndex := 221, attributes := #[] }, { accessFlags := 26, nameIndex := 217, descriptorIndex := 204, attributes := #[] }])
  fields := #[{ name := "MAX_PIXELS", type := .int, accessFlags := 25, slot := 0, constantValue := 0 }, { name := "FIRST_LINES", type := .int, accessFlags := 26, slot := 1, constantValue := 0 }, { name := "FURTHER_READINGS", type := .int, accessFlags := 26, slot := 2, constantValue := 0 }, { name := "LAST_LINES", type := .int, accessFlags := 26, slot := 3, constantValue := 0 }, { name := "DECODERS", type := (.array (.object "com/example/quietzone/quietzone/symbol/RowDecoder")), accessFlags := 24, slot := 4, constantValue := 0 }, { name := "TAKE_THE_EDGE", type := (.array .boolean), accessFlags := 26, slot := 5, constantValue := 0 }, { name := "LEAST_MODULE", type := (.array .int), accessFlags := 26, slot := 6, constantValue := 0 }]
  methods := #[k2m0, k2m1]
  instanceTypes := #[]
  staticTypes := #[.int, .int, .int, .int, (.array (.object "com/example/quietzone/quietzone/symbol/RowDecoder")), (.array .boolean), (.array .int)]
  resolved := Array.replicate 307 none
  statics := none }

def pool3 : Array CpInfo := pool [(1, .class_ 2), (0, u "java/lang/Cloneable"), (0, .class_ 4), (0, u "java/lang/Object")] 2

/-- java/lang/Cloneable -/
def k3 : Class := { plain "java/lang/Cloneable" (some 0) with
  accessFlags := 1537
  interfaces := #[]
  cf := some (fileOf pool3 1 #[] #[] 1537 3 #[] #[])
  fields := #[]
  methods := #[]
  instanceTypes := #[]
  staticTypes := #[]
  resolved := Array.replicate 7 none
  statics := none }

def pool4 : Array CpInfo := pool [(1, u "java/io/Serializable"), (0, .class_ 1), (0, u "java/lang/Object"), (0, .class_ 3)] 3

/-- java/io/Serializable -/
def k4 : Class := { plain "java/io/Serializable" (some 0) with
  accessFlags := 1537
  interfaces := #[]
  cf := some (fileOf pool4 2 #[] #[] 1537 4 #[] #[])
  fields := #[]
  methods := #[]
  instanceTypes := #[]
  staticTypes := #[]
  resolved := Array.replicate 8 none
  statics := none }

/-- the primitive byte -/
def k5 : Class := { plain "byte" none with kind := .primitive 'B', accessFlags := 0x411 }
/-- [B -/
def k6 : Class := { plain "[B" (some 0) with kind := .array 5 .byte, interfaces := #[3, 4], accessFlags := 1041 }

/-- the primitive int -/
def k7 : Class := { plain "int" none with kind := .primitive 'I', accessFlags := 0x411 }
/-- [I -/
def k8 : Class := { plain "[I" (some 0) with kind := .array 7 .int, interfaces := #[3, 4], accessFlags := 1041 }

def heap : Heap := #[]
def classes : Array Class := #[k0, k1, k2, k3, k4, k5, k6, k7, k8]
def interned : List (Array UInt16 × Addr) := []
def slotsUsed : Nat := 0
def theMethod : MethodId := ⟨1, 1⟩
def args0 : Array Value := #[.int 3, .int 40, .int 7, .int 1, .int 2, .int 3]
def aboutOver (below : List Frame) : State where
  vm := { classes := classes, interned := interned.toArray }
  heap := heap
  slotsUsed := slotsUsed
  threads := #[{ frames := .invoking theMethod args0 :: below }]
def below0 : List Frame := [.native { method := ⟨0, 0⟩, args := #[] }]
def about1 : State := aboutOver below0
def p0 : Program := .bare "" "" ""
def e0 : Env := launch0.env 0 0 0
theorem w_frames : about1.frames = Frame.invoking theMethod args0 :: below0 := rfl
set_option maxRecDepth 65536 in
theorem w_args : argsFit about1.vm theMethod args0 = true := by decide +kernel
set_option maxRecDepth 65536 in
theorem w_heap : heapFits about1 = true := by decide +kernel
set_option maxRecDepth 65536 in
theorem w_runnable : about1.curStatus? = some .runnable := by decide +kernel
set_option maxRecDepth 65536 in
theorem w_alone : about1.alone = true := by decide +kernel
set_option maxRecDepth 65536 in
theorem w_named : about1.methodNamed? x = some theMethod := by decide +kernel
set_option maxRecDepth 65536 in
theorem w_hears : about1.hears theMethod below0 = true := by decide +kernel
set_option maxRecDepth 65536 in
theorem w_ripe : about1.ripe theMethod args0 below0 = true := by decide +kernel
theorem w_running : about1.status = .running := rfl
set_option maxRecDepth 65536 in
theorem w_room : about1.hasRoom e0.platform room_1 = true :=
  launch0.hasRoom_least _ room_1 (by decide +kernel) (by decide +kernel) (by decide +kernel) (by decide +kernel) (by decide +kernel) (by decide +kernel)
theorem allAtoms_all (ts : List Jvm.Cond) (a : Array Jvm.Value) (st : Jvm.State) : (allAtoms ts).before a st = ts.all (fun c => c.before a st) := by
  induction ts with
  | nil => rfl
  | cons c t ih =>
    show (Jvm.Cond.and c (allAtoms t)).before a st = _
    rw [Jvm.Cond.before_and, ih, List.all_cons]
def words1 : List Jvm.Cond := Jvm.Cond.code x code maxLocals ret :: tables_1
/-- a 'code' word, met by the world's own term for the bytes: nothing is compared byte by byte -/
theorem code_word {y : MethodName} {bytes : ByteArray} {mx : Nat} {rt : Option FieldType} {a : Array Value} {s : State} {m : MethodId} {meth : Method} {c : Code} (h1 : s.methodNamed? y = some m) (h2 : s.vm.method? m = some meth) (h3 : meth.code = some c) (h4 : c.code = bytes)
    (h5 : (c.maxLocals == mx && c.exceptionTable.isEmpty && decide (c.maxStack ≤ mostOperands) && decide (meth.sig.returnType = rt) && !meth.locks && decide (parseMethodDescriptor y.desc = some meth.sig)) = true) : (Jvm.Cond.code y bytes mx rt).before a s = true := by
  simp only [Bool.and_eq_true, beq_iff_eq, Bool.not_eq_true', decide_eq_true_eq] at h5
  obtain ⟨⟨⟨⟨⟨g1, g2⟩, g3⟩, g4⟩, g5⟩, g6⟩ := h5
  simp [Cond.before, Cond.holds, Cond.value, h1, h2, h3, h4, g1, g2, g3, g4, g5, g6]
def isCode : Jvm.Cond → Bool
  | .code _ _ _ _ => true
  | _ => false
theorem all_split {L : List Jvm.Cond} {P : Jvm.Cond → Bool} (h1 : L.all (fun c => isCode c || P c) = true) (h2 : ∀ c ∈ L.filter isCode, P c = true) : L.all P = true := by
  refine List.all_eq_true.mpr fun c hc => ?_
  have h := List.all_eq_true.mp h1 c hc
  rcases Bool.eq_false_or_eq_true (isCode c) with hi | hi
  · exact h2 c (List.mem_filter.mpr ⟨hc, hi⟩)
  · simpa [hi] using h
set_option maxRecDepth 65536 in
theorem w_c0 : (Jvm.Cond.code x code maxLocals ret).before args0 about1 = true := code_word (m := ⟨1, 1⟩) (meth := k1m1) (c := k1c1) (by decide +kernel) rfl rfl rfl (by decide +kernel)
set_option maxRecDepth 65536 in
theorem w_c1 : (Jvm.Cond.code ({ cls := "com/example/quietzone/quietzone/read/SymbolReader", name := "throughTheEdges", desc := "([II)[I" } : Jvm.MethodName) prog_97_method_9_code (3 : Nat) (Option.some (Jvm.ClassFile.FieldType.array Jvm.ClassFile.FieldType.int))).before args0 about1 = true := code_word (m := ⟨2, 1⟩) (meth := k2m1) (c := k2c1) (by decide +kernel) rfl rfl rfl (by decide +kernel)
def codes1 : List Jvm.Cond := [Jvm.Cond.code x code maxLocals ret, Jvm.Cond.code ({ cls := "com/example/quietzone/quietzone/read/SymbolReader", name := "throughTheEdges", desc := "([II)[I" } : Jvm.MethodName) prog_97_method_9_code (3 : Nat) (Option.some (Jvm.ClassFile.FieldType.array Jvm.ClassFile.FieldType.int))]
set_option maxRecDepth 65536 in
theorem codes_eq : words1.filter isCode = codes1 := rfl
theorem w_codes : ∀ c ∈ words1.filter isCode, c.before args0 about1 = true := by
  rw [codes_eq]
  intro c hc
  simp only [codes1, List.mem_cons, List.not_mem_nil, or_false] at hc
  rcases hc with rfl | rfl
  · exact w_c0
  · exact w_c1
set_option maxRecDepth 65536 in
theorem w_t1 : words1.all (fun c => isCode c || c.before args0 about1) = true := by decide +kernel
theorem w_tables : (allAtoms (Jvm.Cond.code x code maxLocals ret :: tables_1)).before args0 about1 = true := by
  rw [allAtoms_all]
  show words1.all (fun c => c.before args0 about1) = true
  refine all_split ?_ w_codes
  rw [w_t1]
set_option maxRecDepth 65536 in
theorem w_case : (Jvm.Cond.and given_1 narrow_1).before args0 about1 = true := by decide +kernel
theorem w_applies : (headSpec (Jvm.Cond.code x code maxLocals ret :: tables_1) room_1).applies x e0.platform about1 = true :=
  (Spec.applies_iff w_frames).mpr ⟨w_running, w_runnable, w_alone, w_named, w_hears, w_ripe, w_room, w_tables⟩
theorem atStart : AtStart classFile x code maxLocals ret World_1 tables_1 room_1 Calls_1 rest_1 Pre_1 launch0 p0 e0 about1 theMethod args0 below0 :=
  ⟨lists_1, trivial, launch0.admits_env _ _ _, launch0.least_env, fairChoices_fair.cas, fairChoices_fair.clock, w_frames, w_args, w_heap, w_applies, trivial, trivial, w_case⟩
end start1
theorem witness_1 : WitnessClaimed_1 := ⟨start1.p0, start1.e0, start1.about1, start1.theMethod, start1.args0, start1.below0, start1.atStart⟩
end Jvm.Pilot.@@N@@
