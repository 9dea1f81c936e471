import JvmDerived
import JvmDerived.Pilot.@@N@@Statement
import JvmDerived.Pilot.@@N@@Code
set_option linter.unusedVariables false
set_option linter.unusedSimpArgs false
namespace Jvm.Pilot.@@N@@
open Jvm Jvm.ClassFile Sem Op Lib Jvm.Free Jvm.Stand Jvm.LawKit Jvm.RoadKit Bundle Jvm.Pilot.@@N@@.Jvm.D
/-! own_Ends: from here the run comes to its return, and what it leaves is as Qf says -/
def own_Ends (p : Program) (e : Env) (below : List Frame) (s : State) (Qf : Option Value → Heap → List Loc → Prop) (ce sl : Nat) (W : State) : Prop :=
  ∃ U o, Steps p.tables e below W U ∧ U.status = .running ∧ Ended U below o ∧ ∃ v L, o = .returned v ∧ Qf v U.heap L ∧ FrameEnd s o U L ce sl
section Own
variable {p : Program} {l : Launch} {e : Env} {R : Room} {s : State} {m : MethodId} {args : Array Value} {below : List Frame} {meth : Method} {c : Code} {T : State} {locs : List Loc} {cells slots : Nat} {Qf : Option Value → Heap → List Loc → Prop} {ce sl : Nat} {W0 W1 : State}
theorem own_go (h : ∀ t, Steps p.tables e below W1 t → Steps p.tables e below W0 t) (k : own_Ends p e below s Qf ce sl W1) : own_Ends p e below s Qf ce sl W0 := by
  obtain ⟨U, o, h1, h2⟩ := k
  exact ⟨U, o, h _ h1, h2⟩
theorem own_tr (h : Steps p.tables e below W0 W1) (k : own_Ends p e below s Qf ce sl W1) : own_Ends p e below s Qf ce sl W0 := own_go (fun t k => h.trans k) k
theorem own_st {t : State} (h : ∀ t, Steps p.tables e below W1 t → Steps p.tables e below W0 t) (k : Steps p.tables e below W1 t) : Steps p.tables e below W0 t := h t k
theorem own_done (X : Stand p l e R s m args below meth c T locs cells slots) {v : Option Value} (hv : meth.sig.returnType = none → v = none) (hlk : meth.locks = false) (hc : cells ≤ ce) (hs : slots ≤ sl) (hQ : Qf v T.heap locs)
    (h : ∀ fs, (∀ (f : JFrame) (acts : List Action), f.method = m → f.locked = none → f.entered = [] → (doReturn e (T.setTop f) acts v).1 = T.setFrames fs) → Steps p.tables e below W0 (T.setFrames fs)) : own_Ends p e below s Qf ce sl W0 := by
  obtain ⟨fs, hr, hrun, hended, hW, hsame⟩ := X.leave (v := v) hv hlk
  exact ⟨_, _, h fs hr, hrun, hended, _, _, rfl, hQ, ⟨_, rfl⟩, hW, hsame.mono hc hs⟩
theorem own_some {t : FieldType} {v : Option Value} (hret : meth.sig.returnType = some t) : meth.sig.returnType = none → v = none := fun h => by rw [hret] at h; cases h
theorem own_retI (X : Stand p l e R s m args below meth c T locs cells slots) (hx : p.tables.exec = Jvm.exec) {pc : Nat} {Ls : Array Slot} {z : Int32} {rest : List Value} (hret : meth.sig.returnType = some .int) (hd : decode c.code pc = .ok (.ireturn, 1)) (hlk : meth.locks = false) (hc : cells ≤ ce) (hs : slots ≤ sl) (hQ : Qf (some (.int z)) T.heap locs) :
    own_Ends p e below s Qf ce sl (T.setTop (mkF m pc Ls (.int z :: rest))) :=
  own_done X (own_some hret) hlk hc hs hQ fun fs hr => retOut X hx hret rfl (Or.inl ⟨rfl, Or.inl rfl, _, rfl⟩) hd hr
theorem own_retN (X : Stand p l e R s m args below meth c T locs cells slots) (hx : p.tables.exec = Jvm.exec) {pc : Nat} {Ls : Array Slot} {z : Int32} {t : FieldType} {rest : List Value} (hret : meth.sig.returnType = some t) (ht : t = .boolean ∨ t = .byte ∨ t = .char ∨ t = .short) (hd : decode c.code pc = .ok (.ireturn, 1)) (hlk : meth.locks = false) (hc : cells ≤ ce) (hs : slots ≤ sl) (hQ : Qf (some (.int (nar t z))) T.heap locs) :
    own_Ends p e below s Qf ce sl (T.setTop (mkF m pc Ls (.int z :: rest))) :=
  own_done X (own_some hret) hlk hc hs hQ fun fs hr => retN X hx hret ht hd hr
theorem own_retJ (X : Stand p l e R s m args below meth c T locs cells slots) (hx : p.tables.exec = Jvm.exec) {pc : Nat} {Ls : Array Slot} {z : Int64} {rest : List Value} (hret : meth.sig.returnType = some .long) (hd : decode c.code pc = .ok (.lreturn, 1)) (hlk : meth.locks = false) (hc : cells ≤ ce) (hs : slots ≤ sl) (hQ : Qf (some (.long z)) T.heap locs) :
    own_Ends p e below s Qf ce sl (T.setTop (mkF m pc Ls (.long z :: rest))) :=
  own_done X (own_some hret) hlk hc hs hQ fun fs hr => retOut X hx hret rfl (Or.inr (Or.inl ⟨rfl, rfl, _, rfl⟩)) hd hr
theorem own_retD (X : Stand p l e R s m args below meth c T locs cells slots) (hx : p.tables.exec = Jvm.exec) {pc : Nat} {Ls : Array Slot} {z : UInt64} {rest : List Value} (hret : meth.sig.returnType = some .double) (hd : decode c.code pc = .ok (.dreturn, 1)) (hlk : meth.locks = false) (hc : cells ≤ ce) (hs : slots ≤ sl) (hQ : Qf (some (.double z)) T.heap locs) :
    own_Ends p e below s Qf ce sl (T.setTop (mkF m pc Ls (.double z :: rest))) :=
  own_done X (own_some hret) hlk hc hs hQ fun fs hr => retOut X hx hret rfl (Or.inr (Or.inr (Or.inl ⟨rfl, rfl, _, rfl⟩))) hd hr
theorem own_retR (X : Stand p l e R s m args below meth c T locs cells slots) (hx : p.tables.exec = Jvm.exec) {pc : Nat} {Ls : Array Slot} {w : Value} {t : FieldType} {rest : List Value} (hret : meth.sig.returnType = some t) (ht : t.isReference = true) (hw : w.isRef = true) (hd : decode c.code pc = .ok (.areturn, 1)) (hlk : meth.locks = false) (hc : cells ≤ ce) (hs : slots ≤ sl) (hQ : Qf (some w) T.heap locs) :
    own_Ends p e below s Qf ce sl (T.setTop (mkF m pc Ls (w :: rest))) :=
  own_done X (own_some hret) hlk hc hs hQ fun fs hr => retOut X hx hret (by cases t <;> first | rfl | (simp [FieldType.isReference] at ht)) (Or.inr (Or.inr (Or.inr (Or.inr ⟨rfl, ht, hw⟩)))) hd hr
theorem own_retV (X : Stand p l e R s m args below meth c T locs cells slots) (hx : p.tables.exec = Jvm.exec) {pc : Nat} {Ls : Array Slot} (hret : meth.sig.returnType = none) (hd : decode c.code pc = .ok (.return_, 1)) (hlk : meth.locks = false) (hc : cells ≤ ce) (hs : slots ≤ sl) (hQ : Qf none T.heap locs) :
    own_Ends p e below s Qf ce sl (T.setTop (mkF m pc Ls [])) :=
  own_done X (fun _ => rfl) hlk hc hs hQ fun fs hr => X.returnOut hx hret hd hr
def own_b2i (P : Prop) [Decidable P] : Int32 := if P then 1 else 0
theorem own_b1 {P : Prop} [Decidable P] (h : P) : own_b2i P = 1 := if_pos h
theorem own_b0 {P : Prop} [Decidable P] (h : ¬ P) : own_b2i P = 0 := if_neg h
end Own
abbrev own_in (f g x : Int32) : Prop := ¬ x < f ∧ ¬ g < x
def own_Q (z : Value) (h0 : Heap) (n0 : Nat) (v : Option Value) (h : Heap) (L : List Loc) : Prop := v = some z ∧ Fr n0 L ∧ h = h0
def own_Qi (Z : State) (a1 u : Addr) (h0 : Heap) (n0 : Nat) (v : Option Value) (h : Heap) (L : List Loc) : Prop := v = none ∧ Fr n0 L ∧ Keep h0 h [a1] ∧ Exa Z h a1 "com/example/osage/osage/xpath/CodePointSet" ∧ Fld Z h a1 "com/example/osage/osage/xpath/CodePointSet" "bounds" "[I" (.ref u)
def own_Qr (Z : State) (f g : Int32) (h0 : Heap) (n0 : Nat) (v : Option Value) (h : Heap) (L : List Loc) : Prop := ∃ (b u : Addr) (ku : ClassId), v = some (.ref b) ∧ Fr n0 L ∧ Keep h0 h [] ∧ n0 ≤ b ∧ n0 ≤ u ∧ Exa Z h b "com/example/osage/osage/xpath/CodePointSet" ∧ Fld Z h b "com/example/osage/osage/xpath/CodePointSet" "bounds" "[I" (.ref u) ∧ Arv Z h u ku .int 2 [(.int f), (.int g)] (.int 0)
def own_Q0 (n0 : Nat) (v : Option Value) (h : Heap) (L : List Loc) : Prop := v = some (.int 1) ∧ Fr n0 L
theorem own_f (a : Int32) : 0 ≤ ((a &&& (2147483647 : Int32)) % (1114112 : Int32)).toInt ∧ ((a &&& (2147483647 : Int32)) % (1114112 : Int32)).toInt < 1114112 := by
  have h := c_mask a 2147483647 31 (by decide) (by decide)
  have h2 := (c_irem (a &&& 2147483647) 1114112 1114112 rfl).1 (by omega)
  omega
theorem own_nz {f : Int32} (h : 0 ≤ f.toInt ∧ f.toInt < 1114112) : (1114112 : Int32) - f ≠ 0 := fun q => by
  have a := c_isub 1114112 f
  have e : (1114112 : Int32).toInt = 1114112 := rfl
  rw [q, e] at a
  have e0 : (0 : Int32).toInt = 0 := rfl
  omega
theorem own_pn_com_example_osage_osage_xpath_CodePointSetRangePinLaw : plainName "com/example/osage/osage/xpath/CodePointSetRangePinLaw" = true := by first | (simp [plainName, overriddenIn]; done) | decide +kernel
theorem d7_0 : decode method_2_code 0 = .ok (.iload_n 0, 1) := by decide +kernel
theorem d7_1 : decode method_2_code 1 = .ok (.iload_n 2, 1) := by decide +kernel
theorem d7_2 : decode method_2_code 2 = .ok (.if_icmp .gt 12, 3) := by decide +kernel
theorem d7_14 : decode method_2_code 14 = .ok (.iconst 0, 1) := by decide +kernel
theorem d7_15 : decode method_2_code 15 = .ok (.ireturn, 1) := by decide +kernel
theorem d7_5 : decode method_2_code 5 = .ok (.iload_n 2, 1) := by decide +kernel
theorem d7_6 : decode method_2_code 6 = .ok (.iload_n 1, 1) := by decide +kernel
theorem d7_7 : decode method_2_code 7 = .ok (.if_icmp .gt 7, 3) := by decide +kernel
theorem d7_10 : decode method_2_code 10 = .ok (.iconst 1, 1) := by decide +kernel
theorem d7_11 : decode method_2_code 11 = .ok (.goto 4, 3) := by decide +kernel
theorem ef_rm7 (m : MethodId) (x0 : Int32) (x1 : Int32) (x2 : Int32)  : entryFrame m #[(.int x0), (.int x1), (.int x2)] 3 = mkF m 0 #[.val (.int x0), .val (.int x1), .val (.int x2)] [] := by first | (simp [entryFrame, mkF, argsToLocals, Value.category]; done) | rfl
set_option maxRecDepth 65536 in
set_option maxHeartbeats 40000000 in
theorem rm7 (l : Launch) (Z : State) (a0 : Array Value) (hw : ∀ d ∈ tables_1, d.before a0 Z = true) (ws : List Jvm.Cond) (f g x : Int32) (h0 : Heap) (n0 : Nat) (Z0 : n0 ≤ h0.size)  :
    MetFree l (⟨"com/example/osage/osage/xpath/CodePointSetRangePinLaw", "inside", "(III)Z"⟩ : MethodName) (head1 (Jvm.Cond.code (⟨"com/example/osage/osage/xpath/CodePointSetRangePinLaw", "inside", "(III)Z"⟩ : MethodName) method_2_code 3 (some .boolean) :: ws) ({ frames := 0, cells := 0, slots := 0, locals := 0 } : Room)) (fun a U => a = #[(.int f), (.int g), (.int x)] ∧ Z.Warmed39 U.vm ∧ U.heap = h0) (fun _ _ _ _ _ => True) (fun _ U o U' => ∃ v L, o = .returned v ∧ own_Q (.int (own_b2i (own_in f g x))) h0 n0 v U'.heap L ∧ FrameEnd U o U' L ({ frames := 0, cells := 0, slots := 0, locals := 0 } : Room).cells ({ frames := 0, cells := 0, slots := 0, locals := 0 } : Room).slots) := by
  refine MetFree.of_bodySF (plainFor_of_name own_pn_com_example_osage_osage_xpath_CodePointSetRangePinLaw) hisR ?_
  intro p e s m args below meth c s₁ Bd hml0 hP hK
  obtain ⟨rfl, hZ, hh⟩ := hP
  have hx := Bd.exec
  have hby := Bd.bytes
  have hlk := BodyLoose.notSynchronized Bd
  have hml : c.maxLocals = 3 := hml0
  have hown : s.vm.findClass "com/example/osage/osage/xpath/CodePointSetRangePinLaw" = some m.cls := findClass_of_methodNamed Bd.named
  have hnm := (name_of_methodNamed Bd.named Bd.method).1
  have X0 : Stand p l e ({ frames := 0, cells := 0, slots := 0, locals := 0 } : Room) s m #[(.int f), (.int g), (.int x)] below meth c s₁ [] 0 0 := Stand.of_body Bd
  have e0 : s₁.heap = h0 := by rw [← hh, Bd.state]; rfl
  have N0 := Fr.nil n0
  show own_Ends p e below s (own_Q (.int (own_b2i (own_in f g x))) h0 n0) 0 0 (s₁.setTop (entryFrame m #[(.int f), (.int g), (.int x)] 3))
  refine own_go (W1 := s₁.setTop (mkF m 0 #[.val (.int f), .val (.int g), .val (.int x)] [])) (fun t k => castTop (ef_rm7 m f g x ) k) ?_
  refine own_go (W1 := s₁.setTop (mkF m 1 #[.val (.int f), .val (.int g), .val (.int x)] [(.int f)])) (fun t k => XS.iloadN X0.here hx rfl (hb hby d7_0) rfl  k) ?_
  refine own_go (W1 := s₁.setTop (mkF m 2 #[.val (.int f), .val (.int g), .val (.int x)] [(.int x), (.int f)])) (fun t k => XS.iloadN X0.here hx rfl (hb hby d7_1) rfl  k) ?_
  by_cases hc2_1 : x < f
  · skip
    refine own_go (W1 := s₁.setTop (mkF m 14 #[.val (.int f), .val (.int g), .val (.int x)] [])) (fun t k => XS.icmpYes X0.here hx rfl (pc0 := 2) (pc' := 14) rfl (hb hby d7_2) rfl (tlt (show x < f from hc2_1)).2.2.1 (by decide) (by decide) k) ?_
    refine own_go (W1 := s₁.setTop (mkF m 15 #[.val (.int f), .val (.int g), .val (.int x)] [(.int (0 : Int32))])) (fun t k => XS.iconst X0.here hx rfl (hb hby d7_14) k) ?_
    exact own_retN X0 hx (t := .boolean) Bd.returns (by simp) (hb hby d7_15) hlk (by decide) (by decide) ⟨by rw [own_b0 (show ¬ own_in f g x from by simp [own_in, hc2_1])]; rfl, N0, e0⟩
  · skip
    refine own_go (W1 := s₁.setTop (mkF m 5 #[.val (.int f), .val (.int g), .val (.int x)] [])) (fun t k => XS.icmpNo X0.here hx rfl (hb hby d7_2) rfl (flt (show ¬ (x < f) from hc2_1)).2.2.1 k) ?_
    refine own_go (W1 := s₁.setTop (mkF m 6 #[.val (.int f), .val (.int g), .val (.int x)] [(.int x)])) (fun t k => XS.iloadN X0.here hx rfl (hb hby d7_5) rfl  k) ?_
    refine own_go (W1 := s₁.setTop (mkF m 7 #[.val (.int f), .val (.int g), .val (.int x)] [(.int g), (.int x)])) (fun t k => XS.iloadN X0.here hx rfl (hb hby d7_6) rfl  k) ?_
    by_cases hc7_2 : g < x
    · skip
      refine own_go (W1 := s₁.setTop (mkF m 14 #[.val (.int f), .val (.int g), .val (.int x)] [])) (fun t k => XS.icmpYes X0.here hx rfl (pc0 := 7) (pc' := 14) rfl (hb hby d7_7) rfl (tlt (show g < x from hc7_2)).2.2.1 (by decide) (by decide) k) ?_
      refine own_go (W1 := s₁.setTop (mkF m 15 #[.val (.int f), .val (.int g), .val (.int x)] [(.int (0 : Int32))])) (fun t k => XS.iconst X0.here hx rfl (hb hby d7_14) k) ?_
      exact own_retN X0 hx (t := .boolean) Bd.returns (by simp) (hb hby d7_15) hlk (by decide) (by decide) ⟨by rw [own_b0 (show ¬ own_in f g x from by simp [own_in, hc2_1, hc7_2])]; rfl, N0, e0⟩
    · skip
      refine own_go (W1 := s₁.setTop (mkF m 10 #[.val (.int f), .val (.int g), .val (.int x)] [])) (fun t k => XS.icmpNo X0.here hx rfl (hb hby d7_7) rfl (flt (show ¬ (g < x) from hc7_2)).2.2.1 k) ?_
      refine own_go (W1 := s₁.setTop (mkF m 11 #[.val (.int f), .val (.int g), .val (.int x)] [(.int (1 : Int32))])) (fun t k => XS.iconst X0.here hx rfl (hb hby d7_10) k) ?_
      refine own_go (W1 := s₁.setTop (mkF m 15 #[.val (.int f), .val (.int g), .val (.int x)] [(.int (1 : Int32))])) (fun t k => XS.goto X0.here hx rfl (pc0 := 11) (pc' := 15) rfl (hb hby d7_11) (by decide) (by decide) k) ?_
      exact own_retN X0 hx (t := .boolean) Bd.returns (by simp) (hb hby d7_15) hlk (by decide) (by decide) ⟨by rw [own_b1 (show own_in f g x from by simp [own_in, hc2_1, hc7_2])]; rfl, N0, e0⟩
theorem own_pn_com_example_osage_osage_xpath_CodePointSet : plainName "com/example/osage/osage/xpath/CodePointSet" = true := by first | (simp [plainName, overriddenIn]; done) | decide +kernel
theorem d6_0 : decode prog_34_method_10_code 0 = .ok (.iconst 0, 1) := by decide +kernel
theorem d6_1 : decode prog_34_method_10_code 1 = .ok (.istore_n 2, 1) := by decide +kernel
theorem d6_2 : decode prog_34_method_10_code 2 = .ok (.aload_n 0, 1) := by decide +kernel
theorem d6_3 : decode prog_34_method_10_code 3 = .ok (.getfield 7, 3) := by decide +kernel
theorem d6_6 : decode prog_34_method_10_code 6 = .ok (.arraylength, 1) := by decide +kernel
theorem d6_7 : decode prog_34_method_10_code 7 = .ok (.iconst 2, 1) := by decide +kernel
theorem d6_8 : decode prog_34_method_10_code 8 = .ok (.idiv, 1) := by decide +kernel
theorem d6_9 : decode prog_34_method_10_code 9 = .ok (.iconst 1, 1) := by decide +kernel
theorem d6_10 : decode prog_34_method_10_code 10 = .ok (.isub, 1) := by decide +kernel
theorem d6_11 : decode prog_34_method_10_code 11 = .ok (.istore_n 3, 1) := by decide +kernel
theorem d6_12 : decode prog_34_method_10_code 12 = .ok (.iload_n 2, 1) := by decide +kernel
theorem d6_13 : decode prog_34_method_10_code 13 = .ok (.iload_n 3, 1) := by decide +kernel
theorem d6_14 : decode prog_34_method_10_code 14 = .ok (.if_icmp .gt 59, 3) := by decide +kernel
theorem d6_17 : decode prog_34_method_10_code 17 = .ok (.iload_n 2, 1) := by decide +kernel
theorem d6_18 : decode prog_34_method_10_code 18 = .ok (.iload_n 3, 1) := by decide +kernel
theorem d6_19 : decode prog_34_method_10_code 19 = .ok (.iadd, 1) := by decide +kernel
theorem d6_20 : decode prog_34_method_10_code 20 = .ok (.iconst 1, 1) := by decide +kernel
theorem d6_21 : decode prog_34_method_10_code 21 = .ok (.iushr, 1) := by decide +kernel
theorem d6_22 : decode prog_34_method_10_code 22 = .ok (.istore 4, 2) := by decide +kernel
theorem d6_24 : decode prog_34_method_10_code 24 = .ok (.iload_n 1, 1) := by decide +kernel
theorem d6_25 : decode prog_34_method_10_code 25 = .ok (.aload_n 0, 1) := by decide +kernel
theorem d6_26 : decode prog_34_method_10_code 26 = .ok (.getfield 7, 3) := by decide +kernel
theorem d6_29 : decode prog_34_method_10_code 29 = .ok (.iconst 2, 1) := by decide +kernel
theorem d6_30 : decode prog_34_method_10_code 30 = .ok (.iload 4, 2) := by decide +kernel
theorem d6_32 : decode prog_34_method_10_code 32 = .ok (.imul, 1) := by decide +kernel
theorem d6_33 : decode prog_34_method_10_code 33 = .ok (.iaload, 1) := by decide +kernel
theorem d6_34 : decode prog_34_method_10_code 34 = .ok (.if_icmp .ge 11, 3) := by decide +kernel
theorem d6_37 : decode prog_34_method_10_code 37 = .ok (.iload 4, 2) := by decide +kernel
theorem d6_39 : decode prog_34_method_10_code 39 = .ok (.iconst 1, 1) := by decide +kernel
theorem d6_40 : decode prog_34_method_10_code 40 = .ok (.isub, 1) := by decide +kernel
theorem d6_41 : decode prog_34_method_10_code 41 = .ok (.istore_n 3, 1) := by decide +kernel
theorem d6_42 : decode prog_34_method_10_code 42 = .ok (.goto 28, 3) := by decide +kernel
theorem d6_70 : decode prog_34_method_10_code 70 = .ok (.goto (-58), 3) := by decide +kernel
theorem d6_73 : decode prog_34_method_10_code 73 = .ok (.iconst 0, 1) := by decide +kernel
theorem d6_74 : decode prog_34_method_10_code 74 = .ok (.ireturn, 1) := by decide +kernel
theorem d6_45 : decode prog_34_method_10_code 45 = .ok (.iload_n 1, 1) := by decide +kernel
theorem d6_46 : decode prog_34_method_10_code 46 = .ok (.aload_n 0, 1) := by decide +kernel
theorem d6_47 : decode prog_34_method_10_code 47 = .ok (.getfield 7, 3) := by decide +kernel
theorem d6_50 : decode prog_34_method_10_code 50 = .ok (.iconst 2, 1) := by decide +kernel
theorem d6_51 : decode prog_34_method_10_code 51 = .ok (.iload 4, 2) := by decide +kernel
theorem d6_53 : decode prog_34_method_10_code 53 = .ok (.imul, 1) := by decide +kernel
theorem d6_54 : decode prog_34_method_10_code 54 = .ok (.iconst 1, 1) := by decide +kernel
theorem d6_55 : decode prog_34_method_10_code 55 = .ok (.iadd, 1) := by decide +kernel
theorem d6_56 : decode prog_34_method_10_code 56 = .ok (.iaload, 1) := by decide +kernel
theorem d6_57 : decode prog_34_method_10_code 57 = .ok (.if_icmp .le 11, 3) := by decide +kernel
theorem d6_60 : decode prog_34_method_10_code 60 = .ok (.iload 4, 2) := by decide +kernel
theorem d6_62 : decode prog_34_method_10_code 62 = .ok (.iconst 1, 1) := by decide +kernel
theorem d6_63 : decode prog_34_method_10_code 63 = .ok (.iadd, 1) := by decide +kernel
theorem d6_64 : decode prog_34_method_10_code 64 = .ok (.istore_n 2, 1) := by decide +kernel
theorem d6_65 : decode prog_34_method_10_code 65 = .ok (.goto 5, 3) := by decide +kernel
theorem d6_68 : decode prog_34_method_10_code 68 = .ok (.iconst 1, 1) := by decide +kernel
theorem d6_69 : decode prog_34_method_10_code 69 = .ok (.ireturn, 1) := by decide +kernel
theorem ef_rm6 (m : MethodId) (x0 : Addr) (x1 : Int32)  : entryFrame m #[(.ref x0), (.int x1)] 5 = mkF m 0 #[.val (.ref x0), .val (.int x1), .unset, .unset, .unset] [] := by first | (simp [entryFrame, mkF, argsToLocals, Value.category]; done) | rfl
set_option maxRecDepth 65536 in
set_option maxHeartbeats 40000000 in
theorem rm6 (l : Launch) (Z : State) (a0 : Array Value) (hw : ∀ d ∈ tables_1, d.before a0 Z = true) (ws : List Jvm.Cond) (a1 u : Addr) (ku : ClassId) (f g x : Int32) (h0 : Heap) (n0 : Nat) (Z0 : n0 ≤ h0.size) (F_b : Fld Z h0 a1 "com/example/osage/osage/xpath/CodePointSet" "bounds" "[I" (.ref u)) (V_u : Arv Z h0 u ku .int 2 [(.int f), (.int g)] (.int 0)) :
    MetFree l (⟨"com/example/osage/osage/xpath/CodePointSet", "contains", "(I)Z"⟩ : MethodName) (head1 (Jvm.Cond.code (⟨"com/example/osage/osage/xpath/CodePointSet", "contains", "(I)Z"⟩ : MethodName) prog_34_method_10_code 5 (some .boolean) :: ws) ({ frames := 0, cells := 0, slots := 0, locals := 0 } : Room)) (fun a U => a = #[(.ref a1), (.int x)] ∧ Z.Warmed39 U.vm ∧ U.heap = h0) (fun _ _ _ _ _ => True) (fun _ U o U' => ∃ v L, o = .returned v ∧ own_Q (.int (own_b2i (own_in f g x))) h0 n0 v U'.heap L ∧ FrameEnd U o U' L ({ frames := 0, cells := 0, slots := 0, locals := 0 } : Room).cells ({ frames := 0, cells := 0, slots := 0, locals := 0 } : Room).slots) := by
  refine MetFree.of_bodySF (plainFor_of_name own_pn_com_example_osage_osage_xpath_CodePointSet) hisR ?_
  intro p e s m args below meth c s₁ Bd hml0 hP hK
  obtain ⟨rfl, hZ, hh⟩ := hP
  have hx := Bd.exec
  have hby := Bd.bytes
  have hlk := BodyLoose.notSynchronized Bd
  have hml : c.maxLocals = 5 := hml0
  have hown : s.vm.findClass "com/example/osage/osage/xpath/CodePointSet" = some m.cls := findClass_of_methodNamed Bd.named
  have hnm := (name_of_methodNamed Bd.named Bd.method).1
  have X0 : Stand p l e ({ frames := 0, cells := 0, slots := 0, locals := 0 } : Room) s m #[(.ref a1), (.int x)] below meth c s₁ [] 0 0 := Stand.of_body Bd
  have e0 : s₁.heap = h0 := by rw [← hh, Bd.state]; rfl
  have N0 := Fr.nil n0
  show own_Ends p e below s (own_Q (.int (own_b2i (own_in f g x))) h0 n0) 0 0 (s₁.setTop (entryFrame m #[(.ref a1), (.int x)] 5))
  refine own_go (W1 := s₁.setTop (mkF m 0 #[.val (.ref a1), .val (.int x), .unset, .unset, .unset] [])) (fun t k => castTop (ef_rm6 m a1 x ) k) ?_
  refine own_go (W1 := s₁.setTop (mkF m 1 #[.val (.ref a1), .val (.int x), .unset, .unset, .unset] [(.int (0 : Int32))])) (fun t k => XS.iconst X0.here hx rfl (hb hby d6_0) k) ?_
  refine own_go (W1 := s₁.setTop (mkF m 2 #[.val (.ref a1), .val (.int x), .val (.int (0 : Int32)), .unset, .unset] [])) (fun t k => XS.istoreN X0.here hx rfl (hb hby d6_1) rfl (l' := #[.val (.ref a1), .val (.int x), .val (.int (0 : Int32)), .unset, .unset]) rfl k) ?_
  refine own_go (W1 := s₁.setTop (mkF m 3 #[.val (.ref a1), .val (.int x), .val (.int (0 : Int32)), .unset, .unset] [(.ref a1)])) (fun t k => XS.aloadN X0.here hx rfl (hb hby d6_2) rfl rfl  k) ?_
  obtain ⟨T1, X1, e1, st1⟩ := getF X0 hx hZ hown (host := "") (Or.inl (hw _ (List.mem_of_getElem? (i := 15) rfl))) Via.refl e0 F_b (g := (mkF m 3 #[.val (.ref a1), .val (.int x), .val (.int (0 : Int32)), .unset, .unset] [(.ref a1)])) rfl rfl (hb hby d6_3)
  refine own_go (W1 := T1.setTop (mkF m 6 #[.val (.ref a1), .val (.int x), .val (.int (0 : Int32)), .unset, .unset] [(.ref u)])) (st1) ?_
  obtain ⟨cl2, Ar2, -, S2, M2, -, -⟩ := id V_u
  have al2 := X1.arraylength hx (by rw [e1]; exact Ar2.1) (State.isArrayOf_alike hZ.alike Ar2.2.1) (g := (mkF m 6 #[.val (.ref a1), .val (.int x), .val (.int (0 : Int32)), .unset, .unset] [(.ref u)])) rfl rfl (hb hby d6_6)
  rw [len_of S2 M2] at al2
  refine own_go (W1 := T1.setTop (mkF m 7 #[.val (.ref a1), .val (.int x), .val (.int (0 : Int32)), .unset, .unset] [(.int (2 : Int32))])) (al2) ?_
  refine own_go (W1 := T1.setTop (mkF m 8 #[.val (.ref a1), .val (.int x), .val (.int (0 : Int32)), .unset, .unset] [(.int (2 : Int32)), (.int (2 : Int32))])) (fun t k => XS.iconst X1.here hx rfl (hb hby d6_7) k) ?_
  refine own_go (W1 := T1.setTop (mkF m 9 #[.val (.ref a1), .val (.int x), .val (.int (0 : Int32)), .unset, .unset] [(.int ((2 : Int32) / (2 : Int32)))])) (fun t k => XS.idiv X1.here hx rfl (hb hby d6_8) rfl (by decide) k) ?_
  rw [show ((2 : Int32) / (2 : Int32)) = (1 : Int32) from by decide]
  refine own_go (W1 := T1.setTop (mkF m 10 #[.val (.ref a1), .val (.int x), .val (.int (0 : Int32)), .unset, .unset] [(.int (1 : Int32)), (.int (1 : Int32))])) (fun t k => XS.iconst X1.here hx rfl (hb hby d6_9) k) ?_
  refine own_go (W1 := T1.setTop (mkF m 11 #[.val (.ref a1), .val (.int x), .val (.int (0 : Int32)), .unset, .unset] [(.int ((1 : Int32) - (1 : Int32)))])) (fun t k => XS.isub X1.here hx rfl (hb hby d6_10) rfl k) ?_
  rw [show ((1 : Int32) - (1 : Int32)) = (0 : Int32) from by decide]
  refine own_go (W1 := T1.setTop (mkF m 12 #[.val (.ref a1), .val (.int x), .val (.int (0 : Int32)), .val (.int (0 : Int32)), .unset] [])) (fun t k => XS.istoreN X1.here hx rfl (hb hby d6_11) rfl (l' := #[.val (.ref a1), .val (.int x), .val (.int (0 : Int32)), .val (.int (0 : Int32)), .unset]) rfl k) ?_
  refine own_go (W1 := T1.setTop (mkF m 13 #[.val (.ref a1), .val (.int x), .val (.int (0 : Int32)), .val (.int (0 : Int32)), .unset] [(.int (0 : Int32))])) (fun t k => XS.iloadN X1.here hx rfl (hb hby d6_12) rfl  k) ?_
  refine own_go (W1 := T1.setTop (mkF m 14 #[.val (.ref a1), .val (.int x), .val (.int (0 : Int32)), .val (.int (0 : Int32)), .unset] [(.int (0 : Int32)), (.int (0 : Int32))])) (fun t k => XS.iloadN X1.here hx rfl (hb hby d6_13) rfl  k) ?_
  refine own_go (W1 := T1.setTop (mkF m 17 #[.val (.ref a1), .val (.int x), .val (.int (0 : Int32)), .val (.int (0 : Int32)), .unset] [])) (fun t k => XS.icmpNo X1.here hx rfl (hb hby d6_14) rfl (flt (show ¬ ((0 : Int32) < (0 : Int32)) from (by decide))).2.2.1 k) ?_
  refine own_go (W1 := T1.setTop (mkF m 18 #[.val (.ref a1), .val (.int x), .val (.int (0 : Int32)), .val (.int (0 : Int32)), .unset] [(.int (0 : Int32))])) (fun t k => XS.iloadN X1.here hx rfl (hb hby d6_17) rfl  k) ?_
  refine own_go (W1 := T1.setTop (mkF m 19 #[.val (.ref a1), .val (.int x), .val (.int (0 : Int32)), .val (.int (0 : Int32)), .unset] [(.int (0 : Int32)), (.int (0 : Int32))])) (fun t k => XS.iloadN X1.here hx rfl (hb hby d6_18) rfl  k) ?_
  refine own_go (W1 := T1.setTop (mkF m 20 #[.val (.ref a1), .val (.int x), .val (.int (0 : Int32)), .val (.int (0 : Int32)), .unset] [(.int ((0 : Int32) + (0 : Int32)))])) (fun t k => XS.iadd X1.here hx rfl (hb hby d6_19) rfl k) ?_
  rw [show ((0 : Int32) + (0 : Int32)) = (0 : Int32) from by decide]
  refine own_go (W1 := T1.setTop (mkF m 21 #[.val (.ref a1), .val (.int x), .val (.int (0 : Int32)), .val (.int (0 : Int32)), .unset] [(.int (1 : Int32)), (.int (0 : Int32))])) (fun t k => XS.iconst X1.here hx rfl (hb hby d6_20) k) ?_
  refine own_go (W1 := T1.setTop (mkF m 22 #[.val (.ref a1), .val (.int x), .val (.int (0 : Int32)), .val (.int (0 : Int32)), .unset] [(.int (((0 : Int32).toUInt32 >>> ((1 : Int32) &&& 31).toUInt32).toInt32))])) (fun t k => XS.iushr X1.here hx rfl (hb hby d6_21) rfl k) ?_
  rw [show (((0 : Int32).toUInt32 >>> ((1 : Int32) &&& 31).toUInt32).toInt32) = (0 : Int32) from by decide]
  refine own_go (W1 := T1.setTop (mkF m 24 #[.val (.ref a1), .val (.int x), .val (.int (0 : Int32)), .val (.int (0 : Int32)), .val (.int (0 : Int32))] [])) (fun t k => XS.istore X1.here hx rfl (hb hby d6_22) rfl (l' := #[.val (.ref a1), .val (.int x), .val (.int (0 : Int32)), .val (.int (0 : Int32)), .val (.int (0 : Int32))]) rfl k) ?_
  refine own_go (W1 := T1.setTop (mkF m 25 #[.val (.ref a1), .val (.int x), .val (.int (0 : Int32)), .val (.int (0 : Int32)), .val (.int (0 : Int32))] [(.int x)])) (fun t k => XS.iloadN X1.here hx rfl (hb hby d6_24) rfl  k) ?_
  refine own_go (W1 := T1.setTop (mkF m 26 #[.val (.ref a1), .val (.int x), .val (.int (0 : Int32)), .val (.int (0 : Int32)), .val (.int (0 : Int32))] [(.ref a1), (.int x)])) (fun t k => XS.aloadN X1.here hx rfl (hb hby d6_25) rfl rfl  k) ?_
  obtain ⟨T3, X3, e3, st3⟩ := getF X1 hx hZ hown (host := "") (Or.inl (hw _ (List.mem_of_getElem? (i := 15) rfl))) Via.refl e1 F_b (g := (mkF m 26 #[.val (.ref a1), .val (.int x), .val (.int (0 : Int32)), .val (.int (0 : Int32)), .val (.int (0 : Int32))] [(.ref a1), (.int x)])) rfl rfl (hb hby d6_26)
  refine own_go (W1 := T3.setTop (mkF m 29 #[.val (.ref a1), .val (.int x), .val (.int (0 : Int32)), .val (.int (0 : Int32)), .val (.int (0 : Int32))] [(.ref u), (.int x)])) (st3) ?_
  refine own_go (W1 := T3.setTop (mkF m 30 #[.val (.ref a1), .val (.int x), .val (.int (0 : Int32)), .val (.int (0 : Int32)), .val (.int (0 : Int32))] [(.int (2 : Int32)), (.ref u), (.int x)])) (fun t k => XS.iconst X3.here hx rfl (hb hby d6_29) k) ?_
  refine own_go (W1 := T3.setTop (mkF m 32 #[.val (.ref a1), .val (.int x), .val (.int (0 : Int32)), .val (.int (0 : Int32)), .val (.int (0 : Int32))] [(.int (0 : Int32)), (.int (2 : Int32)), (.ref u), (.int x)])) (fun t k => XS.iload X3.here hx rfl (hb hby d6_30) rfl  k) ?_
  refine own_go (W1 := T3.setTop (mkF m 33 #[.val (.ref a1), .val (.int x), .val (.int (0 : Int32)), .val (.int (0 : Int32)), .val (.int (0 : Int32))] [(.int ((2 : Int32) * (0 : Int32))), (.ref u), (.int x)])) (fun t k => XS.imul X3.here hx rfl (hb hby d6_32) rfl k) ?_
  rw [show ((2 : Int32) * (0 : Int32)) = (0 : Int32) from by decide]
  obtain ⟨cl4, Ar4, q4, S4, M4, H4, G4⟩ := id V_u
  have hin4 : ¬ ((0 : Int32) < 0 ∨ cl4.slots.size ≤ ((0 : Int32)).toNatClampNeg) := inb_of S4 ⟨by decide, by decide⟩
  have hat4 : cl4.slots[((0 : Int32)).toNatClampNeg]? = some (.int f) := Has.at H4 hin4 rfl
  refine own_go (W1 := T3.setTop (mkF m 34 #[.val (.ref a1), .val (.int x), .val (.int (0 : Int32)), .val (.int (0 : Int32)), .val (.int (0 : Int32))] [(.int f), (.int x)])) (X3.iaload hx (j := (0 : Int32)) (v := (.int f)) (by rw [e3]; exact Ar4.1) (State.isArrayOf_alike hZ.alike Ar4.2.1) Ar4.2.2 hin4 hat4 (g := (mkF m 33 #[.val (.ref a1), .val (.int x), .val (.int (0 : Int32)), .val (.int (0 : Int32)), .val (.int (0 : Int32))] [(.int (0 : Int32)), (.ref u), (.int x)])) rfl rfl (hb hby d6_33)) ?_
  by_cases hc34_1 : x < f
  · skip
    refine own_go (W1 := T3.setTop (mkF m 37 #[.val (.ref a1), .val (.int x), .val (.int (0 : Int32)), .val (.int (0 : Int32)), .val (.int (0 : Int32))] [])) (fun t k => XS.icmpNo X3.here hx rfl (hb hby d6_34) rfl (tlt (show x < f from hc34_1)).2.1 k) ?_
    refine own_go (W1 := T3.setTop (mkF m 39 #[.val (.ref a1), .val (.int x), .val (.int (0 : Int32)), .val (.int (0 : Int32)), .val (.int (0 : Int32))] [(.int (0 : Int32))])) (fun t k => XS.iload X3.here hx rfl (hb hby d6_37) rfl  k) ?_
    refine own_go (W1 := T3.setTop (mkF m 40 #[.val (.ref a1), .val (.int x), .val (.int (0 : Int32)), .val (.int (0 : Int32)), .val (.int (0 : Int32))] [(.int (1 : Int32)), (.int (0 : Int32))])) (fun t k => XS.iconst X3.here hx rfl (hb hby d6_39) k) ?_
    refine own_go (W1 := T3.setTop (mkF m 41 #[.val (.ref a1), .val (.int x), .val (.int (0 : Int32)), .val (.int (0 : Int32)), .val (.int (0 : Int32))] [(.int ((0 : Int32) - (1 : Int32)))])) (fun t k => XS.isub X3.here hx rfl (hb hby d6_40) rfl k) ?_
    rw [show ((0 : Int32) - (1 : Int32)) = (-1 : Int32) from by decide]
    refine own_go (W1 := T3.setTop (mkF m 42 #[.val (.ref a1), .val (.int x), .val (.int (0 : Int32)), .val (.int (-1 : Int32)), .val (.int (0 : Int32))] [])) (fun t k => XS.istoreN X3.here hx rfl (hb hby d6_41) rfl (l' := #[.val (.ref a1), .val (.int x), .val (.int (0 : Int32)), .val (.int (-1 : Int32)), .val (.int (0 : Int32))]) rfl k) ?_
    refine own_go (W1 := T3.setTop (mkF m 70 #[.val (.ref a1), .val (.int x), .val (.int (0 : Int32)), .val (.int (-1 : Int32)), .val (.int (0 : Int32))] [])) (fun t k => XS.goto X3.here hx rfl (pc0 := 42) (pc' := 70) rfl (hb hby d6_42) (by decide) (by decide) k) ?_
    refine own_go (W1 := T3.setTop (mkF m 12 #[.val (.ref a1), .val (.int x), .val (.int (0 : Int32)), .val (.int (-1 : Int32)), .val (.int (0 : Int32))] [])) (fun t k => XS.goto X3.here hx rfl (pc0 := 70) (pc' := 12) rfl (hb hby d6_70) (by decide) (by decide) k) ?_
    refine own_go (W1 := T3.setTop (mkF m 13 #[.val (.ref a1), .val (.int x), .val (.int (0 : Int32)), .val (.int (-1 : Int32)), .val (.int (0 : Int32))] [(.int (0 : Int32))])) (fun t k => XS.iloadN X3.here hx rfl (hb hby d6_12) rfl  k) ?_
    refine own_go (W1 := T3.setTop (mkF m 14 #[.val (.ref a1), .val (.int x), .val (.int (0 : Int32)), .val (.int (-1 : Int32)), .val (.int (0 : Int32))] [(.int (-1 : Int32)), (.int (0 : Int32))])) (fun t k => XS.iloadN X3.here hx rfl (hb hby d6_13) rfl  k) ?_
    refine own_go (W1 := T3.setTop (mkF m 73 #[.val (.ref a1), .val (.int x), .val (.int (0 : Int32)), .val (.int (-1 : Int32)), .val (.int (0 : Int32))] [])) (fun t k => XS.icmpYes X3.here hx rfl (pc0 := 14) (pc' := 73) rfl (hb hby d6_14) rfl (tlt (show (-1 : Int32) < (0 : Int32) from (by decide))).2.2.1 (by decide) (by decide) k) ?_
    refine own_go (W1 := T3.setTop (mkF m 74 #[.val (.ref a1), .val (.int x), .val (.int (0 : Int32)), .val (.int (-1 : Int32)), .val (.int (0 : Int32))] [(.int (0 : Int32))])) (fun t k => XS.iconst X3.here hx rfl (hb hby d6_73) k) ?_
    exact own_retN X3 hx (t := .boolean) Bd.returns (by simp) (hb hby d6_74) hlk (by decide) (by decide) ⟨by rw [own_b0 (show ¬ own_in f g x from by simp [own_in, hc34_1])]; rfl, N0, e3⟩
  · skip
    refine own_go (W1 := T3.setTop (mkF m 45 #[.val (.ref a1), .val (.int x), .val (.int (0 : Int32)), .val (.int (0 : Int32)), .val (.int (0 : Int32))] [])) (fun t k => XS.icmpYes X3.here hx rfl (pc0 := 34) (pc' := 45) rfl (hb hby d6_34) rfl (flt (show ¬ (x < f) from hc34_1)).2.1 (by decide) (by decide) k) ?_
    refine own_go (W1 := T3.setTop (mkF m 46 #[.val (.ref a1), .val (.int x), .val (.int (0 : Int32)), .val (.int (0 : Int32)), .val (.int (0 : Int32))] [(.int x)])) (fun t k => XS.iloadN X3.here hx rfl (hb hby d6_45) rfl  k) ?_
    refine own_go (W1 := T3.setTop (mkF m 47 #[.val (.ref a1), .val (.int x), .val (.int (0 : Int32)), .val (.int (0 : Int32)), .val (.int (0 : Int32))] [(.ref a1), (.int x)])) (fun t k => XS.aloadN X3.here hx rfl (hb hby d6_46) rfl rfl  k) ?_
    obtain ⟨T5, X5, e5, st5⟩ := getF X3 hx hZ hown (host := "") (Or.inl (hw _ (List.mem_of_getElem? (i := 15) rfl))) Via.refl e3 F_b (g := (mkF m 47 #[.val (.ref a1), .val (.int x), .val (.int (0 : Int32)), .val (.int (0 : Int32)), .val (.int (0 : Int32))] [(.ref a1), (.int x)])) rfl rfl (hb hby d6_47)
    refine own_go (W1 := T5.setTop (mkF m 50 #[.val (.ref a1), .val (.int x), .val (.int (0 : Int32)), .val (.int (0 : Int32)), .val (.int (0 : Int32))] [(.ref u), (.int x)])) (st5) ?_
    refine own_go (W1 := T5.setTop (mkF m 51 #[.val (.ref a1), .val (.int x), .val (.int (0 : Int32)), .val (.int (0 : Int32)), .val (.int (0 : Int32))] [(.int (2 : Int32)), (.ref u), (.int x)])) (fun t k => XS.iconst X5.here hx rfl (hb hby d6_50) k) ?_
    refine own_go (W1 := T5.setTop (mkF m 53 #[.val (.ref a1), .val (.int x), .val (.int (0 : Int32)), .val (.int (0 : Int32)), .val (.int (0 : Int32))] [(.int (0 : Int32)), (.int (2 : Int32)), (.ref u), (.int x)])) (fun t k => XS.iload X5.here hx rfl (hb hby d6_51) rfl  k) ?_
    refine own_go (W1 := T5.setTop (mkF m 54 #[.val (.ref a1), .val (.int x), .val (.int (0 : Int32)), .val (.int (0 : Int32)), .val (.int (0 : Int32))] [(.int ((2 : Int32) * (0 : Int32))), (.ref u), (.int x)])) (fun t k => XS.imul X5.here hx rfl (hb hby d6_53) rfl k) ?_
    rw [show ((2 : Int32) * (0 : Int32)) = (0 : Int32) from by decide]
    refine own_go (W1 := T5.setTop (mkF m 55 #[.val (.ref a1), .val (.int x), .val (.int (0 : Int32)), .val (.int (0 : Int32)), .val (.int (0 : Int32))] [(.int (1 : Int32)), (.int (0 : Int32)), (.ref u), (.int x)])) (fun t k => XS.iconst X5.here hx rfl (hb hby d6_54) k) ?_
    refine own_go (W1 := T5.setTop (mkF m 56 #[.val (.ref a1), .val (.int x), .val (.int (0 : Int32)), .val (.int (0 : Int32)), .val (.int (0 : Int32))] [(.int ((0 : Int32) + (1 : Int32))), (.ref u), (.int x)])) (fun t k => XS.iadd X5.here hx rfl (hb hby d6_55) rfl k) ?_
    rw [show ((0 : Int32) + (1 : Int32)) = (1 : Int32) from by decide]
    obtain ⟨cl6, Ar6, q6, S6, M6, H6, G6⟩ := id V_u
    have hin6 : ¬ ((1 : Int32) < 0 ∨ cl6.slots.size ≤ ((1 : Int32)).toNatClampNeg) := inb_of S6 ⟨by decide, by decide⟩
    have hat6 : cl6.slots[((1 : Int32)).toNatClampNeg]? = some (.int g) := Has.at H6 hin6 rfl
    refine own_go (W1 := T5.setTop (mkF m 57 #[.val (.ref a1), .val (.int x), .val (.int (0 : Int32)), .val (.int (0 : Int32)), .val (.int (0 : Int32))] [(.int g), (.int x)])) (X5.iaload hx (j := (1 : Int32)) (v := (.int g)) (by rw [e5]; exact Ar6.1) (State.isArrayOf_alike hZ.alike Ar6.2.1) Ar6.2.2 hin6 hat6 (g := (mkF m 56 #[.val (.ref a1), .val (.int x), .val (.int (0 : Int32)), .val (.int (0 : Int32)), .val (.int (0 : Int32))] [(.int (1 : Int32)), (.ref u), (.int x)])) rfl rfl (hb hby d6_56)) ?_
    by_cases hc57_2 : g < x
    · skip
      refine own_go (W1 := T5.setTop (mkF m 60 #[.val (.ref a1), .val (.int x), .val (.int (0 : Int32)), .val (.int (0 : Int32)), .val (.int (0 : Int32))] [])) (fun t k => XS.icmpNo X5.here hx rfl (hb hby d6_57) rfl (tlt (show g < x from hc57_2)).2.2.2 k) ?_
      refine own_go (W1 := T5.setTop (mkF m 62 #[.val (.ref a1), .val (.int x), .val (.int (0 : Int32)), .val (.int (0 : Int32)), .val (.int (0 : Int32))] [(.int (0 : Int32))])) (fun t k => XS.iload X5.here hx rfl (hb hby d6_60) rfl  k) ?_
      refine own_go (W1 := T5.setTop (mkF m 63 #[.val (.ref a1), .val (.int x), .val (.int (0 : Int32)), .val (.int (0 : Int32)), .val (.int (0 : Int32))] [(.int (1 : Int32)), (.int (0 : Int32))])) (fun t k => XS.iconst X5.here hx rfl (hb hby d6_62) k) ?_
      refine own_go (W1 := T5.setTop (mkF m 64 #[.val (.ref a1), .val (.int x), .val (.int (0 : Int32)), .val (.int (0 : Int32)), .val (.int (0 : Int32))] [(.int ((0 : Int32) + (1 : Int32)))])) (fun t k => XS.iadd X5.here hx rfl (hb hby d6_63) rfl k) ?_
      rw [show ((0 : Int32) + (1 : Int32)) = (1 : Int32) from by decide]
      refine own_go (W1 := T5.setTop (mkF m 65 #[.val (.ref a1), .val (.int x), .val (.int (1 : Int32)), .val (.int (0 : Int32)), .val (.int (0 : Int32))] [])) (fun t k => XS.istoreN X5.here hx rfl (hb hby d6_64) rfl (l' := #[.val (.ref a1), .val (.int x), .val (.int (1 : Int32)), .val (.int (0 : Int32)), .val (.int (0 : Int32))]) rfl k) ?_
      refine own_go (W1 := T5.setTop (mkF m 70 #[.val (.ref a1), .val (.int x), .val (.int (1 : Int32)), .val (.int (0 : Int32)), .val (.int (0 : Int32))] [])) (fun t k => XS.goto X5.here hx rfl (pc0 := 65) (pc' := 70) rfl (hb hby d6_65) (by decide) (by decide) k) ?_
      refine own_go (W1 := T5.setTop (mkF m 12 #[.val (.ref a1), .val (.int x), .val (.int (1 : Int32)), .val (.int (0 : Int32)), .val (.int (0 : Int32))] [])) (fun t k => XS.goto X5.here hx rfl (pc0 := 70) (pc' := 12) rfl (hb hby d6_70) (by decide) (by decide) k) ?_
      refine own_go (W1 := T5.setTop (mkF m 13 #[.val (.ref a1), .val (.int x), .val (.int (1 : Int32)), .val (.int (0 : Int32)), .val (.int (0 : Int32))] [(.int (1 : Int32))])) (fun t k => XS.iloadN X5.here hx rfl (hb hby d6_12) rfl  k) ?_
      refine own_go (W1 := T5.setTop (mkF m 14 #[.val (.ref a1), .val (.int x), .val (.int (1 : Int32)), .val (.int (0 : Int32)), .val (.int (0 : Int32))] [(.int (0 : Int32)), (.int (1 : Int32))])) (fun t k => XS.iloadN X5.here hx rfl (hb hby d6_13) rfl  k) ?_
      refine own_go (W1 := T5.setTop (mkF m 73 #[.val (.ref a1), .val (.int x), .val (.int (1 : Int32)), .val (.int (0 : Int32)), .val (.int (0 : Int32))] [])) (fun t k => XS.icmpYes X5.here hx rfl (pc0 := 14) (pc' := 73) rfl (hb hby d6_14) rfl (tlt (show (0 : Int32) < (1 : Int32) from (by decide))).2.2.1 (by decide) (by decide) k) ?_
      refine own_go (W1 := T5.setTop (mkF m 74 #[.val (.ref a1), .val (.int x), .val (.int (1 : Int32)), .val (.int (0 : Int32)), .val (.int (0 : Int32))] [(.int (0 : Int32))])) (fun t k => XS.iconst X5.here hx rfl (hb hby d6_73) k) ?_
      exact own_retN X5 hx (t := .boolean) Bd.returns (by simp) (hb hby d6_74) hlk (by decide) (by decide) ⟨by rw [own_b0 (show ¬ own_in f g x from by simp [own_in, hc34_1, hc57_2])]; rfl, N0, e5⟩
    · skip
      refine own_go (W1 := T5.setTop (mkF m 68 #[.val (.ref a1), .val (.int x), .val (.int (0 : Int32)), .val (.int (0 : Int32)), .val (.int (0 : Int32))] [])) (fun t k => XS.icmpYes X5.here hx rfl (pc0 := 57) (pc' := 68) rfl (hb hby d6_57) rfl (flt (show ¬ (g < x) from hc57_2)).2.2.2 (by decide) (by decide) k) ?_
      refine own_go (W1 := T5.setTop (mkF m 69 #[.val (.ref a1), .val (.int x), .val (.int (0 : Int32)), .val (.int (0 : Int32)), .val (.int (0 : Int32))] [(.int (1 : Int32))])) (fun t k => XS.iconst X5.here hx rfl (hb hby d6_68) k) ?_
      exact own_retN X5 hx (t := .boolean) Bd.returns (by simp) (hb hby d6_69) hlk (by decide) (by decide) ⟨by rw [own_b1 (show own_in f g x from by simp [own_in, hc34_1, hc57_2])]; rfl, N0, e5⟩
theorem d4_0 : decode prog_34_method_9_code 0 = .ok (.aload_n 0, 1) := by decide +kernel
theorem d4_1 : decode prog_34_method_9_code 1 = .ok (.getfield 7, 3) := by decide +kernel
theorem d4_4 : decode prog_34_method_9_code 4 = .ok (.arraylength, 1) := by decide +kernel
theorem d4_5 : decode prog_34_method_9_code 5 = .ok (.iconst 2, 1) := by decide +kernel
theorem d4_6 : decode prog_34_method_9_code 6 = .ok (.idiv, 1) := by decide +kernel
theorem d4_7 : decode prog_34_method_9_code 7 = .ok (.i2l, 1) := by decide +kernel
theorem d4_8 : decode prog_34_method_9_code 8 = .ok (.lreturn, 1) := by decide +kernel
theorem ef_rm4 (m : MethodId) (x0 : Addr)  : entryFrame m #[(.ref x0)] 1 = mkF m 0 #[.val (.ref x0)] [] := by first | (simp [entryFrame, mkF, argsToLocals, Value.category]; done) | rfl
set_option maxRecDepth 65536 in
set_option maxHeartbeats 40000000 in
theorem rm4 (l : Launch) (Z : State) (a0 : Array Value) (hw : ∀ d ∈ tables_1, d.before a0 Z = true) (ws : List Jvm.Cond) (a1 u : Addr) (ku : ClassId) (f g : Int32) (h0 : Heap) (n0 : Nat) (Z0 : n0 ≤ h0.size) (F_b : Fld Z h0 a1 "com/example/osage/osage/xpath/CodePointSet" "bounds" "[I" (.ref u)) (V_u : Arv Z h0 u ku .int 2 [(.int f), (.int g)] (.int 0)) :
    MetFree l (⟨"com/example/osage/osage/xpath/CodePointSet", "ranges", "()J"⟩ : MethodName) (head1 (Jvm.Cond.code (⟨"com/example/osage/osage/xpath/CodePointSet", "ranges", "()J"⟩ : MethodName) prog_34_method_9_code 1 (some .long) :: ws) ({ frames := 0, cells := 0, slots := 0, locals := 0 } : Room)) (fun a U => a = #[(.ref a1)] ∧ Z.Warmed39 U.vm ∧ U.heap = h0) (fun _ _ _ _ _ => True) (fun _ U o U' => ∃ v L, o = .returned v ∧ own_Q (.long 1) h0 n0 v U'.heap L ∧ FrameEnd U o U' L ({ frames := 0, cells := 0, slots := 0, locals := 0 } : Room).cells ({ frames := 0, cells := 0, slots := 0, locals := 0 } : Room).slots) := by
  refine MetFree.of_bodySF (plainFor_of_name own_pn_com_example_osage_osage_xpath_CodePointSet) hisR ?_
  intro p e s m args below meth c s₁ Bd hml0 hP hK
  obtain ⟨rfl, hZ, hh⟩ := hP
  have hx := Bd.exec
  have hby := Bd.bytes
  have hlk := BodyLoose.notSynchronized Bd
  have hml : c.maxLocals = 1 := hml0
  have hown : s.vm.findClass "com/example/osage/osage/xpath/CodePointSet" = some m.cls := findClass_of_methodNamed Bd.named
  have hnm := (name_of_methodNamed Bd.named Bd.method).1
  have X0 : Stand p l e ({ frames := 0, cells := 0, slots := 0, locals := 0 } : Room) s m #[(.ref a1)] below meth c s₁ [] 0 0 := Stand.of_body Bd
  have e0 : s₁.heap = h0 := by rw [← hh, Bd.state]; rfl
  have N0 := Fr.nil n0
  show own_Ends p e below s (own_Q (.long 1) h0 n0) 0 0 (s₁.setTop (entryFrame m #[(.ref a1)] 1))
  refine own_go (W1 := s₁.setTop (mkF m 0 #[.val (.ref a1)] [])) (fun t k => castTop (ef_rm4 m a1 ) k) ?_
  refine own_go (W1 := s₁.setTop (mkF m 1 #[.val (.ref a1)] [(.ref a1)])) (fun t k => XS.aloadN X0.here hx rfl (hb hby d4_0) rfl rfl  k) ?_
  obtain ⟨T1, X1, e1, st1⟩ := getF X0 hx hZ hown (host := "") (Or.inl (hw _ (List.mem_of_getElem? (i := 15) rfl))) Via.refl e0 F_b (g := (mkF m 1 #[.val (.ref a1)] [(.ref a1)])) rfl rfl (hb hby d4_1)
  refine own_go (W1 := T1.setTop (mkF m 4 #[.val (.ref a1)] [(.ref u)])) (st1) ?_
  obtain ⟨cl2, Ar2, -, S2, M2, -, -⟩ := id V_u
  have al2 := X1.arraylength hx (by rw [e1]; exact Ar2.1) (State.isArrayOf_alike hZ.alike Ar2.2.1) (g := (mkF m 4 #[.val (.ref a1)] [(.ref u)])) rfl rfl (hb hby d4_4)
  rw [len_of S2 M2] at al2
  refine own_go (W1 := T1.setTop (mkF m 5 #[.val (.ref a1)] [(.int (2 : Int32))])) (al2) ?_
  refine own_go (W1 := T1.setTop (mkF m 6 #[.val (.ref a1)] [(.int (2 : Int32)), (.int (2 : Int32))])) (fun t k => XS.iconst X1.here hx rfl (hb hby d4_5) k) ?_
  refine own_go (W1 := T1.setTop (mkF m 7 #[.val (.ref a1)] [(.int ((2 : Int32) / (2 : Int32)))])) (fun t k => XS.idiv X1.here hx rfl (hb hby d4_6) rfl (by decide) k) ?_
  rw [show ((2 : Int32) / (2 : Int32)) = (1 : Int32) from by decide]
  refine own_go (W1 := T1.setTop (mkF m 8 #[.val (.ref a1)] [(.long ((1 : Int32).toInt64))])) (fun t k => XS.i2l X1.here hx rfl (hb hby d4_7) rfl k) ?_
  rw [show ((1 : Int32).toInt64) = (1 : Int64) from by decide]
  exact own_retJ X1 hx Bd.returns (hb hby d4_8) hlk (by decide) (by decide) ⟨rfl, N0, e1⟩
theorem d2_0 : decode prog_34_method_1_code 0 = .ok (.aload_n 0, 1) := by decide +kernel
theorem d2_1 : decode prog_34_method_1_code 1 = .ok (.invokespecial 1, 3) := by decide +kernel
theorem d2_4 : decode prog_34_method_1_code 4 = .ok (.aload_n 0, 1) := by decide +kernel
theorem d2_5 : decode prog_34_method_1_code 5 = .ok (.aload_n 1, 1) := by decide +kernel
theorem d2_6 : decode prog_34_method_1_code 6 = .ok (.putfield 7, 3) := by decide +kernel
theorem d2_9 : decode prog_34_method_1_code 9 = .ok (.return_, 1) := by decide +kernel
theorem ef_rm2 (m : MethodId) (x0 : Addr) (x1 : Addr)  : entryFrame m #[(.ref x0), (.ref x1)] 2 = mkF m 0 #[.val (.ref x0), .val (.ref x1)] [] := by first | (simp [entryFrame, mkF, argsToLocals, Value.category]; done) | rfl
set_option maxRecDepth 65536 in
set_option maxHeartbeats 40000000 in
theorem rm2 (l : Launch) (Z : State) (a0 : Array Value) (hw : ∀ d ∈ tables_1, d.before a0 Z = true) (ws : List Jvm.Cond) (a1 u : Addr) (h0 : Heap) (n0 : Nat) (Z0 : n0 ≤ h0.size) (E_a1 : Exa Z h0 a1 "com/example/osage/osage/xpath/CodePointSet") (F_b : Fld Z h0 a1 "com/example/osage/osage/xpath/CodePointSet" "bounds" "[I" .null) (ge_a1 : n0 ≤ a1) :
    MetFree l (⟨"com/example/osage/osage/xpath/CodePointSet", "<init>", "([I)V"⟩ : MethodName) (head1 (Jvm.Cond.code (⟨"com/example/osage/osage/xpath/CodePointSet", "<init>", "([I)V"⟩ : MethodName) prog_34_method_1_code 2 none :: ws) ({ frames := 1, cells := 0, slots := 0, locals := 12 } : Room)) (fun a U => a = #[(.ref a1), (.ref u)] ∧ Z.Warmed39 U.vm ∧ U.heap = h0) (fun _ _ _ _ _ => True) (fun _ U o U' => ∃ v L, o = .returned v ∧ own_Qi Z a1 u h0 n0 v U'.heap L ∧ FrameEnd U o U' L ({ frames := 1, cells := 0, slots := 0, locals := 12 } : Room).cells ({ frames := 1, cells := 0, slots := 0, locals := 12 } : Room).slots) := by
  refine MetFree.of_bodySF (plainFor_of_name own_pn_com_example_osage_osage_xpath_CodePointSet) hisR ?_
  intro p e s m args below meth c s₁ Bd hml0 hP hK
  obtain ⟨rfl, hZ, hh⟩ := hP
  have hx := Bd.exec
  have hby := Bd.bytes
  have hlk := BodyLoose.notSynchronized Bd
  have hml : c.maxLocals = 2 := hml0
  have hown : s.vm.findClass "com/example/osage/osage/xpath/CodePointSet" = some m.cls := findClass_of_methodNamed Bd.named
  have hnm := (name_of_methodNamed Bd.named Bd.method).1
  have X0 : Stand p l e ({ frames := 1, cells := 0, slots := 0, locals := 12 } : Room) s m #[(.ref a1), (.ref u)] below meth c s₁ [] 0 0 := Stand.of_body Bd
  have e0 : s₁.heap = h0 := by rw [← hh, Bd.state]; rfl
  have N0 := Fr.nil n0
  show own_Ends p e below s (own_Qi Z a1 u h0 n0) 0 0 (s₁.setTop (entryFrame m #[(.ref a1), (.ref u)] 2))
  refine own_go (W1 := s₁.setTop (mkF m 0 #[.val (.ref a1), .val (.ref u)] [])) (fun t k => castTop (ef_rm2 m a1 u ) k) ?_
  have K0 := Keep.refl h0 [a1]
  refine own_go (W1 := s₁.setTop (mkF m 1 #[.val (.ref a1), .val (.ref u)] [(.ref a1)])) (fun t k => XS.aloadN X0.here hx rfl (hb hby d2_0) rfl rfl  k) ?_
  obtain ⟨T1, X1, e1, st1⟩ := initO X0 hx hZ hown (hw _ (List.mem_of_getElem? (i := 12) rfl)) (hw _ (List.mem_of_getElem? (i := 13) rfl)) (hw _ (List.mem_of_getElem? (i := 14) rfl)) e0 (g := (mkF m 1 #[.val (.ref a1), .val (.ref u)] [(.ref a1)])) rfl (by rw [hml]; rfl) rfl (hb hby d2_1) (by decide) (W := 0) (by show 2 * 0 + _ ≤ _; exact Nat.le_of_eq rfl) (by decide)
  refine own_go (W1 := T1.setTop (mkF m 4 #[.val (.ref a1), .val (.ref u)] [])) (st1) ?_
  refine own_go (W1 := T1.setTop (mkF m 5 #[.val (.ref a1), .val (.ref u)] [(.ref a1)])) (fun t k => XS.aloadN X1.here hx rfl (hb hby d2_4) rfl rfl  k) ?_
  refine own_go (W1 := T1.setTop (mkF m 6 #[.val (.ref a1), .val (.ref u)] [(.ref u), (.ref a1)])) (fun t k => XS.aloadN X1.here hx rfl (hb hby d2_5) rfl rfl  k) ?_
  obtain ⟨T2, h2, X2, e2, W2, st2⟩ := putF X1 hx hZ hown (host := "") (Or.inl (hw _ (List.mem_of_getElem? (i := 15) rfl))) Via.refl e1 F_b E_a1 (Or.inr ⟨(hw _ (List.mem_of_getElem? (i := 16) rfl)), rfl, hnm⟩) (hw _ (List.mem_of_getElem? (i := 7) rfl)) (ty := (.array .int)) (by decide) rfl rfl (g := (mkF m 6 #[.val (.ref a1), .val (.ref u)] [(.ref u), (.ref a1)])) rfl rfl (hb hby d2_6)
  have E_a1 := E_a1.wr W2
  have F_b := F_b.same W2
  have Z2 : n0 ≤ h2.size := by rw [W2.size]; exact Z0
  have K2 := K0.wr W2 (Or.inl (List.mem_of_getElem? (i := 0) rfl))
  have N2 := Fr.snoc X2 N0 ge_a1
  refine own_go (W1 := T2.setTop (mkF m 9 #[.val (.ref a1), .val (.ref u)] [])) (st2) ?_
  exact own_retV X2 hx Bd.returns (hb hby d2_9) hlk (by decide) (by decide) (by rw [e2]; exact ⟨rfl, N2, K2, E_a1, F_b⟩)
theorem d1_0 : decode prog_34_method_2_code 0 = .ok (.new 8, 3) := by decide +kernel
theorem d1_3 : decode prog_34_method_2_code 3 = .ok (.dup, 1) := by decide +kernel
theorem d1_4 : decode prog_34_method_2_code 4 = .ok (.iconst 2, 1) := by decide +kernel
theorem d1_5 : decode prog_34_method_2_code 5 = .ok (.newarray .int, 2) := by decide +kernel
theorem d1_7 : decode prog_34_method_2_code 7 = .ok (.dup, 1) := by decide +kernel
theorem d1_8 : decode prog_34_method_2_code 8 = .ok (.iconst 0, 1) := by decide +kernel
theorem d1_9 : decode prog_34_method_2_code 9 = .ok (.iload_n 0, 1) := by decide +kernel
theorem d1_10 : decode prog_34_method_2_code 10 = .ok (.iastore, 1) := by decide +kernel
theorem d1_11 : decode prog_34_method_2_code 11 = .ok (.dup, 1) := by decide +kernel
theorem d1_12 : decode prog_34_method_2_code 12 = .ok (.iconst 1, 1) := by decide +kernel
theorem d1_13 : decode prog_34_method_2_code 13 = .ok (.iload_n 1, 1) := by decide +kernel
theorem d1_14 : decode prog_34_method_2_code 14 = .ok (.iastore, 1) := by decide +kernel
theorem d1_15 : decode prog_34_method_2_code 15 = .ok (.invokespecial 13, 3) := by decide +kernel
theorem own_pd1 : parseMethodDescriptor "([I)V" = some ⟨[(.array .int)], none⟩ := by decide +kernel
theorem d1_18 : decode prog_34_method_2_code 18 = .ok (.areturn, 1) := by decide +kernel
theorem ef_rm1 (m : MethodId) (x0 : Int32) (x1 : Int32)  : entryFrame m #[(.int x0), (.int x1)] 2 = mkF m 0 #[.val (.int x0), .val (.int x1)] [] := by first | (simp [entryFrame, mkF, argsToLocals, Value.category]; done) | rfl
set_option maxRecDepth 65536 in
set_option maxHeartbeats 40000000 in
theorem rm1 (l : Launch) (Z : State) (a0 : Array Value) (hw : ∀ d ∈ tables_1, d.before a0 Z = true) (ws : List Jvm.Cond) (f g : Int32) (h0 : Heap) (n0 : Nat) (Z0 : n0 ≤ h0.size)  :
    MetFree l (⟨"com/example/osage/osage/xpath/CodePointSet", "range", "(II)Lcom/example/osage/osage/xpath/CodePointSet;"⟩ : MethodName) (head1 (Jvm.Cond.code (⟨"com/example/osage/osage/xpath/CodePointSet", "range", "(II)Lcom/example/osage/osage/xpath/CodePointSet;"⟩ : MethodName) prog_34_method_2_code 2 (some (.object "com/example/osage/osage/xpath/CodePointSet")) :: ws) ({ frames := 2, cells := 2, slots := 3, locals := 26 } : Room)) (fun a U => a = #[(.int f), (.int g)] ∧ Z.Warmed39 U.vm ∧ U.heap = h0) (fun _ _ _ _ _ => True) (fun _ U o U' => ∃ v L, o = .returned v ∧ own_Qr Z f g h0 n0 v U'.heap L ∧ FrameEnd U o U' L ({ frames := 2, cells := 2, slots := 3, locals := 26 } : Room).cells ({ frames := 2, cells := 2, slots := 3, locals := 26 } : Room).slots) := by
  refine MetFree.of_bodySF (plainFor_of_name own_pn_com_example_osage_osage_xpath_CodePointSet) hisR ?_
  intro p e s m args below meth c s₁ Bd hml0 hP hK
  obtain ⟨rfl, hZ, hh⟩ := hP
  have hx := Bd.exec
  have hby := Bd.bytes
  have hlk := BodyLoose.notSynchronized Bd
  have hml : c.maxLocals = 2 := hml0
  have hown : s.vm.findClass "com/example/osage/osage/xpath/CodePointSet" = some m.cls := findClass_of_methodNamed Bd.named
  have hnm := (name_of_methodNamed Bd.named Bd.method).1
  have X0 : Stand p l e ({ frames := 2, cells := 2, slots := 3, locals := 26 } : Room) s m #[(.int f), (.int g)] below meth c s₁ [] 0 0 := Stand.of_body Bd
  have e0 : s₁.heap = h0 := by rw [← hh, Bd.state]; rfl
  have N0 := Fr.nil n0
  show own_Ends p e below s (own_Qr Z f g h0 n0) 2 3 (s₁.setTop (entryFrame m #[(.int f), (.int g)] 2))
  refine own_go (W1 := s₁.setTop (mkF m 0 #[.val (.int f), .val (.int g)] [])) (fun t k => castTop (ef_rm1 m f g ) k) ?_
  have K0 := Keep.refl h0 []
  obtain ⟨T1, h1, X1, e1, E1, A1, D1, -, st1⟩ := newO X0 hx hZ hown (hw _ (List.mem_of_getElem? (i := 6) rfl)) (hw _ (List.mem_of_getElem? (i := 7) rfl)) (hw _ (List.mem_of_getElem? (i := 4) rfl)) e0 (g := (mkF m 0 #[.val (.int f), .val (.int g)] [])) rfl (hb hby d1_0) (by decide) (by decide)
  obtain ⟨b, g1⟩ : ∃ z, z = h0.size := ⟨_, rfl⟩
  have ge_b : n0 ≤ b := Nat.le_trans Z0 (Nat.le_of_eq g1.symm)
  have sz_b : h0.size ≤ b := Nat.le_trans K0.1 (Nat.le_of_eq g1.symm)
  rw [← g1] at A1 D1 st1
  have Z1 : n0 ≤ h1.size := Nat.le_trans Z0 E1.1
  have K1 := K0.ext E1
  have E_b := A1
  have F_bounds_b : Fld Z h1 b "com/example/osage/osage/xpath/CodePointSet" "bounds" "[I" .null := D1 (Or.inr (hw _ (List.mem_of_getElem? (i := 16) rfl))) (ty := (.array .int)) (by decide)
  refine own_go (W1 := T1.setTop (mkF m 3 #[.val (.int f), .val (.int g)] [(.ref b)])) (st1) ?_
  refine own_go (W1 := T1.setTop (mkF m 4 #[.val (.int f), .val (.int g)] [(.ref b), (.ref b)])) (fun t k => XS.dup X1.here hx rfl (hb hby d1_3) rfl rfl k) ?_
  refine own_go (W1 := T1.setTop (mkF m 5 #[.val (.int f), .val (.int g)] [(.int (2 : Int32)), (.ref b), (.ref b)])) (fun t k => XS.iconst X1.here hx rfl (hb hby d1_4) k) ?_
  obtain ⟨T2, h2, k2, X2, e2, E2, A2, st2⟩ := newP X1 hx hZ (hw _ (List.mem_of_getElem? (i := 8) rfl)) e1 (g := (mkF m 5 #[.val (.int f), .val (.int g)] [(.int (2 : Int32)), (.ref b), (.ref b)])) rfl (hb hby d1_5) rfl (by decide) (cap := 2) (by decide) (by decide) (by decide) (by decide)
  obtain ⟨u, g2⟩ : ∃ z, z = h1.size := ⟨_, rfl⟩
  have ne_b_u : b ≠ u := Nat.ne_of_lt (Nat.lt_of_lt_of_le E_b.lt (Nat.le_of_eq g2.symm))
  have ge_u : n0 ≤ u := Nat.le_trans Z1 (Nat.le_of_eq g2.symm)
  have sz_u : h0.size ≤ u := Nat.le_trans K1.1 (Nat.le_of_eq g2.symm)
  rw [← g2] at A2 st2
  have E_b := E_b.ext E2
  have F_bounds_b := F_bounds_b.ext E2
  have Z2 : n0 ≤ h2.size := Nat.le_trans Z1 E2.1
  have K2 := K1.ext E2
  have V_u : Arv Z h2 u k2 .int (2 : Int32) [(.int (0 : Int32)), (.int (0 : Int32))] (.int (0 : Int32)) := (Arv.new A2 (by decide)).pad (pad_rep [] (.int (0 : Int32)) 2)
  refine own_go (W1 := T2.setTop (mkF m 7 #[.val (.int f), .val (.int g)] [(.ref u), (.ref b), (.ref b)])) (st2) ?_
  refine own_go (W1 := T2.setTop (mkF m 8 #[.val (.int f), .val (.int g)] [(.ref u), (.ref u), (.ref b), (.ref b)])) (fun t k => XS.dup X2.here hx rfl (hb hby d1_7) rfl rfl k) ?_
  refine own_go (W1 := T2.setTop (mkF m 9 #[.val (.int f), .val (.int g)] [(.int (0 : Int32)), (.ref u), (.ref u), (.ref b), (.ref b)])) (fun t k => XS.iconst X2.here hx rfl (hb hby d1_8) k) ?_
  refine own_go (W1 := T2.setTop (mkF m 10 #[.val (.int f), .val (.int g)] [(.int f), (.int (0 : Int32)), (.ref u), (.ref u), (.ref b), (.ref b)])) (fun t k => XS.iloadN X2.here hx rfl (hb hby d1_9) rfl  k) ?_
  obtain ⟨cl3, Ar3, q3, S3, M3, H3, G3⟩ := id V_u
  have hin3 : ¬ ((0 : Int32) < 0 ∨ cl3.slots.size ≤ ((0 : Int32)).toNatClampNeg) := inb_of S3 ⟨by decide, by decide⟩
  obtain ⟨T3, h3, X3, e3, W3, st3⟩ := stI X2 hx hZ e2 Ar3 (j := (0 : Int32)) hin3 (g := (mkF m 10 #[.val (.int f), .val (.int g)] [(.int f), (.int (0 : Int32)), (.ref u), (.ref u), (.ref b), (.ref b)])) rfl rfl (hb hby d1_10)
  have V_u : Arv Z h3 u k2 .int (2 : Int32) [(.int f), (.int (0 : Int32))] (.int (0 : Int32)) := Arv.set Ar3 q3 S3 M3 H3 G3 rfl W3 0 rfl (Nat.le_of_ble_eq_true rfl)
  have E_b := E_b.wr W3
  have F_bounds_b := F_bounds_b.other W3 (Or.inl ne_b_u)
  have Z3 : n0 ≤ h3.size := by rw [W3.size]; exact Z2
  have K3 := K2.wr W3 (Or.inr sz_u)
  have N3 := Fr.snoc X3 N0 ge_u
  refine own_go (W1 := T3.setTop (mkF m 11 #[.val (.int f), .val (.int g)] [(.ref u), (.ref b), (.ref b)])) (st3) ?_
  refine own_go (W1 := T3.setTop (mkF m 12 #[.val (.int f), .val (.int g)] [(.ref u), (.ref u), (.ref b), (.ref b)])) (fun t k => XS.dup X3.here hx rfl (hb hby d1_11) rfl rfl k) ?_
  refine own_go (W1 := T3.setTop (mkF m 13 #[.val (.int f), .val (.int g)] [(.int (1 : Int32)), (.ref u), (.ref u), (.ref b), (.ref b)])) (fun t k => XS.iconst X3.here hx rfl (hb hby d1_12) k) ?_
  refine own_go (W1 := T3.setTop (mkF m 14 #[.val (.int f), .val (.int g)] [(.int g), (.int (1 : Int32)), (.ref u), (.ref u), (.ref b), (.ref b)])) (fun t k => XS.iloadN X3.here hx rfl (hb hby d1_13) rfl  k) ?_
  obtain ⟨cl4, Ar4, q4, S4, M4, H4, G4⟩ := id V_u
  have hin4 : ¬ ((1 : Int32) < 0 ∨ cl4.slots.size ≤ ((1 : Int32)).toNatClampNeg) := inb_of S4 ⟨by decide, by decide⟩
  obtain ⟨T4, h4, X4, e4, W4, st4⟩ := stI X3 hx hZ e3 Ar4 (j := (1 : Int32)) hin4 (g := (mkF m 14 #[.val (.int f), .val (.int g)] [(.int g), (.int (1 : Int32)), (.ref u), (.ref u), (.ref b), (.ref b)])) rfl rfl (hb hby d1_14)
  have V_u : Arv Z h4 u k2 .int (2 : Int32) [(.int f), (.int g)] (.int (0 : Int32)) := Arv.set Ar4 q4 S4 M4 H4 G4 rfl W4 1 rfl (Nat.le_of_ble_eq_true rfl)
  have E_b := E_b.wr W4
  have F_bounds_b := F_bounds_b.other W4 (Or.inl ne_b_u)
  have Z4 : n0 ≤ h4.size := by rw [W4.size]; exact Z3
  have K4 := K3.wr W4 (Or.inr sz_u)
  have N4 := Fr.snoc X4 N3 ge_u
  refine own_go (W1 := T4.setTop (mkF m 15 #[.val (.int f), .val (.int g)] [(.ref u), (.ref b), (.ref b)])) (st4) ?_
  obtain ⟨_, _, ⟨T5, L5, k5, n5⟩, -, X5, ⟨Lc5, hQ5, l5, y5, z5⟩, st5⟩ := X4.specialBack hx (y := (⟨"com/example/osage/osage/xpath/CodePointSet", "<init>", "([I)V"⟩ : MethodName)) rfl hown (mvT hZ (hw _ (List.mem_of_getElem? (i := 9) rfl))) (mvT hZ (hw _ (List.mem_of_getElem? (i := 10) rfl))) (mvT hZ (hw _ (List.mem_of_getElem? (i := 11) rfl))) (by decide) (backOf (W := 1) (rm2 l Z a0 hw [] b u h4 n0 Z4 E_b F_bounds_b ge_b) hZ (hw _ (List.mem_of_getElem? (i := 11) rfl)) (hw _ (List.mem_of_getElem? (i := 4) rfl)) (by decide) (by decide)) (g := (mkF m 15 #[.val (.int f), .val (.int g)] [(.ref u), (.ref b), (.ref b)])) rfl (by rw [hml]; rfl) (Steps.refl _) (a := b) (argsL := [(.ref u)]) (rest := [(.ref b)]) (lenOf own_pd1 rfl) rfl (by show 2 * 0 + _ ≤ _; exact Nat.le_of_eq rfl) (hb hby d1_15) (fun _ _ => ⟨rfl, e4, (by decide : 2 + 0 ≤ _), (by decide : 3 + 0 ≤ _)⟩)
  dsimp only [Pt.U, Pt.locs, Pt.cells, Pt.slots] at X5 l5 y5 z5 st5 hQ5
  subst l5 y5 z5
  obtain ⟨rfl, Nq5, Kq5, Eq5, Fa5⟩ := hQ5
  have E_b := E_b.keep Kq5
  have V_u := V_u.keep Kq5 (ninS (Ne.symm ne_b_u) nin0)
  have Z5 : n0 ≤ T5.heap.size := Nat.le_trans Z4 Kq5.1
  have K5 := K4.trans Kq5 (allS (Or.inr sz_b) all0)
  have N5 := Fr.app N4 Nq5
  have F_bounds_b := Fa5
  refine own_tr (W1 := T5.setTop (mkF m 18 #[.val (.int f), .val (.int g)] [(.ref b)])) st5 ?_
  exact own_retR X5 hx Bd.returns rfl rfl (hb hby d1_18) hlk (by decide) (by decide) ⟨b, u, _, rfl, N5, K5, ge_b, ge_u, E_b, F_bounds_b, V_u⟩
theorem d5_0 : decode method_3_code 0 = .ok (.aload_n 0, 1) := by decide +kernel
theorem d5_1 : decode method_3_code 1 = .ok (.iload_n 3, 1) := by decide +kernel
theorem d5_2 : decode method_3_code 2 = .ok (.invokevirtual 7, 3) := by decide +kernel
theorem own_pd5 : parseMethodDescriptor "(I)Z" = some ⟨[.int], some .boolean⟩ := by decide +kernel
theorem d5_5 : decode method_3_code 5 = .ok (.iload_n 1, 1) := by decide +kernel
theorem d5_6 : decode method_3_code 6 = .ok (.iload_n 2, 1) := by decide +kernel
theorem d5_7 : decode method_3_code 7 = .ok (.iload_n 3, 1) := by decide +kernel
theorem d5_8 : decode method_3_code 8 = .ok (.invokestatic 13, 3) := by decide +kernel
theorem own_pd6 : parseMethodDescriptor "(III)Z" = some ⟨[.int, .int, .int], some .boolean⟩ := by decide +kernel
theorem d5_11 : decode method_3_code 11 = .ok (.if_icmp .ne 7, 3) := by decide +kernel
theorem d5_14 : decode method_3_code 14 = .ok (.iconst 1, 1) := by decide +kernel
theorem d5_15 : decode method_3_code 15 = .ok (.goto 4, 3) := by decide +kernel
theorem d5_19 : decode method_3_code 19 = .ok (.ireturn, 1) := by decide +kernel
theorem ef_rm5 (m : MethodId) (x0 : Addr) (x1 : Int32) (x2 : Int32) (x3 : Int32)  : entryFrame m #[(.ref x0), (.int x1), (.int x2), (.int x3)] 4 = mkF m 0 #[.val (.ref x0), .val (.int x1), .val (.int x2), .val (.int x3)] [] := by first | (simp [entryFrame, mkF, argsToLocals, Value.category]; done) | rfl
set_option maxRecDepth 65536 in
set_option maxHeartbeats 40000000 in
theorem rm5 (l : Launch) (Z : State) (a0 : Array Value) (hw : ∀ d ∈ tables_1, d.before a0 Z = true) (ws : List Jvm.Cond) (a1 u : Addr) (ku : ClassId) (f g x : Int32) (h0 : Heap) (n0 : Nat) (Z0 : n0 ≤ h0.size) (E_a1 : Exa Z h0 a1 "com/example/osage/osage/xpath/CodePointSet") (F_b : Fld Z h0 a1 "com/example/osage/osage/xpath/CodePointSet" "bounds" "[I" (.ref u)) (V_u : Arv Z h0 u ku .int 2 [(.int f), (.int g)] (.int 0)) :
    MetFree l (⟨"com/example/osage/osage/xpath/CodePointSetRangePinLaw", "agrees", "(Lcom/example/osage/osage/xpath/CodePointSet;III)Z"⟩ : MethodName) (head1 (Jvm.Cond.code (⟨"com/example/osage/osage/xpath/CodePointSetRangePinLaw", "agrees", "(Lcom/example/osage/osage/xpath/CodePointSet;III)Z"⟩ : MethodName) method_3_code 4 (some .boolean) :: ws) ({ frames := 1, cells := 0, slots := 0, locals := 16 } : Room)) (fun a U => a = #[(.ref a1), (.int f), (.int g), (.int x)] ∧ Z.Warmed39 U.vm ∧ U.heap = h0) (fun _ _ _ _ _ => True) (fun _ U o U' => ∃ v L, o = .returned v ∧ own_Q (.int 1) h0 n0 v U'.heap L ∧ FrameEnd U o U' L ({ frames := 1, cells := 0, slots := 0, locals := 16 } : Room).cells ({ frames := 1, cells := 0, slots := 0, locals := 16 } : Room).slots) := by
  refine MetFree.of_bodySF (plainFor_of_name own_pn_com_example_osage_osage_xpath_CodePointSetRangePinLaw) hisR ?_
  intro p e s m args below meth c s₁ Bd hml0 hP hK
  obtain ⟨rfl, hZ, hh⟩ := hP
  have hx := Bd.exec
  have hby := Bd.bytes
  have hlk := BodyLoose.notSynchronized Bd
  have hml : c.maxLocals = 4 := hml0
  have hown : s.vm.findClass "com/example/osage/osage/xpath/CodePointSetRangePinLaw" = some m.cls := findClass_of_methodNamed Bd.named
  have hnm := (name_of_methodNamed Bd.named Bd.method).1
  have X0 : Stand p l e ({ frames := 1, cells := 0, slots := 0, locals := 16 } : Room) s m #[(.ref a1), (.int f), (.int g), (.int x)] below meth c s₁ [] 0 0 := Stand.of_body Bd
  have e0 : s₁.heap = h0 := by rw [← hh, Bd.state]; rfl
  have N0 := Fr.nil n0
  show own_Ends p e below s (own_Q (.int 1) h0 n0) 0 0 (s₁.setTop (entryFrame m #[(.ref a1), (.int f), (.int g), (.int x)] 4))
  refine own_go (W1 := s₁.setTop (mkF m 0 #[.val (.ref a1), .val (.int f), .val (.int g), .val (.int x)] [])) (fun t k => castTop (ef_rm5 m a1 f g x ) k) ?_
  refine own_go (W1 := s₁.setTop (mkF m 1 #[.val (.ref a1), .val (.int f), .val (.int g), .val (.int x)] [(.ref a1)])) (fun t k => XS.aloadN X0.here hx rfl (hb hby d5_0) rfl rfl  k) ?_
  refine own_go (W1 := s₁.setTop (mkF m 2 #[.val (.ref a1), .val (.int f), .val (.int g), .val (.int x)] [(.int x), (.ref a1)])) (fun t k => XS.iloadN X0.here hx rfl (hb hby d5_1) rfl  k) ?_
  obtain ⟨cq1, kq1, q1a, q1b, q1c⟩ := isOf hZ e0 E_a1
  obtain ⟨_, _, ⟨T1, L1, k1, n1⟩, -, X1, ⟨Lc1, hQ1, l1, y1, z1⟩, st1⟩ := X0.virtualBack hx (y := (⟨"com/example/osage/osage/xpath/CodePointSet", "contains", "(I)Z"⟩ : MethodName)) (z := (⟨"com/example/osage/osage/xpath/CodePointSet", "contains", "(I)Z"⟩ : MethodName)) hown (mvT hZ (hw _ (List.mem_of_getElem? (i := 26) rfl))) (mvT hZ (hw _ (List.mem_of_getElem? (i := 27) rfl))) (notFace_of_selects (args := #[]) (mvT hZ (hw _ (List.mem_of_getElem? (i := 29) rfl)))) (mvT hZ (hw _ (List.mem_of_getElem? (i := 29) rfl))) (mvT hZ (hw _ (List.mem_of_getElem? (i := 28) rfl))) (by decide) (backOf (W := 0) (rm6 l Z a0 hw [] a1 u ku f g x h0 n0 Z0 F_b V_u) hZ (hw _ (List.mem_of_getElem? (i := 30) rfl)) (hw _ (List.mem_of_getElem? (i := 4) rfl)) (by decide) (by decide)) q1a q1c (g := (mkF m 2 #[.val (.ref a1), .val (.int f), .val (.int g), .val (.int x)] [(.int x), (.ref a1)])) rfl (by rw [hml]; rfl) (Steps.refl _) (argsL := [(.int x)]) (rest := []) (lenOf own_pd5 rfl) rfl (by show 2 * 0 + _ ≤ _; exact Nat.le_of_eq rfl) (hb hby d5_2) (fun _ _ => ⟨rfl, e0, (by decide : 0 + 0 ≤ _), (by decide : 0 + 0 ≤ _)⟩)
  dsimp only [Pt.U, Pt.locs, Pt.cells, Pt.slots] at X1 l1 y1 z1 st1 hQ1
  subst l1 y1 z1
  obtain ⟨rfl, Nq1, eh1⟩ := hQ1
  have N1 := Fr.app N0 Nq1
  refine own_tr (W1 := T1.setTop (mkF m 5 #[.val (.ref a1), .val (.int f), .val (.int g), .val (.int x)] [(.int (own_b2i (own_in f g x)))])) st1 ?_
  refine own_go (W1 := T1.setTop (mkF m 6 #[.val (.ref a1), .val (.int f), .val (.int g), .val (.int x)] [(.int f), (.int (own_b2i (own_in f g x)))])) (fun t k => XS.iloadN X1.here hx rfl (hb hby d5_5) rfl  k) ?_
  refine own_go (W1 := T1.setTop (mkF m 7 #[.val (.ref a1), .val (.int f), .val (.int g), .val (.int x)] [(.int g), (.int f), (.int (own_b2i (own_in f g x)))])) (fun t k => XS.iloadN X1.here hx rfl (hb hby d5_6) rfl  k) ?_
  refine own_go (W1 := T1.setTop (mkF m 8 #[.val (.ref a1), .val (.int f), .val (.int g), .val (.int x)] [(.int x), (.int g), (.int f), (.int (own_b2i (own_in f g x)))])) (fun t k => XS.iloadN X1.here hx rfl (hb hby d5_7) rfl  k) ?_
  obtain ⟨_, _, ⟨T2, L2, k2, n2⟩, -, X2, ⟨Lc2, hQ2, l2, y2, z2⟩, st2⟩ := Jvm.LawKit.callS X1 hx (y := (⟨"com/example/osage/osage/xpath/CodePointSetRangePinLaw", "inside", "(III)Z"⟩ : MethodName)) hown (mvT hZ (hw _ (List.mem_of_getElem? (i := 31) rfl))) (mvT hZ (hw _ (List.mem_of_getElem? (i := 32) rfl))) (mvT hZ (hw _ (List.mem_of_getElem? (i := 24) rfl))) (mvT hZ (hw _ (List.mem_of_getElem? (i := 33) rfl))) (by decide) (backOf (W := 1) (rm7 l Z a0 hw [] f g x h0 n0 Z0) hZ (hw _ (List.mem_of_getElem? (i := 33) rfl)) (hw _ (List.mem_of_getElem? (i := 24) rfl)) (by decide) (by decide)) (g := (mkF m 8 #[.val (.ref a1), .val (.int f), .val (.int g), .val (.int x)] [(.int x), (.int g), (.int f), (.int (own_b2i (own_in f g x)))])) rfl (by rw [hml]; rfl) (argsL := [(.int f), (.int g), (.int x)]) (rest := [(.int (own_b2i (own_in f g x)))]) (lenOf own_pd6 rfl) rfl (by show 2 * 0 + _ ≤ _; exact Nat.le_of_eq rfl) (hb hby d5_8) (fun _ _ => ⟨rfl, eh1, (by decide : 0 + 0 ≤ _), (by decide : 0 + 0 ≤ _)⟩)
  dsimp only [Pt.U, Pt.locs, Pt.cells, Pt.slots] at X2 l2 y2 z2 st2 hQ2
  subst l2 y2 z2
  obtain ⟨rfl, Nq2, eh2⟩ := hQ2
  have N2 := Fr.app N1 Nq2
  refine own_go (W1 := T2.setTop (mkF m 11 #[.val (.ref a1), .val (.int f), .val (.int g), .val (.int x)] [(.int (own_b2i (own_in f g x))), (.int (own_b2i (own_in f g x)))])) st2 ?_
  refine own_go (W1 := T2.setTop (mkF m 14 #[.val (.ref a1), .val (.int f), .val (.int g), .val (.int x)] [])) (fun t k => XS.icmpNo X2.here hx rfl (hb hby d5_11) rfl (teq (show (own_b2i (own_in f g x)) = (own_b2i (own_in f g x)) from rfl)).2 k) ?_
  refine own_go (W1 := T2.setTop (mkF m 15 #[.val (.ref a1), .val (.int f), .val (.int g), .val (.int x)] [(.int (1 : Int32))])) (fun t k => XS.iconst X2.here hx rfl (hb hby d5_14) k) ?_
  refine own_go (W1 := T2.setTop (mkF m 19 #[.val (.ref a1), .val (.int f), .val (.int g), .val (.int x)] [(.int (1 : Int32))])) (fun t k => XS.goto X2.here hx rfl (pc0 := 15) (pc' := 19) rfl (hb hby d5_15) (by decide) (by decide) k) ?_
  exact own_retN X2 hx (t := .boolean) Bd.returns (by simp) (hb hby d5_19) hlk (by decide) (by decide) ⟨rfl, N2, eh2⟩
theorem own_pd0 : parseMethodDescriptor "(II)Lcom/example/osage/osage/xpath/CodePointSet;" = some ⟨[.int, .int], some (.object "com/example/osage/osage/xpath/CodePointSet")⟩ := by decide +kernel
theorem own_pd3 : parseMethodDescriptor "()J" = some ⟨[], some .long⟩ := by decide +kernel
theorem own_pd4 : parseMethodDescriptor "(Lcom/example/osage/osage/xpath/CodePointSet;III)Z" = some ⟨[(.object "com/example/osage/osage/xpath/CodePointSet"), .int, .int, .int], some .boolean⟩ := by decide +kernel
theorem ef_rm0 (m : MethodId) (x0 : Int32) (x1 : Int32) (x2 : Int32)  : entryFrame m #[(.int x0), (.int x1), (.int x2)] maxLocals = mkF m 0 #[.val (.int x0), .val (.int x1), .val (.int x2), .unset, .unset, .unset] [] := by first | (simp [entryFrame, mkF, argsToLocals, Value.category, maxLocals]; done) | rfl
set_option maxRecDepth 65536 in
set_option maxHeartbeats 40000000 in
theorem rm0 (l : Launch) (Z : State) (a0 : Array Value) (hw : ∀ d ∈ tables_1, d.before a0 Z = true) (ws : List Jvm.Cond) (i0 i1 i2 : Int32) (h0 : Heap) (n0 : Nat) (Z0 : n0 ≤ h0.size)  :
    MetFree l x (head1 (Jvm.Cond.code x code maxLocals ret :: ws) room_1) (fun a U => a = #[(.int i0), (.int i1), (.int i2)] ∧ Z.Warmed39 U.vm ∧ U.heap = h0) (fun _ _ _ _ _ => True) (fun _ U o U' => ∃ v L, o = .returned v ∧ own_Q0 n0 v U'.heap L ∧ FrameEnd U o U' L 16 128) := by
  refine MetFree.of_bodySF (plainFor_of_name own_pn_com_example_osage_osage_xpath_CodePointSetRangePinLaw) hisR ?_
  intro p e s m args below meth c s₁ Bd hml0 hP hK
  obtain ⟨rfl, hZ, hh⟩ := hP
  have hx := Bd.exec
  have hby := Bd.bytes
  have hlk := BodyLoose.notSynchronized Bd
  have hml : c.maxLocals = 6 := hml0
  have hown : s.vm.findClass "com/example/osage/osage/xpath/CodePointSetRangePinLaw" = some m.cls := findClass_of_methodNamed Bd.named
  have hnm := (name_of_methodNamed Bd.named Bd.method).1
  have X0 : Stand p l e room_1 s m #[(.int i0), (.int i1), (.int i2)] below meth c s₁ [] 0 0 := Stand.of_body Bd
  have e0 : s₁.heap = h0 := by rw [← hh, Bd.state]; rfl
  have N0 := Fr.nil n0
  show own_Ends p e below s (own_Q0 n0) 16 128 (s₁.setTop (entryFrame m #[(.int i0), (.int i1), (.int i2)] maxLocals))
  refine own_go (W1 := s₁.setTop (mkF m 0 #[.val (.int i0), .val (.int i1), .val (.int i2), .unset, .unset, .unset] [])) (fun t k => castTop (ef_rm0 m i0 i1 i2 ) k) ?_
  refine own_go (W1 := s₁.setTop (mkF m 1 #[.val (.int i0), .val (.int i1), .val (.int i2), .unset, .unset, .unset] [(.int i0)])) (fun t k => XS.iloadN X0.here hx rfl (hb hby at_0) rfl  k) ?_
  refine own_go (W1 := s₁.setTop (mkF m 3 #[.val (.int i0), .val (.int i1), .val (.int i2), .unset, .unset, .unset] [(.int (2147483647 : Int32)), (.int i0)])) (X0.ldcInt hx hown (mvT hZ (hw _ (List.mem_of_getElem? (i := 0) rfl))) (g := (mkF m 1 #[.val (.int i0), .val (.int i1), .val (.int i2), .unset, .unset, .unset] [(.int i0)])) rfl (hb hby at_1)) ?_
  refine own_go (W1 := s₁.setTop (mkF m 4 #[.val (.int i0), .val (.int i1), .val (.int i2), .unset, .unset, .unset] [(.int (i0 &&& (2147483647 : Int32)))])) (fun t k => XS.iand X0.here hx rfl (hb hby at_3) rfl k) ?_
  refine own_go (W1 := s₁.setTop (mkF m 6 #[.val (.int i0), .val (.int i1), .val (.int i2), .unset, .unset, .unset] [(.int (1114112 : Int32)), (.int (i0 &&& (2147483647 : Int32)))])) (X0.ldcInt hx hown (mvT hZ (hw _ (List.mem_of_getElem? (i := 1) rfl))) (g := (mkF m 4 #[.val (.int i0), .val (.int i1), .val (.int i2), .unset, .unset, .unset] [(.int (i0 &&& (2147483647 : Int32)))])) rfl (hb hby at_4)) ?_
  refine own_go (W1 := s₁.setTop (mkF m 7 #[.val (.int i0), .val (.int i1), .val (.int i2), .unset, .unset, .unset] [(.int ((i0 &&& (2147483647 : Int32)) % (1114112 : Int32)))])) (fun t k => iremM X0 hx rfl (hb hby at_6) rfl (by decide) k) ?_
  refine own_go (W1 := s₁.setTop (mkF m 8 #[.val (.int i0), .val (.int i1), .val (.int i2), .val (.int ((i0 &&& (2147483647 : Int32)) % (1114112 : Int32))), .unset, .unset] [])) (fun t k => XS.istoreN X0.here hx rfl (hb hby at_7) rfl (l' := #[.val (.int i0), .val (.int i1), .val (.int i2), .val (.int ((i0 &&& (2147483647 : Int32)) % (1114112 : Int32))), .unset, .unset]) rfl k) ?_
  have hf := own_f i0
  generalize ((i0 &&& (2147483647 : Int32)) % (1114112 : Int32)) = f at *
  refine own_go (W1 := s₁.setTop (mkF m 9 #[.val (.int i0), .val (.int i1), .val (.int i2), .val (.int f), .unset, .unset] [(.int f)])) (fun t k => XS.iloadN X0.here hx rfl (hb hby at_8) rfl  k) ?_
  refine own_go (W1 := s₁.setTop (mkF m 10 #[.val (.int i0), .val (.int i1), .val (.int i2), .val (.int f), .unset, .unset] [(.int i1), (.int f)])) (fun t k => XS.iloadN X0.here hx rfl (hb hby at_9) rfl  k) ?_
  refine own_go (W1 := s₁.setTop (mkF m 12 #[.val (.int i0), .val (.int i1), .val (.int i2), .val (.int f), .unset, .unset] [(.int (2147483647 : Int32)), (.int i1), (.int f)])) (X0.ldcInt hx hown (mvT hZ (hw _ (List.mem_of_getElem? (i := 0) rfl))) (g := (mkF m 10 #[.val (.int i0), .val (.int i1), .val (.int i2), .val (.int f), .unset, .unset] [(.int i1), (.int f)])) rfl (hb hby at_10)) ?_
  refine own_go (W1 := s₁.setTop (mkF m 13 #[.val (.int i0), .val (.int i1), .val (.int i2), .val (.int f), .unset, .unset] [(.int (i1 &&& (2147483647 : Int32))), (.int f)])) (fun t k => XS.iand X0.here hx rfl (hb hby at_12) rfl k) ?_
  refine own_go (W1 := s₁.setTop (mkF m 15 #[.val (.int i0), .val (.int i1), .val (.int i2), .val (.int f), .unset, .unset] [(.int (1114112 : Int32)), (.int (i1 &&& (2147483647 : Int32))), (.int f)])) (X0.ldcInt hx hown (mvT hZ (hw _ (List.mem_of_getElem? (i := 1) rfl))) (g := (mkF m 13 #[.val (.int i0), .val (.int i1), .val (.int i2), .val (.int f), .unset, .unset] [(.int (i1 &&& (2147483647 : Int32))), (.int f)])) rfl (hb hby at_13)) ?_
  refine own_go (W1 := s₁.setTop (mkF m 16 #[.val (.int i0), .val (.int i1), .val (.int i2), .val (.int f), .unset, .unset] [(.int f), (.int (1114112 : Int32)), (.int (i1 &&& (2147483647 : Int32))), (.int f)])) (fun t k => XS.iloadN X0.here hx rfl (hb hby at_15) rfl  k) ?_
  refine own_go (W1 := s₁.setTop (mkF m 17 #[.val (.int i0), .val (.int i1), .val (.int i2), .val (.int f), .unset, .unset] [(.int ((1114112 : Int32) - f)), (.int (i1 &&& (2147483647 : Int32))), (.int f)])) (fun t k => XS.isub X0.here hx rfl (hb hby at_16) rfl k) ?_
  refine own_go (W1 := s₁.setTop (mkF m 18 #[.val (.int i0), .val (.int i1), .val (.int i2), .val (.int f), .unset, .unset] [(.int ((i1 &&& (2147483647 : Int32)) % ((1114112 : Int32) - f))), (.int f)])) (fun t k => iremM X0 hx rfl (hb hby at_17) rfl (own_nz hf) k) ?_
  refine own_go (W1 := s₁.setTop (mkF m 19 #[.val (.int i0), .val (.int i1), .val (.int i2), .val (.int f), .unset, .unset] [(.int (f + ((i1 &&& (2147483647 : Int32)) % ((1114112 : Int32) - f))))])) (fun t k => XS.iadd X0.here hx rfl (hb hby at_18) rfl k) ?_
  refine own_go (W1 := s₁.setTop (mkF m 21 #[.val (.int i0), .val (.int i1), .val (.int i2), .val (.int f), .val (.int (f + ((i1 &&& (2147483647 : Int32)) % ((1114112 : Int32) - f)))), .unset] [])) (fun t k => XS.istore X0.here hx rfl (hb hby at_19) rfl (l' := #[.val (.int i0), .val (.int i1), .val (.int i2), .val (.int f), .val (.int (f + ((i1 &&& (2147483647 : Int32)) % ((1114112 : Int32) - f)))), .unset]) rfl k) ?_
  generalize (f + ((i1 &&& (2147483647 : Int32)) % ((1114112 : Int32) - f))) = g at *
  refine own_go (W1 := s₁.setTop (mkF m 22 #[.val (.int i0), .val (.int i1), .val (.int i2), .val (.int f), .val (.int g), .unset] [(.int f)])) (fun t k => XS.iloadN X0.here hx rfl (hb hby at_21) rfl  k) ?_
  refine own_go (W1 := s₁.setTop (mkF m 24 #[.val (.int i0), .val (.int i1), .val (.int i2), .val (.int f), .val (.int g), .unset] [(.int g), (.int f)])) (fun t k => XS.iload X0.here hx rfl (hb hby at_22) rfl  k) ?_
  obtain ⟨_, _, ⟨T1, L1, k1, n1⟩, -, X1, ⟨Lc1, hQ1, l1, y1, z1⟩, st1⟩ := Jvm.LawKit.callS X0 hx (y := (⟨"com/example/osage/osage/xpath/CodePointSet", "range", "(II)Lcom/example/osage/osage/xpath/CodePointSet;"⟩ : MethodName)) hown (mvT hZ (hw _ (List.mem_of_getElem? (i := 2) rfl))) (mvT hZ (hw _ (List.mem_of_getElem? (i := 3) rfl))) (mvT hZ (hw _ (List.mem_of_getElem? (i := 4) rfl))) (mvT hZ (hw _ (List.mem_of_getElem? (i := 5) rfl))) (by decide) (backOf (W := 0) (rm1 l Z a0 hw [] f g h0 n0 Z0) hZ (hw _ (List.mem_of_getElem? (i := 5) rfl)) (hw _ (List.mem_of_getElem? (i := 4) rfl)) (by decide) (by decide)) (g := (mkF m 24 #[.val (.int i0), .val (.int i1), .val (.int i2), .val (.int f), .val (.int g), .unset] [(.int g), (.int f)])) rfl (by rw [hml]; rfl) (argsL := [(.int f), (.int g)]) (rest := []) (lenOf own_pd0 rfl) rfl (by show 2 * 0 + _ ≤ _; exact Nat.le_of_eq rfl) (hb hby at_24) (fun _ _ => ⟨rfl, e0, (by decide : 0 + 2 ≤ _), (by decide : 0 + 3 ≤ _)⟩)
  dsimp only [Pt.U, Pt.locs, Pt.cells, Pt.slots] at X1 l1 y1 z1 st1 hQ1
  subst l1 y1 z1
  obtain ⟨a1, u, ku, rfl, Nq1, Kq1, ga1, gu1, E_a1, F_b, V_u⟩ := hQ1
  have Z1 : n0 ≤ T1.heap.size := Nat.le_trans Z0 Kq1.1
  have N1 := Fr.app N0 Nq1
  refine own_go (W1 := T1.setTop (mkF m 27 #[.val (.int i0), .val (.int i1), .val (.int i2), .val (.int f), .val (.int g), .unset] [(.ref a1)])) st1 ?_
  refine own_go (W1 := T1.setTop (mkF m 29 #[.val (.int i0), .val (.int i1), .val (.int i2), .val (.int f), .val (.int g), .val (.ref a1)] [])) (fun t k => XS.astore X1.here hx rfl (hb hby at_27) rfl rfl (l' := #[.val (.int i0), .val (.int i1), .val (.int i2), .val (.int f), .val (.int g), .val (.ref a1)]) rfl k) ?_
  refine own_go (W1 := T1.setTop (mkF m 31 #[.val (.int i0), .val (.int i1), .val (.int i2), .val (.int f), .val (.int g), .val (.ref a1)] [(.ref a1)])) (fun t k => XS.aload X1.here hx rfl (hb hby at_29) rfl rfl  k) ?_
  obtain ⟨cq2, kq2, q2a, q2b, q2c⟩ := isOf hZ (rfl : T1.heap = T1.heap) E_a1
  obtain ⟨_, _, ⟨T2, L2, k2, n2⟩, -, X2, ⟨Lc2, hQ2, l2, y2, z2⟩, st2⟩ := X1.virtualBack hx (y := (⟨"com/example/osage/osage/xpath/CodePointSet", "ranges", "()J"⟩ : MethodName)) (z := (⟨"com/example/osage/osage/xpath/CodePointSet", "ranges", "()J"⟩ : MethodName)) hown (mvT hZ (hw _ (List.mem_of_getElem? (i := 17) rfl))) (mvT hZ (hw _ (List.mem_of_getElem? (i := 18) rfl))) (notFace_of_selects (args := #[]) (mvT hZ (hw _ (List.mem_of_getElem? (i := 20) rfl)))) (mvT hZ (hw _ (List.mem_of_getElem? (i := 20) rfl))) (mvT hZ (hw _ (List.mem_of_getElem? (i := 19) rfl))) (by decide) (backOf (W := 0) (rm4 l Z a0 hw [] a1 u ku f g T1.heap n0 Z1 F_b V_u) hZ (hw _ (List.mem_of_getElem? (i := 21) rfl)) (hw _ (List.mem_of_getElem? (i := 4) rfl)) (by decide) (by decide)) q2a q2c (g := (mkF m 31 #[.val (.int i0), .val (.int i1), .val (.int i2), .val (.int f), .val (.int g), .val (.ref a1)] [(.ref a1)])) rfl (by rw [hml]; rfl) (Steps.refl _) (argsL := []) (rest := []) (lenOf own_pd3 rfl) rfl (by show 2 * 0 + _ ≤ _; exact Nat.le_of_eq rfl) (hb hby at_31) (fun _ _ => ⟨rfl, (rfl : T1.heap = T1.heap), (by decide : 2 + 0 ≤ _), (by decide : 3 + 0 ≤ _)⟩)
  dsimp only [Pt.U, Pt.locs, Pt.cells, Pt.slots] at X2 l2 y2 z2 st2 hQ2
  subst l2 y2 z2
  obtain ⟨rfl, Nq2, eh2⟩ := hQ2
  have N2 := Fr.app N1 Nq2
  refine own_tr (W1 := T2.setTop (mkF m 34 #[.val (.int i0), .val (.int i1), .val (.int i2), .val (.int f), .val (.int g), .val (.ref a1)] [(.long (1 : Int64))])) st2 ?_
  refine own_go (W1 := T2.setTop (mkF m 35 #[.val (.int i0), .val (.int i1), .val (.int i2), .val (.int f), .val (.int g), .val (.ref a1)] [(.long (1 : Int64)), (.long (1 : Int64))])) (fun t k => XS.lconst X2.here hx rfl (hb hby at_34) k) ?_
  refine own_go (W1 := T2.setTop (mkF m 36 #[.val (.int i0), .val (.int i1), .val (.int i2), .val (.int f), .val (.int g), .val (.ref a1)] [(.int (lcmpW (1 : Int64) (1 : Int64)))])) (fun t k => XS.lcmp X2.here hx rfl (hb hby at_35) rfl k) ?_
  refine own_go (W1 := T2.setTop (mkF m 41 #[.val (.int i0), .val (.int i1), .val (.int i2), .val (.int f), .val (.int g), .val (.ref a1)] [])) (fun t k => XS.ifYes X2.here hx rfl (pc0 := 36) (pc' := 41) rfl (hb hby at_36) rfl ((if0 _ _).trans (teq (show (lcmpW (1 : Int64) (1 : Int64)) = (0 : Int32) from ((lw_eq _ _).mpr rfl))).1) (by decide) (by decide) k) ?_
  refine own_go (W1 := T2.setTop (mkF m 43 #[.val (.int i0), .val (.int i1), .val (.int i2), .val (.int f), .val (.int g), .val (.ref a1)] [(.ref a1)])) (fun t k => XS.aload X2.here hx rfl (hb hby at_41) rfl rfl  k) ?_
  refine own_go (W1 := T2.setTop (mkF m 44 #[.val (.int i0), .val (.int i1), .val (.int i2), .val (.int f), .val (.int g), .val (.ref a1)] [(.int f), (.ref a1)])) (fun t k => XS.iloadN X2.here hx rfl (hb hby at_43) rfl  k) ?_
  refine own_go (W1 := T2.setTop (mkF m 46 #[.val (.int i0), .val (.int i1), .val (.int i2), .val (.int f), .val (.int g), .val (.ref a1)] [(.int g), (.int f), (.ref a1)])) (fun t k => XS.iload X2.here hx rfl (hb hby at_44) rfl  k) ?_
  refine own_go (W1 := T2.setTop (mkF m 47 #[.val (.int i0), .val (.int i1), .val (.int i2), .val (.int f), .val (.int g), .val (.ref a1)] [(.int f), (.int g), (.int f), (.ref a1)])) (fun t k => XS.iloadN X2.here hx rfl (hb hby at_46) rfl  k) ?_
  obtain ⟨_, _, ⟨T3, L3, k3, n3⟩, -, X3, ⟨Lc3, hQ3, l3, y3, z3⟩, st3⟩ := Jvm.LawKit.callS X2 hx (y := (⟨"com/example/osage/osage/xpath/CodePointSetRangePinLaw", "agrees", "(Lcom/example/osage/osage/xpath/CodePointSet;III)Z"⟩ : MethodName)) hown (mvT hZ (hw _ (List.mem_of_getElem? (i := 22) rfl))) (mvT hZ (hw _ (List.mem_of_getElem? (i := 23) rfl))) (mvT hZ (hw _ (List.mem_of_getElem? (i := 24) rfl))) (mvT hZ (hw _ (List.mem_of_getElem? (i := 25) rfl))) (by decide) (backOf (W := 0) (rm5 l Z a0 hw [] a1 u ku f g f T1.heap n0 Z1 E_a1 F_b V_u) hZ (hw _ (List.mem_of_getElem? (i := 25) rfl)) (hw _ (List.mem_of_getElem? (i := 24) rfl)) (by decide) (by decide)) (g := (mkF m 47 #[.val (.int i0), .val (.int i1), .val (.int i2), .val (.int f), .val (.int g), .val (.ref a1)] [(.int f), (.int g), (.int f), (.ref a1)])) rfl (by rw [hml]; rfl) (argsL := [(.ref a1), (.int f), (.int g), (.int f)]) (rest := []) (lenOf own_pd4 rfl) rfl (by show 2 * 0 + _ ≤ _; exact Nat.le_of_eq rfl) (hb hby at_47) (fun _ _ => ⟨rfl, eh2, (by decide : 2 + 0 ≤ _), (by decide : 3 + 0 ≤ _)⟩)
  dsimp only [Pt.U, Pt.locs, Pt.cells, Pt.slots] at X3 l3 y3 z3 st3 hQ3
  subst l3 y3 z3
  obtain ⟨rfl, Nq3, eh3⟩ := hQ3
  have N3 := Fr.app N2 Nq3
  refine own_go (W1 := T3.setTop (mkF m 50 #[.val (.int i0), .val (.int i1), .val (.int i2), .val (.int f), .val (.int g), .val (.ref a1)] [(.int (1 : Int32))])) st3 ?_
  refine own_go (W1 := T3.setTop (mkF m 53 #[.val (.int i0), .val (.int i1), .val (.int i2), .val (.int f), .val (.int g), .val (.ref a1)] [])) (fun t k => XS.ifNo X3.here hx rfl (hb hby at_50) rfl ((if0 _ _).trans (feq (show ¬ ((1 : Int32) = (0 : Int32)) from (by decide))).1) k) ?_
  refine own_go (W1 := T3.setTop (mkF m 55 #[.val (.int i0), .val (.int i1), .val (.int i2), .val (.int f), .val (.int g), .val (.ref a1)] [(.ref a1)])) (fun t k => XS.aload X3.here hx rfl (hb hby at_53) rfl rfl  k) ?_
  refine own_go (W1 := T3.setTop (mkF m 56 #[.val (.int i0), .val (.int i1), .val (.int i2), .val (.int f), .val (.int g), .val (.ref a1)] [(.int f), (.ref a1)])) (fun t k => XS.iloadN X3.here hx rfl (hb hby at_55) rfl  k) ?_
  refine own_go (W1 := T3.setTop (mkF m 58 #[.val (.int i0), .val (.int i1), .val (.int i2), .val (.int f), .val (.int g), .val (.ref a1)] [(.int g), (.int f), (.ref a1)])) (fun t k => XS.iload X3.here hx rfl (hb hby at_56) rfl  k) ?_
  refine own_go (W1 := T3.setTop (mkF m 60 #[.val (.int i0), .val (.int i1), .val (.int i2), .val (.int f), .val (.int g), .val (.ref a1)] [(.int g), (.int g), (.int f), (.ref a1)])) (fun t k => XS.iload X3.here hx rfl (hb hby at_58) rfl  k) ?_
  obtain ⟨_, _, ⟨T4, L4, k4, n4⟩, -, X4, ⟨Lc4, hQ4, l4, y4, z4⟩, st4⟩ := Jvm.LawKit.callS X3 hx (y := (⟨"com/example/osage/osage/xpath/CodePointSetRangePinLaw", "agrees", "(Lcom/example/osage/osage/xpath/CodePointSet;III)Z"⟩ : MethodName)) hown (mvT hZ (hw _ (List.mem_of_getElem? (i := 22) rfl))) (mvT hZ (hw _ (List.mem_of_getElem? (i := 23) rfl))) (mvT hZ (hw _ (List.mem_of_getElem? (i := 24) rfl))) (mvT hZ (hw _ (List.mem_of_getElem? (i := 25) rfl))) (by decide) (backOf (W := 0) (rm5 l Z a0 hw [] a1 u ku f g g T1.heap n0 Z1 E_a1 F_b V_u) hZ (hw _ (List.mem_of_getElem? (i := 25) rfl)) (hw _ (List.mem_of_getElem? (i := 24) rfl)) (by decide) (by decide)) (g := (mkF m 60 #[.val (.int i0), .val (.int i1), .val (.int i2), .val (.int f), .val (.int g), .val (.ref a1)] [(.int g), (.int g), (.int f), (.ref a1)])) rfl (by rw [hml]; rfl) (argsL := [(.ref a1), (.int f), (.int g), (.int g)]) (rest := []) (lenOf own_pd4 rfl) rfl (by show 2 * 0 + _ ≤ _; exact Nat.le_of_eq rfl) (hb hby at_60) (fun _ _ => ⟨rfl, eh3, (by decide : 2 + 0 ≤ _), (by decide : 3 + 0 ≤ _)⟩)
  dsimp only [Pt.U, Pt.locs, Pt.cells, Pt.slots] at X4 l4 y4 z4 st4 hQ4
  subst l4 y4 z4
  obtain ⟨rfl, Nq4, eh4⟩ := hQ4
  have N4 := Fr.app N3 Nq4
  refine own_go (W1 := T4.setTop (mkF m 63 #[.val (.int i0), .val (.int i1), .val (.int i2), .val (.int f), .val (.int g), .val (.ref a1)] [(.int (1 : Int32))])) st4 ?_
  refine own_go (W1 := T4.setTop (mkF m 66 #[.val (.int i0), .val (.int i1), .val (.int i2), .val (.int f), .val (.int g), .val (.ref a1)] [])) (fun t k => XS.ifNo X4.here hx rfl (hb hby at_63) rfl ((if0 _ _).trans (feq (show ¬ ((1 : Int32) = (0 : Int32)) from (by decide))).1) k) ?_
  refine own_go (W1 := T4.setTop (mkF m 68 #[.val (.int i0), .val (.int i1), .val (.int i2), .val (.int f), .val (.int g), .val (.ref a1)] [(.ref a1)])) (fun t k => XS.aload X4.here hx rfl (hb hby at_66) rfl rfl  k) ?_
  refine own_go (W1 := T4.setTop (mkF m 69 #[.val (.int i0), .val (.int i1), .val (.int i2), .val (.int f), .val (.int g), .val (.ref a1)] [(.int f), (.ref a1)])) (fun t k => XS.iloadN X4.here hx rfl (hb hby at_68) rfl  k) ?_
  refine own_go (W1 := T4.setTop (mkF m 71 #[.val (.int i0), .val (.int i1), .val (.int i2), .val (.int f), .val (.int g), .val (.ref a1)] [(.int g), (.int f), (.ref a1)])) (fun t k => XS.iload X4.here hx rfl (hb hby at_69) rfl  k) ?_
  refine own_go (W1 := T4.setTop (mkF m 72 #[.val (.int i0), .val (.int i1), .val (.int i2), .val (.int f), .val (.int g), .val (.ref a1)] [(.int f), (.int g), (.int f), (.ref a1)])) (fun t k => XS.iloadN X4.here hx rfl (hb hby at_71) rfl  k) ?_
  refine own_go (W1 := T4.setTop (mkF m 73 #[.val (.int i0), .val (.int i1), .val (.int i2), .val (.int f), .val (.int g), .val (.ref a1)] [(.int (1 : Int32)), (.int f), (.int g), (.int f), (.ref a1)])) (fun t k => XS.iconst X4.here hx rfl (hb hby at_72) k) ?_
  refine own_go (W1 := T4.setTop (mkF m 74 #[.val (.int i0), .val (.int i1), .val (.int i2), .val (.int f), .val (.int g), .val (.ref a1)] [(.int (f - (1 : Int32))), (.int g), (.int f), (.ref a1)])) (fun t k => XS.isub X4.here hx rfl (hb hby at_73) rfl k) ?_
  obtain ⟨_, _, ⟨T5, L5, k5, n5⟩, -, X5, ⟨Lc5, hQ5, l5, y5, z5⟩, st5⟩ := Jvm.LawKit.callS X4 hx (y := (⟨"com/example/osage/osage/xpath/CodePointSetRangePinLaw", "agrees", "(Lcom/example/osage/osage/xpath/CodePointSet;III)Z"⟩ : MethodName)) hown (mvT hZ (hw _ (List.mem_of_getElem? (i := 22) rfl))) (mvT hZ (hw _ (List.mem_of_getElem? (i := 23) rfl))) (mvT hZ (hw _ (List.mem_of_getElem? (i := 24) rfl))) (mvT hZ (hw _ (List.mem_of_getElem? (i := 25) rfl))) (by decide) (backOf (W := 0) (rm5 l Z a0 hw [] a1 u ku f g (f - (1 : Int32)) T1.heap n0 Z1 E_a1 F_b V_u) hZ (hw _ (List.mem_of_getElem? (i := 25) rfl)) (hw _ (List.mem_of_getElem? (i := 24) rfl)) (by decide) (by decide)) (g := (mkF m 74 #[.val (.int i0), .val (.int i1), .val (.int i2), .val (.int f), .val (.int g), .val (.ref a1)] [(.int (f - (1 : Int32))), (.int g), (.int f), (.ref a1)])) rfl (by rw [hml]; rfl) (argsL := [(.ref a1), (.int f), (.int g), (.int (f - (1 : Int32)))]) (rest := []) (lenOf own_pd4 rfl) rfl (by show 2 * 0 + _ ≤ _; exact Nat.le_of_eq rfl) (hb hby at_74) (fun _ _ => ⟨rfl, eh4, (by decide : 2 + 0 ≤ _), (by decide : 3 + 0 ≤ _)⟩)
  dsimp only [Pt.U, Pt.locs, Pt.cells, Pt.slots] at X5 l5 y5 z5 st5 hQ5
  subst l5 y5 z5
  obtain ⟨rfl, Nq5, eh5⟩ := hQ5
  have N5 := Fr.app N4 Nq5
  refine own_go (W1 := T5.setTop (mkF m 77 #[.val (.int i0), .val (.int i1), .val (.int i2), .val (.int f), .val (.int g), .val (.ref a1)] [(.int (1 : Int32))])) st5 ?_
  refine own_go (W1 := T5.setTop (mkF m 80 #[.val (.int i0), .val (.int i1), .val (.int i2), .val (.int f), .val (.int g), .val (.ref a1)] [])) (fun t k => XS.ifNo X5.here hx rfl (hb hby at_77) rfl ((if0 _ _).trans (feq (show ¬ ((1 : Int32) = (0 : Int32)) from (by decide))).1) k) ?_
  refine own_go (W1 := T5.setTop (mkF m 82 #[.val (.int i0), .val (.int i1), .val (.int i2), .val (.int f), .val (.int g), .val (.ref a1)] [(.ref a1)])) (fun t k => XS.aload X5.here hx rfl (hb hby at_80) rfl rfl  k) ?_
  refine own_go (W1 := T5.setTop (mkF m 83 #[.val (.int i0), .val (.int i1), .val (.int i2), .val (.int f), .val (.int g), .val (.ref a1)] [(.int f), (.ref a1)])) (fun t k => XS.iloadN X5.here hx rfl (hb hby at_82) rfl  k) ?_
  refine own_go (W1 := T5.setTop (mkF m 85 #[.val (.int i0), .val (.int i1), .val (.int i2), .val (.int f), .val (.int g), .val (.ref a1)] [(.int g), (.int f), (.ref a1)])) (fun t k => XS.iload X5.here hx rfl (hb hby at_83) rfl  k) ?_
  refine own_go (W1 := T5.setTop (mkF m 87 #[.val (.int i0), .val (.int i1), .val (.int i2), .val (.int f), .val (.int g), .val (.ref a1)] [(.int g), (.int g), (.int f), (.ref a1)])) (fun t k => XS.iload X5.here hx rfl (hb hby at_85) rfl  k) ?_
  refine own_go (W1 := T5.setTop (mkF m 88 #[.val (.int i0), .val (.int i1), .val (.int i2), .val (.int f), .val (.int g), .val (.ref a1)] [(.int (1 : Int32)), (.int g), (.int g), (.int f), (.ref a1)])) (fun t k => XS.iconst X5.here hx rfl (hb hby at_87) k) ?_
  refine own_go (W1 := T5.setTop (mkF m 89 #[.val (.int i0), .val (.int i1), .val (.int i2), .val (.int f), .val (.int g), .val (.ref a1)] [(.int (g + (1 : Int32))), (.int g), (.int f), (.ref a1)])) (fun t k => XS.iadd X5.here hx rfl (hb hby at_88) rfl k) ?_
  obtain ⟨_, _, ⟨T6, L6, k6, n6⟩, -, X6, ⟨Lc6, hQ6, l6, y6, z6⟩, st6⟩ := Jvm.LawKit.callS X5 hx (y := (⟨"com/example/osage/osage/xpath/CodePointSetRangePinLaw", "agrees", "(Lcom/example/osage/osage/xpath/CodePointSet;III)Z"⟩ : MethodName)) hown (mvT hZ (hw _ (List.mem_of_getElem? (i := 22) rfl))) (mvT hZ (hw _ (List.mem_of_getElem? (i := 23) rfl))) (mvT hZ (hw _ (List.mem_of_getElem? (i := 24) rfl))) (mvT hZ (hw _ (List.mem_of_getElem? (i := 25) rfl))) (by decide) (backOf (W := 0) (rm5 l Z a0 hw [] a1 u ku f g (g + (1 : Int32)) T1.heap n0 Z1 E_a1 F_b V_u) hZ (hw _ (List.mem_of_getElem? (i := 25) rfl)) (hw _ (List.mem_of_getElem? (i := 24) rfl)) (by decide) (by decide)) (g := (mkF m 89 #[.val (.int i0), .val (.int i1), .val (.int i2), .val (.int f), .val (.int g), .val (.ref a1)] [(.int (g + (1 : Int32))), (.int g), (.int f), (.ref a1)])) rfl (by rw [hml]; rfl) (argsL := [(.ref a1), (.int f), (.int g), (.int (g + (1 : Int32)))]) (rest := []) (lenOf own_pd4 rfl) rfl (by show 2 * 0 + _ ≤ _; exact Nat.le_of_eq rfl) (hb hby at_89) (fun _ _ => ⟨rfl, eh5, (by decide : 2 + 0 ≤ _), (by decide : 3 + 0 ≤ _)⟩)
  dsimp only [Pt.U, Pt.locs, Pt.cells, Pt.slots] at X6 l6 y6 z6 st6 hQ6
  subst l6 y6 z6
  obtain ⟨rfl, Nq6, eh6⟩ := hQ6
  have N6 := Fr.app N5 Nq6
  refine own_go (W1 := T6.setTop (mkF m 92 #[.val (.int i0), .val (.int i1), .val (.int i2), .val (.int f), .val (.int g), .val (.ref a1)] [(.int (1 : Int32))])) st6 ?_
  refine own_go (W1 := T6.setTop (mkF m 95 #[.val (.int i0), .val (.int i1), .val (.int i2), .val (.int f), .val (.int g), .val (.ref a1)] [])) (fun t k => XS.ifNo X6.here hx rfl (hb hby at_92) rfl ((if0 _ _).trans (feq (show ¬ ((1 : Int32) = (0 : Int32)) from (by decide))).1) k) ?_
  refine own_go (W1 := T6.setTop (mkF m 97 #[.val (.int i0), .val (.int i1), .val (.int i2), .val (.int f), .val (.int g), .val (.ref a1)] [(.ref a1)])) (fun t k => XS.aload X6.here hx rfl (hb hby at_95) rfl rfl  k) ?_
  refine own_go (W1 := T6.setTop (mkF m 98 #[.val (.int i0), .val (.int i1), .val (.int i2), .val (.int f), .val (.int g), .val (.ref a1)] [(.int f), (.ref a1)])) (fun t k => XS.iloadN X6.here hx rfl (hb hby at_97) rfl  k) ?_
  refine own_go (W1 := T6.setTop (mkF m 100 #[.val (.int i0), .val (.int i1), .val (.int i2), .val (.int f), .val (.int g), .val (.ref a1)] [(.int g), (.int f), (.ref a1)])) (fun t k => XS.iload X6.here hx rfl (hb hby at_98) rfl  k) ?_
  refine own_go (W1 := T6.setTop (mkF m 101 #[.val (.int i0), .val (.int i1), .val (.int i2), .val (.int f), .val (.int g), .val (.ref a1)] [(.int i2), (.int g), (.int f), (.ref a1)])) (fun t k => XS.iloadN X6.here hx rfl (hb hby at_100) rfl  k) ?_
  obtain ⟨_, _, ⟨T7, L7, k7, n7⟩, -, X7, ⟨Lc7, hQ7, l7, y7, z7⟩, st7⟩ := Jvm.LawKit.callS X6 hx (y := (⟨"com/example/osage/osage/xpath/CodePointSetRangePinLaw", "agrees", "(Lcom/example/osage/osage/xpath/CodePointSet;III)Z"⟩ : MethodName)) hown (mvT hZ (hw _ (List.mem_of_getElem? (i := 22) rfl))) (mvT hZ (hw _ (List.mem_of_getElem? (i := 23) rfl))) (mvT hZ (hw _ (List.mem_of_getElem? (i := 24) rfl))) (mvT hZ (hw _ (List.mem_of_getElem? (i := 25) rfl))) (by decide) (backOf (W := 0) (rm5 l Z a0 hw [] a1 u ku f g i2 T1.heap n0 Z1 E_a1 F_b V_u) hZ (hw _ (List.mem_of_getElem? (i := 25) rfl)) (hw _ (List.mem_of_getElem? (i := 24) rfl)) (by decide) (by decide)) (g := (mkF m 101 #[.val (.int i0), .val (.int i1), .val (.int i2), .val (.int f), .val (.int g), .val (.ref a1)] [(.int i2), (.int g), (.int f), (.ref a1)])) rfl (by rw [hml]; rfl) (argsL := [(.ref a1), (.int f), (.int g), (.int i2)]) (rest := []) (lenOf own_pd4 rfl) rfl (by show 2 * 0 + _ ≤ _; exact Nat.le_of_eq rfl) (hb hby at_101) (fun _ _ => ⟨rfl, eh6, (by decide : 2 + 0 ≤ _), (by decide : 3 + 0 ≤ _)⟩)
  dsimp only [Pt.U, Pt.locs, Pt.cells, Pt.slots] at X7 l7 y7 z7 st7 hQ7
  subst l7 y7 z7
  obtain ⟨rfl, Nq7, eh7⟩ := hQ7
  have N7 := Fr.app N6 Nq7
  refine own_go (W1 := T7.setTop (mkF m 104 #[.val (.int i0), .val (.int i1), .val (.int i2), .val (.int f), .val (.int g), .val (.ref a1)] [(.int (1 : Int32))])) st7 ?_
  refine own_go (W1 := T7.setTop (mkF m 107 #[.val (.int i0), .val (.int i1), .val (.int i2), .val (.int f), .val (.int g), .val (.ref a1)] [])) (fun t k => XS.ifNo X7.here hx rfl (hb hby at_104) rfl ((if0 _ _).trans (feq (show ¬ ((1 : Int32) = (0 : Int32)) from (by decide))).1) k) ?_
  refine own_go (W1 := T7.setTop (mkF m 108 #[.val (.int i0), .val (.int i1), .val (.int i2), .val (.int f), .val (.int g), .val (.ref a1)] [(.int (1 : Int32))])) (fun t k => XS.iconst X7.here hx rfl (hb hby at_107) k) ?_
  refine own_go (W1 := T7.setTop (mkF m 112 #[.val (.int i0), .val (.int i1), .val (.int i2), .val (.int f), .val (.int g), .val (.ref a1)] [(.int (1 : Int32))])) (fun t k => XS.goto X7.here hx rfl (pc0 := 108) (pc' := 112) rfl (hb hby at_108) (by decide) (by decide) k) ?_
  exact own_retN X7 hx (t := .boolean) Bd.returns (by simp) (hb hby at_112) hlk (by decide) (by decide) ⟨rfl, N7⟩
set_option maxRecDepth 65536 in
set_option maxHeartbeats 40000000 in
theorem comes_1 {Post : Tables → Env → Array Value → State → Outcome → State → Prop} (hpost : ∀ tb e args s v u, (limb_1_1.after args s (.returned v) u = true ∧ limb_1_2.after args s (.returned v) u = true ∧ True) → FrameEnd s (.returned v) u (Jvm.fieldLocs frame_1_writes args s ++ Jvm.arrayLocs frame_1_arrays args s ++ Jvm.staticLocs frame_1_statics s) 16 128 → Post tb e args s (.returned v) u) :
    ArmFor flags0 classFile x code maxLocals ret World_1 tables_1 room_1 Calls_1 rest_1 Pre_1 Post := by
  intro l hfl _ _ p e ha hc hk s m args below hf hA hF happ hP
  obtain ⟨hcalls, hrest, hpre⟩ := hP
  obtain ⟨-, -, -, hnamed, -, -, -, hat⟩ := (Spec.applies_iff hf).mp happ
  obtain ⟨hg, hn⟩ := and_e (Cond.before_iff.mp (show (Jvm.Cond.and given_1 narrow_1).before args s = true from hpre))
  obtain ⟨gc, hg⟩ := and_e hg
  obtain ⟨ga0, hg⟩ := and_e hg
  obtain ⟨ga1, hg⟩ := and_e hg
  have ga2 := hg
  obtain ⟨w0, w1, w2, rfl⟩ : ∃ w0 w1 w2 : Value, args = #[w0, w1, w2] := by
    have hs : args.size = 3 := by simpa [Cond.value, given_1] using gc
    obtain ⟨L⟩ := args
    match L, hs with
    | [w0, w1, w2], _ => exact ⟨w0, w1, w2, rfl⟩
  have hw := fun d (hd : d ∈ tables_1) => atoms_spec (ws := Jvm.Cond.code x code maxLocals ret :: tables_1) hat d (List.mem_cons_of_mem _ hd)
  have hfit : Fit s := fun {y c} hc i hi => by
    obtain ⟨ha, rfl⟩ := Array.getElem?_eq_some_iff.mp hc
    have q := List.all_eq_true.mp ((Array.all_eq_true_iff_forall_mem.mp hF) _ (Array.getElem_mem ha)) i (List.mem_range.mpr hi)
    simpa [Array.getElem?_eq_getElem hi] using q
  obtain ⟨i0, ei0⟩ := is_v ga0
  obtain rfl : w0 = (.int i0) := Option.some.inj ei0
  obtain ⟨i1, ei1⟩ := is_v ga1
  obtain rfl : w1 = (.int i1) := Option.some.inj ei1
  obtain ⟨i2, ei2⟩ := is_v ga2
  obtain rfl : w2 = (.int i2) := Option.some.inj ei2
  obtain ⟨n, o, h1, h2, h3, _, L, rfl, ⟨rfl, N⟩, hq⟩ := rm0 l s _ hw tables_1 i0 i1 i2 s.heap s.heap.size (Nat.le_refl _)  p e ha hc hk s m _ below hf ((Spec.applies_iff_loose hf).mp happ).1 ⟨rfl, State.Warmed39.refl s, rfl⟩ trivial
  refine ⟨n, _, h1, h2, h3, hpost _ _ _ _ _ _ ⟨Cond.after_iff.mpr rfl, Cond.after_iff.mpr (eq_i res_at (Term.int_eval (1)) rfl), trivial⟩ ⟨hq.1, hq.2.1, (hq.2.2.sift fun y hy => Or.inr (N y hy)).mono (by decide) (by decide)⟩⟩
theorem main_1_1 : Claimed_1_1 := comes_1 fun _ _ _ _ _ _ h hF => ⟨h.1, hF⟩
theorem main_1_2 : Claimed_1_2 := comes_1 fun _ _ _ _ _ _ h hF => ⟨h.2.1, hF⟩
end Jvm.Pilot.@@N@@
namespace Jvm.Pilot.@@N@@
open Jvm Jvm.ClassFile Sem Op Lib Jvm.Free Jvm.Stand Jvm.Pilot.@@N@@.Jvm.D
/-! MADE BY PROGRAM (witnessworld.py) out of the Statement's table words and the real class files: 9 classes; the members and pool entries that the words name. The judged class is class 1, her method 3. -/
namespace start1
open Jvm.ClassFile
def u (s : String) : CpInfo := .utf8 (stringToUtf16 s)
/-- a pool by its gaps: so many unusable entries, then the entry; so many at the end -/
def gap : Nat → List CpInfo → List CpInfo
  | 0, r => r
  | n + 1, r => .unusable :: gap n r
def poolList (es : List (Nat × CpInfo)) (last : Nat) : List CpInfo := es.foldr (fun e r => gap e.1 (e.2 :: r)) (gap last [])
def pool (es : List (Nat × CpInfo)) (last : Nat) : Array CpInfo := ⟨poolList es last⟩
def fileOf (pool : Array CpInfo) (this : Nat) (attrs : Array Attribute := #[]) (ms : Array MethodInfo := #[]) (fl : Nat := 33) (sup : Nat := 0) (ifs : Array Nat := #[]) (fds : Array FieldInfo := #[]) : ClassFile where
  minorVersion := 0
  majorVersion := 65
  constantPool := pool
  accessFlags := fl
  thisClass := this
  superClass := sup
  interfaces := ifs
  fields := fds
  methods := ms
  attributes := attrs
def plain (name : String) (sup : Option ClassId) : Class where
  name := name
  kind := .ordinary
  loader := none
  accessFlags := 33
  super := sup
  interfaces := #[]
  cf := none
  fields := #[]
  methods := #[]
  instanceTypes := #[]
  staticTypes := #[]
  resolved := #[]
  callSites := []
  init := .initialized
  statics := none
  mirror := none

def pool0 : Array CpInfo := pool [(5, u "<init>"), (0, u "()V"), (1, .class_ 10), (1, u "java/lang/Object")] 113

def k0c0 : Code := { maxStack := 0, maxLocals := 1, code := object_method_1_code, exceptionTable := #[], attributes := #[] }
def k0m0 : Method := { name := "<init>", desc := "()V", sig := { parameters := [], returnType := none }, accessFlags := 1, code := some k0c0 }
/-- java/lang/Object -/
def k0 : Class := { plain "java/lang/Object" none with
  accessFlags := 33
  interfaces := #[]
  cf := some (fileOf pool0 8 #[] #[{ accessFlags := 1, nameIndex := 5, descriptorIndex := 6, attributes := #[] }] 33 0 #[] #[])
  fields := #[]
  methods := #[k0m0]
  instanceTypes := #[]
  staticTypes := #[]
  resolved := Array.replicate 124 none
  statics := none }

def pool1 : Array CpInfo := pool [(2, .class_ 4), (1, u "java/lang/Object"), (0, u "<init>"), (0, u "()V"), (0, .methodref 8 9), (0, .class_ 10), (0, .nameAndType 11 12), (0, u "com/example/osage/osage/xpath/CodePointSet"), (0, u "contains"), (0, u "(I)Z"), (0, .methodref 14 15), (0, .class_ 16), (0, .nameAndType 17 18), (0, u "com/example/osage/osage/xpath/CodePointSetRangePinLaw"), (0, u "inside"), (0, u "(III)Z"), (0, .integer 2147483647), (0, .integer 1114112), (0, .methodref 8 22), (0, .nameAndType 23 24), (0, u "range"), (0, u "(II)Lcom/example/osage/osage/xpath/CodePointSet;"), (0, .methodref 8 26), (0, .nameAndType 27 28), (0, u "ranges"), (0, u "()J"), (0, .methodref 14 30), (0, .nameAndType 31 32), (0, u "agrees"), (0, u "(Lcom/example/osage/osage/xpath/CodePointSet;III)Z"), (3, u "law")] 2

def k1m0 : Method := { name := "<init>", desc := "()V", sig := { parameters := [], returnType := none }, accessFlags := 1, code := none }
def k1c1 : Code := { maxStack := 2, maxLocals := 3, code := method_2_code, exceptionTable := #[], attributes := #[] }
def k1m1 : Method := { name := "inside", desc := "(III)Z", sig := { parameters := [.int, .int, .int], returnType := some .boolean }, accessFlags := 10, code := some k1c1 }
def k1c2 : Code := { maxStack := 4, maxLocals := 4, code := method_3_code, exceptionTable := #[], attributes := #[] }
def k1m2 : Method := { name := "agrees", desc := "(Lcom/example/osage/osage/xpath/CodePointSet;III)Z", sig := { parameters := [(.object "com/example/osage/osage/xpath/CodePointSet"), .int, .int, .int], returnType := some .boolean }, accessFlags := 10, code := some k1c2 }
def k1c3 : Code := { maxStack := 5, maxLocals := 6, code := code, exceptionTable := #[], attributes := #[] }
def k1m3 : Method := { name := "law", desc := "(III)Z", sig := { parameters := [.int, .int, .int], returnType := some .boolean }, accessFlags := 9, code := some k1c3 }
/-- com/example/osage/osage/xpath/CodePointSetRangePinLaw -/
def k1 : Class := { plain "com/example/osage/osage/xpath/CodePointSetRangePinLaw" (some 0) with
  accessFlags := 49
  interfaces := #[]
  cf := some (fileOf pool1 14 #[] #[{ accessFlags := 1, nameIndex := 5, descriptorIndex := 6, attributes := #[] }, { accessFlags := 10, nameIndex := 17, descriptorIndex := 18, attributes := #[] }, { accessFlags := 10, nameIndex := 31, descriptorIndex := 32, attributes := #[] }, { accessFlags := 9, nameIndex := 36, descriptorIndex := 18, attributes := #[] }] 49 2 #[] #[])
  fields := #[]
  methods := #[k1m0, k1m1, k1m2, k1m3]
  instanceTypes := #[]
  staticTypes := #[]
  resolved := Array.replicate 39 none
  statics := none }

def pool2 : Array CpInfo := pool [(1, .methodref 2 3), (0, .class_ 4), (0, .nameAndType 5 6), (0, u "java/lang/Object"), (0, u "<init>"), (0, u "()V"), (0, .fieldref 8 9), (0, .class_ 10), (0, .nameAndType 11 12), (0, u "com/example/osage/osage/xpath/CodePointSet"), (0, u "bounds"), (0, u "[I"), (0, .methodref 8 14), (0, .nameAndType 5 15), (0, u "([I)V"), (9, u "(I)Z"), (65, u "EMPTY"), (0, u "Lcom/example/osage/osage/xpath/CodePointSet;"), (15, u "range"), (0, u "(II)Lcom/example/osage/osage/xpath/CodePointSet;"), (10, u "ranges"), (0, u "()J"), (0, u "contains")] 25

def k2c0 : Code := { maxStack := 2, maxLocals := 2, code := prog_34_method_1_code, exceptionTable := #[], attributes := #[] }
def k2m0 : Method := { name := "<init>", desc := "([I)V", sig := { parameters := [(.array .int)], returnType := none }, accessFlags := 2, code := some k2c0 }
def k2c1 : Code := { maxStack := 6, maxLocals := 2, code := prog_34_method_2_code, exceptionTable := #[], attributes := #[] }
def k2m1 : Method := { name := "range", desc := "(II)Lcom/example/osage/osage/xpath/CodePointSet;", sig := { parameters := [.int, .int], returnType := some (.object "com/example/osage/osage/xpath/CodePointSet") }, accessFlags := 8, code := some k2c1 }
def k2c2 : Code := { maxStack := 2, maxLocals := 1, code := prog_34_method_9_code, exceptionTable := #[], attributes := #[] }
def k2m2 : Method := { name := "ranges", desc := "()J", sig := { parameters := [], returnType := some .long }, accessFlags := 0, code := some k2c2 }
def k2c3 : Code := { maxStack := 4, maxLocals := 5, code := prog_34_method_10_code, exceptionTable := #[], attributes := #[] }
def k2m3 : Method := { name := "contains", desc := "(I)Z", sig := { parameters := [.int], returnType := some .boolean }, accessFlags := 0, code := some k2c3 }
/-- com/example/osage/osage/xpath/CodePointSet -/
def k2 : Class := { plain "com/example/osage/osage/xpath/CodePointSet" (some 0) with
  accessFlags := 48
  interfaces := #[]
  cf := some (fileOf pool2 8 #[] #[{ accessFlags := 2, nameIndex := 5, descriptorIndex := 15, attributes := #[] }, { accessFlags := 8, nameIndex := 108, descriptorIndex := 109, attributes := #[] }, { accessFlags := 0, nameIndex := 120, descriptorIndex := 121, attributes := #[] }, { accessFlags := 0, nameIndex := 122, descriptorIndex := 25, attributes := #[] }] 48 2 #[] #[{ accessFlags := 26, nameIndex := 91, descriptorIndex := 92, attributes := #[] }, { accessFlags := 18, nameIndex := 11, descriptorIndex := 12, attributes := #[] }])
  fields := #[{ name := "EMPTY", type := (.object "com/example/osage/osage/xpath/CodePointSet"), accessFlags := 26, slot := 0, constantValue := 0 }, { name := "bounds", type := (.array .int), accessFlags := 18, slot := 0, constantValue := 0 }]
  methods := #[k2m0, k2m1, k2m2, k2m3]
  instanceTypes := #[(.array .int)]
  staticTypes := #[(.object "com/example/osage/osage/xpath/CodePointSet")]
  resolved := Array.replicate 148 none
  statics := none }

def pool3 : Array CpInfo := pool [(1, u "java/lang/Cloneable"), (0, .class_ 1), (0, u "java/lang/Object"), (0, .class_ 3)] 3

/-- java/lang/Cloneable -/
def k3 : Class := { plain "java/lang/Cloneable" (some 0) with
  accessFlags := 1537
  interfaces := #[]
  cf := some (fileOf pool3 2 #[] #[] 1537 4 #[] #[])
  fields := #[]
  methods := #[]
  instanceTypes := #[]
  staticTypes := #[]
  resolved := Array.replicate 8 none
  statics := none }

def pool4 : Array CpInfo := pool [(1, u "java/io/Serializable"), (0, .class_ 1), (0, u "java/lang/Object"), (0, .class_ 3)] 3

/-- java/io/Serializable -/
def k4 : Class := { plain "java/io/Serializable" (some 0) with
  accessFlags := 1537
  interfaces := #[]
  cf := some (fileOf pool4 2 #[] #[] 1537 4 #[] #[])
  fields := #[]
  methods := #[]
  instanceTypes := #[]
  staticTypes := #[]
  resolved := Array.replicate 8 none
  statics := none }

/-- the primitive byte -/
def k5 : Class := { plain "byte" none with kind := .primitive 'B', accessFlags := 0x411 }
/-- [B -/
def k6 : Class := { plain "[B" (some 0) with kind := .array 5 .byte, interfaces := #[3, 4], accessFlags := 1041 }

/-- the primitive int -/
def k7 : Class := { plain "int" none with kind := .primitive 'I', accessFlags := 0x411 }
/-- [I -/
def k8 : Class := { plain "[I" (some 0) with kind := .array 7 .int, interfaces := #[3, 4], accessFlags := 1041 }

def heap : Heap := #[]
def classes : Array Class := #[k0, k1, k2, k3, k4, k5, k6, k7, k8]
def interned : List (Array UInt16 × Addr) := []
def slotsUsed : Nat := 0
def theMethod : MethodId := ⟨1, 3⟩
def args0 : Array Value := #[.int 3, .int 40, .int 7]
def aboutOver (below : List Frame) : State where
  vm := { classes := classes, interned := interned.toArray }
  heap := heap
  slotsUsed := slotsUsed
  threads := #[{ frames := .invoking theMethod args0 :: below }]
def below0 : List Frame := [.native { method := ⟨0, 0⟩, args := #[] }]
def about1 : State := aboutOver below0
def p0 : Program := .bare "" "" ""
def e0 : Env := launch0.env 0 0 0
theorem w_frames : about1.frames = Frame.invoking theMethod args0 :: below0 := rfl
set_option maxRecDepth 65536 in
theorem w_args : argsFit about1.vm theMethod args0 = true := by decide +kernel
set_option maxRecDepth 65536 in
theorem w_heap : heapFits about1 = true := by decide +kernel
set_option maxRecDepth 65536 in
theorem w_runnable : about1.curStatus? = some .runnable := by decide +kernel
set_option maxRecDepth 65536 in
theorem w_alone : about1.alone = true := by decide +kernel
set_option maxRecDepth 65536 in
theorem w_named : about1.methodNamed? x = some theMethod := by decide +kernel
set_option maxRecDepth 65536 in
theorem w_hears : about1.hears theMethod below0 = true := by decide +kernel
set_option maxRecDepth 65536 in
theorem w_ripe : about1.ripe theMethod args0 below0 = true := by decide +kernel
theorem w_running : about1.status = .running := rfl
set_option maxRecDepth 65536 in
theorem w_room : about1.hasRoom e0.platform room_1 = true :=
  launch0.hasRoom_least _ room_1 (by decide +kernel) (by decide +kernel) (by decide +kernel) (by decide +kernel) (by decide +kernel) (by decide +kernel)
theorem allAtoms_all (ts : List Jvm.Cond) (a : Array Jvm.Value) (st : Jvm.State) : (allAtoms ts).before a st = ts.all (fun c => c.before a st) := by
  induction ts with
  | nil => rfl
  | cons c t ih =>
    show (Jvm.Cond.and c (allAtoms t)).before a st = _
    rw [Jvm.Cond.before_and, ih, List.all_cons]
def words1 : List Jvm.Cond := Jvm.Cond.code x code maxLocals ret :: tables_1
/-- a 'code' word, met by the world's own term for the bytes: nothing is compared byte by byte -/
theorem code_word {y : MethodName} {bytes : ByteArray} {mx : Nat} {rt : Option FieldType} {a : Array Value} {s : State} {m : MethodId} {meth : Method} {c : Code} (h1 : s.methodNamed? y = some m) (h2 : s.vm.method? m = some meth) (h3 : meth.code = some c) (h4 : c.code = bytes)
    (h5 : (c.maxLocals == mx && c.exceptionTable.isEmpty && decide (c.maxStack ≤ mostOperands) && decide (meth.sig.returnType = rt) && !meth.locks && decide (parseMethodDescriptor y.desc = some meth.sig)) = true) : (Jvm.Cond.code y bytes mx rt).before a s = true := by
  simp only [Bool.and_eq_true, beq_iff_eq, Bool.not_eq_true', decide_eq_true_eq] at h5
  obtain ⟨⟨⟨⟨⟨g1, g2⟩, g3⟩, g4⟩, g5⟩, g6⟩ := h5
  simp [Cond.before, Cond.holds, Cond.value, h1, h2, h3, h4, g1, g2, g3, g4, g5, g6]
def isCode : Jvm.Cond → Bool
  | .code _ _ _ _ => true
  | _ => false
theorem all_split {L : List Jvm.Cond} {P : Jvm.Cond → Bool} (h1 : L.all (fun c => isCode c || P c) = true) (h2 : ∀ c ∈ L.filter isCode, P c = true) : L.all P = true := by
  refine List.all_eq_true.mpr fun c hc => ?_
  have h := List.all_eq_true.mp h1 c hc
  rcases Bool.eq_false_or_eq_true (isCode c) with hi | hi
  · exact h2 c (List.mem_filter.mpr ⟨hc, hi⟩)
  · simpa [hi] using h
set_option maxRecDepth 65536 in
theorem w_c0 : (Jvm.Cond.code x code maxLocals ret).before args0 about1 = true := code_word (m := ⟨1, 3⟩) (meth := k1m3) (c := k1c3) (by decide +kernel) rfl rfl rfl (by decide +kernel)
set_option maxRecDepth 65536 in
theorem w_c1 : (Jvm.Cond.code ({ cls := "com/example/osage/osage/xpath/CodePointSet", name := "range", desc := "(II)Lcom/example/osage/osage/xpath/CodePointSet;" } : Jvm.MethodName) prog_34_method_2_code (2 : Nat) (Option.some (Jvm.ClassFile.FieldType.object "com/example/osage/osage/xpath/CodePointSet"))).before args0 about1 = true := code_word (m := ⟨2, 1⟩) (meth := k2m1) (c := k2c1) (by decide +kernel) rfl rfl rfl (by decide +kernel)
set_option maxRecDepth 65536 in
theorem w_c2 : (Jvm.Cond.code ({ cls := "com/example/osage/osage/xpath/CodePointSet", name := "<init>", desc := "([I)V" } : Jvm.MethodName) prog_34_method_1_code (2 : Nat) (Option.none : Option Jvm.ClassFile.FieldType)).before args0 about1 = true := code_word (m := ⟨2, 0⟩) (meth := k2m0) (c := k2c0) (by decide +kernel) rfl rfl rfl (by decide +kernel)
set_option maxRecDepth 65536 in
theorem w_c3 : (Jvm.Cond.code ({ cls := "java/lang/Object", name := "<init>", desc := "()V" } : Jvm.MethodName) object_method_1_code (1 : Nat) (Option.none : Option Jvm.ClassFile.FieldType)).before args0 about1 = true := code_word (m := ⟨0, 0⟩) (meth := k0m0) (c := k0c0) (by decide +kernel) rfl rfl rfl (by decide +kernel)
set_option maxRecDepth 65536 in
theorem w_c4 : (Jvm.Cond.code ({ cls := "com/example/osage/osage/xpath/CodePointSet", name := "ranges", desc := "()J" } : Jvm.MethodName) prog_34_method_9_code (1 : Nat) (Option.some Jvm.ClassFile.FieldType.long)).before args0 about1 = true := code_word (m := ⟨2, 2⟩) (meth := k2m2) (c := k2c2) (by decide +kernel) rfl rfl rfl (by decide +kernel)
set_option maxRecDepth 65536 in
theorem w_c5 : (Jvm.Cond.code ({ cls := "com/example/osage/osage/xpath/CodePointSetRangePinLaw", name := "agrees", desc := "(Lcom/example/osage/osage/xpath/CodePointSet;III)Z" } : Jvm.MethodName) method_3_code (4 : Nat) (Option.some Jvm.ClassFile.FieldType.boolean)).before args0 about1 = true := code_word (m := ⟨1, 2⟩) (meth := k1m2) (c := k1c2) (by decide +kernel) rfl rfl rfl (by decide +kernel)
set_option maxRecDepth 65536 in
theorem w_c6 : (Jvm.Cond.code ({ cls := "com/example/osage/osage/xpath/CodePointSet", name := "contains", desc := "(I)Z" } : Jvm.MethodName) prog_34_method_10_code (5 : Nat) (Option.some Jvm.ClassFile.FieldType.boolean)).before args0 about1 = true := code_word (m := ⟨2, 3⟩) (meth := k2m3) (c := k2c3) (by decide +kernel) rfl rfl rfl (by decide +kernel)
set_option maxRecDepth 65536 in
theorem w_c7 : (Jvm.Cond.code ({ cls := "com/example/osage/osage/xpath/CodePointSetRangePinLaw", name := "inside", desc := "(III)Z" } : Jvm.MethodName) method_2_code (3 : Nat) (Option.some Jvm.ClassFile.FieldType.boolean)).before args0 about1 = true := code_word (m := ⟨1, 1⟩) (meth := k1m1) (c := k1c1) (by decide +kernel) rfl rfl rfl (by decide +kernel)
def codes1 : List Jvm.Cond := [Jvm.Cond.code x code maxLocals ret, Jvm.Cond.code ({ cls := "com/example/osage/osage/xpath/CodePointSet", name := "range", desc := "(II)Lcom/example/osage/osage/xpath/CodePointSet;" } : Jvm.MethodName) prog_34_method_2_code (2 : Nat) (Option.some (Jvm.ClassFile.FieldType.object "com/example/osage/osage/xpath/CodePointSet")), Jvm.Cond.code ({ cls := "com/example/osage/osage/xpath/CodePointSet", name := "<init>", desc := "([I)V" } : Jvm.MethodName) prog_34_method_1_code (2 : Nat) (Option.none : Option Jvm.ClassFile.FieldType), Jvm.Cond.code ({ cls := "java/lang/Object", name := "<init>", desc := "()V" } : Jvm.MethodName) object_method_1_code (1 : Nat) (Option.none : Option Jvm.ClassFile.FieldType), Jvm.Cond.code ({ cls := "com/example/osage/osage/xpath/CodePointSet", name := "ranges", desc := "()J" } : Jvm.MethodName) prog_34_method_9_code (1 : Nat) (Option.some Jvm.ClassFile.FieldType.long), Jvm.Cond.code ({ cls := "com/example/osage/osage/xpath/CodePointSetRangePinLaw", name := "agrees", desc := "(Lcom/example/osage/osage/xpath/CodePointSet;III)Z" } : Jvm.MethodName) method_3_code (4 : Nat) (Option.some Jvm.ClassFile.FieldType.boolean), Jvm.Cond.code ({ cls := "com/example/osage/osage/xpath/CodePointSet", name := "contains", desc := "(I)Z" } : Jvm.MethodName) prog_34_method_10_code (5 : Nat) (Option.some Jvm.ClassFile.FieldType.boolean), Jvm.Cond.code ({ cls := "com/example/osage/osage/xpath/CodePointSetRangePinLaw", name := "inside", desc := "(III)Z" } : Jvm.MethodName) method_2_code (3 : Nat) (Option.some Jvm.ClassFile.FieldType.boolean)]
set_option maxRecDepth 65536 in
theorem codes_eq : words1.filter isCode = codes1 := rfl
theorem w_codes : ∀ c ∈ words1.filter isCode, c.before args0 about1 = true := by
  rw [codes_eq]
  intro c hc
  simp only [codes1, List.mem_cons, List.not_mem_nil, or_false] at hc
  rcases hc with rfl | rfl | rfl | rfl | rfl | rfl | rfl | rfl
  · exact w_c0
  · exact w_c1
  · exact w_c2
  · exact w_c3
  · exact w_c4
  · exact w_c5
  · exact w_c6
  · exact w_c7
set_option maxRecDepth 65536 in
theorem w_t1 : (words1.take 24).all (fun c => isCode c || c.before args0 about1) = true := by decide +kernel
set_option maxRecDepth 65536 in
theorem w_t2 : (words1.drop 24).all (fun c => isCode c || c.before args0 about1) = true := by decide +kernel
theorem w_tables : (allAtoms (Jvm.Cond.code x code maxLocals ret :: tables_1)).before args0 about1 = true := by
  rw [allAtoms_all]
  show words1.all (fun c => c.before args0 about1) = true
  refine all_split ?_ w_codes
  rw [← List.take_append_drop 24 words1, List.all_append, w_t1, w_t2]
  rfl
set_option maxRecDepth 65536 in
theorem w_case : (Jvm.Cond.and given_1 narrow_1).before args0 about1 = true := by decide +kernel
theorem w_applies : (headSpec (Jvm.Cond.code x code maxLocals ret :: tables_1) room_1).applies x e0.platform about1 = true :=
  (Spec.applies_iff w_frames).mpr ⟨w_running, w_runnable, w_alone, w_named, w_hears, w_ripe, w_room, w_tables⟩
theorem atStart : AtStart classFile x code maxLocals ret World_1 tables_1 room_1 Calls_1 rest_1 Pre_1 launch0 p0 e0 about1 theMethod args0 below0 :=
  ⟨lists_1, trivial, launch0.admits_env _ _ _, launch0.least_env, fairChoices_fair.cas, fairChoices_fair.clock, w_frames, w_args, w_heap, w_applies, trivial, trivial, w_case⟩
end start1
theorem witness_1 : WitnessClaimed_1 := ⟨start1.p0, start1.e0, start1.about1, start1.theMethod, start1.args0, start1.below0, start1.atStart⟩
end Jvm.Pilot.@@N@@
