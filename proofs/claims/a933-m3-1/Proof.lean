import JvmDerived
import JvmDerived.Pilot.@@N@@Statement
import JvmDerived.Pilot.@@N@@Code
set_option linter.unusedVariables false
set_option linter.unusedSimpArgs false
namespace Jvm.Pilot.@@N@@
open Jvm Jvm.ClassFile Sem Op Lib Jvm.Free Jvm.Stand Jvm.LawKit Jvm.RoadKit Bundle Jvm.Pilot.@@N@@.Jvm.D
/-! own_Ends: from here the run comes to its return, and what it leaves is as Qf says -/
def own_Ends (p : Program) (e : Env) (below : List Frame) (s : State) (Qf : Option Value → Heap → List Loc → Prop) (ce sl : Nat) (W : State) : Prop :=
  ∃ U o, Steps p.tables e below W U ∧ U.status = .running ∧ Ended U below o ∧ ∃ v L, o = .returned v ∧ Qf v U.heap L ∧ FrameEnd s o U L ce sl
section Own
variable {p : Program} {l : Launch} {e : Env} {R : Room} {s : State} {m : MethodId} {args : Array Value} {below : List Frame} {meth : Method} {c : Code} {T : State} {locs : List Loc} {cells slots : Nat} {Qf : Option Value → Heap → List Loc → Prop} {ce sl : Nat} {W0 W1 : State}
theorem own_go (h : ∀ t, Steps p.tables e below W1 t → Steps p.tables e below W0 t) (k : own_Ends p e below s Qf ce sl W1) : own_Ends p e below s Qf ce sl W0 := by
  obtain ⟨U, o, h1, h2⟩ := k
  exact ⟨U, o, h _ h1, h2⟩
theorem own_tr (h : Steps p.tables e below W0 W1) (k : own_Ends p e below s Qf ce sl W1) : own_Ends p e below s Qf ce sl W0 := own_go (fun t k => h.trans k) k
theorem own_st {t : State} (h : ∀ t, Steps p.tables e below W1 t → Steps p.tables e below W0 t) (k : Steps p.tables e below W1 t) : Steps p.tables e below W0 t := h t k
theorem own_done (X : Stand p l e R s m args below meth c T locs cells slots) {v : Option Value} (hv : meth.sig.returnType = none → v = none) (hlk : meth.locks = false) (hc : cells ≤ ce) (hs : slots ≤ sl) (hQ : Qf v T.heap locs)
    (h : ∀ fs, (∀ (f : JFrame) (acts : List Action), f.method = m → f.locked = none → f.entered = [] → (doReturn e (T.setTop f) acts v).1 = T.setFrames fs) → Steps p.tables e below W0 (T.setFrames fs)) : own_Ends p e below s Qf ce sl W0 := by
  obtain ⟨fs, hr, hrun, hended, hW, hsame⟩ := X.leave (v := v) hv hlk
  exact ⟨_, _, h fs hr, hrun, hended, _, _, rfl, hQ, ⟨_, rfl⟩, hW, hsame.mono hc hs⟩
theorem own_some {t : FieldType} {v : Option Value} (hret : meth.sig.returnType = some t) : meth.sig.returnType = none → v = none := fun h => by rw [hret] at h; cases h
theorem own_retI (X : Stand p l e R s m args below meth c T locs cells slots) (hx : p.tables.exec = Jvm.exec) {pc : Nat} {Ls : Array Slot} {z : Int32} {rest : List Value} (hret : meth.sig.returnType = some .int) (hd : decode c.code pc = .ok (.ireturn, 1)) (hlk : meth.locks = false) (hc : cells ≤ ce) (hs : slots ≤ sl) (hQ : Qf (some (.int z)) T.heap locs) :
    own_Ends p e below s Qf ce sl (T.setTop (mkF m pc Ls (.int z :: rest))) :=
  own_done X (own_some hret) hlk hc hs hQ fun fs hr => retOut X hx hret rfl (Or.inl ⟨rfl, Or.inl rfl, _, rfl⟩) hd hr
theorem own_retN (X : Stand p l e R s m args below meth c T locs cells slots) (hx : p.tables.exec = Jvm.exec) {pc : Nat} {Ls : Array Slot} {z : Int32} {t : FieldType} {rest : List Value} (hret : meth.sig.returnType = some t) (ht : t = .boolean ∨ t = .byte ∨ t = .char ∨ t = .short) (hd : decode c.code pc = .ok (.ireturn, 1)) (hlk : meth.locks = false) (hc : cells ≤ ce) (hs : slots ≤ sl) (hQ : Qf (some (.int (nar t z))) T.heap locs) :
    own_Ends p e below s Qf ce sl (T.setTop (mkF m pc Ls (.int z :: rest))) :=
  own_done X (own_some hret) hlk hc hs hQ fun fs hr => retN X hx hret ht hd hr
theorem own_retJ (X : Stand p l e R s m args below meth c T locs cells slots) (hx : p.tables.exec = Jvm.exec) {pc : Nat} {Ls : Array Slot} {z : Int64} {rest : List Value} (hret : meth.sig.returnType = some .long) (hd : decode c.code pc = .ok (.lreturn, 1)) (hlk : meth.locks = false) (hc : cells ≤ ce) (hs : slots ≤ sl) (hQ : Qf (some (.long z)) T.heap locs) :
    own_Ends p e below s Qf ce sl (T.setTop (mkF m pc Ls (.long z :: rest))) :=
  own_done X (own_some hret) hlk hc hs hQ fun fs hr => retOut X hx hret rfl (Or.inr (Or.inl ⟨rfl, rfl, _, rfl⟩)) hd hr
theorem own_retD (X : Stand p l e R s m args below meth c T locs cells slots) (hx : p.tables.exec = Jvm.exec) {pc : Nat} {Ls : Array Slot} {z : UInt64} {rest : List Value} (hret : meth.sig.returnType = some .double) (hd : decode c.code pc = .ok (.dreturn, 1)) (hlk : meth.locks = false) (hc : cells ≤ ce) (hs : slots ≤ sl) (hQ : Qf (some (.double z)) T.heap locs) :
    own_Ends p e below s Qf ce sl (T.setTop (mkF m pc Ls (.double z :: rest))) :=
  own_done X (own_some hret) hlk hc hs hQ fun fs hr => retOut X hx hret rfl (Or.inr (Or.inr (Or.inl ⟨rfl, rfl, _, rfl⟩))) hd hr
theorem own_retR (X : Stand p l e R s m args below meth c T locs cells slots) (hx : p.tables.exec = Jvm.exec) {pc : Nat} {Ls : Array Slot} {w : Value} {t : FieldType} {rest : List Value} (hret : meth.sig.returnType = some t) (ht : t.isReference = true) (hw : w.isRef = true) (hd : decode c.code pc = .ok (.areturn, 1)) (hlk : meth.locks = false) (hc : cells ≤ ce) (hs : slots ≤ sl) (hQ : Qf (some w) T.heap locs) :
    own_Ends p e below s Qf ce sl (T.setTop (mkF m pc Ls (w :: rest))) :=
  own_done X (own_some hret) hlk hc hs hQ fun fs hr => retOut X hx hret (by cases t <;> first | rfl | (simp [FieldType.isReference] at ht)) (Or.inr (Or.inr (Or.inr (Or.inr ⟨rfl, ht, hw⟩)))) hd hr
theorem own_retV (X : Stand p l e R s m args below meth c T locs cells slots) (hx : p.tables.exec = Jvm.exec) {pc : Nat} {Ls : Array Slot} (hret : meth.sig.returnType = none) (hd : decode c.code pc = .ok (.return_, 1)) (hlk : meth.locks = false) (hc : cells ≤ ce) (hs : slots ≤ sl) (hQ : Qf none T.heap locs) :
    own_Ends p e below s Qf ce sl (T.setTop (mkF m pc Ls [])) :=
  own_done X (fun _ => rfl) hlk hc hs hQ fun fs hr => X.returnOut hx hret hd hr
def own_b2i (P : Prop) [Decidable P] : Int32 := if P then 1 else 0
theorem own_b1 {P : Prop} [Decidable P] (h : P) : own_b2i P = 1 := if_pos h
theorem own_b0 {P : Prop} [Decidable P] (h : ¬ P) : own_b2i P = 0 := if_neg h
end Own
def own_Res (Z : State) (r ob : Addr) : Prop := Exa Z Z.heap r "com/example/cerb3rus/cerb3rus/evaluation/Result" ∧ Fld Z Z.heap r "com/example/cerb3rus/cerb3rus/evaluation/Result" "obligations" "Ljava/util/List;" (.ref ob) ∧ Fld Z Z.heap r "com/example/cerb3rus/cerb3rus/evaluation/Result" "advice" "Ljava/util/List;" (.ref ob)
def own_Lst (Z : State) (ob u : Addr) (ku : ClassId) : Prop := Exa Z Z.heap ob "java/util/ImmutableCollections$ListN" ∧ Fld Z Z.heap ob "java/util/ImmutableCollections$ListN" "elements" "[Ljava/lang/Object;" (.ref u) ∧ Exa Z Z.heap u "[Ljava/lang/Object;" ∧ Arv Z Z.heap u ku (.object "java/lang/Object") 0 [] .null
def own_Dflt (Z : State) (dd : Addr) : Prop := Sta Z Z.heap "java/util/ArrayList" "DEFAULTCAPACITY_EMPTY_ELEMENTDATA" "[Ljava/lang/Object;" (.ref dd)
def own_Qn (h0 : Heap) (n0 : Nat) (v : Option Value) (h : Heap) (L : List Loc) : Prop := v = none ∧ Fr n0 L ∧ h = h0
def own_Q (z : Value) (h0 : Heap) (n0 : Nat) (v : Option Value) (h : Heap) (L : List Loc) : Prop := v = some z ∧ Fr n0 L ∧ h = h0
def own_Qb (Z : State) (a1 : Addr) (h0 : Heap) (n0 : Nat) (v : Option Value) (h : Heap) (L : List Loc) : Prop := v = none ∧ Fr n0 L ∧ Keep h0 h [a1] ∧ Exa Z h a1 "java/util/ArrayList" ∧ Fld Z h a1 "java/util/AbstractList" "modCount" "I" (.int 0) ∧ Fld Z h a1 "java/util/ArrayList" "elementData" "[Ljava/lang/Object;" .null
def own_Ql (Z : State) (a1 dd : Addr) (h0 : Heap) (n0 : Nat) (v : Option Value) (h : Heap) (L : List Loc) : Prop := v = none ∧ Fr n0 L ∧ Keep h0 h [a1] ∧ Exa Z h a1 "java/util/ArrayList" ∧ Fld Z h a1 "java/util/AbstractList" "modCount" "I" (.int 0)
def own_Qg (Z : State) (a1 : Addr) (h0 : Heap) (n0 : Nat) (v : Option Value) (h : Heap) (L : List Loc) : Prop := ∃ b1 b2 : Addr, v = none ∧ Fr n0 L ∧ Keep h0 h [a1] ∧ h0.size ≤ b1 ∧ h0.size ≤ b2 ∧ b1 ≠ b2 ∧ Exa Z h a1 "com/example/cerb3rus/cerb3rus/combining/Gathered" ∧ Fld Z h a1 "com/example/cerb3rus/cerb3rus/combining/Gathered" "first" "Lcom/example/cerb3rus/cerb3rus/evaluation/Result;" .null ∧ Fld Z h a1 "com/example/cerb3rus/cerb3rus/combining/Gathered" "laterObligations" "Ljava/util/List;" (.ref b1) ∧ Fld Z h a1 "com/example/cerb3rus/cerb3rus/combining/Gathered" "laterAdvice" "Ljava/util/List;" (.ref b2) ∧ Exa Z h b1 "java/util/ArrayList" ∧ Fld Z h b1 "java/util/AbstractList" "modCount" "I" (.int 0) ∧ Exa Z h b2 "java/util/ArrayList" ∧ Fld Z h b2 "java/util/AbstractList" "modCount" "I" (.int 0)
def own_Qc (Z : State) (h0 : Heap) (n0 : Nat) (v : Option Value) (h : Heap) (L : List Loc) : Prop := ∃ (b : Addr) (kb : ClassId), v = some (.ref b) ∧ Fr n0 L ∧ Keep h0 h [] ∧ h0.size ≤ b ∧ Arv Z h b kb (.object "java/lang/Object") 0 [] .null
def own_Qa (Z : State) (a1 : Addr) (mc : Int32) (h0 : Heap) (n0 : Nat) (v : Option Value) (h : Heap) (L : List Loc) : Prop := v = some (.int 0) ∧ Fr n0 L ∧ Keep h0 h [a1] ∧ Exa Z h a1 "java/util/ArrayList" ∧ Fld Z h a1 "java/util/AbstractList" "modCount" "I" (.int (mc + 1))
def own_Qf (Z : State) (a1 r b1 b2 : Addr) (h0 : Heap) (n0 : Nat) (v : Option Value) (h : Heap) (L : List Loc) : Prop := v = none ∧ Fr n0 L ∧ Keep h0 h [a1] ∧ Exa Z h a1 "com/example/cerb3rus/cerb3rus/combining/Gathered" ∧ Fld Z h a1 "com/example/cerb3rus/cerb3rus/combining/Gathered" "first" "Lcom/example/cerb3rus/cerb3rus/evaluation/Result;" (.ref r) ∧ Fld Z h a1 "com/example/cerb3rus/cerb3rus/combining/Gathered" "laterObligations" "Ljava/util/List;" (.ref b1) ∧ Fld Z h a1 "com/example/cerb3rus/cerb3rus/combining/Gathered" "laterAdvice" "Ljava/util/List;" (.ref b2)
def own_Qs (Z : State) (b1 b2 : Addr) (m1 m2 : Int32) (h0 : Heap) (n0 : Nat) (v : Option Value) (h : Heap) (L : List Loc) : Prop := v = none ∧ Fr n0 L ∧ Keep h0 h [b1, b2] ∧ Exa Z h b1 "java/util/ArrayList" ∧ Fld Z h b1 "java/util/AbstractList" "modCount" "I" (.int (m1 + 1)) ∧ Exa Z h b2 "java/util/ArrayList" ∧ Fld Z h b2 "java/util/AbstractList" "modCount" "I" (.int (m2 + 1))
def own_Qp (sP sD : Addr) (h0 : Heap) (n0 : Nat) (v : Option Value) (h : Heap) (L : List Loc) : Prop := ∃ r : Addr, v = some (.ref r) ∧ Fr n0 L ∧ h = h0 ∧ (r = sP ∨ r = sD)
def own_Q0 (n0 : Nat) (v : Option Value) (h : Heap) (L : List Loc) : Prop := v = some (.int 1) ∧ Fr n0 L
theorem own_n (s : Int32) : s &&& 3 = 0 ∨ s &&& 3 = 1 ∨ s &&& 3 = 2 ∨ s &&& 3 = 3 := by
  have h := c_mask s 3 2 (by decide) (by decide)
  have e0 : (0 : Int32).toInt = 0 := rfl
  have e1 : (1 : Int32).toInt = 1 := rfl
  have e2 : (2 : Int32).toInt = 2 := rfl
  have e3 : (3 : Int32).toInt = 3 := rfl
  simp only [← Int32.toInt_inj]
  omega
theorem own_mirE {Z s : State} {args : Array Value} {C : String} {a : Addr} (hZ : Z.Warmed39 s.vm) (M : Mir Z C a) : (Jvm.Term.mirror C).eval args s none [] s = some (.ref a) := by
  obtain ⟨c, k, h1, h2, h3, -⟩ := M
  obtain ⟨k', q, ek⟩ := hZ.alike.2.2 _ _ h2
  have f : s.vm.findClass C = some c := by rw [hZ.alike.findClass]; exact h1
  have m : k'.mirror = some a := by rw [ek]; exact h3
  simp [Jvm.Term.eval, f, q, m]
theorem own_pn_java_util_AbstractCollection : plainName "java/util/AbstractCollection" = true := by first | (simp [plainName, overriddenIn]; done) | decide +kernel
theorem d6_0 : decode jdk_22_method_1_code 0 = .ok (.aload_n 0, 1) := by decide +kernel
theorem d6_1 : decode jdk_22_method_1_code 1 = .ok (.invokespecial 1, 3) := by decide +kernel
theorem d6_4 : decode jdk_22_method_1_code 4 = .ok (.return_, 1) := by decide +kernel
theorem ef_rm6 (m : MethodId) (x0 : Addr)  : entryFrame m #[(.ref x0)] 1 = mkF m 0 #[.val (.ref x0)] [] := by first | (simp [entryFrame, mkF, argsToLocals, Value.category]; done) | rfl
set_option maxRecDepth 65536 in
set_option maxHeartbeats 40000000 in
theorem rm6 (l : Launch) (Z : State) (a0 : Array Value) (hw : ∀ d ∈ tables_1, d.before a0 Z = true) (ws : List Jvm.Cond) (a1 : Addr) (h0 : Heap) (n0 : Nat) (Z0 : n0 ≤ h0.size)  :
    MetFree l (⟨"java/util/AbstractCollection", "<init>", "()V"⟩ : MethodName) (head1 (Jvm.Cond.code (⟨"java/util/AbstractCollection", "<init>", "()V"⟩ : MethodName) jdk_22_method_1_code 1 none :: ws) ({ frames := 1, cells := 0, slots := 0, locals := 12 } : Room)) (fun a U => a = #[(.ref a1)] ∧ Z.Warmed39 U.vm ∧ U.heap = h0) (fun _ _ _ _ _ => True) (fun _ U o U' => ∃ v L, o = .returned v ∧ own_Qn h0 n0 v U'.heap L ∧ FrameEnd U o U' L ({ frames := 1, cells := 0, slots := 0, locals := 12 } : Room).cells ({ frames := 1, cells := 0, slots := 0, locals := 12 } : Room).slots) := by
  refine MetFree.of_bodySF (plainFor_of_name own_pn_java_util_AbstractCollection) hisR ?_
  intro p e s m args below meth c s₁ Bd hml0 hP hK
  obtain ⟨rfl, hZ, hh⟩ := hP
  have hx := Bd.exec
  have hby := Bd.bytes
  have hlk := BodyLoose.notSynchronized Bd
  have hml : c.maxLocals = 1 := hml0
  have hown : s.vm.findClass "java/util/AbstractCollection" = some m.cls := findClass_of_methodNamed Bd.named
  have hnm := (name_of_methodNamed Bd.named Bd.method).1
  have X0 : Stand p l e ({ frames := 1, cells := 0, slots := 0, locals := 12 } : Room) s m #[(.ref a1)] below meth c s₁ [] 0 0 := Stand.of_body Bd
  have e0 : s₁.heap = h0 := by rw [← hh, Bd.state]; rfl
  have N0 := Fr.nil n0
  show own_Ends p e below s (own_Qn h0 n0) 0 0 (s₁.setTop (entryFrame m #[(.ref a1)] 1))
  refine own_go (W1 := s₁.setTop (mkF m 0 #[.val (.ref a1)] [])) (fun t k => castTop (ef_rm6 m a1 ) k) ?_
  refine own_go (W1 := s₁.setTop (mkF m 1 #[.val (.ref a1)] [(.ref a1)])) (fun t k => XS.aloadN X0.here hx rfl (hb hby d6_0) rfl rfl  k) ?_
  obtain ⟨T1, X1, e1, st1⟩ := initO X0 hx hZ hown (hw _ (List.mem_of_getElem? (i := 36) rfl)) (hw _ (List.mem_of_getElem? (i := 16) rfl)) (hw _ (List.mem_of_getElem? (i := 17) rfl)) e0 (g := (mkF m 1 #[.val (.ref a1)] [(.ref a1)])) rfl (by rw [hml]; rfl) rfl (hb hby d6_1) (by decide) (W := 0) (by show 2 * 0 + _ ≤ _; exact Nat.le_of_eq rfl) (by decide)
  refine own_go (W1 := T1.setTop (mkF m 4 #[.val (.ref a1)] [])) (st1) ?_
  exact own_retV X1 hx Bd.returns (hb hby d6_4) hlk (by decide) (by decide) ⟨rfl, N0, e1⟩
theorem own_pn_java_util_AbstractList : plainName "java/util/AbstractList" = true := by first | (simp [plainName, overriddenIn]; done) | decide +kernel
theorem d5_0 : decode jdk_39_method_1_code 0 = .ok (.aload_n 0, 1) := by decide +kernel
theorem d5_1 : decode jdk_39_method_1_code 1 = .ok (.invokespecial 1, 3) := by decide +kernel
theorem own_pd1 : parseMethodDescriptor "()V" = some ⟨[], none⟩ := by decide +kernel
theorem d5_4 : decode jdk_39_method_1_code 4 = .ok (.aload_n 0, 1) := by decide +kernel
theorem d5_5 : decode jdk_39_method_1_code 5 = .ok (.iconst 0, 1) := by decide +kernel
theorem d5_6 : decode jdk_39_method_1_code 6 = .ok (.putfield 7, 3) := by decide +kernel
theorem d5_9 : decode jdk_39_method_1_code 9 = .ok (.return_, 1) := by decide +kernel
theorem ef_rm5 (m : MethodId) (x0 : Addr)  : entryFrame m #[(.ref x0)] 1 = mkF m 0 #[.val (.ref x0)] [] := by first | (simp [entryFrame, mkF, argsToLocals, Value.category]; done) | rfl
set_option maxRecDepth 65536 in
set_option maxHeartbeats 40000000 in
theorem rm5 (l : Launch) (Z : State) (a0 : Array Value) (hw : ∀ d ∈ tables_1, d.before a0 Z = true) (ws : List Jvm.Cond) (a1 : Addr) (h0 : Heap) (n0 : Nat) (Z0 : n0 ≤ h0.size) (E_a1 : Exa Z h0 a1 "java/util/ArrayList") (F_modCount_a1 : Fld Z h0 a1 "java/util/AbstractList" "modCount" "I" (.int 0)) (F_elementData_a1 : Fld Z h0 a1 "java/util/ArrayList" "elementData" "[Ljava/lang/Object;" .null) (ge_a1 : n0 ≤ a1) :
    MetFree l (⟨"java/util/AbstractList", "<init>", "()V"⟩ : MethodName) (head1 (Jvm.Cond.code (⟨"java/util/AbstractList", "<init>", "()V"⟩ : MethodName) jdk_39_method_1_code 1 none :: ws) ({ frames := 2, cells := 0, slots := 0, locals := 24 } : Room)) (fun a U => a = #[(.ref a1)] ∧ Z.Warmed39 U.vm ∧ U.heap = h0) (fun _ _ _ _ _ => True) (fun _ U o U' => ∃ v L, o = .returned v ∧ own_Qb Z a1 h0 n0 v U'.heap L ∧ FrameEnd U o U' L ({ frames := 2, cells := 0, slots := 0, locals := 24 } : Room).cells ({ frames := 2, cells := 0, slots := 0, locals := 24 } : Room).slots) := by
  refine MetFree.of_bodySF (plainFor_of_name own_pn_java_util_AbstractList) hisR ?_
  intro p e s m args below meth c s₁ Bd hml0 hP hK
  obtain ⟨rfl, hZ, hh⟩ := hP
  have hx := Bd.exec
  have hby := Bd.bytes
  have hlk := BodyLoose.notSynchronized Bd
  have hml : c.maxLocals = 1 := hml0
  have hown : s.vm.findClass "java/util/AbstractList" = some m.cls := findClass_of_methodNamed Bd.named
  have hnm := (name_of_methodNamed Bd.named Bd.method).1
  have X0 : Stand p l e ({ frames := 2, cells := 0, slots := 0, locals := 24 } : Room) s m #[(.ref a1)] below meth c s₁ [] 0 0 := Stand.of_body Bd
  have e0 : s₁.heap = h0 := by rw [← hh, Bd.state]; rfl
  have N0 := Fr.nil n0
  show own_Ends p e below s (own_Qb Z a1 h0 n0) 0 0 (s₁.setTop (entryFrame m #[(.ref a1)] 1))
  refine own_go (W1 := s₁.setTop (mkF m 0 #[.val (.ref a1)] [])) (fun t k => castTop (ef_rm5 m a1 ) k) ?_
  have K0 := Keep.refl h0 [a1]
  refine own_go (W1 := s₁.setTop (mkF m 1 #[.val (.ref a1)] [(.ref a1)])) (fun t k => XS.aloadN X0.here hx rfl (hb hby d5_0) rfl rfl  k) ?_
  obtain ⟨_, _, ⟨T1, L1, k1, n1⟩, -, X1, ⟨Lc1, hQ1, l1, y1, z1⟩, st1⟩ := X0.specialBack hx (y := (⟨"java/util/AbstractCollection", "<init>", "()V"⟩ : MethodName)) rfl hown (mvT hZ (hw _ (List.mem_of_getElem? (i := 30) rfl))) (mvT hZ (hw _ (List.mem_of_getElem? (i := 31) rfl))) (mvT hZ (hw _ (List.mem_of_getElem? (i := 35) rfl))) (by decide) (backOf (W := 0) (rm6 l Z a0 hw [] a1 h0 n0 Z0) hZ (hw _ (List.mem_of_getElem? (i := 35) rfl)) (hw _ (List.mem_of_getElem? (i := 34) rfl)) (by decide) (by decide)) (g := (mkF m 1 #[.val (.ref a1)] [(.ref a1)])) rfl (by rw [hml]; rfl) (Steps.refl _) (a := a1) (argsL := []) (rest := []) (lenOf own_pd1 rfl) rfl (by show 2 * 0 + _ ≤ _; exact Nat.le_of_eq rfl) (hb hby d5_1) (fun _ _ => ⟨rfl, e0, (by decide : 0 + 0 ≤ _), (by decide : 0 + 0 ≤ _)⟩)
  dsimp only [Pt.U, Pt.locs, Pt.cells, Pt.slots] at X1 l1 y1 z1 st1 hQ1
  subst l1 y1 z1
  obtain ⟨rfl, Nq1, eh1⟩ := hQ1
  have N1 := Fr.app N0 Nq1
  refine own_tr (W1 := T1.setTop (mkF m 4 #[.val (.ref a1)] [])) st1 ?_
  refine own_go (W1 := T1.setTop (mkF m 5 #[.val (.ref a1)] [(.ref a1)])) (fun t k => XS.aloadN X1.here hx rfl (hb hby d5_4) rfl rfl  k) ?_
  refine own_go (W1 := T1.setTop (mkF m 6 #[.val (.ref a1)] [(.int (0 : Int32)), (.ref a1)])) (fun t k => XS.iconst X1.here hx rfl (hb hby d5_5) k) ?_
  obtain ⟨T2, h2, X2, e2, W2, st2⟩ := putF X1 hx hZ hown (host := "") (Or.inl (hw _ (List.mem_of_getElem? (i := 37) rfl))) Via.refl eh1 F_modCount_a1 E_a1 (Or.inl (hw _ (List.mem_of_getElem? (i := 38) rfl))) (hw _ (List.mem_of_getElem? (i := 19) rfl)) (ty := .int) (by decide) rfl rfl (g := (mkF m 6 #[.val (.ref a1)] [(.int (0 : Int32)), (.ref a1)])) rfl rfl (hb hby d5_6)
  have E_a1 := E_a1.wr W2
  have F_modCount_a1 := F_modCount_a1.same W2
  have F_elementData_a1 := F_elementData_a1.other W2 (Or.inr (slot_ne (a0 := a0) (Or.inl (hw _ (List.mem_of_getElem? (i := 41) rfl))) (Or.inl (hw _ (List.mem_of_getElem? (i := 38) rfl))) (by decide) (t := (.array (.object "java/lang/Object"))) (t' := .int) (by decide) (by decide)))
  have Z2 : n0 ≤ h2.size := by rw [W2.size]; exact Z0
  have K2 := K0.wr W2 (Or.inl (List.mem_of_getElem? (i := 0) rfl))
  have N2 := Fr.snoc X2 N1 ge_a1
  refine own_go (W1 := T2.setTop (mkF m 9 #[.val (.ref a1)] [])) (st2) ?_
  exact own_retV X2 hx Bd.returns (hb hby d5_9) hlk (by decide) (by decide) (by rw [e2]; exact ⟨rfl, N2, K2, E_a1, F_modCount_a1, F_elementData_a1⟩)
theorem own_pn_java_util_ArrayList : plainName "java/util/ArrayList" = true := by first | (simp [plainName, overriddenIn]; done) | decide +kernel
theorem d4_0 : decode jdk_38_method_2_code 0 = .ok (.aload_n 0, 1) := by decide +kernel
theorem d4_1 : decode jdk_38_method_2_code 1 = .ok (.invokespecial 1, 3) := by decide +kernel
theorem d4_4 : decode jdk_38_method_2_code 4 = .ok (.aload_n 0, 1) := by decide +kernel
theorem d4_5 : decode jdk_38_method_2_code 5 = .ok (.getstatic 39, 3) := by decide +kernel
theorem d4_8 : decode jdk_38_method_2_code 8 = .ok (.putfield 9, 3) := by decide +kernel
theorem d4_11 : decode jdk_38_method_2_code 11 = .ok (.return_, 1) := by decide +kernel
theorem ef_rm4 (m : MethodId) (x0 : Addr)  : entryFrame m #[(.ref x0)] 1 = mkF m 0 #[.val (.ref x0)] [] := by first | (simp [entryFrame, mkF, argsToLocals, Value.category]; done) | rfl
set_option maxRecDepth 65536 in
set_option maxHeartbeats 40000000 in
theorem rm4 (l : Launch) (Z : State) (a0 : Array Value) (hw : ∀ d ∈ tables_1, d.before a0 Z = true) (ws : List Jvm.Cond) (a1 dd : Addr) (h0 : Heap) (n0 : Nat) (Z0 : n0 ≤ h0.size) (E_a1 : Exa Z h0 a1 "java/util/ArrayList") (F_modCount_a1 : Fld Z h0 a1 "java/util/AbstractList" "modCount" "I" (.int 0)) (F_elementData_a1 : Fld Z h0 a1 "java/util/ArrayList" "elementData" "[Ljava/lang/Object;" .null) (ge_a1 : n0 ≤ a1) (Xo : Old Z n0 h0) (SD : own_Dflt Z dd) :
    MetFree l (⟨"java/util/ArrayList", "<init>", "()V"⟩ : MethodName) (head1 (Jvm.Cond.code (⟨"java/util/ArrayList", "<init>", "()V"⟩ : MethodName) jdk_38_method_2_code 1 none :: ws) ({ frames := 3, cells := 0, slots := 0, locals := 36 } : Room)) (fun a U => a = #[(.ref a1)] ∧ Z.Warmed39 U.vm ∧ U.heap = h0) (fun _ _ _ _ _ => True) (fun _ U o U' => ∃ v L, o = .returned v ∧ own_Ql Z a1 dd h0 n0 v U'.heap L ∧ FrameEnd U o U' L ({ frames := 3, cells := 0, slots := 0, locals := 36 } : Room).cells ({ frames := 3, cells := 0, slots := 0, locals := 36 } : Room).slots) := by
  refine MetFree.of_bodySF (plainFor_of_name own_pn_java_util_ArrayList) hisR ?_
  intro p e s m args below meth c s₁ Bd hml0 hP hK
  obtain ⟨rfl, hZ, hh⟩ := hP
  have hx := Bd.exec
  have hby := Bd.bytes
  have hlk := BodyLoose.notSynchronized Bd
  have hml : c.maxLocals = 1 := hml0
  have hown : s.vm.findClass "java/util/ArrayList" = some m.cls := findClass_of_methodNamed Bd.named
  have hnm := (name_of_methodNamed Bd.named Bd.method).1
  have X0 : Stand p l e ({ frames := 3, cells := 0, slots := 0, locals := 36 } : Room) s m #[(.ref a1)] below meth c s₁ [] 0 0 := Stand.of_body Bd
  have e0 : s₁.heap = h0 := by rw [← hh, Bd.state]; rfl
  have N0 := Fr.nil n0
  show own_Ends p e below s (own_Ql Z a1 dd h0 n0) 0 0 (s₁.setTop (entryFrame m #[(.ref a1)] 1))
  refine own_go (W1 := s₁.setTop (mkF m 0 #[.val (.ref a1)] [])) (fun t k => castTop (ef_rm4 m a1 ) k) ?_
  have K0 := Keep.refl h0 [a1]
  refine own_go (W1 := s₁.setTop (mkF m 1 #[.val (.ref a1)] [(.ref a1)])) (fun t k => XS.aloadN X0.here hx rfl (hb hby d4_0) rfl rfl  k) ?_
  obtain ⟨_, _, ⟨T1, L1, k1, n1⟩, -, X1, ⟨Lc1, hQ1, l1, y1, z1⟩, st1⟩ := X0.specialBack hx (y := (⟨"java/util/AbstractList", "<init>", "()V"⟩ : MethodName)) rfl hown (mvT hZ (hw _ (List.mem_of_getElem? (i := 24) rfl))) (mvT hZ (hw _ (List.mem_of_getElem? (i := 25) rfl))) (mvT hZ (hw _ (List.mem_of_getElem? (i := 29) rfl))) (by decide) (backOf (W := 0) (rm5 l Z a0 hw [] a1 h0 n0 Z0 E_a1 F_modCount_a1 F_elementData_a1 ge_a1) hZ (hw _ (List.mem_of_getElem? (i := 29) rfl)) (hw _ (List.mem_of_getElem? (i := 28) rfl)) (by decide) (by decide)) (g := (mkF m 1 #[.val (.ref a1)] [(.ref a1)])) rfl (by rw [hml]; rfl) (Steps.refl _) (a := a1) (argsL := []) (rest := []) (lenOf own_pd1 rfl) rfl (by show 2 * 0 + _ ≤ _; exact Nat.le_of_eq rfl) (hb hby d4_1) (fun _ _ => ⟨rfl, e0, (by decide : 0 + 0 ≤ _), (by decide : 0 + 0 ≤ _)⟩)
  dsimp only [Pt.U, Pt.locs, Pt.cells, Pt.slots] at X1 l1 y1 z1 st1 hQ1
  subst l1 y1 z1
  obtain ⟨rfl, Nq1, Kq1, Eq1, Fa1, Fb1⟩ := hQ1
  have E_a1 := E_a1.keep Kq1
  have Xo := Xo.keep Kq1 (allS ge_a1 all0)
  have Z1 : n0 ≤ T1.heap.size := Nat.le_trans Z0 Kq1.1
  have K1 := K0.trans Kq1 (allS (Or.inl (List.mem_of_getElem? (i := 0) rfl)) all0)
  have N1 := Fr.app N0 Nq1
  have F_modCount_a1 := Fa1
  have F_elementData_a1 := Fb1
  refine own_tr (W1 := T1.setTop (mkF m 4 #[.val (.ref a1)] [])) st1 ?_
  refine own_go (W1 := T1.setTop (mkF m 5 #[.val (.ref a1)] [(.ref a1)])) (fun t k => XS.aloadN X1.here hx rfl (hb hby d4_4) rfl rfl  k) ?_
  have S_D := Sta.ext Xo.2 SD
  obtain ⟨T2, X2, e2, st2⟩ := getS2 X1 hx hZ hown (host := "") (Or.inl (hw _ (List.mem_of_getElem? (i := 39) rfl))) Via.refl (rfl : T1.heap = T1.heap) S_D (g := (mkF m 5 #[.val (.ref a1)] [(.ref a1)])) rfl (hb hby d4_5)
  refine own_go (W1 := T2.setTop (mkF m 8 #[.val (.ref a1)] [(.ref dd), (.ref a1)])) (st2) ?_
  obtain ⟨T3, h3, X3, e3, W3, st3⟩ := putF X2 hx hZ hown (host := "") (Or.inl (hw _ (List.mem_of_getElem? (i := 40) rfl))) Via.refl e2 F_elementData_a1 E_a1 (Or.inl (hw _ (List.mem_of_getElem? (i := 41) rfl))) (hw _ (List.mem_of_getElem? (i := 19) rfl)) (ty := (.array (.object "java/lang/Object"))) (by decide) rfl rfl (g := (mkF m 8 #[.val (.ref a1)] [(.ref dd), (.ref a1)])) rfl rfl (hb hby d4_8)
  have E_a1 := E_a1.wr W3
  have Xo := Xo.wr W3 ge_a1
  have F_modCount_a1 := F_modCount_a1.other W3 (Or.inr (slot_ne (a0 := a0) (Or.inl (hw _ (List.mem_of_getElem? (i := 38) rfl))) (Or.inl (hw _ (List.mem_of_getElem? (i := 41) rfl))) (by decide) (t := .int) (t' := (.array (.object "java/lang/Object"))) (by decide) (by decide)))
  have F_elementData_a1 := F_elementData_a1.same W3
  have S_D := S_D.wr W3
  have Z3 : n0 ≤ h3.size := by rw [W3.size]; exact Z1
  have K3 := K1.wr W3 (Or.inl (List.mem_of_getElem? (i := 0) rfl))
  have N3 := Fr.snoc X3 N1 ge_a1
  refine own_go (W1 := T3.setTop (mkF m 11 #[.val (.ref a1)] [])) (st3) ?_
  exact own_retV X3 hx Bd.returns (hb hby d4_11) hlk (by decide) (by decide) (by rw [e3]; exact ⟨rfl, N3, K3, E_a1, F_modCount_a1⟩)
theorem own_pn_com_example_cerb3rus_cerb3rus_combining_Gathered : plainName "com/example/cerb3rus/cerb3rus/combining/Gathered" = true := by first | (simp [plainName, overriddenIn]; done) | decide +kernel
theorem d2_0 : decode prog_7_method_1_code 0 = .ok (.aload_n 0, 1) := by decide +kernel
theorem d2_1 : decode prog_7_method_1_code 1 = .ok (.invokespecial 1, 3) := by decide +kernel
theorem d2_4 : decode prog_7_method_1_code 4 = .ok (.aload_n 0, 1) := by decide +kernel
theorem d2_5 : decode prog_7_method_1_code 5 = .ok (.new 7, 3) := by decide +kernel
theorem d2_8 : decode prog_7_method_1_code 8 = .ok (.dup, 1) := by decide +kernel
theorem d2_9 : decode prog_7_method_1_code 9 = .ok (.invokespecial 9, 3) := by decide +kernel
theorem d2_12 : decode prog_7_method_1_code 12 = .ok (.putfield 10, 3) := by decide +kernel
theorem d2_15 : decode prog_7_method_1_code 15 = .ok (.aload_n 0, 1) := by decide +kernel
theorem d2_16 : decode prog_7_method_1_code 16 = .ok (.new 7, 3) := by decide +kernel
theorem d2_19 : decode prog_7_method_1_code 19 = .ok (.dup, 1) := by decide +kernel
theorem d2_20 : decode prog_7_method_1_code 20 = .ok (.invokespecial 9, 3) := by decide +kernel
theorem d2_23 : decode prog_7_method_1_code 23 = .ok (.putfield 16, 3) := by decide +kernel
theorem d2_26 : decode prog_7_method_1_code 26 = .ok (.return_, 1) := by decide +kernel
theorem ef_rm2 (m : MethodId) (x0 : Addr)  : entryFrame m #[(.ref x0)] 1 = mkF m 0 #[.val (.ref x0)] [] := by first | (simp [entryFrame, mkF, argsToLocals, Value.category]; done) | rfl
set_option maxRecDepth 65536 in
set_option maxHeartbeats 40000000 in
theorem rm2 (l : Launch) (Z : State) (a0 : Array Value) (hw : ∀ d ∈ tables_1, d.before a0 Z = true) (ws : List Jvm.Cond) (a1 dd : Addr) (h0 : Heap) (n0 : Nat) (Z0 : n0 ≤ h0.size) (E_a1 : Exa Z h0 a1 "com/example/cerb3rus/cerb3rus/combining/Gathered") (F_first_a1 : Fld Z h0 a1 "com/example/cerb3rus/cerb3rus/combining/Gathered" "first" "Lcom/example/cerb3rus/cerb3rus/evaluation/Result;" .null) (F_laterObligations_a1 : Fld Z h0 a1 "com/example/cerb3rus/cerb3rus/combining/Gathered" "laterObligations" "Ljava/util/List;" .null) (F_laterAdvice_a1 : Fld Z h0 a1 "com/example/cerb3rus/cerb3rus/combining/Gathered" "laterAdvice" "Ljava/util/List;" .null) (ge_a1 : n0 ≤ a1) (Xo : Old Z n0 h0) (SD : own_Dflt Z dd) :
    MetFree l (⟨"com/example/cerb3rus/cerb3rus/combining/Gathered", "<init>", "()V"⟩ : MethodName) (head1 (Jvm.Cond.code (⟨"com/example/cerb3rus/cerb3rus/combining/Gathered", "<init>", "()V"⟩ : MethodName) prog_7_method_1_code 1 none :: ws) ({ frames := 4, cells := 2, slots := 6, locals := 50 } : Room)) (fun a U => a = #[(.ref a1)] ∧ Z.Warmed39 U.vm ∧ U.heap = h0) (fun _ _ _ _ _ => True) (fun _ U o U' => ∃ v L, o = .returned v ∧ own_Qg Z a1 h0 n0 v U'.heap L ∧ FrameEnd U o U' L ({ frames := 4, cells := 2, slots := 6, locals := 50 } : Room).cells ({ frames := 4, cells := 2, slots := 6, locals := 50 } : Room).slots) := by
  refine MetFree.of_bodySF (plainFor_of_name own_pn_com_example_cerb3rus_cerb3rus_combining_Gathered) hisR ?_
  intro p e s m args below meth c s₁ Bd hml0 hP hK
  obtain ⟨rfl, hZ, hh⟩ := hP
  have hx := Bd.exec
  have hby := Bd.bytes
  have hlk := BodyLoose.notSynchronized Bd
  have hml : c.maxLocals = 1 := hml0
  have hown : s.vm.findClass "com/example/cerb3rus/cerb3rus/combining/Gathered" = some m.cls := findClass_of_methodNamed Bd.named
  have hnm := (name_of_methodNamed Bd.named Bd.method).1
  have X0 : Stand p l e ({ frames := 4, cells := 2, slots := 6, locals := 50 } : Room) s m #[(.ref a1)] below meth c s₁ [] 0 0 := Stand.of_body Bd
  have e0 : s₁.heap = h0 := by rw [← hh, Bd.state]; rfl
  have N0 := Fr.nil n0
  show own_Ends p e below s (own_Qg Z a1 h0 n0) 2 6 (s₁.setTop (entryFrame m #[(.ref a1)] 1))
  refine own_go (W1 := s₁.setTop (mkF m 0 #[.val (.ref a1)] [])) (fun t k => castTop (ef_rm2 m a1 ) k) ?_
  have K0 := Keep.refl h0 [a1]
  refine own_go (W1 := s₁.setTop (mkF m 1 #[.val (.ref a1)] [(.ref a1)])) (fun t k => XS.aloadN X0.here hx rfl (hb hby d2_0) rfl rfl  k) ?_
  obtain ⟨T1, X1, e1, st1⟩ := initO X0 hx hZ hown (hw _ (List.mem_of_getElem? (i := 15) rfl)) (hw _ (List.mem_of_getElem? (i := 16) rfl)) (hw _ (List.mem_of_getElem? (i := 17) rfl)) e0 (g := (mkF m 1 #[.val (.ref a1)] [(.ref a1)])) rfl (by rw [hml]; rfl) rfl (hb hby d2_1) (by decide) (W := 0) (by show 2 * 0 + _ ≤ _; exact Nat.le_of_eq rfl) (by decide)
  refine own_go (W1 := T1.setTop (mkF m 4 #[.val (.ref a1)] [])) (st1) ?_
  refine own_go (W1 := T1.setTop (mkF m 5 #[.val (.ref a1)] [(.ref a1)])) (fun t k => XS.aloadN X1.here hx rfl (hb hby d2_4) rfl rfl  k) ?_
  obtain ⟨T2, h2, X2, e2, E2, A2, D2, -, st2⟩ := newO X1 hx hZ hown (hw _ (List.mem_of_getElem? (i := 18) rfl)) (hw _ (List.mem_of_getElem? (i := 19) rfl)) (hw _ (List.mem_of_getElem? (i := 20) rfl)) e1 (g := (mkF m 5 #[.val (.ref a1)] [(.ref a1)])) rfl (hb hby d2_5) (by decide) (by decide)
  obtain ⟨b1, g2⟩ : ∃ z, z = h0.size := ⟨_, rfl⟩
  have ne_a1_b1 : a1 ≠ b1 := Nat.ne_of_lt (Nat.lt_of_lt_of_le E_a1.lt (Nat.le_of_eq g2.symm))
  have ge_b1 : n0 ≤ b1 := Nat.le_trans Z0 (Nat.le_of_eq g2.symm)
  have sz_b1 : h0.size ≤ b1 := Nat.le_trans K0.1 (Nat.le_of_eq g2.symm)
  rw [← g2] at A2 D2 st2
  have E_a1 := E_a1.ext E2
  have F_first_a1 := F_first_a1.ext E2
  have F_laterObligations_a1 := F_laterObligations_a1.ext E2
  have F_laterAdvice_a1 := F_laterAdvice_a1.ext E2
  have Xo := Xo.ext E2
  have Z2 : n0 ≤ h2.size := Nat.le_trans Z0 E2.1
  have K2 := K0.ext E2
  have E_b1 := A2
  have F_modCount_b1 : Fld Z h2 b1 "java/util/AbstractList" "modCount" "I" (.int (0 : Int32)) := D2 (Or.inl (hw _ (List.mem_of_getElem? (i := 38) rfl))) (ty := .int) (by decide)
  have F_elementData_b1 : Fld Z h2 b1 "java/util/ArrayList" "elementData" "[Ljava/lang/Object;" .null := D2 (Or.inl (hw _ (List.mem_of_getElem? (i := 41) rfl))) (ty := (.array (.object "java/lang/Object"))) (by decide)
  refine own_go (W1 := T2.setTop (mkF m 8 #[.val (.ref a1)] [(.ref b1), (.ref a1)])) (st2) ?_
  refine own_go (W1 := T2.setTop (mkF m 9 #[.val (.ref a1)] [(.ref b1), (.ref b1), (.ref a1)])) (fun t k => XS.dup X2.here hx rfl (hb hby d2_8) rfl rfl k) ?_
  obtain ⟨_, _, ⟨T3, L3, k3, n3⟩, -, X3, ⟨Lc3, hQ3, l3, y3, z3⟩, st3⟩ := X2.specialBack hx (y := (⟨"java/util/ArrayList", "<init>", "()V"⟩ : MethodName)) rfl hown (mvT hZ (hw _ (List.mem_of_getElem? (i := 21) rfl))) (mvT hZ (hw _ (List.mem_of_getElem? (i := 22) rfl))) (mvT hZ (hw _ (List.mem_of_getElem? (i := 23) rfl))) (by decide) (backOf (W := 2) (rm4 l Z a0 hw [] b1 dd h2 n0 Z2 E_b1 F_modCount_b1 F_elementData_b1 ge_b1 Xo SD) hZ (hw _ (List.mem_of_getElem? (i := 23) rfl)) (hw _ (List.mem_of_getElem? (i := 20) rfl)) (by decide) (by decide)) (g := (mkF m 9 #[.val (.ref a1)] [(.ref b1), (.ref b1), (.ref a1)])) rfl (by rw [hml]; rfl) (Steps.refl _) (a := b1) (argsL := []) (rest := [(.ref b1), (.ref a1)]) (lenOf own_pd1 rfl) rfl (by show 2 * 0 + _ ≤ _; exact Nat.le_of_eq rfl) (hb hby d2_9) (fun _ _ => ⟨rfl, e2, (by decide : 1 + 0 ≤ _), (by decide : 3 + 0 ≤ _)⟩)
  dsimp only [Pt.U, Pt.locs, Pt.cells, Pt.slots] at X3 l3 y3 z3 st3 hQ3
  subst l3 y3 z3
  obtain ⟨rfl, Nq3, Kq3, Eq3, Fa3⟩ := hQ3
  have E_a1 := E_a1.keep Kq3
  have F_first_a1 := F_first_a1.keep Kq3 (ninS ne_a1_b1 nin0)
  have F_laterObligations_a1 := F_laterObligations_a1.keep Kq3 (ninS ne_a1_b1 nin0)
  have F_laterAdvice_a1 := F_laterAdvice_a1.keep Kq3 (ninS ne_a1_b1 nin0)
  have Xo := Xo.keep Kq3 (allS ge_b1 all0)
  have E_b1 := E_b1.keep Kq3
  have Z3 : n0 ≤ T3.heap.size := Nat.le_trans Z2 Kq3.1
  have K3 := K2.trans Kq3 (allS (Or.inr sz_b1) all0)
  have N3 := Fr.app N0 Nq3
  have F_modCount_b1 := Fa3
  refine own_tr (W1 := T3.setTop (mkF m 12 #[.val (.ref a1)] [(.ref b1), (.ref a1)])) st3 ?_
  obtain ⟨T4, h4, X4, e4, W4, st4⟩ := putF X3 hx hZ hown (host := "") (Or.inl (hw _ (List.mem_of_getElem? (i := 42) rfl))) Via.refl (rfl : T3.heap = T3.heap) F_laterObligations_a1 E_a1 (Or.inr ⟨(hw _ (List.mem_of_getElem? (i := 43) rfl)), rfl, hnm⟩) (hw _ (List.mem_of_getElem? (i := 10) rfl)) (ty := (.object "java/util/List")) (by decide) rfl rfl (g := (mkF m 12 #[.val (.ref a1)] [(.ref b1), (.ref a1)])) rfl rfl (hb hby d2_12)
  have E_a1 := E_a1.wr W4
  have F_first_a1 := F_first_a1.other W4 (Or.inr (slot_ne (a0 := a0) (Or.inl (hw _ (List.mem_of_getElem? (i := 52) rfl))) (Or.inr (hw _ (List.mem_of_getElem? (i := 43) rfl))) (by decide) (t := (.object "com/example/cerb3rus/cerb3rus/evaluation/Result")) (t' := (.object "java/util/List")) (by decide) (by decide)))
  have F_laterObligations_a1 := F_laterObligations_a1.same W4
  have F_laterAdvice_a1 := F_laterAdvice_a1.other W4 (Or.inr (slot_ne (a0 := a0) (Or.inr (hw _ (List.mem_of_getElem? (i := 45) rfl))) (Or.inr (hw _ (List.mem_of_getElem? (i := 43) rfl))) (by decide) (t := (.object "java/util/List")) (t' := (.object "java/util/List")) (by decide) (by decide)))
  have Xo := Xo.wr W4 ge_a1
  have E_b1 := E_b1.wr W4
  have F_modCount_b1 := F_modCount_b1.other W4 (Or.inl (Ne.symm ne_a1_b1))
  have Z4 : n0 ≤ h4.size := by rw [W4.size]; exact Z3
  have K4 := K3.wr W4 (Or.inl (List.mem_of_getElem? (i := 0) rfl))
  have N4 := Fr.snoc X4 N3 ge_a1
  refine own_go (W1 := T4.setTop (mkF m 15 #[.val (.ref a1)] [])) (st4) ?_
  refine own_go (W1 := T4.setTop (mkF m 16 #[.val (.ref a1)] [(.ref a1)])) (fun t k => XS.aloadN X4.here hx rfl (hb hby d2_15) rfl rfl  k) ?_
  obtain ⟨T5, h5, X5, e5, E5, A5, D5, -, st5⟩ := newO X4 hx hZ hown (hw _ (List.mem_of_getElem? (i := 18) rfl)) (hw _ (List.mem_of_getElem? (i := 19) rfl)) (hw _ (List.mem_of_getElem? (i := 20) rfl)) e4 (g := (mkF m 16 #[.val (.ref a1)] [(.ref a1)])) rfl (hb hby d2_16) (by decide) (by decide)
  obtain ⟨b2, g5⟩ : ∃ z, z = h4.size := ⟨_, rfl⟩
  have ne_a1_b2 : a1 ≠ b2 := Nat.ne_of_lt (Nat.lt_of_lt_of_le E_a1.lt (Nat.le_of_eq g5.symm))
  have ne_b1_b2 : b1 ≠ b2 := Nat.ne_of_lt (Nat.lt_of_lt_of_le E_b1.lt (Nat.le_of_eq g5.symm))
  have ge_b2 : n0 ≤ b2 := Nat.le_trans Z4 (Nat.le_of_eq g5.symm)
  have sz_b2 : h0.size ≤ b2 := Nat.le_trans K4.1 (Nat.le_of_eq g5.symm)
  rw [← g5] at A5 D5 st5
  have E_a1 := E_a1.ext E5
  have F_first_a1 := F_first_a1.ext E5
  have F_laterObligations_a1 := F_laterObligations_a1.ext E5
  have F_laterAdvice_a1 := F_laterAdvice_a1.ext E5
  have Xo := Xo.ext E5
  have E_b1 := E_b1.ext E5
  have F_modCount_b1 := F_modCount_b1.ext E5
  have Z5 : n0 ≤ h5.size := Nat.le_trans Z4 E5.1
  have K5 := K4.ext E5
  have E_b2 := A5
  have F_modCount_b2 : Fld Z h5 b2 "java/util/AbstractList" "modCount" "I" (.int (0 : Int32)) := D5 (Or.inl (hw _ (List.mem_of_getElem? (i := 38) rfl))) (ty := .int) (by decide)
  have F_elementData_b2 : Fld Z h5 b2 "java/util/ArrayList" "elementData" "[Ljava/lang/Object;" .null := D5 (Or.inl (hw _ (List.mem_of_getElem? (i := 41) rfl))) (ty := (.array (.object "java/lang/Object"))) (by decide)
  refine own_go (W1 := T5.setTop (mkF m 19 #[.val (.ref a1)] [(.ref b2), (.ref a1)])) (st5) ?_
  refine own_go (W1 := T5.setTop (mkF m 20 #[.val (.ref a1)] [(.ref b2), (.ref b2), (.ref a1)])) (fun t k => XS.dup X5.here hx rfl (hb hby d2_19) rfl rfl k) ?_
  obtain ⟨_, _, ⟨T6, L6, k6, n6⟩, -, X6, ⟨Lc6, hQ6, l6, y6, z6⟩, st6⟩ := X5.specialBack hx (y := (⟨"java/util/ArrayList", "<init>", "()V"⟩ : MethodName)) rfl hown (mvT hZ (hw _ (List.mem_of_getElem? (i := 21) rfl))) (mvT hZ (hw _ (List.mem_of_getElem? (i := 22) rfl))) (mvT hZ (hw _ (List.mem_of_getElem? (i := 23) rfl))) (by decide) (backOf (W := 2) (rm4 l Z a0 hw [] b2 dd h5 n0 Z5 E_b2 F_modCount_b2 F_elementData_b2 ge_b2 Xo SD) hZ (hw _ (List.mem_of_getElem? (i := 23) rfl)) (hw _ (List.mem_of_getElem? (i := 20) rfl)) (by decide) (by decide)) (g := (mkF m 20 #[.val (.ref a1)] [(.ref b2), (.ref b2), (.ref a1)])) rfl (by rw [hml]; rfl) (Steps.refl _) (a := b2) (argsL := []) (rest := [(.ref b2), (.ref a1)]) (lenOf own_pd1 rfl) rfl (by show 2 * 0 + _ ≤ _; exact Nat.le_of_eq rfl) (hb hby d2_20) (fun _ _ => ⟨rfl, e5, (by decide : 2 + 0 ≤ _), (by decide : 6 + 0 ≤ _)⟩)
  dsimp only [Pt.U, Pt.locs, Pt.cells, Pt.slots] at X6 l6 y6 z6 st6 hQ6
  subst l6 y6 z6
  obtain ⟨rfl, Nq6, Kq6, Eq6, Fa6⟩ := hQ6
  have E_a1 := E_a1.keep Kq6
  have F_first_a1 := F_first_a1.keep Kq6 (ninS ne_a1_b2 nin0)
  have F_laterObligations_a1 := F_laterObligations_a1.keep Kq6 (ninS ne_a1_b2 nin0)
  have F_laterAdvice_a1 := F_laterAdvice_a1.keep Kq6 (ninS ne_a1_b2 nin0)
  have Xo := Xo.keep Kq6 (allS ge_b2 all0)
  have E_b1 := E_b1.keep Kq6
  have F_modCount_b1 := F_modCount_b1.keep Kq6 (ninS ne_b1_b2 nin0)
  have E_b2 := E_b2.keep Kq6
  have Z6 : n0 ≤ T6.heap.size := Nat.le_trans Z5 Kq6.1
  have K6 := K5.trans Kq6 (allS (Or.inr sz_b2) all0)
  have N6 := Fr.app N4 Nq6
  have F_modCount_b2 := Fa6
  refine own_tr (W1 := T6.setTop (mkF m 23 #[.val (.ref a1)] [(.ref b2), (.ref a1)])) st6 ?_
  obtain ⟨T7, h7, X7, e7, W7, st7⟩ := putF X6 hx hZ hown (host := "") (Or.inl (hw _ (List.mem_of_getElem? (i := 44) rfl))) Via.refl (rfl : T6.heap = T6.heap) F_laterAdvice_a1 E_a1 (Or.inr ⟨(hw _ (List.mem_of_getElem? (i := 45) rfl)), rfl, hnm⟩) (hw _ (List.mem_of_getElem? (i := 10) rfl)) (ty := (.object "java/util/List")) (by decide) rfl rfl (g := (mkF m 23 #[.val (.ref a1)] [(.ref b2), (.ref a1)])) rfl rfl (hb hby d2_23)
  have E_a1 := E_a1.wr W7
  have F_first_a1 := F_first_a1.other W7 (Or.inr (slot_ne (a0 := a0) (Or.inl (hw _ (List.mem_of_getElem? (i := 52) rfl))) (Or.inr (hw _ (List.mem_of_getElem? (i := 45) rfl))) (by decide) (t := (.object "com/example/cerb3rus/cerb3rus/evaluation/Result")) (t' := (.object "java/util/List")) (by decide) (by decide)))
  have F_laterObligations_a1 := F_laterObligations_a1.other W7 (Or.inr (slot_ne (a0 := a0) (Or.inr (hw _ (List.mem_of_getElem? (i := 43) rfl))) (Or.inr (hw _ (List.mem_of_getElem? (i := 45) rfl))) (by decide) (t := (.object "java/util/List")) (t' := (.object "java/util/List")) (by decide) (by decide)))
  have F_laterAdvice_a1 := F_laterAdvice_a1.same W7
  have Xo := Xo.wr W7 ge_a1
  have E_b1 := E_b1.wr W7
  have F_modCount_b1 := F_modCount_b1.other W7 (Or.inl (Ne.symm ne_a1_b1))
  have E_b2 := E_b2.wr W7
  have F_modCount_b2 := F_modCount_b2.other W7 (Or.inl (Ne.symm ne_a1_b2))
  have Z7 : n0 ≤ h7.size := by rw [W7.size]; exact Z6
  have K7 := K6.wr W7 (Or.inl (List.mem_of_getElem? (i := 0) rfl))
  have N7 := Fr.snoc X7 N6 ge_a1
  refine own_go (W1 := T7.setTop (mkF m 26 #[.val (.ref a1)] [])) (st7) ?_
  exact own_retV X7 hx Bd.returns (hb hby d2_26) hlk (by decide) (by decide) (by rw [e7]; exact ⟨b1, b2, rfl, N7, K7, sz_b1, sz_b2, ne_b1_b2, E_a1, F_first_a1, F_laterObligations_a1, F_laterAdvice_a1, E_b1, F_modCount_b1, E_b2, F_modCount_b2⟩)
theorem d7_0 : decode prog_7_method_3_code 0 = .ok (.aload_n 0, 1) := by decide +kernel
theorem d7_1 : decode prog_7_method_3_code 1 = .ok (.getfield 19, 3) := by decide +kernel
theorem d7_4 : decode prog_7_method_3_code 4 = .ok (.ifnonnull 7, 3) := by decide +kernel
theorem d7_7 : decode prog_7_method_3_code 7 = .ok (.iconst 1, 1) := by decide +kernel
theorem d7_8 : decode prog_7_method_3_code 8 = .ok (.goto 4, 3) := by decide +kernel
theorem d7_12 : decode prog_7_method_3_code 12 = .ok (.ireturn, 1) := by decide +kernel
theorem ef_rmE1 (m : MethodId) (x0 : Addr)  : entryFrame m #[(.ref x0)] 1 = mkF m 0 #[.val (.ref x0)] [] := by first | (simp [entryFrame, mkF, argsToLocals, Value.category]; done) | rfl
set_option maxRecDepth 65536 in
set_option maxHeartbeats 40000000 in
theorem rmE1 (l : Launch) (Z : State) (a0 : Array Value) (hw : ∀ d ∈ tables_1, d.before a0 Z = true) (ws : List Jvm.Cond) (a1 : Addr) (h0 : Heap) (n0 : Nat) (Z0 : n0 ≤ h0.size) (F_f : Fld Z h0 a1 "com/example/cerb3rus/cerb3rus/combining/Gathered" "first" "Lcom/example/cerb3rus/cerb3rus/evaluation/Result;" .null) :
    MetFree l (⟨"com/example/cerb3rus/cerb3rus/combining/Gathered", "isEmpty", "()Z"⟩ : MethodName) (head1 (Jvm.Cond.code (⟨"com/example/cerb3rus/cerb3rus/combining/Gathered", "isEmpty", "()Z"⟩ : MethodName) prog_7_method_3_code 1 (some .boolean) :: ws) ({ frames := 0, cells := 0, slots := 0, locals := 0 } : Room)) (fun a U => a = #[(.ref a1)] ∧ Z.Warmed39 U.vm ∧ U.heap = h0) (fun _ _ _ _ _ => True) (fun _ U o U' => ∃ v L, o = .returned v ∧ own_Q (.int 1) h0 n0 v U'.heap L ∧ FrameEnd U o U' L ({ frames := 0, cells := 0, slots := 0, locals := 0 } : Room).cells ({ frames := 0, cells := 0, slots := 0, locals := 0 } : Room).slots) := by
  refine MetFree.of_bodySF (plainFor_of_name own_pn_com_example_cerb3rus_cerb3rus_combining_Gathered) hisR ?_
  intro p e s m args below meth c s₁ Bd hml0 hP hK
  obtain ⟨rfl, hZ, hh⟩ := hP
  have hx := Bd.exec
  have hby := Bd.bytes
  have hlk := BodyLoose.notSynchronized Bd
  have hml : c.maxLocals = 1 := hml0
  have hown : s.vm.findClass "com/example/cerb3rus/cerb3rus/combining/Gathered" = some m.cls := findClass_of_methodNamed Bd.named
  have hnm := (name_of_methodNamed Bd.named Bd.method).1
  have X0 : Stand p l e ({ frames := 0, cells := 0, slots := 0, locals := 0 } : Room) s m #[(.ref a1)] below meth c s₁ [] 0 0 := Stand.of_body Bd
  have e0 : s₁.heap = h0 := by rw [← hh, Bd.state]; rfl
  have N0 := Fr.nil n0
  show own_Ends p e below s (own_Q (.int 1) h0 n0) 0 0 (s₁.setTop (entryFrame m #[(.ref a1)] 1))
  refine own_go (W1 := s₁.setTop (mkF m 0 #[.val (.ref a1)] [])) (fun t k => castTop (ef_rmE1 m a1 ) k) ?_
  refine own_go (W1 := s₁.setTop (mkF m 1 #[.val (.ref a1)] [(.ref a1)])) (fun t k => XS.aloadN X0.here hx rfl (hb hby d7_0) rfl rfl  k) ?_
  obtain ⟨T1, X1, e1, st1⟩ := getF X0 hx hZ hown (host := "") (Or.inl (hw _ (List.mem_of_getElem? (i := 51) rfl))) Via.refl e0 F_f (g := (mkF m 1 #[.val (.ref a1)] [(.ref a1)])) rfl rfl (hb hby d7_1)
  refine own_go (W1 := T1.setTop (mkF m 4 #[.val (.ref a1)] [.null])) (st1) ?_
  refine own_go (W1 := T1.setTop (mkF m 7 #[.val (.ref a1)] [])) (fun t k => XS.ifnonnullNo X1.here hx rfl (hb hby d7_4) rfl k) ?_
  refine own_go (W1 := T1.setTop (mkF m 8 #[.val (.ref a1)] [(.int (1 : Int32))])) (fun t k => XS.iconst X1.here hx rfl (hb hby d7_7) k) ?_
  refine own_go (W1 := T1.setTop (mkF m 12 #[.val (.ref a1)] [(.int (1 : Int32))])) (fun t k => XS.goto X1.here hx rfl (pc0 := 8) (pc' := 12) rfl (hb hby d7_8) (by decide) (by decide) k) ?_
  exact own_retN X1 hx (t := .boolean) Bd.returns (by simp) (hb hby d7_12) hlk (by decide) (by decide) ⟨rfl, N0, e1⟩
theorem d7_11 : decode prog_7_method_3_code 11 = .ok (.iconst 0, 1) := by decide +kernel
theorem ef_rmE0 (m : MethodId) (x0 : Addr)  : entryFrame m #[(.ref x0)] 1 = mkF m 0 #[.val (.ref x0)] [] := by first | (simp [entryFrame, mkF, argsToLocals, Value.category]; done) | rfl
set_option maxRecDepth 65536 in
set_option maxHeartbeats 40000000 in
theorem rmE0 (l : Launch) (Z : State) (a0 : Array Value) (hw : ∀ d ∈ tables_1, d.before a0 Z = true) (ws : List Jvm.Cond) (a1 r : Addr) (h0 : Heap) (n0 : Nat) (Z0 : n0 ≤ h0.size) (F_f : Fld Z h0 a1 "com/example/cerb3rus/cerb3rus/combining/Gathered" "first" "Lcom/example/cerb3rus/cerb3rus/evaluation/Result;" (.ref r)) :
    MetFree l (⟨"com/example/cerb3rus/cerb3rus/combining/Gathered", "isEmpty", "()Z"⟩ : MethodName) (head1 (Jvm.Cond.code (⟨"com/example/cerb3rus/cerb3rus/combining/Gathered", "isEmpty", "()Z"⟩ : MethodName) prog_7_method_3_code 1 (some .boolean) :: ws) ({ frames := 0, cells := 0, slots := 0, locals := 0 } : Room)) (fun a U => a = #[(.ref a1)] ∧ Z.Warmed39 U.vm ∧ U.heap = h0) (fun _ _ _ _ _ => True) (fun _ U o U' => ∃ v L, o = .returned v ∧ own_Q (.int 0) h0 n0 v U'.heap L ∧ FrameEnd U o U' L ({ frames := 0, cells := 0, slots := 0, locals := 0 } : Room).cells ({ frames := 0, cells := 0, slots := 0, locals := 0 } : Room).slots) := by
  refine MetFree.of_bodySF (plainFor_of_name own_pn_com_example_cerb3rus_cerb3rus_combining_Gathered) hisR ?_
  intro p e s m args below meth c s₁ Bd hml0 hP hK
  obtain ⟨rfl, hZ, hh⟩ := hP
  have hx := Bd.exec
  have hby := Bd.bytes
  have hlk := BodyLoose.notSynchronized Bd
  have hml : c.maxLocals = 1 := hml0
  have hown : s.vm.findClass "com/example/cerb3rus/cerb3rus/combining/Gathered" = some m.cls := findClass_of_methodNamed Bd.named
  have hnm := (name_of_methodNamed Bd.named Bd.method).1
  have X0 : Stand p l e ({ frames := 0, cells := 0, slots := 0, locals := 0 } : Room) s m #[(.ref a1)] below meth c s₁ [] 0 0 := Stand.of_body Bd
  have e0 : s₁.heap = h0 := by rw [← hh, Bd.state]; rfl
  have N0 := Fr.nil n0
  show own_Ends p e below s (own_Q (.int 0) h0 n0) 0 0 (s₁.setTop (entryFrame m #[(.ref a1)] 1))
  refine own_go (W1 := s₁.setTop (mkF m 0 #[.val (.ref a1)] [])) (fun t k => castTop (ef_rmE0 m a1 ) k) ?_
  refine own_go (W1 := s₁.setTop (mkF m 1 #[.val (.ref a1)] [(.ref a1)])) (fun t k => XS.aloadN X0.here hx rfl (hb hby d7_0) rfl rfl  k) ?_
  obtain ⟨T1, X1, e1, st1⟩ := getF X0 hx hZ hown (host := "") (Or.inl (hw _ (List.mem_of_getElem? (i := 51) rfl))) Via.refl e0 F_f (g := (mkF m 1 #[.val (.ref a1)] [(.ref a1)])) rfl rfl (hb hby d7_1)
  refine own_go (W1 := T1.setTop (mkF m 4 #[.val (.ref a1)] [(.ref r)])) (st1) ?_
  refine own_go (W1 := T1.setTop (mkF m 11 #[.val (.ref a1)] [])) (fun t k => XS.ifnonnullYes X1.here hx rfl (pc0 := 4) (pc' := 11) rfl (hb hby d7_4) rfl (by decide) (by decide) k) ?_
  refine own_go (W1 := T1.setTop (mkF m 12 #[.val (.ref a1)] [(.int (0 : Int32))])) (fun t k => XS.iconst X1.here hx rfl (hb hby d7_11) k) ?_
  exact own_retN X1 hx (t := .boolean) Bd.returns (by simp) (hb hby d7_12) hlk (by decide) (by decide) ⟨rfl, N0, e1⟩
def own_Q9 (w : Value) (h0 : Heap) (n0 : Nat) (v : Option Value) (h : Heap) (L : List Loc) : Prop := v = some w ∧ Fr n0 L ∧ h = h0
theorem own_pn_com_example_cerb3rus_cerb3rus_evaluation_Result : plainName "com/example/cerb3rus/cerb3rus/evaluation/Result" = true := by first | (simp [plainName, overriddenIn]; done) | decide +kernel
theorem d9_0 : decode prog_32_method_9_code 0 = .ok (.aload_n 0, 1) := by decide +kernel
theorem d9_1 : decode prog_32_method_9_code 1 = .ok (.getfield 31, 3) := by decide +kernel
theorem d9_4 : decode prog_32_method_9_code 4 = .ok (.areturn, 1) := by decide +kernel
theorem ef_rm9 (m : MethodId) (x0 : Addr)  : entryFrame m #[(.ref x0)] 1 = mkF m 0 #[.val (.ref x0)] [] := by first | (simp [entryFrame, mkF, argsToLocals, Value.category]; done) | rfl
set_option maxRecDepth 65536 in
set_option maxHeartbeats 40000000 in
theorem rm9 (l : Launch) (Z : State) (a0 : Array Value) (hw : ∀ d ∈ tables_1, d.before a0 Z = true) (ws : List Jvm.Cond) (a1 : Addr) (w : Value) (h0 : Heap) (n0 : Nat) (Z0 : n0 ≤ h0.size) (F_w : Fld Z h0 a1 "com/example/cerb3rus/cerb3rus/evaluation/Result" "obligations" "Ljava/util/List;" w) (h_w : w.isRef = true) :
    MetFree l (⟨"com/example/cerb3rus/cerb3rus/evaluation/Result", "obligations", "()Ljava/util/List;"⟩ : MethodName) (head1 (Jvm.Cond.code (⟨"com/example/cerb3rus/cerb3rus/evaluation/Result", "obligations", "()Ljava/util/List;"⟩ : MethodName) prog_32_method_9_code 1 (some (.object "java/util/List")) :: ws) ({ frames := 0, cells := 0, slots := 0, locals := 0 } : Room)) (fun a U => a = #[(.ref a1)] ∧ Z.Warmed39 U.vm ∧ U.heap = h0) (fun _ _ _ _ _ => True) (fun _ U o U' => ∃ v L, o = .returned v ∧ own_Q9 w h0 n0 v U'.heap L ∧ FrameEnd U o U' L ({ frames := 0, cells := 0, slots := 0, locals := 0 } : Room).cells ({ frames := 0, cells := 0, slots := 0, locals := 0 } : Room).slots) := by
  refine MetFree.of_bodySF (plainFor_of_name own_pn_com_example_cerb3rus_cerb3rus_evaluation_Result) hisR ?_
  intro p e s m args below meth c s₁ Bd hml0 hP hK
  obtain ⟨rfl, hZ, hh⟩ := hP
  have hx := Bd.exec
  have hby := Bd.bytes
  have hlk := BodyLoose.notSynchronized Bd
  have hml : c.maxLocals = 1 := hml0
  have hown : s.vm.findClass "com/example/cerb3rus/cerb3rus/evaluation/Result" = some m.cls := findClass_of_methodNamed Bd.named
  have hnm := (name_of_methodNamed Bd.named Bd.method).1
  have X0 : Stand p l e ({ frames := 0, cells := 0, slots := 0, locals := 0 } : Room) s m #[(.ref a1)] below meth c s₁ [] 0 0 := Stand.of_body Bd
  have e0 : s₁.heap = h0 := by rw [← hh, Bd.state]; rfl
  have N0 := Fr.nil n0
  show own_Ends p e below s (own_Q9 w h0 n0) 0 0 (s₁.setTop (entryFrame m #[(.ref a1)] 1))
  refine own_go (W1 := s₁.setTop (mkF m 0 #[.val (.ref a1)] [])) (fun t k => castTop (ef_rm9 m a1 ) k) ?_
  refine own_go (W1 := s₁.setTop (mkF m 1 #[.val (.ref a1)] [(.ref a1)])) (fun t k => XS.aloadN X0.here hx rfl (hb hby d9_0) rfl rfl  k) ?_
  obtain ⟨T1, X1, e1, st1⟩ := getF X0 hx hZ hown (host := "") (Or.inl (hw _ (List.mem_of_getElem? (i := 63) rfl))) Via.refl e0 F_w (g := (mkF m 1 #[.val (.ref a1)] [(.ref a1)])) rfl rfl (hb hby d9_1)
  refine own_go (W1 := T1.setTop (mkF m 4 #[.val (.ref a1)] [w])) (st1) ?_
  exact own_retR X1 hx Bd.returns rfl h_w (hb hby d9_4) hlk (by decide) (by decide) ⟨rfl, N0, e1⟩
def own_Q15 (w : Value) (h0 : Heap) (n0 : Nat) (v : Option Value) (h : Heap) (L : List Loc) : Prop := v = some w ∧ Fr n0 L ∧ h = h0
theorem d15_0 : decode prog_32_method_10_code 0 = .ok (.aload_n 0, 1) := by decide +kernel
theorem d15_1 : decode prog_32_method_10_code 1 = .ok (.getfield 35, 3) := by decide +kernel
theorem d15_4 : decode prog_32_method_10_code 4 = .ok (.areturn, 1) := by decide +kernel
theorem ef_rm15 (m : MethodId) (x0 : Addr)  : entryFrame m #[(.ref x0)] 1 = mkF m 0 #[.val (.ref x0)] [] := by first | (simp [entryFrame, mkF, argsToLocals, Value.category]; done) | rfl
set_option maxRecDepth 65536 in
set_option maxHeartbeats 40000000 in
theorem rm15 (l : Launch) (Z : State) (a0 : Array Value) (hw : ∀ d ∈ tables_1, d.before a0 Z = true) (ws : List Jvm.Cond) (a1 : Addr) (w : Value) (h0 : Heap) (n0 : Nat) (Z0 : n0 ≤ h0.size) (F_w : Fld Z h0 a1 "com/example/cerb3rus/cerb3rus/evaluation/Result" "advice" "Ljava/util/List;" w) (h_w : w.isRef = true) :
    MetFree l (⟨"com/example/cerb3rus/cerb3rus/evaluation/Result", "advice", "()Ljava/util/List;"⟩ : MethodName) (head1 (Jvm.Cond.code (⟨"com/example/cerb3rus/cerb3rus/evaluation/Result", "advice", "()Ljava/util/List;"⟩ : MethodName) prog_32_method_10_code 1 (some (.object "java/util/List")) :: ws) ({ frames := 0, cells := 0, slots := 0, locals := 0 } : Room)) (fun a U => a = #[(.ref a1)] ∧ Z.Warmed39 U.vm ∧ U.heap = h0) (fun _ _ _ _ _ => True) (fun _ U o U' => ∃ v L, o = .returned v ∧ own_Q15 w h0 n0 v U'.heap L ∧ FrameEnd U o U' L ({ frames := 0, cells := 0, slots := 0, locals := 0 } : Room).cells ({ frames := 0, cells := 0, slots := 0, locals := 0 } : Room).slots) := by
  refine MetFree.of_bodySF (plainFor_of_name own_pn_com_example_cerb3rus_cerb3rus_evaluation_Result) hisR ?_
  intro p e s m args below meth c s₁ Bd hml0 hP hK
  obtain ⟨rfl, hZ, hh⟩ := hP
  have hx := Bd.exec
  have hby := Bd.bytes
  have hlk := BodyLoose.notSynchronized Bd
  have hml : c.maxLocals = 1 := hml0
  have hown : s.vm.findClass "com/example/cerb3rus/cerb3rus/evaluation/Result" = some m.cls := findClass_of_methodNamed Bd.named
  have hnm := (name_of_methodNamed Bd.named Bd.method).1
  have X0 : Stand p l e ({ frames := 0, cells := 0, slots := 0, locals := 0 } : Room) s m #[(.ref a1)] below meth c s₁ [] 0 0 := Stand.of_body Bd
  have e0 : s₁.heap = h0 := by rw [← hh, Bd.state]; rfl
  have N0 := Fr.nil n0
  show own_Ends p e below s (own_Q15 w h0 n0) 0 0 (s₁.setTop (entryFrame m #[(.ref a1)] 1))
  refine own_go (W1 := s₁.setTop (mkF m 0 #[.val (.ref a1)] [])) (fun t k => castTop (ef_rm15 m a1 ) k) ?_
  refine own_go (W1 := s₁.setTop (mkF m 1 #[.val (.ref a1)] [(.ref a1)])) (fun t k => XS.aloadN X0.here hx rfl (hb hby d15_0) rfl rfl  k) ?_
  obtain ⟨T1, X1, e1, st1⟩ := getF X0 hx hZ hown (host := "") (Or.inl (hw _ (List.mem_of_getElem? (i := 117) rfl))) Via.refl e0 F_w (g := (mkF m 1 #[.val (.ref a1)] [(.ref a1)])) rfl rfl (hb hby d15_1)
  refine own_go (W1 := T1.setTop (mkF m 4 #[.val (.ref a1)] [w])) (st1) ?_
  exact own_retR X1 hx Bd.returns rfl h_w (hb hby d15_4) hlk (by decide) (by decide) ⟨rfl, N0, e1⟩
theorem d14_0 : decode jdk_29_method_69_code 0 = .ok (.iload_n 0, 1) := by decide +kernel
theorem d14_1 : decode jdk_29_method_69_code 1 = .ok (.iload_n 1, 1) := by decide +kernel
theorem d14_2 : decode jdk_29_method_69_code 2 = .ok (.if_icmp .gt 7, 3) := by decide +kernel
theorem d14_5 : decode jdk_29_method_69_code 5 = .ok (.iload_n 0, 1) := by decide +kernel
theorem d14_6 : decode jdk_29_method_69_code 6 = .ok (.goto 4, 3) := by decide +kernel
theorem d14_10 : decode jdk_29_method_69_code 10 = .ok (.ireturn, 1) := by decide +kernel
theorem ef_rm14 (m : MethodId) (x0 : Int32) (x1 : Int32)  : entryFrame m #[(.int x0), (.int x1)] 2 = mkF m 0 #[.val (.int x0), .val (.int x1)] [] := by first | (simp [entryFrame, mkF, argsToLocals, Value.category]; done) | rfl
set_option maxRecDepth 65536 in
set_option maxHeartbeats 40000000 in
theorem rm14 (l : Launch) (Z : State) (a0 : Array Value) (hw : ∀ d ∈ tables_1, d.before a0 Z = true) (ws : List Jvm.Cond)  (h0 : Heap) (n0 : Nat) (Z0 : n0 ≤ h0.size)  :
    MetFree l (⟨"java/lang/Math", "min", "(II)I"⟩ : MethodName) (head1 (Jvm.Cond.code (⟨"java/lang/Math", "min", "(II)I"⟩ : MethodName) jdk_29_method_69_code 2 (some .int) :: ws) ({ frames := 0, cells := 0, slots := 0, locals := 0 } : Room)) (fun a U => a = #[(.int (0 : Int32)), (.int (0 : Int32))] ∧ Z.Warmed39 U.vm ∧ U.heap = h0) (fun _ _ _ _ _ => True) (fun _ U o U' => ∃ v L, o = .returned v ∧ own_Q (.int 0) h0 n0 v U'.heap L ∧ FrameEnd U o U' L ({ frames := 0, cells := 0, slots := 0, locals := 0 } : Room).cells ({ frames := 0, cells := 0, slots := 0, locals := 0 } : Room).slots) := by
  refine MetFree.of_bodySF (Jvm.Free.JP.mathPlain rfl (by decide +kernel)) hisR ?_
  intro p e s m args below meth c s₁ Bd hml0 hP hK
  obtain ⟨rfl, hZ, hh⟩ := hP
  have hx := Bd.exec
  have hby := Bd.bytes
  have hlk := BodyLoose.notSynchronized Bd
  have hml : c.maxLocals = 2 := hml0
  have hown : s.vm.findClass "java/lang/Math" = some m.cls := findClass_of_methodNamed Bd.named
  have hnm := (name_of_methodNamed Bd.named Bd.method).1
  have X0 : Stand p l e ({ frames := 0, cells := 0, slots := 0, locals := 0 } : Room) s m #[(.int (0 : Int32)), (.int (0 : Int32))] below meth c s₁ [] 0 0 := Stand.of_body Bd
  have e0 : s₁.heap = h0 := by rw [← hh, Bd.state]; rfl
  have N0 := Fr.nil n0
  show own_Ends p e below s (own_Q (.int 0) h0 n0) 0 0 (s₁.setTop (entryFrame m #[(.int (0 : Int32)), (.int (0 : Int32))] 2))
  refine own_go (W1 := s₁.setTop (mkF m 0 #[.val (.int (0 : Int32)), .val (.int (0 : Int32))] [])) (fun t k => castTop (ef_rm14 m (0 : Int32) (0 : Int32) ) k) ?_
  refine own_go (W1 := s₁.setTop (mkF m 1 #[.val (.int (0 : Int32)), .val (.int (0 : Int32))] [(.int (0 : Int32))])) (fun t k => XS.iloadN X0.here hx rfl (hb hby d14_0) rfl  k) ?_
  refine own_go (W1 := s₁.setTop (mkF m 2 #[.val (.int (0 : Int32)), .val (.int (0 : Int32))] [(.int (0 : Int32)), (.int (0 : Int32))])) (fun t k => XS.iloadN X0.here hx rfl (hb hby d14_1) rfl  k) ?_
  refine own_go (W1 := s₁.setTop (mkF m 5 #[.val (.int (0 : Int32)), .val (.int (0 : Int32))] [])) (fun t k => XS.icmpNo X0.here hx rfl (hb hby d14_2) rfl (flt (show ¬ ((0 : Int32) < (0 : Int32)) from (by decide))).2.2.1 k) ?_
  refine own_go (W1 := s₁.setTop (mkF m 6 #[.val (.int (0 : Int32)), .val (.int (0 : Int32))] [(.int (0 : Int32))])) (fun t k => XS.iloadN X0.here hx rfl (hb hby d14_5) rfl  k) ?_
  refine own_go (W1 := s₁.setTop (mkF m 10 #[.val (.int (0 : Int32)), .val (.int (0 : Int32))] [(.int (0 : Int32))])) (fun t k => XS.goto X0.here hx rfl (pc0 := 6) (pc' := 10) rfl (hb hby d14_6) (by decide) (by decide) k) ?_
  exact own_retI X0 hx Bd.returns (hb hby d14_10) hlk (by decide) (by decide) ⟨rfl, N0, e0⟩
theorem own_pn_java_util_Arrays : plainName "java/util/Arrays" = true := by first | (simp [plainName, overriddenIn]; done) | decide +kernel
theorem d13_0 : decode jdk_65_method_120_code 0 = .ok (.aload_n 2, 1) := by decide +kernel
theorem d13_1 : decode jdk_65_method_120_code 1 = .ok (.ldc 110, 2) := by decide +kernel
theorem d13_3 : decode jdk_65_method_120_code 3 = .ok (.if_acmp .ne 10, 3) := by decide +kernel
theorem d13_6 : decode jdk_65_method_120_code 6 = .ok (.iload_n 1, 1) := by decide +kernel
theorem d13_7 : decode jdk_65_method_120_code 7 = .ok (.anewarray 2, 3) := by decide +kernel
theorem d13_10 : decode jdk_65_method_120_code 10 = .ok (.goto 14, 3) := by decide +kernel
theorem d13_24 : decode jdk_65_method_120_code 24 = .ok (.astore_n 3, 1) := by decide +kernel
theorem d13_25 : decode jdk_65_method_120_code 25 = .ok (.aload_n 0, 1) := by decide +kernel
theorem d13_26 : decode jdk_65_method_120_code 26 = .ok (.iconst 0, 1) := by decide +kernel
theorem d13_27 : decode jdk_65_method_120_code 27 = .ok (.aload_n 3, 1) := by decide +kernel
theorem d13_28 : decode jdk_65_method_120_code 28 = .ok (.iconst 0, 1) := by decide +kernel
theorem d13_29 : decode jdk_65_method_120_code 29 = .ok (.aload_n 0, 1) := by decide +kernel
theorem d13_30 : decode jdk_65_method_120_code 30 = .ok (.arraylength, 1) := by decide +kernel
theorem d13_31 : decode jdk_65_method_120_code 31 = .ok (.iload_n 1, 1) := by decide +kernel
theorem d13_32 : decode jdk_65_method_120_code 32 = .ok (.invokestatic 304, 3) := by decide +kernel
theorem own_pd10 : parseMethodDescriptor "(II)I" = some ⟨[.int, .int], some .int⟩ := by decide +kernel
theorem d13_35 : decode jdk_65_method_120_code 35 = .ok (.invokestatic 150, 3) := by decide +kernel
theorem d13_38 : decode jdk_65_method_120_code 38 = .ok (.aload_n 3, 1) := by decide +kernel
theorem d13_39 : decode jdk_65_method_120_code 39 = .ok (.areturn, 1) := by decide +kernel
theorem ef_rm13 (m : MethodId) (x0 : Addr) (x1 : Int32) (x2 : Addr)  : entryFrame m #[(.ref x0), (.int x1), (.ref x2)] 4 = mkF m 0 #[.val (.ref x0), .val (.int x1), .val (.ref x2), .unset] [] := by first | (simp [entryFrame, mkF, argsToLocals, Value.category]; done) | rfl
set_option maxRecDepth 65536 in
set_option maxHeartbeats 40000000 in
theorem rm13 (l : Launch) (Z : State) (a0 : Array Value) (hw : ∀ d ∈ tables_1, d.before a0 Z = true) (ws : List Jvm.Cond) (u mr : Addr) (ku : ClassId) (h0 : Heap) (n0 : Nat) (Z0 : n0 ≤ h0.size) (V_u : Arv Z h0 u ku (.object "java/lang/Object") 0 [] .null) (M : Mir Z "[Ljava/lang/Object;" mr) :
    MetFree l (⟨"java/util/Arrays", "copyOf", "([Ljava/lang/Object;ILjava/lang/Class;)[Ljava/lang/Object;"⟩ : MethodName) (head1 (Jvm.Cond.code (⟨"java/util/Arrays", "copyOf", "([Ljava/lang/Object;ILjava/lang/Class;)[Ljava/lang/Object;"⟩ : MethodName) jdk_65_method_120_code 4 (some (.array (.object "java/lang/Object"))) :: ws) ({ frames := 1, cells := 1, slots := 0, locals := 40 } : Room)) (fun a U => a = #[(.ref u), (.int (0 : Int32)), (.ref mr)] ∧ Z.Warmed39 U.vm ∧ U.heap = h0) (fun _ _ _ _ _ => True) (fun _ U o U' => ∃ v L, o = .returned v ∧ own_Qc Z h0 n0 v U'.heap L ∧ FrameEnd U o U' L ({ frames := 1, cells := 1, slots := 0, locals := 40 } : Room).cells ({ frames := 1, cells := 1, slots := 0, locals := 40 } : Room).slots) := by
  refine MetFree.of_bodySF (plainFor_of_name own_pn_java_util_Arrays) hisR ?_
  intro p e s m args below meth c s₁ Bd hml0 hP hK
  obtain ⟨rfl, hZ, hh⟩ := hP
  have hx := Bd.exec
  have hby := Bd.bytes
  have hlk := BodyLoose.notSynchronized Bd
  have hml : c.maxLocals = 4 := hml0
  have hown : s.vm.findClass "java/util/Arrays" = some m.cls := findClass_of_methodNamed Bd.named
  have hnm := (name_of_methodNamed Bd.named Bd.method).1
  have X0 : Stand p l e ({ frames := 1, cells := 1, slots := 0, locals := 40 } : Room) s m #[(.ref u), (.int (0 : Int32)), (.ref mr)] below meth c s₁ [] 0 0 := Stand.of_body Bd
  have e0 : s₁.heap = h0 := by rw [← hh, Bd.state]; rfl
  have N0 := Fr.nil n0
  show own_Ends p e below s (own_Qc Z h0 n0) 1 0 (s₁.setTop (entryFrame m #[(.ref u), (.int (0 : Int32)), (.ref mr)] 4))
  refine own_go (W1 := s₁.setTop (mkF m 0 #[.val (.ref u), .val (.int (0 : Int32)), .val (.ref mr), .unset] [])) (fun t k => castTop (ef_rm13 m u (0 : Int32) mr ) k) ?_
  have K0 := Keep.refl h0 []
  refine own_go (W1 := s₁.setTop (mkF m 1 #[.val (.ref u), .val (.int (0 : Int32)), .val (.ref mr), .unset] [(.ref mr)])) (fun t k => XS.aloadN X0.here hx rfl (hb hby d13_0) rfl rfl  k) ?_
  obtain ⟨vm1, X1, st1⟩ := X0.ldcMirror hx hown (mvT hZ (hw _ (List.mem_of_getElem? (i := 99) rfl))) (own_mirE hZ M) (g := (mkF m 1 #[.val (.ref u), .val (.int (0 : Int32)), .val (.ref mr), .unset] [(.ref mr)])) rfl (hb hby d13_1)
  have e1 : (s₁.setVm vm1).heap = h0 := e0
  refine own_go (W1 := (s₁.setVm vm1).setTop (mkF m 3 #[.val (.ref u), .val (.int (0 : Int32)), .val (.ref mr), .unset] [(.ref mr), (.ref mr)])) (st1) ?_
  refine own_go (W1 := (s₁.setVm vm1).setTop (mkF m 6 #[.val (.ref u), .val (.int (0 : Int32)), .val (.ref mr), .unset] [])) (fun t k => Jvm.RoadKit.acmp (g := (mkF m 3 #[.val (.ref u), .val (.int (0 : Int32)), .val (.ref mr), .unset] [(.ref mr), (.ref mr)])) X1 hx rfl rfl rfl (pc0 := 3) (pc' := 6) (same := true) rfl (hb hby d13_3) rfl (decide_eq_true rfl) (by decide) (by decide) k) ?_
  refine own_go (W1 := (s₁.setVm vm1).setTop (mkF m 7 #[.val (.ref u), .val (.int (0 : Int32)), .val (.ref mr), .unset] [(.int (0 : Int32))])) (fun t k => XS.iloadN X1.here hx rfl (hb hby d13_6) rfl  k) ?_
  obtain ⟨T2, h2, k2, X2, e2, E2, A2, O2, st2⟩ := newR X1 hx hZ hown (hw _ (List.mem_of_getElem? (i := 100) rfl)) (hw _ (List.mem_of_getElem? (i := 101) rfl)) e1 (g := (mkF m 7 #[.val (.ref u), .val (.int (0 : Int32)), .val (.ref mr), .unset] [(.int (0 : Int32))])) rfl (hb hby d13_7) rfl (by decide) (cap := 0) (by decide) (by decide) (by decide) (by decide)
  obtain ⟨b, g2⟩ : ∃ z, z = h0.size := ⟨_, rfl⟩
  have ne_u_b : u ≠ b := Nat.ne_of_lt (Nat.lt_of_lt_of_le V_u.lt (Nat.le_of_eq g2.symm))
  have ge_b : n0 ≤ b := Nat.le_trans Z0 (Nat.le_of_eq g2.symm)
  have sz_b : h0.size ≤ b := Nat.le_trans K0.1 (Nat.le_of_eq g2.symm)
  rw [← g2] at A2 st2
  have V_u := V_u.ext E2
  have Z2 : n0 ≤ h2.size := Nat.le_trans Z0 E2.1
  have K2 := K0.ext E2
  have V_b : Arv Z h2 b k2 (.object "java/lang/Object") (0 : Int32) [] .null := (Arv.new A2 (by decide)).pad (pad_rep [] .null 0)
  refine own_go (W1 := T2.setTop (mkF m 10 #[.val (.ref u), .val (.int (0 : Int32)), .val (.ref mr), .unset] [(.ref b)])) (st2) ?_
  refine own_go (W1 := T2.setTop (mkF m 24 #[.val (.ref u), .val (.int (0 : Int32)), .val (.ref mr), .unset] [(.ref b)])) (fun t k => XS.goto X2.here hx rfl (pc0 := 10) (pc' := 24) rfl (hb hby d13_10) (by decide) (by decide) k) ?_
  refine own_go (W1 := T2.setTop (mkF m 25 #[.val (.ref u), .val (.int (0 : Int32)), .val (.ref mr), .val (.ref b)] [])) (fun t k => XS.astoreN X2.here hx rfl (hb hby d13_24) rfl rfl (l' := #[.val (.ref u), .val (.int (0 : Int32)), .val (.ref mr), .val (.ref b)]) rfl k) ?_
  refine own_go (W1 := T2.setTop (mkF m 26 #[.val (.ref u), .val (.int (0 : Int32)), .val (.ref mr), .val (.ref b)] [(.ref u)])) (fun t k => XS.aloadN X2.here hx rfl (hb hby d13_25) rfl rfl  k) ?_
  refine own_go (W1 := T2.setTop (mkF m 27 #[.val (.ref u), .val (.int (0 : Int32)), .val (.ref mr), .val (.ref b)] [(.int (0 : Int32)), (.ref u)])) (fun t k => XS.iconst X2.here hx rfl (hb hby d13_26) k) ?_
  refine own_go (W1 := T2.setTop (mkF m 28 #[.val (.ref u), .val (.int (0 : Int32)), .val (.ref mr), .val (.ref b)] [(.ref b), (.int (0 : Int32)), (.ref u)])) (fun t k => XS.aloadN X2.here hx rfl (hb hby d13_27) rfl rfl  k) ?_
  refine own_go (W1 := T2.setTop (mkF m 29 #[.val (.ref u), .val (.int (0 : Int32)), .val (.ref mr), .val (.ref b)] [(.int (0 : Int32)), (.ref b), (.int (0 : Int32)), (.ref u)])) (fun t k => XS.iconst X2.here hx rfl (hb hby d13_28) k) ?_
  refine own_go (W1 := T2.setTop (mkF m 30 #[.val (.ref u), .val (.int (0 : Int32)), .val (.ref mr), .val (.ref b)] [(.ref u), (.int (0 : Int32)), (.ref b), (.int (0 : Int32)), (.ref u)])) (fun t k => XS.aloadN X2.here hx rfl (hb hby d13_29) rfl rfl  k) ?_
  obtain ⟨cl3, Ar3, -, S3, M3, -, -⟩ := id V_u
  have al3 := X2.arraylength hx (by rw [e2]; exact Ar3.1) (State.isArrayOf_alike hZ.alike Ar3.2.1) (g := (mkF m 30 #[.val (.ref u), .val (.int (0 : Int32)), .val (.ref mr), .val (.ref b)] [(.ref u), (.int (0 : Int32)), (.ref b), (.int (0 : Int32)), (.ref u)])) rfl rfl (hb hby d13_30)
  rw [len_of S3 M3] at al3
  refine own_go (W1 := T2.setTop (mkF m 31 #[.val (.ref u), .val (.int (0 : Int32)), .val (.ref mr), .val (.ref b)] [(.int (0 : Int32)), (.int (0 : Int32)), (.ref b), (.int (0 : Int32)), (.ref u)])) (al3) ?_
  refine own_go (W1 := T2.setTop (mkF m 32 #[.val (.ref u), .val (.int (0 : Int32)), .val (.ref mr), .val (.ref b)] [(.int (0 : Int32)), (.int (0 : Int32)), (.int (0 : Int32)), (.ref b), (.int (0 : Int32)), (.ref u)])) (fun t k => XS.iloadN X2.here hx rfl (hb hby d13_31) rfl  k) ?_
  obtain ⟨_, _, ⟨T4, L4, k4, n4⟩, -, X4, ⟨Lc4, hQ4, l4, y4, z4⟩, st4⟩ := Jvm.LawKit.callS X2 hx (y := (⟨"java/lang/Math", "min", "(II)I"⟩ : MethodName)) hown (mvT hZ (hw _ (List.mem_of_getElem? (i := 102) rfl))) (mvT hZ (hw _ (List.mem_of_getElem? (i := 103) rfl))) (mvT hZ (hw _ (List.mem_of_getElem? (i := 104) rfl))) (mvT hZ (hw _ (List.mem_of_getElem? (i := 105) rfl))) (by decide) (backOf (W := 4) (rm14 l Z a0 hw [] h2 n0 Z2) hZ (hw _ (List.mem_of_getElem? (i := 105) rfl)) (hw _ (List.mem_of_getElem? (i := 104) rfl)) (by decide) (by decide)) (g := (mkF m 32 #[.val (.ref u), .val (.int (0 : Int32)), .val (.ref mr), .val (.ref b)] [(.int (0 : Int32)), (.int (0 : Int32)), (.int (0 : Int32)), (.ref b), (.int (0 : Int32)), (.ref u)])) rfl (by rw [hml]; rfl) (argsL := [(.int (0 : Int32)), (.int (0 : Int32))]) (rest := [(.int (0 : Int32)), (.ref b), (.int (0 : Int32)), (.ref u)]) (lenOf own_pd10 rfl) rfl (by show 2 * 0 + _ ≤ _; exact Nat.le_of_eq rfl) (hb hby d13_32) (fun _ _ => ⟨rfl, e2, (by decide : 1 + 0 ≤ _), (by decide : 0 + 0 ≤ _)⟩)
  dsimp only [Pt.U, Pt.locs, Pt.cells, Pt.slots] at X4 l4 y4 z4 st4 hQ4
  subst l4 y4 z4
  obtain ⟨rfl, Nq4, eh4⟩ := hQ4
  have N4 := Fr.app N0 Nq4
  refine own_go (W1 := T4.setTop (mkF m 35 #[.val (.ref u), .val (.int (0 : Int32)), .val (.ref mr), .val (.ref b)] [(.int (0 : Int32)), (.int (0 : Int32)), (.ref b), (.int (0 : Int32)), (.ref u)])) st4 ?_
  obtain ⟨T5, h5, L5, X5, e5, N5, Kq5, Vq5, st5⟩ := cpA X4 hx hZ hown (hw _ (List.mem_of_getElem? (i := 106) rfl)) (hw _ (List.mem_of_getElem? (i := 109) rfl)) (hw _ (List.mem_of_getElem? (i := 107) rfl)) (hw _ (List.mem_of_getElem? (i := 108) rfl)) eh4 V_u V_b (sp := 0) (dp := 0) (nn := 0) (us := []) (Or.inr ⟨rfl, rfl, trivial⟩) (by decide) (by decide) (by decide) (by decide) (by decide) rfl (by decide) N4 ge_b (g := (mkF m 35 #[.val (.ref u), .val (.int (0 : Int32)), .val (.ref mr), .val (.ref b)] [(.int (0 : Int32)), (.int (0 : Int32)), (.ref b), (.int (0 : Int32)), (.ref u)])) rfl (by rw [hml]; rfl) rfl (hb hby d13_35) (by decide) (W := 0) (by show 2 * 0 + _ ≤ _; exact Nat.le_of_eq rfl) (by decide)
  have K5 := K2.trans Kq5 (allS (Or.inr sz_b) all0)
  have V_b : Arv Z h5 b _ (.object "java/lang/Object") 0 [] .null := Vq5
  refine own_go (W1 := T5.setTop (mkF m 38 #[.val (.ref u), .val (.int (0 : Int32)), .val (.ref mr), .val (.ref b)] [])) (st5) ?_
  refine own_go (W1 := T5.setTop (mkF m 39 #[.val (.ref u), .val (.int (0 : Int32)), .val (.ref mr), .val (.ref b)] [(.ref b)])) (fun t k => XS.aloadN X5.here hx rfl (hb hby d13_38) rfl rfl  k) ?_
  exact own_retR X5 hx Bd.returns rfl rfl (hb hby d13_39) hlk (by decide) (by decide) (by rw [e5]; exact ⟨b, _, rfl, N5, K5, sz_b, V_b⟩)
theorem d12_0 : decode jdk_65_method_119_code 0 = .ok (.aload_n 0, 1) := by decide +kernel
theorem d12_1 : decode jdk_65_method_119_code 1 = .ok (.iload_n 1, 1) := by decide +kernel
theorem d12_2 : decode jdk_65_method_119_code 2 = .ok (.aload_n 0, 1) := by decide +kernel
theorem d12_3 : decode jdk_65_method_119_code 3 = .ok (.invokevirtual 86, 3) := by decide +kernel
theorem d12_6 : decode jdk_65_method_119_code 6 = .ok (.invokestatic 300, 3) := by decide +kernel
theorem own_pd9 : parseMethodDescriptor "([Ljava/lang/Object;ILjava/lang/Class;)[Ljava/lang/Object;" = some ⟨[(.array (.object "java/lang/Object")), .int, (.object "java/lang/Class")], some (.array (.object "java/lang/Object"))⟩ := by decide +kernel
theorem d12_9 : decode jdk_65_method_119_code 9 = .ok (.areturn, 1) := by decide +kernel
theorem ef_rm12 (m : MethodId) (x0 : Addr) (x1 : Int32)  : entryFrame m #[(.ref x0), (.int x1)] 2 = mkF m 0 #[.val (.ref x0), .val (.int x1)] [] := by first | (simp [entryFrame, mkF, argsToLocals, Value.category]; done) | rfl
set_option maxRecDepth 65536 in
set_option maxHeartbeats 40000000 in
theorem rm12 (l : Launch) (Z : State) (a0 : Array Value) (hw : ∀ d ∈ tables_1, d.before a0 Z = true) (ws : List Jvm.Cond) (u mr : Addr) (ku : ClassId) (h0 : Heap) (n0 : Nat) (Z0 : n0 ≤ h0.size) (E_u : Exa Z h0 u "[Ljava/lang/Object;") (V_u : Arv Z h0 u ku (.object "java/lang/Object") 0 [] .null) (M : Mir Z "[Ljava/lang/Object;" mr) :
    MetFree l (⟨"java/util/Arrays", "copyOf", "([Ljava/lang/Object;I)[Ljava/lang/Object;"⟩ : MethodName) (head1 (Jvm.Cond.code (⟨"java/util/Arrays", "copyOf", "([Ljava/lang/Object;I)[Ljava/lang/Object;"⟩ : MethodName) jdk_65_method_119_code 2 (some (.array (.object "java/lang/Object"))) :: ws) ({ frames := 2, cells := 1, slots := 0, locals := 55 } : Room)) (fun a U => a = #[(.ref u), (.int (0 : Int32))] ∧ Z.Warmed39 U.vm ∧ U.heap = h0) (fun _ _ _ _ _ => True) (fun _ U o U' => ∃ v L, o = .returned v ∧ own_Qc Z h0 n0 v U'.heap L ∧ FrameEnd U o U' L ({ frames := 2, cells := 1, slots := 0, locals := 55 } : Room).cells ({ frames := 2, cells := 1, slots := 0, locals := 55 } : Room).slots) := by
  refine MetFree.of_bodySF (plainFor_of_name own_pn_java_util_Arrays) hisR ?_
  intro p e s m args below meth c s₁ Bd hml0 hP hK
  obtain ⟨rfl, hZ, hh⟩ := hP
  have hx := Bd.exec
  have hby := Bd.bytes
  have hlk := BodyLoose.notSynchronized Bd
  have hml : c.maxLocals = 2 := hml0
  have hown : s.vm.findClass "java/util/Arrays" = some m.cls := findClass_of_methodNamed Bd.named
  have hnm := (name_of_methodNamed Bd.named Bd.method).1
  have X0 : Stand p l e ({ frames := 2, cells := 1, slots := 0, locals := 55 } : Room) s m #[(.ref u), (.int (0 : Int32))] below meth c s₁ [] 0 0 := Stand.of_body Bd
  have e0 : s₁.heap = h0 := by rw [← hh, Bd.state]; rfl
  have N0 := Fr.nil n0
  show own_Ends p e below s (own_Qc Z h0 n0) 1 0 (s₁.setTop (entryFrame m #[(.ref u), (.int (0 : Int32))] 2))
  refine own_go (W1 := s₁.setTop (mkF m 0 #[.val (.ref u), .val (.int (0 : Int32))] [])) (fun t k => castTop (ef_rm12 m u (0 : Int32) ) k) ?_
  have K0 := Keep.refl h0 []
  refine own_go (W1 := s₁.setTop (mkF m 1 #[.val (.ref u), .val (.int (0 : Int32))] [(.ref u)])) (fun t k => XS.aloadN X0.here hx rfl (hb hby d12_0) rfl rfl  k) ?_
  refine own_go (W1 := s₁.setTop (mkF m 2 #[.val (.ref u), .val (.int (0 : Int32))] [(.int (0 : Int32)), (.ref u)])) (fun t k => XS.iloadN X0.here hx rfl (hb hby d12_1) rfl  k) ?_
  refine own_go (W1 := s₁.setTop (mkF m 3 #[.val (.ref u), .val (.int (0 : Int32))] [(.ref u), (.int (0 : Int32)), (.ref u)])) (fun t k => XS.aloadN X0.here hx rfl (hb hby d12_2) rfl rfl  k) ?_
  obtain ⟨cB, kB, i1, i2, i3⟩ := isOf hZ e0 E_u
  obtain ⟨cc, kc, m1, m2, m3, -⟩ := id M
  have j1 := i1
  rw [hZ.alike.findClass] at j1
  cases j1.symm.trans m1
  obtain ⟨k', qk, ek⟩ := hZ.alike.2.2 _ _ m2
  obtain ⟨vm1, X1, st1⟩ := X0.getClassOf hx hown (mvT hZ (hw _ (List.mem_of_getElem? (i := 90) rfl))) (mvT hZ (hw _ (List.mem_of_getElem? (i := 91) rfl))) (notFace_of_selects (args := #[]) (mvT hZ (hw _ (List.mem_of_getElem? (i := 93) rfl)))) (mvT hZ (hw _ (List.mem_of_getElem? (i := 93) rfl))) (mvT hZ (hw _ (List.mem_of_getElem? (i := 92) rfl))) (mvT hZ (hw _ (List.mem_of_getElem? (i := 94) rfl))) i1 i3 qk (by rw [ek]; exact m3) (g := (mkF m 3 #[.val (.ref u), .val (.int (0 : Int32))] [(.ref u), (.int (0 : Int32)), (.ref u)])) rfl (by rw [hml]; rfl) rfl (hb hby d12_3) (by decide) (by show (2 * 0 + (1 + (1 + 0)) + (nativeFrameWords "java/lang/Object" "getClass" 1 + 11) ≤ 55); decide)
  have e1 : (s₁.setVm vm1).heap = h0 := e0
  refine own_go (W1 := (s₁.setVm vm1).setTop (mkF m 6 #[.val (.ref u), .val (.int (0 : Int32))] [(.ref mr), (.int (0 : Int32)), (.ref u)])) (st1) ?_
  obtain ⟨_, _, ⟨T2, L2, k2, n2⟩, -, X2, ⟨Lc2, hQ2, l2, y2, z2⟩, st2⟩ := Jvm.LawKit.callS X1 hx (y := (⟨"java/util/Arrays", "copyOf", "([Ljava/lang/Object;ILjava/lang/Class;)[Ljava/lang/Object;"⟩ : MethodName)) hown (mvT hZ (hw _ (List.mem_of_getElem? (i := 96) rfl))) (mvT hZ (hw _ (List.mem_of_getElem? (i := 97) rfl))) (mvT hZ (hw _ (List.mem_of_getElem? (i := 88) rfl))) (mvT hZ (hw _ (List.mem_of_getElem? (i := 98) rfl))) (by decide) (backOf (W := 0) (rm13 l Z a0 hw [] u mr ku h0 n0 Z0 V_u M) hZ (hw _ (List.mem_of_getElem? (i := 98) rfl)) (hw _ (List.mem_of_getElem? (i := 88) rfl)) (by decide) (by decide)) (g := (mkF m 6 #[.val (.ref u), .val (.int (0 : Int32))] [(.ref mr), (.int (0 : Int32)), (.ref u)])) rfl (by rw [hml]; rfl) (argsL := [(.ref u), (.int (0 : Int32)), (.ref mr)]) (rest := []) (lenOf own_pd9 rfl) rfl (by show 2 * 0 + _ ≤ _; exact Nat.le_of_eq rfl) (hb hby d12_6) (fun _ _ => ⟨rfl, e1, (by decide : 0 + 1 ≤ _), (by decide : 0 + 0 ≤ _)⟩)
  dsimp only [Pt.U, Pt.locs, Pt.cells, Pt.slots] at X2 l2 y2 z2 st2 hQ2
  subst l2 y2 z2
  obtain ⟨b, kb, rfl, Nq2, Kq2, gb2, V_b⟩ := hQ2
  have sz_b := Nat.le_trans (Nat.le_refl _) gb2
  have E_u := E_u.keep Kq2
  have V_u := V_u.keep Kq2 nin0
  have Z2 : n0 ≤ T2.heap.size := Nat.le_trans Z0 Kq2.1
  have K2 := K0.trans Kq2 all0
  have N2 := Fr.app N0 Nq2
  refine own_go (W1 := T2.setTop (mkF m 9 #[.val (.ref u), .val (.int (0 : Int32))] [(.ref b)])) st2 ?_
  exact own_retR X2 hx Bd.returns rfl rfl (hb hby d12_9) hlk (by decide) (by decide) ⟨b, kb, rfl, N2, K2, sz_b, V_b⟩
theorem own_pn_java_util_ImmutableCollections_ListN : plainName "java/util/ImmutableCollections$ListN" = true := by first | (simp [plainName, overriddenIn]; done) | decide +kernel
theorem d11_0 : decode jdk_45_method_7_code 0 = .ok (.aload_n 0, 1) := by decide +kernel
theorem d11_1 : decode jdk_45_method_7_code 1 = .ok (.getfield 7, 3) := by decide +kernel
theorem d11_4 : decode jdk_45_method_7_code 4 = .ok (.aload_n 0, 1) := by decide +kernel
theorem d11_5 : decode jdk_45_method_7_code 5 = .ok (.getfield 7, 3) := by decide +kernel
theorem d11_8 : decode jdk_45_method_7_code 8 = .ok (.arraylength, 1) := by decide +kernel
theorem d11_9 : decode jdk_45_method_7_code 9 = .ok (.invokestatic 29, 3) := by decide +kernel
theorem own_pd7 : parseMethodDescriptor "([Ljava/lang/Object;I)[Ljava/lang/Object;" = some ⟨[(.array (.object "java/lang/Object")), .int], some (.array (.object "java/lang/Object"))⟩ := by decide +kernel
theorem d11_12 : decode jdk_45_method_7_code 12 = .ok (.areturn, 1) := by decide +kernel
theorem ef_rm11 (m : MethodId) (x0 : Addr)  : entryFrame m #[(.ref x0)] 1 = mkF m 0 #[.val (.ref x0)] [] := by first | (simp [entryFrame, mkF, argsToLocals, Value.category]; done) | rfl
set_option maxRecDepth 65536 in
set_option maxHeartbeats 40000000 in
theorem rm11 (l : Launch) (Z : State) (a0 : Array Value) (hw : ∀ d ∈ tables_1, d.before a0 Z = true) (ws : List Jvm.Cond) (a1 u mr : Addr) (ku : ClassId) (h0 : Heap) (n0 : Nat) (Z0 : n0 ≤ h0.size) (F_el : Fld Z h0 a1 "java/util/ImmutableCollections$ListN" "elements" "[Ljava/lang/Object;" (.ref u)) (E_u : Exa Z h0 u "[Ljava/lang/Object;") (V_u : Arv Z h0 u ku (.object "java/lang/Object") 0 [] .null) (M : Mir Z "[Ljava/lang/Object;" mr) :
    MetFree l (⟨"java/util/ImmutableCollections$ListN", "toArray", "()[Ljava/lang/Object;"⟩ : MethodName) (head1 (Jvm.Cond.code (⟨"java/util/ImmutableCollections$ListN", "toArray", "()[Ljava/lang/Object;"⟩ : MethodName) jdk_45_method_7_code 1 (some (.array (.object "java/lang/Object"))) :: ws) ({ frames := 3, cells := 1, slots := 0, locals := 68 } : Room)) (fun a U => a = #[(.ref a1)] ∧ Z.Warmed39 U.vm ∧ U.heap = h0) (fun _ _ _ _ _ => True) (fun _ U o U' => ∃ v L, o = .returned v ∧ own_Qc Z h0 n0 v U'.heap L ∧ FrameEnd U o U' L ({ frames := 3, cells := 1, slots := 0, locals := 68 } : Room).cells ({ frames := 3, cells := 1, slots := 0, locals := 68 } : Room).slots) := by
  refine MetFree.of_bodySF (plainFor_of_name own_pn_java_util_ImmutableCollections_ListN) hisR ?_
  intro p e s m args below meth c s₁ Bd hml0 hP hK
  obtain ⟨rfl, hZ, hh⟩ := hP
  have hx := Bd.exec
  have hby := Bd.bytes
  have hlk := BodyLoose.notSynchronized Bd
  have hml : c.maxLocals = 1 := hml0
  have hown : s.vm.findClass "java/util/ImmutableCollections$ListN" = some m.cls := findClass_of_methodNamed Bd.named
  have hnm := (name_of_methodNamed Bd.named Bd.method).1
  have X0 : Stand p l e ({ frames := 3, cells := 1, slots := 0, locals := 68 } : Room) s m #[(.ref a1)] below meth c s₁ [] 0 0 := Stand.of_body Bd
  have e0 : s₁.heap = h0 := by rw [← hh, Bd.state]; rfl
  have N0 := Fr.nil n0
  show own_Ends p e below s (own_Qc Z h0 n0) 1 0 (s₁.setTop (entryFrame m #[(.ref a1)] 1))
  refine own_go (W1 := s₁.setTop (mkF m 0 #[.val (.ref a1)] [])) (fun t k => castTop (ef_rm11 m a1 ) k) ?_
  have K0 := Keep.refl h0 []
  refine own_go (W1 := s₁.setTop (mkF m 1 #[.val (.ref a1)] [(.ref a1)])) (fun t k => XS.aloadN X0.here hx rfl (hb hby d11_0) rfl rfl  k) ?_
  obtain ⟨T1, X1, e1, st1⟩ := getF X0 hx hZ hown (host := "") (Or.inl (hw _ (List.mem_of_getElem? (i := 84) rfl))) Via.refl e0 F_el (g := (mkF m 1 #[.val (.ref a1)] [(.ref a1)])) rfl rfl (hb hby d11_1)
  refine own_go (W1 := T1.setTop (mkF m 4 #[.val (.ref a1)] [(.ref u)])) (st1) ?_
  refine own_go (W1 := T1.setTop (mkF m 5 #[.val (.ref a1)] [(.ref a1), (.ref u)])) (fun t k => XS.aloadN X1.here hx rfl (hb hby d11_4) rfl rfl  k) ?_
  obtain ⟨T2, X2, e2, st2⟩ := getF X1 hx hZ hown (host := "") (Or.inl (hw _ (List.mem_of_getElem? (i := 84) rfl))) Via.refl e1 F_el (g := (mkF m 5 #[.val (.ref a1)] [(.ref a1), (.ref u)])) rfl rfl (hb hby d11_5)
  refine own_go (W1 := T2.setTop (mkF m 8 #[.val (.ref a1)] [(.ref u), (.ref u)])) (st2) ?_
  obtain ⟨cl3, Ar3, -, S3, M3, -, -⟩ := id V_u
  have al3 := X2.arraylength hx (by rw [e2]; exact Ar3.1) (State.isArrayOf_alike hZ.alike Ar3.2.1) (g := (mkF m 8 #[.val (.ref a1)] [(.ref u), (.ref u)])) rfl rfl (hb hby d11_8)
  rw [len_of S3 M3] at al3
  refine own_go (W1 := T2.setTop (mkF m 9 #[.val (.ref a1)] [(.int (0 : Int32)), (.ref u)])) (al3) ?_
  obtain ⟨_, _, ⟨T4, L4, k4, n4⟩, -, X4, ⟨Lc4, hQ4, l4, y4, z4⟩, st4⟩ := Jvm.LawKit.callS X2 hx (y := (⟨"java/util/Arrays", "copyOf", "([Ljava/lang/Object;I)[Ljava/lang/Object;"⟩ : MethodName)) hown (mvT hZ (hw _ (List.mem_of_getElem? (i := 86) rfl))) (mvT hZ (hw _ (List.mem_of_getElem? (i := 87) rfl))) (mvT hZ (hw _ (List.mem_of_getElem? (i := 88) rfl))) (mvT hZ (hw _ (List.mem_of_getElem? (i := 89) rfl))) (by decide) (backOf (W := 0) (rm12 l Z a0 hw [] u mr ku h0 n0 Z0 E_u V_u M) hZ (hw _ (List.mem_of_getElem? (i := 89) rfl)) (hw _ (List.mem_of_getElem? (i := 88) rfl)) (by decide) (by decide)) (g := (mkF m 9 #[.val (.ref a1)] [(.int (0 : Int32)), (.ref u)])) rfl (by rw [hml]; rfl) (argsL := [(.ref u), (.int (0 : Int32))]) (rest := []) (lenOf own_pd7 rfl) rfl (by show 2 * 0 + _ ≤ _; exact Nat.le_of_eq rfl) (hb hby d11_9) (fun _ _ => ⟨rfl, e2, (by decide : 0 + 1 ≤ _), (by decide : 0 + 0 ≤ _)⟩)
  dsimp only [Pt.U, Pt.locs, Pt.cells, Pt.slots] at X4 l4 y4 z4 st4 hQ4
  subst l4 y4 z4
  obtain ⟨b, kb, rfl, Nq4, Kq4, gb4, V_b⟩ := hQ4
  have sz_b := Nat.le_trans (Nat.le_refl _) gb4
  have E_u := E_u.keep Kq4
  have V_u := V_u.keep Kq4 nin0
  have F_el := F_el.keep Kq4 nin0
  have Z4 : n0 ≤ T4.heap.size := Nat.le_trans Z0 Kq4.1
  have K4 := K0.trans Kq4 all0
  have N4 := Fr.app N0 Nq4
  refine own_go (W1 := T4.setTop (mkF m 12 #[.val (.ref a1)] [(.ref b)])) st4 ?_
  exact own_retR X4 hx Bd.returns rfl rfl (hb hby d11_12) hlk (by decide) (by decide) ⟨b, kb, rfl, N4, K4, sz_b, V_b⟩
theorem d10_0 : decode jdk_38_method_41_code 0 = .ok (.aload_n 1, 1) := by decide +kernel
theorem d10_1 : decode jdk_38_method_41_code 1 = .ok (.invokeinterface 42 1, 5) := by decide +kernel
theorem own_pd6 : parseMethodDescriptor "()[Ljava/lang/Object;" = some ⟨[], some (.array (.object "java/lang/Object"))⟩ := by decide +kernel
theorem d10_6 : decode jdk_38_method_41_code 6 = .ok (.astore_n 2, 1) := by decide +kernel
theorem d10_7 : decode jdk_38_method_41_code 7 = .ok (.aload_n 0, 1) := by decide +kernel
theorem d10_8 : decode jdk_38_method_41_code 8 = .ok (.dup, 1) := by decide +kernel
theorem d10_9 : decode jdk_38_method_41_code 9 = .ok (.getfield 63, 3) := by decide +kernel
theorem d10_12 : decode jdk_38_method_41_code 12 = .ok (.iconst 1, 1) := by decide +kernel
theorem d10_13 : decode jdk_38_method_41_code 13 = .ok (.iadd, 1) := by decide +kernel
theorem d10_14 : decode jdk_38_method_41_code 14 = .ok (.putfield 63, 3) := by decide +kernel
theorem d10_17 : decode jdk_38_method_41_code 17 = .ok (.aload_n 2, 1) := by decide +kernel
theorem d10_18 : decode jdk_38_method_41_code 18 = .ok (.arraylength, 1) := by decide +kernel
theorem d10_19 : decode jdk_38_method_41_code 19 = .ok (.istore_n 3, 1) := by decide +kernel
theorem d10_20 : decode jdk_38_method_41_code 20 = .ok (.iload_n 3, 1) := by decide +kernel
theorem d10_21 : decode jdk_38_method_41_code 21 = .ok (.ifCond .ne 5, 3) := by decide +kernel
theorem d10_24 : decode jdk_38_method_41_code 24 = .ok (.iconst 0, 1) := by decide +kernel
theorem d10_25 : decode jdk_38_method_41_code 25 = .ok (.ireturn, 1) := by decide +kernel
theorem ef_rm10 (m : MethodId) (x0 : Addr) (x1 : Addr)  : entryFrame m #[(.ref x0), (.ref x1)] 6 = mkF m 0 #[.val (.ref x0), .val (.ref x1), .unset, .unset, .unset, .unset] [] := by first | (simp [entryFrame, mkF, argsToLocals, Value.category]; done) | rfl
set_option maxRecDepth 65536 in
set_option maxHeartbeats 40000000 in
theorem rm10 (l : Launch) (Z : State) (a0 : Array Value) (hw : ∀ d ∈ tables_1, d.before a0 Z = true) (ws : List Jvm.Cond) (a1 ob u mr : Addr) (ku : ClassId) (mc : Int32) (h0 : Heap) (n0 : Nat) (Z0 : n0 ≤ h0.size) (E_a1 : Exa Z h0 a1 "java/util/ArrayList") (F_mc : Fld Z h0 a1 "java/util/AbstractList" "modCount" "I" (.int mc)) (ge_a1 : n0 ≤ a1) (Xo : Old Z n0 h0) (hl : own_Lst Z ob u ku) (M : Mir Z "[Ljava/lang/Object;" mr) :
    MetFree l (⟨"java/util/ArrayList", "addAll", "(Ljava/util/Collection;)Z"⟩ : MethodName) (head1 (Jvm.Cond.code (⟨"java/util/ArrayList", "addAll", "(Ljava/util/Collection;)Z"⟩ : MethodName) jdk_38_method_41_code 6 (some .boolean) :: ws) ({ frames := 4, cells := 1, slots := 0, locals := 80 } : Room)) (fun a U => a = #[(.ref a1), (.ref ob)] ∧ Z.Warmed39 U.vm ∧ U.heap = h0) (fun _ _ _ _ _ => True) (fun _ U o U' => ∃ v L, o = .returned v ∧ own_Qa Z a1 mc h0 n0 v U'.heap L ∧ FrameEnd U o U' L ({ frames := 4, cells := 1, slots := 0, locals := 80 } : Room).cells ({ frames := 4, cells := 1, slots := 0, locals := 80 } : Room).slots) := by
  refine MetFree.of_bodySF (plainFor_of_name own_pn_java_util_ArrayList) hisR ?_
  intro p e s m args below meth c s₁ Bd hml0 hP hK
  obtain ⟨rfl, hZ, hh⟩ := hP
  have hx := Bd.exec
  have hby := Bd.bytes
  have hlk := BodyLoose.notSynchronized Bd
  have hml : c.maxLocals = 6 := hml0
  have hown : s.vm.findClass "java/util/ArrayList" = some m.cls := findClass_of_methodNamed Bd.named
  have hnm := (name_of_methodNamed Bd.named Bd.method).1
  have X0 : Stand p l e ({ frames := 4, cells := 1, slots := 0, locals := 80 } : Room) s m #[(.ref a1), (.ref ob)] below meth c s₁ [] 0 0 := Stand.of_body Bd
  have e0 : s₁.heap = h0 := by rw [← hh, Bd.state]; rfl
  have N0 := Fr.nil n0
  show own_Ends p e below s (own_Qa Z a1 mc h0 n0) 1 0 (s₁.setTop (entryFrame m #[(.ref a1), (.ref ob)] 6))
  refine own_go (W1 := s₁.setTop (mkF m 0 #[.val (.ref a1), .val (.ref ob), .unset, .unset, .unset, .unset] [])) (fun t k => castTop (ef_rm10 m a1 ob ) k) ?_
  have K0 := Keep.refl h0 [a1]
  have E_ob := hl.1.ext Xo.2
  refine own_go (W1 := s₁.setTop (mkF m 1 #[.val (.ref a1), .val (.ref ob), .unset, .unset, .unset, .unset] [(.ref ob)])) (fun t k => XS.aloadN X0.here hx rfl (hb hby d10_0) rfl rfl  k) ?_
  have lt_a1 := E_a1.lt
  obtain ⟨cq1, kq1, q1a, q1b, q1c⟩ := isOf hZ e0 E_ob
  obtain ⟨_, _, ⟨T1, L1, k1, n1⟩, -, X1, ⟨Lc1, hQ1, l1, y1, z1⟩, st1⟩ := X0.interfaceBack hx (xi := (⟨"java/util/Collection", "toArray", "()[Ljava/lang/Object;"⟩ : MethodName)) (y := (⟨"java/util/ImmutableCollections$ListN", "toArray", "()[Ljava/lang/Object;"⟩ : MethodName)) hown (mvT hZ (hw _ (List.mem_of_getElem? (i := 74) rfl))) (mvT hZ (hw _ (List.mem_of_getElem? (i := 75) rfl))) (mvT hZ (hw _ (List.mem_of_getElem? (i := 76) rfl))) (mvT hZ (hw _ (List.mem_of_getElem? (i := 77) rfl))) (mvT hZ (hw _ (List.mem_of_getElem? (i := 78) rfl))) (mvT hZ (hw _ (List.mem_of_getElem? (i := 79) rfl))) (mvT hZ (hw _ (List.mem_of_getElem? (i := 80) rfl))) (mvT hZ (hw _ (List.mem_of_getElem? (i := 81) rfl))) (by decide) (backOf (W := 0) (rm11 l Z a0 hw [] ob u mr ku h0 n0 Z0 (hl.2.1.ext Xo.2) (hl.2.2.1.ext Xo.2) (hl.2.2.2.ext Xo.2) M) hZ (hw _ (List.mem_of_getElem? (i := 83) rfl)) (hw _ (List.mem_of_getElem? (i := 82) rfl)) (by decide) (by decide)) q1a q1b q1c (g := (mkF m 1 #[.val (.ref a1), .val (.ref ob), .unset, .unset, .unset, .unset] [(.ref ob)])) rfl (by rw [hml]; rfl) (Steps.refl _) (argsL := []) (rest := []) (lenOf own_pd6 rfl) rfl (by show 2 * 0 + _ ≤ _; exact Nat.le_of_eq rfl) (hb hby d10_1) (fun _ _ => ⟨rfl, e0, (by decide : 0 + 1 ≤ _), (by decide : 0 + 0 ≤ _)⟩)
  dsimp only [Pt.U, Pt.locs, Pt.cells, Pt.slots] at X1 l1 y1 z1 st1 hQ1
  subst l1 y1 z1
  obtain ⟨b, kb, rfl, Nq1, Kq1, gb1, V_b⟩ := hQ1
  have sz_b := Nat.le_trans (Nat.le_refl _) gb1
  have E_a1 := E_a1.keep Kq1
  have F_mc := F_mc.keep Kq1 nin0
  have E_ob := E_ob.keep Kq1
  have Z1 : n0 ≤ T1.heap.size := Nat.le_trans Z0 Kq1.1
  have K1 := K0.trans Kq1 all0
  have N1 := Fr.app N0 Nq1
  have ne_b_a1 : b ≠ a1 := Ne.symm (Nat.ne_of_lt (Nat.lt_of_lt_of_le lt_a1 sz_b))
  refine own_tr (W1 := T1.setTop (mkF m 6 #[.val (.ref a1), .val (.ref ob), .unset, .unset, .unset, .unset] [(.ref b)])) st1 ?_
  refine own_go (W1 := T1.setTop (mkF m 7 #[.val (.ref a1), .val (.ref ob), .val (.ref b), .unset, .unset, .unset] [])) (fun t k => XS.astoreN X1.here hx rfl (hb hby d10_6) rfl rfl (l' := #[.val (.ref a1), .val (.ref ob), .val (.ref b), .unset, .unset, .unset]) rfl k) ?_
  refine own_go (W1 := T1.setTop (mkF m 8 #[.val (.ref a1), .val (.ref ob), .val (.ref b), .unset, .unset, .unset] [(.ref a1)])) (fun t k => XS.aloadN X1.here hx rfl (hb hby d10_7) rfl rfl  k) ?_
  refine own_go (W1 := T1.setTop (mkF m 9 #[.val (.ref a1), .val (.ref ob), .val (.ref b), .unset, .unset, .unset] [(.ref a1), (.ref a1)])) (fun t k => XS.dup X1.here hx rfl (hb hby d10_8) rfl rfl k) ?_
  obtain ⟨T2, X2, e2, st2⟩ := getF X1 hx hZ hown (host := "") (Or.inl (hw _ (List.mem_of_getElem? (i := 110) rfl))) (Via.of (hw _ (List.mem_of_getElem? (i := 111) rfl))) (rfl : T1.heap = T1.heap) F_mc (g := (mkF m 9 #[.val (.ref a1), .val (.ref ob), .val (.ref b), .unset, .unset, .unset] [(.ref a1), (.ref a1)])) rfl rfl (hb hby d10_9)
  refine own_go (W1 := T2.setTop (mkF m 12 #[.val (.ref a1), .val (.ref ob), .val (.ref b), .unset, .unset, .unset] [(.int mc), (.ref a1)])) (st2) ?_
  refine own_go (W1 := T2.setTop (mkF m 13 #[.val (.ref a1), .val (.ref ob), .val (.ref b), .unset, .unset, .unset] [(.int (1 : Int32)), (.int mc), (.ref a1)])) (fun t k => XS.iconst X2.here hx rfl (hb hby d10_12) k) ?_
  refine own_go (W1 := T2.setTop (mkF m 14 #[.val (.ref a1), .val (.ref ob), .val (.ref b), .unset, .unset, .unset] [(.int (mc + (1 : Int32))), (.ref a1)])) (fun t k => XS.iadd X2.here hx rfl (hb hby d10_13) rfl k) ?_
  obtain ⟨T3, h3, X3, e3, W3, st3⟩ := putF X2 hx hZ hown (host := "") (Or.inl (hw _ (List.mem_of_getElem? (i := 110) rfl))) (Via.of (hw _ (List.mem_of_getElem? (i := 111) rfl))) e2 F_mc E_a1 (Or.inl (hw _ (List.mem_of_getElem? (i := 38) rfl))) (hw _ (List.mem_of_getElem? (i := 19) rfl)) (ty := .int) (by decide) rfl rfl (g := (mkF m 14 #[.val (.ref a1), .val (.ref ob), .val (.ref b), .unset, .unset, .unset] [(.int (mc + (1 : Int32))), (.ref a1)])) rfl rfl (hb hby d10_14)
  have E_a1 := E_a1.wr W3
  have F_mc := F_mc.same W3
  have E_ob := E_ob.wr W3
  have V_b := V_b.other W3 ne_b_a1
  have Z3 : n0 ≤ h3.size := by rw [W3.size]; exact Z1
  have K3 := K1.wr W3 (Or.inl (List.mem_of_getElem? (i := 0) rfl))
  have N3 := Fr.snoc X3 N1 ge_a1
  refine own_go (W1 := T3.setTop (mkF m 17 #[.val (.ref a1), .val (.ref ob), .val (.ref b), .unset, .unset, .unset] [])) (st3) ?_
  refine own_go (W1 := T3.setTop (mkF m 18 #[.val (.ref a1), .val (.ref ob), .val (.ref b), .unset, .unset, .unset] [(.ref b)])) (fun t k => XS.aloadN X3.here hx rfl (hb hby d10_17) rfl rfl  k) ?_
  obtain ⟨cl4, Ar4, -, S4, M4, -, -⟩ := id V_b
  have al4 := X3.arraylength hx (by rw [e3]; exact Ar4.1) (State.isArrayOf_alike hZ.alike Ar4.2.1) (g := (mkF m 18 #[.val (.ref a1), .val (.ref ob), .val (.ref b), .unset, .unset, .unset] [(.ref b)])) rfl rfl (hb hby d10_18)
  rw [len_of S4 M4] at al4
  refine own_go (W1 := T3.setTop (mkF m 19 #[.val (.ref a1), .val (.ref ob), .val (.ref b), .unset, .unset, .unset] [(.int (0 : Int32))])) (al4) ?_
  refine own_go (W1 := T3.setTop (mkF m 20 #[.val (.ref a1), .val (.ref ob), .val (.ref b), .val (.int (0 : Int32)), .unset, .unset] [])) (fun t k => XS.istoreN X3.here hx rfl (hb hby d10_19) rfl (l' := #[.val (.ref a1), .val (.ref ob), .val (.ref b), .val (.int (0 : Int32)), .unset, .unset]) rfl k) ?_
  refine own_go (W1 := T3.setTop (mkF m 21 #[.val (.ref a1), .val (.ref ob), .val (.ref b), .val (.int (0 : Int32)), .unset, .unset] [(.int (0 : Int32))])) (fun t k => XS.iloadN X3.here hx rfl (hb hby d10_20) rfl  k) ?_
  refine own_go (W1 := T3.setTop (mkF m 24 #[.val (.ref a1), .val (.ref ob), .val (.ref b), .val (.int (0 : Int32)), .unset, .unset] [])) (fun t k => XS.ifNo X3.here hx rfl (hb hby d10_21) rfl ((if0 _ _).trans (teq (show (0 : Int32) = (0 : Int32) from (by decide))).2) k) ?_
  refine own_go (W1 := T3.setTop (mkF m 25 #[.val (.ref a1), .val (.ref ob), .val (.ref b), .val (.int (0 : Int32)), .unset, .unset] [(.int (0 : Int32))])) (fun t k => XS.iconst X3.here hx rfl (hb hby d10_24) k) ?_
  exact own_retN X3 hx (t := .boolean) Bd.returns (by simp) (hb hby d10_25) hlk (by decide) (by decide) (by rw [e3]; exact ⟨rfl, N3, K3, E_a1, F_mc⟩)
theorem d8_0 : decode prog_7_method_2_code 0 = .ok (.aload_n 0, 1) := by decide +kernel
theorem d8_1 : decode prog_7_method_2_code 1 = .ok (.getfield 19, 3) := by decide +kernel
theorem d8_4 : decode prog_7_method_2_code 4 = .ok (.ifnonnull 9, 3) := by decide +kernel
theorem d8_7 : decode prog_7_method_2_code 7 = .ok (.aload_n 0, 1) := by decide +kernel
theorem d8_8 : decode prog_7_method_2_code 8 = .ok (.aload_n 1, 1) := by decide +kernel
theorem d8_9 : decode prog_7_method_2_code 9 = .ok (.putfield 19, 3) := by decide +kernel
theorem d8_12 : decode prog_7_method_2_code 12 = .ok (.return_, 1) := by decide +kernel
theorem ef_rmA0 (m : MethodId) (x0 : Addr) (x1 : Addr)  : entryFrame m #[(.ref x0), (.ref x1)] 2 = mkF m 0 #[.val (.ref x0), .val (.ref x1)] [] := by first | (simp [entryFrame, mkF, argsToLocals, Value.category]; done) | rfl
set_option maxRecDepth 65536 in
set_option maxHeartbeats 40000000 in
theorem rmA0 (l : Launch) (Z : State) (a0 : Array Value) (hw : ∀ d ∈ tables_1, d.before a0 Z = true) (ws : List Jvm.Cond) (a1 r b1 b2 : Addr) (h0 : Heap) (n0 : Nat) (Z0 : n0 ≤ h0.size) (E_a1 : Exa Z h0 a1 "com/example/cerb3rus/cerb3rus/combining/Gathered") (F_first_a1 : Fld Z h0 a1 "com/example/cerb3rus/cerb3rus/combining/Gathered" "first" "Lcom/example/cerb3rus/cerb3rus/evaluation/Result;" .null) (F_lo : Fld Z h0 a1 "com/example/cerb3rus/cerb3rus/combining/Gathered" "laterObligations" "Ljava/util/List;" (.ref b1)) (F_la : Fld Z h0 a1 "com/example/cerb3rus/cerb3rus/combining/Gathered" "laterAdvice" "Ljava/util/List;" (.ref b2)) (ge_a1 : n0 ≤ a1) :
    MetFree l (⟨"com/example/cerb3rus/cerb3rus/combining/Gathered", "add", "(Lcom/example/cerb3rus/cerb3rus/evaluation/Result;)V"⟩ : MethodName) (head1 (Jvm.Cond.code (⟨"com/example/cerb3rus/cerb3rus/combining/Gathered", "add", "(Lcom/example/cerb3rus/cerb3rus/evaluation/Result;)V"⟩ : MethodName) prog_7_method_2_code 2 none :: ws) ({ frames := 0, cells := 0, slots := 0, locals := 0 } : Room)) (fun a U => a = #[(.ref a1), (.ref r)] ∧ Z.Warmed39 U.vm ∧ U.heap = h0) (fun _ _ _ _ _ => True) (fun _ U o U' => ∃ v L, o = .returned v ∧ own_Qf Z a1 r b1 b2 h0 n0 v U'.heap L ∧ FrameEnd U o U' L ({ frames := 0, cells := 0, slots := 0, locals := 0 } : Room).cells ({ frames := 0, cells := 0, slots := 0, locals := 0 } : Room).slots) := by
  refine MetFree.of_bodySF (plainFor_of_name own_pn_com_example_cerb3rus_cerb3rus_combining_Gathered) hisR ?_
  intro p e s m args below meth c s₁ Bd hml0 hP hK
  obtain ⟨rfl, hZ, hh⟩ := hP
  have hx := Bd.exec
  have hby := Bd.bytes
  have hlk := BodyLoose.notSynchronized Bd
  have hml : c.maxLocals = 2 := hml0
  have hown : s.vm.findClass "com/example/cerb3rus/cerb3rus/combining/Gathered" = some m.cls := findClass_of_methodNamed Bd.named
  have hnm := (name_of_methodNamed Bd.named Bd.method).1
  have X0 : Stand p l e ({ frames := 0, cells := 0, slots := 0, locals := 0 } : Room) s m #[(.ref a1), (.ref r)] below meth c s₁ [] 0 0 := Stand.of_body Bd
  have e0 : s₁.heap = h0 := by rw [← hh, Bd.state]; rfl
  have N0 := Fr.nil n0
  show own_Ends p e below s (own_Qf Z a1 r b1 b2 h0 n0) 0 0 (s₁.setTop (entryFrame m #[(.ref a1), (.ref r)] 2))
  refine own_go (W1 := s₁.setTop (mkF m 0 #[.val (.ref a1), .val (.ref r)] [])) (fun t k => castTop (ef_rmA0 m a1 r ) k) ?_
  have K0 := Keep.refl h0 [a1]
  refine own_go (W1 := s₁.setTop (mkF m 1 #[.val (.ref a1), .val (.ref r)] [(.ref a1)])) (fun t k => XS.aloadN X0.here hx rfl (hb hby d8_0) rfl rfl  k) ?_
  obtain ⟨T1, X1, e1, st1⟩ := getF X0 hx hZ hown (host := "") (Or.inl (hw _ (List.mem_of_getElem? (i := 51) rfl))) Via.refl e0 F_first_a1 (g := (mkF m 1 #[.val (.ref a1), .val (.ref r)] [(.ref a1)])) rfl rfl (hb hby d8_1)
  refine own_go (W1 := T1.setTop (mkF m 4 #[.val (.ref a1), .val (.ref r)] [.null])) (st1) ?_
  refine own_go (W1 := T1.setTop (mkF m 7 #[.val (.ref a1), .val (.ref r)] [])) (fun t k => XS.ifnonnullNo X1.here hx rfl (hb hby d8_4) rfl k) ?_
  refine own_go (W1 := T1.setTop (mkF m 8 #[.val (.ref a1), .val (.ref r)] [(.ref a1)])) (fun t k => XS.aloadN X1.here hx rfl (hb hby d8_7) rfl rfl  k) ?_
  refine own_go (W1 := T1.setTop (mkF m 9 #[.val (.ref a1), .val (.ref r)] [(.ref r), (.ref a1)])) (fun t k => XS.aloadN X1.here hx rfl (hb hby d8_8) rfl rfl  k) ?_
  obtain ⟨T2, h2, X2, e2, W2, st2⟩ := putF X1 hx hZ hown (host := "") (Or.inl (hw _ (List.mem_of_getElem? (i := 51) rfl))) Via.refl e1 F_first_a1 E_a1 (Or.inl (hw _ (List.mem_of_getElem? (i := 52) rfl))) (hw _ (List.mem_of_getElem? (i := 10) rfl)) (ty := (.object "com/example/cerb3rus/cerb3rus/evaluation/Result")) (by decide) rfl rfl (g := (mkF m 9 #[.val (.ref a1), .val (.ref r)] [(.ref r), (.ref a1)])) rfl rfl (hb hby d8_9)
  have E_a1 := E_a1.wr W2
  have F_first_a1 := F_first_a1.same W2
  have F_lo := F_lo.other W2 (Or.inr (slot_ne (a0 := a0) (Or.inr (hw _ (List.mem_of_getElem? (i := 43) rfl))) (Or.inl (hw _ (List.mem_of_getElem? (i := 52) rfl))) (by decide) (t := (.object "java/util/List")) (t' := (.object "com/example/cerb3rus/cerb3rus/evaluation/Result")) (by decide) (by decide)))
  have F_la := F_la.other W2 (Or.inr (slot_ne (a0 := a0) (Or.inr (hw _ (List.mem_of_getElem? (i := 45) rfl))) (Or.inl (hw _ (List.mem_of_getElem? (i := 52) rfl))) (by decide) (t := (.object "java/util/List")) (t' := (.object "com/example/cerb3rus/cerb3rus/evaluation/Result")) (by decide) (by decide)))
  have Z2 : n0 ≤ h2.size := by rw [W2.size]; exact Z0
  have K2 := K0.wr W2 (Or.inl (List.mem_of_getElem? (i := 0) rfl))
  have N2 := Fr.snoc X2 N0 ge_a1
  refine own_go (W1 := T2.setTop (mkF m 12 #[.val (.ref a1), .val (.ref r)] [])) (st2) ?_
  exact own_retV X2 hx Bd.returns (hb hby d8_12) hlk (by decide) (by decide) (by rw [e2]; exact ⟨rfl, N2, K2, E_a1, F_first_a1, F_lo, F_la⟩)
theorem d8_13 : decode prog_7_method_2_code 13 = .ok (.aload_n 0, 1) := by decide +kernel
theorem d8_14 : decode prog_7_method_2_code 14 = .ok (.getfield 10, 3) := by decide +kernel
theorem d8_17 : decode prog_7_method_2_code 17 = .ok (.aload_n 1, 1) := by decide +kernel
theorem d8_18 : decode prog_7_method_2_code 18 = .ok (.invokevirtual 23, 3) := by decide +kernel
theorem own_pd4 : parseMethodDescriptor "()Ljava/util/List;" = some ⟨[], some (.object "java/util/List")⟩ := by decide +kernel
theorem d8_21 : decode prog_7_method_2_code 21 = .ok (.invokeinterface 29 2, 5) := by decide +kernel
theorem own_pd5 : parseMethodDescriptor "(Ljava/util/Collection;)Z" = some ⟨[(.object "java/util/Collection")], some .boolean⟩ := by decide +kernel
theorem d8_26 : decode prog_7_method_2_code 26 = .ok (.pop, 1) := by decide +kernel
theorem d8_27 : decode prog_7_method_2_code 27 = .ok (.aload_n 0, 1) := by decide +kernel
theorem d8_28 : decode prog_7_method_2_code 28 = .ok (.getfield 16, 3) := by decide +kernel
theorem d8_31 : decode prog_7_method_2_code 31 = .ok (.aload_n 1, 1) := by decide +kernel
theorem d8_32 : decode prog_7_method_2_code 32 = .ok (.invokevirtual 35, 3) := by decide +kernel
theorem d8_35 : decode prog_7_method_2_code 35 = .ok (.invokeinterface 29 2, 5) := by decide +kernel
theorem d8_40 : decode prog_7_method_2_code 40 = .ok (.pop, 1) := by decide +kernel
theorem d8_41 : decode prog_7_method_2_code 41 = .ok (.return_, 1) := by decide +kernel
theorem ef_rmA1 (m : MethodId) (x0 : Addr) (x1 : Addr)  : entryFrame m #[(.ref x0), (.ref x1)] 2 = mkF m 0 #[.val (.ref x0), .val (.ref x1)] [] := by first | (simp [entryFrame, mkF, argsToLocals, Value.category]; done) | rfl
set_option maxRecDepth 65536 in
set_option maxHeartbeats 40000000 in
theorem rmA1 (l : Launch) (Z : State) (a0 : Array Value) (hw : ∀ d ∈ tables_1, d.before a0 Z = true) (ws : List Jvm.Cond) (a1 r r0 b1 b2 ob u mr : Addr) (ku : ClassId) (m1 m2 : Int32) (h0 : Heap) (n0 : Nat) (Z0 : n0 ≤ h0.size) (F_first_a1 : Fld Z h0 a1 "com/example/cerb3rus/cerb3rus/combining/Gathered" "first" "Lcom/example/cerb3rus/cerb3rus/evaluation/Result;" (.ref r0)) (F_lo : Fld Z h0 a1 "com/example/cerb3rus/cerb3rus/combining/Gathered" "laterObligations" "Ljava/util/List;" (.ref b1)) (F_la : Fld Z h0 a1 "com/example/cerb3rus/cerb3rus/combining/Gathered" "laterAdvice" "Ljava/util/List;" (.ref b2)) (E_b1 : Exa Z h0 b1 "java/util/ArrayList") (F_m_b1 : Fld Z h0 b1 "java/util/AbstractList" "modCount" "I" (.int m1)) (E_b2 : Exa Z h0 b2 "java/util/ArrayList") (F_m_b2 : Fld Z h0 b2 "java/util/AbstractList" "modCount" "I" (.int m2)) (ge_b1 : n0 ≤ b1) (ge_b2 : n0 ≤ b2) (ne_a1_b1 : a1 ≠ b1) (ne_a1_b2 : a1 ≠ b2) (ne_b1_b2 : b1 ≠ b2) (Xo : Old Z n0 h0) (hr : own_Res Z r ob) (hl : own_Lst Z ob u ku) (M : Mir Z "[Ljava/lang/Object;" mr) :
    MetFree l (⟨"com/example/cerb3rus/cerb3rus/combining/Gathered", "add", "(Lcom/example/cerb3rus/cerb3rus/evaluation/Result;)V"⟩ : MethodName) (head1 (Jvm.Cond.code (⟨"com/example/cerb3rus/cerb3rus/combining/Gathered", "add", "(Lcom/example/cerb3rus/cerb3rus/evaluation/Result;)V"⟩ : MethodName) prog_7_method_2_code 2 none :: ws) ({ frames := 5, cells := 2, slots := 0, locals := 98 } : Room)) (fun a U => a = #[(.ref a1), (.ref r)] ∧ Z.Warmed39 U.vm ∧ U.heap = h0) (fun _ _ _ _ _ => True) (fun _ U o U' => ∃ v L, o = .returned v ∧ own_Qs Z b1 b2 m1 m2 h0 n0 v U'.heap L ∧ FrameEnd U o U' L ({ frames := 5, cells := 2, slots := 0, locals := 98 } : Room).cells ({ frames := 5, cells := 2, slots := 0, locals := 98 } : Room).slots) := by
  refine MetFree.of_bodySF (plainFor_of_name own_pn_com_example_cerb3rus_cerb3rus_combining_Gathered) hisR ?_
  intro p e s m args below meth c s₁ Bd hml0 hP hK
  obtain ⟨rfl, hZ, hh⟩ := hP
  have hx := Bd.exec
  have hby := Bd.bytes
  have hlk := BodyLoose.notSynchronized Bd
  have hml : c.maxLocals = 2 := hml0
  have hown : s.vm.findClass "com/example/cerb3rus/cerb3rus/combining/Gathered" = some m.cls := findClass_of_methodNamed Bd.named
  have hnm := (name_of_methodNamed Bd.named Bd.method).1
  have X0 : Stand p l e ({ frames := 5, cells := 2, slots := 0, locals := 98 } : Room) s m #[(.ref a1), (.ref r)] below meth c s₁ [] 0 0 := Stand.of_body Bd
  have e0 : s₁.heap = h0 := by rw [← hh, Bd.state]; rfl
  have N0 := Fr.nil n0
  show own_Ends p e below s (own_Qs Z b1 b2 m1 m2 h0 n0) 2 0 (s₁.setTop (entryFrame m #[(.ref a1), (.ref r)] 2))
  refine own_go (W1 := s₁.setTop (mkF m 0 #[.val (.ref a1), .val (.ref r)] [])) (fun t k => castTop (ef_rmA1 m a1 r ) k) ?_
  have K0 := Keep.refl h0 [b1, b2]
  refine own_go (W1 := s₁.setTop (mkF m 1 #[.val (.ref a1), .val (.ref r)] [(.ref a1)])) (fun t k => XS.aloadN X0.here hx rfl (hb hby d8_0) rfl rfl  k) ?_
  obtain ⟨T1, X1, e1, st1⟩ := getF X0 hx hZ hown (host := "") (Or.inl (hw _ (List.mem_of_getElem? (i := 51) rfl))) Via.refl e0 F_first_a1 (g := (mkF m 1 #[.val (.ref a1), .val (.ref r)] [(.ref a1)])) rfl rfl (hb hby d8_1)
  refine own_go (W1 := T1.setTop (mkF m 4 #[.val (.ref a1), .val (.ref r)] [(.ref r0)])) (st1) ?_
  refine own_go (W1 := T1.setTop (mkF m 13 #[.val (.ref a1), .val (.ref r)] [])) (fun t k => XS.ifnonnullYes X1.here hx rfl (pc0 := 4) (pc' := 13) rfl (hb hby d8_4) rfl (by decide) (by decide) k) ?_
  refine own_go (W1 := T1.setTop (mkF m 14 #[.val (.ref a1), .val (.ref r)] [(.ref a1)])) (fun t k => XS.aloadN X1.here hx rfl (hb hby d8_13) rfl rfl  k) ?_
  obtain ⟨T2, X2, e2, st2⟩ := getF X1 hx hZ hown (host := "") (Or.inl (hw _ (List.mem_of_getElem? (i := 42) rfl))) Via.refl e1 F_lo (g := (mkF m 14 #[.val (.ref a1), .val (.ref r)] [(.ref a1)])) rfl rfl (hb hby d8_14)
  refine own_go (W1 := T2.setTop (mkF m 17 #[.val (.ref a1), .val (.ref r)] [(.ref b1)])) (st2) ?_
  refine own_go (W1 := T2.setTop (mkF m 18 #[.val (.ref a1), .val (.ref r)] [(.ref r), (.ref b1)])) (fun t k => XS.aloadN X2.here hx rfl (hb hby d8_17) rfl rfl  k) ?_
  have E_r := hr.1.ext Xo.2
  have F_o := hr.2.1.ext Xo.2
  have F_a := hr.2.2.ext Xo.2
  have E_ob := hl.1.ext Xo.2
  obtain ⟨cq3, kq3, q3a, q3b, q3c⟩ := isOf hZ e2 E_r
  obtain ⟨_, _, ⟨T3, L3, k3, n3⟩, -, X3, ⟨Lc3, hQ3, l3, y3, z3⟩, st3⟩ := X2.virtualBack hx (y := (⟨"com/example/cerb3rus/cerb3rus/evaluation/Result", "obligations", "()Ljava/util/List;"⟩ : MethodName)) (z := (⟨"com/example/cerb3rus/cerb3rus/evaluation/Result", "obligations", "()Ljava/util/List;"⟩ : MethodName)) hown (mvT hZ (hw _ (List.mem_of_getElem? (i := 58) rfl))) (mvT hZ (hw _ (List.mem_of_getElem? (i := 59) rfl))) (notFace_of_selects (args := #[]) (mvT hZ (hw _ (List.mem_of_getElem? (i := 61) rfl)))) (mvT hZ (hw _ (List.mem_of_getElem? (i := 61) rfl))) (mvT hZ (hw _ (List.mem_of_getElem? (i := 60) rfl))) (by decide) (backOf (W := 1) (rm9 l Z a0 hw [] r (.ref ob) h0 n0 Z0 F_o rfl) hZ (hw _ (List.mem_of_getElem? (i := 62) rfl)) (hw _ (List.mem_of_getElem? (i := 5) rfl)) (by decide) (by decide)) q3a q3c (g := (mkF m 18 #[.val (.ref a1), .val (.ref r)] [(.ref r), (.ref b1)])) rfl (by rw [hml]; rfl) (Steps.refl _) (argsL := []) (rest := [(.ref b1)]) (lenOf own_pd4 rfl) rfl (by show 2 * 0 + _ ≤ _; exact Nat.le_of_eq rfl) (hb hby d8_18) (fun _ _ => ⟨rfl, e2, (by decide : 0 + 0 ≤ _), (by decide : 0 + 0 ≤ _)⟩)
  dsimp only [Pt.U, Pt.locs, Pt.cells, Pt.slots] at X3 l3 y3 z3 st3 hQ3
  subst l3 y3 z3
  obtain ⟨rfl, Nq3, eh3⟩ := hQ3
  have N3 := Fr.app N0 Nq3
  refine own_tr (W1 := T3.setTop (mkF m 21 #[.val (.ref a1), .val (.ref r)] [(.ref ob), (.ref b1)])) st3 ?_
  obtain ⟨cq4, kq4, q4a, q4b, q4c⟩ := isOf hZ eh3 E_b1
  obtain ⟨_, _, ⟨T4, L4, k4, n4⟩, -, X4, ⟨Lc4, hQ4, l4, y4, z4⟩, st4⟩ := X3.interfaceBack hx (xi := (⟨"java/util/List", "addAll", "(Ljava/util/Collection;)Z"⟩ : MethodName)) (y := (⟨"java/util/ArrayList", "addAll", "(Ljava/util/Collection;)Z"⟩ : MethodName)) hown (mvT hZ (hw _ (List.mem_of_getElem? (i := 65) rfl))) (mvT hZ (hw _ (List.mem_of_getElem? (i := 66) rfl))) (mvT hZ (hw _ (List.mem_of_getElem? (i := 67) rfl))) (mvT hZ (hw _ (List.mem_of_getElem? (i := 68) rfl))) (mvT hZ (hw _ (List.mem_of_getElem? (i := 69) rfl))) (mvT hZ (hw _ (List.mem_of_getElem? (i := 70) rfl))) (mvT hZ (hw _ (List.mem_of_getElem? (i := 71) rfl))) (mvT hZ (hw _ (List.mem_of_getElem? (i := 72) rfl))) (by decide) (backOf (W := 0) (rm10 l Z a0 hw [] b1 ob u mr ku m1 h0 n0 Z0 E_b1 F_m_b1 ge_b1 Xo hl M) hZ (hw _ (List.mem_of_getElem? (i := 73) rfl)) (hw _ (List.mem_of_getElem? (i := 20) rfl)) (by decide) (by decide)) q4a q4b q4c (g := (mkF m 21 #[.val (.ref a1), .val (.ref r)] [(.ref ob), (.ref b1)])) rfl (by rw [hml]; rfl) (Steps.refl _) (argsL := [(.ref ob)]) (rest := []) (lenOf own_pd5 rfl) rfl (by show 2 * 0 + _ ≤ _; exact Nat.le_of_eq rfl) (hb hby d8_21) (fun _ _ => ⟨rfl, eh3, (by decide : 0 + 1 ≤ _), (by decide : 0 + 0 ≤ _)⟩)
  dsimp only [Pt.U, Pt.locs, Pt.cells, Pt.slots] at X4 l4 y4 z4 st4 hQ4
  subst l4 y4 z4
  obtain ⟨rfl, Nq4, Kq4, Eq4, Fa4⟩ := hQ4
  have F_first_a1 := F_first_a1.keep Kq4 (ninS ne_a1_b1 nin0)
  have F_lo := F_lo.keep Kq4 (ninS ne_a1_b1 nin0)
  have F_la := F_la.keep Kq4 (ninS ne_a1_b1 nin0)
  have Xo := Xo.keep Kq4 (allS ge_b1 all0)
  have E_b1 := E_b1.keep Kq4
  have E_b2 := E_b2.keep Kq4
  have F_m_b2 := F_m_b2.keep Kq4 (ninS (Ne.symm ne_b1_b2) nin0)
  have Z4 : n0 ≤ T4.heap.size := Nat.le_trans Z0 Kq4.1
  have K4 := K0.trans Kq4 (allS (Or.inl (List.mem_of_getElem? (i := 0) rfl)) all0)
  have N4 := Fr.app N3 Nq4
  have F_m_b1 := Fa4
  refine own_tr (W1 := T4.setTop (mkF m 26 #[.val (.ref a1), .val (.ref r)] [(.int (0 : Int32))])) st4 ?_
  refine own_go (W1 := T4.setTop (mkF m 27 #[.val (.ref a1), .val (.ref r)] [])) (fun t k => XS.pop X4.here hx rfl (hb hby d8_26) rfl rfl k) ?_
  refine own_go (W1 := T4.setTop (mkF m 28 #[.val (.ref a1), .val (.ref r)] [(.ref a1)])) (fun t k => XS.aloadN X4.here hx rfl (hb hby d8_27) rfl rfl  k) ?_
  obtain ⟨T5, X5, e5, st5⟩ := getF X4 hx hZ hown (host := "") (Or.inl (hw _ (List.mem_of_getElem? (i := 44) rfl))) Via.refl (rfl : T4.heap = T4.heap) F_la (g := (mkF m 28 #[.val (.ref a1), .val (.ref r)] [(.ref a1)])) rfl rfl (hb hby d8_28)
  refine own_go (W1 := T5.setTop (mkF m 31 #[.val (.ref a1), .val (.ref r)] [(.ref b2)])) (st5) ?_
  refine own_go (W1 := T5.setTop (mkF m 32 #[.val (.ref a1), .val (.ref r)] [(.ref r), (.ref b2)])) (fun t k => XS.aloadN X5.here hx rfl (hb hby d8_31) rfl rfl  k) ?_
  have E_r := hr.1.ext Xo.2
  have F_o := hr.2.1.ext Xo.2
  have F_a := hr.2.2.ext Xo.2
  have E_ob := hl.1.ext Xo.2
  obtain ⟨cq6, kq6, q6a, q6b, q6c⟩ := isOf hZ e5 E_r
  obtain ⟨_, _, ⟨T6, L6, k6, n6⟩, -, X6, ⟨Lc6, hQ6, l6, y6, z6⟩, st6⟩ := X5.virtualBack hx (y := (⟨"com/example/cerb3rus/cerb3rus/evaluation/Result", "advice", "()Ljava/util/List;"⟩ : MethodName)) (z := (⟨"com/example/cerb3rus/cerb3rus/evaluation/Result", "advice", "()Ljava/util/List;"⟩ : MethodName)) hown (mvT hZ (hw _ (List.mem_of_getElem? (i := 112) rfl))) (mvT hZ (hw _ (List.mem_of_getElem? (i := 113) rfl))) (notFace_of_selects (args := #[]) (mvT hZ (hw _ (List.mem_of_getElem? (i := 115) rfl)))) (mvT hZ (hw _ (List.mem_of_getElem? (i := 115) rfl))) (mvT hZ (hw _ (List.mem_of_getElem? (i := 114) rfl))) (by decide) (backOf (W := 1) (rm15 l Z a0 hw [] r (.ref ob) T4.heap n0 Z4 F_a rfl) hZ (hw _ (List.mem_of_getElem? (i := 116) rfl)) (hw _ (List.mem_of_getElem? (i := 5) rfl)) (by decide) (by decide)) q6a q6c (g := (mkF m 32 #[.val (.ref a1), .val (.ref r)] [(.ref r), (.ref b2)])) rfl (by rw [hml]; rfl) (Steps.refl _) (argsL := []) (rest := [(.ref b2)]) (lenOf own_pd4 rfl) rfl (by show 2 * 0 + _ ≤ _; exact Nat.le_of_eq rfl) (hb hby d8_32) (fun _ _ => ⟨rfl, e5, (by decide : 1 + 0 ≤ _), (by decide : 0 + 0 ≤ _)⟩)
  dsimp only [Pt.U, Pt.locs, Pt.cells, Pt.slots] at X6 l6 y6 z6 st6 hQ6
  subst l6 y6 z6
  obtain ⟨rfl, Nq6, eh6⟩ := hQ6
  have N6 := Fr.app N4 Nq6
  refine own_tr (W1 := T6.setTop (mkF m 35 #[.val (.ref a1), .val (.ref r)] [(.ref ob), (.ref b2)])) st6 ?_
  obtain ⟨cq7, kq7, q7a, q7b, q7c⟩ := isOf hZ eh6 E_b2
  obtain ⟨_, _, ⟨T7, L7, k7, n7⟩, -, X7, ⟨Lc7, hQ7, l7, y7, z7⟩, st7⟩ := X6.interfaceBack hx (xi := (⟨"java/util/List", "addAll", "(Ljava/util/Collection;)Z"⟩ : MethodName)) (y := (⟨"java/util/ArrayList", "addAll", "(Ljava/util/Collection;)Z"⟩ : MethodName)) hown (mvT hZ (hw _ (List.mem_of_getElem? (i := 65) rfl))) (mvT hZ (hw _ (List.mem_of_getElem? (i := 66) rfl))) (mvT hZ (hw _ (List.mem_of_getElem? (i := 67) rfl))) (mvT hZ (hw _ (List.mem_of_getElem? (i := 68) rfl))) (mvT hZ (hw _ (List.mem_of_getElem? (i := 69) rfl))) (mvT hZ (hw _ (List.mem_of_getElem? (i := 70) rfl))) (mvT hZ (hw _ (List.mem_of_getElem? (i := 71) rfl))) (mvT hZ (hw _ (List.mem_of_getElem? (i := 72) rfl))) (by decide) (backOf (W := 0) (rm10 l Z a0 hw [] b2 ob u mr ku m2 T4.heap n0 Z4 E_b2 F_m_b2 ge_b2 Xo hl M) hZ (hw _ (List.mem_of_getElem? (i := 73) rfl)) (hw _ (List.mem_of_getElem? (i := 20) rfl)) (by decide) (by decide)) q7a q7b q7c (g := (mkF m 35 #[.val (.ref a1), .val (.ref r)] [(.ref ob), (.ref b2)])) rfl (by rw [hml]; rfl) (Steps.refl _) (argsL := [(.ref ob)]) (rest := []) (lenOf own_pd5 rfl) rfl (by show 2 * 0 + _ ≤ _; exact Nat.le_of_eq rfl) (hb hby d8_35) (fun _ _ => ⟨rfl, eh6, (by decide : 1 + 1 ≤ _), (by decide : 0 + 0 ≤ _)⟩)
  dsimp only [Pt.U, Pt.locs, Pt.cells, Pt.slots] at X7 l7 y7 z7 st7 hQ7
  subst l7 y7 z7
  obtain ⟨rfl, Nq7, Kq7, Eq7, Fa7⟩ := hQ7
  have F_first_a1 := F_first_a1.keep Kq7 (ninS ne_a1_b2 nin0)
  have F_lo := F_lo.keep Kq7 (ninS ne_a1_b2 nin0)
  have F_la := F_la.keep Kq7 (ninS ne_a1_b2 nin0)
  have Xo := Xo.keep Kq7 (allS ge_b2 all0)
  have E_b1 := E_b1.keep Kq7
  have E_b2 := E_b2.keep Kq7
  have F_m_b1 := F_m_b1.keep Kq7 (ninS ne_b1_b2 nin0)
  have Z7 : n0 ≤ T7.heap.size := Nat.le_trans Z4 Kq7.1
  have K7 := K4.trans Kq7 (allS (Or.inl (List.mem_of_getElem? (i := 1) rfl)) all0)
  have N7 := Fr.app N6 Nq7
  have F_m_b2 := Fa7
  refine own_tr (W1 := T7.setTop (mkF m 40 #[.val (.ref a1), .val (.ref r)] [(.int (0 : Int32))])) st7 ?_
  refine own_go (W1 := T7.setTop (mkF m 41 #[.val (.ref a1), .val (.ref r)] [])) (fun t k => XS.pop X7.here hx rfl (hb hby d8_40) rfl rfl k) ?_
  exact own_retV X7 hx Bd.returns (hb hby d8_41) hlk (by decide) (by decide) ⟨rfl, N7, K7, E_b1, F_m_b1, E_b2, F_m_b2⟩
theorem own_pn_com_example_cerb3rus_cerb3rus_combining_GatheredIsEmptyPinLaw : plainName "com/example/cerb3rus/cerb3rus/combining/GatheredIsEmptyPinLaw" = true := by first | (simp [plainName, overriddenIn]; done) | decide +kernel
theorem d1_0 : decode method_2_code 0 = .ok (.iload_n 0, 1) := by decide +kernel
theorem d1_1 : decode method_2_code 1 = .ok (.ifCond .eq 9, 3) := by decide +kernel
theorem d1_10 : decode method_2_code 10 = .ok (.getstatic 13, 3) := by decide +kernel
theorem d1_13 : decode method_2_code 13 = .ok (.areturn, 1) := by decide +kernel
theorem d1_4 : decode method_2_code 4 = .ok (.getstatic 7, 3) := by decide +kernel
theorem d1_7 : decode method_2_code 7 = .ok (.goto 6, 3) := by decide +kernel
theorem ef_rm1 (m : MethodId) (x0 : Int32)  : entryFrame m #[(.int x0)] 1 = mkF m 0 #[.val (.int x0)] [] := by first | (simp [entryFrame, mkF, argsToLocals, Value.category]; done) | rfl
set_option maxRecDepth 65536 in
set_option maxHeartbeats 40000000 in
theorem rm1 (l : Launch) (Z : State) (a0 : Array Value) (hw : ∀ d ∈ tables_1, d.before a0 Z = true) (ws : List Jvm.Cond) (p1 : Int32) (sP sD : Addr) (h0 : Heap) (n0 : Nat) (Z0 : n0 ≤ h0.size) (Xo : Old Z n0 h0) (SP : Sta Z Z.heap "com/example/cerb3rus/cerb3rus/evaluation/Result" "PERMIT" "Lcom/example/cerb3rus/cerb3rus/evaluation/Result;" (.ref sP)) (SDn : Sta Z Z.heap "com/example/cerb3rus/cerb3rus/evaluation/Result" "DENY" "Lcom/example/cerb3rus/cerb3rus/evaluation/Result;" (.ref sD)) :
    MetFree l (⟨"com/example/cerb3rus/cerb3rus/combining/GatheredIsEmptyPinLaw", "pick", "(I)Lcom/example/cerb3rus/cerb3rus/evaluation/Result;"⟩ : MethodName) (head1 (Jvm.Cond.code (⟨"com/example/cerb3rus/cerb3rus/combining/GatheredIsEmptyPinLaw", "pick", "(I)Lcom/example/cerb3rus/cerb3rus/evaluation/Result;"⟩ : MethodName) method_2_code 1 (some (.object "com/example/cerb3rus/cerb3rus/evaluation/Result")) :: ws) ({ frames := 0, cells := 0, slots := 0, locals := 0 } : Room)) (fun a U => a = #[(.int p1)] ∧ Z.Warmed39 U.vm ∧ U.heap = h0) (fun _ _ _ _ _ => True) (fun _ U o U' => ∃ v L, o = .returned v ∧ own_Qp sP sD h0 n0 v U'.heap L ∧ FrameEnd U o U' L ({ frames := 0, cells := 0, slots := 0, locals := 0 } : Room).cells ({ frames := 0, cells := 0, slots := 0, locals := 0 } : Room).slots) := by
  refine MetFree.of_bodySF (plainFor_of_name own_pn_com_example_cerb3rus_cerb3rus_combining_GatheredIsEmptyPinLaw) hisR ?_
  intro p e s m args below meth c s₁ Bd hml0 hP hK
  obtain ⟨rfl, hZ, hh⟩ := hP
  have hx := Bd.exec
  have hby := Bd.bytes
  have hlk := BodyLoose.notSynchronized Bd
  have hml : c.maxLocals = 1 := hml0
  have hown : s.vm.findClass "com/example/cerb3rus/cerb3rus/combining/GatheredIsEmptyPinLaw" = some m.cls := findClass_of_methodNamed Bd.named
  have hnm := (name_of_methodNamed Bd.named Bd.method).1
  have X0 : Stand p l e ({ frames := 0, cells := 0, slots := 0, locals := 0 } : Room) s m #[(.int p1)] below meth c s₁ [] 0 0 := Stand.of_body Bd
  have e0 : s₁.heap = h0 := by rw [← hh, Bd.state]; rfl
  have N0 := Fr.nil n0
  show own_Ends p e below s (own_Qp sP sD h0 n0) 0 0 (s₁.setTop (entryFrame m #[(.int p1)] 1))
  refine own_go (W1 := s₁.setTop (mkF m 0 #[.val (.int p1)] [])) (fun t k => castTop (ef_rm1 m p1 ) k) ?_
  have S_P := SP.ext Xo.2
  have S_N := SDn.ext Xo.2
  refine own_go (W1 := s₁.setTop (mkF m 1 #[.val (.int p1)] [(.int p1)])) (fun t k => XS.iloadN X0.here hx rfl (hb hby d1_0) rfl  k) ?_
  by_cases hc1_1 : p1 = (0 : Int32)
  · skip
    refine own_go (W1 := s₁.setTop (mkF m 10 #[.val (.int p1)] [])) (fun t k => XS.ifYes X0.here hx rfl (pc0 := 1) (pc' := 10) rfl (hb hby d1_1) rfl ((if0 _ _).trans (teq (show p1 = (0 : Int32) from hc1_1)).1) (by decide) (by decide) k) ?_
    obtain ⟨T1, X1, e1, st1⟩ := getS2 X0 hx hZ hown (host := "") (Or.inl (hw _ (List.mem_of_getElem? (i := 7) rfl))) Via.refl e0 S_N (g := (mkF m 10 #[.val (.int p1)] [])) rfl (hb hby d1_10)
    refine own_go (W1 := T1.setTop (mkF m 13 #[.val (.int p1)] [(.ref sD)])) (st1) ?_
    exact own_retR X1 hx Bd.returns rfl rfl (hb hby d1_13) hlk (by decide) (by decide) ⟨sD, rfl, N0, e1, Or.inr rfl⟩
  · skip
    refine own_go (W1 := s₁.setTop (mkF m 4 #[.val (.int p1)] [])) (fun t k => XS.ifNo X0.here hx rfl (hb hby d1_1) rfl ((if0 _ _).trans (feq (show ¬ (p1 = (0 : Int32)) from hc1_1)).1) k) ?_
    obtain ⟨T2, X2, e2, st2⟩ := getS2 X0 hx hZ hown (host := "") (Or.inl (hw _ (List.mem_of_getElem? (i := 4) rfl))) Via.refl e0 S_P (g := (mkF m 4 #[.val (.int p1)] [])) rfl (hb hby d1_4)
    refine own_go (W1 := T2.setTop (mkF m 7 #[.val (.int p1)] [(.ref sP)])) (st2) ?_
    refine own_go (W1 := T2.setTop (mkF m 13 #[.val (.int p1)] [(.ref sP)])) (fun t k => XS.goto X2.here hx rfl (pc0 := 7) (pc' := 13) rfl (hb hby d1_7) (by decide) (by decide) k) ?_
    exact own_retR X2 hx Bd.returns rfl rfl (hb hby d1_13) hlk (by decide) (by decide) ⟨sP, rfl, N0, e2, Or.inl rfl⟩
theorem own_pd0 : parseMethodDescriptor "(I)Lcom/example/cerb3rus/cerb3rus/evaluation/Result;" = some ⟨[.int], some (.object "com/example/cerb3rus/cerb3rus/evaluation/Result")⟩ := by decide +kernel
theorem own_pd2 : parseMethodDescriptor "()Z" = some ⟨[], some .boolean⟩ := by decide +kernel
theorem own_pd3 : parseMethodDescriptor "(Lcom/example/cerb3rus/cerb3rus/evaluation/Result;)V" = some ⟨[(.object "com/example/cerb3rus/cerb3rus/evaluation/Result")], none⟩ := by decide +kernel
theorem ef_rm0 (m : MethodId) (x0 : Int32) (x1 : Int32)  : entryFrame m #[(.int x0), (.int x1)] maxLocals = mkF m 0 #[.val (.int x0), .val (.int x1), .unset, .unset, .unset, .unset, .unset, .unset] [] := by first | (simp [entryFrame, mkF, argsToLocals, Value.category, maxLocals]; done) | rfl
set_option maxRecDepth 65536 in
set_option maxHeartbeats 40000000 in
theorem rm0 (l : Launch) (Z : State) (a0 : Array Value) (hw : ∀ d ∈ tables_1, d.before a0 Z = true) (ws : List Jvm.Cond) (i0 i1 : Int32) (dd sP sD ob u mr : Addr) (ku : ClassId) (h0 : Heap) (n0 : Nat) (Z0 : n0 ≤ h0.size) (Xo : Old Z n0 h0) (SD : own_Dflt Z dd) (SP : Sta Z Z.heap "com/example/cerb3rus/cerb3rus/evaluation/Result" "PERMIT" "Lcom/example/cerb3rus/cerb3rus/evaluation/Result;" (.ref sP)) (SDn : Sta Z Z.heap "com/example/cerb3rus/cerb3rus/evaluation/Result" "DENY" "Lcom/example/cerb3rus/cerb3rus/evaluation/Result;" (.ref sD)) (hP : own_Res Z sP ob) (hD : own_Res Z sD ob) (hl : own_Lst Z ob u ku) (M : Mir Z "[Ljava/lang/Object;" mr) :
    MetFree l x (head1 (Jvm.Cond.code x code maxLocals ret :: ws) room_1) (fun a U => a = #[(.int i0), (.int i1)] ∧ Z.Warmed39 U.vm ∧ U.heap = h0) (fun _ _ _ _ _ => True) (fun _ U o U' => ∃ v L, o = .returned v ∧ own_Q0 n0 v U'.heap L ∧ FrameEnd U o U' L 24 128) := by
  refine MetFree.of_bodySF (plainFor_of_name own_pn_com_example_cerb3rus_cerb3rus_combining_GatheredIsEmptyPinLaw) hisR ?_
  intro p e s m args below meth c s₁ Bd hml0 hP hK
  obtain ⟨rfl, hZ, hh⟩ := hP
  have hx := Bd.exec
  have hby := Bd.bytes
  have hlk := BodyLoose.notSynchronized Bd
  have hml : c.maxLocals = 8 := hml0
  have hown : s.vm.findClass "com/example/cerb3rus/cerb3rus/combining/GatheredIsEmptyPinLaw" = some m.cls := findClass_of_methodNamed Bd.named
  have hnm := (name_of_methodNamed Bd.named Bd.method).1
  have X0 : Stand p l e room_1 s m #[(.int i0), (.int i1)] below meth c s₁ [] 0 0 := Stand.of_body Bd
  have e0 : s₁.heap = h0 := by rw [← hh, Bd.state]; rfl
  have N0 := Fr.nil n0
  show own_Ends p e below s (own_Q0 n0) 24 128 (s₁.setTop (entryFrame m #[(.int i0), (.int i1)] maxLocals))
  refine own_go (W1 := s₁.setTop (mkF m 0 #[.val (.int i0), .val (.int i1), .unset, .unset, .unset, .unset, .unset, .unset] [])) (fun t k => castTop (ef_rm0 m i0 i1 ) k) ?_
  refine own_go (W1 := s₁.setTop (mkF m 1 #[.val (.int i0), .val (.int i1), .unset, .unset, .unset, .unset, .unset, .unset] [(.int i0)])) (fun t k => XS.iloadN X0.here hx rfl (hb hby at_0) rfl  k) ?_
  refine own_go (W1 := s₁.setTop (mkF m 2 #[.val (.int i0), .val (.int i1), .unset, .unset, .unset, .unset, .unset, .unset] [(.int (3 : Int32)), (.int i0)])) (fun t k => XS.iconst X0.here hx rfl (hb hby at_1) k) ?_
  refine own_go (W1 := s₁.setTop (mkF m 3 #[.val (.int i0), .val (.int i1), .unset, .unset, .unset, .unset, .unset, .unset] [(.int (i0 &&& (3 : Int32)))])) (fun t k => XS.iand X0.here hx rfl (hb hby at_2) rfl k) ?_
  refine own_go (W1 := s₁.setTop (mkF m 4 #[.val (.int i0), .val (.int i1), .val (.int (i0 &&& (3 : Int32))), .unset, .unset, .unset, .unset, .unset] [])) (fun t k => XS.istoreN X0.here hx rfl (hb hby at_3) rfl (l' := #[.val (.int i0), .val (.int i1), .val (.int (i0 &&& (3 : Int32))), .unset, .unset, .unset, .unset, .unset]) rfl k) ?_
  rcases own_n i0 with hn | hn | hn | hn
  · rw [show (i0 &&& (3 : Int32)) = (0 : Int32) from hn]
    refine own_go (W1 := s₁.setTop (mkF m 5 #[.val (.int i0), .val (.int i1), .val (.int (0 : Int32)), .unset, .unset, .unset, .unset, .unset] [(.int i1)])) (fun t k => XS.iloadN X0.here hx rfl (hb hby at_4) rfl  k) ?_
    refine own_go (W1 := s₁.setTop (mkF m 6 #[.val (.int i0), .val (.int i1), .val (.int (0 : Int32)), .unset, .unset, .unset, .unset, .unset] [(.int (1 : Int32)), (.int i1)])) (fun t k => XS.iconst X0.here hx rfl (hb hby at_5) k) ?_
    refine own_go (W1 := s₁.setTop (mkF m 7 #[.val (.int i0), .val (.int i1), .val (.int (0 : Int32)), .unset, .unset, .unset, .unset, .unset] [(.int (i1 &&& (1 : Int32)))])) (fun t k => XS.iand X0.here hx rfl (hb hby at_6) rfl k) ?_
    obtain ⟨_, _, ⟨T1, L1, k1, n1⟩, -, X1, ⟨Lc1, hQ1, l1, y1, z1⟩, st1⟩ := Jvm.LawKit.callS X0 hx (y := (⟨"com/example/cerb3rus/cerb3rus/combining/GatheredIsEmptyPinLaw", "pick", "(I)Lcom/example/cerb3rus/cerb3rus/evaluation/Result;"⟩ : MethodName)) hown (mvT hZ (hw _ (List.mem_of_getElem? (i := 0) rfl))) (mvT hZ (hw _ (List.mem_of_getElem? (i := 1) rfl))) (mvT hZ (hw _ (List.mem_of_getElem? (i := 2) rfl))) (mvT hZ (hw _ (List.mem_of_getElem? (i := 3) rfl))) (by decide) (backOf (W := 0) (rm1 l Z a0 hw [] (i1 &&& (1 : Int32)) sP sD h0 n0 Z0 Xo SP SDn) hZ (hw _ (List.mem_of_getElem? (i := 3) rfl)) (hw _ (List.mem_of_getElem? (i := 2) rfl)) (by decide) (by decide)) (g := (mkF m 7 #[.val (.int i0), .val (.int i1), .val (.int (0 : Int32)), .unset, .unset, .unset, .unset, .unset] [(.int (i1 &&& (1 : Int32)))])) rfl (by rw [hml]; rfl) (argsL := [(.int (i1 &&& (1 : Int32)))]) (rest := []) (lenOf own_pd0 rfl) rfl (by show 2 * 0 + _ ≤ _; exact Nat.le_of_eq rfl) (hb hby at_7) (fun _ _ => ⟨rfl, e0, (by decide : 0 + 0 ≤ _), (by decide : 0 + 0 ≤ _)⟩)
    dsimp only [Pt.U, Pt.locs, Pt.cells, Pt.slots] at X1 l1 y1 z1 st1 hQ1
    subst l1 y1 z1
    obtain ⟨r0, rfl, Nq1, eh1, hr0⟩ := hQ1
    have N1 := Fr.app N0 Nq1
    have hr0 : own_Res Z r0 ob := by rcases hr0 with rfl | rfl <;> assumption
    refine own_go (W1 := T1.setTop (mkF m 10 #[.val (.int i0), .val (.int i1), .val (.int (0 : Int32)), .unset, .unset, .unset, .unset, .unset] [(.ref r0)])) st1 ?_
    refine own_go (W1 := T1.setTop (mkF m 11 #[.val (.int i0), .val (.int i1), .val (.int (0 : Int32)), .val (.ref r0), .unset, .unset, .unset, .unset] [])) (fun t k => XS.astoreN X1.here hx rfl (hb hby at_10) rfl rfl (l' := #[.val (.int i0), .val (.int i1), .val (.int (0 : Int32)), .val (.ref r0), .unset, .unset, .unset, .unset]) rfl k) ?_
    refine own_go (W1 := T1.setTop (mkF m 12 #[.val (.int i0), .val (.int i1), .val (.int (0 : Int32)), .val (.ref r0), .unset, .unset, .unset, .unset] [(.int i1)])) (fun t k => XS.iloadN X1.here hx rfl (hb hby at_11) rfl  k) ?_
    refine own_go (W1 := T1.setTop (mkF m 13 #[.val (.int i0), .val (.int i1), .val (.int (0 : Int32)), .val (.ref r0), .unset, .unset, .unset, .unset] [(.int (2 : Int32)), (.int i1)])) (fun t k => XS.iconst X1.here hx rfl (hb hby at_12) k) ?_
    refine own_go (W1 := T1.setTop (mkF m 14 #[.val (.int i0), .val (.int i1), .val (.int (0 : Int32)), .val (.ref r0), .unset, .unset, .unset, .unset] [(.int (i1 &&& (2 : Int32)))])) (fun t k => XS.iand X1.here hx rfl (hb hby at_13) rfl k) ?_
    obtain ⟨_, _, ⟨T2, L2, k2, n2⟩, -, X2, ⟨Lc2, hQ2, l2, y2, z2⟩, st2⟩ := Jvm.LawKit.callS X1 hx (y := (⟨"com/example/cerb3rus/cerb3rus/combining/GatheredIsEmptyPinLaw", "pick", "(I)Lcom/example/cerb3rus/cerb3rus/evaluation/Result;"⟩ : MethodName)) hown (mvT hZ (hw _ (List.mem_of_getElem? (i := 0) rfl))) (mvT hZ (hw _ (List.mem_of_getElem? (i := 1) rfl))) (mvT hZ (hw _ (List.mem_of_getElem? (i := 2) rfl))) (mvT hZ (hw _ (List.mem_of_getElem? (i := 3) rfl))) (by decide) (backOf (W := 0) (rm1 l Z a0 hw [] (i1 &&& (2 : Int32)) sP sD h0 n0 Z0 Xo SP SDn) hZ (hw _ (List.mem_of_getElem? (i := 3) rfl)) (hw _ (List.mem_of_getElem? (i := 2) rfl)) (by decide) (by decide)) (g := (mkF m 14 #[.val (.int i0), .val (.int i1), .val (.int (0 : Int32)), .val (.ref r0), .unset, .unset, .unset, .unset] [(.int (i1 &&& (2 : Int32)))])) rfl (by rw [hml]; rfl) (argsL := [(.int (i1 &&& (2 : Int32)))]) (rest := []) (lenOf own_pd0 rfl) rfl (by show 2 * 0 + _ ≤ _; exact Nat.le_of_eq rfl) (hb hby at_14) (fun _ _ => ⟨rfl, eh1, (by decide : 0 + 0 ≤ _), (by decide : 0 + 0 ≤ _)⟩)
    dsimp only [Pt.U, Pt.locs, Pt.cells, Pt.slots] at X2 l2 y2 z2 st2 hQ2
    subst l2 y2 z2
    obtain ⟨r1, rfl, Nq2, eh2, hr1⟩ := hQ2
    have N2 := Fr.app N1 Nq2
    have hr1 : own_Res Z r1 ob := by rcases hr1 with rfl | rfl <;> assumption
    refine own_go (W1 := T2.setTop (mkF m 17 #[.val (.int i0), .val (.int i1), .val (.int (0 : Int32)), .val (.ref r0), .unset, .unset, .unset, .unset] [(.ref r1)])) st2 ?_
    refine own_go (W1 := T2.setTop (mkF m 19 #[.val (.int i0), .val (.int i1), .val (.int (0 : Int32)), .val (.ref r0), .val (.ref r1), .unset, .unset, .unset] [])) (fun t k => XS.astore X2.here hx rfl (hb hby at_17) rfl rfl (l' := #[.val (.int i0), .val (.int i1), .val (.int (0 : Int32)), .val (.ref r0), .val (.ref r1), .unset, .unset, .unset]) rfl k) ?_
    refine own_go (W1 := T2.setTop (mkF m 20 #[.val (.int i0), .val (.int i1), .val (.int (0 : Int32)), .val (.ref r0), .val (.ref r1), .unset, .unset, .unset] [(.int i1)])) (fun t k => XS.iloadN X2.here hx rfl (hb hby at_19) rfl  k) ?_
    refine own_go (W1 := T2.setTop (mkF m 21 #[.val (.int i0), .val (.int i1), .val (.int (0 : Int32)), .val (.ref r0), .val (.ref r1), .unset, .unset, .unset] [(.int (4 : Int32)), (.int i1)])) (fun t k => XS.iconst X2.here hx rfl (hb hby at_20) k) ?_
    refine own_go (W1 := T2.setTop (mkF m 22 #[.val (.int i0), .val (.int i1), .val (.int (0 : Int32)), .val (.ref r0), .val (.ref r1), .unset, .unset, .unset] [(.int (i1 &&& (4 : Int32)))])) (fun t k => XS.iand X2.here hx rfl (hb hby at_21) rfl k) ?_
    obtain ⟨_, _, ⟨T3, L3, k3, n3⟩, -, X3, ⟨Lc3, hQ3, l3, y3, z3⟩, st3⟩ := Jvm.LawKit.callS X2 hx (y := (⟨"com/example/cerb3rus/cerb3rus/combining/GatheredIsEmptyPinLaw", "pick", "(I)Lcom/example/cerb3rus/cerb3rus/evaluation/Result;"⟩ : MethodName)) hown (mvT hZ (hw _ (List.mem_of_getElem? (i := 0) rfl))) (mvT hZ (hw _ (List.mem_of_getElem? (i := 1) rfl))) (mvT hZ (hw _ (List.mem_of_getElem? (i := 2) rfl))) (mvT hZ (hw _ (List.mem_of_getElem? (i := 3) rfl))) (by decide) (backOf (W := 0) (rm1 l Z a0 hw [] (i1 &&& (4 : Int32)) sP sD h0 n0 Z0 Xo SP SDn) hZ (hw _ (List.mem_of_getElem? (i := 3) rfl)) (hw _ (List.mem_of_getElem? (i := 2) rfl)) (by decide) (by decide)) (g := (mkF m 22 #[.val (.int i0), .val (.int i1), .val (.int (0 : Int32)), .val (.ref r0), .val (.ref r1), .unset, .unset, .unset] [(.int (i1 &&& (4 : Int32)))])) rfl (by rw [hml]; rfl) (argsL := [(.int (i1 &&& (4 : Int32)))]) (rest := []) (lenOf own_pd0 rfl) rfl (by show 2 * 0 + _ ≤ _; exact Nat.le_of_eq rfl) (hb hby at_22) (fun _ _ => ⟨rfl, eh2, (by decide : 0 + 0 ≤ _), (by decide : 0 + 0 ≤ _)⟩)
    dsimp only [Pt.U, Pt.locs, Pt.cells, Pt.slots] at X3 l3 y3 z3 st3 hQ3
    subst l3 y3 z3
    obtain ⟨r2, rfl, Nq3, eh3, hr2⟩ := hQ3
    have N3 := Fr.app N2 Nq3
    have hr2 : own_Res Z r2 ob := by rcases hr2 with rfl | rfl <;> assumption
    refine own_go (W1 := T3.setTop (mkF m 25 #[.val (.int i0), .val (.int i1), .val (.int (0 : Int32)), .val (.ref r0), .val (.ref r1), .unset, .unset, .unset] [(.ref r2)])) st3 ?_
    refine own_go (W1 := T3.setTop (mkF m 27 #[.val (.int i0), .val (.int i1), .val (.int (0 : Int32)), .val (.ref r0), .val (.ref r1), .val (.ref r2), .unset, .unset] [])) (fun t k => XS.astore X3.here hx rfl (hb hby at_25) rfl rfl (l' := #[.val (.int i0), .val (.int i1), .val (.int (0 : Int32)), .val (.ref r0), .val (.ref r1), .val (.ref r2), .unset, .unset]) rfl k) ?_
    obtain ⟨T4, h4, X4, e4, E4, A4, D4, -, st4⟩ := newO X3 hx hZ hown (hw _ (List.mem_of_getElem? (i := 9) rfl)) (hw _ (List.mem_of_getElem? (i := 10) rfl)) (hw _ (List.mem_of_getElem? (i := 11) rfl)) eh3 (g := (mkF m 27 #[.val (.int i0), .val (.int i1), .val (.int (0 : Int32)), .val (.ref r0), .val (.ref r1), .val (.ref r2), .unset, .unset] [])) rfl (hb hby at_27) (by decide) (by decide)
    obtain ⟨g, g4⟩ : ∃ z, z = h0.size := ⟨_, rfl⟩
    have ge_g : n0 ≤ g := Nat.le_trans Z0 (Nat.le_of_eq g4.symm)
    rw [← g4] at A4 D4 st4
    have Xo := Xo.ext E4
    have Z4 : n0 ≤ h4.size := Nat.le_trans Z0 E4.1
    have E_g := A4
    have F_laterObligations_g : Fld Z h4 g "com/example/cerb3rus/cerb3rus/combining/Gathered" "laterObligations" "Ljava/util/List;" .null := D4 (Or.inr (hw _ (List.mem_of_getElem? (i := 43) rfl))) (ty := (.object "java/util/List")) (by decide)
    have F_laterAdvice_g : Fld Z h4 g "com/example/cerb3rus/cerb3rus/combining/Gathered" "laterAdvice" "Ljava/util/List;" .null := D4 (Or.inr (hw _ (List.mem_of_getElem? (i := 45) rfl))) (ty := (.object "java/util/List")) (by decide)
    have F_first_g : Fld Z h4 g "com/example/cerb3rus/cerb3rus/combining/Gathered" "first" "Lcom/example/cerb3rus/cerb3rus/evaluation/Result;" .null := D4 (Or.inl (hw _ (List.mem_of_getElem? (i := 52) rfl))) (ty := (.object "com/example/cerb3rus/cerb3rus/evaluation/Result")) (by decide)
    refine own_go (W1 := T4.setTop (mkF m 30 #[.val (.int i0), .val (.int i1), .val (.int (0 : Int32)), .val (.ref r0), .val (.ref r1), .val (.ref r2), .unset, .unset] [(.ref g)])) (st4) ?_
    refine own_go (W1 := T4.setTop (mkF m 31 #[.val (.int i0), .val (.int i1), .val (.int (0 : Int32)), .val (.ref r0), .val (.ref r1), .val (.ref r2), .unset, .unset] [(.ref g), (.ref g)])) (fun t k => XS.dup X4.here hx rfl (hb hby at_30) rfl rfl k) ?_
    obtain ⟨_, _, ⟨T5, L5, k5, n5⟩, -, X5, ⟨Lc5, hQ5, l5, y5, z5⟩, st5⟩ := X4.specialBack hx (y := (⟨"com/example/cerb3rus/cerb3rus/combining/Gathered", "<init>", "()V"⟩ : MethodName)) rfl hown (mvT hZ (hw _ (List.mem_of_getElem? (i := 12) rfl))) (mvT hZ (hw _ (List.mem_of_getElem? (i := 13) rfl))) (mvT hZ (hw _ (List.mem_of_getElem? (i := 14) rfl))) (by decide) (backOf (W := 1) (rm2 l Z a0 hw [] g dd h4 n0 Z4 E_g F_first_g F_laterObligations_g F_laterAdvice_g ge_g Xo SD) hZ (hw _ (List.mem_of_getElem? (i := 14) rfl)) (hw _ (List.mem_of_getElem? (i := 11) rfl)) (by decide) (by decide)) (g := (mkF m 31 #[.val (.int i0), .val (.int i1), .val (.int (0 : Int32)), .val (.ref r0), .val (.ref r1), .val (.ref r2), .unset, .unset] [(.ref g), (.ref g)])) rfl (by rw [hml]; rfl) (Steps.refl _) (a := g) (argsL := []) (rest := [(.ref g)]) (lenOf own_pd1 rfl) rfl (by show 2 * 0 + _ ≤ _; exact Nat.le_of_eq rfl) (hb hby at_31) (fun _ _ => ⟨rfl, e4, (by decide : 1 + 2 ≤ _), (by decide : 3 + 6 ≤ _)⟩)
    dsimp only [Pt.U, Pt.locs, Pt.cells, Pt.slots] at X5 l5 y5 z5 st5 hQ5
    subst l5 y5 z5
    obtain ⟨b1, b2, rfl, Nq5, Kq5, s1, s2, ne_b1_b2, Eg5, Fg1, Fg2, Fg3, E_b1, F_m_b1, E_b2, F_m_b2⟩ := hQ5
    have ltg := E_g.lt
    have ge_b1 : n0 ≤ b1 := Nat.le_trans Z4 s1
    have ge_b2 : n0 ≤ b2 := Nat.le_trans Z4 s2
    have ne_g_b1 : g ≠ b1 := Nat.ne_of_lt (Nat.lt_of_lt_of_le ltg s1)
    have ne_g_b2 : g ≠ b2 := Nat.ne_of_lt (Nat.lt_of_lt_of_le ltg s2)
    have Xo := Xo.keep Kq5 (allS ge_g all0)
    have E_g := E_g.keep Kq5
    have Z5 : n0 ≤ T5.heap.size := Nat.le_trans Z4 Kq5.1
    have N5 := Fr.app N3 Nq5
    have F_first_g := Fg1
    have F_laterObligations_g := Fg2
    have F_laterAdvice_g := Fg3
    refine own_tr (W1 := T5.setTop (mkF m 34 #[.val (.int i0), .val (.int i1), .val (.int (0 : Int32)), .val (.ref r0), .val (.ref r1), .val (.ref r2), .unset, .unset] [(.ref g)])) st5 ?_
    refine own_go (W1 := T5.setTop (mkF m 36 #[.val (.int i0), .val (.int i1), .val (.int (0 : Int32)), .val (.ref r0), .val (.ref r1), .val (.ref r2), .val (.ref g), .unset] [])) (fun t k => XS.astore X5.here hx rfl (hb hby at_34) rfl rfl (l' := #[.val (.int i0), .val (.int i1), .val (.int (0 : Int32)), .val (.ref r0), .val (.ref r1), .val (.ref r2), .val (.ref g), .unset]) rfl k) ?_
    refine own_go (W1 := T5.setTop (mkF m 38 #[.val (.int i0), .val (.int i1), .val (.int (0 : Int32)), .val (.ref r0), .val (.ref r1), .val (.ref r2), .val (.ref g), .unset] [(.ref g)])) (fun t k => XS.aload X5.here hx rfl (hb hby at_36) rfl rfl  k) ?_
    obtain ⟨cq6, kq6, q6a, q6b, q6c⟩ := isOf hZ (rfl : T5.heap = T5.heap) E_g
    obtain ⟨_, _, ⟨T6, L6, k6, n6⟩, -, X6, ⟨Lc6, hQ6, l6, y6, z6⟩, st6⟩ := X5.virtualBack hx (y := (⟨"com/example/cerb3rus/cerb3rus/combining/Gathered", "isEmpty", "()Z"⟩ : MethodName)) (z := (⟨"com/example/cerb3rus/cerb3rus/combining/Gathered", "isEmpty", "()Z"⟩ : MethodName)) hown (mvT hZ (hw _ (List.mem_of_getElem? (i := 46) rfl))) (mvT hZ (hw _ (List.mem_of_getElem? (i := 47) rfl))) (notFace_of_selects (args := #[]) (mvT hZ (hw _ (List.mem_of_getElem? (i := 49) rfl)))) (mvT hZ (hw _ (List.mem_of_getElem? (i := 49) rfl))) (mvT hZ (hw _ (List.mem_of_getElem? (i := 48) rfl))) (by decide) (backOf (W := 0) (rmE1 l Z a0 hw [] g T5.heap n0 Z5 F_first_g) hZ (hw _ (List.mem_of_getElem? (i := 50) rfl)) (hw _ (List.mem_of_getElem? (i := 11) rfl)) (by decide) (by decide)) q6a q6c (g := (mkF m 38 #[.val (.int i0), .val (.int i1), .val (.int (0 : Int32)), .val (.ref r0), .val (.ref r1), .val (.ref r2), .val (.ref g), .unset] [(.ref g)])) rfl (by rw [hml]; rfl) (Steps.refl _) (argsL := []) (rest := []) (lenOf own_pd2 rfl) rfl (by show 2 * 0 + _ ≤ _; exact Nat.le_of_eq rfl) (hb hby at_38) (fun _ _ => ⟨rfl, (rfl : T5.heap = T5.heap), (by decide : 3 + 0 ≤ _), (by decide : 9 + 0 ≤ _)⟩)
    dsimp only [Pt.U, Pt.locs, Pt.cells, Pt.slots] at X6 l6 y6 z6 st6 hQ6
    subst l6 y6 z6
    obtain ⟨rfl, Nq6, eh6⟩ := hQ6
    have N6 := Fr.app N5 Nq6
    refine own_tr (W1 := T6.setTop (mkF m 41 #[.val (.int i0), .val (.int i1), .val (.int (0 : Int32)), .val (.ref r0), .val (.ref r1), .val (.ref r2), .val (.ref g), .unset] [(.int (1 : Int32))])) st6 ?_
    refine own_go (W1 := T6.setTop (mkF m 43 #[.val (.int i0), .val (.int i1), .val (.int (0 : Int32)), .val (.ref r0), .val (.ref r1), .val (.ref r2), .val (.ref g), .val (.int (1 : Int32))] [])) (fun t k => XS.istore X6.here hx rfl (hb hby at_41) rfl (l' := #[.val (.int i0), .val (.int i1), .val (.int (0 : Int32)), .val (.ref r0), .val (.ref r1), .val (.ref r2), .val (.ref g), .val (.int (1 : Int32))]) rfl k) ?_
    refine own_go (W1 := T6.setTop (mkF m 44 #[.val (.int i0), .val (.int i1), .val (.int (0 : Int32)), .val (.ref r0), .val (.ref r1), .val (.ref r2), .val (.ref g), .val (.int (1 : Int32))] [(.int (0 : Int32))])) (fun t k => XS.iloadN X6.here hx rfl (hb hby at_43) rfl  k) ?_
    refine own_go (W1 := T6.setTop (mkF m 45 #[.val (.int i0), .val (.int i1), .val (.int (0 : Int32)), .val (.ref r0), .val (.ref r1), .val (.ref r2), .val (.ref g), .val (.int (1 : Int32))] [(.int (1 : Int32)), (.int (0 : Int32))])) (fun t k => XS.iconst X6.here hx rfl (hb hby at_44) k) ?_
    refine own_go (W1 := T6.setTop (mkF m 74 #[.val (.int i0), .val (.int i1), .val (.int (0 : Int32)), .val (.ref r0), .val (.ref r1), .val (.ref r2), .val (.ref g), .val (.int (1 : Int32))] [])) (fun t k => XS.icmpYes X6.here hx rfl (pc0 := 45) (pc' := 74) rfl (hb hby at_45) rfl (tlt (show (0 : Int32) < (1 : Int32) from (by decide))).1 (by decide) (by decide) k) ?_
    refine own_go (W1 := T6.setTop (mkF m 75 #[.val (.int i0), .val (.int i1), .val (.int (0 : Int32)), .val (.ref r0), .val (.ref r1), .val (.ref r2), .val (.ref g), .val (.int (1 : Int32))] [(.int (0 : Int32))])) (fun t k => XS.iloadN X6.here hx rfl (hb hby at_74) rfl  k) ?_
    refine own_go (W1 := T6.setTop (mkF m 76 #[.val (.int i0), .val (.int i1), .val (.int (0 : Int32)), .val (.ref r0), .val (.ref r1), .val (.ref r2), .val (.ref g), .val (.int (1 : Int32))] [(.int (2 : Int32)), (.int (0 : Int32))])) (fun t k => XS.iconst X6.here hx rfl (hb hby at_75) k) ?_
    refine own_go (W1 := T6.setTop (mkF m 106 #[.val (.int i0), .val (.int i1), .val (.int (0 : Int32)), .val (.ref r0), .val (.ref r1), .val (.ref r2), .val (.ref g), .val (.int (1 : Int32))] [])) (fun t k => XS.icmpYes X6.here hx rfl (pc0 := 76) (pc' := 106) rfl (hb hby at_76) rfl (tlt (show (0 : Int32) < (2 : Int32) from (by decide))).1 (by decide) (by decide) k) ?_
    refine own_go (W1 := T6.setTop (mkF m 107 #[.val (.int i0), .val (.int i1), .val (.int (0 : Int32)), .val (.ref r0), .val (.ref r1), .val (.ref r2), .val (.ref g), .val (.int (1 : Int32))] [(.int (0 : Int32))])) (fun t k => XS.iloadN X6.here hx rfl (hb hby at_106) rfl  k) ?_
    refine own_go (W1 := T6.setTop (mkF m 108 #[.val (.int i0), .val (.int i1), .val (.int (0 : Int32)), .val (.ref r0), .val (.ref r1), .val (.ref r2), .val (.ref g), .val (.int (1 : Int32))] [(.int (3 : Int32)), (.int (0 : Int32))])) (fun t k => XS.iconst X6.here hx rfl (hb hby at_107) k) ?_
    refine own_go (W1 := T6.setTop (mkF m 138 #[.val (.int i0), .val (.int i1), .val (.int (0 : Int32)), .val (.ref r0), .val (.ref r1), .val (.ref r2), .val (.ref g), .val (.int (1 : Int32))] [])) (fun t k => XS.icmpYes X6.here hx rfl (pc0 := 108) (pc' := 138) rfl (hb hby at_108) rfl (tlt (show (0 : Int32) < (3 : Int32) from (by decide))).1 (by decide) (by decide) k) ?_
    refine own_go (W1 := T6.setTop (mkF m 140 #[.val (.int i0), .val (.int i1), .val (.int (0 : Int32)), .val (.ref r0), .val (.ref r1), .val (.ref r2), .val (.ref g), .val (.int (1 : Int32))] [(.int (1 : Int32))])) (fun t k => XS.iload X6.here hx rfl (hb hby at_138) rfl  k) ?_
    refine own_go (W1 := T6.setTop (mkF m 143 #[.val (.int i0), .val (.int i1), .val (.int (0 : Int32)), .val (.ref r0), .val (.ref r1), .val (.ref r2), .val (.ref g), .val (.int (1 : Int32))] [])) (fun t k => XS.ifNo X6.here hx rfl (hb hby at_140) rfl ((if0 _ _).trans (feq (show ¬ ((1 : Int32) = (0 : Int32)) from (by decide))).1) k) ?_
    refine own_go (W1 := T6.setTop (mkF m 145 #[.val (.int i0), .val (.int i1), .val (.int (0 : Int32)), .val (.ref r0), .val (.ref r1), .val (.ref r2), .val (.ref g), .val (.int (1 : Int32))] [(.ref g)])) (fun t k => XS.aload X6.here hx rfl (hb hby at_143) rfl rfl  k) ?_
    obtain ⟨cq7, kq7, q7a, q7b, q7c⟩ := isOf hZ eh6 E_g
    obtain ⟨_, _, ⟨T7, L7, k7, n7⟩, -, X7, ⟨Lc7, hQ7, l7, y7, z7⟩, st7⟩ := X6.virtualBack hx (y := (⟨"com/example/cerb3rus/cerb3rus/combining/Gathered", "isEmpty", "()Z"⟩ : MethodName)) (z := (⟨"com/example/cerb3rus/cerb3rus/combining/Gathered", "isEmpty", "()Z"⟩ : MethodName)) hown (mvT hZ (hw _ (List.mem_of_getElem? (i := 46) rfl))) (mvT hZ (hw _ (List.mem_of_getElem? (i := 47) rfl))) (notFace_of_selects (args := #[]) (mvT hZ (hw _ (List.mem_of_getElem? (i := 49) rfl)))) (mvT hZ (hw _ (List.mem_of_getElem? (i := 49) rfl))) (mvT hZ (hw _ (List.mem_of_getElem? (i := 48) rfl))) (by decide) (backOf (W := 0) (rmE1 l Z a0 hw [] g T5.heap n0 Z5 F_first_g) hZ (hw _ (List.mem_of_getElem? (i := 50) rfl)) (hw _ (List.mem_of_getElem? (i := 11) rfl)) (by decide) (by decide)) q7a q7c (g := (mkF m 145 #[.val (.int i0), .val (.int i1), .val (.int (0 : Int32)), .val (.ref r0), .val (.ref r1), .val (.ref r2), .val (.ref g), .val (.int (1 : Int32))] [(.ref g)])) rfl (by rw [hml]; rfl) (Steps.refl _) (argsL := []) (rest := []) (lenOf own_pd2 rfl) rfl (by show 2 * 0 + _ ≤ _; exact Nat.le_of_eq rfl) (hb hby at_145) (fun _ _ => ⟨rfl, eh6, (by decide : 3 + 0 ≤ _), (by decide : 9 + 0 ≤ _)⟩)
    dsimp only [Pt.U, Pt.locs, Pt.cells, Pt.slots] at X7 l7 y7 z7 st7 hQ7
    subst l7 y7 z7
    obtain ⟨rfl, Nq7, eh7⟩ := hQ7
    have N7 := Fr.app N6 Nq7
    refine own_tr (W1 := T7.setTop (mkF m 148 #[.val (.int i0), .val (.int i1), .val (.int (0 : Int32)), .val (.ref r0), .val (.ref r1), .val (.ref r2), .val (.ref g), .val (.int (1 : Int32))] [(.int (1 : Int32))])) st7 ?_
    refine own_go (W1 := T7.setTop (mkF m 149 #[.val (.int i0), .val (.int i1), .val (.int (0 : Int32)), .val (.ref r0), .val (.ref r1), .val (.ref r2), .val (.ref g), .val (.int (1 : Int32))] [(.int (0 : Int32)), (.int (1 : Int32))])) (fun t k => XS.iloadN X7.here hx rfl (hb hby at_148) rfl  k) ?_
    refine own_go (W1 := T7.setTop (mkF m 152 #[.val (.int i0), .val (.int i1), .val (.int (0 : Int32)), .val (.ref r0), .val (.ref r1), .val (.ref r2), .val (.ref g), .val (.int (1 : Int32))] [(.int (1 : Int32))])) (fun t k => XS.ifNo X7.here hx rfl (hb hby at_149) rfl ((if0 _ _).trans (teq (show (0 : Int32) = (0 : Int32) from (by decide))).2) k) ?_
    refine own_go (W1 := T7.setTop (mkF m 153 #[.val (.int i0), .val (.int i1), .val (.int (0 : Int32)), .val (.ref r0), .val (.ref r1), .val (.ref r2), .val (.ref g), .val (.int (1 : Int32))] [(.int (1 : Int32)), (.int (1 : Int32))])) (fun t k => XS.iconst X7.here hx rfl (hb hby at_152) k) ?_
    refine own_go (W1 := T7.setTop (mkF m 157 #[.val (.int i0), .val (.int i1), .val (.int (0 : Int32)), .val (.ref r0), .val (.ref r1), .val (.ref r2), .val (.ref g), .val (.int (1 : Int32))] [(.int (1 : Int32)), (.int (1 : Int32))])) (fun t k => XS.goto X7.here hx rfl (pc0 := 153) (pc' := 157) rfl (hb hby at_153) (by decide) (by decide) k) ?_
    refine own_go (W1 := T7.setTop (mkF m 160 #[.val (.int i0), .val (.int i1), .val (.int (0 : Int32)), .val (.ref r0), .val (.ref r1), .val (.ref r2), .val (.ref g), .val (.int (1 : Int32))] [])) (fun t k => XS.icmpNo X7.here hx rfl (hb hby at_157) rfl (teq (show (1 : Int32) = (1 : Int32) from (by decide))).2 k) ?_
    refine own_go (W1 := T7.setTop (mkF m 161 #[.val (.int i0), .val (.int i1), .val (.int (0 : Int32)), .val (.ref r0), .val (.ref r1), .val (.ref r2), .val (.ref g), .val (.int (1 : Int32))] [(.int (1 : Int32))])) (fun t k => XS.iconst X7.here hx rfl (hb hby at_160) k) ?_
    refine own_go (W1 := T7.setTop (mkF m 165 #[.val (.int i0), .val (.int i1), .val (.int (0 : Int32)), .val (.ref r0), .val (.ref r1), .val (.ref r2), .val (.ref g), .val (.int (1 : Int32))] [(.int (1 : Int32))])) (fun t k => XS.goto X7.here hx rfl (pc0 := 161) (pc' := 165) rfl (hb hby at_161) (by decide) (by decide) k) ?_
    refine own_go (W1 := T7.setTop (mkF m 167 #[.val (.int i0), .val (.int i1), .val (.int (0 : Int32)), .val (.ref r0), .val (.ref r1), .val (.ref r2), .val (.ref g), .val (.int (1 : Int32))] [])) (fun t k => XS.istore X7.here hx rfl (hb hby at_165) rfl (l' := #[.val (.int i0), .val (.int i1), .val (.int (0 : Int32)), .val (.ref r0), .val (.ref r1), .val (.ref r2), .val (.ref g), .val (.int (1 : Int32))]) rfl k) ?_
    refine own_go (W1 := T7.setTop (mkF m 169 #[.val (.int i0), .val (.int i1), .val (.int (0 : Int32)), .val (.ref r0), .val (.ref r1), .val (.ref r2), .val (.ref g), .val (.int (1 : Int32))] [(.int (1 : Int32))])) (fun t k => XS.iload X7.here hx rfl (hb hby at_167) rfl  k) ?_
    exact own_retN X7 hx (t := .boolean) Bd.returns (by simp) (hb hby at_169) hlk (by decide) (by decide) ⟨rfl, N7⟩
  · rw [show (i0 &&& (3 : Int32)) = (1 : Int32) from hn]
    refine own_go (W1 := s₁.setTop (mkF m 5 #[.val (.int i0), .val (.int i1), .val (.int (1 : Int32)), .unset, .unset, .unset, .unset, .unset] [(.int i1)])) (fun t k => XS.iloadN X0.here hx rfl (hb hby at_4) rfl  k) ?_
    refine own_go (W1 := s₁.setTop (mkF m 6 #[.val (.int i0), .val (.int i1), .val (.int (1 : Int32)), .unset, .unset, .unset, .unset, .unset] [(.int (1 : Int32)), (.int i1)])) (fun t k => XS.iconst X0.here hx rfl (hb hby at_5) k) ?_
    refine own_go (W1 := s₁.setTop (mkF m 7 #[.val (.int i0), .val (.int i1), .val (.int (1 : Int32)), .unset, .unset, .unset, .unset, .unset] [(.int (i1 &&& (1 : Int32)))])) (fun t k => XS.iand X0.here hx rfl (hb hby at_6) rfl k) ?_
    obtain ⟨_, _, ⟨T8, L8, k8, n8⟩, -, X8, ⟨Lc8, hQ8, l8, y8, z8⟩, st8⟩ := Jvm.LawKit.callS X0 hx (y := (⟨"com/example/cerb3rus/cerb3rus/combining/GatheredIsEmptyPinLaw", "pick", "(I)Lcom/example/cerb3rus/cerb3rus/evaluation/Result;"⟩ : MethodName)) hown (mvT hZ (hw _ (List.mem_of_getElem? (i := 0) rfl))) (mvT hZ (hw _ (List.mem_of_getElem? (i := 1) rfl))) (mvT hZ (hw _ (List.mem_of_getElem? (i := 2) rfl))) (mvT hZ (hw _ (List.mem_of_getElem? (i := 3) rfl))) (by decide) (backOf (W := 0) (rm1 l Z a0 hw [] (i1 &&& (1 : Int32)) sP sD h0 n0 Z0 Xo SP SDn) hZ (hw _ (List.mem_of_getElem? (i := 3) rfl)) (hw _ (List.mem_of_getElem? (i := 2) rfl)) (by decide) (by decide)) (g := (mkF m 7 #[.val (.int i0), .val (.int i1), .val (.int (1 : Int32)), .unset, .unset, .unset, .unset, .unset] [(.int (i1 &&& (1 : Int32)))])) rfl (by rw [hml]; rfl) (argsL := [(.int (i1 &&& (1 : Int32)))]) (rest := []) (lenOf own_pd0 rfl) rfl (by show 2 * 0 + _ ≤ _; exact Nat.le_of_eq rfl) (hb hby at_7) (fun _ _ => ⟨rfl, e0, (by decide : 0 + 0 ≤ _), (by decide : 0 + 0 ≤ _)⟩)
    dsimp only [Pt.U, Pt.locs, Pt.cells, Pt.slots] at X8 l8 y8 z8 st8 hQ8
    subst l8 y8 z8
    obtain ⟨r0, rfl, Nq8, eh8, hr0⟩ := hQ8
    have N8 := Fr.app N0 Nq8
    have hr0 : own_Res Z r0 ob := by rcases hr0 with rfl | rfl <;> assumption
    refine own_go (W1 := T8.setTop (mkF m 10 #[.val (.int i0), .val (.int i1), .val (.int (1 : Int32)), .unset, .unset, .unset, .unset, .unset] [(.ref r0)])) st8 ?_
    refine own_go (W1 := T8.setTop (mkF m 11 #[.val (.int i0), .val (.int i1), .val (.int (1 : Int32)), .val (.ref r0), .unset, .unset, .unset, .unset] [])) (fun t k => XS.astoreN X8.here hx rfl (hb hby at_10) rfl rfl (l' := #[.val (.int i0), .val (.int i1), .val (.int (1 : Int32)), .val (.ref r0), .unset, .unset, .unset, .unset]) rfl k) ?_
    refine own_go (W1 := T8.setTop (mkF m 12 #[.val (.int i0), .val (.int i1), .val (.int (1 : Int32)), .val (.ref r0), .unset, .unset, .unset, .unset] [(.int i1)])) (fun t k => XS.iloadN X8.here hx rfl (hb hby at_11) rfl  k) ?_
    refine own_go (W1 := T8.setTop (mkF m 13 #[.val (.int i0), .val (.int i1), .val (.int (1 : Int32)), .val (.ref r0), .unset, .unset, .unset, .unset] [(.int (2 : Int32)), (.int i1)])) (fun t k => XS.iconst X8.here hx rfl (hb hby at_12) k) ?_
    refine own_go (W1 := T8.setTop (mkF m 14 #[.val (.int i0), .val (.int i1), .val (.int (1 : Int32)), .val (.ref r0), .unset, .unset, .unset, .unset] [(.int (i1 &&& (2 : Int32)))])) (fun t k => XS.iand X8.here hx rfl (hb hby at_13) rfl k) ?_
    obtain ⟨_, _, ⟨T9, L9, k9, n9⟩, -, X9, ⟨Lc9, hQ9, l9, y9, z9⟩, st9⟩ := Jvm.LawKit.callS X8 hx (y := (⟨"com/example/cerb3rus/cerb3rus/combining/GatheredIsEmptyPinLaw", "pick", "(I)Lcom/example/cerb3rus/cerb3rus/evaluation/Result;"⟩ : MethodName)) hown (mvT hZ (hw _ (List.mem_of_getElem? (i := 0) rfl))) (mvT hZ (hw _ (List.mem_of_getElem? (i := 1) rfl))) (mvT hZ (hw _ (List.mem_of_getElem? (i := 2) rfl))) (mvT hZ (hw _ (List.mem_of_getElem? (i := 3) rfl))) (by decide) (backOf (W := 0) (rm1 l Z a0 hw [] (i1 &&& (2 : Int32)) sP sD h0 n0 Z0 Xo SP SDn) hZ (hw _ (List.mem_of_getElem? (i := 3) rfl)) (hw _ (List.mem_of_getElem? (i := 2) rfl)) (by decide) (by decide)) (g := (mkF m 14 #[.val (.int i0), .val (.int i1), .val (.int (1 : Int32)), .val (.ref r0), .unset, .unset, .unset, .unset] [(.int (i1 &&& (2 : Int32)))])) rfl (by rw [hml]; rfl) (argsL := [(.int (i1 &&& (2 : Int32)))]) (rest := []) (lenOf own_pd0 rfl) rfl (by show 2 * 0 + _ ≤ _; exact Nat.le_of_eq rfl) (hb hby at_14) (fun _ _ => ⟨rfl, eh8, (by decide : 0 + 0 ≤ _), (by decide : 0 + 0 ≤ _)⟩)
    dsimp only [Pt.U, Pt.locs, Pt.cells, Pt.slots] at X9 l9 y9 z9 st9 hQ9
    subst l9 y9 z9
    obtain ⟨r1, rfl, Nq9, eh9, hr1⟩ := hQ9
    have N9 := Fr.app N8 Nq9
    have hr1 : own_Res Z r1 ob := by rcases hr1 with rfl | rfl <;> assumption
    refine own_go (W1 := T9.setTop (mkF m 17 #[.val (.int i0), .val (.int i1), .val (.int (1 : Int32)), .val (.ref r0), .unset, .unset, .unset, .unset] [(.ref r1)])) st9 ?_
    refine own_go (W1 := T9.setTop (mkF m 19 #[.val (.int i0), .val (.int i1), .val (.int (1 : Int32)), .val (.ref r0), .val (.ref r1), .unset, .unset, .unset] [])) (fun t k => XS.astore X9.here hx rfl (hb hby at_17) rfl rfl (l' := #[.val (.int i0), .val (.int i1), .val (.int (1 : Int32)), .val (.ref r0), .val (.ref r1), .unset, .unset, .unset]) rfl k) ?_
    refine own_go (W1 := T9.setTop (mkF m 20 #[.val (.int i0), .val (.int i1), .val (.int (1 : Int32)), .val (.ref r0), .val (.ref r1), .unset, .unset, .unset] [(.int i1)])) (fun t k => XS.iloadN X9.here hx rfl (hb hby at_19) rfl  k) ?_
    refine own_go (W1 := T9.setTop (mkF m 21 #[.val (.int i0), .val (.int i1), .val (.int (1 : Int32)), .val (.ref r0), .val (.ref r1), .unset, .unset, .unset] [(.int (4 : Int32)), (.int i1)])) (fun t k => XS.iconst X9.here hx rfl (hb hby at_20) k) ?_
    refine own_go (W1 := T9.setTop (mkF m 22 #[.val (.int i0), .val (.int i1), .val (.int (1 : Int32)), .val (.ref r0), .val (.ref r1), .unset, .unset, .unset] [(.int (i1 &&& (4 : Int32)))])) (fun t k => XS.iand X9.here hx rfl (hb hby at_21) rfl k) ?_
    obtain ⟨_, _, ⟨T10, L10, k10, n10⟩, -, X10, ⟨Lc10, hQ10, l10, y10, z10⟩, st10⟩ := Jvm.LawKit.callS X9 hx (y := (⟨"com/example/cerb3rus/cerb3rus/combining/GatheredIsEmptyPinLaw", "pick", "(I)Lcom/example/cerb3rus/cerb3rus/evaluation/Result;"⟩ : MethodName)) hown (mvT hZ (hw _ (List.mem_of_getElem? (i := 0) rfl))) (mvT hZ (hw _ (List.mem_of_getElem? (i := 1) rfl))) (mvT hZ (hw _ (List.mem_of_getElem? (i := 2) rfl))) (mvT hZ (hw _ (List.mem_of_getElem? (i := 3) rfl))) (by decide) (backOf (W := 0) (rm1 l Z a0 hw [] (i1 &&& (4 : Int32)) sP sD h0 n0 Z0 Xo SP SDn) hZ (hw _ (List.mem_of_getElem? (i := 3) rfl)) (hw _ (List.mem_of_getElem? (i := 2) rfl)) (by decide) (by decide)) (g := (mkF m 22 #[.val (.int i0), .val (.int i1), .val (.int (1 : Int32)), .val (.ref r0), .val (.ref r1), .unset, .unset, .unset] [(.int (i1 &&& (4 : Int32)))])) rfl (by rw [hml]; rfl) (argsL := [(.int (i1 &&& (4 : Int32)))]) (rest := []) (lenOf own_pd0 rfl) rfl (by show 2 * 0 + _ ≤ _; exact Nat.le_of_eq rfl) (hb hby at_22) (fun _ _ => ⟨rfl, eh9, (by decide : 0 + 0 ≤ _), (by decide : 0 + 0 ≤ _)⟩)
    dsimp only [Pt.U, Pt.locs, Pt.cells, Pt.slots] at X10 l10 y10 z10 st10 hQ10
    subst l10 y10 z10
    obtain ⟨r2, rfl, Nq10, eh10, hr2⟩ := hQ10
    have N10 := Fr.app N9 Nq10
    have hr2 : own_Res Z r2 ob := by rcases hr2 with rfl | rfl <;> assumption
    refine own_go (W1 := T10.setTop (mkF m 25 #[.val (.int i0), .val (.int i1), .val (.int (1 : Int32)), .val (.ref r0), .val (.ref r1), .unset, .unset, .unset] [(.ref r2)])) st10 ?_
    refine own_go (W1 := T10.setTop (mkF m 27 #[.val (.int i0), .val (.int i1), .val (.int (1 : Int32)), .val (.ref r0), .val (.ref r1), .val (.ref r2), .unset, .unset] [])) (fun t k => XS.astore X10.here hx rfl (hb hby at_25) rfl rfl (l' := #[.val (.int i0), .val (.int i1), .val (.int (1 : Int32)), .val (.ref r0), .val (.ref r1), .val (.ref r2), .unset, .unset]) rfl k) ?_
    obtain ⟨T11, h11, X11, e11, E11, A11, D11, -, st11⟩ := newO X10 hx hZ hown (hw _ (List.mem_of_getElem? (i := 9) rfl)) (hw _ (List.mem_of_getElem? (i := 10) rfl)) (hw _ (List.mem_of_getElem? (i := 11) rfl)) eh10 (g := (mkF m 27 #[.val (.int i0), .val (.int i1), .val (.int (1 : Int32)), .val (.ref r0), .val (.ref r1), .val (.ref r2), .unset, .unset] [])) rfl (hb hby at_27) (by decide) (by decide)
    obtain ⟨g, g11⟩ : ∃ z, z = h0.size := ⟨_, rfl⟩
    have ge_g : n0 ≤ g := Nat.le_trans Z0 (Nat.le_of_eq g11.symm)
    rw [← g11] at A11 D11 st11
    have Xo := Xo.ext E11
    have Z11 : n0 ≤ h11.size := Nat.le_trans Z0 E11.1
    have E_g := A11
    have F_laterObligations_g : Fld Z h11 g "com/example/cerb3rus/cerb3rus/combining/Gathered" "laterObligations" "Ljava/util/List;" .null := D11 (Or.inr (hw _ (List.mem_of_getElem? (i := 43) rfl))) (ty := (.object "java/util/List")) (by decide)
    have F_laterAdvice_g : Fld Z h11 g "com/example/cerb3rus/cerb3rus/combining/Gathered" "laterAdvice" "Ljava/util/List;" .null := D11 (Or.inr (hw _ (List.mem_of_getElem? (i := 45) rfl))) (ty := (.object "java/util/List")) (by decide)
    have F_first_g : Fld Z h11 g "com/example/cerb3rus/cerb3rus/combining/Gathered" "first" "Lcom/example/cerb3rus/cerb3rus/evaluation/Result;" .null := D11 (Or.inl (hw _ (List.mem_of_getElem? (i := 52) rfl))) (ty := (.object "com/example/cerb3rus/cerb3rus/evaluation/Result")) (by decide)
    refine own_go (W1 := T11.setTop (mkF m 30 #[.val (.int i0), .val (.int i1), .val (.int (1 : Int32)), .val (.ref r0), .val (.ref r1), .val (.ref r2), .unset, .unset] [(.ref g)])) (st11) ?_
    refine own_go (W1 := T11.setTop (mkF m 31 #[.val (.int i0), .val (.int i1), .val (.int (1 : Int32)), .val (.ref r0), .val (.ref r1), .val (.ref r2), .unset, .unset] [(.ref g), (.ref g)])) (fun t k => XS.dup X11.here hx rfl (hb hby at_30) rfl rfl k) ?_
    obtain ⟨_, _, ⟨T12, L12, k12, n12⟩, -, X12, ⟨Lc12, hQ12, l12, y12, z12⟩, st12⟩ := X11.specialBack hx (y := (⟨"com/example/cerb3rus/cerb3rus/combining/Gathered", "<init>", "()V"⟩ : MethodName)) rfl hown (mvT hZ (hw _ (List.mem_of_getElem? (i := 12) rfl))) (mvT hZ (hw _ (List.mem_of_getElem? (i := 13) rfl))) (mvT hZ (hw _ (List.mem_of_getElem? (i := 14) rfl))) (by decide) (backOf (W := 1) (rm2 l Z a0 hw [] g dd h11 n0 Z11 E_g F_first_g F_laterObligations_g F_laterAdvice_g ge_g Xo SD) hZ (hw _ (List.mem_of_getElem? (i := 14) rfl)) (hw _ (List.mem_of_getElem? (i := 11) rfl)) (by decide) (by decide)) (g := (mkF m 31 #[.val (.int i0), .val (.int i1), .val (.int (1 : Int32)), .val (.ref r0), .val (.ref r1), .val (.ref r2), .unset, .unset] [(.ref g), (.ref g)])) rfl (by rw [hml]; rfl) (Steps.refl _) (a := g) (argsL := []) (rest := [(.ref g)]) (lenOf own_pd1 rfl) rfl (by show 2 * 0 + _ ≤ _; exact Nat.le_of_eq rfl) (hb hby at_31) (fun _ _ => ⟨rfl, e11, (by decide : 1 + 2 ≤ _), (by decide : 3 + 6 ≤ _)⟩)
    dsimp only [Pt.U, Pt.locs, Pt.cells, Pt.slots] at X12 l12 y12 z12 st12 hQ12
    subst l12 y12 z12
    obtain ⟨b1, b2, rfl, Nq12, Kq12, s1, s2, ne_b1_b2, Eg12, Fg1, Fg2, Fg3, E_b1, F_m_b1, E_b2, F_m_b2⟩ := hQ12
    have ltg := E_g.lt
    have ge_b1 : n0 ≤ b1 := Nat.le_trans Z11 s1
    have ge_b2 : n0 ≤ b2 := Nat.le_trans Z11 s2
    have ne_g_b1 : g ≠ b1 := Nat.ne_of_lt (Nat.lt_of_lt_of_le ltg s1)
    have ne_g_b2 : g ≠ b2 := Nat.ne_of_lt (Nat.lt_of_lt_of_le ltg s2)
    have Xo := Xo.keep Kq12 (allS ge_g all0)
    have E_g := E_g.keep Kq12
    have Z12 : n0 ≤ T12.heap.size := Nat.le_trans Z11 Kq12.1
    have N12 := Fr.app N10 Nq12
    have F_first_g := Fg1
    have F_laterObligations_g := Fg2
    have F_laterAdvice_g := Fg3
    refine own_tr (W1 := T12.setTop (mkF m 34 #[.val (.int i0), .val (.int i1), .val (.int (1 : Int32)), .val (.ref r0), .val (.ref r1), .val (.ref r2), .unset, .unset] [(.ref g)])) st12 ?_
    refine own_go (W1 := T12.setTop (mkF m 36 #[.val (.int i0), .val (.int i1), .val (.int (1 : Int32)), .val (.ref r0), .val (.ref r1), .val (.ref r2), .val (.ref g), .unset] [])) (fun t k => XS.astore X12.here hx rfl (hb hby at_34) rfl rfl (l' := #[.val (.int i0), .val (.int i1), .val (.int (1 : Int32)), .val (.ref r0), .val (.ref r1), .val (.ref r2), .val (.ref g), .unset]) rfl k) ?_
    refine own_go (W1 := T12.setTop (mkF m 38 #[.val (.int i0), .val (.int i1), .val (.int (1 : Int32)), .val (.ref r0), .val (.ref r1), .val (.ref r2), .val (.ref g), .unset] [(.ref g)])) (fun t k => XS.aload X12.here hx rfl (hb hby at_36) rfl rfl  k) ?_
    obtain ⟨cq13, kq13, q13a, q13b, q13c⟩ := isOf hZ (rfl : T12.heap = T12.heap) E_g
    obtain ⟨_, _, ⟨T13, L13, k13, n13⟩, -, X13, ⟨Lc13, hQ13, l13, y13, z13⟩, st13⟩ := X12.virtualBack hx (y := (⟨"com/example/cerb3rus/cerb3rus/combining/Gathered", "isEmpty", "()Z"⟩ : MethodName)) (z := (⟨"com/example/cerb3rus/cerb3rus/combining/Gathered", "isEmpty", "()Z"⟩ : MethodName)) hown (mvT hZ (hw _ (List.mem_of_getElem? (i := 46) rfl))) (mvT hZ (hw _ (List.mem_of_getElem? (i := 47) rfl))) (notFace_of_selects (args := #[]) (mvT hZ (hw _ (List.mem_of_getElem? (i := 49) rfl)))) (mvT hZ (hw _ (List.mem_of_getElem? (i := 49) rfl))) (mvT hZ (hw _ (List.mem_of_getElem? (i := 48) rfl))) (by decide) (backOf (W := 0) (rmE1 l Z a0 hw [] g T12.heap n0 Z12 F_first_g) hZ (hw _ (List.mem_of_getElem? (i := 50) rfl)) (hw _ (List.mem_of_getElem? (i := 11) rfl)) (by decide) (by decide)) q13a q13c (g := (mkF m 38 #[.val (.int i0), .val (.int i1), .val (.int (1 : Int32)), .val (.ref r0), .val (.ref r1), .val (.ref r2), .val (.ref g), .unset] [(.ref g)])) rfl (by rw [hml]; rfl) (Steps.refl _) (argsL := []) (rest := []) (lenOf own_pd2 rfl) rfl (by show 2 * 0 + _ ≤ _; exact Nat.le_of_eq rfl) (hb hby at_38) (fun _ _ => ⟨rfl, (rfl : T12.heap = T12.heap), (by decide : 3 + 0 ≤ _), (by decide : 9 + 0 ≤ _)⟩)
    dsimp only [Pt.U, Pt.locs, Pt.cells, Pt.slots] at X13 l13 y13 z13 st13 hQ13
    subst l13 y13 z13
    obtain ⟨rfl, Nq13, eh13⟩ := hQ13
    have N13 := Fr.app N12 Nq13
    refine own_tr (W1 := T13.setTop (mkF m 41 #[.val (.int i0), .val (.int i1), .val (.int (1 : Int32)), .val (.ref r0), .val (.ref r1), .val (.ref r2), .val (.ref g), .unset] [(.int (1 : Int32))])) st13 ?_
    refine own_go (W1 := T13.setTop (mkF m 43 #[.val (.int i0), .val (.int i1), .val (.int (1 : Int32)), .val (.ref r0), .val (.ref r1), .val (.ref r2), .val (.ref g), .val (.int (1 : Int32))] [])) (fun t k => XS.istore X13.here hx rfl (hb hby at_41) rfl (l' := #[.val (.int i0), .val (.int i1), .val (.int (1 : Int32)), .val (.ref r0), .val (.ref r1), .val (.ref r2), .val (.ref g), .val (.int (1 : Int32))]) rfl k) ?_
    refine own_go (W1 := T13.setTop (mkF m 44 #[.val (.int i0), .val (.int i1), .val (.int (1 : Int32)), .val (.ref r0), .val (.ref r1), .val (.ref r2), .val (.ref g), .val (.int (1 : Int32))] [(.int (1 : Int32))])) (fun t k => XS.iloadN X13.here hx rfl (hb hby at_43) rfl  k) ?_
    refine own_go (W1 := T13.setTop (mkF m 45 #[.val (.int i0), .val (.int i1), .val (.int (1 : Int32)), .val (.ref r0), .val (.ref r1), .val (.ref r2), .val (.ref g), .val (.int (1 : Int32))] [(.int (1 : Int32)), (.int (1 : Int32))])) (fun t k => XS.iconst X13.here hx rfl (hb hby at_44) k) ?_
    refine own_go (W1 := T13.setTop (mkF m 48 #[.val (.int i0), .val (.int i1), .val (.int (1 : Int32)), .val (.ref r0), .val (.ref r1), .val (.ref r2), .val (.ref g), .val (.int (1 : Int32))] [])) (fun t k => XS.icmpNo X13.here hx rfl (hb hby at_45) rfl (flt (show ¬ ((1 : Int32) < (1 : Int32)) from (by decide))).1 k) ?_
    refine own_go (W1 := T13.setTop (mkF m 50 #[.val (.int i0), .val (.int i1), .val (.int (1 : Int32)), .val (.ref r0), .val (.ref r1), .val (.ref r2), .val (.ref g), .val (.int (1 : Int32))] [(.ref g)])) (fun t k => XS.aload X13.here hx rfl (hb hby at_48) rfl rfl  k) ?_
    refine own_go (W1 := T13.setTop (mkF m 51 #[.val (.int i0), .val (.int i1), .val (.int (1 : Int32)), .val (.ref r0), .val (.ref r1), .val (.ref r2), .val (.ref g), .val (.int (1 : Int32))] [(.ref r0), (.ref g)])) (fun t k => XS.aloadN X13.here hx rfl (hb hby at_50) rfl rfl  k) ?_
    obtain ⟨cq14, kq14, q14a, q14b, q14c⟩ := isOf hZ eh13 E_g
    obtain ⟨_, _, ⟨T14, L14, k14, n14⟩, -, X14, ⟨Lc14, hQ14, l14, y14, z14⟩, st14⟩ := X13.virtualBack hx (y := (⟨"com/example/cerb3rus/cerb3rus/combining/Gathered", "add", "(Lcom/example/cerb3rus/cerb3rus/evaluation/Result;)V"⟩ : MethodName)) (z := (⟨"com/example/cerb3rus/cerb3rus/combining/Gathered", "add", "(Lcom/example/cerb3rus/cerb3rus/evaluation/Result;)V"⟩ : MethodName)) hown (mvT hZ (hw _ (List.mem_of_getElem? (i := 53) rfl))) (mvT hZ (hw _ (List.mem_of_getElem? (i := 54) rfl))) (notFace_of_selects (args := #[]) (mvT hZ (hw _ (List.mem_of_getElem? (i := 56) rfl)))) (mvT hZ (hw _ (List.mem_of_getElem? (i := 56) rfl))) (mvT hZ (hw _ (List.mem_of_getElem? (i := 55) rfl))) (by decide) (backOf (W := 0) (rmA0 l Z a0 hw [] g r0 b1 b2 T12.heap n0 Z12 E_g F_first_g F_laterObligations_g F_laterAdvice_g ge_g) hZ (hw _ (List.mem_of_getElem? (i := 57) rfl)) (hw _ (List.mem_of_getElem? (i := 11) rfl)) (by decide) (by decide)) q14a q14c (g := (mkF m 51 #[.val (.int i0), .val (.int i1), .val (.int (1 : Int32)), .val (.ref r0), .val (.ref r1), .val (.ref r2), .val (.ref g), .val (.int (1 : Int32))] [(.ref r0), (.ref g)])) rfl (by rw [hml]; rfl) (Steps.refl _) (argsL := [(.ref r0)]) (rest := []) (lenOf own_pd3 rfl) rfl (by show 2 * 0 + _ ≤ _; exact Nat.le_of_eq rfl) (hb hby at_51) (fun _ _ => ⟨rfl, eh13, (by decide : 3 + 0 ≤ _), (by decide : 9 + 0 ≤ _)⟩)
    dsimp only [Pt.U, Pt.locs, Pt.cells, Pt.slots] at X14 l14 y14 z14 st14 hQ14
    subst l14 y14 z14
    obtain ⟨rfl, Nq14, Kq14, Eg14, Fg1, Fg2, Fg3⟩ := hQ14
    have Xo := Xo.keep Kq14 (allS ge_g all0)
    have E_g := E_g.keep Kq14
    have E_b1 := E_b1.keep Kq14
    have F_m_b1 := F_m_b1.keep Kq14 (ninS (Ne.symm ne_g_b1) nin0)
    have E_b2 := E_b2.keep Kq14
    have F_m_b2 := F_m_b2.keep Kq14 (ninS (Ne.symm ne_g_b2) nin0)
    have Z14 : n0 ≤ T14.heap.size := Nat.le_trans Z12 Kq14.1
    have N14 := Fr.app N13 Nq14
    have F_first_g := Fg1
    have F_laterObligations_g := Fg2
    have F_laterAdvice_g := Fg3
    refine own_tr (W1 := T14.setTop (mkF m 54 #[.val (.int i0), .val (.int i1), .val (.int (1 : Int32)), .val (.ref r0), .val (.ref r1), .val (.ref r2), .val (.ref g), .val (.int (1 : Int32))] [])) st14 ?_
    refine own_go (W1 := T14.setTop (mkF m 56 #[.val (.int i0), .val (.int i1), .val (.int (1 : Int32)), .val (.ref r0), .val (.ref r1), .val (.ref r2), .val (.ref g), .val (.int (1 : Int32))] [(.int (1 : Int32))])) (fun t k => XS.iload X14.here hx rfl (hb hby at_54) rfl  k) ?_
    refine own_go (W1 := T14.setTop (mkF m 59 #[.val (.int i0), .val (.int i1), .val (.int (1 : Int32)), .val (.ref r0), .val (.ref r1), .val (.ref r2), .val (.ref g), .val (.int (1 : Int32))] [])) (fun t k => XS.ifNo X14.here hx rfl (hb hby at_56) rfl ((if0 _ _).trans (feq (show ¬ ((1 : Int32) = (0 : Int32)) from (by decide))).1) k) ?_
    refine own_go (W1 := T14.setTop (mkF m 61 #[.val (.int i0), .val (.int i1), .val (.int (1 : Int32)), .val (.ref r0), .val (.ref r1), .val (.ref r2), .val (.ref g), .val (.int (1 : Int32))] [(.ref g)])) (fun t k => XS.aload X14.here hx rfl (hb hby at_59) rfl rfl  k) ?_
    obtain ⟨cq15, kq15, q15a, q15b, q15c⟩ := isOf hZ (rfl : T14.heap = T14.heap) E_g
    obtain ⟨_, _, ⟨T15, L15, k15, n15⟩, -, X15, ⟨Lc15, hQ15, l15, y15, z15⟩, st15⟩ := X14.virtualBack hx (y := (⟨"com/example/cerb3rus/cerb3rus/combining/Gathered", "isEmpty", "()Z"⟩ : MethodName)) (z := (⟨"com/example/cerb3rus/cerb3rus/combining/Gathered", "isEmpty", "()Z"⟩ : MethodName)) hown (mvT hZ (hw _ (List.mem_of_getElem? (i := 46) rfl))) (mvT hZ (hw _ (List.mem_of_getElem? (i := 47) rfl))) (notFace_of_selects (args := #[]) (mvT hZ (hw _ (List.mem_of_getElem? (i := 49) rfl)))) (mvT hZ (hw _ (List.mem_of_getElem? (i := 49) rfl))) (mvT hZ (hw _ (List.mem_of_getElem? (i := 48) rfl))) (by decide) (backOf (W := 0) (rmE0 l Z a0 hw [] g r0 T14.heap n0 Z14 F_first_g) hZ (hw _ (List.mem_of_getElem? (i := 50) rfl)) (hw _ (List.mem_of_getElem? (i := 11) rfl)) (by decide) (by decide)) q15a q15c (g := (mkF m 61 #[.val (.int i0), .val (.int i1), .val (.int (1 : Int32)), .val (.ref r0), .val (.ref r1), .val (.ref r2), .val (.ref g), .val (.int (1 : Int32))] [(.ref g)])) rfl (by rw [hml]; rfl) (Steps.refl _) (argsL := []) (rest := []) (lenOf own_pd2 rfl) rfl (by show 2 * 0 + _ ≤ _; exact Nat.le_of_eq rfl) (hb hby at_61) (fun _ _ => ⟨rfl, (rfl : T14.heap = T14.heap), (by decide : 3 + 0 ≤ _), (by decide : 9 + 0 ≤ _)⟩)
    dsimp only [Pt.U, Pt.locs, Pt.cells, Pt.slots] at X15 l15 y15 z15 st15 hQ15
    subst l15 y15 z15
    obtain ⟨rfl, Nq15, eh15⟩ := hQ15
    have N15 := Fr.app N14 Nq15
    refine own_tr (W1 := T15.setTop (mkF m 64 #[.val (.int i0), .val (.int i1), .val (.int (1 : Int32)), .val (.ref r0), .val (.ref r1), .val (.ref r2), .val (.ref g), .val (.int (1 : Int32))] [(.int (0 : Int32))])) st15 ?_
    refine own_go (W1 := T15.setTop (mkF m 67 #[.val (.int i0), .val (.int i1), .val (.int (1 : Int32)), .val (.ref r0), .val (.ref r1), .val (.ref r2), .val (.ref g), .val (.int (1 : Int32))] [])) (fun t k => XS.ifNo X15.here hx rfl (hb hby at_64) rfl ((if0 _ _).trans (teq (show (0 : Int32) = (0 : Int32) from (by decide))).2) k) ?_
    refine own_go (W1 := T15.setTop (mkF m 68 #[.val (.int i0), .val (.int i1), .val (.int (1 : Int32)), .val (.ref r0), .val (.ref r1), .val (.ref r2), .val (.ref g), .val (.int (1 : Int32))] [(.int (1 : Int32))])) (fun t k => XS.iconst X15.here hx rfl (hb hby at_67) k) ?_
    refine own_go (W1 := T15.setTop (mkF m 72 #[.val (.int i0), .val (.int i1), .val (.int (1 : Int32)), .val (.ref r0), .val (.ref r1), .val (.ref r2), .val (.ref g), .val (.int (1 : Int32))] [(.int (1 : Int32))])) (fun t k => XS.goto X15.here hx rfl (pc0 := 68) (pc' := 72) rfl (hb hby at_68) (by decide) (by decide) k) ?_
    refine own_go (W1 := T15.setTop (mkF m 74 #[.val (.int i0), .val (.int i1), .val (.int (1 : Int32)), .val (.ref r0), .val (.ref r1), .val (.ref r2), .val (.ref g), .val (.int (1 : Int32))] [])) (fun t k => XS.istore X15.here hx rfl (hb hby at_72) rfl (l' := #[.val (.int i0), .val (.int i1), .val (.int (1 : Int32)), .val (.ref r0), .val (.ref r1), .val (.ref r2), .val (.ref g), .val (.int (1 : Int32))]) rfl k) ?_
    refine own_go (W1 := T15.setTop (mkF m 75 #[.val (.int i0), .val (.int i1), .val (.int (1 : Int32)), .val (.ref r0), .val (.ref r1), .val (.ref r2), .val (.ref g), .val (.int (1 : Int32))] [(.int (1 : Int32))])) (fun t k => XS.iloadN X15.here hx rfl (hb hby at_74) rfl  k) ?_
    refine own_go (W1 := T15.setTop (mkF m 76 #[.val (.int i0), .val (.int i1), .val (.int (1 : Int32)), .val (.ref r0), .val (.ref r1), .val (.ref r2), .val (.ref g), .val (.int (1 : Int32))] [(.int (2 : Int32)), (.int (1 : Int32))])) (fun t k => XS.iconst X15.here hx rfl (hb hby at_75) k) ?_
    refine own_go (W1 := T15.setTop (mkF m 106 #[.val (.int i0), .val (.int i1), .val (.int (1 : Int32)), .val (.ref r0), .val (.ref r1), .val (.ref r2), .val (.ref g), .val (.int (1 : Int32))] [])) (fun t k => XS.icmpYes X15.here hx rfl (pc0 := 76) (pc' := 106) rfl (hb hby at_76) rfl (tlt (show (1 : Int32) < (2 : Int32) from (by decide))).1 (by decide) (by decide) k) ?_
    refine own_go (W1 := T15.setTop (mkF m 107 #[.val (.int i0), .val (.int i1), .val (.int (1 : Int32)), .val (.ref r0), .val (.ref r1), .val (.ref r2), .val (.ref g), .val (.int (1 : Int32))] [(.int (1 : Int32))])) (fun t k => XS.iloadN X15.here hx rfl (hb hby at_106) rfl  k) ?_
    refine own_go (W1 := T15.setTop (mkF m 108 #[.val (.int i0), .val (.int i1), .val (.int (1 : Int32)), .val (.ref r0), .val (.ref r1), .val (.ref r2), .val (.ref g), .val (.int (1 : Int32))] [(.int (3 : Int32)), (.int (1 : Int32))])) (fun t k => XS.iconst X15.here hx rfl (hb hby at_107) k) ?_
    refine own_go (W1 := T15.setTop (mkF m 138 #[.val (.int i0), .val (.int i1), .val (.int (1 : Int32)), .val (.ref r0), .val (.ref r1), .val (.ref r2), .val (.ref g), .val (.int (1 : Int32))] [])) (fun t k => XS.icmpYes X15.here hx rfl (pc0 := 108) (pc' := 138) rfl (hb hby at_108) rfl (tlt (show (1 : Int32) < (3 : Int32) from (by decide))).1 (by decide) (by decide) k) ?_
    refine own_go (W1 := T15.setTop (mkF m 140 #[.val (.int i0), .val (.int i1), .val (.int (1 : Int32)), .val (.ref r0), .val (.ref r1), .val (.ref r2), .val (.ref g), .val (.int (1 : Int32))] [(.int (1 : Int32))])) (fun t k => XS.iload X15.here hx rfl (hb hby at_138) rfl  k) ?_
    refine own_go (W1 := T15.setTop (mkF m 143 #[.val (.int i0), .val (.int i1), .val (.int (1 : Int32)), .val (.ref r0), .val (.ref r1), .val (.ref r2), .val (.ref g), .val (.int (1 : Int32))] [])) (fun t k => XS.ifNo X15.here hx rfl (hb hby at_140) rfl ((if0 _ _).trans (feq (show ¬ ((1 : Int32) = (0 : Int32)) from (by decide))).1) k) ?_
    refine own_go (W1 := T15.setTop (mkF m 145 #[.val (.int i0), .val (.int i1), .val (.int (1 : Int32)), .val (.ref r0), .val (.ref r1), .val (.ref r2), .val (.ref g), .val (.int (1 : Int32))] [(.ref g)])) (fun t k => XS.aload X15.here hx rfl (hb hby at_143) rfl rfl  k) ?_
    obtain ⟨cq16, kq16, q16a, q16b, q16c⟩ := isOf hZ eh15 E_g
    obtain ⟨_, _, ⟨T16, L16, k16, n16⟩, -, X16, ⟨Lc16, hQ16, l16, y16, z16⟩, st16⟩ := X15.virtualBack hx (y := (⟨"com/example/cerb3rus/cerb3rus/combining/Gathered", "isEmpty", "()Z"⟩ : MethodName)) (z := (⟨"com/example/cerb3rus/cerb3rus/combining/Gathered", "isEmpty", "()Z"⟩ : MethodName)) hown (mvT hZ (hw _ (List.mem_of_getElem? (i := 46) rfl))) (mvT hZ (hw _ (List.mem_of_getElem? (i := 47) rfl))) (notFace_of_selects (args := #[]) (mvT hZ (hw _ (List.mem_of_getElem? (i := 49) rfl)))) (mvT hZ (hw _ (List.mem_of_getElem? (i := 49) rfl))) (mvT hZ (hw _ (List.mem_of_getElem? (i := 48) rfl))) (by decide) (backOf (W := 0) (rmE0 l Z a0 hw [] g r0 T14.heap n0 Z14 F_first_g) hZ (hw _ (List.mem_of_getElem? (i := 50) rfl)) (hw _ (List.mem_of_getElem? (i := 11) rfl)) (by decide) (by decide)) q16a q16c (g := (mkF m 145 #[.val (.int i0), .val (.int i1), .val (.int (1 : Int32)), .val (.ref r0), .val (.ref r1), .val (.ref r2), .val (.ref g), .val (.int (1 : Int32))] [(.ref g)])) rfl (by rw [hml]; rfl) (Steps.refl _) (argsL := []) (rest := []) (lenOf own_pd2 rfl) rfl (by show 2 * 0 + _ ≤ _; exact Nat.le_of_eq rfl) (hb hby at_145) (fun _ _ => ⟨rfl, eh15, (by decide : 3 + 0 ≤ _), (by decide : 9 + 0 ≤ _)⟩)
    dsimp only [Pt.U, Pt.locs, Pt.cells, Pt.slots] at X16 l16 y16 z16 st16 hQ16
    subst l16 y16 z16
    obtain ⟨rfl, Nq16, eh16⟩ := hQ16
    have N16 := Fr.app N15 Nq16
    refine own_tr (W1 := T16.setTop (mkF m 148 #[.val (.int i0), .val (.int i1), .val (.int (1 : Int32)), .val (.ref r0), .val (.ref r1), .val (.ref r2), .val (.ref g), .val (.int (1 : Int32))] [(.int (0 : Int32))])) st16 ?_
    refine own_go (W1 := T16.setTop (mkF m 149 #[.val (.int i0), .val (.int i1), .val (.int (1 : Int32)), .val (.ref r0), .val (.ref r1), .val (.ref r2), .val (.ref g), .val (.int (1 : Int32))] [(.int (1 : Int32)), (.int (0 : Int32))])) (fun t k => XS.iloadN X16.here hx rfl (hb hby at_148) rfl  k) ?_
    refine own_go (W1 := T16.setTop (mkF m 156 #[.val (.int i0), .val (.int i1), .val (.int (1 : Int32)), .val (.ref r0), .val (.ref r1), .val (.ref r2), .val (.ref g), .val (.int (1 : Int32))] [(.int (0 : Int32))])) (fun t k => XS.ifYes X16.here hx rfl (pc0 := 149) (pc' := 156) rfl (hb hby at_149) rfl ((if0 _ _).trans (feq (show ¬ ((1 : Int32) = (0 : Int32)) from (by decide))).2) (by decide) (by decide) k) ?_
    refine own_go (W1 := T16.setTop (mkF m 157 #[.val (.int i0), .val (.int i1), .val (.int (1 : Int32)), .val (.ref r0), .val (.ref r1), .val (.ref r2), .val (.ref g), .val (.int (1 : Int32))] [(.int (0 : Int32)), (.int (0 : Int32))])) (fun t k => XS.iconst X16.here hx rfl (hb hby at_156) k) ?_
    refine own_go (W1 := T16.setTop (mkF m 160 #[.val (.int i0), .val (.int i1), .val (.int (1 : Int32)), .val (.ref r0), .val (.ref r1), .val (.ref r2), .val (.ref g), .val (.int (1 : Int32))] [])) (fun t k => XS.icmpNo X16.here hx rfl (hb hby at_157) rfl (teq (show (0 : Int32) = (0 : Int32) from (by decide))).2 k) ?_
    refine own_go (W1 := T16.setTop (mkF m 161 #[.val (.int i0), .val (.int i1), .val (.int (1 : Int32)), .val (.ref r0), .val (.ref r1), .val (.ref r2), .val (.ref g), .val (.int (1 : Int32))] [(.int (1 : Int32))])) (fun t k => XS.iconst X16.here hx rfl (hb hby at_160) k) ?_
    refine own_go (W1 := T16.setTop (mkF m 165 #[.val (.int i0), .val (.int i1), .val (.int (1 : Int32)), .val (.ref r0), .val (.ref r1), .val (.ref r2), .val (.ref g), .val (.int (1 : Int32))] [(.int (1 : Int32))])) (fun t k => XS.goto X16.here hx rfl (pc0 := 161) (pc' := 165) rfl (hb hby at_161) (by decide) (by decide) k) ?_
    refine own_go (W1 := T16.setTop (mkF m 167 #[.val (.int i0), .val (.int i1), .val (.int (1 : Int32)), .val (.ref r0), .val (.ref r1), .val (.ref r2), .val (.ref g), .val (.int (1 : Int32))] [])) (fun t k => XS.istore X16.here hx rfl (hb hby at_165) rfl (l' := #[.val (.int i0), .val (.int i1), .val (.int (1 : Int32)), .val (.ref r0), .val (.ref r1), .val (.ref r2), .val (.ref g), .val (.int (1 : Int32))]) rfl k) ?_
    refine own_go (W1 := T16.setTop (mkF m 169 #[.val (.int i0), .val (.int i1), .val (.int (1 : Int32)), .val (.ref r0), .val (.ref r1), .val (.ref r2), .val (.ref g), .val (.int (1 : Int32))] [(.int (1 : Int32))])) (fun t k => XS.iload X16.here hx rfl (hb hby at_167) rfl  k) ?_
    exact own_retN X16 hx (t := .boolean) Bd.returns (by simp) (hb hby at_169) hlk (by decide) (by decide) ⟨rfl, N16⟩
  · rw [show (i0 &&& (3 : Int32)) = (2 : Int32) from hn]
    refine own_go (W1 := s₁.setTop (mkF m 5 #[.val (.int i0), .val (.int i1), .val (.int (2 : Int32)), .unset, .unset, .unset, .unset, .unset] [(.int i1)])) (fun t k => XS.iloadN X0.here hx rfl (hb hby at_4) rfl  k) ?_
    refine own_go (W1 := s₁.setTop (mkF m 6 #[.val (.int i0), .val (.int i1), .val (.int (2 : Int32)), .unset, .unset, .unset, .unset, .unset] [(.int (1 : Int32)), (.int i1)])) (fun t k => XS.iconst X0.here hx rfl (hb hby at_5) k) ?_
    refine own_go (W1 := s₁.setTop (mkF m 7 #[.val (.int i0), .val (.int i1), .val (.int (2 : Int32)), .unset, .unset, .unset, .unset, .unset] [(.int (i1 &&& (1 : Int32)))])) (fun t k => XS.iand X0.here hx rfl (hb hby at_6) rfl k) ?_
    obtain ⟨_, _, ⟨T17, L17, k17, n17⟩, -, X17, ⟨Lc17, hQ17, l17, y17, z17⟩, st17⟩ := Jvm.LawKit.callS X0 hx (y := (⟨"com/example/cerb3rus/cerb3rus/combining/GatheredIsEmptyPinLaw", "pick", "(I)Lcom/example/cerb3rus/cerb3rus/evaluation/Result;"⟩ : MethodName)) hown (mvT hZ (hw _ (List.mem_of_getElem? (i := 0) rfl))) (mvT hZ (hw _ (List.mem_of_getElem? (i := 1) rfl))) (mvT hZ (hw _ (List.mem_of_getElem? (i := 2) rfl))) (mvT hZ (hw _ (List.mem_of_getElem? (i := 3) rfl))) (by decide) (backOf (W := 0) (rm1 l Z a0 hw [] (i1 &&& (1 : Int32)) sP sD h0 n0 Z0 Xo SP SDn) hZ (hw _ (List.mem_of_getElem? (i := 3) rfl)) (hw _ (List.mem_of_getElem? (i := 2) rfl)) (by decide) (by decide)) (g := (mkF m 7 #[.val (.int i0), .val (.int i1), .val (.int (2 : Int32)), .unset, .unset, .unset, .unset, .unset] [(.int (i1 &&& (1 : Int32)))])) rfl (by rw [hml]; rfl) (argsL := [(.int (i1 &&& (1 : Int32)))]) (rest := []) (lenOf own_pd0 rfl) rfl (by show 2 * 0 + _ ≤ _; exact Nat.le_of_eq rfl) (hb hby at_7) (fun _ _ => ⟨rfl, e0, (by decide : 0 + 0 ≤ _), (by decide : 0 + 0 ≤ _)⟩)
    dsimp only [Pt.U, Pt.locs, Pt.cells, Pt.slots] at X17 l17 y17 z17 st17 hQ17
    subst l17 y17 z17
    obtain ⟨r0, rfl, Nq17, eh17, hr0⟩ := hQ17
    have N17 := Fr.app N0 Nq17
    have hr0 : own_Res Z r0 ob := by rcases hr0 with rfl | rfl <;> assumption
    refine own_go (W1 := T17.setTop (mkF m 10 #[.val (.int i0), .val (.int i1), .val (.int (2 : Int32)), .unset, .unset, .unset, .unset, .unset] [(.ref r0)])) st17 ?_
    refine own_go (W1 := T17.setTop (mkF m 11 #[.val (.int i0), .val (.int i1), .val (.int (2 : Int32)), .val (.ref r0), .unset, .unset, .unset, .unset] [])) (fun t k => XS.astoreN X17.here hx rfl (hb hby at_10) rfl rfl (l' := #[.val (.int i0), .val (.int i1), .val (.int (2 : Int32)), .val (.ref r0), .unset, .unset, .unset, .unset]) rfl k) ?_
    refine own_go (W1 := T17.setTop (mkF m 12 #[.val (.int i0), .val (.int i1), .val (.int (2 : Int32)), .val (.ref r0), .unset, .unset, .unset, .unset] [(.int i1)])) (fun t k => XS.iloadN X17.here hx rfl (hb hby at_11) rfl  k) ?_
    refine own_go (W1 := T17.setTop (mkF m 13 #[.val (.int i0), .val (.int i1), .val (.int (2 : Int32)), .val (.ref r0), .unset, .unset, .unset, .unset] [(.int (2 : Int32)), (.int i1)])) (fun t k => XS.iconst X17.here hx rfl (hb hby at_12) k) ?_
    refine own_go (W1 := T17.setTop (mkF m 14 #[.val (.int i0), .val (.int i1), .val (.int (2 : Int32)), .val (.ref r0), .unset, .unset, .unset, .unset] [(.int (i1 &&& (2 : Int32)))])) (fun t k => XS.iand X17.here hx rfl (hb hby at_13) rfl k) ?_
    obtain ⟨_, _, ⟨T18, L18, k18, n18⟩, -, X18, ⟨Lc18, hQ18, l18, y18, z18⟩, st18⟩ := Jvm.LawKit.callS X17 hx (y := (⟨"com/example/cerb3rus/cerb3rus/combining/GatheredIsEmptyPinLaw", "pick", "(I)Lcom/example/cerb3rus/cerb3rus/evaluation/Result;"⟩ : MethodName)) hown (mvT hZ (hw _ (List.mem_of_getElem? (i := 0) rfl))) (mvT hZ (hw _ (List.mem_of_getElem? (i := 1) rfl))) (mvT hZ (hw _ (List.mem_of_getElem? (i := 2) rfl))) (mvT hZ (hw _ (List.mem_of_getElem? (i := 3) rfl))) (by decide) (backOf (W := 0) (rm1 l Z a0 hw [] (i1 &&& (2 : Int32)) sP sD h0 n0 Z0 Xo SP SDn) hZ (hw _ (List.mem_of_getElem? (i := 3) rfl)) (hw _ (List.mem_of_getElem? (i := 2) rfl)) (by decide) (by decide)) (g := (mkF m 14 #[.val (.int i0), .val (.int i1), .val (.int (2 : Int32)), .val (.ref r0), .unset, .unset, .unset, .unset] [(.int (i1 &&& (2 : Int32)))])) rfl (by rw [hml]; rfl) (argsL := [(.int (i1 &&& (2 : Int32)))]) (rest := []) (lenOf own_pd0 rfl) rfl (by show 2 * 0 + _ ≤ _; exact Nat.le_of_eq rfl) (hb hby at_14) (fun _ _ => ⟨rfl, eh17, (by decide : 0 + 0 ≤ _), (by decide : 0 + 0 ≤ _)⟩)
    dsimp only [Pt.U, Pt.locs, Pt.cells, Pt.slots] at X18 l18 y18 z18 st18 hQ18
    subst l18 y18 z18
    obtain ⟨r1, rfl, Nq18, eh18, hr1⟩ := hQ18
    have N18 := Fr.app N17 Nq18
    have hr1 : own_Res Z r1 ob := by rcases hr1 with rfl | rfl <;> assumption
    refine own_go (W1 := T18.setTop (mkF m 17 #[.val (.int i0), .val (.int i1), .val (.int (2 : Int32)), .val (.ref r0), .unset, .unset, .unset, .unset] [(.ref r1)])) st18 ?_
    refine own_go (W1 := T18.setTop (mkF m 19 #[.val (.int i0), .val (.int i1), .val (.int (2 : Int32)), .val (.ref r0), .val (.ref r1), .unset, .unset, .unset] [])) (fun t k => XS.astore X18.here hx rfl (hb hby at_17) rfl rfl (l' := #[.val (.int i0), .val (.int i1), .val (.int (2 : Int32)), .val (.ref r0), .val (.ref r1), .unset, .unset, .unset]) rfl k) ?_
    refine own_go (W1 := T18.setTop (mkF m 20 #[.val (.int i0), .val (.int i1), .val (.int (2 : Int32)), .val (.ref r0), .val (.ref r1), .unset, .unset, .unset] [(.int i1)])) (fun t k => XS.iloadN X18.here hx rfl (hb hby at_19) rfl  k) ?_
    refine own_go (W1 := T18.setTop (mkF m 21 #[.val (.int i0), .val (.int i1), .val (.int (2 : Int32)), .val (.ref r0), .val (.ref r1), .unset, .unset, .unset] [(.int (4 : Int32)), (.int i1)])) (fun t k => XS.iconst X18.here hx rfl (hb hby at_20) k) ?_
    refine own_go (W1 := T18.setTop (mkF m 22 #[.val (.int i0), .val (.int i1), .val (.int (2 : Int32)), .val (.ref r0), .val (.ref r1), .unset, .unset, .unset] [(.int (i1 &&& (4 : Int32)))])) (fun t k => XS.iand X18.here hx rfl (hb hby at_21) rfl k) ?_
    obtain ⟨_, _, ⟨T19, L19, k19, n19⟩, -, X19, ⟨Lc19, hQ19, l19, y19, z19⟩, st19⟩ := Jvm.LawKit.callS X18 hx (y := (⟨"com/example/cerb3rus/cerb3rus/combining/GatheredIsEmptyPinLaw", "pick", "(I)Lcom/example/cerb3rus/cerb3rus/evaluation/Result;"⟩ : MethodName)) hown (mvT hZ (hw _ (List.mem_of_getElem? (i := 0) rfl))) (mvT hZ (hw _ (List.mem_of_getElem? (i := 1) rfl))) (mvT hZ (hw _ (List.mem_of_getElem? (i := 2) rfl))) (mvT hZ (hw _ (List.mem_of_getElem? (i := 3) rfl))) (by decide) (backOf (W := 0) (rm1 l Z a0 hw [] (i1 &&& (4 : Int32)) sP sD h0 n0 Z0 Xo SP SDn) hZ (hw _ (List.mem_of_getElem? (i := 3) rfl)) (hw _ (List.mem_of_getElem? (i := 2) rfl)) (by decide) (by decide)) (g := (mkF m 22 #[.val (.int i0), .val (.int i1), .val (.int (2 : Int32)), .val (.ref r0), .val (.ref r1), .unset, .unset, .unset] [(.int (i1 &&& (4 : Int32)))])) rfl (by rw [hml]; rfl) (argsL := [(.int (i1 &&& (4 : Int32)))]) (rest := []) (lenOf own_pd0 rfl) rfl (by show 2 * 0 + _ ≤ _; exact Nat.le_of_eq rfl) (hb hby at_22) (fun _ _ => ⟨rfl, eh18, (by decide : 0 + 0 ≤ _), (by decide : 0 + 0 ≤ _)⟩)
    dsimp only [Pt.U, Pt.locs, Pt.cells, Pt.slots] at X19 l19 y19 z19 st19 hQ19
    subst l19 y19 z19
    obtain ⟨r2, rfl, Nq19, eh19, hr2⟩ := hQ19
    have N19 := Fr.app N18 Nq19
    have hr2 : own_Res Z r2 ob := by rcases hr2 with rfl | rfl <;> assumption
    refine own_go (W1 := T19.setTop (mkF m 25 #[.val (.int i0), .val (.int i1), .val (.int (2 : Int32)), .val (.ref r0), .val (.ref r1), .unset, .unset, .unset] [(.ref r2)])) st19 ?_
    refine own_go (W1 := T19.setTop (mkF m 27 #[.val (.int i0), .val (.int i1), .val (.int (2 : Int32)), .val (.ref r0), .val (.ref r1), .val (.ref r2), .unset, .unset] [])) (fun t k => XS.astore X19.here hx rfl (hb hby at_25) rfl rfl (l' := #[.val (.int i0), .val (.int i1), .val (.int (2 : Int32)), .val (.ref r0), .val (.ref r1), .val (.ref r2), .unset, .unset]) rfl k) ?_
    obtain ⟨T20, h20, X20, e20, E20, A20, D20, -, st20⟩ := newO X19 hx hZ hown (hw _ (List.mem_of_getElem? (i := 9) rfl)) (hw _ (List.mem_of_getElem? (i := 10) rfl)) (hw _ (List.mem_of_getElem? (i := 11) rfl)) eh19 (g := (mkF m 27 #[.val (.int i0), .val (.int i1), .val (.int (2 : Int32)), .val (.ref r0), .val (.ref r1), .val (.ref r2), .unset, .unset] [])) rfl (hb hby at_27) (by decide) (by decide)
    obtain ⟨g, g20⟩ : ∃ z, z = h0.size := ⟨_, rfl⟩
    have ge_g : n0 ≤ g := Nat.le_trans Z0 (Nat.le_of_eq g20.symm)
    rw [← g20] at A20 D20 st20
    have Xo := Xo.ext E20
    have Z20 : n0 ≤ h20.size := Nat.le_trans Z0 E20.1
    have E_g := A20
    have F_laterObligations_g : Fld Z h20 g "com/example/cerb3rus/cerb3rus/combining/Gathered" "laterObligations" "Ljava/util/List;" .null := D20 (Or.inr (hw _ (List.mem_of_getElem? (i := 43) rfl))) (ty := (.object "java/util/List")) (by decide)
    have F_laterAdvice_g : Fld Z h20 g "com/example/cerb3rus/cerb3rus/combining/Gathered" "laterAdvice" "Ljava/util/List;" .null := D20 (Or.inr (hw _ (List.mem_of_getElem? (i := 45) rfl))) (ty := (.object "java/util/List")) (by decide)
    have F_first_g : Fld Z h20 g "com/example/cerb3rus/cerb3rus/combining/Gathered" "first" "Lcom/example/cerb3rus/cerb3rus/evaluation/Result;" .null := D20 (Or.inl (hw _ (List.mem_of_getElem? (i := 52) rfl))) (ty := (.object "com/example/cerb3rus/cerb3rus/evaluation/Result")) (by decide)
    refine own_go (W1 := T20.setTop (mkF m 30 #[.val (.int i0), .val (.int i1), .val (.int (2 : Int32)), .val (.ref r0), .val (.ref r1), .val (.ref r2), .unset, .unset] [(.ref g)])) (st20) ?_
    refine own_go (W1 := T20.setTop (mkF m 31 #[.val (.int i0), .val (.int i1), .val (.int (2 : Int32)), .val (.ref r0), .val (.ref r1), .val (.ref r2), .unset, .unset] [(.ref g), (.ref g)])) (fun t k => XS.dup X20.here hx rfl (hb hby at_30) rfl rfl k) ?_
    obtain ⟨_, _, ⟨T21, L21, k21, n21⟩, -, X21, ⟨Lc21, hQ21, l21, y21, z21⟩, st21⟩ := X20.specialBack hx (y := (⟨"com/example/cerb3rus/cerb3rus/combining/Gathered", "<init>", "()V"⟩ : MethodName)) rfl hown (mvT hZ (hw _ (List.mem_of_getElem? (i := 12) rfl))) (mvT hZ (hw _ (List.mem_of_getElem? (i := 13) rfl))) (mvT hZ (hw _ (List.mem_of_getElem? (i := 14) rfl))) (by decide) (backOf (W := 1) (rm2 l Z a0 hw [] g dd h20 n0 Z20 E_g F_first_g F_laterObligations_g F_laterAdvice_g ge_g Xo SD) hZ (hw _ (List.mem_of_getElem? (i := 14) rfl)) (hw _ (List.mem_of_getElem? (i := 11) rfl)) (by decide) (by decide)) (g := (mkF m 31 #[.val (.int i0), .val (.int i1), .val (.int (2 : Int32)), .val (.ref r0), .val (.ref r1), .val (.ref r2), .unset, .unset] [(.ref g), (.ref g)])) rfl (by rw [hml]; rfl) (Steps.refl _) (a := g) (argsL := []) (rest := [(.ref g)]) (lenOf own_pd1 rfl) rfl (by show 2 * 0 + _ ≤ _; exact Nat.le_of_eq rfl) (hb hby at_31) (fun _ _ => ⟨rfl, e20, (by decide : 1 + 2 ≤ _), (by decide : 3 + 6 ≤ _)⟩)
    dsimp only [Pt.U, Pt.locs, Pt.cells, Pt.slots] at X21 l21 y21 z21 st21 hQ21
    subst l21 y21 z21
    obtain ⟨b1, b2, rfl, Nq21, Kq21, s1, s2, ne_b1_b2, Eg21, Fg1, Fg2, Fg3, E_b1, F_m_b1, E_b2, F_m_b2⟩ := hQ21
    have ltg := E_g.lt
    have ge_b1 : n0 ≤ b1 := Nat.le_trans Z20 s1
    have ge_b2 : n0 ≤ b2 := Nat.le_trans Z20 s2
    have ne_g_b1 : g ≠ b1 := Nat.ne_of_lt (Nat.lt_of_lt_of_le ltg s1)
    have ne_g_b2 : g ≠ b2 := Nat.ne_of_lt (Nat.lt_of_lt_of_le ltg s2)
    have Xo := Xo.keep Kq21 (allS ge_g all0)
    have E_g := E_g.keep Kq21
    have Z21 : n0 ≤ T21.heap.size := Nat.le_trans Z20 Kq21.1
    have N21 := Fr.app N19 Nq21
    have F_first_g := Fg1
    have F_laterObligations_g := Fg2
    have F_laterAdvice_g := Fg3
    refine own_tr (W1 := T21.setTop (mkF m 34 #[.val (.int i0), .val (.int i1), .val (.int (2 : Int32)), .val (.ref r0), .val (.ref r1), .val (.ref r2), .unset, .unset] [(.ref g)])) st21 ?_
    refine own_go (W1 := T21.setTop (mkF m 36 #[.val (.int i0), .val (.int i1), .val (.int (2 : Int32)), .val (.ref r0), .val (.ref r1), .val (.ref r2), .val (.ref g), .unset] [])) (fun t k => XS.astore X21.here hx rfl (hb hby at_34) rfl rfl (l' := #[.val (.int i0), .val (.int i1), .val (.int (2 : Int32)), .val (.ref r0), .val (.ref r1), .val (.ref r2), .val (.ref g), .unset]) rfl k) ?_
    refine own_go (W1 := T21.setTop (mkF m 38 #[.val (.int i0), .val (.int i1), .val (.int (2 : Int32)), .val (.ref r0), .val (.ref r1), .val (.ref r2), .val (.ref g), .unset] [(.ref g)])) (fun t k => XS.aload X21.here hx rfl (hb hby at_36) rfl rfl  k) ?_
    obtain ⟨cq22, kq22, q22a, q22b, q22c⟩ := isOf hZ (rfl : T21.heap = T21.heap) E_g
    obtain ⟨_, _, ⟨T22, L22, k22, n22⟩, -, X22, ⟨Lc22, hQ22, l22, y22, z22⟩, st22⟩ := X21.virtualBack hx (y := (⟨"com/example/cerb3rus/cerb3rus/combining/Gathered", "isEmpty", "()Z"⟩ : MethodName)) (z := (⟨"com/example/cerb3rus/cerb3rus/combining/Gathered", "isEmpty", "()Z"⟩ : MethodName)) hown (mvT hZ (hw _ (List.mem_of_getElem? (i := 46) rfl))) (mvT hZ (hw _ (List.mem_of_getElem? (i := 47) rfl))) (notFace_of_selects (args := #[]) (mvT hZ (hw _ (List.mem_of_getElem? (i := 49) rfl)))) (mvT hZ (hw _ (List.mem_of_getElem? (i := 49) rfl))) (mvT hZ (hw _ (List.mem_of_getElem? (i := 48) rfl))) (by decide) (backOf (W := 0) (rmE1 l Z a0 hw [] g T21.heap n0 Z21 F_first_g) hZ (hw _ (List.mem_of_getElem? (i := 50) rfl)) (hw _ (List.mem_of_getElem? (i := 11) rfl)) (by decide) (by decide)) q22a q22c (g := (mkF m 38 #[.val (.int i0), .val (.int i1), .val (.int (2 : Int32)), .val (.ref r0), .val (.ref r1), .val (.ref r2), .val (.ref g), .unset] [(.ref g)])) rfl (by rw [hml]; rfl) (Steps.refl _) (argsL := []) (rest := []) (lenOf own_pd2 rfl) rfl (by show 2 * 0 + _ ≤ _; exact Nat.le_of_eq rfl) (hb hby at_38) (fun _ _ => ⟨rfl, (rfl : T21.heap = T21.heap), (by decide : 3 + 0 ≤ _), (by decide : 9 + 0 ≤ _)⟩)
    dsimp only [Pt.U, Pt.locs, Pt.cells, Pt.slots] at X22 l22 y22 z22 st22 hQ22
    subst l22 y22 z22
    obtain ⟨rfl, Nq22, eh22⟩ := hQ22
    have N22 := Fr.app N21 Nq22
    refine own_tr (W1 := T22.setTop (mkF m 41 #[.val (.int i0), .val (.int i1), .val (.int (2 : Int32)), .val (.ref r0), .val (.ref r1), .val (.ref r2), .val (.ref g), .unset] [(.int (1 : Int32))])) st22 ?_
    refine own_go (W1 := T22.setTop (mkF m 43 #[.val (.int i0), .val (.int i1), .val (.int (2 : Int32)), .val (.ref r0), .val (.ref r1), .val (.ref r2), .val (.ref g), .val (.int (1 : Int32))] [])) (fun t k => XS.istore X22.here hx rfl (hb hby at_41) rfl (l' := #[.val (.int i0), .val (.int i1), .val (.int (2 : Int32)), .val (.ref r0), .val (.ref r1), .val (.ref r2), .val (.ref g), .val (.int (1 : Int32))]) rfl k) ?_
    refine own_go (W1 := T22.setTop (mkF m 44 #[.val (.int i0), .val (.int i1), .val (.int (2 : Int32)), .val (.ref r0), .val (.ref r1), .val (.ref r2), .val (.ref g), .val (.int (1 : Int32))] [(.int (2 : Int32))])) (fun t k => XS.iloadN X22.here hx rfl (hb hby at_43) rfl  k) ?_
    refine own_go (W1 := T22.setTop (mkF m 45 #[.val (.int i0), .val (.int i1), .val (.int (2 : Int32)), .val (.ref r0), .val (.ref r1), .val (.ref r2), .val (.ref g), .val (.int (1 : Int32))] [(.int (1 : Int32)), (.int (2 : Int32))])) (fun t k => XS.iconst X22.here hx rfl (hb hby at_44) k) ?_
    refine own_go (W1 := T22.setTop (mkF m 48 #[.val (.int i0), .val (.int i1), .val (.int (2 : Int32)), .val (.ref r0), .val (.ref r1), .val (.ref r2), .val (.ref g), .val (.int (1 : Int32))] [])) (fun t k => XS.icmpNo X22.here hx rfl (hb hby at_45) rfl (flt (show ¬ ((2 : Int32) < (1 : Int32)) from (by decide))).1 k) ?_
    refine own_go (W1 := T22.setTop (mkF m 50 #[.val (.int i0), .val (.int i1), .val (.int (2 : Int32)), .val (.ref r0), .val (.ref r1), .val (.ref r2), .val (.ref g), .val (.int (1 : Int32))] [(.ref g)])) (fun t k => XS.aload X22.here hx rfl (hb hby at_48) rfl rfl  k) ?_
    refine own_go (W1 := T22.setTop (mkF m 51 #[.val (.int i0), .val (.int i1), .val (.int (2 : Int32)), .val (.ref r0), .val (.ref r1), .val (.ref r2), .val (.ref g), .val (.int (1 : Int32))] [(.ref r0), (.ref g)])) (fun t k => XS.aloadN X22.here hx rfl (hb hby at_50) rfl rfl  k) ?_
    obtain ⟨cq23, kq23, q23a, q23b, q23c⟩ := isOf hZ eh22 E_g
    obtain ⟨_, _, ⟨T23, L23, k23, n23⟩, -, X23, ⟨Lc23, hQ23, l23, y23, z23⟩, st23⟩ := X22.virtualBack hx (y := (⟨"com/example/cerb3rus/cerb3rus/combining/Gathered", "add", "(Lcom/example/cerb3rus/cerb3rus/evaluation/Result;)V"⟩ : MethodName)) (z := (⟨"com/example/cerb3rus/cerb3rus/combining/Gathered", "add", "(Lcom/example/cerb3rus/cerb3rus/evaluation/Result;)V"⟩ : MethodName)) hown (mvT hZ (hw _ (List.mem_of_getElem? (i := 53) rfl))) (mvT hZ (hw _ (List.mem_of_getElem? (i := 54) rfl))) (notFace_of_selects (args := #[]) (mvT hZ (hw _ (List.mem_of_getElem? (i := 56) rfl)))) (mvT hZ (hw _ (List.mem_of_getElem? (i := 56) rfl))) (mvT hZ (hw _ (List.mem_of_getElem? (i := 55) rfl))) (by decide) (backOf (W := 0) (rmA0 l Z a0 hw [] g r0 b1 b2 T21.heap n0 Z21 E_g F_first_g F_laterObligations_g F_laterAdvice_g ge_g) hZ (hw _ (List.mem_of_getElem? (i := 57) rfl)) (hw _ (List.mem_of_getElem? (i := 11) rfl)) (by decide) (by decide)) q23a q23c (g := (mkF m 51 #[.val (.int i0), .val (.int i1), .val (.int (2 : Int32)), .val (.ref r0), .val (.ref r1), .val (.ref r2), .val (.ref g), .val (.int (1 : Int32))] [(.ref r0), (.ref g)])) rfl (by rw [hml]; rfl) (Steps.refl _) (argsL := [(.ref r0)]) (rest := []) (lenOf own_pd3 rfl) rfl (by show 2 * 0 + _ ≤ _; exact Nat.le_of_eq rfl) (hb hby at_51) (fun _ _ => ⟨rfl, eh22, (by decide : 3 + 0 ≤ _), (by decide : 9 + 0 ≤ _)⟩)
    dsimp only [Pt.U, Pt.locs, Pt.cells, Pt.slots] at X23 l23 y23 z23 st23 hQ23
    subst l23 y23 z23
    obtain ⟨rfl, Nq23, Kq23, Eg23, Fg1, Fg2, Fg3⟩ := hQ23
    have Xo := Xo.keep Kq23 (allS ge_g all0)
    have E_g := E_g.keep Kq23
    have E_b1 := E_b1.keep Kq23
    have F_m_b1 := F_m_b1.keep Kq23 (ninS (Ne.symm ne_g_b1) nin0)
    have E_b2 := E_b2.keep Kq23
    have F_m_b2 := F_m_b2.keep Kq23 (ninS (Ne.symm ne_g_b2) nin0)
    have Z23 : n0 ≤ T23.heap.size := Nat.le_trans Z21 Kq23.1
    have N23 := Fr.app N22 Nq23
    have F_first_g := Fg1
    have F_laterObligations_g := Fg2
    have F_laterAdvice_g := Fg3
    refine own_tr (W1 := T23.setTop (mkF m 54 #[.val (.int i0), .val (.int i1), .val (.int (2 : Int32)), .val (.ref r0), .val (.ref r1), .val (.ref r2), .val (.ref g), .val (.int (1 : Int32))] [])) st23 ?_
    refine own_go (W1 := T23.setTop (mkF m 56 #[.val (.int i0), .val (.int i1), .val (.int (2 : Int32)), .val (.ref r0), .val (.ref r1), .val (.ref r2), .val (.ref g), .val (.int (1 : Int32))] [(.int (1 : Int32))])) (fun t k => XS.iload X23.here hx rfl (hb hby at_54) rfl  k) ?_
    refine own_go (W1 := T23.setTop (mkF m 59 #[.val (.int i0), .val (.int i1), .val (.int (2 : Int32)), .val (.ref r0), .val (.ref r1), .val (.ref r2), .val (.ref g), .val (.int (1 : Int32))] [])) (fun t k => XS.ifNo X23.here hx rfl (hb hby at_56) rfl ((if0 _ _).trans (feq (show ¬ ((1 : Int32) = (0 : Int32)) from (by decide))).1) k) ?_
    refine own_go (W1 := T23.setTop (mkF m 61 #[.val (.int i0), .val (.int i1), .val (.int (2 : Int32)), .val (.ref r0), .val (.ref r1), .val (.ref r2), .val (.ref g), .val (.int (1 : Int32))] [(.ref g)])) (fun t k => XS.aload X23.here hx rfl (hb hby at_59) rfl rfl  k) ?_
    obtain ⟨cq24, kq24, q24a, q24b, q24c⟩ := isOf hZ (rfl : T23.heap = T23.heap) E_g
    obtain ⟨_, _, ⟨T24, L24, k24, n24⟩, -, X24, ⟨Lc24, hQ24, l24, y24, z24⟩, st24⟩ := X23.virtualBack hx (y := (⟨"com/example/cerb3rus/cerb3rus/combining/Gathered", "isEmpty", "()Z"⟩ : MethodName)) (z := (⟨"com/example/cerb3rus/cerb3rus/combining/Gathered", "isEmpty", "()Z"⟩ : MethodName)) hown (mvT hZ (hw _ (List.mem_of_getElem? (i := 46) rfl))) (mvT hZ (hw _ (List.mem_of_getElem? (i := 47) rfl))) (notFace_of_selects (args := #[]) (mvT hZ (hw _ (List.mem_of_getElem? (i := 49) rfl)))) (mvT hZ (hw _ (List.mem_of_getElem? (i := 49) rfl))) (mvT hZ (hw _ (List.mem_of_getElem? (i := 48) rfl))) (by decide) (backOf (W := 0) (rmE0 l Z a0 hw [] g r0 T23.heap n0 Z23 F_first_g) hZ (hw _ (List.mem_of_getElem? (i := 50) rfl)) (hw _ (List.mem_of_getElem? (i := 11) rfl)) (by decide) (by decide)) q24a q24c (g := (mkF m 61 #[.val (.int i0), .val (.int i1), .val (.int (2 : Int32)), .val (.ref r0), .val (.ref r1), .val (.ref r2), .val (.ref g), .val (.int (1 : Int32))] [(.ref g)])) rfl (by rw [hml]; rfl) (Steps.refl _) (argsL := []) (rest := []) (lenOf own_pd2 rfl) rfl (by show 2 * 0 + _ ≤ _; exact Nat.le_of_eq rfl) (hb hby at_61) (fun _ _ => ⟨rfl, (rfl : T23.heap = T23.heap), (by decide : 3 + 0 ≤ _), (by decide : 9 + 0 ≤ _)⟩)
    dsimp only [Pt.U, Pt.locs, Pt.cells, Pt.slots] at X24 l24 y24 z24 st24 hQ24
    subst l24 y24 z24
    obtain ⟨rfl, Nq24, eh24⟩ := hQ24
    have N24 := Fr.app N23 Nq24
    refine own_tr (W1 := T24.setTop (mkF m 64 #[.val (.int i0), .val (.int i1), .val (.int (2 : Int32)), .val (.ref r0), .val (.ref r1), .val (.ref r2), .val (.ref g), .val (.int (1 : Int32))] [(.int (0 : Int32))])) st24 ?_
    refine own_go (W1 := T24.setTop (mkF m 67 #[.val (.int i0), .val (.int i1), .val (.int (2 : Int32)), .val (.ref r0), .val (.ref r1), .val (.ref r2), .val (.ref g), .val (.int (1 : Int32))] [])) (fun t k => XS.ifNo X24.here hx rfl (hb hby at_64) rfl ((if0 _ _).trans (teq (show (0 : Int32) = (0 : Int32) from (by decide))).2) k) ?_
    refine own_go (W1 := T24.setTop (mkF m 68 #[.val (.int i0), .val (.int i1), .val (.int (2 : Int32)), .val (.ref r0), .val (.ref r1), .val (.ref r2), .val (.ref g), .val (.int (1 : Int32))] [(.int (1 : Int32))])) (fun t k => XS.iconst X24.here hx rfl (hb hby at_67) k) ?_
    refine own_go (W1 := T24.setTop (mkF m 72 #[.val (.int i0), .val (.int i1), .val (.int (2 : Int32)), .val (.ref r0), .val (.ref r1), .val (.ref r2), .val (.ref g), .val (.int (1 : Int32))] [(.int (1 : Int32))])) (fun t k => XS.goto X24.here hx rfl (pc0 := 68) (pc' := 72) rfl (hb hby at_68) (by decide) (by decide) k) ?_
    refine own_go (W1 := T24.setTop (mkF m 74 #[.val (.int i0), .val (.int i1), .val (.int (2 : Int32)), .val (.ref r0), .val (.ref r1), .val (.ref r2), .val (.ref g), .val (.int (1 : Int32))] [])) (fun t k => XS.istore X24.here hx rfl (hb hby at_72) rfl (l' := #[.val (.int i0), .val (.int i1), .val (.int (2 : Int32)), .val (.ref r0), .val (.ref r1), .val (.ref r2), .val (.ref g), .val (.int (1 : Int32))]) rfl k) ?_
    refine own_go (W1 := T24.setTop (mkF m 75 #[.val (.int i0), .val (.int i1), .val (.int (2 : Int32)), .val (.ref r0), .val (.ref r1), .val (.ref r2), .val (.ref g), .val (.int (1 : Int32))] [(.int (2 : Int32))])) (fun t k => XS.iloadN X24.here hx rfl (hb hby at_74) rfl  k) ?_
    refine own_go (W1 := T24.setTop (mkF m 76 #[.val (.int i0), .val (.int i1), .val (.int (2 : Int32)), .val (.ref r0), .val (.ref r1), .val (.ref r2), .val (.ref g), .val (.int (1 : Int32))] [(.int (2 : Int32)), (.int (2 : Int32))])) (fun t k => XS.iconst X24.here hx rfl (hb hby at_75) k) ?_
    refine own_go (W1 := T24.setTop (mkF m 79 #[.val (.int i0), .val (.int i1), .val (.int (2 : Int32)), .val (.ref r0), .val (.ref r1), .val (.ref r2), .val (.ref g), .val (.int (1 : Int32))] [])) (fun t k => XS.icmpNo X24.here hx rfl (hb hby at_76) rfl (flt (show ¬ ((2 : Int32) < (2 : Int32)) from (by decide))).1 k) ?_
    refine own_go (W1 := T24.setTop (mkF m 81 #[.val (.int i0), .val (.int i1), .val (.int (2 : Int32)), .val (.ref r0), .val (.ref r1), .val (.ref r2), .val (.ref g), .val (.int (1 : Int32))] [(.ref g)])) (fun t k => XS.aload X24.here hx rfl (hb hby at_79) rfl rfl  k) ?_
    refine own_go (W1 := T24.setTop (mkF m 83 #[.val (.int i0), .val (.int i1), .val (.int (2 : Int32)), .val (.ref r0), .val (.ref r1), .val (.ref r2), .val (.ref g), .val (.int (1 : Int32))] [(.ref r1), (.ref g)])) (fun t k => XS.aload X24.here hx rfl (hb hby at_81) rfl rfl  k) ?_
    obtain ⟨cq25, kq25, q25a, q25b, q25c⟩ := isOf hZ eh24 E_g
    obtain ⟨_, _, ⟨T25, L25, k25, n25⟩, -, X25, ⟨Lc25, hQ25, l25, y25, z25⟩, st25⟩ := X24.virtualBack hx (y := (⟨"com/example/cerb3rus/cerb3rus/combining/Gathered", "add", "(Lcom/example/cerb3rus/cerb3rus/evaluation/Result;)V"⟩ : MethodName)) (z := (⟨"com/example/cerb3rus/cerb3rus/combining/Gathered", "add", "(Lcom/example/cerb3rus/cerb3rus/evaluation/Result;)V"⟩ : MethodName)) hown (mvT hZ (hw _ (List.mem_of_getElem? (i := 53) rfl))) (mvT hZ (hw _ (List.mem_of_getElem? (i := 54) rfl))) (notFace_of_selects (args := #[]) (mvT hZ (hw _ (List.mem_of_getElem? (i := 56) rfl)))) (mvT hZ (hw _ (List.mem_of_getElem? (i := 56) rfl))) (mvT hZ (hw _ (List.mem_of_getElem? (i := 55) rfl))) (by decide) (backOf (W := 0) (rmA1 l Z a0 hw [] g r1 r0 b1 b2 ob u mr ku (0 : Int32) (0 : Int32) T23.heap n0 Z23 F_first_g F_laterObligations_g F_laterAdvice_g E_b1 F_m_b1 E_b2 F_m_b2 ge_b1 ge_b2 ne_g_b1 ne_g_b2 ne_b1_b2 Xo hr1 hl M) hZ (hw _ (List.mem_of_getElem? (i := 57) rfl)) (hw _ (List.mem_of_getElem? (i := 11) rfl)) (by decide) (by decide)) q25a q25c (g := (mkF m 83 #[.val (.int i0), .val (.int i1), .val (.int (2 : Int32)), .val (.ref r0), .val (.ref r1), .val (.ref r2), .val (.ref g), .val (.int (1 : Int32))] [(.ref r1), (.ref g)])) rfl (by rw [hml]; rfl) (Steps.refl _) (argsL := [(.ref r1)]) (rest := []) (lenOf own_pd3 rfl) rfl (by show 2 * 0 + _ ≤ _; exact Nat.le_of_eq rfl) (hb hby at_83) (fun _ _ => ⟨rfl, eh24, (by decide : 3 + 2 ≤ _), (by decide : 9 + 0 ≤ _)⟩)
    dsimp only [Pt.U, Pt.locs, Pt.cells, Pt.slots] at X25 l25 y25 z25 st25 hQ25
    subst l25 y25 z25
    obtain ⟨rfl, Nq25, Kq25, Ex1, Fm1, Ex2, Fm2⟩ := hQ25
    have Xo := Xo.keep Kq25 (allS ge_b1 (allS ge_b2 all0))
    have E_g := E_g.keep Kq25
    have E_b1 := E_b1.keep Kq25
    have E_b2 := E_b2.keep Kq25
    have F_first_g := F_first_g.keep Kq25 (ninS ne_g_b1 (ninS ne_g_b2 nin0))
    have F_laterObligations_g := F_laterObligations_g.keep Kq25 (ninS ne_g_b1 (ninS ne_g_b2 nin0))
    have F_laterAdvice_g := F_laterAdvice_g.keep Kq25 (ninS ne_g_b1 (ninS ne_g_b2 nin0))
    have Z25 : n0 ≤ T25.heap.size := Nat.le_trans Z23 Kq25.1
    have N25 := Fr.app N24 Nq25
    have F_m_b1 := Fm1
    have F_m_b2 := Fm2
    refine own_tr (W1 := T25.setTop (mkF m 86 #[.val (.int i0), .val (.int i1), .val (.int (2 : Int32)), .val (.ref r0), .val (.ref r1), .val (.ref r2), .val (.ref g), .val (.int (1 : Int32))] [])) st25 ?_
    refine own_go (W1 := T25.setTop (mkF m 88 #[.val (.int i0), .val (.int i1), .val (.int (2 : Int32)), .val (.ref r0), .val (.ref r1), .val (.ref r2), .val (.ref g), .val (.int (1 : Int32))] [(.int (1 : Int32))])) (fun t k => XS.iload X25.here hx rfl (hb hby at_86) rfl  k) ?_
    refine own_go (W1 := T25.setTop (mkF m 91 #[.val (.int i0), .val (.int i1), .val (.int (2 : Int32)), .val (.ref r0), .val (.ref r1), .val (.ref r2), .val (.ref g), .val (.int (1 : Int32))] [])) (fun t k => XS.ifNo X25.here hx rfl (hb hby at_88) rfl ((if0 _ _).trans (feq (show ¬ ((1 : Int32) = (0 : Int32)) from (by decide))).1) k) ?_
    refine own_go (W1 := T25.setTop (mkF m 93 #[.val (.int i0), .val (.int i1), .val (.int (2 : Int32)), .val (.ref r0), .val (.ref r1), .val (.ref r2), .val (.ref g), .val (.int (1 : Int32))] [(.ref g)])) (fun t k => XS.aload X25.here hx rfl (hb hby at_91) rfl rfl  k) ?_
    obtain ⟨cq26, kq26, q26a, q26b, q26c⟩ := isOf hZ (rfl : T25.heap = T25.heap) E_g
    obtain ⟨_, _, ⟨T26, L26, k26, n26⟩, -, X26, ⟨Lc26, hQ26, l26, y26, z26⟩, st26⟩ := X25.virtualBack hx (y := (⟨"com/example/cerb3rus/cerb3rus/combining/Gathered", "isEmpty", "()Z"⟩ : MethodName)) (z := (⟨"com/example/cerb3rus/cerb3rus/combining/Gathered", "isEmpty", "()Z"⟩ : MethodName)) hown (mvT hZ (hw _ (List.mem_of_getElem? (i := 46) rfl))) (mvT hZ (hw _ (List.mem_of_getElem? (i := 47) rfl))) (notFace_of_selects (args := #[]) (mvT hZ (hw _ (List.mem_of_getElem? (i := 49) rfl)))) (mvT hZ (hw _ (List.mem_of_getElem? (i := 49) rfl))) (mvT hZ (hw _ (List.mem_of_getElem? (i := 48) rfl))) (by decide) (backOf (W := 0) (rmE0 l Z a0 hw [] g r0 T25.heap n0 Z25 F_first_g) hZ (hw _ (List.mem_of_getElem? (i := 50) rfl)) (hw _ (List.mem_of_getElem? (i := 11) rfl)) (by decide) (by decide)) q26a q26c (g := (mkF m 93 #[.val (.int i0), .val (.int i1), .val (.int (2 : Int32)), .val (.ref r0), .val (.ref r1), .val (.ref r2), .val (.ref g), .val (.int (1 : Int32))] [(.ref g)])) rfl (by rw [hml]; rfl) (Steps.refl _) (argsL := []) (rest := []) (lenOf own_pd2 rfl) rfl (by show 2 * 0 + _ ≤ _; exact Nat.le_of_eq rfl) (hb hby at_93) (fun _ _ => ⟨rfl, (rfl : T25.heap = T25.heap), (by decide : 5 + 0 ≤ _), (by decide : 9 + 0 ≤ _)⟩)
    dsimp only [Pt.U, Pt.locs, Pt.cells, Pt.slots] at X26 l26 y26 z26 st26 hQ26
    subst l26 y26 z26
    obtain ⟨rfl, Nq26, eh26⟩ := hQ26
    have N26 := Fr.app N25 Nq26
    refine own_tr (W1 := T26.setTop (mkF m 96 #[.val (.int i0), .val (.int i1), .val (.int (2 : Int32)), .val (.ref r0), .val (.ref r1), .val (.ref r2), .val (.ref g), .val (.int (1 : Int32))] [(.int (0 : Int32))])) st26 ?_
    refine own_go (W1 := T26.setTop (mkF m 99 #[.val (.int i0), .val (.int i1), .val (.int (2 : Int32)), .val (.ref r0), .val (.ref r1), .val (.ref r2), .val (.ref g), .val (.int (1 : Int32))] [])) (fun t k => XS.ifNo X26.here hx rfl (hb hby at_96) rfl ((if0 _ _).trans (teq (show (0 : Int32) = (0 : Int32) from (by decide))).2) k) ?_
    refine own_go (W1 := T26.setTop (mkF m 100 #[.val (.int i0), .val (.int i1), .val (.int (2 : Int32)), .val (.ref r0), .val (.ref r1), .val (.ref r2), .val (.ref g), .val (.int (1 : Int32))] [(.int (1 : Int32))])) (fun t k => XS.iconst X26.here hx rfl (hb hby at_99) k) ?_
    refine own_go (W1 := T26.setTop (mkF m 104 #[.val (.int i0), .val (.int i1), .val (.int (2 : Int32)), .val (.ref r0), .val (.ref r1), .val (.ref r2), .val (.ref g), .val (.int (1 : Int32))] [(.int (1 : Int32))])) (fun t k => XS.goto X26.here hx rfl (pc0 := 100) (pc' := 104) rfl (hb hby at_100) (by decide) (by decide) k) ?_
    refine own_go (W1 := T26.setTop (mkF m 106 #[.val (.int i0), .val (.int i1), .val (.int (2 : Int32)), .val (.ref r0), .val (.ref r1), .val (.ref r2), .val (.ref g), .val (.int (1 : Int32))] [])) (fun t k => XS.istore X26.here hx rfl (hb hby at_104) rfl (l' := #[.val (.int i0), .val (.int i1), .val (.int (2 : Int32)), .val (.ref r0), .val (.ref r1), .val (.ref r2), .val (.ref g), .val (.int (1 : Int32))]) rfl k) ?_
    refine own_go (W1 := T26.setTop (mkF m 107 #[.val (.int i0), .val (.int i1), .val (.int (2 : Int32)), .val (.ref r0), .val (.ref r1), .val (.ref r2), .val (.ref g), .val (.int (1 : Int32))] [(.int (2 : Int32))])) (fun t k => XS.iloadN X26.here hx rfl (hb hby at_106) rfl  k) ?_
    refine own_go (W1 := T26.setTop (mkF m 108 #[.val (.int i0), .val (.int i1), .val (.int (2 : Int32)), .val (.ref r0), .val (.ref r1), .val (.ref r2), .val (.ref g), .val (.int (1 : Int32))] [(.int (3 : Int32)), (.int (2 : Int32))])) (fun t k => XS.iconst X26.here hx rfl (hb hby at_107) k) ?_
    refine own_go (W1 := T26.setTop (mkF m 138 #[.val (.int i0), .val (.int i1), .val (.int (2 : Int32)), .val (.ref r0), .val (.ref r1), .val (.ref r2), .val (.ref g), .val (.int (1 : Int32))] [])) (fun t k => XS.icmpYes X26.here hx rfl (pc0 := 108) (pc' := 138) rfl (hb hby at_108) rfl (tlt (show (2 : Int32) < (3 : Int32) from (by decide))).1 (by decide) (by decide) k) ?_
    refine own_go (W1 := T26.setTop (mkF m 140 #[.val (.int i0), .val (.int i1), .val (.int (2 : Int32)), .val (.ref r0), .val (.ref r1), .val (.ref r2), .val (.ref g), .val (.int (1 : Int32))] [(.int (1 : Int32))])) (fun t k => XS.iload X26.here hx rfl (hb hby at_138) rfl  k) ?_
    refine own_go (W1 := T26.setTop (mkF m 143 #[.val (.int i0), .val (.int i1), .val (.int (2 : Int32)), .val (.ref r0), .val (.ref r1), .val (.ref r2), .val (.ref g), .val (.int (1 : Int32))] [])) (fun t k => XS.ifNo X26.here hx rfl (hb hby at_140) rfl ((if0 _ _).trans (feq (show ¬ ((1 : Int32) = (0 : Int32)) from (by decide))).1) k) ?_
    refine own_go (W1 := T26.setTop (mkF m 145 #[.val (.int i0), .val (.int i1), .val (.int (2 : Int32)), .val (.ref r0), .val (.ref r1), .val (.ref r2), .val (.ref g), .val (.int (1 : Int32))] [(.ref g)])) (fun t k => XS.aload X26.here hx rfl (hb hby at_143) rfl rfl  k) ?_
    obtain ⟨cq27, kq27, q27a, q27b, q27c⟩ := isOf hZ eh26 E_g
    obtain ⟨_, _, ⟨T27, L27, k27, n27⟩, -, X27, ⟨Lc27, hQ27, l27, y27, z27⟩, st27⟩ := X26.virtualBack hx (y := (⟨"com/example/cerb3rus/cerb3rus/combining/Gathered", "isEmpty", "()Z"⟩ : MethodName)) (z := (⟨"com/example/cerb3rus/cerb3rus/combining/Gathered", "isEmpty", "()Z"⟩ : MethodName)) hown (mvT hZ (hw _ (List.mem_of_getElem? (i := 46) rfl))) (mvT hZ (hw _ (List.mem_of_getElem? (i := 47) rfl))) (notFace_of_selects (args := #[]) (mvT hZ (hw _ (List.mem_of_getElem? (i := 49) rfl)))) (mvT hZ (hw _ (List.mem_of_getElem? (i := 49) rfl))) (mvT hZ (hw _ (List.mem_of_getElem? (i := 48) rfl))) (by decide) (backOf (W := 0) (rmE0 l Z a0 hw [] g r0 T25.heap n0 Z25 F_first_g) hZ (hw _ (List.mem_of_getElem? (i := 50) rfl)) (hw _ (List.mem_of_getElem? (i := 11) rfl)) (by decide) (by decide)) q27a q27c (g := (mkF m 145 #[.val (.int i0), .val (.int i1), .val (.int (2 : Int32)), .val (.ref r0), .val (.ref r1), .val (.ref r2), .val (.ref g), .val (.int (1 : Int32))] [(.ref g)])) rfl (by rw [hml]; rfl) (Steps.refl _) (argsL := []) (rest := []) (lenOf own_pd2 rfl) rfl (by show 2 * 0 + _ ≤ _; exact Nat.le_of_eq rfl) (hb hby at_145) (fun _ _ => ⟨rfl, eh26, (by decide : 5 + 0 ≤ _), (by decide : 9 + 0 ≤ _)⟩)
    dsimp only [Pt.U, Pt.locs, Pt.cells, Pt.slots] at X27 l27 y27 z27 st27 hQ27
    subst l27 y27 z27
    obtain ⟨rfl, Nq27, eh27⟩ := hQ27
    have N27 := Fr.app N26 Nq27
    refine own_tr (W1 := T27.setTop (mkF m 148 #[.val (.int i0), .val (.int i1), .val (.int (2 : Int32)), .val (.ref r0), .val (.ref r1), .val (.ref r2), .val (.ref g), .val (.int (1 : Int32))] [(.int (0 : Int32))])) st27 ?_
    refine own_go (W1 := T27.setTop (mkF m 149 #[.val (.int i0), .val (.int i1), .val (.int (2 : Int32)), .val (.ref r0), .val (.ref r1), .val (.ref r2), .val (.ref g), .val (.int (1 : Int32))] [(.int (2 : Int32)), (.int (0 : Int32))])) (fun t k => XS.iloadN X27.here hx rfl (hb hby at_148) rfl  k) ?_
    refine own_go (W1 := T27.setTop (mkF m 156 #[.val (.int i0), .val (.int i1), .val (.int (2 : Int32)), .val (.ref r0), .val (.ref r1), .val (.ref r2), .val (.ref g), .val (.int (1 : Int32))] [(.int (0 : Int32))])) (fun t k => XS.ifYes X27.here hx rfl (pc0 := 149) (pc' := 156) rfl (hb hby at_149) rfl ((if0 _ _).trans (feq (show ¬ ((2 : Int32) = (0 : Int32)) from (by decide))).2) (by decide) (by decide) k) ?_
    refine own_go (W1 := T27.setTop (mkF m 157 #[.val (.int i0), .val (.int i1), .val (.int (2 : Int32)), .val (.ref r0), .val (.ref r1), .val (.ref r2), .val (.ref g), .val (.int (1 : Int32))] [(.int (0 : Int32)), (.int (0 : Int32))])) (fun t k => XS.iconst X27.here hx rfl (hb hby at_156) k) ?_
    refine own_go (W1 := T27.setTop (mkF m 160 #[.val (.int i0), .val (.int i1), .val (.int (2 : Int32)), .val (.ref r0), .val (.ref r1), .val (.ref r2), .val (.ref g), .val (.int (1 : Int32))] [])) (fun t k => XS.icmpNo X27.here hx rfl (hb hby at_157) rfl (teq (show (0 : Int32) = (0 : Int32) from (by decide))).2 k) ?_
    refine own_go (W1 := T27.setTop (mkF m 161 #[.val (.int i0), .val (.int i1), .val (.int (2 : Int32)), .val (.ref r0), .val (.ref r1), .val (.ref r2), .val (.ref g), .val (.int (1 : Int32))] [(.int (1 : Int32))])) (fun t k => XS.iconst X27.here hx rfl (hb hby at_160) k) ?_
    refine own_go (W1 := T27.setTop (mkF m 165 #[.val (.int i0), .val (.int i1), .val (.int (2 : Int32)), .val (.ref r0), .val (.ref r1), .val (.ref r2), .val (.ref g), .val (.int (1 : Int32))] [(.int (1 : Int32))])) (fun t k => XS.goto X27.here hx rfl (pc0 := 161) (pc' := 165) rfl (hb hby at_161) (by decide) (by decide) k) ?_
    refine own_go (W1 := T27.setTop (mkF m 167 #[.val (.int i0), .val (.int i1), .val (.int (2 : Int32)), .val (.ref r0), .val (.ref r1), .val (.ref r2), .val (.ref g), .val (.int (1 : Int32))] [])) (fun t k => XS.istore X27.here hx rfl (hb hby at_165) rfl (l' := #[.val (.int i0), .val (.int i1), .val (.int (2 : Int32)), .val (.ref r0), .val (.ref r1), .val (.ref r2), .val (.ref g), .val (.int (1 : Int32))]) rfl k) ?_
    refine own_go (W1 := T27.setTop (mkF m 169 #[.val (.int i0), .val (.int i1), .val (.int (2 : Int32)), .val (.ref r0), .val (.ref r1), .val (.ref r2), .val (.ref g), .val (.int (1 : Int32))] [(.int (1 : Int32))])) (fun t k => XS.iload X27.here hx rfl (hb hby at_167) rfl  k) ?_
    exact own_retN X27 hx (t := .boolean) Bd.returns (by simp) (hb hby at_169) hlk (by decide) (by decide) ⟨rfl, N27⟩
  · rw [show (i0 &&& (3 : Int32)) = (3 : Int32) from hn]
    refine own_go (W1 := s₁.setTop (mkF m 5 #[.val (.int i0), .val (.int i1), .val (.int (3 : Int32)), .unset, .unset, .unset, .unset, .unset] [(.int i1)])) (fun t k => XS.iloadN X0.here hx rfl (hb hby at_4) rfl  k) ?_
    refine own_go (W1 := s₁.setTop (mkF m 6 #[.val (.int i0), .val (.int i1), .val (.int (3 : Int32)), .unset, .unset, .unset, .unset, .unset] [(.int (1 : Int32)), (.int i1)])) (fun t k => XS.iconst X0.here hx rfl (hb hby at_5) k) ?_
    refine own_go (W1 := s₁.setTop (mkF m 7 #[.val (.int i0), .val (.int i1), .val (.int (3 : Int32)), .unset, .unset, .unset, .unset, .unset] [(.int (i1 &&& (1 : Int32)))])) (fun t k => XS.iand X0.here hx rfl (hb hby at_6) rfl k) ?_
    obtain ⟨_, _, ⟨T28, L28, k28, n28⟩, -, X28, ⟨Lc28, hQ28, l28, y28, z28⟩, st28⟩ := Jvm.LawKit.callS X0 hx (y := (⟨"com/example/cerb3rus/cerb3rus/combining/GatheredIsEmptyPinLaw", "pick", "(I)Lcom/example/cerb3rus/cerb3rus/evaluation/Result;"⟩ : MethodName)) hown (mvT hZ (hw _ (List.mem_of_getElem? (i := 0) rfl))) (mvT hZ (hw _ (List.mem_of_getElem? (i := 1) rfl))) (mvT hZ (hw _ (List.mem_of_getElem? (i := 2) rfl))) (mvT hZ (hw _ (List.mem_of_getElem? (i := 3) rfl))) (by decide) (backOf (W := 0) (rm1 l Z a0 hw [] (i1 &&& (1 : Int32)) sP sD h0 n0 Z0 Xo SP SDn) hZ (hw _ (List.mem_of_getElem? (i := 3) rfl)) (hw _ (List.mem_of_getElem? (i := 2) rfl)) (by decide) (by decide)) (g := (mkF m 7 #[.val (.int i0), .val (.int i1), .val (.int (3 : Int32)), .unset, .unset, .unset, .unset, .unset] [(.int (i1 &&& (1 : Int32)))])) rfl (by rw [hml]; rfl) (argsL := [(.int (i1 &&& (1 : Int32)))]) (rest := []) (lenOf own_pd0 rfl) rfl (by show 2 * 0 + _ ≤ _; exact Nat.le_of_eq rfl) (hb hby at_7) (fun _ _ => ⟨rfl, e0, (by decide : 0 + 0 ≤ _), (by decide : 0 + 0 ≤ _)⟩)
    dsimp only [Pt.U, Pt.locs, Pt.cells, Pt.slots] at X28 l28 y28 z28 st28 hQ28
    subst l28 y28 z28
    obtain ⟨r0, rfl, Nq28, eh28, hr0⟩ := hQ28
    have N28 := Fr.app N0 Nq28
    have hr0 : own_Res Z r0 ob := by rcases hr0 with rfl | rfl <;> assumption
    refine own_go (W1 := T28.setTop (mkF m 10 #[.val (.int i0), .val (.int i1), .val (.int (3 : Int32)), .unset, .unset, .unset, .unset, .unset] [(.ref r0)])) st28 ?_
    refine own_go (W1 := T28.setTop (mkF m 11 #[.val (.int i0), .val (.int i1), .val (.int (3 : Int32)), .val (.ref r0), .unset, .unset, .unset, .unset] [])) (fun t k => XS.astoreN X28.here hx rfl (hb hby at_10) rfl rfl (l' := #[.val (.int i0), .val (.int i1), .val (.int (3 : Int32)), .val (.ref r0), .unset, .unset, .unset, .unset]) rfl k) ?_
    refine own_go (W1 := T28.setTop (mkF m 12 #[.val (.int i0), .val (.int i1), .val (.int (3 : Int32)), .val (.ref r0), .unset, .unset, .unset, .unset] [(.int i1)])) (fun t k => XS.iloadN X28.here hx rfl (hb hby at_11) rfl  k) ?_
    refine own_go (W1 := T28.setTop (mkF m 13 #[.val (.int i0), .val (.int i1), .val (.int (3 : Int32)), .val (.ref r0), .unset, .unset, .unset, .unset] [(.int (2 : Int32)), (.int i1)])) (fun t k => XS.iconst X28.here hx rfl (hb hby at_12) k) ?_
    refine own_go (W1 := T28.setTop (mkF m 14 #[.val (.int i0), .val (.int i1), .val (.int (3 : Int32)), .val (.ref r0), .unset, .unset, .unset, .unset] [(.int (i1 &&& (2 : Int32)))])) (fun t k => XS.iand X28.here hx rfl (hb hby at_13) rfl k) ?_
    obtain ⟨_, _, ⟨T29, L29, k29, n29⟩, -, X29, ⟨Lc29, hQ29, l29, y29, z29⟩, st29⟩ := Jvm.LawKit.callS X28 hx (y := (⟨"com/example/cerb3rus/cerb3rus/combining/GatheredIsEmptyPinLaw", "pick", "(I)Lcom/example/cerb3rus/cerb3rus/evaluation/Result;"⟩ : MethodName)) hown (mvT hZ (hw _ (List.mem_of_getElem? (i := 0) rfl))) (mvT hZ (hw _ (List.mem_of_getElem? (i := 1) rfl))) (mvT hZ (hw _ (List.mem_of_getElem? (i := 2) rfl))) (mvT hZ (hw _ (List.mem_of_getElem? (i := 3) rfl))) (by decide) (backOf (W := 0) (rm1 l Z a0 hw [] (i1 &&& (2 : Int32)) sP sD h0 n0 Z0 Xo SP SDn) hZ (hw _ (List.mem_of_getElem? (i := 3) rfl)) (hw _ (List.mem_of_getElem? (i := 2) rfl)) (by decide) (by decide)) (g := (mkF m 14 #[.val (.int i0), .val (.int i1), .val (.int (3 : Int32)), .val (.ref r0), .unset, .unset, .unset, .unset] [(.int (i1 &&& (2 : Int32)))])) rfl (by rw [hml]; rfl) (argsL := [(.int (i1 &&& (2 : Int32)))]) (rest := []) (lenOf own_pd0 rfl) rfl (by show 2 * 0 + _ ≤ _; exact Nat.le_of_eq rfl) (hb hby at_14) (fun _ _ => ⟨rfl, eh28, (by decide : 0 + 0 ≤ _), (by decide : 0 + 0 ≤ _)⟩)
    dsimp only [Pt.U, Pt.locs, Pt.cells, Pt.slots] at X29 l29 y29 z29 st29 hQ29
    subst l29 y29 z29
    obtain ⟨r1, rfl, Nq29, eh29, hr1⟩ := hQ29
    have N29 := Fr.app N28 Nq29
    have hr1 : own_Res Z r1 ob := by rcases hr1 with rfl | rfl <;> assumption
    refine own_go (W1 := T29.setTop (mkF m 17 #[.val (.int i0), .val (.int i1), .val (.int (3 : Int32)), .val (.ref r0), .unset, .unset, .unset, .unset] [(.ref r1)])) st29 ?_
    refine own_go (W1 := T29.setTop (mkF m 19 #[.val (.int i0), .val (.int i1), .val (.int (3 : Int32)), .val (.ref r0), .val (.ref r1), .unset, .unset, .unset] [])) (fun t k => XS.astore X29.here hx rfl (hb hby at_17) rfl rfl (l' := #[.val (.int i0), .val (.int i1), .val (.int (3 : Int32)), .val (.ref r0), .val (.ref r1), .unset, .unset, .unset]) rfl k) ?_
    refine own_go (W1 := T29.setTop (mkF m 20 #[.val (.int i0), .val (.int i1), .val (.int (3 : Int32)), .val (.ref r0), .val (.ref r1), .unset, .unset, .unset] [(.int i1)])) (fun t k => XS.iloadN X29.here hx rfl (hb hby at_19) rfl  k) ?_
    refine own_go (W1 := T29.setTop (mkF m 21 #[.val (.int i0), .val (.int i1), .val (.int (3 : Int32)), .val (.ref r0), .val (.ref r1), .unset, .unset, .unset] [(.int (4 : Int32)), (.int i1)])) (fun t k => XS.iconst X29.here hx rfl (hb hby at_20) k) ?_
    refine own_go (W1 := T29.setTop (mkF m 22 #[.val (.int i0), .val (.int i1), .val (.int (3 : Int32)), .val (.ref r0), .val (.ref r1), .unset, .unset, .unset] [(.int (i1 &&& (4 : Int32)))])) (fun t k => XS.iand X29.here hx rfl (hb hby at_21) rfl k) ?_
    obtain ⟨_, _, ⟨T30, L30, k30, n30⟩, -, X30, ⟨Lc30, hQ30, l30, y30, z30⟩, st30⟩ := Jvm.LawKit.callS X29 hx (y := (⟨"com/example/cerb3rus/cerb3rus/combining/GatheredIsEmptyPinLaw", "pick", "(I)Lcom/example/cerb3rus/cerb3rus/evaluation/Result;"⟩ : MethodName)) hown (mvT hZ (hw _ (List.mem_of_getElem? (i := 0) rfl))) (mvT hZ (hw _ (List.mem_of_getElem? (i := 1) rfl))) (mvT hZ (hw _ (List.mem_of_getElem? (i := 2) rfl))) (mvT hZ (hw _ (List.mem_of_getElem? (i := 3) rfl))) (by decide) (backOf (W := 0) (rm1 l Z a0 hw [] (i1 &&& (4 : Int32)) sP sD h0 n0 Z0 Xo SP SDn) hZ (hw _ (List.mem_of_getElem? (i := 3) rfl)) (hw _ (List.mem_of_getElem? (i := 2) rfl)) (by decide) (by decide)) (g := (mkF m 22 #[.val (.int i0), .val (.int i1), .val (.int (3 : Int32)), .val (.ref r0), .val (.ref r1), .unset, .unset, .unset] [(.int (i1 &&& (4 : Int32)))])) rfl (by rw [hml]; rfl) (argsL := [(.int (i1 &&& (4 : Int32)))]) (rest := []) (lenOf own_pd0 rfl) rfl (by show 2 * 0 + _ ≤ _; exact Nat.le_of_eq rfl) (hb hby at_22) (fun _ _ => ⟨rfl, eh29, (by decide : 0 + 0 ≤ _), (by decide : 0 + 0 ≤ _)⟩)
    dsimp only [Pt.U, Pt.locs, Pt.cells, Pt.slots] at X30 l30 y30 z30 st30 hQ30
    subst l30 y30 z30
    obtain ⟨r2, rfl, Nq30, eh30, hr2⟩ := hQ30
    have N30 := Fr.app N29 Nq30
    have hr2 : own_Res Z r2 ob := by rcases hr2 with rfl | rfl <;> assumption
    refine own_go (W1 := T30.setTop (mkF m 25 #[.val (.int i0), .val (.int i1), .val (.int (3 : Int32)), .val (.ref r0), .val (.ref r1), .unset, .unset, .unset] [(.ref r2)])) st30 ?_
    refine own_go (W1 := T30.setTop (mkF m 27 #[.val (.int i0), .val (.int i1), .val (.int (3 : Int32)), .val (.ref r0), .val (.ref r1), .val (.ref r2), .unset, .unset] [])) (fun t k => XS.astore X30.here hx rfl (hb hby at_25) rfl rfl (l' := #[.val (.int i0), .val (.int i1), .val (.int (3 : Int32)), .val (.ref r0), .val (.ref r1), .val (.ref r2), .unset, .unset]) rfl k) ?_
    obtain ⟨T31, h31, X31, e31, E31, A31, D31, -, st31⟩ := newO X30 hx hZ hown (hw _ (List.mem_of_getElem? (i := 9) rfl)) (hw _ (List.mem_of_getElem? (i := 10) rfl)) (hw _ (List.mem_of_getElem? (i := 11) rfl)) eh30 (g := (mkF m 27 #[.val (.int i0), .val (.int i1), .val (.int (3 : Int32)), .val (.ref r0), .val (.ref r1), .val (.ref r2), .unset, .unset] [])) rfl (hb hby at_27) (by decide) (by decide)
    obtain ⟨g, g31⟩ : ∃ z, z = h0.size := ⟨_, rfl⟩
    have ge_g : n0 ≤ g := Nat.le_trans Z0 (Nat.le_of_eq g31.symm)
    rw [← g31] at A31 D31 st31
    have Xo := Xo.ext E31
    have Z31 : n0 ≤ h31.size := Nat.le_trans Z0 E31.1
    have E_g := A31
    have F_laterObligations_g : Fld Z h31 g "com/example/cerb3rus/cerb3rus/combining/Gathered" "laterObligations" "Ljava/util/List;" .null := D31 (Or.inr (hw _ (List.mem_of_getElem? (i := 43) rfl))) (ty := (.object "java/util/List")) (by decide)
    have F_laterAdvice_g : Fld Z h31 g "com/example/cerb3rus/cerb3rus/combining/Gathered" "laterAdvice" "Ljava/util/List;" .null := D31 (Or.inr (hw _ (List.mem_of_getElem? (i := 45) rfl))) (ty := (.object "java/util/List")) (by decide)
    have F_first_g : Fld Z h31 g "com/example/cerb3rus/cerb3rus/combining/Gathered" "first" "Lcom/example/cerb3rus/cerb3rus/evaluation/Result;" .null := D31 (Or.inl (hw _ (List.mem_of_getElem? (i := 52) rfl))) (ty := (.object "com/example/cerb3rus/cerb3rus/evaluation/Result")) (by decide)
    refine own_go (W1 := T31.setTop (mkF m 30 #[.val (.int i0), .val (.int i1), .val (.int (3 : Int32)), .val (.ref r0), .val (.ref r1), .val (.ref r2), .unset, .unset] [(.ref g)])) (st31) ?_
    refine own_go (W1 := T31.setTop (mkF m 31 #[.val (.int i0), .val (.int i1), .val (.int (3 : Int32)), .val (.ref r0), .val (.ref r1), .val (.ref r2), .unset, .unset] [(.ref g), (.ref g)])) (fun t k => XS.dup X31.here hx rfl (hb hby at_30) rfl rfl k) ?_
    obtain ⟨_, _, ⟨T32, L32, k32, n32⟩, -, X32, ⟨Lc32, hQ32, l32, y32, z32⟩, st32⟩ := X31.specialBack hx (y := (⟨"com/example/cerb3rus/cerb3rus/combining/Gathered", "<init>", "()V"⟩ : MethodName)) rfl hown (mvT hZ (hw _ (List.mem_of_getElem? (i := 12) rfl))) (mvT hZ (hw _ (List.mem_of_getElem? (i := 13) rfl))) (mvT hZ (hw _ (List.mem_of_getElem? (i := 14) rfl))) (by decide) (backOf (W := 1) (rm2 l Z a0 hw [] g dd h31 n0 Z31 E_g F_first_g F_laterObligations_g F_laterAdvice_g ge_g Xo SD) hZ (hw _ (List.mem_of_getElem? (i := 14) rfl)) (hw _ (List.mem_of_getElem? (i := 11) rfl)) (by decide) (by decide)) (g := (mkF m 31 #[.val (.int i0), .val (.int i1), .val (.int (3 : Int32)), .val (.ref r0), .val (.ref r1), .val (.ref r2), .unset, .unset] [(.ref g), (.ref g)])) rfl (by rw [hml]; rfl) (Steps.refl _) (a := g) (argsL := []) (rest := [(.ref g)]) (lenOf own_pd1 rfl) rfl (by show 2 * 0 + _ ≤ _; exact Nat.le_of_eq rfl) (hb hby at_31) (fun _ _ => ⟨rfl, e31, (by decide : 1 + 2 ≤ _), (by decide : 3 + 6 ≤ _)⟩)
    dsimp only [Pt.U, Pt.locs, Pt.cells, Pt.slots] at X32 l32 y32 z32 st32 hQ32
    subst l32 y32 z32
    obtain ⟨b1, b2, rfl, Nq32, Kq32, s1, s2, ne_b1_b2, Eg32, Fg1, Fg2, Fg3, E_b1, F_m_b1, E_b2, F_m_b2⟩ := hQ32
    have ltg := E_g.lt
    have ge_b1 : n0 ≤ b1 := Nat.le_trans Z31 s1
    have ge_b2 : n0 ≤ b2 := Nat.le_trans Z31 s2
    have ne_g_b1 : g ≠ b1 := Nat.ne_of_lt (Nat.lt_of_lt_of_le ltg s1)
    have ne_g_b2 : g ≠ b2 := Nat.ne_of_lt (Nat.lt_of_lt_of_le ltg s2)
    have Xo := Xo.keep Kq32 (allS ge_g all0)
    have E_g := E_g.keep Kq32
    have Z32 : n0 ≤ T32.heap.size := Nat.le_trans Z31 Kq32.1
    have N32 := Fr.app N30 Nq32
    have F_first_g := Fg1
    have F_laterObligations_g := Fg2
    have F_laterAdvice_g := Fg3
    refine own_tr (W1 := T32.setTop (mkF m 34 #[.val (.int i0), .val (.int i1), .val (.int (3 : Int32)), .val (.ref r0), .val (.ref r1), .val (.ref r2), .unset, .unset] [(.ref g)])) st32 ?_
    refine own_go (W1 := T32.setTop (mkF m 36 #[.val (.int i0), .val (.int i1), .val (.int (3 : Int32)), .val (.ref r0), .val (.ref r1), .val (.ref r2), .val (.ref g), .unset] [])) (fun t k => XS.astore X32.here hx rfl (hb hby at_34) rfl rfl (l' := #[.val (.int i0), .val (.int i1), .val (.int (3 : Int32)), .val (.ref r0), .val (.ref r1), .val (.ref r2), .val (.ref g), .unset]) rfl k) ?_
    refine own_go (W1 := T32.setTop (mkF m 38 #[.val (.int i0), .val (.int i1), .val (.int (3 : Int32)), .val (.ref r0), .val (.ref r1), .val (.ref r2), .val (.ref g), .unset] [(.ref g)])) (fun t k => XS.aload X32.here hx rfl (hb hby at_36) rfl rfl  k) ?_
    obtain ⟨cq33, kq33, q33a, q33b, q33c⟩ := isOf hZ (rfl : T32.heap = T32.heap) E_g
    obtain ⟨_, _, ⟨T33, L33, k33, n33⟩, -, X33, ⟨Lc33, hQ33, l33, y33, z33⟩, st33⟩ := X32.virtualBack hx (y := (⟨"com/example/cerb3rus/cerb3rus/combining/Gathered", "isEmpty", "()Z"⟩ : MethodName)) (z := (⟨"com/example/cerb3rus/cerb3rus/combining/Gathered", "isEmpty", "()Z"⟩ : MethodName)) hown (mvT hZ (hw _ (List.mem_of_getElem? (i := 46) rfl))) (mvT hZ (hw _ (List.mem_of_getElem? (i := 47) rfl))) (notFace_of_selects (args := #[]) (mvT hZ (hw _ (List.mem_of_getElem? (i := 49) rfl)))) (mvT hZ (hw _ (List.mem_of_getElem? (i := 49) rfl))) (mvT hZ (hw _ (List.mem_of_getElem? (i := 48) rfl))) (by decide) (backOf (W := 0) (rmE1 l Z a0 hw [] g T32.heap n0 Z32 F_first_g) hZ (hw _ (List.mem_of_getElem? (i := 50) rfl)) (hw _ (List.mem_of_getElem? (i := 11) rfl)) (by decide) (by decide)) q33a q33c (g := (mkF m 38 #[.val (.int i0), .val (.int i1), .val (.int (3 : Int32)), .val (.ref r0), .val (.ref r1), .val (.ref r2), .val (.ref g), .unset] [(.ref g)])) rfl (by rw [hml]; rfl) (Steps.refl _) (argsL := []) (rest := []) (lenOf own_pd2 rfl) rfl (by show 2 * 0 + _ ≤ _; exact Nat.le_of_eq rfl) (hb hby at_38) (fun _ _ => ⟨rfl, (rfl : T32.heap = T32.heap), (by decide : 3 + 0 ≤ _), (by decide : 9 + 0 ≤ _)⟩)
    dsimp only [Pt.U, Pt.locs, Pt.cells, Pt.slots] at X33 l33 y33 z33 st33 hQ33
    subst l33 y33 z33
    obtain ⟨rfl, Nq33, eh33⟩ := hQ33
    have N33 := Fr.app N32 Nq33
    refine own_tr (W1 := T33.setTop (mkF m 41 #[.val (.int i0), .val (.int i1), .val (.int (3 : Int32)), .val (.ref r0), .val (.ref r1), .val (.ref r2), .val (.ref g), .unset] [(.int (1 : Int32))])) st33 ?_
    refine own_go (W1 := T33.setTop (mkF m 43 #[.val (.int i0), .val (.int i1), .val (.int (3 : Int32)), .val (.ref r0), .val (.ref r1), .val (.ref r2), .val (.ref g), .val (.int (1 : Int32))] [])) (fun t k => XS.istore X33.here hx rfl (hb hby at_41) rfl (l' := #[.val (.int i0), .val (.int i1), .val (.int (3 : Int32)), .val (.ref r0), .val (.ref r1), .val (.ref r2), .val (.ref g), .val (.int (1 : Int32))]) rfl k) ?_
    refine own_go (W1 := T33.setTop (mkF m 44 #[.val (.int i0), .val (.int i1), .val (.int (3 : Int32)), .val (.ref r0), .val (.ref r1), .val (.ref r2), .val (.ref g), .val (.int (1 : Int32))] [(.int (3 : Int32))])) (fun t k => XS.iloadN X33.here hx rfl (hb hby at_43) rfl  k) ?_
    refine own_go (W1 := T33.setTop (mkF m 45 #[.val (.int i0), .val (.int i1), .val (.int (3 : Int32)), .val (.ref r0), .val (.ref r1), .val (.ref r2), .val (.ref g), .val (.int (1 : Int32))] [(.int (1 : Int32)), (.int (3 : Int32))])) (fun t k => XS.iconst X33.here hx rfl (hb hby at_44) k) ?_
    refine own_go (W1 := T33.setTop (mkF m 48 #[.val (.int i0), .val (.int i1), .val (.int (3 : Int32)), .val (.ref r0), .val (.ref r1), .val (.ref r2), .val (.ref g), .val (.int (1 : Int32))] [])) (fun t k => XS.icmpNo X33.here hx rfl (hb hby at_45) rfl (flt (show ¬ ((3 : Int32) < (1 : Int32)) from (by decide))).1 k) ?_
    refine own_go (W1 := T33.setTop (mkF m 50 #[.val (.int i0), .val (.int i1), .val (.int (3 : Int32)), .val (.ref r0), .val (.ref r1), .val (.ref r2), .val (.ref g), .val (.int (1 : Int32))] [(.ref g)])) (fun t k => XS.aload X33.here hx rfl (hb hby at_48) rfl rfl  k) ?_
    refine own_go (W1 := T33.setTop (mkF m 51 #[.val (.int i0), .val (.int i1), .val (.int (3 : Int32)), .val (.ref r0), .val (.ref r1), .val (.ref r2), .val (.ref g), .val (.int (1 : Int32))] [(.ref r0), (.ref g)])) (fun t k => XS.aloadN X33.here hx rfl (hb hby at_50) rfl rfl  k) ?_
    obtain ⟨cq34, kq34, q34a, q34b, q34c⟩ := isOf hZ eh33 E_g
    obtain ⟨_, _, ⟨T34, L34, k34, n34⟩, -, X34, ⟨Lc34, hQ34, l34, y34, z34⟩, st34⟩ := X33.virtualBack hx (y := (⟨"com/example/cerb3rus/cerb3rus/combining/Gathered", "add", "(Lcom/example/cerb3rus/cerb3rus/evaluation/Result;)V"⟩ : MethodName)) (z := (⟨"com/example/cerb3rus/cerb3rus/combining/Gathered", "add", "(Lcom/example/cerb3rus/cerb3rus/evaluation/Result;)V"⟩ : MethodName)) hown (mvT hZ (hw _ (List.mem_of_getElem? (i := 53) rfl))) (mvT hZ (hw _ (List.mem_of_getElem? (i := 54) rfl))) (notFace_of_selects (args := #[]) (mvT hZ (hw _ (List.mem_of_getElem? (i := 56) rfl)))) (mvT hZ (hw _ (List.mem_of_getElem? (i := 56) rfl))) (mvT hZ (hw _ (List.mem_of_getElem? (i := 55) rfl))) (by decide) (backOf (W := 0) (rmA0 l Z a0 hw [] g r0 b1 b2 T32.heap n0 Z32 E_g F_first_g F_laterObligations_g F_laterAdvice_g ge_g) hZ (hw _ (List.mem_of_getElem? (i := 57) rfl)) (hw _ (List.mem_of_getElem? (i := 11) rfl)) (by decide) (by decide)) q34a q34c (g := (mkF m 51 #[.val (.int i0), .val (.int i1), .val (.int (3 : Int32)), .val (.ref r0), .val (.ref r1), .val (.ref r2), .val (.ref g), .val (.int (1 : Int32))] [(.ref r0), (.ref g)])) rfl (by rw [hml]; rfl) (Steps.refl _) (argsL := [(.ref r0)]) (rest := []) (lenOf own_pd3 rfl) rfl (by show 2 * 0 + _ ≤ _; exact Nat.le_of_eq rfl) (hb hby at_51) (fun _ _ => ⟨rfl, eh33, (by decide : 3 + 0 ≤ _), (by decide : 9 + 0 ≤ _)⟩)
    dsimp only [Pt.U, Pt.locs, Pt.cells, Pt.slots] at X34 l34 y34 z34 st34 hQ34
    subst l34 y34 z34
    obtain ⟨rfl, Nq34, Kq34, Eg34, Fg1, Fg2, Fg3⟩ := hQ34
    have Xo := Xo.keep Kq34 (allS ge_g all0)
    have E_g := E_g.keep Kq34
    have E_b1 := E_b1.keep Kq34
    have F_m_b1 := F_m_b1.keep Kq34 (ninS (Ne.symm ne_g_b1) nin0)
    have E_b2 := E_b2.keep Kq34
    have F_m_b2 := F_m_b2.keep Kq34 (ninS (Ne.symm ne_g_b2) nin0)
    have Z34 : n0 ≤ T34.heap.size := Nat.le_trans Z32 Kq34.1
    have N34 := Fr.app N33 Nq34
    have F_first_g := Fg1
    have F_laterObligations_g := Fg2
    have F_laterAdvice_g := Fg3
    refine own_tr (W1 := T34.setTop (mkF m 54 #[.val (.int i0), .val (.int i1), .val (.int (3 : Int32)), .val (.ref r0), .val (.ref r1), .val (.ref r2), .val (.ref g), .val (.int (1 : Int32))] [])) st34 ?_
    refine own_go (W1 := T34.setTop (mkF m 56 #[.val (.int i0), .val (.int i1), .val (.int (3 : Int32)), .val (.ref r0), .val (.ref r1), .val (.ref r2), .val (.ref g), .val (.int (1 : Int32))] [(.int (1 : Int32))])) (fun t k => XS.iload X34.here hx rfl (hb hby at_54) rfl  k) ?_
    refine own_go (W1 := T34.setTop (mkF m 59 #[.val (.int i0), .val (.int i1), .val (.int (3 : Int32)), .val (.ref r0), .val (.ref r1), .val (.ref r2), .val (.ref g), .val (.int (1 : Int32))] [])) (fun t k => XS.ifNo X34.here hx rfl (hb hby at_56) rfl ((if0 _ _).trans (feq (show ¬ ((1 : Int32) = (0 : Int32)) from (by decide))).1) k) ?_
    refine own_go (W1 := T34.setTop (mkF m 61 #[.val (.int i0), .val (.int i1), .val (.int (3 : Int32)), .val (.ref r0), .val (.ref r1), .val (.ref r2), .val (.ref g), .val (.int (1 : Int32))] [(.ref g)])) (fun t k => XS.aload X34.here hx rfl (hb hby at_59) rfl rfl  k) ?_
    obtain ⟨cq35, kq35, q35a, q35b, q35c⟩ := isOf hZ (rfl : T34.heap = T34.heap) E_g
    obtain ⟨_, _, ⟨T35, L35, k35, n35⟩, -, X35, ⟨Lc35, hQ35, l35, y35, z35⟩, st35⟩ := X34.virtualBack hx (y := (⟨"com/example/cerb3rus/cerb3rus/combining/Gathered", "isEmpty", "()Z"⟩ : MethodName)) (z := (⟨"com/example/cerb3rus/cerb3rus/combining/Gathered", "isEmpty", "()Z"⟩ : MethodName)) hown (mvT hZ (hw _ (List.mem_of_getElem? (i := 46) rfl))) (mvT hZ (hw _ (List.mem_of_getElem? (i := 47) rfl))) (notFace_of_selects (args := #[]) (mvT hZ (hw _ (List.mem_of_getElem? (i := 49) rfl)))) (mvT hZ (hw _ (List.mem_of_getElem? (i := 49) rfl))) (mvT hZ (hw _ (List.mem_of_getElem? (i := 48) rfl))) (by decide) (backOf (W := 0) (rmE0 l Z a0 hw [] g r0 T34.heap n0 Z34 F_first_g) hZ (hw _ (List.mem_of_getElem? (i := 50) rfl)) (hw _ (List.mem_of_getElem? (i := 11) rfl)) (by decide) (by decide)) q35a q35c (g := (mkF m 61 #[.val (.int i0), .val (.int i1), .val (.int (3 : Int32)), .val (.ref r0), .val (.ref r1), .val (.ref r2), .val (.ref g), .val (.int (1 : Int32))] [(.ref g)])) rfl (by rw [hml]; rfl) (Steps.refl _) (argsL := []) (rest := []) (lenOf own_pd2 rfl) rfl (by show 2 * 0 + _ ≤ _; exact Nat.le_of_eq rfl) (hb hby at_61) (fun _ _ => ⟨rfl, (rfl : T34.heap = T34.heap), (by decide : 3 + 0 ≤ _), (by decide : 9 + 0 ≤ _)⟩)
    dsimp only [Pt.U, Pt.locs, Pt.cells, Pt.slots] at X35 l35 y35 z35 st35 hQ35
    subst l35 y35 z35
    obtain ⟨rfl, Nq35, eh35⟩ := hQ35
    have N35 := Fr.app N34 Nq35
    refine own_tr (W1 := T35.setTop (mkF m 64 #[.val (.int i0), .val (.int i1), .val (.int (3 : Int32)), .val (.ref r0), .val (.ref r1), .val (.ref r2), .val (.ref g), .val (.int (1 : Int32))] [(.int (0 : Int32))])) st35 ?_
    refine own_go (W1 := T35.setTop (mkF m 67 #[.val (.int i0), .val (.int i1), .val (.int (3 : Int32)), .val (.ref r0), .val (.ref r1), .val (.ref r2), .val (.ref g), .val (.int (1 : Int32))] [])) (fun t k => XS.ifNo X35.here hx rfl (hb hby at_64) rfl ((if0 _ _).trans (teq (show (0 : Int32) = (0 : Int32) from (by decide))).2) k) ?_
    refine own_go (W1 := T35.setTop (mkF m 68 #[.val (.int i0), .val (.int i1), .val (.int (3 : Int32)), .val (.ref r0), .val (.ref r1), .val (.ref r2), .val (.ref g), .val (.int (1 : Int32))] [(.int (1 : Int32))])) (fun t k => XS.iconst X35.here hx rfl (hb hby at_67) k) ?_
    refine own_go (W1 := T35.setTop (mkF m 72 #[.val (.int i0), .val (.int i1), .val (.int (3 : Int32)), .val (.ref r0), .val (.ref r1), .val (.ref r2), .val (.ref g), .val (.int (1 : Int32))] [(.int (1 : Int32))])) (fun t k => XS.goto X35.here hx rfl (pc0 := 68) (pc' := 72) rfl (hb hby at_68) (by decide) (by decide) k) ?_
    refine own_go (W1 := T35.setTop (mkF m 74 #[.val (.int i0), .val (.int i1), .val (.int (3 : Int32)), .val (.ref r0), .val (.ref r1), .val (.ref r2), .val (.ref g), .val (.int (1 : Int32))] [])) (fun t k => XS.istore X35.here hx rfl (hb hby at_72) rfl (l' := #[.val (.int i0), .val (.int i1), .val (.int (3 : Int32)), .val (.ref r0), .val (.ref r1), .val (.ref r2), .val (.ref g), .val (.int (1 : Int32))]) rfl k) ?_
    refine own_go (W1 := T35.setTop (mkF m 75 #[.val (.int i0), .val (.int i1), .val (.int (3 : Int32)), .val (.ref r0), .val (.ref r1), .val (.ref r2), .val (.ref g), .val (.int (1 : Int32))] [(.int (3 : Int32))])) (fun t k => XS.iloadN X35.here hx rfl (hb hby at_74) rfl  k) ?_
    refine own_go (W1 := T35.setTop (mkF m 76 #[.val (.int i0), .val (.int i1), .val (.int (3 : Int32)), .val (.ref r0), .val (.ref r1), .val (.ref r2), .val (.ref g), .val (.int (1 : Int32))] [(.int (2 : Int32)), (.int (3 : Int32))])) (fun t k => XS.iconst X35.here hx rfl (hb hby at_75) k) ?_
    refine own_go (W1 := T35.setTop (mkF m 79 #[.val (.int i0), .val (.int i1), .val (.int (3 : Int32)), .val (.ref r0), .val (.ref r1), .val (.ref r2), .val (.ref g), .val (.int (1 : Int32))] [])) (fun t k => XS.icmpNo X35.here hx rfl (hb hby at_76) rfl (flt (show ¬ ((3 : Int32) < (2 : Int32)) from (by decide))).1 k) ?_
    refine own_go (W1 := T35.setTop (mkF m 81 #[.val (.int i0), .val (.int i1), .val (.int (3 : Int32)), .val (.ref r0), .val (.ref r1), .val (.ref r2), .val (.ref g), .val (.int (1 : Int32))] [(.ref g)])) (fun t k => XS.aload X35.here hx rfl (hb hby at_79) rfl rfl  k) ?_
    refine own_go (W1 := T35.setTop (mkF m 83 #[.val (.int i0), .val (.int i1), .val (.int (3 : Int32)), .val (.ref r0), .val (.ref r1), .val (.ref r2), .val (.ref g), .val (.int (1 : Int32))] [(.ref r1), (.ref g)])) (fun t k => XS.aload X35.here hx rfl (hb hby at_81) rfl rfl  k) ?_
    obtain ⟨cq36, kq36, q36a, q36b, q36c⟩ := isOf hZ eh35 E_g
    obtain ⟨_, _, ⟨T36, L36, k36, n36⟩, -, X36, ⟨Lc36, hQ36, l36, y36, z36⟩, st36⟩ := X35.virtualBack hx (y := (⟨"com/example/cerb3rus/cerb3rus/combining/Gathered", "add", "(Lcom/example/cerb3rus/cerb3rus/evaluation/Result;)V"⟩ : MethodName)) (z := (⟨"com/example/cerb3rus/cerb3rus/combining/Gathered", "add", "(Lcom/example/cerb3rus/cerb3rus/evaluation/Result;)V"⟩ : MethodName)) hown (mvT hZ (hw _ (List.mem_of_getElem? (i := 53) rfl))) (mvT hZ (hw _ (List.mem_of_getElem? (i := 54) rfl))) (notFace_of_selects (args := #[]) (mvT hZ (hw _ (List.mem_of_getElem? (i := 56) rfl)))) (mvT hZ (hw _ (List.mem_of_getElem? (i := 56) rfl))) (mvT hZ (hw _ (List.mem_of_getElem? (i := 55) rfl))) (by decide) (backOf (W := 0) (rmA1 l Z a0 hw [] g r1 r0 b1 b2 ob u mr ku (0 : Int32) (0 : Int32) T34.heap n0 Z34 F_first_g F_laterObligations_g F_laterAdvice_g E_b1 F_m_b1 E_b2 F_m_b2 ge_b1 ge_b2 ne_g_b1 ne_g_b2 ne_b1_b2 Xo hr1 hl M) hZ (hw _ (List.mem_of_getElem? (i := 57) rfl)) (hw _ (List.mem_of_getElem? (i := 11) rfl)) (by decide) (by decide)) q36a q36c (g := (mkF m 83 #[.val (.int i0), .val (.int i1), .val (.int (3 : Int32)), .val (.ref r0), .val (.ref r1), .val (.ref r2), .val (.ref g), .val (.int (1 : Int32))] [(.ref r1), (.ref g)])) rfl (by rw [hml]; rfl) (Steps.refl _) (argsL := [(.ref r1)]) (rest := []) (lenOf own_pd3 rfl) rfl (by show 2 * 0 + _ ≤ _; exact Nat.le_of_eq rfl) (hb hby at_83) (fun _ _ => ⟨rfl, eh35, (by decide : 3 + 2 ≤ _), (by decide : 9 + 0 ≤ _)⟩)
    dsimp only [Pt.U, Pt.locs, Pt.cells, Pt.slots] at X36 l36 y36 z36 st36 hQ36
    subst l36 y36 z36
    obtain ⟨rfl, Nq36, Kq36, Ex1, Fm1, Ex2, Fm2⟩ := hQ36
    have Xo := Xo.keep Kq36 (allS ge_b1 (allS ge_b2 all0))
    have E_g := E_g.keep Kq36
    have E_b1 := E_b1.keep Kq36
    have E_b2 := E_b2.keep Kq36
    have F_first_g := F_first_g.keep Kq36 (ninS ne_g_b1 (ninS ne_g_b2 nin0))
    have F_laterObligations_g := F_laterObligations_g.keep Kq36 (ninS ne_g_b1 (ninS ne_g_b2 nin0))
    have F_laterAdvice_g := F_laterAdvice_g.keep Kq36 (ninS ne_g_b1 (ninS ne_g_b2 nin0))
    have Z36 : n0 ≤ T36.heap.size := Nat.le_trans Z34 Kq36.1
    have N36 := Fr.app N35 Nq36
    have F_m_b1 := Fm1
    have F_m_b2 := Fm2
    refine own_tr (W1 := T36.setTop (mkF m 86 #[.val (.int i0), .val (.int i1), .val (.int (3 : Int32)), .val (.ref r0), .val (.ref r1), .val (.ref r2), .val (.ref g), .val (.int (1 : Int32))] [])) st36 ?_
    refine own_go (W1 := T36.setTop (mkF m 88 #[.val (.int i0), .val (.int i1), .val (.int (3 : Int32)), .val (.ref r0), .val (.ref r1), .val (.ref r2), .val (.ref g), .val (.int (1 : Int32))] [(.int (1 : Int32))])) (fun t k => XS.iload X36.here hx rfl (hb hby at_86) rfl  k) ?_
    refine own_go (W1 := T36.setTop (mkF m 91 #[.val (.int i0), .val (.int i1), .val (.int (3 : Int32)), .val (.ref r0), .val (.ref r1), .val (.ref r2), .val (.ref g), .val (.int (1 : Int32))] [])) (fun t k => XS.ifNo X36.here hx rfl (hb hby at_88) rfl ((if0 _ _).trans (feq (show ¬ ((1 : Int32) = (0 : Int32)) from (by decide))).1) k) ?_
    refine own_go (W1 := T36.setTop (mkF m 93 #[.val (.int i0), .val (.int i1), .val (.int (3 : Int32)), .val (.ref r0), .val (.ref r1), .val (.ref r2), .val (.ref g), .val (.int (1 : Int32))] [(.ref g)])) (fun t k => XS.aload X36.here hx rfl (hb hby at_91) rfl rfl  k) ?_
    obtain ⟨cq37, kq37, q37a, q37b, q37c⟩ := isOf hZ (rfl : T36.heap = T36.heap) E_g
    obtain ⟨_, _, ⟨T37, L37, k37, n37⟩, -, X37, ⟨Lc37, hQ37, l37, y37, z37⟩, st37⟩ := X36.virtualBack hx (y := (⟨"com/example/cerb3rus/cerb3rus/combining/Gathered", "isEmpty", "()Z"⟩ : MethodName)) (z := (⟨"com/example/cerb3rus/cerb3rus/combining/Gathered", "isEmpty", "()Z"⟩ : MethodName)) hown (mvT hZ (hw _ (List.mem_of_getElem? (i := 46) rfl))) (mvT hZ (hw _ (List.mem_of_getElem? (i := 47) rfl))) (notFace_of_selects (args := #[]) (mvT hZ (hw _ (List.mem_of_getElem? (i := 49) rfl)))) (mvT hZ (hw _ (List.mem_of_getElem? (i := 49) rfl))) (mvT hZ (hw _ (List.mem_of_getElem? (i := 48) rfl))) (by decide) (backOf (W := 0) (rmE0 l Z a0 hw [] g r0 T36.heap n0 Z36 F_first_g) hZ (hw _ (List.mem_of_getElem? (i := 50) rfl)) (hw _ (List.mem_of_getElem? (i := 11) rfl)) (by decide) (by decide)) q37a q37c (g := (mkF m 93 #[.val (.int i0), .val (.int i1), .val (.int (3 : Int32)), .val (.ref r0), .val (.ref r1), .val (.ref r2), .val (.ref g), .val (.int (1 : Int32))] [(.ref g)])) rfl (by rw [hml]; rfl) (Steps.refl _) (argsL := []) (rest := []) (lenOf own_pd2 rfl) rfl (by show 2 * 0 + _ ≤ _; exact Nat.le_of_eq rfl) (hb hby at_93) (fun _ _ => ⟨rfl, (rfl : T36.heap = T36.heap), (by decide : 5 + 0 ≤ _), (by decide : 9 + 0 ≤ _)⟩)
    dsimp only [Pt.U, Pt.locs, Pt.cells, Pt.slots] at X37 l37 y37 z37 st37 hQ37
    subst l37 y37 z37
    obtain ⟨rfl, Nq37, eh37⟩ := hQ37
    have N37 := Fr.app N36 Nq37
    refine own_tr (W1 := T37.setTop (mkF m 96 #[.val (.int i0), .val (.int i1), .val (.int (3 : Int32)), .val (.ref r0), .val (.ref r1), .val (.ref r2), .val (.ref g), .val (.int (1 : Int32))] [(.int (0 : Int32))])) st37 ?_
    refine own_go (W1 := T37.setTop (mkF m 99 #[.val (.int i0), .val (.int i1), .val (.int (3 : Int32)), .val (.ref r0), .val (.ref r1), .val (.ref r2), .val (.ref g), .val (.int (1 : Int32))] [])) (fun t k => XS.ifNo X37.here hx rfl (hb hby at_96) rfl ((if0 _ _).trans (teq (show (0 : Int32) = (0 : Int32) from (by decide))).2) k) ?_
    refine own_go (W1 := T37.setTop (mkF m 100 #[.val (.int i0), .val (.int i1), .val (.int (3 : Int32)), .val (.ref r0), .val (.ref r1), .val (.ref r2), .val (.ref g), .val (.int (1 : Int32))] [(.int (1 : Int32))])) (fun t k => XS.iconst X37.here hx rfl (hb hby at_99) k) ?_
    refine own_go (W1 := T37.setTop (mkF m 104 #[.val (.int i0), .val (.int i1), .val (.int (3 : Int32)), .val (.ref r0), .val (.ref r1), .val (.ref r2), .val (.ref g), .val (.int (1 : Int32))] [(.int (1 : Int32))])) (fun t k => XS.goto X37.here hx rfl (pc0 := 100) (pc' := 104) rfl (hb hby at_100) (by decide) (by decide) k) ?_
    refine own_go (W1 := T37.setTop (mkF m 106 #[.val (.int i0), .val (.int i1), .val (.int (3 : Int32)), .val (.ref r0), .val (.ref r1), .val (.ref r2), .val (.ref g), .val (.int (1 : Int32))] [])) (fun t k => XS.istore X37.here hx rfl (hb hby at_104) rfl (l' := #[.val (.int i0), .val (.int i1), .val (.int (3 : Int32)), .val (.ref r0), .val (.ref r1), .val (.ref r2), .val (.ref g), .val (.int (1 : Int32))]) rfl k) ?_
    refine own_go (W1 := T37.setTop (mkF m 107 #[.val (.int i0), .val (.int i1), .val (.int (3 : Int32)), .val (.ref r0), .val (.ref r1), .val (.ref r2), .val (.ref g), .val (.int (1 : Int32))] [(.int (3 : Int32))])) (fun t k => XS.iloadN X37.here hx rfl (hb hby at_106) rfl  k) ?_
    refine own_go (W1 := T37.setTop (mkF m 108 #[.val (.int i0), .val (.int i1), .val (.int (3 : Int32)), .val (.ref r0), .val (.ref r1), .val (.ref r2), .val (.ref g), .val (.int (1 : Int32))] [(.int (3 : Int32)), (.int (3 : Int32))])) (fun t k => XS.iconst X37.here hx rfl (hb hby at_107) k) ?_
    refine own_go (W1 := T37.setTop (mkF m 111 #[.val (.int i0), .val (.int i1), .val (.int (3 : Int32)), .val (.ref r0), .val (.ref r1), .val (.ref r2), .val (.ref g), .val (.int (1 : Int32))] [])) (fun t k => XS.icmpNo X37.here hx rfl (hb hby at_108) rfl (flt (show ¬ ((3 : Int32) < (3 : Int32)) from (by decide))).1 k) ?_
    refine own_go (W1 := T37.setTop (mkF m 113 #[.val (.int i0), .val (.int i1), .val (.int (3 : Int32)), .val (.ref r0), .val (.ref r1), .val (.ref r2), .val (.ref g), .val (.int (1 : Int32))] [(.ref g)])) (fun t k => XS.aload X37.here hx rfl (hb hby at_111) rfl rfl  k) ?_
    refine own_go (W1 := T37.setTop (mkF m 115 #[.val (.int i0), .val (.int i1), .val (.int (3 : Int32)), .val (.ref r0), .val (.ref r1), .val (.ref r2), .val (.ref g), .val (.int (1 : Int32))] [(.ref r2), (.ref g)])) (fun t k => XS.aload X37.here hx rfl (hb hby at_113) rfl rfl  k) ?_
    obtain ⟨cq38, kq38, q38a, q38b, q38c⟩ := isOf hZ eh37 E_g
    obtain ⟨_, _, ⟨T38, L38, k38, n38⟩, -, X38, ⟨Lc38, hQ38, l38, y38, z38⟩, st38⟩ := X37.virtualBack hx (y := (⟨"com/example/cerb3rus/cerb3rus/combining/Gathered", "add", "(Lcom/example/cerb3rus/cerb3rus/evaluation/Result;)V"⟩ : MethodName)) (z := (⟨"com/example/cerb3rus/cerb3rus/combining/Gathered", "add", "(Lcom/example/cerb3rus/cerb3rus/evaluation/Result;)V"⟩ : MethodName)) hown (mvT hZ (hw _ (List.mem_of_getElem? (i := 53) rfl))) (mvT hZ (hw _ (List.mem_of_getElem? (i := 54) rfl))) (notFace_of_selects (args := #[]) (mvT hZ (hw _ (List.mem_of_getElem? (i := 56) rfl)))) (mvT hZ (hw _ (List.mem_of_getElem? (i := 56) rfl))) (mvT hZ (hw _ (List.mem_of_getElem? (i := 55) rfl))) (by decide) (backOf (W := 0) (rmA1 l Z a0 hw [] g r2 r0 b1 b2 ob u mr ku ((0 : Int32) + 1) ((0 : Int32) + 1) T36.heap n0 Z36 F_first_g F_laterObligations_g F_laterAdvice_g E_b1 F_m_b1 E_b2 F_m_b2 ge_b1 ge_b2 ne_g_b1 ne_g_b2 ne_b1_b2 Xo hr2 hl M) hZ (hw _ (List.mem_of_getElem? (i := 57) rfl)) (hw _ (List.mem_of_getElem? (i := 11) rfl)) (by decide) (by decide)) q38a q38c (g := (mkF m 115 #[.val (.int i0), .val (.int i1), .val (.int (3 : Int32)), .val (.ref r0), .val (.ref r1), .val (.ref r2), .val (.ref g), .val (.int (1 : Int32))] [(.ref r2), (.ref g)])) rfl (by rw [hml]; rfl) (Steps.refl _) (argsL := [(.ref r2)]) (rest := []) (lenOf own_pd3 rfl) rfl (by show 2 * 0 + _ ≤ _; exact Nat.le_of_eq rfl) (hb hby at_115) (fun _ _ => ⟨rfl, eh37, (by decide : 5 + 2 ≤ _), (by decide : 9 + 0 ≤ _)⟩)
    dsimp only [Pt.U, Pt.locs, Pt.cells, Pt.slots] at X38 l38 y38 z38 st38 hQ38
    subst l38 y38 z38
    obtain ⟨rfl, Nq38, Kq38, Ex1, Fm1, Ex2, Fm2⟩ := hQ38
    have Xo := Xo.keep Kq38 (allS ge_b1 (allS ge_b2 all0))
    have E_g := E_g.keep Kq38
    have E_b1 := E_b1.keep Kq38
    have E_b2 := E_b2.keep Kq38
    have F_first_g := F_first_g.keep Kq38 (ninS ne_g_b1 (ninS ne_g_b2 nin0))
    have F_laterObligations_g := F_laterObligations_g.keep Kq38 (ninS ne_g_b1 (ninS ne_g_b2 nin0))
    have F_laterAdvice_g := F_laterAdvice_g.keep Kq38 (ninS ne_g_b1 (ninS ne_g_b2 nin0))
    have Z38 : n0 ≤ T38.heap.size := Nat.le_trans Z36 Kq38.1
    have N38 := Fr.app N37 Nq38
    have F_m_b1 := Fm1
    have F_m_b2 := Fm2
    refine own_tr (W1 := T38.setTop (mkF m 118 #[.val (.int i0), .val (.int i1), .val (.int (3 : Int32)), .val (.ref r0), .val (.ref r1), .val (.ref r2), .val (.ref g), .val (.int (1 : Int32))] [])) st38 ?_
    refine own_go (W1 := T38.setTop (mkF m 120 #[.val (.int i0), .val (.int i1), .val (.int (3 : Int32)), .val (.ref r0), .val (.ref r1), .val (.ref r2), .val (.ref g), .val (.int (1 : Int32))] [(.int (1 : Int32))])) (fun t k => XS.iload X38.here hx rfl (hb hby at_118) rfl  k) ?_
    refine own_go (W1 := T38.setTop (mkF m 123 #[.val (.int i0), .val (.int i1), .val (.int (3 : Int32)), .val (.ref r0), .val (.ref r1), .val (.ref r2), .val (.ref g), .val (.int (1 : Int32))] [])) (fun t k => XS.ifNo X38.here hx rfl (hb hby at_120) rfl ((if0 _ _).trans (feq (show ¬ ((1 : Int32) = (0 : Int32)) from (by decide))).1) k) ?_
    refine own_go (W1 := T38.setTop (mkF m 125 #[.val (.int i0), .val (.int i1), .val (.int (3 : Int32)), .val (.ref r0), .val (.ref r1), .val (.ref r2), .val (.ref g), .val (.int (1 : Int32))] [(.ref g)])) (fun t k => XS.aload X38.here hx rfl (hb hby at_123) rfl rfl  k) ?_
    obtain ⟨cq39, kq39, q39a, q39b, q39c⟩ := isOf hZ (rfl : T38.heap = T38.heap) E_g
    obtain ⟨_, _, ⟨T39, L39, k39, n39⟩, -, X39, ⟨Lc39, hQ39, l39, y39, z39⟩, st39⟩ := X38.virtualBack hx (y := (⟨"com/example/cerb3rus/cerb3rus/combining/Gathered", "isEmpty", "()Z"⟩ : MethodName)) (z := (⟨"com/example/cerb3rus/cerb3rus/combining/Gathered", "isEmpty", "()Z"⟩ : MethodName)) hown (mvT hZ (hw _ (List.mem_of_getElem? (i := 46) rfl))) (mvT hZ (hw _ (List.mem_of_getElem? (i := 47) rfl))) (notFace_of_selects (args := #[]) (mvT hZ (hw _ (List.mem_of_getElem? (i := 49) rfl)))) (mvT hZ (hw _ (List.mem_of_getElem? (i := 49) rfl))) (mvT hZ (hw _ (List.mem_of_getElem? (i := 48) rfl))) (by decide) (backOf (W := 0) (rmE0 l Z a0 hw [] g r0 T38.heap n0 Z38 F_first_g) hZ (hw _ (List.mem_of_getElem? (i := 50) rfl)) (hw _ (List.mem_of_getElem? (i := 11) rfl)) (by decide) (by decide)) q39a q39c (g := (mkF m 125 #[.val (.int i0), .val (.int i1), .val (.int (3 : Int32)), .val (.ref r0), .val (.ref r1), .val (.ref r2), .val (.ref g), .val (.int (1 : Int32))] [(.ref g)])) rfl (by rw [hml]; rfl) (Steps.refl _) (argsL := []) (rest := []) (lenOf own_pd2 rfl) rfl (by show 2 * 0 + _ ≤ _; exact Nat.le_of_eq rfl) (hb hby at_125) (fun _ _ => ⟨rfl, (rfl : T38.heap = T38.heap), (by decide : 7 + 0 ≤ _), (by decide : 9 + 0 ≤ _)⟩)
    dsimp only [Pt.U, Pt.locs, Pt.cells, Pt.slots] at X39 l39 y39 z39 st39 hQ39
    subst l39 y39 z39
    obtain ⟨rfl, Nq39, eh39⟩ := hQ39
    have N39 := Fr.app N38 Nq39
    refine own_tr (W1 := T39.setTop (mkF m 128 #[.val (.int i0), .val (.int i1), .val (.int (3 : Int32)), .val (.ref r0), .val (.ref r1), .val (.ref r2), .val (.ref g), .val (.int (1 : Int32))] [(.int (0 : Int32))])) st39 ?_
    refine own_go (W1 := T39.setTop (mkF m 131 #[.val (.int i0), .val (.int i1), .val (.int (3 : Int32)), .val (.ref r0), .val (.ref r1), .val (.ref r2), .val (.ref g), .val (.int (1 : Int32))] [])) (fun t k => XS.ifNo X39.here hx rfl (hb hby at_128) rfl ((if0 _ _).trans (teq (show (0 : Int32) = (0 : Int32) from (by decide))).2) k) ?_
    refine own_go (W1 := T39.setTop (mkF m 132 #[.val (.int i0), .val (.int i1), .val (.int (3 : Int32)), .val (.ref r0), .val (.ref r1), .val (.ref r2), .val (.ref g), .val (.int (1 : Int32))] [(.int (1 : Int32))])) (fun t k => XS.iconst X39.here hx rfl (hb hby at_131) k) ?_
    refine own_go (W1 := T39.setTop (mkF m 136 #[.val (.int i0), .val (.int i1), .val (.int (3 : Int32)), .val (.ref r0), .val (.ref r1), .val (.ref r2), .val (.ref g), .val (.int (1 : Int32))] [(.int (1 : Int32))])) (fun t k => XS.goto X39.here hx rfl (pc0 := 132) (pc' := 136) rfl (hb hby at_132) (by decide) (by decide) k) ?_
    refine own_go (W1 := T39.setTop (mkF m 138 #[.val (.int i0), .val (.int i1), .val (.int (3 : Int32)), .val (.ref r0), .val (.ref r1), .val (.ref r2), .val (.ref g), .val (.int (1 : Int32))] [])) (fun t k => XS.istore X39.here hx rfl (hb hby at_136) rfl (l' := #[.val (.int i0), .val (.int i1), .val (.int (3 : Int32)), .val (.ref r0), .val (.ref r1), .val (.ref r2), .val (.ref g), .val (.int (1 : Int32))]) rfl k) ?_
    refine own_go (W1 := T39.setTop (mkF m 140 #[.val (.int i0), .val (.int i1), .val (.int (3 : Int32)), .val (.ref r0), .val (.ref r1), .val (.ref r2), .val (.ref g), .val (.int (1 : Int32))] [(.int (1 : Int32))])) (fun t k => XS.iload X39.here hx rfl (hb hby at_138) rfl  k) ?_
    refine own_go (W1 := T39.setTop (mkF m 143 #[.val (.int i0), .val (.int i1), .val (.int (3 : Int32)), .val (.ref r0), .val (.ref r1), .val (.ref r2), .val (.ref g), .val (.int (1 : Int32))] [])) (fun t k => XS.ifNo X39.here hx rfl (hb hby at_140) rfl ((if0 _ _).trans (feq (show ¬ ((1 : Int32) = (0 : Int32)) from (by decide))).1) k) ?_
    refine own_go (W1 := T39.setTop (mkF m 145 #[.val (.int i0), .val (.int i1), .val (.int (3 : Int32)), .val (.ref r0), .val (.ref r1), .val (.ref r2), .val (.ref g), .val (.int (1 : Int32))] [(.ref g)])) (fun t k => XS.aload X39.here hx rfl (hb hby at_143) rfl rfl  k) ?_
    obtain ⟨cq40, kq40, q40a, q40b, q40c⟩ := isOf hZ eh39 E_g
    obtain ⟨_, _, ⟨T40, L40, k40, n40⟩, -, X40, ⟨Lc40, hQ40, l40, y40, z40⟩, st40⟩ := X39.virtualBack hx (y := (⟨"com/example/cerb3rus/cerb3rus/combining/Gathered", "isEmpty", "()Z"⟩ : MethodName)) (z := (⟨"com/example/cerb3rus/cerb3rus/combining/Gathered", "isEmpty", "()Z"⟩ : MethodName)) hown (mvT hZ (hw _ (List.mem_of_getElem? (i := 46) rfl))) (mvT hZ (hw _ (List.mem_of_getElem? (i := 47) rfl))) (notFace_of_selects (args := #[]) (mvT hZ (hw _ (List.mem_of_getElem? (i := 49) rfl)))) (mvT hZ (hw _ (List.mem_of_getElem? (i := 49) rfl))) (mvT hZ (hw _ (List.mem_of_getElem? (i := 48) rfl))) (by decide) (backOf (W := 0) (rmE0 l Z a0 hw [] g r0 T38.heap n0 Z38 F_first_g) hZ (hw _ (List.mem_of_getElem? (i := 50) rfl)) (hw _ (List.mem_of_getElem? (i := 11) rfl)) (by decide) (by decide)) q40a q40c (g := (mkF m 145 #[.val (.int i0), .val (.int i1), .val (.int (3 : Int32)), .val (.ref r0), .val (.ref r1), .val (.ref r2), .val (.ref g), .val (.int (1 : Int32))] [(.ref g)])) rfl (by rw [hml]; rfl) (Steps.refl _) (argsL := []) (rest := []) (lenOf own_pd2 rfl) rfl (by show 2 * 0 + _ ≤ _; exact Nat.le_of_eq rfl) (hb hby at_145) (fun _ _ => ⟨rfl, eh39, (by decide : 7 + 0 ≤ _), (by decide : 9 + 0 ≤ _)⟩)
    dsimp only [Pt.U, Pt.locs, Pt.cells, Pt.slots] at X40 l40 y40 z40 st40 hQ40
    subst l40 y40 z40
    obtain ⟨rfl, Nq40, eh40⟩ := hQ40
    have N40 := Fr.app N39 Nq40
    refine own_tr (W1 := T40.setTop (mkF m 148 #[.val (.int i0), .val (.int i1), .val (.int (3 : Int32)), .val (.ref r0), .val (.ref r1), .val (.ref r2), .val (.ref g), .val (.int (1 : Int32))] [(.int (0 : Int32))])) st40 ?_
    refine own_go (W1 := T40.setTop (mkF m 149 #[.val (.int i0), .val (.int i1), .val (.int (3 : Int32)), .val (.ref r0), .val (.ref r1), .val (.ref r2), .val (.ref g), .val (.int (1 : Int32))] [(.int (3 : Int32)), (.int (0 : Int32))])) (fun t k => XS.iloadN X40.here hx rfl (hb hby at_148) rfl  k) ?_
    refine own_go (W1 := T40.setTop (mkF m 156 #[.val (.int i0), .val (.int i1), .val (.int (3 : Int32)), .val (.ref r0), .val (.ref r1), .val (.ref r2), .val (.ref g), .val (.int (1 : Int32))] [(.int (0 : Int32))])) (fun t k => XS.ifYes X40.here hx rfl (pc0 := 149) (pc' := 156) rfl (hb hby at_149) rfl ((if0 _ _).trans (feq (show ¬ ((3 : Int32) = (0 : Int32)) from (by decide))).2) (by decide) (by decide) k) ?_
    refine own_go (W1 := T40.setTop (mkF m 157 #[.val (.int i0), .val (.int i1), .val (.int (3 : Int32)), .val (.ref r0), .val (.ref r1), .val (.ref r2), .val (.ref g), .val (.int (1 : Int32))] [(.int (0 : Int32)), (.int (0 : Int32))])) (fun t k => XS.iconst X40.here hx rfl (hb hby at_156) k) ?_
    refine own_go (W1 := T40.setTop (mkF m 160 #[.val (.int i0), .val (.int i1), .val (.int (3 : Int32)), .val (.ref r0), .val (.ref r1), .val (.ref r2), .val (.ref g), .val (.int (1 : Int32))] [])) (fun t k => XS.icmpNo X40.here hx rfl (hb hby at_157) rfl (teq (show (0 : Int32) = (0 : Int32) from (by decide))).2 k) ?_
    refine own_go (W1 := T40.setTop (mkF m 161 #[.val (.int i0), .val (.int i1), .val (.int (3 : Int32)), .val (.ref r0), .val (.ref r1), .val (.ref r2), .val (.ref g), .val (.int (1 : Int32))] [(.int (1 : Int32))])) (fun t k => XS.iconst X40.here hx rfl (hb hby at_160) k) ?_
    refine own_go (W1 := T40.setTop (mkF m 165 #[.val (.int i0), .val (.int i1), .val (.int (3 : Int32)), .val (.ref r0), .val (.ref r1), .val (.ref r2), .val (.ref g), .val (.int (1 : Int32))] [(.int (1 : Int32))])) (fun t k => XS.goto X40.here hx rfl (pc0 := 161) (pc' := 165) rfl (hb hby at_161) (by decide) (by decide) k) ?_
    refine own_go (W1 := T40.setTop (mkF m 167 #[.val (.int i0), .val (.int i1), .val (.int (3 : Int32)), .val (.ref r0), .val (.ref r1), .val (.ref r2), .val (.ref g), .val (.int (1 : Int32))] [])) (fun t k => XS.istore X40.here hx rfl (hb hby at_165) rfl (l' := #[.val (.int i0), .val (.int i1), .val (.int (3 : Int32)), .val (.ref r0), .val (.ref r1), .val (.ref r2), .val (.ref g), .val (.int (1 : Int32))]) rfl k) ?_
    refine own_go (W1 := T40.setTop (mkF m 169 #[.val (.int i0), .val (.int i1), .val (.int (3 : Int32)), .val (.ref r0), .val (.ref r1), .val (.ref r2), .val (.ref g), .val (.int (1 : Int32))] [(.int (1 : Int32))])) (fun t k => XS.iload X40.here hx rfl (hb hby at_167) rfl  k) ?_
    exact own_retN X40 hx (t := .boolean) Bd.returns (by simp) (hb hby at_169) hlk (by decide) (by decide) ⟨rfl, N40⟩
theorem own_empty {s : State} {args : Array Value} {t : Jvm.Term} {a : Addr} {cl : Cell} {ty : FieldType} {dv : Value} (ev : t.eval args s none [] s = some (.ref a)) (A : Arr s s.heap a cl ty) (h : (Jvm.Term.length t).eval args s none [] s = some (.int 0)) : Arv s s.heap a cl.cls ty 0 [] dv := by
  obtain ⟨x, c, e1, e2, e3⟩ := Term.length_spec h
  cases ev.symm.trans e1
  cases (Arr.fin (Vm.Alike.refl _) A).symm.trans e2
  have h31 := SBG.length_lt ev e2 h
  have hz : cl.slots.size = 0 := by
    have q := congrArg Int32.toInt (Value.int.inj e3)
    rw [len_toInt h31] at q
    have e0 : (0 : Int32).toInt = 0 := rfl
    omega
  exact ⟨cl, A, rfl, by rw [hz]; rfl, by decide, fun k hk => by omega, fun k hk => by omega⟩
theorem own_eqR {s : State} {args : Array Value} {t u : Jvm.Term} {a : Addr} (h : (Jvm.Cond.eq t u).value args s none s [] = some true) (ev : u.eval args s none [] s = some (.ref a)) : t.eval args s none [] s = some (.ref a) := by
  obtain ⟨x, y, e1, e2, k1, k2⟩ := cmp_v (Or.inl h)
  cases ev.symm.trans e2
  cases x <;> simp [Kin, Value.isRef] at k1 k2 <;> simp [Jvm.Cond.value, e1, ev] at h
  rw [e1, h]
set_option maxRecDepth 65536 in
set_option maxHeartbeats 40000000 in
theorem comes_1 {Post : Tables → Env → Array Value → State → Outcome → State → Prop} (hpost : ∀ tb e args s v u, (limb_1_1.after args s (.returned v) u = true ∧ limb_1_2.after args s (.returned v) u = true ∧ True) → FrameEnd s (.returned v) u (Jvm.fieldLocs frame_1_writes args s ++ Jvm.arrayLocs frame_1_arrays args s ++ Jvm.staticLocs frame_1_statics s) 24 128 → Post tb e args s (.returned v) u) :
    ArmFor flags0 classFile x code maxLocals ret World_1 tables_1 room_1 Calls_1 rest_1 Pre_1 Post := by
  intro l hfl _ _ p e ha hc hk s m args below hf hA hF happ hP
  obtain ⟨hcalls, hrest, hpre⟩ := hP
  obtain ⟨-, -, -, hnamed, -, -, -, hat⟩ := (Spec.applies_iff hf).mp happ
  obtain ⟨hg, hn⟩ := and_e (Cond.before_iff.mp (show (Jvm.Cond.and given_1 narrow_1).before args s = true from hpre))
  obtain ⟨gc, hg⟩ := and_e hg
  obtain ⟨ga0, hg⟩ := and_e hg
  have ga1 := hg
  obtain ⟨w0, w1, rfl⟩ : ∃ w0 w1 : Value, args = #[w0, w1] := by
    have hs : args.size = 2 := by simpa [Cond.value, given_1] using gc
    obtain ⟨L⟩ := args
    match L, hs with
    | [w0, w1], _ => exact ⟨w0, w1, rfl⟩
  have hw := fun d (hd : d ∈ tables_1) => atoms_spec (ws := Jvm.Cond.code x code maxLocals ret :: tables_1) hat d (List.mem_cons_of_mem _ hd)
  have hfit : Fit s := fun {y c} hc i hi => by
    obtain ⟨ha, rfl⟩ := Array.getElem?_eq_some_iff.mp hc
    have q := List.all_eq_true.mp ((Array.all_eq_true_iff_forall_mem.mp hF) _ (Array.getElem_mem ha)) i (List.mem_range.mpr hi)
    simpa [Array.getElem?_eq_getElem hi] using q
  obtain ⟨i0, ei0⟩ := is_v ga0
  obtain rfl : w0 = (.int i0) := Option.some.inj ei0
  obtain ⟨i1, ei1⟩ := is_v ga1
  obtain rfl : w1 = (.int i1) := Option.some.inj ei1
  obtain ⟨nw0, hn⟩ := and_e hn
  obtain ⟨nw1, hn⟩ := and_e hn
  obtain ⟨nw2, hn⟩ := and_e hn
  obtain ⟨nw3, hn⟩ := and_e hn
  obtain ⟨nw4, hn⟩ := and_e hn
  obtain ⟨nw5, hn⟩ := and_e hn
  obtain ⟨nw6, hn⟩ := and_e hn
  obtain ⟨nw7, hn⟩ := and_e hn
  have nw8 := hn
  obtain ⟨hsets, -⟩ := atoms_of _ (rest_1_c_eq ▸ (show rest_1_c.before _ s = true from hrest))
  obtain ⟨sP, evP⟩ := exa_v nw0
  have E_P := Exa.start evP nw0
  have SP := Sta.start evP (Or.inr ⟨(hw _ (List.mem_of_getElem? (i := 5) rfl)), (hw _ (List.mem_of_getElem? (i := 6) rfl))⟩)
  obtain ⟨sD, evD⟩ := exa_v nw1
  have E_D := Exa.start evD nw1
  have SDn := Sta.start evD (Or.inr ⟨(hw _ (List.mem_of_getElem? (i := 5) rfl)), (hw _ (List.mem_of_getElem? (i := 8) rfl))⟩)
  obtain ⟨ob, evO⟩ := exa_v nw2
  have E_ob := Exa.start evO nw2
  have F_DO := Fld.start ((fld_at evD).symm.trans evO)
  obtain ⟨u, evU⟩ := exa_v nw4
  have E_u := Exa.start evU nw4
  have F_el := Fld.start ((fld_at evO).symm.trans evU)
  obtain ⟨cl, Aru⟩ := Arr.start evU nw3
  have hlen := Cond.eq_int (beq_iff_eq.mpr nw5) rfl
  have V_u := own_empty (dv := .null) evU Aru hlen
  have F_DA := Fld.start ((fld_at evD).symm.trans (own_eqR nw6 evO))
  have F_PO := Fld.start ((fld_at evP).symm.trans (own_eqR nw7 evO))
  have F_PA := Fld.start ((fld_at evP).symm.trans (own_eqR nw8 evO))
  obtain ⟨dd, evDD⟩ := exa_v (Cond.before_iff.mp (hsets _ (List.mem_of_getElem? (i := 7) rfl)))
  have SD := Sta.start evDD (Or.inr ⟨(hw _ (List.mem_of_getElem? (i := 20) rfl)), hsets _ (List.mem_of_getElem? (i := 2) rfl)⟩)
  obtain ⟨cM, kM, mr, f1, f2, f3, f4⟩ := hcalls.1
  obtain ⟨n, o, h1, h2, h3, _, L, rfl, ⟨rfl, N⟩, hq⟩ := rm0 l s _ hw tables_1 i0 i1 dd sP sD ob u mr cl.cls s.heap s.heap.size (Nat.le_refl _) (Old.start s) SD SP SDn ⟨E_P, F_PO, F_PA⟩ ⟨E_D, F_DO, F_DA⟩ ⟨E_ob, F_el, E_u, V_u⟩ ⟨cM, kM, f1, f2, f3, f4⟩ p e ha hc hk s m _ below hf ((Spec.applies_iff_loose hf).mp happ).1 ⟨rfl, State.Warmed39.refl s, rfl⟩ trivial
  refine ⟨n, _, h1, h2, h3, hpost _ _ _ _ _ _ ⟨Cond.after_iff.mpr rfl, Cond.after_iff.mpr (eq_i res_at (Term.int_eval (1)) rfl), trivial⟩ ⟨hq.1, hq.2.1, (hq.2.2.sift fun y hy => Or.inr (N y hy)).mono (by decide) (by decide)⟩⟩
theorem main_1_1 : Claimed_1_1 := comes_1 fun _ _ _ _ _ _ h hF => ⟨h.1, hF⟩
theorem main_1_2 : Claimed_1_2 := comes_1 fun _ _ _ _ _ _ h hF => ⟨h.2.1, hF⟩
end Jvm.Pilot.@@N@@
namespace Jvm.Pilot.@@N@@
open Jvm Jvm.ClassFile Sem Op Lib Jvm.Free Jvm.Stand Jvm.Pilot.@@N@@.Jvm.D
/-! MADE BY PROGRAM (witnessworld.py) out of the Statement's table words and the real class files: 26 classes; the members and pool entries that the words name. The judged class is class 1, her method 2. -/
namespace start1
open Jvm.ClassFile
def u (s : String) : CpInfo := .utf8 (stringToUtf16 s)
/-- a pool by its gaps: so many unusable entries, then the entry; so many at the end -/
def gap : Nat → List CpInfo → List CpInfo
  | 0, r => r
  | n + 1, r => .unusable :: gap n r
def poolList (es : List (Nat × CpInfo)) (last : Nat) : List CpInfo := es.foldr (fun e r => gap e.1 (e.2 :: r)) (gap last [])
def pool (es : List (Nat × CpInfo)) (last : Nat) : Array CpInfo := ⟨poolList es last⟩
def fileOf (pool : Array CpInfo) (this : Nat) (attrs : Array Attribute := #[]) (ms : Array MethodInfo := #[]) (fl : Nat := 33) (sup : Nat := 0) (ifs : Array Nat := #[]) (fds : Array FieldInfo := #[]) : ClassFile where
  minorVersion := 0
  majorVersion := 65
  constantPool := pool
  accessFlags := fl
  thisClass := this
  superClass := sup
  interfaces := ifs
  fields := fds
  methods := ms
  attributes := attrs
def plain (name : String) (sup : Option ClassId) : Class where
  name := name
  kind := .ordinary
  loader := none
  accessFlags := 33
  super := sup
  interfaces := #[]
  cf := none
  fields := #[]
  methods := #[]
  instanceTypes := #[]
  staticTypes := #[]
  resolved := #[]
  callSites := []
  init := .initialized
  statics := none
  mirror := none

def pool0 : Array CpInfo := pool [(5, u "<init>"), (0, u "()V"), (1, .class_ 10), (1, u "java/lang/Object"), (0, u "getClass"), (0, u "()Ljava/lang/Class;")] 111

def k0c0 : Code := { maxStack := 0, maxLocals := 1, code := object_method_1_code, exceptionTable := #[], attributes := #[] }
def k0m0 : Method := { name := "<init>", desc := "()V", sig := { parameters := [], returnType := none }, accessFlags := 1, code := some k0c0 }
def k0m1 : Method := { name := "getClass", desc := "()Ljava/lang/Class;", sig := { parameters := [], returnType := some (.object "java/lang/Class") }, accessFlags := 273, code := none }
/-- java/lang/Object -/
def k0 : Class := { plain "java/lang/Object" none with
  accessFlags := 33
  interfaces := #[]
  cf := some (fileOf pool0 8 #[] #[{ accessFlags := 1, nameIndex := 5, descriptorIndex := 6, attributes := #[] }, { accessFlags := 273, nameIndex := 11, descriptorIndex := 12, attributes := #[] }] 33 0 #[] #[])
  fields := #[]
  methods := #[k0m0, k0m1]
  instanceTypes := #[]
  staticTypes := #[]
  resolved := Array.replicate 124 none
  statics := none }

def pool1 : Array CpInfo := pool [(2, .class_ 4), (0, .nameAndType 5 6), (0, u "java/lang/Object"), (0, u "<init>"), (0, u "()V"), (0, .fieldref 8 9), (0, .class_ 10), (0, .nameAndType 11 12), (0, u "com/example/cerb3rus/cerb3rus/evaluation/Result"), (0, u "PERMIT"), (0, u "Lcom/example/cerb3rus/cerb3rus/evaluation/Result;"), (0, .fieldref 8 14), (0, .nameAndType 15 12), (0, u "DENY"), (0, .methodref 17 18), (0, .class_ 19), (0, .nameAndType 20 21), (0, u "com/example/cerb3rus/cerb3rus/combining/GatheredIsEmptyPinLaw"), (0, u "pick"), (0, u "(I)Lcom/example/cerb3rus/cerb3rus/evaluation/Result;"), (0, .class_ 23), (0, u "com/example/cerb3rus/cerb3rus/combining/Gathered"), (0, .methodref 22 3), (0, .methodref 22 26), (0, .nameAndType 27 28), (0, u "isEmpty"), (0, u "()Z"), (0, .methodref 22 30), (0, .nameAndType 31 32), (0, u "add"), (0, u "(Lcom/example/cerb3rus/cerb3rus/evaluation/Result;)V"), (3, u "law"), (0, u "(II)Z")] 2

def k1m0 : Method := { name := "<init>", desc := "()V", sig := { parameters := [], returnType := none }, accessFlags := 1, code := none }
def k1c1 : Code := { maxStack := 1, maxLocals := 1, code := method_2_code, exceptionTable := #[], attributes := #[] }
def k1m1 : Method := { name := "pick", desc := "(I)Lcom/example/cerb3rus/cerb3rus/evaluation/Result;", sig := { parameters := [.int], returnType := some (.object "com/example/cerb3rus/cerb3rus/evaluation/Result") }, accessFlags := 10, code := some k1c1 }
def k1c2 : Code := { maxStack := 2, maxLocals := 8, code := code, exceptionTable := #[], attributes := #[] }
def k1m2 : Method := { name := "law", desc := "(II)Z", sig := { parameters := [.int, .int], returnType := some .boolean }, accessFlags := 9, code := some k1c2 }
/-- com/example/cerb3rus/cerb3rus/combining/GatheredIsEmptyPinLaw -/
def k1 : Class := { plain "com/example/cerb3rus/cerb3rus/combining/GatheredIsEmptyPinLaw" (some 0) with
  accessFlags := 49
  interfaces := #[]
  cf := some (fileOf pool1 17 #[] #[{ accessFlags := 1, nameIndex := 5, descriptorIndex := 6, attributes := #[] }, { accessFlags := 10, nameIndex := 20, descriptorIndex := 21, attributes := #[] }, { accessFlags := 9, nameIndex := 36, descriptorIndex := 37, attributes := #[] }] 49 2 #[] #[])
  fields := #[]
  methods := #[k1m0, k1m1, k1m2]
  instanceTypes := #[]
  staticTypes := #[]
  resolved := Array.replicate 40 none
  statics := none }

def pool2 : Array CpInfo := pool [(6, u "()Ljava/util/List;"), (6, .class_ 15), (1, u "com/example/cerb3rus/cerb3rus/evaluation/Result"), (3, .class_ 21), (1, u "java/lang/Object"), (3, u "decision"), (0, u "Lcom/example/cerb3rus/cerb3rus/evaluation/Decision;"), (2, u "status"), (0, u "Lcom/example/cerb3rus/cerb3rus/evaluation/Status;"), (0, .fieldref 13 32), (0, .nameAndType 33 34), (0, u "obligations"), (0, u "Ljava/util/List;"), (0, .fieldref 13 36), (0, .nameAndType 37 34), (0, u "advice"), (2, u "attributes"), (0, u "Ljava/util/Map;"), (2, u "policyIdentifiers"), (111, u "PERMIT"), (10, u "Lcom/example/cerb3rus/cerb3rus/evaluation/Result;"), (2, u "DENY"), (4, u "NOT_APPLICABLE")] 64

def k2c0 : Code := { maxStack := 1, maxLocals := 1, code := prog_32_method_9_code, exceptionTable := #[], attributes := #[] }
def k2m0 : Method := { name := "obligations", desc := "()Ljava/util/List;", sig := { parameters := [], returnType := some (.object "java/util/List") }, accessFlags := 1, code := some k2c0 }
def k2c1 : Code := { maxStack := 1, maxLocals := 1, code := prog_32_method_10_code, exceptionTable := #[], attributes := #[] }
def k2m1 : Method := { name := "advice", desc := "()Ljava/util/List;", sig := { parameters := [], returnType := some (.object "java/util/List") }, accessFlags := 1, code := some k2c1 }
/-- com/example/cerb3rus/cerb3rus/evaluation/Result -/
def k2 : Class := { plain "com/example/cerb3rus/cerb3rus/evaluation/Result" (some 0) with
  accessFlags := 33
  interfaces := #[]
  cf := some (fileOf pool2 13 #[] #[{ accessFlags := 1, nameIndex := 33, descriptorIndex := 6, attributes := #[] }, { accessFlags := 1, nameIndex := 37, descriptorIndex := 6, attributes := #[] }] 33 19 #[] #[{ accessFlags := 25, nameIndex := 156, descriptorIndex := 167, attributes := #[] }, { accessFlags := 25, nameIndex := 170, descriptorIndex := 167, attributes := #[] }, { accessFlags := 25, nameIndex := 175, descriptorIndex := 167, attributes := #[] }, { accessFlags := 18, nameIndex := 25, descriptorIndex := 26, attributes := #[] }, { accessFlags := 18, nameIndex := 29, descriptorIndex := 30, attributes := #[] }, { accessFlags := 18, nameIndex := 33, descriptorIndex := 34, attributes := #[] }, { accessFlags := 18, nameIndex := 37, descriptorIndex := 34, attributes := #[] }, { accessFlags := 18, nameIndex := 40, descriptorIndex := 41, attributes := #[] }, { accessFlags := 18, nameIndex := 44, descriptorIndex := 34, attributes := #[] }])
  fields := #[{ name := "PERMIT", type := (.object "com/example/cerb3rus/cerb3rus/evaluation/Result"), accessFlags := 25, slot := 0, constantValue := 0 }, { name := "DENY", type := (.object "com/example/cerb3rus/cerb3rus/evaluation/Result"), accessFlags := 25, slot := 1, constantValue := 0 }, { name := "NOT_APPLICABLE", type := (.object "com/example/cerb3rus/cerb3rus/evaluation/Result"), accessFlags := 25, slot := 2, constantValue := 0 }, { name := "decision", type := (.object "com/example/cerb3rus/cerb3rus/evaluation/Decision"), accessFlags := 18, slot := 0, constantValue := 0 }, { name := "status", type := (.object "com/example/cerb3rus/cerb3rus/evaluation/Status"), accessFlags := 18, slot := 1, constantValue := 0 }, { name := "obligations", type := (.object "java/util/List"), accessFlags := 18, slot := 2, constantValue := 0 }, { name := "advice", type := (.object "java/util/List"), accessFlags := 18, slot := 3, constantValue := 0 }, { name := "attributes", type := (.object "java/util/Map"), accessFlags := 18, slot := 4, constantValue := 0 }, { name := "policyIdentifiers", type := (.object "java/util/List"), accessFlags := 18, slot := 5, constantValue := 0 }]
  methods := #[k2m0, k2m1]
  instanceTypes := #[(.object "com/example/cerb3rus/cerb3rus/evaluation/Decision"), (.object "com/example/cerb3rus/cerb3rus/evaluation/Status"), (.object "java/util/List"), (.object "java/util/List"), (.object "java/util/Map"), (.object "java/util/List")]
  staticTypes := #[(.object "com/example/cerb3rus/cerb3rus/evaluation/Result"), (.object "com/example/cerb3rus/cerb3rus/evaluation/Result"), (.object "com/example/cerb3rus/cerb3rus/evaluation/Result")]
  resolved := Array.replicate 240 none
  statics := some 0 }

def pool3 : Array CpInfo := pool [(1, .methodref 2 3), (0, .class_ 4), (0, .nameAndType 5 6), (0, u "java/lang/Object"), (0, u "<init>"), (0, u "()V"), (0, .class_ 8), (0, u "java/util/ArrayList"), (0, .methodref 7 3), (0, .fieldref 11 12), (0, .class_ 13), (0, .nameAndType 14 15), (0, u "com/example/cerb3rus/cerb3rus/combining/Gathered"), (0, u "laterObligations"), (0, u "Ljava/util/List;"), (0, .fieldref 11 17), (0, .nameAndType 18 15), (0, u "laterAdvice"), (0, .fieldref 11 20), (0, .nameAndType 21 22), (0, u "first"), (0, u "Lcom/example/cerb3rus/cerb3rus/evaluation/Result;"), (0, .methodref 24 25), (0, .class_ 26), (0, .nameAndType 27 28), (0, u "com/example/cerb3rus/cerb3rus/evaluation/Result"), (0, u "obligations"), (0, u "()Ljava/util/List;"), (0, .interfaceMethodref 30 31), (0, .class_ 32), (0, .nameAndType 33 34), (0, u "java/util/List"), (0, u "addAll"), (0, u "(Ljava/util/Collection;)Z"), (0, .methodref 24 36), (0, .nameAndType 37 28), (0, u "advice"), (8, u "add"), (0, u "(Lcom/example/cerb3rus/cerb3rus/evaluation/Result;)V"), (1, u "isEmpty"), (0, u "()Z")] 4

def k3c0 : Code := { maxStack := 3, maxLocals := 1, code := prog_7_method_1_code, exceptionTable := #[], attributes := #[] }
def k3m0 : Method := { name := "<init>", desc := "()V", sig := { parameters := [], returnType := none }, accessFlags := 0, code := some k3c0 }
def k3c1 : Code := { maxStack := 2, maxLocals := 2, code := prog_7_method_2_code, exceptionTable := #[], attributes := #[] }
def k3m1 : Method := { name := "add", desc := "(Lcom/example/cerb3rus/cerb3rus/evaluation/Result;)V", sig := { parameters := [(.object "com/example/cerb3rus/cerb3rus/evaluation/Result")], returnType := none }, accessFlags := 0, code := some k3c1 }
def k3c2 : Code := { maxStack := 1, maxLocals := 1, code := prog_7_method_3_code, exceptionTable := #[], attributes := #[] }
def k3m2 : Method := { name := "isEmpty", desc := "()Z", sig := { parameters := [], returnType := some .boolean }, accessFlags := 0, code := some k3c2 }
/-- com/example/cerb3rus/cerb3rus/combining/Gathered -/
def k3 : Class := { plain "com/example/cerb3rus/cerb3rus/combining/Gathered" (some 0) with
  accessFlags := 32
  interfaces := #[]
  cf := some (fileOf pool3 11 #[] #[{ accessFlags := 0, nameIndex := 5, descriptorIndex := 6, attributes := #[] }, { accessFlags := 0, nameIndex := 46, descriptorIndex := 47, attributes := #[] }, { accessFlags := 0, nameIndex := 49, descriptorIndex := 50, attributes := #[] }] 32 2 #[] #[{ accessFlags := 2, nameIndex := 21, descriptorIndex := 22, attributes := #[] }, { accessFlags := 18, nameIndex := 14, descriptorIndex := 15, attributes := #[] }, { accessFlags := 18, nameIndex := 18, descriptorIndex := 15, attributes := #[] }])
  fields := #[{ name := "first", type := (.object "com/example/cerb3rus/cerb3rus/evaluation/Result"), accessFlags := 2, slot := 0, constantValue := 0 }, { name := "laterObligations", type := (.object "java/util/List"), accessFlags := 18, slot := 1, constantValue := 0 }, { name := "laterAdvice", type := (.object "java/util/List"), accessFlags := 18, slot := 2, constantValue := 0 }]
  methods := #[k3m0, k3m1, k3m2]
  instanceTypes := #[(.object "com/example/cerb3rus/cerb3rus/evaluation/Result"), (.object "java/util/List"), (.object "java/util/List")]
  staticTypes := #[]
  resolved := Array.replicate 55 none
  statics := none }

def pool4 : Array CpInfo := pool [(8, .class_ 10), (1, u "java/lang/Iterable"), (24, .class_ 36), (0, u "java/lang/Object")] 25

/-- java/lang/Iterable -/
def k4 : Class := { plain "java/lang/Iterable" (some 0) with
  accessFlags := 1537
  interfaces := #[]
  cf := some (fileOf pool4 8 #[] #[] 1537 35 #[] #[])
  fields := #[]
  methods := #[]
  instanceTypes := #[]
  staticTypes := #[]
  resolved := Array.replicate 62 none
  statics := none }

def pool5 : Array CpInfo := pool [(10, .class_ 12), (1, u "java/util/Collection"), (0, u "toArray"), (46, .class_ 61), (0, u "java/lang/Object"), (0, .class_ 63), (0, u "java/lang/Iterable"), (6, u "()[Ljava/lang/Object;")] 44

def k5m0 : Method := { name := "toArray", desc := "()[Ljava/lang/Object;", sig := { parameters := [], returnType := some (.array (.object "java/lang/Object")) }, accessFlags := 1025, code := none }
/-- java/util/Collection -/
def k5 : Class := { plain "java/util/Collection" (some 0) with
  accessFlags := 1537
  interfaces := #[4]
  cf := some (fileOf pool5 10 #[] #[{ accessFlags := 1025, nameIndex := 13, descriptorIndex := 70, attributes := #[] }] 1537 60 #[62] #[])
  fields := #[]
  methods := #[k5m0]
  instanceTypes := #[]
  staticTypes := #[]
  resolved := Array.replicate 115 none
  statics := none }

def pool6 : Array CpInfo := pool [(1, .methodref 2 3), (0, .class_ 4), (0, .nameAndType 5 6), (0, u "java/lang/Object"), (0, u "<init>"), (0, u "()V"), (1, .class_ 10), (1, u "java/util/AbstractCollection"), (66, .class_ 78), (0, u "java/util/Collection")] 81

def k6c0 : Code := { maxStack := 1, maxLocals := 1, code := jdk_22_method_1_code, exceptionTable := #[], attributes := #[] }
def k6m0 : Method := { name := "<init>", desc := "()V", sig := { parameters := [], returnType := none }, accessFlags := 4, code := some k6c0 }
/-- java/util/AbstractCollection -/
def k6 : Class := { plain "java/util/AbstractCollection" (some 0) with
  accessFlags := 1057
  interfaces := #[5]
  cf := some (fileOf pool6 8 #[] #[{ accessFlags := 4, nameIndex := 5, descriptorIndex := 6, attributes := #[] }] 1057 2 #[77] #[])
  fields := #[]
  methods := #[k6m0]
  instanceTypes := #[]
  staticTypes := #[]
  resolved := Array.replicate 160 none
  statics := none }

def pool7 : Array CpInfo := pool [(8, .class_ 10), (1, u "java/util/SequencedCollection"), (15, .class_ 27), (0, u "java/lang/Object"), (0, .class_ 29), (0, u "java/util/Collection")] 27

/-- java/util/SequencedCollection -/
def k7 : Class := { plain "java/util/SequencedCollection" (some 0) with
  accessFlags := 1537
  interfaces := #[5]
  cf := some (fileOf pool7 8 #[] #[] 1537 26 #[28] #[])
  fields := #[]
  methods := #[]
  instanceTypes := #[]
  staticTypes := #[]
  resolved := Array.replicate 57 none
  statics := none }

def pool8 : Array CpInfo := pool [(8, .class_ 10), (1, u "java/util/List"), (92, .class_ 104), (0, u "java/lang/Object"), (15, .class_ 121), (0, u "java/util/SequencedCollection"), (9, u "(Ljava/util/Collection;)Z"), (1, u "addAll")] 117

def k8m0 : Method := { name := "addAll", desc := "(Ljava/util/Collection;)Z", sig := { parameters := [(.object "java/util/Collection")], returnType := some .boolean }, accessFlags := 1025, code := none }
/-- java/util/List -/
def k8 : Class := { plain "java/util/List" (some 0) with
  accessFlags := 1537
  interfaces := #[7]
  cf := some (fileOf pool8 8 #[] #[{ accessFlags := 1025, nameIndex := 133, descriptorIndex := 131, attributes := #[] }] 1537 103 #[120] #[])
  fields := #[]
  methods := #[k8m0]
  instanceTypes := #[]
  staticTypes := #[]
  resolved := Array.replicate 251 none
  statics := none }

def pool9 : Array CpInfo := pool [(1, .methodref 2 3), (0, .class_ 4), (0, .nameAndType 5 6), (0, u "java/util/AbstractCollection"), (0, u "<init>"), (0, u "()V"), (0, .fieldref 8 9), (0, .class_ 10), (0, .nameAndType 11 12), (0, u "java/util/AbstractList"), (0, u "modCount"), (0, u "I"), (64, .class_ 78), (0, u "java/util/AbstractList$Itr"), (3, .class_ 83), (0, u "java/util/AbstractList$ListItr"), (9, .class_ 94), (0, u "java/util/AbstractList$RandomAccessSubList"), (3, .class_ 99), (0, u "java/util/AbstractList$SubList"), (33, .class_ 134), (0, u "java/util/List"), (73, .class_ 209), (0, u "java/util/AbstractList$SubList$1"), (0, .class_ 211), (0, u "java/util/AbstractList$RandomAccessSpliterator")] 6

def k9c0 : Code := { maxStack := 2, maxLocals := 1, code := jdk_39_method_1_code, exceptionTable := #[], attributes := #[] }
def k9m0 : Method := { name := "<init>", desc := "()V", sig := { parameters := [], returnType := none }, accessFlags := 4, code := some k9c0 }
/-- java/util/AbstractList -/
def k9 : Class := { plain "java/util/AbstractList" (some 6) with
  accessFlags := 1057
  interfaces := #[8]
  cf := some (fileOf pool9 8 #[.nestMembers #[93, 98, 208, 210, 82, 77]] #[{ accessFlags := 4, nameIndex := 5, descriptorIndex := 6, attributes := #[] }] 1057 2 #[133] #[{ accessFlags := 132, nameIndex := 11, descriptorIndex := 12, attributes := #[] }])
  fields := #[{ name := "modCount", type := .int, accessFlags := 132, slot := 0, constantValue := 0 }]
  methods := #[k9m0]
  instanceTypes := #[.int]
  staticTypes := #[]
  resolved := Array.replicate 218 none
  statics := none }

def pool10 : Array CpInfo := pool [(1, .class_ 2), (0, u "java/util/RandomAccess"), (0, .class_ 4), (0, u "java/lang/Object")] 2

/-- java/util/RandomAccess -/
def k10 : Class := { plain "java/util/RandomAccess" (some 0) with
  accessFlags := 1537
  interfaces := #[]
  cf := some (fileOf pool10 1 #[] #[] 1537 3 #[] #[])
  fields := #[]
  methods := #[]
  instanceTypes := #[]
  staticTypes := #[]
  resolved := Array.replicate 7 none
  statics := none }

def pool11 : Array CpInfo := pool [(1, .class_ 2), (0, u "java/lang/Cloneable"), (0, .class_ 4), (0, u "java/lang/Object")] 2

/-- java/lang/Cloneable -/
def k11 : Class := { plain "java/lang/Cloneable" (some 0) with
  accessFlags := 1537
  interfaces := #[]
  cf := some (fileOf pool11 1 #[] #[] 1537 3 #[] #[])
  fields := #[]
  methods := #[]
  instanceTypes := #[]
  staticTypes := #[]
  resolved := Array.replicate 7 none
  statics := none }

def pool12 : Array CpInfo := pool [(1, .class_ 2), (0, u "java/io/Serializable"), (0, .class_ 4), (0, u "java/lang/Object")] 2

/-- java/io/Serializable -/
def k12 : Class := { plain "java/io/Serializable" (some 0) with
  accessFlags := 1537
  interfaces := #[]
  cf := some (fileOf pool12 1 #[] #[] 1537 3 #[] #[])
  fields := #[]
  methods := #[]
  instanceTypes := #[]
  staticTypes := #[]
  resolved := Array.replicate 7 none
  statics := none }

def pool13 : Array CpInfo := pool [(1, .methodref 2 3), (0, .class_ 4), (0, .nameAndType 5 6), (0, u "java/util/AbstractList"), (0, u "<init>"), (0, u "()V"), (2, .fieldref 10 11), (0, .class_ 12), (0, .nameAndType 13 14), (0, u "java/util/ArrayList"), (0, u "elementData"), (0, u "[Ljava/lang/Object;"), (2, u "EMPTY_ELEMENTDATA"), (21, .fieldref 10 40), (0, .nameAndType 41 14), (0, u "DEFAULTCAPACITY_EMPTY_ELEMENTDATA"), (0, .interfaceMethodref 43 44), (0, .class_ 45), (0, .nameAndType 46 47), (0, u "java/util/Collection"), (0, u "toArray"), (0, u "()[Ljava/lang/Object;"), (2, u "size"), (0, u "I"), (11, .fieldref 10 64), (0, .nameAndType 65 51), (0, u "modCount"), (82, .class_ 149), (0, u "java/util/List"), (112, .class_ 263), (0, u "java/util/ArrayList$ListItr"), (3, .class_ 268), (0, u "java/util/ArrayList$Itr"), (7, .class_ 277), (0, u "java/util/ArrayList$SubList"), (12, .class_ 291), (0, u "java/util/ArrayList$ArrayListSpliterator"), (37, .class_ 330), (0, u "java/util/RandomAccess"), (0, .class_ 332), (0, u "java/lang/Cloneable"), (0, .class_ 334), (0, u "java/io/Serializable"), (0, u "serialVersionUID"), (0, u "J"), (3, u "DEFAULT_CAPACITY"), (79, u "addAll"), (0, u "(Ljava/util/Collection;)Z"), (78, .class_ 501), (0, u "java/util/ArrayList$SubList$2"), (0, .class_ 503), (0, u "java/util/ArrayList$SubList$1")] 5

def k13c0 : Code := { maxStack := 2, maxLocals := 1, code := jdk_38_method_2_code, exceptionTable := #[], attributes := #[] }
def k13m0 : Method := { name := "<init>", desc := "()V", sig := { parameters := [], returnType := none }, accessFlags := 1, code := some k13c0 }
def k13c1 : Code := { maxStack := 5, maxLocals := 6, code := jdk_38_method_41_code, exceptionTable := #[], attributes := #[] }
def k13m1 : Method := { name := "addAll", desc := "(Ljava/util/Collection;)Z", sig := { parameters := [(.object "java/util/Collection")], returnType := some .boolean }, accessFlags := 1, code := some k13c1 }
/-- java/util/ArrayList -/
def k13 : Class := { plain "java/util/ArrayList" (some 9) with
  accessFlags := 33
  interfaces := #[8, 10, 11, 12]
  cf := some (fileOf pool13 10 #[.nestMembers #[290, 276, 500, 502, 262, 267]] #[{ accessFlags := 1, nameIndex := 5, descriptorIndex := 6, attributes := #[] }, { accessFlags := 1, nameIndex := 420, descriptorIndex := 421, attributes := #[] }] 33 2 #[148, 329, 331, 333] #[{ accessFlags := 26, nameIndex := 335, descriptorIndex := 336, attributes := #[] }, { accessFlags := 26, nameIndex := 340, descriptorIndex := 51, attributes := #[] }, { accessFlags := 26, nameIndex := 17, descriptorIndex := 14, attributes := #[] }, { accessFlags := 26, nameIndex := 41, descriptorIndex := 14, attributes := #[] }, { accessFlags := 128, nameIndex := 13, descriptorIndex := 14, attributes := #[] }, { accessFlags := 2, nameIndex := 50, descriptorIndex := 51, attributes := #[] }])
  fields := #[{ name := "serialVersionUID", type := .long, accessFlags := 26, slot := 0, constantValue := 0 }, { name := "DEFAULT_CAPACITY", type := .int, accessFlags := 26, slot := 1, constantValue := 0 }, { name := "EMPTY_ELEMENTDATA", type := (.array (.object "java/lang/Object")), accessFlags := 26, slot := 2, constantValue := 0 }, { name := "DEFAULTCAPACITY_EMPTY_ELEMENTDATA", type := (.array (.object "java/lang/Object")), accessFlags := 26, slot := 3, constantValue := 0 }, { name := "elementData", type := (.array (.object "java/lang/Object")), accessFlags := 128, slot := 1, constantValue := 0 }, { name := "size", type := .int, accessFlags := 2, slot := 2, constantValue := 0 }]
  methods := #[k13m0, k13m1]
  instanceTypes := #[.int, (.array (.object "java/lang/Object")), .int]
  staticTypes := #[.long, .int, (.array (.object "java/lang/Object")), (.array (.object "java/lang/Object"))]
  resolved := Array.replicate 509 none
  statics := some 1 }

def pool14 : Array CpInfo := pool [(2, .class_ 4), (1, u "java/util/AbstractCollection"), (0, u "<init>"), (0, u "()V"), (1, .class_ 10), (1, u "java/util/ImmutableCollections"), (2, .class_ 14), (0, u "java/util/ImmutableCollections$AbstractImmutableCollection")] 41

def k14m0 : Method := { name := "<init>", desc := "()V", sig := { parameters := [], returnType := none }, accessFlags := 0, code := none }
/-- java/util/ImmutableCollections$AbstractImmutableCollection -/
def k14 : Class := { plain "java/util/ImmutableCollections$AbstractImmutableCollection" (some 6) with
  accessFlags := 1056
  interfaces := #[]
  cf := some (fileOf pool14 13 #[.nestHost 8] #[{ accessFlags := 0, nameIndex := 5, descriptorIndex := 6, attributes := #[] }] 1056 2 #[] #[])
  fields := #[]
  methods := #[k14m0]
  instanceTypes := #[]
  staticTypes := #[]
  resolved := Array.replicate 56 none
  statics := none }

def pool15 : Array CpInfo := pool [(2, .class_ 4), (1, u "java/util/ImmutableCollections$AbstractImmutableCollection"), (0, u "<init>"), (0, u "()V"), (1, .class_ 10), (1, u "java/util/ImmutableCollections"), (3, .class_ 16), (1, u "java/util/ImmutableCollections$AbstractImmutableList"), (60, .class_ 78), (0, u "java/util/List"), (45, .class_ 125), (0, u "java/util/RandomAccess")] 70

def k15m0 : Method := { name := "<init>", desc := "()V", sig := { parameters := [], returnType := none }, accessFlags := 0, code := none }
/-- java/util/ImmutableCollections$AbstractImmutableList -/
def k15 : Class := { plain "java/util/ImmutableCollections$AbstractImmutableList" (some 14) with
  accessFlags := 1056
  interfaces := #[8, 10]
  cf := some (fileOf pool15 14 #[.nestHost 8] #[{ accessFlags := 0, nameIndex := 5, descriptorIndex := 6, attributes := #[] }] 1056 2 #[77, 124] #[])
  fields := #[]
  methods := #[k15m0]
  instanceTypes := #[]
  staticTypes := #[]
  resolved := Array.replicate 196 none
  statics := none }

def pool16 : Array CpInfo := pool [(2, .class_ 4), (1, u "java/util/ImmutableCollections$AbstractImmutableList"), (2, .fieldref 8 9), (0, .class_ 10), (0, .nameAndType 11 12), (0, u "java/util/ImmutableCollections$ListN"), (0, u "elements"), (0, u "[Ljava/lang/Object;"), (2, u "allowNulls"), (0, u "Z"), (12, .methodref 30 31), (0, .class_ 32), (0, .nameAndType 33 34), (0, u "java/util/Arrays"), (0, u "copyOf"), (0, u "([Ljava/lang/Object;I)[Ljava/lang/Object;"), (24, .class_ 60), (0, u "java/io/Serializable"), (34, u "toArray"), (0, u "()[Ljava/lang/Object;"), (17, .class_ 115), (0, u "java/util/ImmutableCollections")] 3

def k16c0 : Code := { maxStack := 2, maxLocals := 1, code := jdk_45_method_7_code, exceptionTable := #[], attributes := #[] }
def k16m0 : Method := { name := "toArray", desc := "()[Ljava/lang/Object;", sig := { parameters := [], returnType := some (.array (.object "java/lang/Object")) }, accessFlags := 1, code := some k16c0 }
/-- java/util/ImmutableCollections$ListN -/
def k16 : Class := { plain "java/util/ImmutableCollections$ListN" (some 15) with
  accessFlags := 48
  interfaces := #[12]
  cf := some (fileOf pool16 8 #[.nestHost 114] #[{ accessFlags := 1, nameIndex := 95, descriptorIndex := 96, attributes := #[] }] 48 2 #[59] #[{ accessFlags := 18, nameIndex := 11, descriptorIndex := 12, attributes := #[] }, { accessFlags := 18, nameIndex := 15, descriptorIndex := 16, attributes := #[] }])
  fields := #[{ name := "elements", type := (.array (.object "java/lang/Object")), accessFlags := 18, slot := 0, constantValue := 0 }, { name := "allowNulls", type := .boolean, accessFlags := 18, slot := 1, constantValue := 0 }]
  methods := #[k16m0]
  instanceTypes := #[(.array (.object "java/lang/Object")), .boolean]
  staticTypes := #[]
  resolved := Array.replicate 119 none
  statics := none }

def pool17 : Array CpInfo := pool [(2, .class_ 4), (1, u "java/lang/Object"), (0, u "<init>"), (0, u "()V"), (7, .class_ 16), (1, u "java/util/Arrays"), (57, .class_ 76), (1, u "java/util/Arrays$NaturalOrder"), (9, .methodref 2 87), (0, .nameAndType 88 89), (0, u "getClass"), (0, u "()Ljava/lang/Class;"), (20, .class_ 111), (0, u "[Ljava/lang/Object;"), (1, .class_ 115), (1, u "java/util/Arrays$LegacyMergeSort"), (1, u "Z"), (32, .methodref 151 152), (0, .class_ 153), (0, .nameAndType 154 155), (0, u "java/lang/System"), (0, u "arraycopy"), (0, u "(Ljava/lang/Object;ILjava/lang/Object;II)V"), (144, .methodref 14 301), (0, .nameAndType 302 303), (0, u "copyOf"), (0, u "([Ljava/lang/Object;ILjava/lang/Class;)[Ljava/lang/Object;"), (0, .methodref 305 306), (0, .class_ 307), (0, .nameAndType 308 309), (0, u "java/lang/Math"), (0, u "min"), (0, u "(II)I"), (65, .class_ 376), (0, u "java/util/Arrays$ArrayList"), (68, u "$assertionsDisabled"), (269, u "MIN_ARRAY_SORT_GRAN"), (0, u "I"), (2, u "INSERTIONSORT_THRESHOLD"), (140, u "([Ljava/lang/Object;I)[Ljava/lang/Object;"), (114, .class_ 976), (0, u "java/util/Arrays$ArrayItr")] 52

def k17m0 : Method := { name := "<init>", desc := "()V", sig := { parameters := [], returnType := none }, accessFlags := 2, code := none }
def k17c1 : Code := { maxStack := 3, maxLocals := 2, code := jdk_65_method_119_code, exceptionTable := #[], attributes := #[] }
def k17m1 : Method := { name := "copyOf", desc := "([Ljava/lang/Object;I)[Ljava/lang/Object;", sig := { parameters := [(.array (.object "java/lang/Object")), .int], returnType := some (.array (.object "java/lang/Object")) }, accessFlags := 9, code := some k17c1 }
def k17c2 : Code := { maxStack := 6, maxLocals := 4, code := jdk_65_method_120_code, exceptionTable := #[], attributes := #[] }
def k17m2 : Method := { name := "copyOf", desc := "([Ljava/lang/Object;ILjava/lang/Class;)[Ljava/lang/Object;", sig := { parameters := [(.array (.object "java/lang/Object")), .int, (.object "java/lang/Class")], returnType := some (.array (.object "java/lang/Object")) }, accessFlags := 9, code := some k17c2 }
/-- java/util/Arrays -/
def k17 : Class := { plain "java/util/Arrays" (some 0) with
  accessFlags := 49
  interfaces := #[]
  cf := some (fileOf pool17 14 #[.nestMembers #[975, 375, 113, 74]] #[{ accessFlags := 2, nameIndex := 5, descriptorIndex := 6, attributes := #[] }, { accessFlags := 9, nameIndex := 302, descriptorIndex := 860, attributes := #[] }, { accessFlags := 9, nameIndex := 302, descriptorIndex := 303, attributes := #[] }] 49 2 #[] #[{ accessFlags := 26, nameIndex := 715, descriptorIndex := 716, attributes := #[] }, { accessFlags := 26, nameIndex := 719, descriptorIndex := 716, attributes := #[] }, { accessFlags := 4120, nameIndex := 445, descriptorIndex := 117, attributes := #[] }])
  fields := #[{ name := "MIN_ARRAY_SORT_GRAN", type := .int, accessFlags := 26, slot := 0, constantValue := 0 }, { name := "INSERTIONSORT_THRESHOLD", type := .int, accessFlags := 26, slot := 1, constantValue := 0 }, { name := "$assertionsDisabled", type := .boolean, accessFlags := 4120, slot := 2, constantValue := 0 }]
  methods := #[k17m0, k17m1, k17m2]
  instanceTypes := #[]
  staticTypes := #[.int, .int, .boolean]
  resolved := Array.replicate 1029 none
  statics := none }

def pool18 : Array CpInfo := pool [(1, .class_ 2), (0, u "java/lang/Math"), (1, .class_ 6), (1, u "java/lang/Object"), (0, u "<init>"), (0, u "()V"), (89, .class_ 100), (1, u "java/lang/Math$RandomNumberGeneratorHolder"), (71, u "negativeZeroFloatBits"), (0, u "J"), (2, u "negativeZeroDoubleBits"), (24, u "min"), (43, u "$assertionsDisabled"), (0, u "Z"), (88, u "(II)I"), (2, u "twoToTheDoubleScaleDown"), (0, u "D"), (4, u "twoToTheDoubleScaleUp"), (9, u "E"), (3, u "PI"), (2, u "TAU"), (2, u "DEGREES_TO_RADIANS"), (0, u "RADIANS_TO_DEGREES")] 94

def k18m0 : Method := { name := "<init>", desc := "()V", sig := { parameters := [], returnType := none }, accessFlags := 2, code := none }
def k18c1 : Code := { maxStack := 2, maxLocals := 2, code := jdk_29_method_69_code, exceptionTable := #[], attributes := #[] }
def k18m1 : Method := { name := "min", desc := "(II)I", sig := { parameters := [.int, .int], returnType := some .int }, accessFlags := 9, code := some k18c1 }
/-- java/lang/Math -/
def k18 : Class := { plain "java/lang/Math" (some 0) with
  accessFlags := 49
  interfaces := #[]
  cf := some (fileOf pool18 1 #[.nestMembers #[98]] #[{ accessFlags := 2, nameIndex := 7, descriptorIndex := 8, attributes := #[] }, { accessFlags := 9, nameIndex := 201, descriptorIndex := 335, attributes := #[] }] 49 4 #[] #[{ accessFlags := 25, nameIndex := 354, descriptorIndex := 339, attributes := #[] }, { accessFlags := 25, nameIndex := 358, descriptorIndex := 339, attributes := #[] }, { accessFlags := 25, nameIndex := 361, descriptorIndex := 339, attributes := #[] }, { accessFlags := 26, nameIndex := 364, descriptorIndex := 339, attributes := #[] }, { accessFlags := 26, nameIndex := 365, descriptorIndex := 339, attributes := #[] }, { accessFlags := 26, nameIndex := 172, descriptorIndex := 173, attributes := #[] }, { accessFlags := 26, nameIndex := 176, descriptorIndex := 173, attributes := #[] }, { accessFlags := 8, nameIndex := 344, descriptorIndex := 339, attributes := #[] }, { accessFlags := 8, nameIndex := 338, descriptorIndex := 339, attributes := #[] }, { accessFlags := 4120, nameIndex := 245, descriptorIndex := 246, attributes := #[] }])
  fields := #[{ name := "E", type := .double, accessFlags := 25, slot := 0, constantValue := 0 }, { name := "PI", type := .double, accessFlags := 25, slot := 1, constantValue := 0 }, { name := "TAU", type := .double, accessFlags := 25, slot := 2, constantValue := 0 }, { name := "DEGREES_TO_RADIANS", type := .double, accessFlags := 26, slot := 3, constantValue := 0 }, { name := "RADIANS_TO_DEGREES", type := .double, accessFlags := 26, slot := 4, constantValue := 0 }, { name := "negativeZeroFloatBits", type := .long, accessFlags := 26, slot := 5, constantValue := 0 }, { name := "negativeZeroDoubleBits", type := .long, accessFlags := 26, slot := 6, constantValue := 0 }, { name := "twoToTheDoubleScaleUp", type := .double, accessFlags := 8, slot := 7, constantValue := 0 }, { name := "twoToTheDoubleScaleDown", type := .double, accessFlags := 8, slot := 8, constantValue := 0 }, { name := "$assertionsDisabled", type := .boolean, accessFlags := 4120, slot := 9, constantValue := 0 }]
  methods := #[k18m0, k18m1]
  instanceTypes := #[]
  staticTypes := #[.double, .double, .double, .double, .double, .long, .long, .double, .double, .boolean]
  resolved := Array.replicate 460 none
  statics := none }

def pool19 : Array CpInfo := pool [(2, .class_ 4), (1, u "java/lang/Object"), (0, u "<init>"), (0, u "()V"), (1, .class_ 10), (1, u "java/lang/System"), (0, u "allowSecurityManager"), (0, u "I"), (16, u "cons"), (0, u "Ljava/io/Console;"), (77, .class_ 110), (1, u "java/lang/System$CallersHolder"), (43, u "initialErrStream"), (0, u "Ljava/io/PrintStream;"), (19, u "security"), (0, u "Ljava/lang/SecurityManager;"), (31, .class_ 209), (0, u "java/lang/System$1"), (7, u "props"), (0, u "Ljava/util/Properties;"), (2, u "lineSeparator"), (0, u "Ljava/lang/String;"), (96, .class_ 321), (1, u "java/lang/System$LoggerFinder"), (5, .class_ 328), (0, u "java/lang/System$Logger"), (67, u "err"), (2, u "out"), (91, u "notSupportedJnuEncoding"), (15, u "in"), (17, u "initialIn"), (0, u "Ljava/io/InputStream;"), (35, u "bootLayer"), (0, u "Ljava/lang/ModuleLayer;"), (99, .class_ 664), (0, u "java/lang/System$2"), (9, u "NEVER"), (2, u "MAYBE"), (49, u "arraycopy"), (0, u "(Ljava/lang/Object;ILjava/lang/Object;II)V"), (72, .class_ 802), (0, u "java/lang/System$Logger$Level")] 31

def k19m0 : Method := { name := "<init>", desc := "()V", sig := { parameters := [], returnType := none }, accessFlags := 2, code := none }
def k19m1 : Method := { name := "arraycopy", desc := "(Ljava/lang/Object;ILjava/lang/Object;II)V", sig := { parameters := [(.object "java/lang/Object"), .int, (.object "java/lang/Object"), .int, .int], returnType := none }, accessFlags := 265, code := none }
/-- java/lang/System -/
def k19 : Class := { plain "java/lang/System" (some 0) with
  accessFlags := 49
  interfaces := #[]
  cf := some (fileOf pool19 8 #[.nestMembers #[319, 327, 801, 108, 663, 208]] #[{ accessFlags := 2, nameIndex := 5, descriptorIndex := 6, attributes := #[] }, { accessFlags := 265, nameIndex := 727, descriptorIndex := 728, attributes := #[] }] 49 2 #[] #[{ accessFlags := 25, nameIndex := 507, descriptorIndex := 526, attributes := #[] }, { accessFlags := 25, nameIndex := 399, descriptorIndex := 155, attributes := #[] }, { accessFlags := 25, nameIndex := 396, descriptorIndex := 155, attributes := #[] }, { accessFlags := 10, nameIndex := 525, descriptorIndex := 526, attributes := #[] }, { accessFlags := 26, nameIndex := 674, descriptorIndex := 12, attributes := #[] }, { accessFlags := 26, nameIndex := 677, descriptorIndex := 12, attributes := #[] }, { accessFlags := 10, nameIndex := 11, descriptorIndex := 12, attributes := #[] }, { accessFlags := 74, nameIndex := 175, descriptorIndex := 176, attributes := #[] }, { accessFlags := 10, nameIndex := 491, descriptorIndex := 222, attributes := #[] }, { accessFlags := 74, nameIndex := 29, descriptorIndex := 30, attributes := #[] }, { accessFlags := 74, nameIndex := 154, descriptorIndex := 155, attributes := #[] }, { accessFlags := 10, nameIndex := 217, descriptorIndex := 218, attributes := #[] }, { accessFlags := 10, nameIndex := 221, descriptorIndex := 222, attributes := #[] }, { accessFlags := 8, nameIndex := 562, descriptorIndex := 563, attributes := #[] }])
  fields := #[{ name := "in", type := (.object "java/io/InputStream"), accessFlags := 25, slot := 0, constantValue := 0 }, { name := "out", type := (.object "java/io/PrintStream"), accessFlags := 25, slot := 1, constantValue := 0 }, { name := "err", type := (.object "java/io/PrintStream"), accessFlags := 25, slot := 2, constantValue := 0 }, { name := "initialIn", type := (.object "java/io/InputStream"), accessFlags := 10, slot := 3, constantValue := 0 }, { name := "NEVER", type := .int, accessFlags := 26, slot := 4, constantValue := 0 }, { name := "MAYBE", type := .int, accessFlags := 26, slot := 5, constantValue := 0 }, { name := "allowSecurityManager", type := .int, accessFlags := 10, slot := 6, constantValue := 0 }, { name := "security", type := (.object "java/lang/SecurityManager"), accessFlags := 74, slot := 7, constantValue := 0 }, { name := "notSupportedJnuEncoding", type := (.object "java/lang/String"), accessFlags := 10, slot := 8, constantValue := 0 }, { name := "cons", type := (.object "java/io/Console"), accessFlags := 74, slot := 9, constantValue := 0 }, { name := "initialErrStream", type := (.object "java/io/PrintStream"), accessFlags := 74, slot := 10, constantValue := 0 }, { name := "props", type := (.object "java/util/Properties"), accessFlags := 10, slot := 11, constantValue := 0 }, { name := "lineSeparator", type := (.object "java/lang/String"), accessFlags := 10, slot := 12, constantValue := 0 }, { name := "bootLayer", type := (.object "java/lang/ModuleLayer"), accessFlags := 8, slot := 13, constantValue := 0 }]
  methods := #[k19m0, k19m1]
  instanceTypes := #[]
  staticTypes := #[(.object "java/io/InputStream"), (.object "java/io/PrintStream"), (.object "java/io/PrintStream"), (.object "java/io/InputStream"), .int, .int, .int, (.object "java/lang/SecurityManager"), (.object "java/lang/String"), (.object "java/io/Console"), (.object "java/io/PrintStream"), (.object "java/util/Properties"), (.object "java/lang/String"), (.object "java/lang/ModuleLayer")]
  resolved := Array.replicate 834 none
  statics := none }

def pool20 : Array CpInfo := pool [(1, u "java/lang/Class"), (0, .class_ 1), (0, u "java/lang/Object"), (0, .class_ 3)] 0

/-- java/lang/Class -/
def k20 : Class := { plain "java/lang/Class" (some 0) with
  accessFlags := 49
  interfaces := #[]
  cf := some (fileOf pool20 2 #[] #[] 49 4 #[] #[])
  fields := #[]
  methods := #[]
  instanceTypes := #[]
  staticTypes := #[]
  resolved := Array.replicate 5 none
  statics := none }

/-- the primitive byte -/
def k21 : Class := { plain "byte" none with kind := .primitive 'B', accessFlags := 0x411 }
/-- [B -/
def k22 : Class := { plain "[B" (some 0) with kind := .array 21 .byte, interfaces := #[11, 12], accessFlags := 1041 }

/-- the primitive int -/
def k23 : Class := { plain "int" none with kind := .primitive 'I', accessFlags := 0x411 }
/-- [I -/
def k24 : Class := { plain "[I" (some 0) with kind := .array 23 .int, interfaces := #[11, 12], accessFlags := 1041 }

/-- [Ljava/lang/Object; -/
def k25 : Class := { plain "[Ljava/lang/Object;" (some 0) with kind := .array 0 (.object "java/lang/Object"), interfaces := #[11, 12], accessFlags := 1041, mirror := some 2 }

def heap : Heap := #[{ cls := 2, slots := #[.ref 5, .ref 6, .null], vm := .statics 2 },
  { cls := 13, slots := #[.long 0, .int 0, .ref 7, .ref 8], vm := .statics 13 },
  { cls := 20, slots := #[], vm := .mirror 25 },
  { cls := 25, slots := #[], vm := .none },
  { cls := 16, slots := #[.ref 3, .int 0], vm := .none },
  { cls := 2, slots := #[.null, .null, .ref 4, .ref 4, .null, .null], vm := .none },
  { cls := 2, slots := #[.null, .null, .ref 4, .ref 4, .null, .null], vm := .none },
  { cls := 25, slots := #[], vm := .none },
  { cls := 25, slots := #[], vm := .none }]
def classes : Array Class := #[k0, k1, k2, k3, k4, k5, k6, k7, k8, k9, k10, k11, k12, k13, k14, k15, k16, k17, k18, k19, k20, k21, k22, k23, k24, k25]
def interned : List (Array UInt16 × Addr) := []
def slotsUsed : Nat := 21
def theMethod : MethodId := ⟨1, 2⟩
def args0 : Array Value := #[.int 3, .int 5]
def aboutOver (below : List Frame) : State where
  vm := { classes := classes, interned := interned.toArray }
  heap := heap
  slotsUsed := slotsUsed
  threads := #[{ frames := .invoking theMethod args0 :: below }]
def below0 : List Frame := [.native { method := ⟨0, 0⟩, args := #[] }]
def about1 : State := aboutOver below0
def p0 : Program := .bare "" "" ""
def e0 : Env := launch0.env 0 0 0
theorem w_frames : about1.frames = Frame.invoking theMethod args0 :: below0 := rfl
set_option maxRecDepth 65536 in
theorem w_args : argsFit about1.vm theMethod args0 = true := by decide +kernel
set_option maxRecDepth 65536 in
theorem w_heap : heapFits about1 = true := by decide +kernel
set_option maxRecDepth 65536 in
theorem w_runnable : about1.curStatus? = some .runnable := by decide +kernel
set_option maxRecDepth 65536 in
theorem w_alone : about1.alone = true := by decide +kernel
set_option maxRecDepth 65536 in
theorem w_named : about1.methodNamed? x = some theMethod := by decide +kernel
set_option maxRecDepth 65536 in
theorem w_hears : about1.hears theMethod below0 = true := by decide +kernel
set_option maxRecDepth 65536 in
theorem w_ripe : about1.ripe theMethod args0 below0 = true := by decide +kernel
theorem w_running : about1.status = .running := rfl
set_option maxRecDepth 65536 in
theorem w_room : about1.hasRoom e0.platform room_1 = true :=
  launch0.hasRoom_least _ room_1 (by decide +kernel) (by decide +kernel) (by decide +kernel) (by decide +kernel) (by decide +kernel) (by decide +kernel)
theorem allAtoms_all (ts : List Jvm.Cond) (a : Array Jvm.Value) (st : Jvm.State) : (allAtoms ts).before a st = ts.all (fun c => c.before a st) := by
  induction ts with
  | nil => rfl
  | cons c t ih =>
    show (Jvm.Cond.and c (allAtoms t)).before a st = _
    rw [Jvm.Cond.before_and, ih, List.all_cons]
def words1 : List Jvm.Cond := Jvm.Cond.code x code maxLocals ret :: tables_1
/-- a 'code' word, met by the world's own term for the bytes: nothing is compared byte by byte -/
theorem code_word {y : MethodName} {bytes : ByteArray} {mx : Nat} {rt : Option FieldType} {a : Array Value} {s : State} {m : MethodId} {meth : Method} {c : Code} (h1 : s.methodNamed? y = some m) (h2 : s.vm.method? m = some meth) (h3 : meth.code = some c) (h4 : c.code = bytes)
    (h5 : (c.maxLocals == mx && c.exceptionTable.isEmpty && decide (c.maxStack ≤ mostOperands) && decide (meth.sig.returnType = rt) && !meth.locks && decide (parseMethodDescriptor y.desc = some meth.sig)) = true) : (Jvm.Cond.code y bytes mx rt).before a s = true := by
  simp only [Bool.and_eq_true, beq_iff_eq, Bool.not_eq_true', decide_eq_true_eq] at h5
  obtain ⟨⟨⟨⟨⟨g1, g2⟩, g3⟩, g4⟩, g5⟩, g6⟩ := h5
  simp [Cond.before, Cond.holds, Cond.value, h1, h2, h3, h4, g1, g2, g3, g4, g5, g6]
def isCode : Jvm.Cond → Bool
  | .code _ _ _ _ => true
  | _ => false
theorem all_split {L : List Jvm.Cond} {P : Jvm.Cond → Bool} (h1 : L.all (fun c => isCode c || P c) = true) (h2 : ∀ c ∈ L.filter isCode, P c = true) : L.all P = true := by
  refine List.all_eq_true.mpr fun c hc => ?_
  have h := List.all_eq_true.mp h1 c hc
  rcases Bool.eq_false_or_eq_true (isCode c) with hi | hi
  · exact h2 c (List.mem_filter.mpr ⟨hc, hi⟩)
  · simpa [hi] using h
set_option maxRecDepth 65536 in
theorem w_c0 : (Jvm.Cond.code x code maxLocals ret).before args0 about1 = true := code_word (m := ⟨1, 2⟩) (meth := k1m2) (c := k1c2) (by decide +kernel) rfl rfl rfl (by decide +kernel)
set_option maxRecDepth 65536 in
theorem w_c1 : (Jvm.Cond.code ({ cls := "com/example/cerb3rus/cerb3rus/combining/GatheredIsEmptyPinLaw", name := "pick", desc := "(I)Lcom/example/cerb3rus/cerb3rus/evaluation/Result;" } : Jvm.MethodName) method_2_code (1 : Nat) (Option.some (Jvm.ClassFile.FieldType.object "com/example/cerb3rus/cerb3rus/evaluation/Result"))).before args0 about1 = true := code_word (m := ⟨1, 1⟩) (meth := k1m1) (c := k1c1) (by decide +kernel) rfl rfl rfl (by decide +kernel)
set_option maxRecDepth 65536 in
theorem w_c2 : (Jvm.Cond.code ({ cls := "com/example/cerb3rus/cerb3rus/combining/Gathered", name := "<init>", desc := "()V" } : Jvm.MethodName) prog_7_method_1_code (1 : Nat) (Option.none : Option Jvm.ClassFile.FieldType)).before args0 about1 = true := code_word (m := ⟨3, 0⟩) (meth := k3m0) (c := k3c0) (by decide +kernel) rfl rfl rfl (by decide +kernel)
set_option maxRecDepth 65536 in
theorem w_c3 : (Jvm.Cond.code ({ cls := "java/lang/Object", name := "<init>", desc := "()V" } : Jvm.MethodName) object_method_1_code (1 : Nat) (Option.none : Option Jvm.ClassFile.FieldType)).before args0 about1 = true := code_word (m := ⟨0, 0⟩) (meth := k0m0) (c := k0c0) (by decide +kernel) rfl rfl rfl (by decide +kernel)
set_option maxRecDepth 65536 in
theorem w_c4 : (Jvm.Cond.code ({ cls := "java/util/ArrayList", name := "<init>", desc := "()V" } : Jvm.MethodName) jdk_38_method_2_code (1 : Nat) (Option.none : Option Jvm.ClassFile.FieldType)).before args0 about1 = true := code_word (m := ⟨13, 0⟩) (meth := k13m0) (c := k13c0) (by decide +kernel) rfl rfl rfl (by decide +kernel)
set_option maxRecDepth 65536 in
theorem w_c5 : (Jvm.Cond.code ({ cls := "java/util/AbstractList", name := "<init>", desc := "()V" } : Jvm.MethodName) jdk_39_method_1_code (1 : Nat) (Option.none : Option Jvm.ClassFile.FieldType)).before args0 about1 = true := code_word (m := ⟨9, 0⟩) (meth := k9m0) (c := k9c0) (by decide +kernel) rfl rfl rfl (by decide +kernel)
set_option maxRecDepth 65536 in
theorem w_c6 : (Jvm.Cond.code ({ cls := "java/util/AbstractCollection", name := "<init>", desc := "()V" } : Jvm.MethodName) jdk_22_method_1_code (1 : Nat) (Option.none : Option Jvm.ClassFile.FieldType)).before args0 about1 = true := code_word (m := ⟨6, 0⟩) (meth := k6m0) (c := k6c0) (by decide +kernel) rfl rfl rfl (by decide +kernel)
set_option maxRecDepth 65536 in
theorem w_c7 : (Jvm.Cond.code ({ cls := "com/example/cerb3rus/cerb3rus/combining/Gathered", name := "isEmpty", desc := "()Z" } : Jvm.MethodName) prog_7_method_3_code (1 : Nat) (Option.some Jvm.ClassFile.FieldType.boolean)).before args0 about1 = true := code_word (m := ⟨3, 2⟩) (meth := k3m2) (c := k3c2) (by decide +kernel) rfl rfl rfl (by decide +kernel)
set_option maxRecDepth 65536 in
theorem w_c8 : (Jvm.Cond.code ({ cls := "com/example/cerb3rus/cerb3rus/combining/Gathered", name := "add", desc := "(Lcom/example/cerb3rus/cerb3rus/evaluation/Result;)V" } : Jvm.MethodName) prog_7_method_2_code (2 : Nat) (Option.none : Option Jvm.ClassFile.FieldType)).before args0 about1 = true := code_word (m := ⟨3, 1⟩) (meth := k3m1) (c := k3c1) (by decide +kernel) rfl rfl rfl (by decide +kernel)
set_option maxRecDepth 65536 in
theorem w_c9 : (Jvm.Cond.code ({ cls := "com/example/cerb3rus/cerb3rus/evaluation/Result", name := "obligations", desc := "()Ljava/util/List;" } : Jvm.MethodName) prog_32_method_9_code (1 : Nat) (Option.some (Jvm.ClassFile.FieldType.object "java/util/List"))).before args0 about1 = true := code_word (m := ⟨2, 0⟩) (meth := k2m0) (c := k2c0) (by decide +kernel) rfl rfl rfl (by decide +kernel)
set_option maxRecDepth 65536 in
theorem w_c10 : (Jvm.Cond.code ({ cls := "java/util/ArrayList", name := "addAll", desc := "(Ljava/util/Collection;)Z" } : Jvm.MethodName) jdk_38_method_41_code (6 : Nat) (Option.some Jvm.ClassFile.FieldType.boolean)).before args0 about1 = true := code_word (m := ⟨13, 1⟩) (meth := k13m1) (c := k13c1) (by decide +kernel) rfl rfl rfl (by decide +kernel)
set_option maxRecDepth 65536 in
theorem w_c11 : (Jvm.Cond.code ({ cls := "java/util/ImmutableCollections$ListN", name := "toArray", desc := "()[Ljava/lang/Object;" } : Jvm.MethodName) jdk_45_method_7_code (1 : Nat) (Option.some (Jvm.ClassFile.FieldType.array (Jvm.ClassFile.FieldType.object "java/lang/Object")))).before args0 about1 = true := code_word (m := ⟨16, 0⟩) (meth := k16m0) (c := k16c0) (by decide +kernel) rfl rfl rfl (by decide +kernel)
set_option maxRecDepth 65536 in
theorem w_c12 : (Jvm.Cond.code ({ cls := "java/util/Arrays", name := "copyOf", desc := "([Ljava/lang/Object;I)[Ljava/lang/Object;" } : Jvm.MethodName) jdk_65_method_119_code (2 : Nat) (Option.some (Jvm.ClassFile.FieldType.array (Jvm.ClassFile.FieldType.object "java/lang/Object")))).before args0 about1 = true := code_word (m := ⟨17, 1⟩) (meth := k17m1) (c := k17c1) (by decide +kernel) rfl rfl rfl (by decide +kernel)
set_option maxRecDepth 65536 in
theorem w_c13 : (Jvm.Cond.code ({ cls := "java/util/Arrays", name := "copyOf", desc := "([Ljava/lang/Object;ILjava/lang/Class;)[Ljava/lang/Object;" } : Jvm.MethodName) jdk_65_method_120_code (4 : Nat) (Option.some (Jvm.ClassFile.FieldType.array (Jvm.ClassFile.FieldType.object "java/lang/Object")))).before args0 about1 = true := code_word (m := ⟨17, 2⟩) (meth := k17m2) (c := k17c2) (by decide +kernel) rfl rfl rfl (by decide +kernel)
set_option maxRecDepth 65536 in
theorem w_c14 : (Jvm.Cond.code ({ cls := "java/lang/Math", name := "min", desc := "(II)I" } : Jvm.MethodName) jdk_29_method_69_code (2 : Nat) (Option.some Jvm.ClassFile.FieldType.int)).before args0 about1 = true := code_word (m := ⟨18, 1⟩) (meth := k18m1) (c := k18c1) (by decide +kernel) rfl rfl rfl (by decide +kernel)
set_option maxRecDepth 65536 in
theorem w_c15 : (Jvm.Cond.code ({ cls := "com/example/cerb3rus/cerb3rus/evaluation/Result", name := "advice", desc := "()Ljava/util/List;" } : Jvm.MethodName) prog_32_method_10_code (1 : Nat) (Option.some (Jvm.ClassFile.FieldType.object "java/util/List"))).before args0 about1 = true := code_word (m := ⟨2, 1⟩) (meth := k2m1) (c := k2c1) (by decide +kernel) rfl rfl rfl (by decide +kernel)
def codes1 : List Jvm.Cond := [Jvm.Cond.code x code maxLocals ret, Jvm.Cond.code ({ cls := "com/example/cerb3rus/cerb3rus/combining/GatheredIsEmptyPinLaw", name := "pick", desc := "(I)Lcom/example/cerb3rus/cerb3rus/evaluation/Result;" } : Jvm.MethodName) method_2_code (1 : Nat) (Option.some (Jvm.ClassFile.FieldType.object "com/example/cerb3rus/cerb3rus/evaluation/Result")), Jvm.Cond.code ({ cls := "com/example/cerb3rus/cerb3rus/combining/Gathered", name := "<init>", desc := "()V" } : Jvm.MethodName) prog_7_method_1_code (1 : Nat) (Option.none : Option Jvm.ClassFile.FieldType), Jvm.Cond.code ({ cls := "java/lang/Object", name := "<init>", desc := "()V" } : Jvm.MethodName) object_method_1_code (1 : Nat) (Option.none : Option Jvm.ClassFile.FieldType), Jvm.Cond.code ({ cls := "java/util/ArrayList", name := "<init>", desc := "()V" } : Jvm.MethodName) jdk_38_method_2_code (1 : Nat) (Option.none : Option Jvm.ClassFile.FieldType), Jvm.Cond.code ({ cls := "java/util/AbstractList", name := "<init>", desc := "()V" } : Jvm.MethodName) jdk_39_method_1_code (1 : Nat) (Option.none : Option Jvm.ClassFile.FieldType), Jvm.Cond.code ({ cls := "java/util/AbstractCollection", name := "<init>", desc := "()V" } : Jvm.MethodName) jdk_22_method_1_code (1 : Nat) (Option.none : Option Jvm.ClassFile.FieldType), Jvm.Cond.code ({ cls := "com/example/cerb3rus/cerb3rus/combining/Gathered", name := "isEmpty", desc := "()Z" } : Jvm.MethodName) prog_7_method_3_code (1 : Nat) (Option.some Jvm.ClassFile.FieldType.boolean), Jvm.Cond.code ({ cls := "com/example/cerb3rus/cerb3rus/combining/Gathered", name := "add", desc := "(Lcom/example/cerb3rus/cerb3rus/evaluation/Result;)V" } : Jvm.MethodName) prog_7_method_2_code (2 : Nat) (Option.none : Option Jvm.ClassFile.FieldType), Jvm.Cond.code ({ cls := "com/example/cerb3rus/cerb3rus/evaluation/Result", name := "obligations", desc := "()Ljava/util/List;" } : Jvm.MethodName) prog_32_method_9_code (1 : Nat) (Option.some (Jvm.ClassFile.FieldType.object "java/util/List")), Jvm.Cond.code ({ cls := "java/util/ArrayList", name := "addAll", desc := "(Ljava/util/Collection;)Z" } : Jvm.MethodName) jdk_38_method_41_code (6 : Nat) (Option.some Jvm.ClassFile.FieldType.boolean), Jvm.Cond.code ({ cls := "java/util/ImmutableCollections$ListN", name := "toArray", desc := "()[Ljava/lang/Object;" } : Jvm.MethodName) jdk_45_method_7_code (1 : Nat) (Option.some (Jvm.ClassFile.FieldType.array (Jvm.ClassFile.FieldType.object "java/lang/Object"))), Jvm.Cond.code ({ cls := "java/util/Arrays", name := "copyOf", desc := "([Ljava/lang/Object;I)[Ljava/lang/Object;" } : Jvm.MethodName) jdk_65_method_119_code (2 : Nat) (Option.some (Jvm.ClassFile.FieldType.array (Jvm.ClassFile.FieldType.object "java/lang/Object"))), Jvm.Cond.code ({ cls := "java/util/Arrays", name := "copyOf", desc := "([Ljava/lang/Object;ILjava/lang/Class;)[Ljava/lang/Object;" } : Jvm.MethodName) jdk_65_method_120_code (4 : Nat) (Option.some (Jvm.ClassFile.FieldType.array (Jvm.ClassFile.FieldType.object "java/lang/Object"))), Jvm.Cond.code ({ cls := "java/lang/Math", name := "min", desc := "(II)I" } : Jvm.MethodName) jdk_29_method_69_code (2 : Nat) (Option.some Jvm.ClassFile.FieldType.int), Jvm.Cond.code ({ cls := "com/example/cerb3rus/cerb3rus/evaluation/Result", name := "advice", desc := "()Ljava/util/List;" } : Jvm.MethodName) prog_32_method_10_code (1 : Nat) (Option.some (Jvm.ClassFile.FieldType.object "java/util/List"))]
set_option maxRecDepth 65536 in
theorem codes_eq : words1.filter isCode = codes1 := rfl
theorem w_codes : ∀ c ∈ words1.filter isCode, c.before args0 about1 = true := by
  rw [codes_eq]
  intro c hc
  simp only [codes1, List.mem_cons, List.not_mem_nil, or_false] at hc
  rcases hc with rfl | rfl | rfl | rfl | rfl | rfl | rfl | rfl | rfl | rfl | rfl | rfl | rfl | rfl | rfl | rfl
  · exact w_c0
  · exact w_c1
  · exact w_c2
  · exact w_c3
  · exact w_c4
  · exact w_c5
  · exact w_c6
  · exact w_c7
  · exact w_c8
  · exact w_c9
  · exact w_c10
  · exact w_c11
  · exact w_c12
  · exact w_c13
  · exact w_c14
  · exact w_c15
set_option maxRecDepth 65536 in
theorem w_t1 : (words1.take 24).all (fun c => isCode c || c.before args0 about1) = true := by decide +kernel
set_option maxRecDepth 65536 in
theorem w_t2 : ((words1.drop 24).take 24).all (fun c => isCode c || c.before args0 about1) = true := by decide +kernel
set_option maxRecDepth 65536 in
theorem w_t3 : (((words1.drop 24).drop 24).take 24).all (fun c => isCode c || c.before args0 about1) = true := by decide +kernel
set_option maxRecDepth 65536 in
theorem w_t4 : ((((words1.drop 24).drop 24).drop 24).take 24).all (fun c => isCode c || c.before args0 about1) = true := by decide +kernel
set_option maxRecDepth 65536 in
theorem w_t5 : ((((words1.drop 24).drop 24).drop 24).drop 24).all (fun c => isCode c || c.before args0 about1) = true := by decide +kernel
theorem w_tables : (allAtoms (Jvm.Cond.code x code maxLocals ret :: tables_1)).before args0 about1 = true := by
  rw [allAtoms_all]
  show words1.all (fun c => c.before args0 about1) = true
  refine all_split ?_ w_codes
  rw [← List.take_append_drop 24 words1, List.all_append, w_t1, ← List.take_append_drop 24 (words1.drop 24), List.all_append, w_t2, ← List.take_append_drop 24 ((words1.drop 24).drop 24), List.all_append, w_t3, ← List.take_append_drop 24 (((words1.drop 24).drop 24).drop 24), List.all_append, w_t4, w_t5]
  rfl
set_option maxRecDepth 65536 in
theorem w_rest : rest_1_c.before args0 about1 = true := by decide +kernel
set_option maxRecDepth 65536 in
theorem w_case : (Jvm.Cond.and given_1 narrow_1).before args0 about1 = true := by decide +kernel
theorem w_applies : (headSpec (Jvm.Cond.code x code maxLocals ret :: tables_1) room_1).applies x e0.platform about1 = true :=
  (Spec.applies_iff w_frames).mpr ⟨w_running, w_runnable, w_alone, w_named, w_hears, w_ripe, w_room, w_tables⟩
theorem atStart : AtStart classFile x code maxLocals ret World_1 tables_1 room_1 Calls_1 rest_1 Pre_1 launch0 p0 e0 about1 theMethod args0 below0 :=
  ⟨lists_1, trivial, launch0.admits_env _ _ _, launch0.least_env, fairChoices_fair.cas, fairChoices_fair.clock, w_frames, w_args, w_heap, w_applies, ⟨⟨25, k25, 2, by decide +kernel, rfl, rfl, _, rfl, rfl⟩, trivial⟩, w_rest, w_case⟩
end start1
theorem witness_1 : WitnessClaimed_1 := ⟨start1.p0, start1.e0, start1.about1, start1.theMethod, start1.args0, start1.below0, start1.atStart⟩
end Jvm.Pilot.@@N@@
