import JvmDerived
import JvmDerived.Pilot.@@N@@Statement
import JvmDerived.Pilot.@@N@@Code
set_option linter.unusedVariables false
set_option linter.unusedSimpArgs false
namespace Jvm.Pilot.@@N@@
open Jvm Jvm.ClassFile Sem Op Lib Jvm.Free Jvm.Stand Jvm.LawKit Jvm.RoadKit Bundle Jvm.Pilot.@@N@@.Jvm.D
/-! own_Ends: from here the run comes to its return, and what it leaves is as Qf says -/
def own_Ends (p : Program) (e : Env) (below : List Frame) (s : State) (Qf : Option Value → Heap → List Loc → Prop) (ce sl : Nat) (W : State) : Prop :=
  ∃ U o, Steps p.tables e below W U ∧ U.status = .running ∧ Ended U below o ∧ ∃ v L, o = .returned v ∧ Qf v U.heap L ∧ FrameEnd s o U L ce sl
section Own
variable {p : Program} {l : Launch} {e : Env} {R : Room} {s : State} {m : MethodId} {args : Array Value} {below : List Frame} {meth : Method} {c : Code} {T : State} {locs : List Loc} {cells slots : Nat} {Qf : Option Value → Heap → List Loc → Prop} {ce sl : Nat} {W0 W1 : State}
theorem own_go (h : ∀ t, Steps p.tables e below W1 t → Steps p.tables e below W0 t) (k : own_Ends p e below s Qf ce sl W1) : own_Ends p e below s Qf ce sl W0 := by
  obtain ⟨U, o, h1, h2⟩ := k
  exact ⟨U, o, h _ h1, h2⟩
theorem own_tr (h : Steps p.tables e below W0 W1) (k : own_Ends p e below s Qf ce sl W1) : own_Ends p e below s Qf ce sl W0 := own_go (fun t k => h.trans k) k
theorem own_st {t : State} (h : ∀ t, Steps p.tables e below W1 t → Steps p.tables e below W0 t) (k : Steps p.tables e below W1 t) : Steps p.tables e below W0 t := h t k
theorem own_done (X : Stand p l e R s m args below meth c T locs cells slots) {v : Option Value} (hv : meth.sig.returnType = none → v = none) (hlk : meth.locks = false) (hc : cells ≤ ce) (hs : slots ≤ sl) (hQ : Qf v T.heap locs)
    (h : ∀ fs, (∀ (f : JFrame) (acts : List Action), f.method = m → f.locked = none → f.entered = [] → (doReturn e (T.setTop f) acts v).1 = T.setFrames fs) → Steps p.tables e below W0 (T.setFrames fs)) : own_Ends p e below s Qf ce sl W0 := by
  obtain ⟨fs, hr, hrun, hended, hW, hsame⟩ := X.leave (v := v) hv hlk
  exact ⟨_, _, h fs hr, hrun, hended, _, _, rfl, hQ, ⟨_, rfl⟩, hW, hsame.mono hc hs⟩
theorem own_some {t : FieldType} {v : Option Value} (hret : meth.sig.returnType = some t) : meth.sig.returnType = none → v = none := fun h => by rw [hret] at h; cases h
theorem own_retI (X : Stand p l e R s m args below meth c T locs cells slots) (hx : p.tables.exec = Jvm.exec) {pc : Nat} {Ls : Array Slot} {z : Int32} {rest : List Value} (hret : meth.sig.returnType = some .int) (hd : decode c.code pc = .ok (.ireturn, 1)) (hlk : meth.locks = false) (hc : cells ≤ ce) (hs : slots ≤ sl) (hQ : Qf (some (.int z)) T.heap locs) :
    own_Ends p e below s Qf ce sl (T.setTop (mkF m pc Ls (.int z :: rest))) :=
  own_done X (own_some hret) hlk hc hs hQ fun fs hr => retOut X hx hret rfl (Or.inl ⟨rfl, Or.inl rfl, _, rfl⟩) hd hr
theorem own_retN (X : Stand p l e R s m args below meth c T locs cells slots) (hx : p.tables.exec = Jvm.exec) {pc : Nat} {Ls : Array Slot} {z : Int32} {t : FieldType} {rest : List Value} (hret : meth.sig.returnType = some t) (ht : t = .boolean ∨ t = .byte ∨ t = .char ∨ t = .short) (hd : decode c.code pc = .ok (.ireturn, 1)) (hlk : meth.locks = false) (hc : cells ≤ ce) (hs : slots ≤ sl) (hQ : Qf (some (.int (nar t z))) T.heap locs) :
    own_Ends p e below s Qf ce sl (T.setTop (mkF m pc Ls (.int z :: rest))) :=
  own_done X (own_some hret) hlk hc hs hQ fun fs hr => retN X hx hret ht hd hr
theorem own_retJ (X : Stand p l e R s m args below meth c T locs cells slots) (hx : p.tables.exec = Jvm.exec) {pc : Nat} {Ls : Array Slot} {z : Int64} {rest : List Value} (hret : meth.sig.returnType = some .long) (hd : decode c.code pc = .ok (.lreturn, 1)) (hlk : meth.locks = false) (hc : cells ≤ ce) (hs : slots ≤ sl) (hQ : Qf (some (.long z)) T.heap locs) :
    own_Ends p e below s Qf ce sl (T.setTop (mkF m pc Ls (.long z :: rest))) :=
  own_done X (own_some hret) hlk hc hs hQ fun fs hr => retOut X hx hret rfl (Or.inr (Or.inl ⟨rfl, rfl, _, rfl⟩)) hd hr
theorem own_retD (X : Stand p l e R s m args below meth c T locs cells slots) (hx : p.tables.exec = Jvm.exec) {pc : Nat} {Ls : Array Slot} {z : UInt64} {rest : List Value} (hret : meth.sig.returnType = some .double) (hd : decode c.code pc = .ok (.dreturn, 1)) (hlk : meth.locks = false) (hc : cells ≤ ce) (hs : slots ≤ sl) (hQ : Qf (some (.double z)) T.heap locs) :
    own_Ends p e below s Qf ce sl (T.setTop (mkF m pc Ls (.double z :: rest))) :=
  own_done X (own_some hret) hlk hc hs hQ fun fs hr => retOut X hx hret rfl (Or.inr (Or.inr (Or.inl ⟨rfl, rfl, _, rfl⟩))) hd hr
theorem own_retR (X : Stand p l e R s m args below meth c T locs cells slots) (hx : p.tables.exec = Jvm.exec) {pc : Nat} {Ls : Array Slot} {w : Value} {t : FieldType} {rest : List Value} (hret : meth.sig.returnType = some t) (ht : t.isReference = true) (hw : w.isRef = true) (hd : decode c.code pc = .ok (.areturn, 1)) (hlk : meth.locks = false) (hc : cells ≤ ce) (hs : slots ≤ sl) (hQ : Qf (some w) T.heap locs) :
    own_Ends p e below s Qf ce sl (T.setTop (mkF m pc Ls (w :: rest))) :=
  own_done X (own_some hret) hlk hc hs hQ fun fs hr => retOut X hx hret (by cases t <;> first | rfl | (simp [FieldType.isReference] at ht)) (Or.inr (Or.inr (Or.inr (Or.inr ⟨rfl, ht, hw⟩)))) hd hr
theorem own_retV (X : Stand p l e R s m args below meth c T locs cells slots) (hx : p.tables.exec = Jvm.exec) {pc : Nat} {Ls : Array Slot} (hret : meth.sig.returnType = none) (hd : decode c.code pc = .ok (.return_, 1)) (hlk : meth.locks = false) (hc : cells ≤ ce) (hs : slots ≤ sl) (hQ : Qf none T.heap locs) :
    own_Ends p e below s Qf ce sl (T.setTop (mkF m pc Ls [])) :=
  own_done X (fun _ => rfl) hlk hc hs hQ fun fs hr => X.returnOut hx hret hd hr
def own_b2i (P : Prop) [Decidable P] : Int32 := if P then 1 else 0
theorem own_b1 {P : Prop} [Decidable P] (h : P) : own_b2i P = 1 := if_pos h
theorem own_b0 {P : Prop} [Decidable P] (h : ¬ P) : own_b2i P = 0 := if_neg h
end Own
def own_Cache (Z : State) (ca : Addr) : Prop := Sta Z Z.heap "java/lang/Long$LongCache" "cache" "[Ljava/lang/Long;" (.ref ca) ∧ ∃ cl : Cell, Arr Z Z.heap ca cl (.object "java/lang/Long") ∧ cl.slots.size = 256 ∧ ∀ x : Int64, -128 ≤ x.toInt → x.toInt ≤ 127 → ∃ b : Addr, cl.slots[(x.toInt32 + (128 : Int32)).toNatClampNeg]? = some (.ref b) ∧ Exa Z Z.heap b "java/lang/Long" ∧ Fld Z Z.heap b "java/lang/Long" "value" "J" (.long x)
theorem own_idx {x : Int64} (h1 : -128 ≤ x.toInt) (h2 : x.toInt ≤ 127) : (x.toInt32 + (128 : Int32)).toInt = x.toInt + 128 := by
  have a := c_l2i x
  have r := rng32 x.toInt32
  have b := c_iadd x.toInt32 128
  have r2 := rng32 (x.toInt32 + 128)
  have e : (128 : Int32).toInt = 128 := rfl
  rw [e] at b
  omega
theorem own_in {x : Int64} {c : Cell} (h1 : -128 ≤ x.toInt) (h2 : x.toInt ≤ 127) (hc : c.slots.size = 256) : ¬ ((x.toInt32 + (128 : Int32)) < 0 ∨ c.slots.size ≤ (x.toInt32 + (128 : Int32)).toNatClampNeg) := by
  have e := own_idx h1 h2
  have e0 : (0 : Int32).toInt = 0 := rfl
  rw [Int32.lt_iff_toInt_lt, Int32.toNatClampNeg, hc]
  omega
theorem own_lo {x : Int64} (h : ¬ lcmpW x (-128) < 0) : -128 ≤ x.toInt := by
  rw [lw_lt, Int64.lt_iff_toInt_lt] at h
  have e : (-128 : Int64).toInt = -128 := rfl
  omega
theorem own_hi {x : Int64} (h : ¬ 0 < lcmpW x 127) : x.toInt ≤ 127 := by
  rw [lw_gt, Int64.lt_iff_toInt_lt] at h
  have e : (127 : Int64).toInt = 127 := rfl
  omega
def own_Qn (h0 : Heap) (n0 : Nat) (v : Option Value) (h : Heap) (L : List Loc) : Prop := v = none ∧ Fr n0 L ∧ h = h0
def own_Ql (Z : State) (a1 : Addr) (q1 : Int64) (h0 : Heap) (n0 : Nat) (v : Option Value) (h : Heap) (L : List Loc) : Prop := v = none ∧ Fr n0 L ∧ Keep h0 h [a1] ∧ Exa Z h a1 "java/lang/Long" ∧ Fld Z h a1 "java/lang/Long" "value" "J" (.long q1)
def own_Qv (Z : State) (q1 : Int64) (h0 : Heap) (n0 : Nat) (v : Option Value) (h : Heap) (L : List Loc) : Prop := ∃ r : Addr, v = some (.ref r) ∧ Fr n0 L ∧ Keep h0 h [] ∧ Exa Z h r "java/lang/Long" ∧ Fld Z h r "java/lang/Long" "value" "J" (.long q1)
def own_Qi (Z : State) (a1 r5 r6 : Addr) (h0 : Heap) (n0 : Nat) (v : Option Value) (h : Heap) (L : List Loc) : Prop := v = none ∧ Fr n0 L ∧ Keep h0 h [a1] ∧ Exa Z h a1 "com/example/tenorbook/tenorbook/trail/TrailFilter" ∧ Fld Z h a1 "com/example/tenorbook/tenorbook/trail/TrailFilter" "from" "Ljava/time/LocalDate;" .null ∧ Fld Z h a1 "com/example/tenorbook/tenorbook/trail/TrailFilter" "until" "Ljava/time/LocalDate;" .null ∧ Fld Z h a1 "com/example/tenorbook/tenorbook/trail/TrailFilter" "member" "Ljava/lang/String;" .null ∧ Fld Z h a1 "com/example/tenorbook/tenorbook/trail/TrailFilter" "operation" "Lcom/example/tenorbook/tenorbook/trail/Operation;" .null ∧ Fld Z h a1 "com/example/tenorbook/tenorbook/trail/TrailFilter" "billId" "Ljava/lang/Long;" (.ref r5) ∧ Fld Z h a1 "com/example/tenorbook/tenorbook/trail/TrailFilter" "batchId" "Ljava/lang/Long;" (.ref r6)
def own_Qo (Z : State) (q1 q2 : Int64) (h0 : Heap) (n0 : Nat) (v : Option Value) (h : Heap) (L : List Loc) : Prop := ∃ (b r5 r6 : Addr), v = some (.ref b) ∧ Fr n0 L ∧ Keep h0 h [] ∧ Exa Z h b "com/example/tenorbook/tenorbook/trail/TrailFilter" ∧ Fld Z h b "com/example/tenorbook/tenorbook/trail/TrailFilter" "from" "Ljava/time/LocalDate;" .null ∧ Fld Z h b "com/example/tenorbook/tenorbook/trail/TrailFilter" "until" "Ljava/time/LocalDate;" .null ∧ Fld Z h b "com/example/tenorbook/tenorbook/trail/TrailFilter" "member" "Ljava/lang/String;" .null ∧ Fld Z h b "com/example/tenorbook/tenorbook/trail/TrailFilter" "operation" "Lcom/example/tenorbook/tenorbook/trail/Operation;" .null ∧ Fld Z h b "com/example/tenorbook/tenorbook/trail/TrailFilter" "billId" "Ljava/lang/Long;" (.ref r5) ∧ Fld Z h b "com/example/tenorbook/tenorbook/trail/TrailFilter" "batchId" "Ljava/lang/Long;" (.ref r6) ∧ Exa Z h r5 "java/lang/Long" ∧ Fld Z h r5 "java/lang/Long" "value" "J" (.long q1) ∧ Exa Z h r6 "java/lang/Long" ∧ Fld Z h r6 "java/lang/Long" "value" "J" (.long q2)
def own_Q0 (n0 : Nat) (v : Option Value) (h : Heap) (L : List Loc) : Prop := v = some (.int 1) ∧ Fr n0 L
theorem own_pn_java_lang_Record : plainName "java/lang/Record" = true := by first | (simp [plainName, overriddenIn]; done) | decide +kernel
theorem d4_0 : decode jdk_30_method_1_code 0 = .ok (.aload_n 0, 1) := by decide +kernel
theorem d4_1 : decode jdk_30_method_1_code 1 = .ok (.invokespecial 1, 3) := by decide +kernel
theorem d4_4 : decode jdk_30_method_1_code 4 = .ok (.return_, 1) := by decide +kernel
theorem ef_rm4 (m : MethodId) (x0 : Addr)  : entryFrame m #[(.ref x0)] 1 = mkF m 0 #[.val (.ref x0)] [] := by first | (simp [entryFrame, mkF, argsToLocals, Value.category]; done) | rfl
set_option maxRecDepth 65536 in
set_option maxHeartbeats 40000000 in
theorem rm4 (l : Launch) (Z : State) (a0 : Array Value) (hw : ∀ d ∈ tables_1, d.before a0 Z = true) (ws : List Jvm.Cond) (a1 : Addr) (h0 : Heap) (n0 : Nat) (Z0 : n0 ≤ h0.size)  :
    MetFree l (⟨"java/lang/Record", "<init>", "()V"⟩ : MethodName) (head1 (Jvm.Cond.code (⟨"java/lang/Record", "<init>", "()V"⟩ : MethodName) jdk_30_method_1_code 1 none :: ws) ({ frames := 1, cells := 0, slots := 0, locals := 12 } : Room)) (fun a U => a = #[(.ref a1)] ∧ Z.Warmed39 U.vm ∧ U.heap = h0) (fun _ _ _ _ _ => True) (fun _ U o U' => ∃ v L, o = .returned v ∧ own_Qn h0 n0 v U'.heap L ∧ FrameEnd U o U' L ({ frames := 1, cells := 0, slots := 0, locals := 12 } : Room).cells ({ frames := 1, cells := 0, slots := 0, locals := 12 } : Room).slots) := by
  refine MetFree.of_bodySF (plainFor_of_name own_pn_java_lang_Record) hisR ?_
  intro p e s m args below meth c s₁ Bd hml0 hP hK
  obtain ⟨rfl, hZ, hh⟩ := hP
  have hx := Bd.exec
  have hby := Bd.bytes
  have hlk := BodyLoose.notSynchronized Bd
  have hml : c.maxLocals = 1 := hml0
  have hown : s.vm.findClass "java/lang/Record" = some m.cls := findClass_of_methodNamed Bd.named
  have hnm := (name_of_methodNamed Bd.named Bd.method).1
  have X0 : Stand p l e ({ frames := 1, cells := 0, slots := 0, locals := 12 } : Room) s m #[(.ref a1)] below meth c s₁ [] 0 0 := Stand.of_body Bd
  have e0 : s₁.heap = h0 := by rw [← hh, Bd.state]; rfl
  have N0 := Fr.nil n0
  show own_Ends p e below s (own_Qn h0 n0) 0 0 (s₁.setTop (entryFrame m #[(.ref a1)] 1))
  refine own_go (W1 := s₁.setTop (mkF m 0 #[.val (.ref a1)] [])) (fun t k => castTop (ef_rm4 m a1 ) k) ?_
  refine own_go (W1 := s₁.setTop (mkF m 1 #[.val (.ref a1)] [(.ref a1)])) (fun t k => XS.aloadN X0.here hx rfl (hb hby d4_0) rfl rfl  k) ?_
  obtain ⟨T1, X1, e1, st1⟩ := initO X0 hx hZ hown (hw _ (List.mem_of_getElem? (i := 22) rfl)) (hw _ (List.mem_of_getElem? (i := 23) rfl)) (hw _ (List.mem_of_getElem? (i := 24) rfl)) e0 (g := (mkF m 1 #[.val (.ref a1)] [(.ref a1)])) rfl (by rw [hml]; rfl) rfl (hb hby d4_1) (by decide) (W := 0) (by show 2 * 0 + _ ≤ _; exact Nat.le_of_eq rfl) (by decide)
  refine own_go (W1 := T1.setTop (mkF m 4 #[.val (.ref a1)] [])) (st1) ?_
  exact own_retV X1 hx Bd.returns (hb hby d4_4) hlk (by decide) (by decide) ⟨rfl, N0, e1⟩
theorem own_pn_java_lang_Number : plainName "java/lang/Number" = true := by first | (simp [plainName, overriddenIn]; done) | decide +kernel
theorem d14_0 : decode jdk_18_method_1_code 0 = .ok (.aload_n 0, 1) := by decide +kernel
theorem d14_1 : decode jdk_18_method_1_code 1 = .ok (.invokespecial 1, 3) := by decide +kernel
theorem d14_4 : decode jdk_18_method_1_code 4 = .ok (.return_, 1) := by decide +kernel
theorem ef_rm14 (m : MethodId) (x0 : Addr)  : entryFrame m #[(.ref x0)] 1 = mkF m 0 #[.val (.ref x0)] [] := by first | (simp [entryFrame, mkF, argsToLocals, Value.category]; done) | rfl
set_option maxRecDepth 65536 in
set_option maxHeartbeats 40000000 in
theorem rm14 (l : Launch) (Z : State) (a0 : Array Value) (hw : ∀ d ∈ tables_1, d.before a0 Z = true) (ws : List Jvm.Cond) (a1 : Addr) (h0 : Heap) (n0 : Nat) (Z0 : n0 ≤ h0.size)  :
    MetFree l (⟨"java/lang/Number", "<init>", "()V"⟩ : MethodName) (head1 (Jvm.Cond.code (⟨"java/lang/Number", "<init>", "()V"⟩ : MethodName) jdk_18_method_1_code 1 none :: ws) ({ frames := 1, cells := 0, slots := 0, locals := 12 } : Room)) (fun a U => a = #[(.ref a1)] ∧ Z.Warmed39 U.vm ∧ U.heap = h0) (fun _ _ _ _ _ => True) (fun _ U o U' => ∃ v L, o = .returned v ∧ own_Qn h0 n0 v U'.heap L ∧ FrameEnd U o U' L ({ frames := 1, cells := 0, slots := 0, locals := 12 } : Room).cells ({ frames := 1, cells := 0, slots := 0, locals := 12 } : Room).slots) := by
  refine MetFree.of_bodySF (plainFor_of_name own_pn_java_lang_Number) hisR ?_
  intro p e s m args below meth c s₁ Bd hml0 hP hK
  obtain ⟨rfl, hZ, hh⟩ := hP
  have hx := Bd.exec
  have hby := Bd.bytes
  have hlk := BodyLoose.notSynchronized Bd
  have hml : c.maxLocals = 1 := hml0
  have hown : s.vm.findClass "java/lang/Number" = some m.cls := findClass_of_methodNamed Bd.named
  have hnm := (name_of_methodNamed Bd.named Bd.method).1
  have X0 : Stand p l e ({ frames := 1, cells := 0, slots := 0, locals := 12 } : Room) s m #[(.ref a1)] below meth c s₁ [] 0 0 := Stand.of_body Bd
  have e0 : s₁.heap = h0 := by rw [← hh, Bd.state]; rfl
  have N0 := Fr.nil n0
  show own_Ends p e below s (own_Qn h0 n0) 0 0 (s₁.setTop (entryFrame m #[(.ref a1)] 1))
  refine own_go (W1 := s₁.setTop (mkF m 0 #[.val (.ref a1)] [])) (fun t k => castTop (ef_rm14 m a1 ) k) ?_
  refine own_go (W1 := s₁.setTop (mkF m 1 #[.val (.ref a1)] [(.ref a1)])) (fun t k => XS.aloadN X0.here hx rfl (hb hby d14_0) rfl rfl  k) ?_
  obtain ⟨T1, X1, e1, st1⟩ := initO X0 hx hZ hown (hw _ (List.mem_of_getElem? (i := 86) rfl)) (hw _ (List.mem_of_getElem? (i := 23) rfl)) (hw _ (List.mem_of_getElem? (i := 24) rfl)) e0 (g := (mkF m 1 #[.val (.ref a1)] [(.ref a1)])) rfl (by rw [hml]; rfl) rfl (hb hby d14_1) (by decide) (W := 0) (by show 2 * 0 + _ ≤ _; exact Nat.le_of_eq rfl) (by decide)
  refine own_go (W1 := T1.setTop (mkF m 4 #[.val (.ref a1)] [])) (st1) ?_
  exact own_retV X1 hx Bd.returns (hb hby d14_4) hlk (by decide) (by decide) ⟨rfl, N0, e1⟩
theorem own_pn_java_lang_Long : plainName "java/lang/Long" = true := by first | (simp [plainName, overriddenIn]; done) | decide +kernel
theorem d13_0 : decode jdk_35_method_26_code 0 = .ok (.aload_n 0, 1) := by decide +kernel
theorem d13_1 : decode jdk_35_method_26_code 1 = .ok (.invokespecial 270, 3) := by decide +kernel
theorem own_pd3 : parseMethodDescriptor "()V" = some ⟨[], none⟩ := by decide +kernel
theorem d13_4 : decode jdk_35_method_26_code 4 = .ok (.aload_n 0, 1) := by decide +kernel
theorem d13_5 : decode jdk_35_method_26_code 5 = .ok (.lload_n 1, 1) := by decide +kernel
theorem d13_6 : decode jdk_35_method_26_code 6 = .ok (.putfield 273, 3) := by decide +kernel
theorem d13_9 : decode jdk_35_method_26_code 9 = .ok (.return_, 1) := by decide +kernel
theorem ef_rm13 (m : MethodId) (x0 : Addr) (x1 : Int64)  : entryFrame m #[(.ref x0), (.long x1)] 3 = mkF m 0 #[.val (.ref x0), .val (.long x1), .second] [] := by first | (simp [entryFrame, mkF, argsToLocals, Value.category]; done) | rfl
set_option maxRecDepth 65536 in
set_option maxHeartbeats 40000000 in
theorem rm13 (l : Launch) (Z : State) (a0 : Array Value) (hw : ∀ d ∈ tables_1, d.before a0 Z = true) (ws : List Jvm.Cond) (a1 : Addr) (q1 : Int64) (h0 : Heap) (n0 : Nat) (Z0 : n0 ≤ h0.size) (E_a1 : Exa Z h0 a1 "java/lang/Long") (F_v : Fld Z h0 a1 "java/lang/Long" "value" "J" (.long 0)) (ge_a1 : n0 ≤ a1) :
    MetFree l (⟨"java/lang/Long", "<init>", "(J)V"⟩ : MethodName) (head1 (Jvm.Cond.code (⟨"java/lang/Long", "<init>", "(J)V"⟩ : MethodName) jdk_35_method_26_code 3 none :: ws) ({ frames := 2, cells := 0, slots := 0, locals := 24 } : Room)) (fun a U => a = #[(.ref a1), (.long q1)] ∧ Z.Warmed39 U.vm ∧ U.heap = h0) (fun _ _ _ _ _ => True) (fun _ U o U' => ∃ v L, o = .returned v ∧ own_Ql Z a1 q1 h0 n0 v U'.heap L ∧ FrameEnd U o U' L ({ frames := 2, cells := 0, slots := 0, locals := 24 } : Room).cells ({ frames := 2, cells := 0, slots := 0, locals := 24 } : Room).slots) := by
  refine MetFree.of_bodySF (plainFor_of_name own_pn_java_lang_Long) hisR ?_
  intro p e s m args below meth c s₁ Bd hml0 hP hK
  obtain ⟨rfl, hZ, hh⟩ := hP
  have hx := Bd.exec
  have hby := Bd.bytes
  have hlk := BodyLoose.notSynchronized Bd
  have hml : c.maxLocals = 3 := hml0
  have hown : s.vm.findClass "java/lang/Long" = some m.cls := findClass_of_methodNamed Bd.named
  have hnm := (name_of_methodNamed Bd.named Bd.method).1
  have X0 : Stand p l e ({ frames := 2, cells := 0, slots := 0, locals := 24 } : Room) s m #[(.ref a1), (.long q1)] below meth c s₁ [] 0 0 := Stand.of_body Bd
  have e0 : s₁.heap = h0 := by rw [← hh, Bd.state]; rfl
  have N0 := Fr.nil n0
  show own_Ends p e below s (own_Ql Z a1 q1 h0 n0) 0 0 (s₁.setTop (entryFrame m #[(.ref a1), (.long q1)] 3))
  refine own_go (W1 := s₁.setTop (mkF m 0 #[.val (.ref a1), .val (.long q1), .second] [])) (fun t k => castTop (ef_rm13 m a1 q1 ) k) ?_
  have K0 := Keep.refl h0 [a1]
  refine own_go (W1 := s₁.setTop (mkF m 1 #[.val (.ref a1), .val (.long q1), .second] [(.ref a1)])) (fun t k => XS.aloadN X0.here hx rfl (hb hby d13_0) rfl rfl  k) ?_
  obtain ⟨_, _, ⟨T1, L1, k1, n1⟩, -, X1, ⟨Lc1, hQ1, l1, y1, z1⟩, st1⟩ := X0.specialBack hx (y := (⟨"java/lang/Number", "<init>", "()V"⟩ : MethodName)) rfl hown (mvT hZ (hw _ (List.mem_of_getElem? (i := 80) rfl))) (mvT hZ (hw _ (List.mem_of_getElem? (i := 81) rfl))) (mvT hZ (hw _ (List.mem_of_getElem? (i := 85) rfl))) (by decide) (backOf (W := 0) (rm14 l Z a0 hw [] a1 h0 n0 Z0) hZ (hw _ (List.mem_of_getElem? (i := 85) rfl)) (hw _ (List.mem_of_getElem? (i := 84) rfl)) (by decide) (by decide)) (g := (mkF m 1 #[.val (.ref a1), .val (.long q1), .second] [(.ref a1)])) rfl (by rw [hml]; rfl) (Steps.refl _) (a := a1) (argsL := []) (rest := []) (lenOf own_pd3 rfl) rfl (by show 2 * 0 + _ ≤ _; exact Nat.le_of_eq rfl) (hb hby d13_1) (fun _ _ => ⟨rfl, e0, (by decide : 0 + 0 ≤ _), (by decide : 0 + 0 ≤ _)⟩)
  dsimp only [Pt.U, Pt.locs, Pt.cells, Pt.slots] at X1 l1 y1 z1 st1 hQ1
  subst l1 y1 z1
  obtain ⟨rfl, Nq1, eh1⟩ := hQ1
  have N1 := Fr.app N0 Nq1
  refine own_tr (W1 := T1.setTop (mkF m 4 #[.val (.ref a1), .val (.long q1), .second] [])) st1 ?_
  refine own_go (W1 := T1.setTop (mkF m 5 #[.val (.ref a1), .val (.long q1), .second] [(.ref a1)])) (fun t k => XS.aloadN X1.here hx rfl (hb hby d13_4) rfl rfl  k) ?_
  refine own_go (W1 := T1.setTop (mkF m 6 #[.val (.ref a1), .val (.long q1), .second] [(.long q1), (.ref a1)])) (fun t k => XS.lloadN X1.here hx rfl (hb hby d13_5) rfl  k) ?_
  obtain ⟨T2, h2, X2, e2, W2, st2⟩ := putF X1 hx hZ hown (host := "") (Or.inl (hw _ (List.mem_of_getElem? (i := 72) rfl))) Via.refl eh1 F_v E_a1 (Or.inr ⟨(hw _ (List.mem_of_getElem? (i := 73) rfl)), rfl, hnm⟩) (hw _ (List.mem_of_getElem? (i := 75) rfl)) (ty := .long) (by decide) rfl rfl (g := (mkF m 6 #[.val (.ref a1), .val (.long q1), .second] [(.long q1), (.ref a1)])) rfl rfl (hb hby d13_6)
  have E_a1 := E_a1.wr W2
  have F_v := F_v.same W2
  have Z2 : n0 ≤ h2.size := by rw [W2.size]; exact Z0
  have K2 := K0.wr W2 (Or.inl (List.mem_of_getElem? (i := 0) rfl))
  have N2 := Fr.snoc X2 N1 ge_a1
  refine own_go (W1 := T2.setTop (mkF m 9 #[.val (.ref a1), .val (.long q1), .second] [])) (st2) ?_
  exact own_retV X2 hx Bd.returns (hb hby d13_9) hlk (by decide) (by decide) (by rw [e2]; exact ⟨rfl, N2, K2, E_a1, F_v⟩)
theorem d2_0 : decode jdk_35_method_24_code 0 = .ok (.sipush 128, 3) := by decide +kernel
theorem d2_3 : decode jdk_35_method_24_code 3 = .ok (.istore_n 2, 1) := by decide +kernel
theorem d2_4 : decode jdk_35_method_24_code 4 = .ok (.lload_n 0, 1) := by decide +kernel
theorem d2_5 : decode jdk_35_method_24_code 5 = .ok (.ldc2_w 230, 3) := by decide +kernel
theorem d2_8 : decode jdk_35_method_24_code 8 = .ok (.lcmp, 1) := by decide +kernel
theorem d2_9 : decode jdk_35_method_24_code 9 = .ok (.ifCond .lt 22, 3) := by decide +kernel
theorem d2_31 : decode jdk_35_method_24_code 31 = .ok (.new 1, 3) := by decide +kernel
theorem d2_34 : decode jdk_35_method_24_code 34 = .ok (.dup, 1) := by decide +kernel
theorem d2_35 : decode jdk_35_method_24_code 35 = .ok (.lload_n 0, 1) := by decide +kernel
theorem d2_36 : decode jdk_35_method_24_code 36 = .ok (.invokespecial 240, 3) := by decide +kernel
theorem own_pd9 : parseMethodDescriptor "(J)V" = some ⟨[.long], none⟩ := by decide +kernel
theorem d2_39 : decode jdk_35_method_24_code 39 = .ok (.areturn, 1) := by decide +kernel
theorem d2_12 : decode jdk_35_method_24_code 12 = .ok (.lload_n 0, 1) := by decide +kernel
theorem d2_13 : decode jdk_35_method_24_code 13 = .ok (.ldc2_w 232, 3) := by decide +kernel
theorem d2_16 : decode jdk_35_method_24_code 16 = .ok (.lcmp, 1) := by decide +kernel
theorem d2_17 : decode jdk_35_method_24_code 17 = .ok (.ifCond .gt 14, 3) := by decide +kernel
theorem d2_20 : decode jdk_35_method_24_code 20 = .ok (.getstatic 234, 3) := by decide +kernel
theorem d2_23 : decode jdk_35_method_24_code 23 = .ok (.lload_n 0, 1) := by decide +kernel
theorem d2_24 : decode jdk_35_method_24_code 24 = .ok (.l2i, 1) := by decide +kernel
theorem d2_25 : decode jdk_35_method_24_code 25 = .ok (.sipush 128, 3) := by decide +kernel
theorem d2_28 : decode jdk_35_method_24_code 28 = .ok (.iadd, 1) := by decide +kernel
theorem d2_29 : decode jdk_35_method_24_code 29 = .ok (.aaload, 1) := by decide +kernel
theorem d2_30 : decode jdk_35_method_24_code 30 = .ok (.areturn, 1) := by decide +kernel
theorem ef_rm2 (m : MethodId) (x0 : Int64)  : entryFrame m #[(.long x0)] 3 = mkF m 0 #[.val (.long x0), .second, .unset] [] := by first | (simp [entryFrame, mkF, argsToLocals, Value.category]; done) | rfl
set_option maxRecDepth 65536 in
set_option maxHeartbeats 40000000 in
theorem rm2 (l : Launch) (Z : State) (a0 : Array Value) (hw : ∀ d ∈ tables_1, d.before a0 Z = true) (ws : List Jvm.Cond) (ca : Addr) (q1 : Int64) (h0 : Heap) (n0 : Nat) (Z0 : n0 ≤ h0.size) (Xo : Old Z n0 h0) (hca : own_Cache Z ca) :
    MetFree l (⟨"java/lang/Long", "valueOf", "(J)Ljava/lang/Long;"⟩ : MethodName) (head1 (Jvm.Cond.code (⟨"java/lang/Long", "valueOf", "(J)Ljava/lang/Long;"⟩ : MethodName) jdk_35_method_24_code 3 (some (.object "java/lang/Long")) :: ws) ({ frames := 3, cells := 1, slots := 1, locals := 39 } : Room)) (fun a U => a = #[(.long q1)] ∧ Z.Warmed39 U.vm ∧ U.heap = h0) (fun _ _ _ _ _ => True) (fun _ U o U' => ∃ v L, o = .returned v ∧ own_Qv Z q1 h0 n0 v U'.heap L ∧ FrameEnd U o U' L ({ frames := 3, cells := 1, slots := 1, locals := 39 } : Room).cells ({ frames := 3, cells := 1, slots := 1, locals := 39 } : Room).slots) := by
  refine MetFree.of_bodySF (plainFor_of_name own_pn_java_lang_Long) hisR ?_
  intro p e s m args below meth c s₁ Bd hml0 hP hK
  obtain ⟨rfl, hZ, hh⟩ := hP
  have hx := Bd.exec
  have hby := Bd.bytes
  have hlk := BodyLoose.notSynchronized Bd
  have hml : c.maxLocals = 3 := hml0
  have hown : s.vm.findClass "java/lang/Long" = some m.cls := findClass_of_methodNamed Bd.named
  have hnm := (name_of_methodNamed Bd.named Bd.method).1
  have X0 : Stand p l e ({ frames := 3, cells := 1, slots := 1, locals := 39 } : Room) s m #[(.long q1)] below meth c s₁ [] 0 0 := Stand.of_body Bd
  have e0 : s₁.heap = h0 := by rw [← hh, Bd.state]; rfl
  have N0 := Fr.nil n0
  show own_Ends p e below s (own_Qv Z q1 h0 n0) 1 1 (s₁.setTop (entryFrame m #[(.long q1)] 3))
  refine own_go (W1 := s₁.setTop (mkF m 0 #[.val (.long q1), .second, .unset] [])) (fun t k => castTop (ef_rm2 m q1 ) k) ?_
  have K0 := Keep.refl h0 []
  refine own_go (W1 := s₁.setTop (mkF m 3 #[.val (.long q1), .second, .unset] [(.int (128 : Int32))])) (fun t k => XS.sipush X0.here hx rfl (hb hby d2_0) k) ?_
  refine own_go (W1 := s₁.setTop (mkF m 4 #[.val (.long q1), .second, .val (.int (128 : Int32))] [])) (fun t k => XS.istoreN X0.here hx rfl (hb hby d2_3) rfl (l' := #[.val (.long q1), .second, .val (.int (128 : Int32))]) rfl k) ?_
  refine own_go (W1 := s₁.setTop (mkF m 5 #[.val (.long q1), .second, .val (.int (128 : Int32))] [(.long q1)])) (fun t k => XS.lloadN X0.here hx rfl (hb hby d2_4) rfl  k) ?_
  refine own_go (W1 := s₁.setTop (mkF m 8 #[.val (.long q1), .second, .val (.int (128 : Int32))] [(.long (-128 : Int64)), (.long q1)])) (X0.ldc2Long hx hown (mvT hZ (hw _ (List.mem_of_getElem? (i := 10) rfl))) (g := (mkF m 5 #[.val (.long q1), .second, .val (.int (128 : Int32))] [(.long q1)])) rfl (hb hby d2_5)) ?_
  refine own_go (W1 := s₁.setTop (mkF m 9 #[.val (.long q1), .second, .val (.int (128 : Int32))] [(.int (lcmpW q1 (-128 : Int64)))])) (fun t k => XS.lcmp X0.here hx rfl (hb hby d2_8) rfl k) ?_
  by_cases hc9_1 : (lcmpW q1 (-128 : Int64)) < (0 : Int32)
  · skip
    refine own_go (W1 := s₁.setTop (mkF m 31 #[.val (.long q1), .second, .val (.int (128 : Int32))] [])) (fun t k => XS.ifYes X0.here hx rfl (pc0 := 9) (pc' := 31) rfl (hb hby d2_9) rfl ((if0 _ _).trans (tlt (show (lcmpW q1 (-128 : Int64)) < (0 : Int32) from hc9_1)).1) (by decide) (by decide) k) ?_
    obtain ⟨T1, h1, X1, e1, E1, A1, D1, -, st1⟩ := newO X0 hx hZ hown (hw _ (List.mem_of_getElem? (i := 74) rfl)) (hw _ (List.mem_of_getElem? (i := 75) rfl)) (hw _ (List.mem_of_getElem? (i := 8) rfl)) e0 (g := (mkF m 31 #[.val (.long q1), .second, .val (.int (128 : Int32))] [])) rfl (hb hby d2_31) (by decide) (by decide)
    obtain ⟨b, g1⟩ : ∃ z, z = h0.size := ⟨_, rfl⟩
    have ge_b : n0 ≤ b := Nat.le_trans Z0 (Nat.le_of_eq g1.symm)
    have sz_b : h0.size ≤ b := Nat.le_trans K0.1 (Nat.le_of_eq g1.symm)
    rw [← g1] at A1 D1 st1
    have Xo := Xo.ext E1
    have Z1 : n0 ≤ h1.size := Nat.le_trans Z0 E1.1
    have K1 := K0.ext E1
    have E_b := A1
    have F_value_b : Fld Z h1 b "java/lang/Long" "value" "J" (.long (0 : Int64)) := D1 (Or.inr (hw _ (List.mem_of_getElem? (i := 73) rfl))) (ty := .long) (by decide)
    refine own_go (W1 := T1.setTop (mkF m 34 #[.val (.long q1), .second, .val (.int (128 : Int32))] [(.ref b)])) (st1) ?_
    refine own_go (W1 := T1.setTop (mkF m 35 #[.val (.long q1), .second, .val (.int (128 : Int32))] [(.ref b), (.ref b)])) (fun t k => XS.dup X1.here hx rfl (hb hby d2_34) rfl rfl k) ?_
    refine own_go (W1 := T1.setTop (mkF m 36 #[.val (.long q1), .second, .val (.int (128 : Int32))] [(.long q1), (.ref b), (.ref b)])) (fun t k => XS.lloadN X1.here hx rfl (hb hby d2_35) rfl  k) ?_
    obtain ⟨_, _, ⟨T2, L2, k2, n2⟩, -, X2, ⟨Lc2, hQ2, l2, y2, z2⟩, st2⟩ := X1.specialBack hx (y := (⟨"java/lang/Long", "<init>", "(J)V"⟩ : MethodName)) rfl hown (mvT hZ (hw _ (List.mem_of_getElem? (i := 76) rfl))) (mvT hZ (hw _ (List.mem_of_getElem? (i := 77) rfl))) (mvT hZ (hw _ (List.mem_of_getElem? (i := 79) rfl))) (by decide) (backOf (W := 1) (rm13 l Z a0 hw [] b q1 h1 n0 Z1 E_b F_value_b ge_b) hZ (hw _ (List.mem_of_getElem? (i := 79) rfl)) (hw _ (List.mem_of_getElem? (i := 8) rfl)) (by decide) (by decide)) (g := (mkF m 36 #[.val (.long q1), .second, .val (.int (128 : Int32))] [(.long q1), (.ref b), (.ref b)])) rfl (by rw [hml]; rfl) (Steps.refl _) (a := b) (argsL := [(.long q1)]) (rest := [(.ref b)]) (lenOf own_pd9 rfl) rfl (by show 2 * 0 + _ ≤ _; exact Nat.le_of_eq rfl) (hb hby d2_36) (fun _ _ => ⟨rfl, e1, (by decide : 1 + 0 ≤ _), (by decide : 1 + 0 ≤ _)⟩)
    dsimp only [Pt.U, Pt.locs, Pt.cells, Pt.slots] at X2 l2 y2 z2 st2 hQ2
    subst l2 y2 z2
    obtain ⟨rfl, Nq2, Kq2, Eq2, Fa2⟩ := hQ2
    have Xo := Xo.keep Kq2 (allS ge_b all0)
    have E_b := E_b.keep Kq2
    have Z2 : n0 ≤ T2.heap.size := Nat.le_trans Z1 Kq2.1
    have K2 := K1.trans Kq2 (allS (Or.inr sz_b) all0)
    have N2 := Fr.app N0 Nq2
    have F_value_b := Fa2
    refine own_tr (W1 := T2.setTop (mkF m 39 #[.val (.long q1), .second, .val (.int (128 : Int32))] [(.ref b)])) st2 ?_
    exact own_retR X2 hx Bd.returns rfl rfl (hb hby d2_39) hlk (by decide) (by decide) ⟨b, rfl, N2, K2, E_b, F_value_b⟩
  · skip
    refine own_go (W1 := s₁.setTop (mkF m 12 #[.val (.long q1), .second, .val (.int (128 : Int32))] [])) (fun t k => XS.ifNo X0.here hx rfl (hb hby d2_9) rfl ((if0 _ _).trans (flt (show ¬ ((lcmpW q1 (-128 : Int64)) < (0 : Int32)) from hc9_1)).1) k) ?_
    refine own_go (W1 := s₁.setTop (mkF m 13 #[.val (.long q1), .second, .val (.int (128 : Int32))] [(.long q1)])) (fun t k => XS.lloadN X0.here hx rfl (hb hby d2_12) rfl  k) ?_
    refine own_go (W1 := s₁.setTop (mkF m 16 #[.val (.long q1), .second, .val (.int (128 : Int32))] [(.long (127 : Int64)), (.long q1)])) (X0.ldc2Long hx hown (mvT hZ (hw _ (List.mem_of_getElem? (i := 11) rfl))) (g := (mkF m 13 #[.val (.long q1), .second, .val (.int (128 : Int32))] [(.long q1)])) rfl (hb hby d2_13)) ?_
    refine own_go (W1 := s₁.setTop (mkF m 17 #[.val (.long q1), .second, .val (.int (128 : Int32))] [(.int (lcmpW q1 (127 : Int64)))])) (fun t k => XS.lcmp X0.here hx rfl (hb hby d2_16) rfl k) ?_
    by_cases hc17_2 : (0 : Int32) < (lcmpW q1 (127 : Int64))
    · skip
      refine own_go (W1 := s₁.setTop (mkF m 31 #[.val (.long q1), .second, .val (.int (128 : Int32))] [])) (fun t k => XS.ifYes X0.here hx rfl (pc0 := 17) (pc' := 31) rfl (hb hby d2_17) rfl ((if0 _ _).trans (tlt (show (0 : Int32) < (lcmpW q1 (127 : Int64)) from hc17_2)).2.2.1) (by decide) (by decide) k) ?_
      obtain ⟨T3, h3, X3, e3, E3, A3, D3, -, st3⟩ := newO X0 hx hZ hown (hw _ (List.mem_of_getElem? (i := 74) rfl)) (hw _ (List.mem_of_getElem? (i := 75) rfl)) (hw _ (List.mem_of_getElem? (i := 8) rfl)) e0 (g := (mkF m 31 #[.val (.long q1), .second, .val (.int (128 : Int32))] [])) rfl (hb hby d2_31) (by decide) (by decide)
      obtain ⟨b, g3⟩ : ∃ z, z = h0.size := ⟨_, rfl⟩
      have ge_b : n0 ≤ b := Nat.le_trans Z0 (Nat.le_of_eq g3.symm)
      have sz_b : h0.size ≤ b := Nat.le_trans K0.1 (Nat.le_of_eq g3.symm)
      rw [← g3] at A3 D3 st3
      have Xo := Xo.ext E3
      have Z3 : n0 ≤ h3.size := Nat.le_trans Z0 E3.1
      have K3 := K0.ext E3
      have E_b := A3
      have F_value_b : Fld Z h3 b "java/lang/Long" "value" "J" (.long (0 : Int64)) := D3 (Or.inr (hw _ (List.mem_of_getElem? (i := 73) rfl))) (ty := .long) (by decide)
      refine own_go (W1 := T3.setTop (mkF m 34 #[.val (.long q1), .second, .val (.int (128 : Int32))] [(.ref b)])) (st3) ?_
      refine own_go (W1 := T3.setTop (mkF m 35 #[.val (.long q1), .second, .val (.int (128 : Int32))] [(.ref b), (.ref b)])) (fun t k => XS.dup X3.here hx rfl (hb hby d2_34) rfl rfl k) ?_
      refine own_go (W1 := T3.setTop (mkF m 36 #[.val (.long q1), .second, .val (.int (128 : Int32))] [(.long q1), (.ref b), (.ref b)])) (fun t k => XS.lloadN X3.here hx rfl (hb hby d2_35) rfl  k) ?_
      obtain ⟨_, _, ⟨T4, L4, k4, n4⟩, -, X4, ⟨Lc4, hQ4, l4, y4, z4⟩, st4⟩ := X3.specialBack hx (y := (⟨"java/lang/Long", "<init>", "(J)V"⟩ : MethodName)) rfl hown (mvT hZ (hw _ (List.mem_of_getElem? (i := 76) rfl))) (mvT hZ (hw _ (List.mem_of_getElem? (i := 77) rfl))) (mvT hZ (hw _ (List.mem_of_getElem? (i := 79) rfl))) (by decide) (backOf (W := 1) (rm13 l Z a0 hw [] b q1 h3 n0 Z3 E_b F_value_b ge_b) hZ (hw _ (List.mem_of_getElem? (i := 79) rfl)) (hw _ (List.mem_of_getElem? (i := 8) rfl)) (by decide) (by decide)) (g := (mkF m 36 #[.val (.long q1), .second, .val (.int (128 : Int32))] [(.long q1), (.ref b), (.ref b)])) rfl (by rw [hml]; rfl) (Steps.refl _) (a := b) (argsL := [(.long q1)]) (rest := [(.ref b)]) (lenOf own_pd9 rfl) rfl (by show 2 * 0 + _ ≤ _; exact Nat.le_of_eq rfl) (hb hby d2_36) (fun _ _ => ⟨rfl, e3, (by decide : 1 + 0 ≤ _), (by decide : 1 + 0 ≤ _)⟩)
      dsimp only [Pt.U, Pt.locs, Pt.cells, Pt.slots] at X4 l4 y4 z4 st4 hQ4
      subst l4 y4 z4
      obtain ⟨rfl, Nq4, Kq4, Eq4, Fa4⟩ := hQ4
      have Xo := Xo.keep Kq4 (allS ge_b all0)
      have E_b := E_b.keep Kq4
      have Z4 : n0 ≤ T4.heap.size := Nat.le_trans Z3 Kq4.1
      have K4 := K3.trans Kq4 (allS (Or.inr sz_b) all0)
      have N4 := Fr.app N0 Nq4
      have F_value_b := Fa4
      refine own_tr (W1 := T4.setTop (mkF m 39 #[.val (.long q1), .second, .val (.int (128 : Int32))] [(.ref b)])) st4 ?_
      exact own_retR X4 hx Bd.returns rfl rfl (hb hby d2_39) hlk (by decide) (by decide) ⟨b, rfl, N4, K4, E_b, F_value_b⟩
    · skip
      refine own_go (W1 := s₁.setTop (mkF m 20 #[.val (.long q1), .second, .val (.int (128 : Int32))] [])) (fun t k => XS.ifNo X0.here hx rfl (hb hby d2_17) rfl ((if0 _ _).trans (flt (show ¬ ((0 : Int32) < (lcmpW q1 (127 : Int64))) from hc17_2)).2.2.1) k) ?_
      have S_c := hca.1.ext Xo.2
      obtain ⟨T5, X5, e5, st5⟩ := getS2 X0 hx hZ hown (host := "") (Or.inl (hw _ (List.mem_of_getElem? (i := 12) rfl))) Via.refl e0 S_c (g := (mkF m 20 #[.val (.long q1), .second, .val (.int (128 : Int32))] [])) rfl (hb hby d2_20)
      refine own_go (W1 := T5.setTop (mkF m 23 #[.val (.long q1), .second, .val (.int (128 : Int32))] [(.ref ca)])) (st5) ?_
      refine own_go (W1 := T5.setTop (mkF m 24 #[.val (.long q1), .second, .val (.int (128 : Int32))] [(.long q1), (.ref ca)])) (fun t k => XS.lloadN X5.here hx rfl (hb hby d2_23) rfl  k) ?_
      refine own_go (W1 := T5.setTop (mkF m 25 #[.val (.long q1), .second, .val (.int (128 : Int32))] [(.int (q1.toInt32)), (.ref ca)])) (fun t k => XS.l2i X5.here hx rfl (hb hby d2_24) rfl k) ?_
      refine own_go (W1 := T5.setTop (mkF m 28 #[.val (.long q1), .second, .val (.int (128 : Int32))] [(.int (128 : Int32)), (.int (q1.toInt32)), (.ref ca)])) (fun t k => XS.sipush X5.here hx rfl (hb hby d2_25) k) ?_
      refine own_go (W1 := T5.setTop (mkF m 29 #[.val (.long q1), .second, .val (.int (128 : Int32))] [(.int ((q1.toInt32) + (128 : Int32))), (.ref ca)])) (fun t k => XS.iadd X5.here hx rfl (hb hby d2_28) rfl k) ?_
      obtain ⟨-, cl, Arc, hsz, hall⟩ := hca
      have lo := own_lo hc9_1
      have hi := own_hi hc17_2
      obtain ⟨r, hat, Er, Fv⟩ := hall q1 lo hi
      have Arc := Arc.ext Xo.2
      have Er := Er.ext Xo.2
      have Fv := Fv.ext Xo.2
      refine own_go (W1 := T5.setTop (mkF m 30 #[.val (.long q1), .second, .val (.int (128 : Int32))] [(.ref r)])) (X5.aaload hx (j := ((q1.toInt32) + (128 : Int32))) (v := (.ref r)) (by rw [e5]; exact Arc.1) (State.isArrayOf_alike hZ.alike Arc.2.1) rfl Arc.2.2 (own_in lo hi hsz) hat (g := (mkF m 29 #[.val (.long q1), .second, .val (.int (128 : Int32))] [(.int ((q1.toInt32) + (128 : Int32))), (.ref ca)])) rfl rfl (hb hby d2_29)) ?_
      exact own_retR X5 hx Bd.returns rfl rfl (hb hby d2_30) hlk (by decide) (by decide) (by rw [e5]; exact ⟨r, rfl, N0, K0, Er, Fv⟩)
theorem own_pn_com_example_tenorbook_tenorbook_trail_TrailFilter : plainName "com/example/tenorbook/tenorbook/trail/TrailFilter" = true := by first | (simp [plainName, overriddenIn]; done) | decide +kernel
theorem d3_0 : decode prog_82_method_1_code 0 = .ok (.aload_n 0, 1) := by decide +kernel
theorem d3_1 : decode prog_82_method_1_code 1 = .ok (.invokespecial 1, 3) := by decide +kernel
theorem d3_4 : decode prog_82_method_1_code 4 = .ok (.aload_n 0, 1) := by decide +kernel
theorem d3_5 : decode prog_82_method_1_code 5 = .ok (.aload_n 1, 1) := by decide +kernel
theorem d3_6 : decode prog_82_method_1_code 6 = .ok (.putfield 7, 3) := by decide +kernel
theorem d3_9 : decode prog_82_method_1_code 9 = .ok (.aload_n 0, 1) := by decide +kernel
theorem d3_10 : decode prog_82_method_1_code 10 = .ok (.aload_n 2, 1) := by decide +kernel
theorem d3_11 : decode prog_82_method_1_code 11 = .ok (.putfield 13, 3) := by decide +kernel
theorem d3_14 : decode prog_82_method_1_code 14 = .ok (.aload_n 0, 1) := by decide +kernel
theorem d3_15 : decode prog_82_method_1_code 15 = .ok (.aload_n 3, 1) := by decide +kernel
theorem d3_16 : decode prog_82_method_1_code 16 = .ok (.putfield 16, 3) := by decide +kernel
theorem d3_19 : decode prog_82_method_1_code 19 = .ok (.aload_n 0, 1) := by decide +kernel
theorem d3_20 : decode prog_82_method_1_code 20 = .ok (.aload 4, 2) := by decide +kernel
theorem d3_22 : decode prog_82_method_1_code 22 = .ok (.putfield 20, 3) := by decide +kernel
theorem d3_25 : decode prog_82_method_1_code 25 = .ok (.aload_n 0, 1) := by decide +kernel
theorem d3_26 : decode prog_82_method_1_code 26 = .ok (.aload 5, 2) := by decide +kernel
theorem d3_28 : decode prog_82_method_1_code 28 = .ok (.putfield 24, 3) := by decide +kernel
theorem d3_31 : decode prog_82_method_1_code 31 = .ok (.aload_n 0, 1) := by decide +kernel
theorem d3_32 : decode prog_82_method_1_code 32 = .ok (.aload 6, 2) := by decide +kernel
theorem d3_34 : decode prog_82_method_1_code 34 = .ok (.putfield 28, 3) := by decide +kernel
theorem d3_37 : decode prog_82_method_1_code 37 = .ok (.return_, 1) := by decide +kernel
theorem ef_rm3 (m : MethodId) (x0 : Addr) (x5 : Addr) (x6 : Addr)  : entryFrame m #[(.ref x0), .null, .null, .null, .null, (.ref x5), (.ref x6)] 7 = mkF m 0 #[.val (.ref x0), .val .null, .val .null, .val .null, .val .null, .val (.ref x5), .val (.ref x6)] [] := by first | (simp [entryFrame, mkF, argsToLocals, Value.category]; done) | rfl
set_option maxRecDepth 65536 in
set_option maxHeartbeats 40000000 in
theorem rm3 (l : Launch) (Z : State) (a0 : Array Value) (hw : ∀ d ∈ tables_1, d.before a0 Z = true) (ws : List Jvm.Cond) (a1 r5 r6 : Addr) (h0 : Heap) (n0 : Nat) (Z0 : n0 ≤ h0.size) (E_a1 : Exa Z h0 a1 "com/example/tenorbook/tenorbook/trail/TrailFilter") (F_from_a1 : Fld Z h0 a1 "com/example/tenorbook/tenorbook/trail/TrailFilter" "from" "Ljava/time/LocalDate;" .null) (F_until_a1 : Fld Z h0 a1 "com/example/tenorbook/tenorbook/trail/TrailFilter" "until" "Ljava/time/LocalDate;" .null) (F_member_a1 : Fld Z h0 a1 "com/example/tenorbook/tenorbook/trail/TrailFilter" "member" "Ljava/lang/String;" .null) (F_operation_a1 : Fld Z h0 a1 "com/example/tenorbook/tenorbook/trail/TrailFilter" "operation" "Lcom/example/tenorbook/tenorbook/trail/Operation;" .null) (F_billId_a1 : Fld Z h0 a1 "com/example/tenorbook/tenorbook/trail/TrailFilter" "billId" "Ljava/lang/Long;" .null) (F_batchId_a1 : Fld Z h0 a1 "com/example/tenorbook/tenorbook/trail/TrailFilter" "batchId" "Ljava/lang/Long;" .null) (ge_a1 : n0 ≤ a1) :
    MetFree l (⟨"com/example/tenorbook/tenorbook/trail/TrailFilter", "<init>", "(Ljava/time/LocalDate;Ljava/time/LocalDate;Ljava/lang/String;Lcom/example/tenorbook/tenorbook/trail/Operation;Ljava/lang/Long;Ljava/lang/Long;)V"⟩ : MethodName) (head1 (Jvm.Cond.code (⟨"com/example/tenorbook/tenorbook/trail/TrailFilter", "<init>", "(Ljava/time/LocalDate;Ljava/time/LocalDate;Ljava/lang/String;Lcom/example/tenorbook/tenorbook/trail/Operation;Ljava/lang/Long;Ljava/lang/Long;)V"⟩ : MethodName) prog_82_method_1_code 7 none :: ws) ({ frames := 2, cells := 0, slots := 0, locals := 24 } : Room)) (fun a U => a = #[(.ref a1), .null, .null, .null, .null, (.ref r5), (.ref r6)] ∧ Z.Warmed39 U.vm ∧ U.heap = h0) (fun _ _ _ _ _ => True) (fun _ U o U' => ∃ v L, o = .returned v ∧ own_Qi Z a1 r5 r6 h0 n0 v U'.heap L ∧ FrameEnd U o U' L ({ frames := 2, cells := 0, slots := 0, locals := 24 } : Room).cells ({ frames := 2, cells := 0, slots := 0, locals := 24 } : Room).slots) := by
  refine MetFree.of_bodySF (plainFor_of_name own_pn_com_example_tenorbook_tenorbook_trail_TrailFilter) hisR ?_
  intro p e s m args below meth c s₁ Bd hml0 hP hK
  obtain ⟨rfl, hZ, hh⟩ := hP
  have hx := Bd.exec
  have hby := Bd.bytes
  have hlk := BodyLoose.notSynchronized Bd
  have hml : c.maxLocals = 7 := hml0
  have hown : s.vm.findClass "com/example/tenorbook/tenorbook/trail/TrailFilter" = some m.cls := findClass_of_methodNamed Bd.named
  have hnm := (name_of_methodNamed Bd.named Bd.method).1
  have X0 : Stand p l e ({ frames := 2, cells := 0, slots := 0, locals := 24 } : Room) s m #[(.ref a1), .null, .null, .null, .null, (.ref r5), (.ref r6)] below meth c s₁ [] 0 0 := Stand.of_body Bd
  have e0 : s₁.heap = h0 := by rw [← hh, Bd.state]; rfl
  have N0 := Fr.nil n0
  show own_Ends p e below s (own_Qi Z a1 r5 r6 h0 n0) 0 0 (s₁.setTop (entryFrame m #[(.ref a1), .null, .null, .null, .null, (.ref r5), (.ref r6)] 7))
  refine own_go (W1 := s₁.setTop (mkF m 0 #[.val (.ref a1), .val .null, .val .null, .val .null, .val .null, .val (.ref r5), .val (.ref r6)] [])) (fun t k => castTop (ef_rm3 m a1 r5 r6 ) k) ?_
  have K0 := Keep.refl h0 [a1]
  refine own_go (W1 := s₁.setTop (mkF m 1 #[.val (.ref a1), .val .null, .val .null, .val .null, .val .null, .val (.ref r5), .val (.ref r6)] [(.ref a1)])) (fun t k => XS.aloadN X0.here hx rfl (hb hby d3_0) rfl rfl  k) ?_
  obtain ⟨_, _, ⟨T1, L1, k1, n1⟩, -, X1, ⟨Lc1, hQ1, l1, y1, z1⟩, st1⟩ := X0.specialBack hx (y := (⟨"java/lang/Record", "<init>", "()V"⟩ : MethodName)) rfl hown (mvT hZ (hw _ (List.mem_of_getElem? (i := 17) rfl))) (mvT hZ (hw _ (List.mem_of_getElem? (i := 18) rfl))) (mvT hZ (hw _ (List.mem_of_getElem? (i := 21) rfl))) (by decide) (backOf (W := 0) (rm4 l Z a0 hw [] a1 h0 n0 Z0) hZ (hw _ (List.mem_of_getElem? (i := 21) rfl)) (hw _ (List.mem_of_getElem? (i := 20) rfl)) (by decide) (by decide)) (g := (mkF m 1 #[.val (.ref a1), .val .null, .val .null, .val .null, .val .null, .val (.ref r5), .val (.ref r6)] [(.ref a1)])) rfl (by rw [hml]; rfl) (Steps.refl _) (a := a1) (argsL := []) (rest := []) (lenOf own_pd3 rfl) rfl (by show 2 * 0 + _ ≤ _; exact Nat.le_of_eq rfl) (hb hby d3_1) (fun _ _ => ⟨rfl, e0, (by decide : 0 + 0 ≤ _), (by decide : 0 + 0 ≤ _)⟩)
  dsimp only [Pt.U, Pt.locs, Pt.cells, Pt.slots] at X1 l1 y1 z1 st1 hQ1
  subst l1 y1 z1
  obtain ⟨rfl, Nq1, eh1⟩ := hQ1
  have N1 := Fr.app N0 Nq1
  refine own_tr (W1 := T1.setTop (mkF m 4 #[.val (.ref a1), .val .null, .val .null, .val .null, .val .null, .val (.ref r5), .val (.ref r6)] [])) st1 ?_
  refine own_go (W1 := T1.setTop (mkF m 5 #[.val (.ref a1), .val .null, .val .null, .val .null, .val .null, .val (.ref r5), .val (.ref r6)] [(.ref a1)])) (fun t k => XS.aloadN X1.here hx rfl (hb hby d3_4) rfl rfl  k) ?_
  refine own_go (W1 := T1.setTop (mkF m 6 #[.val (.ref a1), .val .null, .val .null, .val .null, .val .null, .val (.ref r5), .val (.ref r6)] [.null, (.ref a1)])) (fun t k => XS.aloadN X1.here hx rfl (hb hby d3_5) rfl rfl  k) ?_
  obtain ⟨T2, h2, X2, e2, W2, st2⟩ := putF X1 hx hZ hown (host := "") (Or.inl (hw _ (List.mem_of_getElem? (i := 25) rfl))) Via.refl eh1 F_from_a1 E_a1 (Or.inr ⟨(hw _ (List.mem_of_getElem? (i := 26) rfl)), rfl, hnm⟩) (hw _ (List.mem_of_getElem? (i := 5) rfl)) (ty := (.object "java/time/LocalDate")) (by decide) rfl rfl (g := (mkF m 6 #[.val (.ref a1), .val .null, .val .null, .val .null, .val .null, .val (.ref r5), .val (.ref r6)] [.null, (.ref a1)])) rfl rfl (hb hby d3_6)
  have E_a1 := E_a1.wr W2
  have F_from_a1 := F_from_a1.same W2
  have F_until_a1 := F_until_a1.other W2 (Or.inr (slot_ne (a0 := a0) (Or.inr (hw _ (List.mem_of_getElem? (i := 28) rfl))) (Or.inr (hw _ (List.mem_of_getElem? (i := 26) rfl))) (by decide) (t := (.object "java/time/LocalDate")) (t' := (.object "java/time/LocalDate")) (by decide) (by decide)))
  have F_member_a1 := F_member_a1.other W2 (Or.inr (slot_ne (a0 := a0) (Or.inr (hw _ (List.mem_of_getElem? (i := 30) rfl))) (Or.inr (hw _ (List.mem_of_getElem? (i := 26) rfl))) (by decide) (t := (.object "java/lang/String")) (t' := (.object "java/time/LocalDate")) (by decide) (by decide)))
  have F_operation_a1 := F_operation_a1.other W2 (Or.inr (slot_ne (a0 := a0) (Or.inr (hw _ (List.mem_of_getElem? (i := 32) rfl))) (Or.inr (hw _ (List.mem_of_getElem? (i := 26) rfl))) (by decide) (t := (.object "com/example/tenorbook/tenorbook/trail/Operation")) (t' := (.object "java/time/LocalDate")) (by decide) (by decide)))
  have F_billId_a1 := F_billId_a1.other W2 (Or.inr (slot_ne (a0 := a0) (Or.inr (hw _ (List.mem_of_getElem? (i := 34) rfl))) (Or.inr (hw _ (List.mem_of_getElem? (i := 26) rfl))) (by decide) (t := (.object "java/lang/Long")) (t' := (.object "java/time/LocalDate")) (by decide) (by decide)))
  have F_batchId_a1 := F_batchId_a1.other W2 (Or.inr (slot_ne (a0 := a0) (Or.inr (hw _ (List.mem_of_getElem? (i := 36) rfl))) (Or.inr (hw _ (List.mem_of_getElem? (i := 26) rfl))) (by decide) (t := (.object "java/lang/Long")) (t' := (.object "java/time/LocalDate")) (by decide) (by decide)))
  have Z2 : n0 ≤ h2.size := by rw [W2.size]; exact Z0
  have K2 := K0.wr W2 (Or.inl (List.mem_of_getElem? (i := 0) rfl))
  have N2 := Fr.snoc X2 N1 ge_a1
  refine own_go (W1 := T2.setTop (mkF m 9 #[.val (.ref a1), .val .null, .val .null, .val .null, .val .null, .val (.ref r5), .val (.ref r6)] [])) (st2) ?_
  refine own_go (W1 := T2.setTop (mkF m 10 #[.val (.ref a1), .val .null, .val .null, .val .null, .val .null, .val (.ref r5), .val (.ref r6)] [(.ref a1)])) (fun t k => XS.aloadN X2.here hx rfl (hb hby d3_9) rfl rfl  k) ?_
  refine own_go (W1 := T2.setTop (mkF m 11 #[.val (.ref a1), .val .null, .val .null, .val .null, .val .null, .val (.ref r5), .val (.ref r6)] [.null, (.ref a1)])) (fun t k => XS.aloadN X2.here hx rfl (hb hby d3_10) rfl rfl  k) ?_
  obtain ⟨T3, h3, X3, e3, W3, st3⟩ := putF X2 hx hZ hown (host := "") (Or.inl (hw _ (List.mem_of_getElem? (i := 27) rfl))) Via.refl e2 F_until_a1 E_a1 (Or.inr ⟨(hw _ (List.mem_of_getElem? (i := 28) rfl)), rfl, hnm⟩) (hw _ (List.mem_of_getElem? (i := 5) rfl)) (ty := (.object "java/time/LocalDate")) (by decide) rfl rfl (g := (mkF m 11 #[.val (.ref a1), .val .null, .val .null, .val .null, .val .null, .val (.ref r5), .val (.ref r6)] [.null, (.ref a1)])) rfl rfl (hb hby d3_11)
  have E_a1 := E_a1.wr W3
  have F_from_a1 := F_from_a1.other W3 (Or.inr (slot_ne (a0 := a0) (Or.inr (hw _ (List.mem_of_getElem? (i := 26) rfl))) (Or.inr (hw _ (List.mem_of_getElem? (i := 28) rfl))) (by decide) (t := (.object "java/time/LocalDate")) (t' := (.object "java/time/LocalDate")) (by decide) (by decide)))
  have F_until_a1 := F_until_a1.same W3
  have F_member_a1 := F_member_a1.other W3 (Or.inr (slot_ne (a0 := a0) (Or.inr (hw _ (List.mem_of_getElem? (i := 30) rfl))) (Or.inr (hw _ (List.mem_of_getElem? (i := 28) rfl))) (by decide) (t := (.object "java/lang/String")) (t' := (.object "java/time/LocalDate")) (by decide) (by decide)))
  have F_operation_a1 := F_operation_a1.other W3 (Or.inr (slot_ne (a0 := a0) (Or.inr (hw _ (List.mem_of_getElem? (i := 32) rfl))) (Or.inr (hw _ (List.mem_of_getElem? (i := 28) rfl))) (by decide) (t := (.object "com/example/tenorbook/tenorbook/trail/Operation")) (t' := (.object "java/time/LocalDate")) (by decide) (by decide)))
  have F_billId_a1 := F_billId_a1.other W3 (Or.inr (slot_ne (a0 := a0) (Or.inr (hw _ (List.mem_of_getElem? (i := 34) rfl))) (Or.inr (hw _ (List.mem_of_getElem? (i := 28) rfl))) (by decide) (t := (.object "java/lang/Long")) (t' := (.object "java/time/LocalDate")) (by decide) (by decide)))
  have F_batchId_a1 := F_batchId_a1.other W3 (Or.inr (slot_ne (a0 := a0) (Or.inr (hw _ (List.mem_of_getElem? (i := 36) rfl))) (Or.inr (hw _ (List.mem_of_getElem? (i := 28) rfl))) (by decide) (t := (.object "java/lang/Long")) (t' := (.object "java/time/LocalDate")) (by decide) (by decide)))
  have Z3 : n0 ≤ h3.size := by rw [W3.size]; exact Z2
  have K3 := K2.wr W3 (Or.inl (List.mem_of_getElem? (i := 0) rfl))
  have N3 := Fr.snoc X3 N2 ge_a1
  refine own_go (W1 := T3.setTop (mkF m 14 #[.val (.ref a1), .val .null, .val .null, .val .null, .val .null, .val (.ref r5), .val (.ref r6)] [])) (st3) ?_
  refine own_go (W1 := T3.setTop (mkF m 15 #[.val (.ref a1), .val .null, .val .null, .val .null, .val .null, .val (.ref r5), .val (.ref r6)] [(.ref a1)])) (fun t k => XS.aloadN X3.here hx rfl (hb hby d3_14) rfl rfl  k) ?_
  refine own_go (W1 := T3.setTop (mkF m 16 #[.val (.ref a1), .val .null, .val .null, .val .null, .val .null, .val (.ref r5), .val (.ref r6)] [.null, (.ref a1)])) (fun t k => XS.aloadN X3.here hx rfl (hb hby d3_15) rfl rfl  k) ?_
  obtain ⟨T4, h4, X4, e4, W4, st4⟩ := putF X3 hx hZ hown (host := "") (Or.inl (hw _ (List.mem_of_getElem? (i := 29) rfl))) Via.refl e3 F_member_a1 E_a1 (Or.inr ⟨(hw _ (List.mem_of_getElem? (i := 30) rfl)), rfl, hnm⟩) (hw _ (List.mem_of_getElem? (i := 5) rfl)) (ty := (.object "java/lang/String")) (by decide) rfl rfl (g := (mkF m 16 #[.val (.ref a1), .val .null, .val .null, .val .null, .val .null, .val (.ref r5), .val (.ref r6)] [.null, (.ref a1)])) rfl rfl (hb hby d3_16)
  have E_a1 := E_a1.wr W4
  have F_from_a1 := F_from_a1.other W4 (Or.inr (slot_ne (a0 := a0) (Or.inr (hw _ (List.mem_of_getElem? (i := 26) rfl))) (Or.inr (hw _ (List.mem_of_getElem? (i := 30) rfl))) (by decide) (t := (.object "java/time/LocalDate")) (t' := (.object "java/lang/String")) (by decide) (by decide)))
  have F_until_a1 := F_until_a1.other W4 (Or.inr (slot_ne (a0 := a0) (Or.inr (hw _ (List.mem_of_getElem? (i := 28) rfl))) (Or.inr (hw _ (List.mem_of_getElem? (i := 30) rfl))) (by decide) (t := (.object "java/time/LocalDate")) (t' := (.object "java/lang/String")) (by decide) (by decide)))
  have F_member_a1 := F_member_a1.same W4
  have F_operation_a1 := F_operation_a1.other W4 (Or.inr (slot_ne (a0 := a0) (Or.inr (hw _ (List.mem_of_getElem? (i := 32) rfl))) (Or.inr (hw _ (List.mem_of_getElem? (i := 30) rfl))) (by decide) (t := (.object "com/example/tenorbook/tenorbook/trail/Operation")) (t' := (.object "java/lang/String")) (by decide) (by decide)))
  have F_billId_a1 := F_billId_a1.other W4 (Or.inr (slot_ne (a0 := a0) (Or.inr (hw _ (List.mem_of_getElem? (i := 34) rfl))) (Or.inr (hw _ (List.mem_of_getElem? (i := 30) rfl))) (by decide) (t := (.object "java/lang/Long")) (t' := (.object "java/lang/String")) (by decide) (by decide)))
  have F_batchId_a1 := F_batchId_a1.other W4 (Or.inr (slot_ne (a0 := a0) (Or.inr (hw _ (List.mem_of_getElem? (i := 36) rfl))) (Or.inr (hw _ (List.mem_of_getElem? (i := 30) rfl))) (by decide) (t := (.object "java/lang/Long")) (t' := (.object "java/lang/String")) (by decide) (by decide)))
  have Z4 : n0 ≤ h4.size := by rw [W4.size]; exact Z3
  have K4 := K3.wr W4 (Or.inl (List.mem_of_getElem? (i := 0) rfl))
  have N4 := Fr.snoc X4 N3 ge_a1
  refine own_go (W1 := T4.setTop (mkF m 19 #[.val (.ref a1), .val .null, .val .null, .val .null, .val .null, .val (.ref r5), .val (.ref r6)] [])) (st4) ?_
  refine own_go (W1 := T4.setTop (mkF m 20 #[.val (.ref a1), .val .null, .val .null, .val .null, .val .null, .val (.ref r5), .val (.ref r6)] [(.ref a1)])) (fun t k => XS.aloadN X4.here hx rfl (hb hby d3_19) rfl rfl  k) ?_
  refine own_go (W1 := T4.setTop (mkF m 22 #[.val (.ref a1), .val .null, .val .null, .val .null, .val .null, .val (.ref r5), .val (.ref r6)] [.null, (.ref a1)])) (fun t k => XS.aload X4.here hx rfl (hb hby d3_20) rfl rfl  k) ?_
  obtain ⟨T5, h5, X5, e5, W5, st5⟩ := putF X4 hx hZ hown (host := "") (Or.inl (hw _ (List.mem_of_getElem? (i := 31) rfl))) Via.refl e4 F_operation_a1 E_a1 (Or.inr ⟨(hw _ (List.mem_of_getElem? (i := 32) rfl)), rfl, hnm⟩) (hw _ (List.mem_of_getElem? (i := 5) rfl)) (ty := (.object "com/example/tenorbook/tenorbook/trail/Operation")) (by decide) rfl rfl (g := (mkF m 22 #[.val (.ref a1), .val .null, .val .null, .val .null, .val .null, .val (.ref r5), .val (.ref r6)] [.null, (.ref a1)])) rfl rfl (hb hby d3_22)
  have E_a1 := E_a1.wr W5
  have F_from_a1 := F_from_a1.other W5 (Or.inr (slot_ne (a0 := a0) (Or.inr (hw _ (List.mem_of_getElem? (i := 26) rfl))) (Or.inr (hw _ (List.mem_of_getElem? (i := 32) rfl))) (by decide) (t := (.object "java/time/LocalDate")) (t' := (.object "com/example/tenorbook/tenorbook/trail/Operation")) (by decide) (by decide)))
  have F_until_a1 := F_until_a1.other W5 (Or.inr (slot_ne (a0 := a0) (Or.inr (hw _ (List.mem_of_getElem? (i := 28) rfl))) (Or.inr (hw _ (List.mem_of_getElem? (i := 32) rfl))) (by decide) (t := (.object "java/time/LocalDate")) (t' := (.object "com/example/tenorbook/tenorbook/trail/Operation")) (by decide) (by decide)))
  have F_member_a1 := F_member_a1.other W5 (Or.inr (slot_ne (a0 := a0) (Or.inr (hw _ (List.mem_of_getElem? (i := 30) rfl))) (Or.inr (hw _ (List.mem_of_getElem? (i := 32) rfl))) (by decide) (t := (.object "java/lang/String")) (t' := (.object "com/example/tenorbook/tenorbook/trail/Operation")) (by decide) (by decide)))
  have F_operation_a1 := F_operation_a1.same W5
  have F_billId_a1 := F_billId_a1.other W5 (Or.inr (slot_ne (a0 := a0) (Or.inr (hw _ (List.mem_of_getElem? (i := 34) rfl))) (Or.inr (hw _ (List.mem_of_getElem? (i := 32) rfl))) (by decide) (t := (.object "java/lang/Long")) (t' := (.object "com/example/tenorbook/tenorbook/trail/Operation")) (by decide) (by decide)))
  have F_batchId_a1 := F_batchId_a1.other W5 (Or.inr (slot_ne (a0 := a0) (Or.inr (hw _ (List.mem_of_getElem? (i := 36) rfl))) (Or.inr (hw _ (List.mem_of_getElem? (i := 32) rfl))) (by decide) (t := (.object "java/lang/Long")) (t' := (.object "com/example/tenorbook/tenorbook/trail/Operation")) (by decide) (by decide)))
  have Z5 : n0 ≤ h5.size := by rw [W5.size]; exact Z4
  have K5 := K4.wr W5 (Or.inl (List.mem_of_getElem? (i := 0) rfl))
  have N5 := Fr.snoc X5 N4 ge_a1
  refine own_go (W1 := T5.setTop (mkF m 25 #[.val (.ref a1), .val .null, .val .null, .val .null, .val .null, .val (.ref r5), .val (.ref r6)] [])) (st5) ?_
  refine own_go (W1 := T5.setTop (mkF m 26 #[.val (.ref a1), .val .null, .val .null, .val .null, .val .null, .val (.ref r5), .val (.ref r6)] [(.ref a1)])) (fun t k => XS.aloadN X5.here hx rfl (hb hby d3_25) rfl rfl  k) ?_
  refine own_go (W1 := T5.setTop (mkF m 28 #[.val (.ref a1), .val .null, .val .null, .val .null, .val .null, .val (.ref r5), .val (.ref r6)] [(.ref r5), (.ref a1)])) (fun t k => XS.aload X5.here hx rfl (hb hby d3_26) rfl rfl  k) ?_
  obtain ⟨T6, h6, X6, e6, W6, st6⟩ := putF X5 hx hZ hown (host := "") (Or.inl (hw _ (List.mem_of_getElem? (i := 33) rfl))) Via.refl e5 F_billId_a1 E_a1 (Or.inr ⟨(hw _ (List.mem_of_getElem? (i := 34) rfl)), rfl, hnm⟩) (hw _ (List.mem_of_getElem? (i := 5) rfl)) (ty := (.object "java/lang/Long")) (by decide) rfl rfl (g := (mkF m 28 #[.val (.ref a1), .val .null, .val .null, .val .null, .val .null, .val (.ref r5), .val (.ref r6)] [(.ref r5), (.ref a1)])) rfl rfl (hb hby d3_28)
  have E_a1 := E_a1.wr W6
  have F_from_a1 := F_from_a1.other W6 (Or.inr (slot_ne (a0 := a0) (Or.inr (hw _ (List.mem_of_getElem? (i := 26) rfl))) (Or.inr (hw _ (List.mem_of_getElem? (i := 34) rfl))) (by decide) (t := (.object "java/time/LocalDate")) (t' := (.object "java/lang/Long")) (by decide) (by decide)))
  have F_until_a1 := F_until_a1.other W6 (Or.inr (slot_ne (a0 := a0) (Or.inr (hw _ (List.mem_of_getElem? (i := 28) rfl))) (Or.inr (hw _ (List.mem_of_getElem? (i := 34) rfl))) (by decide) (t := (.object "java/time/LocalDate")) (t' := (.object "java/lang/Long")) (by decide) (by decide)))
  have F_member_a1 := F_member_a1.other W6 (Or.inr (slot_ne (a0 := a0) (Or.inr (hw _ (List.mem_of_getElem? (i := 30) rfl))) (Or.inr (hw _ (List.mem_of_getElem? (i := 34) rfl))) (by decide) (t := (.object "java/lang/String")) (t' := (.object "java/lang/Long")) (by decide) (by decide)))
  have F_operation_a1 := F_operation_a1.other W6 (Or.inr (slot_ne (a0 := a0) (Or.inr (hw _ (List.mem_of_getElem? (i := 32) rfl))) (Or.inr (hw _ (List.mem_of_getElem? (i := 34) rfl))) (by decide) (t := (.object "com/example/tenorbook/tenorbook/trail/Operation")) (t' := (.object "java/lang/Long")) (by decide) (by decide)))
  have F_billId_a1 := F_billId_a1.same W6
  have F_batchId_a1 := F_batchId_a1.other W6 (Or.inr (slot_ne (a0 := a0) (Or.inr (hw _ (List.mem_of_getElem? (i := 36) rfl))) (Or.inr (hw _ (List.mem_of_getElem? (i := 34) rfl))) (by decide) (t := (.object "java/lang/Long")) (t' := (.object "java/lang/Long")) (by decide) (by decide)))
  have Z6 : n0 ≤ h6.size := by rw [W6.size]; exact Z5
  have K6 := K5.wr W6 (Or.inl (List.mem_of_getElem? (i := 0) rfl))
  have N6 := Fr.snoc X6 N5 ge_a1
  refine own_go (W1 := T6.setTop (mkF m 31 #[.val (.ref a1), .val .null, .val .null, .val .null, .val .null, .val (.ref r5), .val (.ref r6)] [])) (st6) ?_
  refine own_go (W1 := T6.setTop (mkF m 32 #[.val (.ref a1), .val .null, .val .null, .val .null, .val .null, .val (.ref r5), .val (.ref r6)] [(.ref a1)])) (fun t k => XS.aloadN X6.here hx rfl (hb hby d3_31) rfl rfl  k) ?_
  refine own_go (W1 := T6.setTop (mkF m 34 #[.val (.ref a1), .val .null, .val .null, .val .null, .val .null, .val (.ref r5), .val (.ref r6)] [(.ref r6), (.ref a1)])) (fun t k => XS.aload X6.here hx rfl (hb hby d3_32) rfl rfl  k) ?_
  obtain ⟨T7, h7, X7, e7, W7, st7⟩ := putF X6 hx hZ hown (host := "") (Or.inl (hw _ (List.mem_of_getElem? (i := 35) rfl))) Via.refl e6 F_batchId_a1 E_a1 (Or.inr ⟨(hw _ (List.mem_of_getElem? (i := 36) rfl)), rfl, hnm⟩) (hw _ (List.mem_of_getElem? (i := 5) rfl)) (ty := (.object "java/lang/Long")) (by decide) rfl rfl (g := (mkF m 34 #[.val (.ref a1), .val .null, .val .null, .val .null, .val .null, .val (.ref r5), .val (.ref r6)] [(.ref r6), (.ref a1)])) rfl rfl (hb hby d3_34)
  have E_a1 := E_a1.wr W7
  have F_from_a1 := F_from_a1.other W7 (Or.inr (slot_ne (a0 := a0) (Or.inr (hw _ (List.mem_of_getElem? (i := 26) rfl))) (Or.inr (hw _ (List.mem_of_getElem? (i := 36) rfl))) (by decide) (t := (.object "java/time/LocalDate")) (t' := (.object "java/lang/Long")) (by decide) (by decide)))
  have F_until_a1 := F_until_a1.other W7 (Or.inr (slot_ne (a0 := a0) (Or.inr (hw _ (List.mem_of_getElem? (i := 28) rfl))) (Or.inr (hw _ (List.mem_of_getElem? (i := 36) rfl))) (by decide) (t := (.object "java/time/LocalDate")) (t' := (.object "java/lang/Long")) (by decide) (by decide)))
  have F_member_a1 := F_member_a1.other W7 (Or.inr (slot_ne (a0 := a0) (Or.inr (hw _ (List.mem_of_getElem? (i := 30) rfl))) (Or.inr (hw _ (List.mem_of_getElem? (i := 36) rfl))) (by decide) (t := (.object "java/lang/String")) (t' := (.object "java/lang/Long")) (by decide) (by decide)))
  have F_operation_a1 := F_operation_a1.other W7 (Or.inr (slot_ne (a0 := a0) (Or.inr (hw _ (List.mem_of_getElem? (i := 32) rfl))) (Or.inr (hw _ (List.mem_of_getElem? (i := 36) rfl))) (by decide) (t := (.object "com/example/tenorbook/tenorbook/trail/Operation")) (t' := (.object "java/lang/Long")) (by decide) (by decide)))
  have F_billId_a1 := F_billId_a1.other W7 (Or.inr (slot_ne (a0 := a0) (Or.inr (hw _ (List.mem_of_getElem? (i := 34) rfl))) (Or.inr (hw _ (List.mem_of_getElem? (i := 36) rfl))) (by decide) (t := (.object "java/lang/Long")) (t' := (.object "java/lang/Long")) (by decide) (by decide)))
  have F_batchId_a1 := F_batchId_a1.same W7
  have Z7 : n0 ≤ h7.size := by rw [W7.size]; exact Z6
  have K7 := K6.wr W7 (Or.inl (List.mem_of_getElem? (i := 0) rfl))
  have N7 := Fr.snoc X7 N6 ge_a1
  refine own_go (W1 := T7.setTop (mkF m 37 #[.val (.ref a1), .val .null, .val .null, .val .null, .val .null, .val (.ref r5), .val (.ref r6)] [])) (st7) ?_
  exact own_retV X7 hx Bd.returns (hb hby d3_37) hlk (by decide) (by decide) (by rw [e7]; exact ⟨rfl, N7, K7, E_a1, F_from_a1, F_until_a1, F_member_a1, F_operation_a1, F_billId_a1, F_batchId_a1⟩)
theorem d1_0 : decode prog_82_method_2_code 0 = .ok (.new 8, 3) := by decide +kernel
theorem d1_3 : decode prog_82_method_2_code 3 = .ok (.dup, 1) := by decide +kernel
theorem d1_4 : decode prog_82_method_2_code 4 = .ok (.aconst_null, 1) := by decide +kernel
theorem d1_5 : decode prog_82_method_2_code 5 = .ok (.aconst_null, 1) := by decide +kernel
theorem d1_6 : decode prog_82_method_2_code 6 = .ok (.aconst_null, 1) := by decide +kernel
theorem d1_7 : decode prog_82_method_2_code 7 = .ok (.aconst_null, 1) := by decide +kernel
theorem d1_8 : decode prog_82_method_2_code 8 = .ok (.lload_n 0, 1) := by decide +kernel
theorem d1_9 : decode prog_82_method_2_code 9 = .ok (.invokestatic 31, 3) := by decide +kernel
theorem own_pd1 : parseMethodDescriptor "(J)Ljava/lang/Long;" = some ⟨[.long], some (.object "java/lang/Long")⟩ := by decide +kernel
theorem d1_12 : decode prog_82_method_2_code 12 = .ok (.lload_n 2, 1) := by decide +kernel
theorem d1_13 : decode prog_82_method_2_code 13 = .ok (.invokestatic 31, 3) := by decide +kernel
theorem d1_16 : decode prog_82_method_2_code 16 = .ok (.invokespecial 37, 3) := by decide +kernel
theorem own_pd2 : parseMethodDescriptor "(Ljava/time/LocalDate;Ljava/time/LocalDate;Ljava/lang/String;Lcom/example/tenorbook/tenorbook/trail/Operation;Ljava/lang/Long;Ljava/lang/Long;)V" = some ⟨[(.object "java/time/LocalDate"), (.object "java/time/LocalDate"), (.object "java/lang/String"), (.object "com/example/tenorbook/tenorbook/trail/Operation"), (.object "java/lang/Long"), (.object "java/lang/Long")], none⟩ := by decide +kernel
theorem d1_19 : decode prog_82_method_2_code 19 = .ok (.areturn, 1) := by decide +kernel
theorem ef_rm1 (m : MethodId) (x0 : Int64) (x1 : Int64)  : entryFrame m #[(.long x0), (.long x1)] 4 = mkF m 0 #[.val (.long x0), .second, .val (.long x1), .second] [] := by first | (simp [entryFrame, mkF, argsToLocals, Value.category]; done) | rfl
set_option maxRecDepth 65536 in
set_option maxHeartbeats 40000000 in
theorem rm1 (l : Launch) (Z : State) (a0 : Array Value) (hw : ∀ d ∈ tables_1, d.before a0 Z = true) (ws : List Jvm.Cond) (ca : Addr) (q1 q2 : Int64) (h0 : Heap) (n0 : Nat) (Z0 : n0 ≤ h0.size) (Xo : Old Z n0 h0) (hca : own_Cache Z ca) :
    MetFree l (⟨"com/example/tenorbook/tenorbook/trail/TrailFilter", "ofBill", "(JJ)Lcom/example/tenorbook/tenorbook/trail/TrailFilter;"⟩ : MethodName) (head1 (Jvm.Cond.code (⟨"com/example/tenorbook/tenorbook/trail/TrailFilter", "ofBill", "(JJ)Lcom/example/tenorbook/tenorbook/trail/TrailFilter;"⟩ : MethodName) prog_82_method_2_code 4 (some (.object "com/example/tenorbook/tenorbook/trail/TrailFilter")) :: ws) ({ frames := 4, cells := 3, slots := 8, locals := 60 } : Room)) (fun a U => a = #[(.long q1), (.long q2)] ∧ Z.Warmed39 U.vm ∧ U.heap = h0) (fun _ _ _ _ _ => True) (fun _ U o U' => ∃ v L, o = .returned v ∧ own_Qo Z q1 q2 h0 n0 v U'.heap L ∧ FrameEnd U o U' L ({ frames := 4, cells := 3, slots := 8, locals := 60 } : Room).cells ({ frames := 4, cells := 3, slots := 8, locals := 60 } : Room).slots) := by
  refine MetFree.of_bodySF (plainFor_of_name own_pn_com_example_tenorbook_tenorbook_trail_TrailFilter) hisR ?_
  intro p e s m args below meth c s₁ Bd hml0 hP hK
  obtain ⟨rfl, hZ, hh⟩ := hP
  have hx := Bd.exec
  have hby := Bd.bytes
  have hlk := BodyLoose.notSynchronized Bd
  have hml : c.maxLocals = 4 := hml0
  have hown : s.vm.findClass "com/example/tenorbook/tenorbook/trail/TrailFilter" = some m.cls := findClass_of_methodNamed Bd.named
  have hnm := (name_of_methodNamed Bd.named Bd.method).1
  have X0 : Stand p l e ({ frames := 4, cells := 3, slots := 8, locals := 60 } : Room) s m #[(.long q1), (.long q2)] below meth c s₁ [] 0 0 := Stand.of_body Bd
  have e0 : s₁.heap = h0 := by rw [← hh, Bd.state]; rfl
  have N0 := Fr.nil n0
  show own_Ends p e below s (own_Qo Z q1 q2 h0 n0) 3 8 (s₁.setTop (entryFrame m #[(.long q1), (.long q2)] 4))
  refine own_go (W1 := s₁.setTop (mkF m 0 #[.val (.long q1), .second, .val (.long q2), .second] [])) (fun t k => castTop (ef_rm1 m q1 q2 ) k) ?_
  have K0 := Keep.refl h0 []
  obtain ⟨T1, h1, X1, e1, E1, A1, D1, -, st1⟩ := newO X0 hx hZ hown (hw _ (List.mem_of_getElem? (i := 4) rfl)) (hw _ (List.mem_of_getElem? (i := 5) rfl)) (hw _ (List.mem_of_getElem? (i := 2) rfl)) e0 (g := (mkF m 0 #[.val (.long q1), .second, .val (.long q2), .second] [])) rfl (hb hby d1_0) (by decide) (by decide)
  obtain ⟨b, g1⟩ : ∃ z, z = h0.size := ⟨_, rfl⟩
  have ge_b : n0 ≤ b := Nat.le_trans Z0 (Nat.le_of_eq g1.symm)
  have sz_b : h0.size ≤ b := Nat.le_trans K0.1 (Nat.le_of_eq g1.symm)
  rw [← g1] at A1 D1 st1
  have Xo := Xo.ext E1
  have Z1 : n0 ≤ h1.size := Nat.le_trans Z0 E1.1
  have K1 := K0.ext E1
  have E_b := A1
  have F_from_b : Fld Z h1 b "com/example/tenorbook/tenorbook/trail/TrailFilter" "from" "Ljava/time/LocalDate;" .null := D1 (Or.inr (hw _ (List.mem_of_getElem? (i := 26) rfl))) (ty := (.object "java/time/LocalDate")) (by decide)
  have F_until_b : Fld Z h1 b "com/example/tenorbook/tenorbook/trail/TrailFilter" "until" "Ljava/time/LocalDate;" .null := D1 (Or.inr (hw _ (List.mem_of_getElem? (i := 28) rfl))) (ty := (.object "java/time/LocalDate")) (by decide)
  have F_member_b : Fld Z h1 b "com/example/tenorbook/tenorbook/trail/TrailFilter" "member" "Ljava/lang/String;" .null := D1 (Or.inr (hw _ (List.mem_of_getElem? (i := 30) rfl))) (ty := (.object "java/lang/String")) (by decide)
  have F_operation_b : Fld Z h1 b "com/example/tenorbook/tenorbook/trail/TrailFilter" "operation" "Lcom/example/tenorbook/tenorbook/trail/Operation;" .null := D1 (Or.inr (hw _ (List.mem_of_getElem? (i := 32) rfl))) (ty := (.object "com/example/tenorbook/tenorbook/trail/Operation")) (by decide)
  have F_billId_b : Fld Z h1 b "com/example/tenorbook/tenorbook/trail/TrailFilter" "billId" "Ljava/lang/Long;" .null := D1 (Or.inr (hw _ (List.mem_of_getElem? (i := 34) rfl))) (ty := (.object "java/lang/Long")) (by decide)
  have F_batchId_b : Fld Z h1 b "com/example/tenorbook/tenorbook/trail/TrailFilter" "batchId" "Ljava/lang/Long;" .null := D1 (Or.inr (hw _ (List.mem_of_getElem? (i := 36) rfl))) (ty := (.object "java/lang/Long")) (by decide)
  refine own_go (W1 := T1.setTop (mkF m 3 #[.val (.long q1), .second, .val (.long q2), .second] [(.ref b)])) (st1) ?_
  refine own_go (W1 := T1.setTop (mkF m 4 #[.val (.long q1), .second, .val (.long q2), .second] [(.ref b), (.ref b)])) (fun t k => XS.dup X1.here hx rfl (hb hby d1_3) rfl rfl k) ?_
  refine own_go (W1 := T1.setTop (mkF m 5 #[.val (.long q1), .second, .val (.long q2), .second] [.null, (.ref b), (.ref b)])) (fun t k => XS.aconstNull X1.here hx rfl (hb hby d1_4) k) ?_
  refine own_go (W1 := T1.setTop (mkF m 6 #[.val (.long q1), .second, .val (.long q2), .second] [.null, .null, (.ref b), (.ref b)])) (fun t k => XS.aconstNull X1.here hx rfl (hb hby d1_5) k) ?_
  refine own_go (W1 := T1.setTop (mkF m 7 #[.val (.long q1), .second, .val (.long q2), .second] [.null, .null, .null, (.ref b), (.ref b)])) (fun t k => XS.aconstNull X1.here hx rfl (hb hby d1_6) k) ?_
  refine own_go (W1 := T1.setTop (mkF m 8 #[.val (.long q1), .second, .val (.long q2), .second] [.null, .null, .null, .null, (.ref b), (.ref b)])) (fun t k => XS.aconstNull X1.here hx rfl (hb hby d1_7) k) ?_
  refine own_go (W1 := T1.setTop (mkF m 9 #[.val (.long q1), .second, .val (.long q2), .second] [(.long q1), .null, .null, .null, .null, (.ref b), (.ref b)])) (fun t k => XS.lloadN X1.here hx rfl (hb hby d1_8) rfl  k) ?_
  obtain ⟨_, _, ⟨T2, L2, k2, n2⟩, -, X2, ⟨Lc2, hQ2, l2, y2, z2⟩, st2⟩ := Jvm.LawKit.callS X1 hx (y := (⟨"java/lang/Long", "valueOf", "(J)Ljava/lang/Long;"⟩ : MethodName)) hown (mvT hZ (hw _ (List.mem_of_getElem? (i := 6) rfl))) (mvT hZ (hw _ (List.mem_of_getElem? (i := 7) rfl))) (mvT hZ (hw _ (List.mem_of_getElem? (i := 8) rfl))) (mvT hZ (hw _ (List.mem_of_getElem? (i := 9) rfl))) (by decide) (backOf (W := 6) (rm2 l Z a0 hw [] ca q1 h1 n0 Z1 Xo hca) hZ (hw _ (List.mem_of_getElem? (i := 9) rfl)) (hw _ (List.mem_of_getElem? (i := 8) rfl)) (by decide) (by decide)) (g := (mkF m 9 #[.val (.long q1), .second, .val (.long q2), .second] [(.long q1), .null, .null, .null, .null, (.ref b), (.ref b)])) rfl (by rw [hml]; rfl) (argsL := [(.long q1)]) (rest := [.null, .null, .null, .null, (.ref b), (.ref b)]) (lenOf own_pd1 rfl) rfl (by show 2 * 0 + _ ≤ _; exact Nat.le_of_eq rfl) (hb hby d1_9) (fun _ _ => ⟨rfl, e1, (by decide : 1 + 1 ≤ _), (by decide : 6 + 1 ≤ _)⟩)
  dsimp only [Pt.U, Pt.locs, Pt.cells, Pt.slots] at X2 l2 y2 z2 st2 hQ2
  subst l2 y2 z2
  obtain ⟨r5, rfl, Nq2, Kq2, E_r5, F_value_r5⟩ := hQ2
  have Xo := Xo.keep Kq2 all0
  have E_b := E_b.keep Kq2
  have F_from_b := F_from_b.keep Kq2 nin0
  have F_until_b := F_until_b.keep Kq2 nin0
  have F_member_b := F_member_b.keep Kq2 nin0
  have F_operation_b := F_operation_b.keep Kq2 nin0
  have F_billId_b := F_billId_b.keep Kq2 nin0
  have F_batchId_b := F_batchId_b.keep Kq2 nin0
  have Z2 : n0 ≤ T2.heap.size := Nat.le_trans Z1 Kq2.1
  have K2 := K1.trans Kq2 all0
  have N2 := Fr.app N0 Nq2
  have ne_r5_b : r5 ≠ b := ne_exa E_r5 E_b (by decide)
  refine own_go (W1 := T2.setTop (mkF m 12 #[.val (.long q1), .second, .val (.long q2), .second] [(.ref r5), .null, .null, .null, .null, (.ref b), (.ref b)])) st2 ?_
  refine own_go (W1 := T2.setTop (mkF m 13 #[.val (.long q1), .second, .val (.long q2), .second] [(.long q2), (.ref r5), .null, .null, .null, .null, (.ref b), (.ref b)])) (fun t k => XS.lloadN X2.here hx rfl (hb hby d1_12) rfl  k) ?_
  obtain ⟨_, _, ⟨T3, L3, k3, n3⟩, -, X3, ⟨Lc3, hQ3, l3, y3, z3⟩, st3⟩ := Jvm.LawKit.callS X2 hx (y := (⟨"java/lang/Long", "valueOf", "(J)Ljava/lang/Long;"⟩ : MethodName)) hown (mvT hZ (hw _ (List.mem_of_getElem? (i := 6) rfl))) (mvT hZ (hw _ (List.mem_of_getElem? (i := 7) rfl))) (mvT hZ (hw _ (List.mem_of_getElem? (i := 8) rfl))) (mvT hZ (hw _ (List.mem_of_getElem? (i := 9) rfl))) (by decide) (backOf (W := 7) (rm2 l Z a0 hw [] ca q2 T2.heap n0 Z2 Xo hca) hZ (hw _ (List.mem_of_getElem? (i := 9) rfl)) (hw _ (List.mem_of_getElem? (i := 8) rfl)) (by decide) (by decide)) (g := (mkF m 13 #[.val (.long q1), .second, .val (.long q2), .second] [(.long q2), (.ref r5), .null, .null, .null, .null, (.ref b), (.ref b)])) rfl (by rw [hml]; rfl) (argsL := [(.long q2)]) (rest := [(.ref r5), .null, .null, .null, .null, (.ref b), (.ref b)]) (lenOf own_pd1 rfl) rfl (by show 2 * 0 + _ ≤ _; exact Nat.le_of_eq rfl) (hb hby d1_13) (fun _ _ => ⟨rfl, (rfl : T2.heap = T2.heap), (by decide : 2 + 1 ≤ _), (by decide : 7 + 1 ≤ _)⟩)
  dsimp only [Pt.U, Pt.locs, Pt.cells, Pt.slots] at X3 l3 y3 z3 st3 hQ3
  subst l3 y3 z3
  obtain ⟨r6, rfl, Nq3, Kq3, E_r6, F_value_r6⟩ := hQ3
  have Xo := Xo.keep Kq3 all0
  have E_b := E_b.keep Kq3
  have F_from_b := F_from_b.keep Kq3 nin0
  have F_until_b := F_until_b.keep Kq3 nin0
  have F_member_b := F_member_b.keep Kq3 nin0
  have F_operation_b := F_operation_b.keep Kq3 nin0
  have F_billId_b := F_billId_b.keep Kq3 nin0
  have F_batchId_b := F_batchId_b.keep Kq3 nin0
  have E_r5 := E_r5.keep Kq3
  have F_value_r5 := F_value_r5.keep Kq3 nin0
  have Z3 : n0 ≤ T3.heap.size := Nat.le_trans Z2 Kq3.1
  have K3 := K2.trans Kq3 all0
  have N3 := Fr.app N2 Nq3
  have ne_r6_b : r6 ≠ b := ne_exa E_r6 E_b (by decide)
  refine own_go (W1 := T3.setTop (mkF m 16 #[.val (.long q1), .second, .val (.long q2), .second] [(.ref r6), (.ref r5), .null, .null, .null, .null, (.ref b), (.ref b)])) st3 ?_
  obtain ⟨_, _, ⟨T4, L4, k4, n4⟩, -, X4, ⟨Lc4, hQ4, l4, y4, z4⟩, st4⟩ := X3.specialBack hx (y := (⟨"com/example/tenorbook/tenorbook/trail/TrailFilter", "<init>", "(Ljava/time/LocalDate;Ljava/time/LocalDate;Ljava/lang/String;Lcom/example/tenorbook/tenorbook/trail/Operation;Ljava/lang/Long;Ljava/lang/Long;)V"⟩ : MethodName)) rfl hown (mvT hZ (hw _ (List.mem_of_getElem? (i := 14) rfl))) (mvT hZ (hw _ (List.mem_of_getElem? (i := 15) rfl))) (mvT hZ (hw _ (List.mem_of_getElem? (i := 16) rfl))) (by decide) (backOf (W := 1) (rm3 l Z a0 hw [] b r5 r6 T3.heap n0 Z3 E_b F_from_b F_until_b F_member_b F_operation_b F_billId_b F_batchId_b ge_b) hZ (hw _ (List.mem_of_getElem? (i := 16) rfl)) (hw _ (List.mem_of_getElem? (i := 2) rfl)) (by decide) (by decide)) (g := (mkF m 16 #[.val (.long q1), .second, .val (.long q2), .second] [(.ref r6), (.ref r5), .null, .null, .null, .null, (.ref b), (.ref b)])) rfl (by rw [hml]; rfl) (Steps.refl _) (a := b) (argsL := [.null, .null, .null, .null, (.ref r5), (.ref r6)]) (rest := [(.ref b)]) (lenOf own_pd2 rfl) rfl (by show 2 * 0 + _ ≤ _; exact Nat.le_of_eq rfl) (hb hby d1_16) (fun _ _ => ⟨rfl, (rfl : T3.heap = T3.heap), (by decide : 3 + 0 ≤ _), (by decide : 8 + 0 ≤ _)⟩)
  dsimp only [Pt.U, Pt.locs, Pt.cells, Pt.slots] at X4 l4 y4 z4 st4 hQ4
  subst l4 y4 z4
  obtain ⟨rfl, Nq4, Kq4, Eq4, Fn_from, Fn_until, Fn_member, Fn_operation, Fn_billId, Fn_batchId⟩ := hQ4
  have Xo := Xo.keep Kq4 (allS ge_b all0)
  have E_b := E_b.keep Kq4
  have E_r5 := E_r5.keep Kq4
  have F_value_r5 := F_value_r5.keep Kq4 (ninS ne_r5_b nin0)
  have E_r6 := E_r6.keep Kq4
  have F_value_r6 := F_value_r6.keep Kq4 (ninS ne_r6_b nin0)
  have Z4 : n0 ≤ T4.heap.size := Nat.le_trans Z3 Kq4.1
  have K4 := K3.trans Kq4 (allS (Or.inr sz_b) all0)
  have N4 := Fr.app N3 Nq4
  have F_from_b := Fn_from
  have F_until_b := Fn_until
  have F_member_b := Fn_member
  have F_operation_b := Fn_operation
  have F_billId_b := Fn_billId
  have F_batchId_b := Fn_batchId
  refine own_tr (W1 := T4.setTop (mkF m 19 #[.val (.long q1), .second, .val (.long q2), .second] [(.ref b)])) st4 ?_
  exact own_retR X4 hx Bd.returns rfl rfl (hb hby d1_19) hlk (by decide) (by decide) ⟨b, r5, r6, rfl, N4, K4, E_b, F_from_b, F_until_b, F_member_b, F_operation_b, F_billId_b, F_batchId_b, E_r5, F_value_r5, E_r6, F_value_r6⟩
def own_Q6 (w : Value) (h0 : Heap) (n0 : Nat) (v : Option Value) (h : Heap) (L : List Loc) : Prop := v = some w ∧ Fr n0 L ∧ h = h0
theorem d6_0 : decode prog_82_method_6_code 0 = .ok (.aload_n 0, 1) := by decide +kernel
theorem d6_1 : decode prog_82_method_6_code 1 = .ok (.getfield 7, 3) := by decide +kernel
theorem d6_4 : decode prog_82_method_6_code 4 = .ok (.areturn, 1) := by decide +kernel
theorem ef_rm6 (m : MethodId) (x0 : Addr)  : entryFrame m #[(.ref x0)] 1 = mkF m 0 #[.val (.ref x0)] [] := by first | (simp [entryFrame, mkF, argsToLocals, Value.category]; done) | rfl
set_option maxRecDepth 65536 in
set_option maxHeartbeats 40000000 in
theorem rm6 (l : Launch) (Z : State) (a0 : Array Value) (hw : ∀ d ∈ tables_1, d.before a0 Z = true) (ws : List Jvm.Cond) (a1 : Addr) (w : Value) (h0 : Heap) (n0 : Nat) (Z0 : n0 ≤ h0.size) (F_w : Fld Z h0 a1 "com/example/tenorbook/tenorbook/trail/TrailFilter" "from" "Ljava/time/LocalDate;" w) (h_w : w.isRef = true) :
    MetFree l (⟨"com/example/tenorbook/tenorbook/trail/TrailFilter", "from", "()Ljava/time/LocalDate;"⟩ : MethodName) (head1 (Jvm.Cond.code (⟨"com/example/tenorbook/tenorbook/trail/TrailFilter", "from", "()Ljava/time/LocalDate;"⟩ : MethodName) prog_82_method_6_code 1 (some (.object "java/time/LocalDate")) :: ws) ({ frames := 0, cells := 0, slots := 0, locals := 0 } : Room)) (fun a U => a = #[(.ref a1)] ∧ Z.Warmed39 U.vm ∧ U.heap = h0) (fun _ _ _ _ _ => True) (fun _ U o U' => ∃ v L, o = .returned v ∧ own_Q6 w h0 n0 v U'.heap L ∧ FrameEnd U o U' L ({ frames := 0, cells := 0, slots := 0, locals := 0 } : Room).cells ({ frames := 0, cells := 0, slots := 0, locals := 0 } : Room).slots) := by
  refine MetFree.of_bodySF (plainFor_of_name own_pn_com_example_tenorbook_tenorbook_trail_TrailFilter) hisR ?_
  intro p e s m args below meth c s₁ Bd hml0 hP hK
  obtain ⟨rfl, hZ, hh⟩ := hP
  have hx := Bd.exec
  have hby := Bd.bytes
  have hlk := BodyLoose.notSynchronized Bd
  have hml : c.maxLocals = 1 := hml0
  have hown : s.vm.findClass "com/example/tenorbook/tenorbook/trail/TrailFilter" = some m.cls := findClass_of_methodNamed Bd.named
  have hnm := (name_of_methodNamed Bd.named Bd.method).1
  have X0 : Stand p l e ({ frames := 0, cells := 0, slots := 0, locals := 0 } : Room) s m #[(.ref a1)] below meth c s₁ [] 0 0 := Stand.of_body Bd
  have e0 : s₁.heap = h0 := by rw [← hh, Bd.state]; rfl
  have N0 := Fr.nil n0
  show own_Ends p e below s (own_Q6 w h0 n0) 0 0 (s₁.setTop (entryFrame m #[(.ref a1)] 1))
  refine own_go (W1 := s₁.setTop (mkF m 0 #[.val (.ref a1)] [])) (fun t k => castTop (ef_rm6 m a1 ) k) ?_
  refine own_go (W1 := s₁.setTop (mkF m 1 #[.val (.ref a1)] [(.ref a1)])) (fun t k => XS.aloadN X0.here hx rfl (hb hby d6_0) rfl rfl  k) ?_
  obtain ⟨T1, X1, e1, st1⟩ := getF X0 hx hZ hown (host := "") (Or.inl (hw _ (List.mem_of_getElem? (i := 25) rfl))) Via.refl e0 F_w (g := (mkF m 1 #[.val (.ref a1)] [(.ref a1)])) rfl rfl (hb hby d6_1)
  refine own_go (W1 := T1.setTop (mkF m 4 #[.val (.ref a1)] [w])) (st1) ?_
  exact own_retR X1 hx Bd.returns rfl h_w (hb hby d6_4) hlk (by decide) (by decide) ⟨rfl, N0, e1⟩
def own_Q7 (w : Value) (h0 : Heap) (n0 : Nat) (v : Option Value) (h : Heap) (L : List Loc) : Prop := v = some w ∧ Fr n0 L ∧ h = h0
theorem d7_0 : decode prog_82_method_7_code 0 = .ok (.aload_n 0, 1) := by decide +kernel
theorem d7_1 : decode prog_82_method_7_code 1 = .ok (.getfield 13, 3) := by decide +kernel
theorem d7_4 : decode prog_82_method_7_code 4 = .ok (.areturn, 1) := by decide +kernel
theorem ef_rm7 (m : MethodId) (x0 : Addr)  : entryFrame m #[(.ref x0)] 1 = mkF m 0 #[.val (.ref x0)] [] := by first | (simp [entryFrame, mkF, argsToLocals, Value.category]; done) | rfl
set_option maxRecDepth 65536 in
set_option maxHeartbeats 40000000 in
theorem rm7 (l : Launch) (Z : State) (a0 : Array Value) (hw : ∀ d ∈ tables_1, d.before a0 Z = true) (ws : List Jvm.Cond) (a1 : Addr) (w : Value) (h0 : Heap) (n0 : Nat) (Z0 : n0 ≤ h0.size) (F_w : Fld Z h0 a1 "com/example/tenorbook/tenorbook/trail/TrailFilter" "until" "Ljava/time/LocalDate;" w) (h_w : w.isRef = true) :
    MetFree l (⟨"com/example/tenorbook/tenorbook/trail/TrailFilter", "until", "()Ljava/time/LocalDate;"⟩ : MethodName) (head1 (Jvm.Cond.code (⟨"com/example/tenorbook/tenorbook/trail/TrailFilter", "until", "()Ljava/time/LocalDate;"⟩ : MethodName) prog_82_method_7_code 1 (some (.object "java/time/LocalDate")) :: ws) ({ frames := 0, cells := 0, slots := 0, locals := 0 } : Room)) (fun a U => a = #[(.ref a1)] ∧ Z.Warmed39 U.vm ∧ U.heap = h0) (fun _ _ _ _ _ => True) (fun _ U o U' => ∃ v L, o = .returned v ∧ own_Q7 w h0 n0 v U'.heap L ∧ FrameEnd U o U' L ({ frames := 0, cells := 0, slots := 0, locals := 0 } : Room).cells ({ frames := 0, cells := 0, slots := 0, locals := 0 } : Room).slots) := by
  refine MetFree.of_bodySF (plainFor_of_name own_pn_com_example_tenorbook_tenorbook_trail_TrailFilter) hisR ?_
  intro p e s m args below meth c s₁ Bd hml0 hP hK
  obtain ⟨rfl, hZ, hh⟩ := hP
  have hx := Bd.exec
  have hby := Bd.bytes
  have hlk := BodyLoose.notSynchronized Bd
  have hml : c.maxLocals = 1 := hml0
  have hown : s.vm.findClass "com/example/tenorbook/tenorbook/trail/TrailFilter" = some m.cls := findClass_of_methodNamed Bd.named
  have hnm := (name_of_methodNamed Bd.named Bd.method).1
  have X0 : Stand p l e ({ frames := 0, cells := 0, slots := 0, locals := 0 } : Room) s m #[(.ref a1)] below meth c s₁ [] 0 0 := Stand.of_body Bd
  have e0 : s₁.heap = h0 := by rw [← hh, Bd.state]; rfl
  have N0 := Fr.nil n0
  show own_Ends p e below s (own_Q7 w h0 n0) 0 0 (s₁.setTop (entryFrame m #[(.ref a1)] 1))
  refine own_go (W1 := s₁.setTop (mkF m 0 #[.val (.ref a1)] [])) (fun t k => castTop (ef_rm7 m a1 ) k) ?_
  refine own_go (W1 := s₁.setTop (mkF m 1 #[.val (.ref a1)] [(.ref a1)])) (fun t k => XS.aloadN X0.here hx rfl (hb hby d7_0) rfl rfl  k) ?_
  obtain ⟨T1, X1, e1, st1⟩ := getF X0 hx hZ hown (host := "") (Or.inl (hw _ (List.mem_of_getElem? (i := 27) rfl))) Via.refl e0 F_w (g := (mkF m 1 #[.val (.ref a1)] [(.ref a1)])) rfl rfl (hb hby d7_1)
  refine own_go (W1 := T1.setTop (mkF m 4 #[.val (.ref a1)] [w])) (st1) ?_
  exact own_retR X1 hx Bd.returns rfl h_w (hb hby d7_4) hlk (by decide) (by decide) ⟨rfl, N0, e1⟩
def own_Q8 (w : Value) (h0 : Heap) (n0 : Nat) (v : Option Value) (h : Heap) (L : List Loc) : Prop := v = some w ∧ Fr n0 L ∧ h = h0
theorem d8_0 : decode prog_82_method_8_code 0 = .ok (.aload_n 0, 1) := by decide +kernel
theorem d8_1 : decode prog_82_method_8_code 1 = .ok (.getfield 16, 3) := by decide +kernel
theorem d8_4 : decode prog_82_method_8_code 4 = .ok (.areturn, 1) := by decide +kernel
theorem ef_rm8 (m : MethodId) (x0 : Addr)  : entryFrame m #[(.ref x0)] 1 = mkF m 0 #[.val (.ref x0)] [] := by first | (simp [entryFrame, mkF, argsToLocals, Value.category]; done) | rfl
set_option maxRecDepth 65536 in
set_option maxHeartbeats 40000000 in
theorem rm8 (l : Launch) (Z : State) (a0 : Array Value) (hw : ∀ d ∈ tables_1, d.before a0 Z = true) (ws : List Jvm.Cond) (a1 : Addr) (w : Value) (h0 : Heap) (n0 : Nat) (Z0 : n0 ≤ h0.size) (F_w : Fld Z h0 a1 "com/example/tenorbook/tenorbook/trail/TrailFilter" "member" "Ljava/lang/String;" w) (h_w : w.isRef = true) :
    MetFree l (⟨"com/example/tenorbook/tenorbook/trail/TrailFilter", "member", "()Ljava/lang/String;"⟩ : MethodName) (head1 (Jvm.Cond.code (⟨"com/example/tenorbook/tenorbook/trail/TrailFilter", "member", "()Ljava/lang/String;"⟩ : MethodName) prog_82_method_8_code 1 (some (.object "java/lang/String")) :: ws) ({ frames := 0, cells := 0, slots := 0, locals := 0 } : Room)) (fun a U => a = #[(.ref a1)] ∧ Z.Warmed39 U.vm ∧ U.heap = h0) (fun _ _ _ _ _ => True) (fun _ U o U' => ∃ v L, o = .returned v ∧ own_Q8 w h0 n0 v U'.heap L ∧ FrameEnd U o U' L ({ frames := 0, cells := 0, slots := 0, locals := 0 } : Room).cells ({ frames := 0, cells := 0, slots := 0, locals := 0 } : Room).slots) := by
  refine MetFree.of_bodySF (plainFor_of_name own_pn_com_example_tenorbook_tenorbook_trail_TrailFilter) hisR ?_
  intro p e s m args below meth c s₁ Bd hml0 hP hK
  obtain ⟨rfl, hZ, hh⟩ := hP
  have hx := Bd.exec
  have hby := Bd.bytes
  have hlk := BodyLoose.notSynchronized Bd
  have hml : c.maxLocals = 1 := hml0
  have hown : s.vm.findClass "com/example/tenorbook/tenorbook/trail/TrailFilter" = some m.cls := findClass_of_methodNamed Bd.named
  have hnm := (name_of_methodNamed Bd.named Bd.method).1
  have X0 : Stand p l e ({ frames := 0, cells := 0, slots := 0, locals := 0 } : Room) s m #[(.ref a1)] below meth c s₁ [] 0 0 := Stand.of_body Bd
  have e0 : s₁.heap = h0 := by rw [← hh, Bd.state]; rfl
  have N0 := Fr.nil n0
  show own_Ends p e below s (own_Q8 w h0 n0) 0 0 (s₁.setTop (entryFrame m #[(.ref a1)] 1))
  refine own_go (W1 := s₁.setTop (mkF m 0 #[.val (.ref a1)] [])) (fun t k => castTop (ef_rm8 m a1 ) k) ?_
  refine own_go (W1 := s₁.setTop (mkF m 1 #[.val (.ref a1)] [(.ref a1)])) (fun t k => XS.aloadN X0.here hx rfl (hb hby d8_0) rfl rfl  k) ?_
  obtain ⟨T1, X1, e1, st1⟩ := getF X0 hx hZ hown (host := "") (Or.inl (hw _ (List.mem_of_getElem? (i := 29) rfl))) Via.refl e0 F_w (g := (mkF m 1 #[.val (.ref a1)] [(.ref a1)])) rfl rfl (hb hby d8_1)
  refine own_go (W1 := T1.setTop (mkF m 4 #[.val (.ref a1)] [w])) (st1) ?_
  exact own_retR X1 hx Bd.returns rfl h_w (hb hby d8_4) hlk (by decide) (by decide) ⟨rfl, N0, e1⟩
def own_Q9 (w : Value) (h0 : Heap) (n0 : Nat) (v : Option Value) (h : Heap) (L : List Loc) : Prop := v = some w ∧ Fr n0 L ∧ h = h0
theorem d9_0 : decode prog_82_method_9_code 0 = .ok (.aload_n 0, 1) := by decide +kernel
theorem d9_1 : decode prog_82_method_9_code 1 = .ok (.getfield 20, 3) := by decide +kernel
theorem d9_4 : decode prog_82_method_9_code 4 = .ok (.areturn, 1) := by decide +kernel
theorem ef_rm9 (m : MethodId) (x0 : Addr)  : entryFrame m #[(.ref x0)] 1 = mkF m 0 #[.val (.ref x0)] [] := by first | (simp [entryFrame, mkF, argsToLocals, Value.category]; done) | rfl
set_option maxRecDepth 65536 in
set_option maxHeartbeats 40000000 in
theorem rm9 (l : Launch) (Z : State) (a0 : Array Value) (hw : ∀ d ∈ tables_1, d.before a0 Z = true) (ws : List Jvm.Cond) (a1 : Addr) (w : Value) (h0 : Heap) (n0 : Nat) (Z0 : n0 ≤ h0.size) (F_w : Fld Z h0 a1 "com/example/tenorbook/tenorbook/trail/TrailFilter" "operation" "Lcom/example/tenorbook/tenorbook/trail/Operation;" w) (h_w : w.isRef = true) :
    MetFree l (⟨"com/example/tenorbook/tenorbook/trail/TrailFilter", "operation", "()Lcom/example/tenorbook/tenorbook/trail/Operation;"⟩ : MethodName) (head1 (Jvm.Cond.code (⟨"com/example/tenorbook/tenorbook/trail/TrailFilter", "operation", "()Lcom/example/tenorbook/tenorbook/trail/Operation;"⟩ : MethodName) prog_82_method_9_code 1 (some (.object "com/example/tenorbook/tenorbook/trail/Operation")) :: ws) ({ frames := 0, cells := 0, slots := 0, locals := 0 } : Room)) (fun a U => a = #[(.ref a1)] ∧ Z.Warmed39 U.vm ∧ U.heap = h0) (fun _ _ _ _ _ => True) (fun _ U o U' => ∃ v L, o = .returned v ∧ own_Q9 w h0 n0 v U'.heap L ∧ FrameEnd U o U' L ({ frames := 0, cells := 0, slots := 0, locals := 0 } : Room).cells ({ frames := 0, cells := 0, slots := 0, locals := 0 } : Room).slots) := by
  refine MetFree.of_bodySF (plainFor_of_name own_pn_com_example_tenorbook_tenorbook_trail_TrailFilter) hisR ?_
  intro p e s m args below meth c s₁ Bd hml0 hP hK
  obtain ⟨rfl, hZ, hh⟩ := hP
  have hx := Bd.exec
  have hby := Bd.bytes
  have hlk := BodyLoose.notSynchronized Bd
  have hml : c.maxLocals = 1 := hml0
  have hown : s.vm.findClass "com/example/tenorbook/tenorbook/trail/TrailFilter" = some m.cls := findClass_of_methodNamed Bd.named
  have hnm := (name_of_methodNamed Bd.named Bd.method).1
  have X0 : Stand p l e ({ frames := 0, cells := 0, slots := 0, locals := 0 } : Room) s m #[(.ref a1)] below meth c s₁ [] 0 0 := Stand.of_body Bd
  have e0 : s₁.heap = h0 := by rw [← hh, Bd.state]; rfl
  have N0 := Fr.nil n0
  show own_Ends p e below s (own_Q9 w h0 n0) 0 0 (s₁.setTop (entryFrame m #[(.ref a1)] 1))
  refine own_go (W1 := s₁.setTop (mkF m 0 #[.val (.ref a1)] [])) (fun t k => castTop (ef_rm9 m a1 ) k) ?_
  refine own_go (W1 := s₁.setTop (mkF m 1 #[.val (.ref a1)] [(.ref a1)])) (fun t k => XS.aloadN X0.here hx rfl (hb hby d9_0) rfl rfl  k) ?_
  obtain ⟨T1, X1, e1, st1⟩ := getF X0 hx hZ hown (host := "") (Or.inl (hw _ (List.mem_of_getElem? (i := 31) rfl))) Via.refl e0 F_w (g := (mkF m 1 #[.val (.ref a1)] [(.ref a1)])) rfl rfl (hb hby d9_1)
  refine own_go (W1 := T1.setTop (mkF m 4 #[.val (.ref a1)] [w])) (st1) ?_
  exact own_retR X1 hx Bd.returns rfl h_w (hb hby d9_4) hlk (by decide) (by decide) ⟨rfl, N0, e1⟩
def own_Q10 (w : Value) (h0 : Heap) (n0 : Nat) (v : Option Value) (h : Heap) (L : List Loc) : Prop := v = some w ∧ Fr n0 L ∧ h = h0
theorem d10_0 : decode prog_82_method_10_code 0 = .ok (.aload_n 0, 1) := by decide +kernel
theorem d10_1 : decode prog_82_method_10_code 1 = .ok (.getfield 24, 3) := by decide +kernel
theorem d10_4 : decode prog_82_method_10_code 4 = .ok (.areturn, 1) := by decide +kernel
theorem ef_rm10 (m : MethodId) (x0 : Addr)  : entryFrame m #[(.ref x0)] 1 = mkF m 0 #[.val (.ref x0)] [] := by first | (simp [entryFrame, mkF, argsToLocals, Value.category]; done) | rfl
set_option maxRecDepth 65536 in
set_option maxHeartbeats 40000000 in
theorem rm10 (l : Launch) (Z : State) (a0 : Array Value) (hw : ∀ d ∈ tables_1, d.before a0 Z = true) (ws : List Jvm.Cond) (a1 : Addr) (w : Value) (h0 : Heap) (n0 : Nat) (Z0 : n0 ≤ h0.size) (F_w : Fld Z h0 a1 "com/example/tenorbook/tenorbook/trail/TrailFilter" "billId" "Ljava/lang/Long;" w) (h_w : w.isRef = true) :
    MetFree l (⟨"com/example/tenorbook/tenorbook/trail/TrailFilter", "billId", "()Ljava/lang/Long;"⟩ : MethodName) (head1 (Jvm.Cond.code (⟨"com/example/tenorbook/tenorbook/trail/TrailFilter", "billId", "()Ljava/lang/Long;"⟩ : MethodName) prog_82_method_10_code 1 (some (.object "java/lang/Long")) :: ws) ({ frames := 0, cells := 0, slots := 0, locals := 0 } : Room)) (fun a U => a = #[(.ref a1)] ∧ Z.Warmed39 U.vm ∧ U.heap = h0) (fun _ _ _ _ _ => True) (fun _ U o U' => ∃ v L, o = .returned v ∧ own_Q10 w h0 n0 v U'.heap L ∧ FrameEnd U o U' L ({ frames := 0, cells := 0, slots := 0, locals := 0 } : Room).cells ({ frames := 0, cells := 0, slots := 0, locals := 0 } : Room).slots) := by
  refine MetFree.of_bodySF (plainFor_of_name own_pn_com_example_tenorbook_tenorbook_trail_TrailFilter) hisR ?_
  intro p e s m args below meth c s₁ Bd hml0 hP hK
  obtain ⟨rfl, hZ, hh⟩ := hP
  have hx := Bd.exec
  have hby := Bd.bytes
  have hlk := BodyLoose.notSynchronized Bd
  have hml : c.maxLocals = 1 := hml0
  have hown : s.vm.findClass "com/example/tenorbook/tenorbook/trail/TrailFilter" = some m.cls := findClass_of_methodNamed Bd.named
  have hnm := (name_of_methodNamed Bd.named Bd.method).1
  have X0 : Stand p l e ({ frames := 0, cells := 0, slots := 0, locals := 0 } : Room) s m #[(.ref a1)] below meth c s₁ [] 0 0 := Stand.of_body Bd
  have e0 : s₁.heap = h0 := by rw [← hh, Bd.state]; rfl
  have N0 := Fr.nil n0
  show own_Ends p e below s (own_Q10 w h0 n0) 0 0 (s₁.setTop (entryFrame m #[(.ref a1)] 1))
  refine own_go (W1 := s₁.setTop (mkF m 0 #[.val (.ref a1)] [])) (fun t k => castTop (ef_rm10 m a1 ) k) ?_
  refine own_go (W1 := s₁.setTop (mkF m 1 #[.val (.ref a1)] [(.ref a1)])) (fun t k => XS.aloadN X0.here hx rfl (hb hby d10_0) rfl rfl  k) ?_
  obtain ⟨T1, X1, e1, st1⟩ := getF X0 hx hZ hown (host := "") (Or.inl (hw _ (List.mem_of_getElem? (i := 33) rfl))) Via.refl e0 F_w (g := (mkF m 1 #[.val (.ref a1)] [(.ref a1)])) rfl rfl (hb hby d10_1)
  refine own_go (W1 := T1.setTop (mkF m 4 #[.val (.ref a1)] [w])) (st1) ?_
  exact own_retR X1 hx Bd.returns rfl h_w (hb hby d10_4) hlk (by decide) (by decide) ⟨rfl, N0, e1⟩
def own_Q11 (w : Value) (h0 : Heap) (n0 : Nat) (v : Option Value) (h : Heap) (L : List Loc) : Prop := v = some w ∧ Fr n0 L ∧ h = h0
theorem d11_0 : decode prog_82_method_11_code 0 = .ok (.aload_n 0, 1) := by decide +kernel
theorem d11_1 : decode prog_82_method_11_code 1 = .ok (.getfield 28, 3) := by decide +kernel
theorem d11_4 : decode prog_82_method_11_code 4 = .ok (.areturn, 1) := by decide +kernel
theorem ef_rm11 (m : MethodId) (x0 : Addr)  : entryFrame m #[(.ref x0)] 1 = mkF m 0 #[.val (.ref x0)] [] := by first | (simp [entryFrame, mkF, argsToLocals, Value.category]; done) | rfl
set_option maxRecDepth 65536 in
set_option maxHeartbeats 40000000 in
theorem rm11 (l : Launch) (Z : State) (a0 : Array Value) (hw : ∀ d ∈ tables_1, d.before a0 Z = true) (ws : List Jvm.Cond) (a1 : Addr) (w : Value) (h0 : Heap) (n0 : Nat) (Z0 : n0 ≤ h0.size) (F_w : Fld Z h0 a1 "com/example/tenorbook/tenorbook/trail/TrailFilter" "batchId" "Ljava/lang/Long;" w) (h_w : w.isRef = true) :
    MetFree l (⟨"com/example/tenorbook/tenorbook/trail/TrailFilter", "batchId", "()Ljava/lang/Long;"⟩ : MethodName) (head1 (Jvm.Cond.code (⟨"com/example/tenorbook/tenorbook/trail/TrailFilter", "batchId", "()Ljava/lang/Long;"⟩ : MethodName) prog_82_method_11_code 1 (some (.object "java/lang/Long")) :: ws) ({ frames := 0, cells := 0, slots := 0, locals := 0 } : Room)) (fun a U => a = #[(.ref a1)] ∧ Z.Warmed39 U.vm ∧ U.heap = h0) (fun _ _ _ _ _ => True) (fun _ U o U' => ∃ v L, o = .returned v ∧ own_Q11 w h0 n0 v U'.heap L ∧ FrameEnd U o U' L ({ frames := 0, cells := 0, slots := 0, locals := 0 } : Room).cells ({ frames := 0, cells := 0, slots := 0, locals := 0 } : Room).slots) := by
  refine MetFree.of_bodySF (plainFor_of_name own_pn_com_example_tenorbook_tenorbook_trail_TrailFilter) hisR ?_
  intro p e s m args below meth c s₁ Bd hml0 hP hK
  obtain ⟨rfl, hZ, hh⟩ := hP
  have hx := Bd.exec
  have hby := Bd.bytes
  have hlk := BodyLoose.notSynchronized Bd
  have hml : c.maxLocals = 1 := hml0
  have hown : s.vm.findClass "com/example/tenorbook/tenorbook/trail/TrailFilter" = some m.cls := findClass_of_methodNamed Bd.named
  have hnm := (name_of_methodNamed Bd.named Bd.method).1
  have X0 : Stand p l e ({ frames := 0, cells := 0, slots := 0, locals := 0 } : Room) s m #[(.ref a1)] below meth c s₁ [] 0 0 := Stand.of_body Bd
  have e0 : s₁.heap = h0 := by rw [← hh, Bd.state]; rfl
  have N0 := Fr.nil n0
  show own_Ends p e below s (own_Q11 w h0 n0) 0 0 (s₁.setTop (entryFrame m #[(.ref a1)] 1))
  refine own_go (W1 := s₁.setTop (mkF m 0 #[.val (.ref a1)] [])) (fun t k => castTop (ef_rm11 m a1 ) k) ?_
  refine own_go (W1 := s₁.setTop (mkF m 1 #[.val (.ref a1)] [(.ref a1)])) (fun t k => XS.aloadN X0.here hx rfl (hb hby d11_0) rfl rfl  k) ?_
  obtain ⟨T1, X1, e1, st1⟩ := getF X0 hx hZ hown (host := "") (Or.inl (hw _ (List.mem_of_getElem? (i := 35) rfl))) Via.refl e0 F_w (g := (mkF m 1 #[.val (.ref a1)] [(.ref a1)])) rfl rfl (hb hby d11_1)
  refine own_go (W1 := T1.setTop (mkF m 4 #[.val (.ref a1)] [w])) (st1) ?_
  exact own_retR X1 hx Bd.returns rfl h_w (hb hby d11_4) hlk (by decide) (by decide) ⟨rfl, N0, e1⟩
def own_Q12 (w : Int64) (h0 : Heap) (n0 : Nat) (v : Option Value) (h : Heap) (L : List Loc) : Prop := v = some (.long w) ∧ Fr n0 L ∧ h = h0
theorem d12_0 : decode jdk_35_method_31_code 0 = .ok (.aload_n 0, 1) := by decide +kernel
theorem d12_1 : decode jdk_35_method_31_code 1 = .ok (.getfield 273, 3) := by decide +kernel
theorem d12_4 : decode jdk_35_method_31_code 4 = .ok (.lreturn, 1) := by decide +kernel
theorem ef_rm12 (m : MethodId) (x0 : Addr)  : entryFrame m #[(.ref x0)] 1 = mkF m 0 #[.val (.ref x0)] [] := by first | (simp [entryFrame, mkF, argsToLocals, Value.category]; done) | rfl
set_option maxRecDepth 65536 in
set_option maxHeartbeats 40000000 in
theorem rm12 (l : Launch) (Z : State) (a0 : Array Value) (hw : ∀ d ∈ tables_1, d.before a0 Z = true) (ws : List Jvm.Cond) (a1 : Addr) (w : Int64) (h0 : Heap) (n0 : Nat) (Z0 : n0 ≤ h0.size) (F_w : Fld Z h0 a1 "java/lang/Long" "value" "J" (.long w)) :
    MetFree l (⟨"java/lang/Long", "longValue", "()J"⟩ : MethodName) (head1 (Jvm.Cond.code (⟨"java/lang/Long", "longValue", "()J"⟩ : MethodName) jdk_35_method_31_code 1 (some .long) :: ws) ({ frames := 0, cells := 0, slots := 0, locals := 0 } : Room)) (fun a U => a = #[(.ref a1)] ∧ Z.Warmed39 U.vm ∧ U.heap = h0) (fun _ _ _ _ _ => True) (fun _ U o U' => ∃ v L, o = .returned v ∧ own_Q12 w h0 n0 v U'.heap L ∧ FrameEnd U o U' L ({ frames := 0, cells := 0, slots := 0, locals := 0 } : Room).cells ({ frames := 0, cells := 0, slots := 0, locals := 0 } : Room).slots) := by
  refine MetFree.of_bodySF (plainFor_of_name own_pn_java_lang_Long) hisR ?_
  intro p e s m args below meth c s₁ Bd hml0 hP hK
  obtain ⟨rfl, hZ, hh⟩ := hP
  have hx := Bd.exec
  have hby := Bd.bytes
  have hlk := BodyLoose.notSynchronized Bd
  have hml : c.maxLocals = 1 := hml0
  have hown : s.vm.findClass "java/lang/Long" = some m.cls := findClass_of_methodNamed Bd.named
  have hnm := (name_of_methodNamed Bd.named Bd.method).1
  have X0 : Stand p l e ({ frames := 0, cells := 0, slots := 0, locals := 0 } : Room) s m #[(.ref a1)] below meth c s₁ [] 0 0 := Stand.of_body Bd
  have e0 : s₁.heap = h0 := by rw [← hh, Bd.state]; rfl
  have N0 := Fr.nil n0
  show own_Ends p e below s (own_Q12 w h0 n0) 0 0 (s₁.setTop (entryFrame m #[(.ref a1)] 1))
  refine own_go (W1 := s₁.setTop (mkF m 0 #[.val (.ref a1)] [])) (fun t k => castTop (ef_rm12 m a1 ) k) ?_
  refine own_go (W1 := s₁.setTop (mkF m 1 #[.val (.ref a1)] [(.ref a1)])) (fun t k => XS.aloadN X0.here hx rfl (hb hby d12_0) rfl rfl  k) ?_
  obtain ⟨T1, X1, e1, st1⟩ := getF X0 hx hZ hown (host := "") (Or.inl (hw _ (List.mem_of_getElem? (i := 72) rfl))) Via.refl e0 F_w (g := (mkF m 1 #[.val (.ref a1)] [(.ref a1)])) rfl rfl (hb hby d12_1)
  refine own_go (W1 := T1.setTop (mkF m 4 #[.val (.ref a1)] [(.long w)])) (st1) ?_
  exact own_retJ X1 hx Bd.returns (hb hby d12_4) hlk (by decide) (by decide) ⟨rfl, N0, e1⟩
theorem own_pn_com_example_tenorbook_tenorbook_trail_TrailFilterOfBillPinLaw : plainName "com/example/tenorbook/tenorbook/trail/TrailFilterOfBillPinLaw" = true := by first | (simp [plainName, overriddenIn]; done) | decide +kernel
theorem own_pd0 : parseMethodDescriptor "(JJ)Lcom/example/tenorbook/tenorbook/trail/TrailFilter;" = some ⟨[.long, .long], some (.object "com/example/tenorbook/tenorbook/trail/TrailFilter")⟩ := by decide +kernel
theorem own_pd4 : parseMethodDescriptor "()Ljava/time/LocalDate;" = some ⟨[], some (.object "java/time/LocalDate")⟩ := by decide +kernel
theorem own_pd5 : parseMethodDescriptor "()Ljava/lang/String;" = some ⟨[], some (.object "java/lang/String")⟩ := by decide +kernel
theorem own_pd6 : parseMethodDescriptor "()Lcom/example/tenorbook/tenorbook/trail/Operation;" = some ⟨[], some (.object "com/example/tenorbook/tenorbook/trail/Operation")⟩ := by decide +kernel
theorem own_pd7 : parseMethodDescriptor "()Ljava/lang/Long;" = some ⟨[], some (.object "java/lang/Long")⟩ := by decide +kernel
theorem own_pd8 : parseMethodDescriptor "()J" = some ⟨[], some .long⟩ := by decide +kernel
theorem ef_rm0 (m : MethodId) (x0 : Int64) (x1 : Int64)  : entryFrame m #[(.long x0), (.long x1)] maxLocals = mkF m 0 #[.val (.long x0), .second, .val (.long x1), .second, .unset, .unset, .unset] [] := by first | (simp [entryFrame, mkF, argsToLocals, Value.category, maxLocals]; done) | rfl
set_option maxRecDepth 65536 in
set_option maxHeartbeats 40000000 in
theorem rm0 (l : Launch) (Z : State) (a0 : Array Value) (hw : ∀ d ∈ tables_1, d.before a0 Z = true) (ws : List Jvm.Cond) (ca : Addr) (i0 i1 : Int64) (h0 : Heap) (n0 : Nat) (Z0 : n0 ≤ h0.size) (Xo : Old Z n0 h0) (hca : own_Cache Z ca) :
    MetFree l x (head1 (Jvm.Cond.code x code maxLocals ret :: ws) room_1) (fun a U => a = #[(.long i0), (.long i1)] ∧ Z.Warmed39 U.vm ∧ U.heap = h0) (fun _ _ _ _ _ => True) (fun _ U o U' => ∃ v L, o = .returned v ∧ own_Q0 n0 v U'.heap L ∧ FrameEnd U o U' L 16 128) := by
  refine MetFree.of_bodySF (plainFor_of_name own_pn_com_example_tenorbook_tenorbook_trail_TrailFilterOfBillPinLaw) hisR ?_
  intro p e s m args below meth c s₁ Bd hml0 hP hK
  obtain ⟨rfl, hZ, hh⟩ := hP
  have hx := Bd.exec
  have hby := Bd.bytes
  have hlk := BodyLoose.notSynchronized Bd
  have hml : c.maxLocals = 7 := hml0
  have hown : s.vm.findClass "com/example/tenorbook/tenorbook/trail/TrailFilterOfBillPinLaw" = some m.cls := findClass_of_methodNamed Bd.named
  have hnm := (name_of_methodNamed Bd.named Bd.method).1
  have X0 : Stand p l e room_1 s m #[(.long i0), (.long i1)] below meth c s₁ [] 0 0 := Stand.of_body Bd
  have e0 : s₁.heap = h0 := by rw [← hh, Bd.state]; rfl
  have N0 := Fr.nil n0
  show own_Ends p e below s (own_Q0 n0) 16 128 (s₁.setTop (entryFrame m #[(.long i0), (.long i1)] maxLocals))
  refine own_go (W1 := s₁.setTop (mkF m 0 #[.val (.long i0), .second, .val (.long i1), .second, .unset, .unset, .unset] [])) (fun t k => castTop (ef_rm0 m i0 i1 ) k) ?_
  refine own_go (W1 := s₁.setTop (mkF m 1 #[.val (.long i0), .second, .val (.long i1), .second, .unset, .unset, .unset] [(.long i0)])) (fun t k => XS.lloadN X0.here hx rfl (hb hby at_0) rfl  k) ?_
  refine own_go (W1 := s₁.setTop (mkF m 2 #[.val (.long i0), .second, .val (.long i1), .second, .unset, .unset, .unset] [(.long i1), (.long i0)])) (fun t k => XS.lloadN X0.here hx rfl (hb hby at_1) rfl  k) ?_
  obtain ⟨_, _, ⟨T1, L1, k1, n1⟩, -, X1, ⟨Lc1, hQ1, l1, y1, z1⟩, st1⟩ := Jvm.LawKit.callS X0 hx (y := (⟨"com/example/tenorbook/tenorbook/trail/TrailFilter", "ofBill", "(JJ)Lcom/example/tenorbook/tenorbook/trail/TrailFilter;"⟩ : MethodName)) hown (mvT hZ (hw _ (List.mem_of_getElem? (i := 0) rfl))) (mvT hZ (hw _ (List.mem_of_getElem? (i := 1) rfl))) (mvT hZ (hw _ (List.mem_of_getElem? (i := 2) rfl))) (mvT hZ (hw _ (List.mem_of_getElem? (i := 3) rfl))) (by decide) (backOf (W := 0) (rm1 l Z a0 hw [] ca i0 i1 h0 n0 Z0 Xo hca) hZ (hw _ (List.mem_of_getElem? (i := 3) rfl)) (hw _ (List.mem_of_getElem? (i := 2) rfl)) (by decide) (by decide)) (g := (mkF m 2 #[.val (.long i0), .second, .val (.long i1), .second, .unset, .unset, .unset] [(.long i1), (.long i0)])) rfl (by rw [hml]; rfl) (argsL := [(.long i0), (.long i1)]) (rest := []) (lenOf own_pd0 rfl) rfl (by show 2 * 0 + _ ≤ _; exact Nat.le_of_eq rfl) (hb hby at_2) (fun _ _ => ⟨rfl, e0, (by decide : 0 + 3 ≤ _), (by decide : 0 + 8 ≤ _)⟩)
  dsimp only [Pt.U, Pt.locs, Pt.cells, Pt.slots] at X1 l1 y1 z1 st1 hQ1
  subst l1 y1 z1
  obtain ⟨b, r5, r6, rfl, Nq1, Kq1, E_b, F_from_b, F_until_b, F_member_b, F_operation_b, F_billId_b, F_batchId_b, E_r5, F_value_r5, E_r6, F_value_r6⟩ := hQ1
  have Xo := Xo.keep Kq1 all0
  have Z1 : n0 ≤ T1.heap.size := Nat.le_trans Z0 Kq1.1
  have N1 := Fr.app N0 Nq1
  refine own_go (W1 := T1.setTop (mkF m 5 #[.val (.long i0), .second, .val (.long i1), .second, .unset, .unset, .unset] [(.ref b)])) st1 ?_
  refine own_go (W1 := T1.setTop (mkF m 7 #[.val (.long i0), .second, .val (.long i1), .second, .val (.ref b), .unset, .unset] [])) (fun t k => XS.astore X1.here hx rfl (hb hby at_5) rfl rfl (l' := #[.val (.long i0), .second, .val (.long i1), .second, .val (.ref b), .unset, .unset]) rfl k) ?_
  refine own_go (W1 := T1.setTop (mkF m 9 #[.val (.long i0), .second, .val (.long i1), .second, .val (.ref b), .unset, .unset] [(.ref b)])) (fun t k => XS.aload X1.here hx rfl (hb hby at_7) rfl rfl  k) ?_
  refine own_go (W1 := T1.setTop (mkF m 14 #[.val (.long i0), .second, .val (.long i1), .second, .val (.ref b), .unset, .unset] [])) (fun t k => XS.ifnonnullYes X1.here hx rfl (pc0 := 9) (pc' := 14) rfl (hb hby at_9) rfl (by decide) (by decide) k) ?_
  refine own_go (W1 := T1.setTop (mkF m 16 #[.val (.long i0), .second, .val (.long i1), .second, .val (.ref b), .unset, .unset] [(.ref b)])) (fun t k => XS.aload X1.here hx rfl (hb hby at_14) rfl rfl  k) ?_
  obtain ⟨cq2, kq2, q2a, q2b, q2c⟩ := isOf hZ (rfl : T1.heap = T1.heap) E_b
  obtain ⟨_, _, ⟨T2, L2, k2, n2⟩, -, X2, ⟨Lc2, hQ2, l2, y2, z2⟩, st2⟩ := X1.virtualBack hx (y := (⟨"com/example/tenorbook/tenorbook/trail/TrailFilter", "from", "()Ljava/time/LocalDate;"⟩ : MethodName)) (z := (⟨"com/example/tenorbook/tenorbook/trail/TrailFilter", "from", "()Ljava/time/LocalDate;"⟩ : MethodName)) hown (mvT hZ (hw _ (List.mem_of_getElem? (i := 37) rfl))) (mvT hZ (hw _ (List.mem_of_getElem? (i := 38) rfl))) (notFace_of_selects (args := #[]) (mvT hZ (hw _ (List.mem_of_getElem? (i := 40) rfl)))) (mvT hZ (hw _ (List.mem_of_getElem? (i := 40) rfl))) (mvT hZ (hw _ (List.mem_of_getElem? (i := 39) rfl))) (by decide) (backOf (W := 0) (rm6 l Z a0 hw [] b .null T1.heap n0 Z1 F_from_b rfl) hZ (hw _ (List.mem_of_getElem? (i := 41) rfl)) (hw _ (List.mem_of_getElem? (i := 2) rfl)) (by decide) (by decide)) q2a q2c (g := (mkF m 16 #[.val (.long i0), .second, .val (.long i1), .second, .val (.ref b), .unset, .unset] [(.ref b)])) rfl (by rw [hml]; rfl) (Steps.refl _) (argsL := []) (rest := []) (lenOf own_pd4 rfl) rfl (by show 2 * 0 + _ ≤ _; exact Nat.le_of_eq rfl) (hb hby at_16) (fun _ _ => ⟨rfl, (rfl : T1.heap = T1.heap), (by decide : 3 + 0 ≤ _), (by decide : 8 + 0 ≤ _)⟩)
  dsimp only [Pt.U, Pt.locs, Pt.cells, Pt.slots] at X2 l2 y2 z2 st2 hQ2
  subst l2 y2 z2
  obtain ⟨rfl, Nq2, eh2⟩ := hQ2
  have N2 := Fr.app N1 Nq2
  refine own_tr (W1 := T2.setTop (mkF m 19 #[.val (.long i0), .second, .val (.long i1), .second, .val (.ref b), .unset, .unset] [.null])) st2 ?_
  refine own_go (W1 := T2.setTop (mkF m 24 #[.val (.long i0), .second, .val (.long i1), .second, .val (.ref b), .unset, .unset] [])) (fun t k => XS.ifnullYes X2.here hx rfl (pc0 := 19) (pc' := 24) rfl (hb hby at_19) rfl (by decide) (by decide) k) ?_
  refine own_go (W1 := T2.setTop (mkF m 26 #[.val (.long i0), .second, .val (.long i1), .second, .val (.ref b), .unset, .unset] [(.ref b)])) (fun t k => XS.aload X2.here hx rfl (hb hby at_24) rfl rfl  k) ?_
  obtain ⟨cq3, kq3, q3a, q3b, q3c⟩ := isOf hZ eh2 E_b
  obtain ⟨_, _, ⟨T3, L3, k3, n3⟩, -, X3, ⟨Lc3, hQ3, l3, y3, z3⟩, st3⟩ := X2.virtualBack hx (y := (⟨"com/example/tenorbook/tenorbook/trail/TrailFilter", "until", "()Ljava/time/LocalDate;"⟩ : MethodName)) (z := (⟨"com/example/tenorbook/tenorbook/trail/TrailFilter", "until", "()Ljava/time/LocalDate;"⟩ : MethodName)) hown (mvT hZ (hw _ (List.mem_of_getElem? (i := 42) rfl))) (mvT hZ (hw _ (List.mem_of_getElem? (i := 43) rfl))) (notFace_of_selects (args := #[]) (mvT hZ (hw _ (List.mem_of_getElem? (i := 45) rfl)))) (mvT hZ (hw _ (List.mem_of_getElem? (i := 45) rfl))) (mvT hZ (hw _ (List.mem_of_getElem? (i := 44) rfl))) (by decide) (backOf (W := 0) (rm7 l Z a0 hw [] b .null T1.heap n0 Z1 F_until_b rfl) hZ (hw _ (List.mem_of_getElem? (i := 46) rfl)) (hw _ (List.mem_of_getElem? (i := 2) rfl)) (by decide) (by decide)) q3a q3c (g := (mkF m 26 #[.val (.long i0), .second, .val (.long i1), .second, .val (.ref b), .unset, .unset] [(.ref b)])) rfl (by rw [hml]; rfl) (Steps.refl _) (argsL := []) (rest := []) (lenOf own_pd4 rfl) rfl (by show 2 * 0 + _ ≤ _; exact Nat.le_of_eq rfl) (hb hby at_26) (fun _ _ => ⟨rfl, eh2, (by decide : 3 + 0 ≤ _), (by decide : 8 + 0 ≤ _)⟩)
  dsimp only [Pt.U, Pt.locs, Pt.cells, Pt.slots] at X3 l3 y3 z3 st3 hQ3
  subst l3 y3 z3
  obtain ⟨rfl, Nq3, eh3⟩ := hQ3
  have N3 := Fr.app N2 Nq3
  refine own_tr (W1 := T3.setTop (mkF m 29 #[.val (.long i0), .second, .val (.long i1), .second, .val (.ref b), .unset, .unset] [.null])) st3 ?_
  refine own_go (W1 := T3.setTop (mkF m 34 #[.val (.long i0), .second, .val (.long i1), .second, .val (.ref b), .unset, .unset] [])) (fun t k => XS.ifnullYes X3.here hx rfl (pc0 := 29) (pc' := 34) rfl (hb hby at_29) rfl (by decide) (by decide) k) ?_
  refine own_go (W1 := T3.setTop (mkF m 36 #[.val (.long i0), .second, .val (.long i1), .second, .val (.ref b), .unset, .unset] [(.ref b)])) (fun t k => XS.aload X3.here hx rfl (hb hby at_34) rfl rfl  k) ?_
  obtain ⟨cq4, kq4, q4a, q4b, q4c⟩ := isOf hZ eh3 E_b
  obtain ⟨_, _, ⟨T4, L4, k4, n4⟩, -, X4, ⟨Lc4, hQ4, l4, y4, z4⟩, st4⟩ := X3.virtualBack hx (y := (⟨"com/example/tenorbook/tenorbook/trail/TrailFilter", "member", "()Ljava/lang/String;"⟩ : MethodName)) (z := (⟨"com/example/tenorbook/tenorbook/trail/TrailFilter", "member", "()Ljava/lang/String;"⟩ : MethodName)) hown (mvT hZ (hw _ (List.mem_of_getElem? (i := 47) rfl))) (mvT hZ (hw _ (List.mem_of_getElem? (i := 48) rfl))) (notFace_of_selects (args := #[]) (mvT hZ (hw _ (List.mem_of_getElem? (i := 50) rfl)))) (mvT hZ (hw _ (List.mem_of_getElem? (i := 50) rfl))) (mvT hZ (hw _ (List.mem_of_getElem? (i := 49) rfl))) (by decide) (backOf (W := 0) (rm8 l Z a0 hw [] b .null T1.heap n0 Z1 F_member_b rfl) hZ (hw _ (List.mem_of_getElem? (i := 51) rfl)) (hw _ (List.mem_of_getElem? (i := 2) rfl)) (by decide) (by decide)) q4a q4c (g := (mkF m 36 #[.val (.long i0), .second, .val (.long i1), .second, .val (.ref b), .unset, .unset] [(.ref b)])) rfl (by rw [hml]; rfl) (Steps.refl _) (argsL := []) (rest := []) (lenOf own_pd5 rfl) rfl (by show 2 * 0 + _ ≤ _; exact Nat.le_of_eq rfl) (hb hby at_36) (fun _ _ => ⟨rfl, eh3, (by decide : 3 + 0 ≤ _), (by decide : 8 + 0 ≤ _)⟩)
  dsimp only [Pt.U, Pt.locs, Pt.cells, Pt.slots] at X4 l4 y4 z4 st4 hQ4
  subst l4 y4 z4
  obtain ⟨rfl, Nq4, eh4⟩ := hQ4
  have N4 := Fr.app N3 Nq4
  refine own_tr (W1 := T4.setTop (mkF m 39 #[.val (.long i0), .second, .val (.long i1), .second, .val (.ref b), .unset, .unset] [.null])) st4 ?_
  refine own_go (W1 := T4.setTop (mkF m 44 #[.val (.long i0), .second, .val (.long i1), .second, .val (.ref b), .unset, .unset] [])) (fun t k => XS.ifnullYes X4.here hx rfl (pc0 := 39) (pc' := 44) rfl (hb hby at_39) rfl (by decide) (by decide) k) ?_
  refine own_go (W1 := T4.setTop (mkF m 46 #[.val (.long i0), .second, .val (.long i1), .second, .val (.ref b), .unset, .unset] [(.ref b)])) (fun t k => XS.aload X4.here hx rfl (hb hby at_44) rfl rfl  k) ?_
  obtain ⟨cq5, kq5, q5a, q5b, q5c⟩ := isOf hZ eh4 E_b
  obtain ⟨_, _, ⟨T5, L5, k5, n5⟩, -, X5, ⟨Lc5, hQ5, l5, y5, z5⟩, st5⟩ := X4.virtualBack hx (y := (⟨"com/example/tenorbook/tenorbook/trail/TrailFilter", "operation", "()Lcom/example/tenorbook/tenorbook/trail/Operation;"⟩ : MethodName)) (z := (⟨"com/example/tenorbook/tenorbook/trail/TrailFilter", "operation", "()Lcom/example/tenorbook/tenorbook/trail/Operation;"⟩ : MethodName)) hown (mvT hZ (hw _ (List.mem_of_getElem? (i := 52) rfl))) (mvT hZ (hw _ (List.mem_of_getElem? (i := 53) rfl))) (notFace_of_selects (args := #[]) (mvT hZ (hw _ (List.mem_of_getElem? (i := 55) rfl)))) (mvT hZ (hw _ (List.mem_of_getElem? (i := 55) rfl))) (mvT hZ (hw _ (List.mem_of_getElem? (i := 54) rfl))) (by decide) (backOf (W := 0) (rm9 l Z a0 hw [] b .null T1.heap n0 Z1 F_operation_b rfl) hZ (hw _ (List.mem_of_getElem? (i := 56) rfl)) (hw _ (List.mem_of_getElem? (i := 2) rfl)) (by decide) (by decide)) q5a q5c (g := (mkF m 46 #[.val (.long i0), .second, .val (.long i1), .second, .val (.ref b), .unset, .unset] [(.ref b)])) rfl (by rw [hml]; rfl) (Steps.refl _) (argsL := []) (rest := []) (lenOf own_pd6 rfl) rfl (by show 2 * 0 + _ ≤ _; exact Nat.le_of_eq rfl) (hb hby at_46) (fun _ _ => ⟨rfl, eh4, (by decide : 3 + 0 ≤ _), (by decide : 8 + 0 ≤ _)⟩)
  dsimp only [Pt.U, Pt.locs, Pt.cells, Pt.slots] at X5 l5 y5 z5 st5 hQ5
  subst l5 y5 z5
  obtain ⟨rfl, Nq5, eh5⟩ := hQ5
  have N5 := Fr.app N4 Nq5
  refine own_tr (W1 := T5.setTop (mkF m 49 #[.val (.long i0), .second, .val (.long i1), .second, .val (.ref b), .unset, .unset] [.null])) st5 ?_
  refine own_go (W1 := T5.setTop (mkF m 54 #[.val (.long i0), .second, .val (.long i1), .second, .val (.ref b), .unset, .unset] [])) (fun t k => XS.ifnullYes X5.here hx rfl (pc0 := 49) (pc' := 54) rfl (hb hby at_49) rfl (by decide) (by decide) k) ?_
  refine own_go (W1 := T5.setTop (mkF m 56 #[.val (.long i0), .second, .val (.long i1), .second, .val (.ref b), .unset, .unset] [(.ref b)])) (fun t k => XS.aload X5.here hx rfl (hb hby at_54) rfl rfl  k) ?_
  obtain ⟨cq6, kq6, q6a, q6b, q6c⟩ := isOf hZ eh5 E_b
  obtain ⟨_, _, ⟨T6, L6, k6, n6⟩, -, X6, ⟨Lc6, hQ6, l6, y6, z6⟩, st6⟩ := X5.virtualBack hx (y := (⟨"com/example/tenorbook/tenorbook/trail/TrailFilter", "billId", "()Ljava/lang/Long;"⟩ : MethodName)) (z := (⟨"com/example/tenorbook/tenorbook/trail/TrailFilter", "billId", "()Ljava/lang/Long;"⟩ : MethodName)) hown (mvT hZ (hw _ (List.mem_of_getElem? (i := 57) rfl))) (mvT hZ (hw _ (List.mem_of_getElem? (i := 58) rfl))) (notFace_of_selects (args := #[]) (mvT hZ (hw _ (List.mem_of_getElem? (i := 60) rfl)))) (mvT hZ (hw _ (List.mem_of_getElem? (i := 60) rfl))) (mvT hZ (hw _ (List.mem_of_getElem? (i := 59) rfl))) (by decide) (backOf (W := 0) (rm10 l Z a0 hw [] b (.ref r5) T1.heap n0 Z1 F_billId_b rfl) hZ (hw _ (List.mem_of_getElem? (i := 61) rfl)) (hw _ (List.mem_of_getElem? (i := 2) rfl)) (by decide) (by decide)) q6a q6c (g := (mkF m 56 #[.val (.long i0), .second, .val (.long i1), .second, .val (.ref b), .unset, .unset] [(.ref b)])) rfl (by rw [hml]; rfl) (Steps.refl _) (argsL := []) (rest := []) (lenOf own_pd7 rfl) rfl (by show 2 * 0 + _ ≤ _; exact Nat.le_of_eq rfl) (hb hby at_56) (fun _ _ => ⟨rfl, eh5, (by decide : 3 + 0 ≤ _), (by decide : 8 + 0 ≤ _)⟩)
  dsimp only [Pt.U, Pt.locs, Pt.cells, Pt.slots] at X6 l6 y6 z6 st6 hQ6
  subst l6 y6 z6
  obtain ⟨rfl, Nq6, eh6⟩ := hQ6
  have N6 := Fr.app N5 Nq6
  refine own_tr (W1 := T6.setTop (mkF m 59 #[.val (.long i0), .second, .val (.long i1), .second, .val (.ref b), .unset, .unset] [(.ref r5)])) st6 ?_
  refine own_go (W1 := T6.setTop (mkF m 61 #[.val (.long i0), .second, .val (.long i1), .second, .val (.ref b), .val (.ref r5), .unset] [])) (fun t k => XS.astore X6.here hx rfl (hb hby at_59) rfl rfl (l' := #[.val (.long i0), .second, .val (.long i1), .second, .val (.ref b), .val (.ref r5), .unset]) rfl k) ?_
  refine own_go (W1 := T6.setTop (mkF m 63 #[.val (.long i0), .second, .val (.long i1), .second, .val (.ref b), .val (.ref r5), .unset] [(.ref b)])) (fun t k => XS.aload X6.here hx rfl (hb hby at_61) rfl rfl  k) ?_
  obtain ⟨cq7, kq7, q7a, q7b, q7c⟩ := isOf hZ eh6 E_b
  obtain ⟨_, _, ⟨T7, L7, k7, n7⟩, -, X7, ⟨Lc7, hQ7, l7, y7, z7⟩, st7⟩ := X6.virtualBack hx (y := (⟨"com/example/tenorbook/tenorbook/trail/TrailFilter", "batchId", "()Ljava/lang/Long;"⟩ : MethodName)) (z := (⟨"com/example/tenorbook/tenorbook/trail/TrailFilter", "batchId", "()Ljava/lang/Long;"⟩ : MethodName)) hown (mvT hZ (hw _ (List.mem_of_getElem? (i := 62) rfl))) (mvT hZ (hw _ (List.mem_of_getElem? (i := 63) rfl))) (notFace_of_selects (args := #[]) (mvT hZ (hw _ (List.mem_of_getElem? (i := 65) rfl)))) (mvT hZ (hw _ (List.mem_of_getElem? (i := 65) rfl))) (mvT hZ (hw _ (List.mem_of_getElem? (i := 64) rfl))) (by decide) (backOf (W := 0) (rm11 l Z a0 hw [] b (.ref r6) T1.heap n0 Z1 F_batchId_b rfl) hZ (hw _ (List.mem_of_getElem? (i := 66) rfl)) (hw _ (List.mem_of_getElem? (i := 2) rfl)) (by decide) (by decide)) q7a q7c (g := (mkF m 63 #[.val (.long i0), .second, .val (.long i1), .second, .val (.ref b), .val (.ref r5), .unset] [(.ref b)])) rfl (by rw [hml]; rfl) (Steps.refl _) (argsL := []) (rest := []) (lenOf own_pd7 rfl) rfl (by show 2 * 0 + _ ≤ _; exact Nat.le_of_eq rfl) (hb hby at_63) (fun _ _ => ⟨rfl, eh6, (by decide : 3 + 0 ≤ _), (by decide : 8 + 0 ≤ _)⟩)
  dsimp only [Pt.U, Pt.locs, Pt.cells, Pt.slots] at X7 l7 y7 z7 st7 hQ7
  subst l7 y7 z7
  obtain ⟨rfl, Nq7, eh7⟩ := hQ7
  have N7 := Fr.app N6 Nq7
  refine own_tr (W1 := T7.setTop (mkF m 66 #[.val (.long i0), .second, .val (.long i1), .second, .val (.ref b), .val (.ref r5), .unset] [(.ref r6)])) st7 ?_
  refine own_go (W1 := T7.setTop (mkF m 68 #[.val (.long i0), .second, .val (.long i1), .second, .val (.ref b), .val (.ref r5), .val (.ref r6)] [])) (fun t k => XS.astore X7.here hx rfl (hb hby at_66) rfl rfl (l' := #[.val (.long i0), .second, .val (.long i1), .second, .val (.ref b), .val (.ref r5), .val (.ref r6)]) rfl k) ?_
  refine own_go (W1 := T7.setTop (mkF m 70 #[.val (.long i0), .second, .val (.long i1), .second, .val (.ref b), .val (.ref r5), .val (.ref r6)] [(.ref r5)])) (fun t k => XS.aload X7.here hx rfl (hb hby at_68) rfl rfl  k) ?_
  refine own_go (W1 := T7.setTop (mkF m 73 #[.val (.long i0), .second, .val (.long i1), .second, .val (.ref b), .val (.ref r5), .val (.ref r6)] [])) (fun t k => XS.ifnullNo X7.here hx rfl (hb hby at_70) rfl k) ?_
  refine own_go (W1 := T7.setTop (mkF m 75 #[.val (.long i0), .second, .val (.long i1), .second, .val (.ref b), .val (.ref r5), .val (.ref r6)] [(.ref r6)])) (fun t k => XS.aload X7.here hx rfl (hb hby at_73) rfl rfl  k) ?_
  refine own_go (W1 := T7.setTop (mkF m 80 #[.val (.long i0), .second, .val (.long i1), .second, .val (.ref b), .val (.ref r5), .val (.ref r6)] [])) (fun t k => XS.ifnonnullYes X7.here hx rfl (pc0 := 75) (pc' := 80) rfl (hb hby at_75) rfl (by decide) (by decide) k) ?_
  refine own_go (W1 := T7.setTop (mkF m 82 #[.val (.long i0), .second, .val (.long i1), .second, .val (.ref b), .val (.ref r5), .val (.ref r6)] [(.ref r5)])) (fun t k => XS.aload X7.here hx rfl (hb hby at_80) rfl rfl  k) ?_
  obtain ⟨cq8, kq8, q8a, q8b, q8c⟩ := isOf hZ eh7 E_r5
  obtain ⟨_, _, ⟨T8, L8, k8, n8⟩, -, X8, ⟨Lc8, hQ8, l8, y8, z8⟩, st8⟩ := X7.virtualBack hx (y := (⟨"java/lang/Long", "longValue", "()J"⟩ : MethodName)) (z := (⟨"java/lang/Long", "longValue", "()J"⟩ : MethodName)) hown (mvT hZ (hw _ (List.mem_of_getElem? (i := 67) rfl))) (mvT hZ (hw _ (List.mem_of_getElem? (i := 68) rfl))) (notFace_of_selects (args := #[]) (mvT hZ (hw _ (List.mem_of_getElem? (i := 70) rfl)))) (mvT hZ (hw _ (List.mem_of_getElem? (i := 70) rfl))) (mvT hZ (hw _ (List.mem_of_getElem? (i := 69) rfl))) (by decide) (backOf (W := 0) (rm12 l Z a0 hw [] r5 i0 T1.heap n0 Z1 F_value_r5) hZ (hw _ (List.mem_of_getElem? (i := 71) rfl)) (hw _ (List.mem_of_getElem? (i := 8) rfl)) (by decide) (by decide)) q8a q8c (g := (mkF m 82 #[.val (.long i0), .second, .val (.long i1), .second, .val (.ref b), .val (.ref r5), .val (.ref r6)] [(.ref r5)])) rfl (by rw [hml]; rfl) (Steps.refl _) (argsL := []) (rest := []) (lenOf own_pd8 rfl) rfl (by show 2 * 0 + _ ≤ _; exact Nat.le_of_eq rfl) (hb hby at_82) (fun _ _ => ⟨rfl, eh7, (by decide : 3 + 0 ≤ _), (by decide : 8 + 0 ≤ _)⟩)
  dsimp only [Pt.U, Pt.locs, Pt.cells, Pt.slots] at X8 l8 y8 z8 st8 hQ8
  subst l8 y8 z8
  obtain ⟨rfl, Nq8, eh8⟩ := hQ8
  have N8 := Fr.app N7 Nq8
  refine own_tr (W1 := T8.setTop (mkF m 85 #[.val (.long i0), .second, .val (.long i1), .second, .val (.ref b), .val (.ref r5), .val (.ref r6)] [(.long i0)])) st8 ?_
  refine own_go (W1 := T8.setTop (mkF m 86 #[.val (.long i0), .second, .val (.long i1), .second, .val (.ref b), .val (.ref r5), .val (.ref r6)] [(.long i0), (.long i0)])) (fun t k => XS.lloadN X8.here hx rfl (hb hby at_85) rfl  k) ?_
  refine own_go (W1 := T8.setTop (mkF m 87 #[.val (.long i0), .second, .val (.long i1), .second, .val (.ref b), .val (.ref r5), .val (.ref r6)] [(.int (lcmpW i0 i0))])) (fun t k => XS.lcmp X8.here hx rfl (hb hby at_86) rfl k) ?_
  refine own_go (W1 := T8.setTop (mkF m 90 #[.val (.long i0), .second, .val (.long i1), .second, .val (.ref b), .val (.ref r5), .val (.ref r6)] [])) (fun t k => XS.ifNo X8.here hx rfl (hb hby at_87) rfl ((if0 _ _).trans (teq (show (lcmpW i0 i0) = (0 : Int32) from ((lw_eq _ _).mpr rfl))).2) k) ?_
  refine own_go (W1 := T8.setTop (mkF m 92 #[.val (.long i0), .second, .val (.long i1), .second, .val (.ref b), .val (.ref r5), .val (.ref r6)] [(.ref r6)])) (fun t k => XS.aload X8.here hx rfl (hb hby at_90) rfl rfl  k) ?_
  obtain ⟨cq9, kq9, q9a, q9b, q9c⟩ := isOf hZ eh8 E_r6
  obtain ⟨_, _, ⟨T9, L9, k9, n9⟩, -, X9, ⟨Lc9, hQ9, l9, y9, z9⟩, st9⟩ := X8.virtualBack hx (y := (⟨"java/lang/Long", "longValue", "()J"⟩ : MethodName)) (z := (⟨"java/lang/Long", "longValue", "()J"⟩ : MethodName)) hown (mvT hZ (hw _ (List.mem_of_getElem? (i := 67) rfl))) (mvT hZ (hw _ (List.mem_of_getElem? (i := 68) rfl))) (notFace_of_selects (args := #[]) (mvT hZ (hw _ (List.mem_of_getElem? (i := 70) rfl)))) (mvT hZ (hw _ (List.mem_of_getElem? (i := 70) rfl))) (mvT hZ (hw _ (List.mem_of_getElem? (i := 69) rfl))) (by decide) (backOf (W := 0) (rm12 l Z a0 hw [] r6 i1 T1.heap n0 Z1 F_value_r6) hZ (hw _ (List.mem_of_getElem? (i := 71) rfl)) (hw _ (List.mem_of_getElem? (i := 8) rfl)) (by decide) (by decide)) q9a q9c (g := (mkF m 92 #[.val (.long i0), .second, .val (.long i1), .second, .val (.ref b), .val (.ref r5), .val (.ref r6)] [(.ref r6)])) rfl (by rw [hml]; rfl) (Steps.refl _) (argsL := []) (rest := []) (lenOf own_pd8 rfl) rfl (by show 2 * 0 + _ ≤ _; exact Nat.le_of_eq rfl) (hb hby at_92) (fun _ _ => ⟨rfl, eh8, (by decide : 3 + 0 ≤ _), (by decide : 8 + 0 ≤ _)⟩)
  dsimp only [Pt.U, Pt.locs, Pt.cells, Pt.slots] at X9 l9 y9 z9 st9 hQ9
  subst l9 y9 z9
  obtain ⟨rfl, Nq9, eh9⟩ := hQ9
  have N9 := Fr.app N8 Nq9
  refine own_tr (W1 := T9.setTop (mkF m 95 #[.val (.long i0), .second, .val (.long i1), .second, .val (.ref b), .val (.ref r5), .val (.ref r6)] [(.long i1)])) st9 ?_
  refine own_go (W1 := T9.setTop (mkF m 96 #[.val (.long i0), .second, .val (.long i1), .second, .val (.ref b), .val (.ref r5), .val (.ref r6)] [(.long i1), (.long i1)])) (fun t k => XS.lloadN X9.here hx rfl (hb hby at_95) rfl  k) ?_
  refine own_go (W1 := T9.setTop (mkF m 97 #[.val (.long i0), .second, .val (.long i1), .second, .val (.ref b), .val (.ref r5), .val (.ref r6)] [(.int (lcmpW i1 i1))])) (fun t k => XS.lcmp X9.here hx rfl (hb hby at_96) rfl k) ?_
  refine own_go (W1 := T9.setTop (mkF m 100 #[.val (.long i0), .second, .val (.long i1), .second, .val (.ref b), .val (.ref r5), .val (.ref r6)] [])) (fun t k => XS.ifNo X9.here hx rfl (hb hby at_97) rfl ((if0 _ _).trans (teq (show (lcmpW i1 i1) = (0 : Int32) from ((lw_eq _ _).mpr rfl))).2) k) ?_
  refine own_go (W1 := T9.setTop (mkF m 101 #[.val (.long i0), .second, .val (.long i1), .second, .val (.ref b), .val (.ref r5), .val (.ref r6)] [(.int (1 : Int32))])) (fun t k => XS.iconst X9.here hx rfl (hb hby at_100) k) ?_
  refine own_go (W1 := T9.setTop (mkF m 105 #[.val (.long i0), .second, .val (.long i1), .second, .val (.ref b), .val (.ref r5), .val (.ref r6)] [(.int (1 : Int32))])) (fun t k => XS.goto X9.here hx rfl (pc0 := 101) (pc' := 105) rfl (hb hby at_101) (by decide) (by decide) k) ?_
  exact own_retN X9 hx (t := .boolean) Bd.returns (by simp) (hb hby at_105) hlk (by decide) (by decide) ⟨rfl, N9⟩
theorem own_size {s : State} {args : Array Value} {t : Jvm.Term} {ca : Addr} {cl : Cell} {ty : FieldType} (ev : t.eval args s none [] s = some (.ref ca)) (A : Arr s s.heap ca cl ty) (h : (Jvm.Term.length t).eval args s none [] s = some (.int 256)) : cl.slots.size = 256 := by
  obtain ⟨x, c, e1, e2, e3⟩ := Term.length_spec h
  cases ev.symm.trans e1
  cases (Arr.fin (Vm.Alike.refl _) A).symm.trans e2
  have h31 := SBG.length_lt ev e2 h
  have q := congrArg Int32.toInt (Value.int.inj e3)
  rw [len_toInt h31] at q
  have e0 : (256 : Int32).toInt = 256 := rfl
  omega
abbrev own_ct : Jvm.Term := Jvm.Term.static "java/lang/Long$LongCache" "cache" "[Ljava/lang/Long;"
theorem own_all {s : State} {args : Array Value} {ca : Addr} {cl : Cell} {ty : FieldType} (ev : own_ct.eval args s none [] s = some (.ref ca)) (A : Arr s s.heap ca cl ty) (hsz : cl.slots.size = 256)
    (h : (Jvm.Cond.all own_ct (Jvm.Cond.and (Jvm.Cond.exactly (Jvm.Term.elem own_ct (Jvm.Term.index 0)) "java/lang/Long") (Jvm.Cond.eq (Jvm.Term.field (Jvm.Term.elem own_ct (Jvm.Term.index 0)) "java/lang/Long" "value" "J") (Jvm.Term.op1 .i2l (Jvm.Term.sub (Jvm.Term.index 0) (Jvm.Term.int 128)))))).value args s none s [] = some true) :
    ∀ x : Int64, -128 ≤ x.toInt → x.toInt ≤ 127 → ∃ b : Addr, cl.slots[(x.toInt32 + (128 : Int32)).toNatClampNeg]? = some (.ref b) ∧ Exa s s.heap b "java/lang/Long" ∧ Fld s s.heap b "java/lang/Long" "value" "J" (.long x) := by
  intro x h1 h2
  have hin := own_in h1 h2 hsz
  have hj : ¬ (x.toInt32 + (128 : Int32)) < 0 := fun q => hin (Or.inl q)
  have hlt : (x.toInt32 + (128 : Int32)).toNatClampNeg < cl.slots.size := Nat.lt_of_not_le fun q => hin (Or.inr q)
  have q := Cond.all_elim ev (Arr.fin (Vm.Alike.refl _) A) h _ hlt
  obtain ⟨q1, q2⟩ := and_e q
  obtain ⟨b, eb⟩ := exa_v q1
  have ev' : own_ct.eval args s none [(x.toInt32 + (128 : Int32)).toNatClampNeg] s = some (.ref ca) := ev
  have ix := idx_at (args := args) (s := s) (first := s) (o := none) hj
  refine ⟨b, (elem_in eb ev' ix A.1).2, exa_at eb q1, ?_⟩
  have hs : (Jvm.Term.sub (Jvm.Term.index 0) (Jvm.Term.int 128)).eval args s none [(x.toInt32 + (128 : Int32)).toNatClampNeg] s = some (.int (x.toInt32 + (128 : Int32) - 128)) := by simp [Jvm.Term.eval] at ix ⊢; simp [ix]
  have hr : (Jvm.Term.op1 .i2l (Jvm.Term.sub (Jvm.Term.index 0) (Jvm.Term.int 128))).eval args s none [(x.toInt32 + (128 : Int32)).toNatClampNeg] s = some (.long (x.toInt32 + (128 : Int32) - 128).toInt64) := op1_f hs
  obtain ⟨u, v, e1, e2, -, k2⟩ := cmp_v (Or.inl q2)
  cases hr.symm.trans e2
  obtain ⟨z, rfl⟩ := k2
  have ez := gotT (eq_L e1 hr) q2
  have ex : (x.toInt32 + (128 : Int32) - 128).toInt64 = x := by
    rw [← Int64.toInt_inj, c_i2l]
    have a := own_idx h1 h2
    have b := c_isub (x.toInt32 + 128) 128
    have r := rng32 (x.toInt32 + 128 - 128)
    have e : (128 : Int32).toInt = 128 := rfl
    omega
  rw [ez, ex] at e1
  exact Fld.start ((fld_at eb).symm.trans e1)
set_option maxRecDepth 65536 in
set_option maxHeartbeats 40000000 in
theorem comes_1 {Post : Tables → Env → Array Value → State → Outcome → State → Prop} (hpost : ∀ tb e args s v u, (limb_1_1.after args s (.returned v) u = true ∧ limb_1_2.after args s (.returned v) u = true ∧ True) → FrameEnd s (.returned v) u (Jvm.fieldLocs frame_1_writes args s ++ Jvm.arrayLocs frame_1_arrays args s ++ Jvm.staticLocs frame_1_statics s) 16 128 → Post tb e args s (.returned v) u) :
    ArmFor flags0 classFile x code maxLocals ret World_1 tables_1 room_1 Calls_1 rest_1 Pre_1 Post := by
  intro l hfl _ _ p e ha hc hk s m args below hf hA hF happ hP
  obtain ⟨hcalls, hrest, hpre⟩ := hP
  obtain ⟨-, -, -, hnamed, -, -, -, hat⟩ := (Spec.applies_iff hf).mp happ
  obtain ⟨hg, hn⟩ := and_e (Cond.before_iff.mp (show (Jvm.Cond.and given_1 narrow_1).before args s = true from hpre))
  obtain ⟨gc, hg⟩ := and_e hg
  obtain ⟨ga0, hg⟩ := and_e hg
  have ga1 := hg
  obtain ⟨w0, w1, rfl⟩ : ∃ w0 w1 : Value, args = #[w0, w1] := by
    have hs : args.size = 2 := by simpa [Cond.value, given_1] using gc
    obtain ⟨L⟩ := args
    match L, hs with
    | [w0, w1], _ => exact ⟨w0, w1, rfl⟩
  have hw := fun d (hd : d ∈ tables_1) => atoms_spec (ws := Jvm.Cond.code x code maxLocals ret :: tables_1) hat d (List.mem_cons_of_mem _ hd)
  have hfit : Fit s := fun {y c} hc i hi => by
    obtain ⟨ha, rfl⟩ := Array.getElem?_eq_some_iff.mp hc
    have q := List.all_eq_true.mp ((Array.all_eq_true_iff_forall_mem.mp hF) _ (Array.getElem_mem ha)) i (List.mem_range.mpr hi)
    simpa [Array.getElem?_eq_getElem hi] using q
  obtain ⟨i0, ei0⟩ := isL_v ga0
  obtain rfl : w0 = (.long i0) := Option.some.inj ei0
  obtain ⟨i1, ei1⟩ := isL_v ga1
  obtain rfl : w1 = (.long i1) := Option.some.inj ei1
  obtain ⟨hsets, -⟩ := atoms_of _ (rest_1_c_eq ▸ (show rest_1_c.before _ s = true from hrest))
  have js0 := Cond.before_iff.mp (hsets _ (List.mem_of_getElem? (i := 0) rfl))
  have js1 := Cond.before_iff.mp (hsets _ (List.mem_of_getElem? (i := 1) rfl))
  have js2 := Cond.before_iff.mp (hsets _ (List.mem_of_getElem? (i := 2) rfl))
  have js3 := Cond.before_iff.mp (hsets _ (List.mem_of_getElem? (i := 3) rfl))
  have js4 := Cond.before_iff.mp (hsets _ (List.mem_of_getElem? (i := 4) rfl))
  have js5 := Cond.before_iff.mp (hsets _ (List.mem_of_getElem? (i := 5) rfl))
  obtain ⟨ca, evc⟩ := exa_v js3
  have S_c := Sta.start evc (Or.inl (hsets _ (List.mem_of_getElem? (i := 1) rfl)))
  obtain ⟨cl, Arc⟩ := Arr.start evc js2
  have hlen : (Jvm.Term.length (Jvm.Term.static "java/lang/Long$LongCache" "cache" "[Ljava/lang/Long;")).eval _ s none [] s = some (.int 256) := Cond.eq_int (beq_iff_eq.mpr js4) rfl
  have hsz := own_size evc Arc hlen
  have hca : own_Cache s ca := ⟨S_c, cl, Arc, hsz, own_all evc Arc hsz js5⟩
  obtain ⟨n, o, h1, h2, h3, _, L, rfl, ⟨rfl, N⟩, hq⟩ := rm0 l s _ hw tables_1 ca i0 i1 s.heap s.heap.size (Nat.le_refl _) (Old.start s) hca p e ha hc hk s m _ below hf ((Spec.applies_iff_loose hf).mp happ).1 ⟨rfl, State.Warmed39.refl s, rfl⟩ trivial
  refine ⟨n, _, h1, h2, h3, hpost _ _ _ _ _ _ ⟨Cond.after_iff.mpr rfl, Cond.after_iff.mpr (eq_i res_at (Term.int_eval (1)) rfl), trivial⟩ ⟨hq.1, hq.2.1, (hq.2.2.sift fun y hy => Or.inr (N y hy)).mono (by decide) (by decide)⟩⟩
theorem main_1_1 : Claimed_1_1 := comes_1 fun _ _ _ _ _ _ h hF => ⟨h.1, hF⟩
theorem main_1_2 : Claimed_1_2 := comes_1 fun _ _ _ _ _ _ h hF => ⟨h.2.1, hF⟩
end Jvm.Pilot.@@N@@
namespace Jvm.Pilot.@@N@@
open Jvm Jvm.ClassFile Sem Op Lib Jvm.Free Jvm.Stand Jvm.Pilot.@@N@@.Jvm.D
/-! MADE BY PROGRAM (witnessworld.py) out of the Statement's table words and the real class files: 17 classes; the members and pool entries that the words name. The judged class is class 1, her method 1. -/
namespace start1
open Jvm.ClassFile
def u (s : String) : CpInfo := .utf8 (stringToUtf16 s)
/-- a pool by its gaps: so many unusable entries, then the entry; so many at the end -/
def gap : Nat → List CpInfo → List CpInfo
  | 0, r => r
  | n + 1, r => .unusable :: gap n r
def poolList (es : List (Nat × CpInfo)) (last : Nat) : List CpInfo := es.foldr (fun e r => gap e.1 (e.2 :: r)) (gap last [])
def pool (es : List (Nat × CpInfo)) (last : Nat) : Array CpInfo := ⟨poolList es last⟩
def fileOf (pool : Array CpInfo) (this : Nat) (attrs : Array Attribute := #[]) (ms : Array MethodInfo := #[]) (fl : Nat := 33) (sup : Nat := 0) (ifs : Array Nat := #[]) (fds : Array FieldInfo := #[]) : ClassFile where
  minorVersion := 0
  majorVersion := 65
  constantPool := pool
  accessFlags := fl
  thisClass := this
  superClass := sup
  interfaces := ifs
  fields := fds
  methods := ms
  attributes := attrs
def plain (name : String) (sup : Option ClassId) : Class where
  name := name
  kind := .ordinary
  loader := none
  accessFlags := 33
  super := sup
  interfaces := #[]
  cf := none
  fields := #[]
  methods := #[]
  instanceTypes := #[]
  staticTypes := #[]
  resolved := #[]
  callSites := []
  init := .initialized
  statics := none
  mirror := none

def pool0 : Array CpInfo := pool [(5, u "<init>"), (0, u "()V"), (1, .class_ 10), (1, u "java/lang/Object")] 113

def k0c0 : Code := { maxStack := 0, maxLocals := 1, code := object_method_1_code, exceptionTable := #[], attributes := #[] }
def k0m0 : Method := { name := "<init>", desc := "()V", sig := { parameters := [], returnType := none }, accessFlags := 1, code := some k0c0 }
/-- java/lang/Object -/
def k0 : Class := { plain "java/lang/Object" none with
  accessFlags := 33
  interfaces := #[]
  cf := some (fileOf pool0 8 #[] #[{ accessFlags := 1, nameIndex := 5, descriptorIndex := 6, attributes := #[] }] 33 0 #[] #[])
  fields := #[]
  methods := #[k0m0]
  instanceTypes := #[]
  staticTypes := #[]
  resolved := Array.replicate 124 none
  statics := none }

def pool1 : Array CpInfo := pool [(2, .class_ 4), (1, u "java/lang/Object"), (0, u "<init>"), (0, u "()V"), (0, .methodref 8 9), (0, .class_ 10), (0, .nameAndType 11 12), (0, u "com/example/tenorbook/tenorbook/trail/TrailFilter"), (0, u "ofBill"), (0, u "(JJ)Lcom/example/tenorbook/tenorbook/trail/TrailFilter;"), (0, .methodref 8 14), (0, .nameAndType 15 16), (0, u "from"), (0, u "()Ljava/time/LocalDate;"), (0, .methodref 8 18), (0, .nameAndType 19 16), (0, u "until"), (0, .methodref 8 21), (0, .nameAndType 22 23), (0, u "member"), (0, u "()Ljava/lang/String;"), (0, .methodref 8 25), (0, .nameAndType 26 27), (0, u "operation"), (0, u "()Lcom/example/tenorbook/tenorbook/trail/Operation;"), (0, .methodref 8 29), (0, .nameAndType 30 31), (0, u "billId"), (0, u "()Ljava/lang/Long;"), (0, .methodref 8 33), (0, .nameAndType 34 31), (0, u "batchId"), (0, .methodref 36 37), (0, .class_ 38), (0, .nameAndType 39 40), (0, u "java/lang/Long"), (0, u "longValue"), (0, u "()J"), (0, .class_ 42), (0, u "com/example/tenorbook/tenorbook/trail/TrailFilterOfBillPinLaw"), (2, u "law"), (0, u "(JJ)Z")] 3

def k1m0 : Method := { name := "<init>", desc := "()V", sig := { parameters := [], returnType := none }, accessFlags := 1, code := none }
def k1c1 : Code := { maxStack := 4, maxLocals := 7, code := code, exceptionTable := #[], attributes := #[] }
def k1m1 : Method := { name := "law", desc := "(JJ)Z", sig := { parameters := [.long, .long], returnType := some .boolean }, accessFlags := 9, code := some k1c1 }
/-- com/example/tenorbook/tenorbook/trail/TrailFilterOfBillPinLaw -/
def k1 : Class := { plain "com/example/tenorbook/tenorbook/trail/TrailFilterOfBillPinLaw" (some 0) with
  accessFlags := 49
  interfaces := #[]
  cf := some (fileOf pool1 41 #[] #[{ accessFlags := 1, nameIndex := 5, descriptorIndex := 6, attributes := #[] }, { accessFlags := 9, nameIndex := 45, descriptorIndex := 46, attributes := #[] }] 49 2 #[] #[])
  fields := #[]
  methods := #[k1m0, k1m1]
  instanceTypes := #[]
  staticTypes := #[]
  resolved := Array.replicate 50 none
  statics := none }

def pool2 : Array CpInfo := pool [(1, .methodref 2 3), (0, .class_ 4), (0, .nameAndType 5 6), (0, u "java/lang/Object"), (0, u "<init>"), (0, u "()V"), (0, .class_ 8), (0, u "java/lang/Record")] 13

def k2c0 : Code := { maxStack := 1, maxLocals := 1, code := jdk_30_method_1_code, exceptionTable := #[], attributes := #[] }
def k2m0 : Method := { name := "<init>", desc := "()V", sig := { parameters := [], returnType := none }, accessFlags := 4, code := some k2c0 }
/-- java/lang/Record -/
def k2 : Class := { plain "java/lang/Record" (some 0) with
  accessFlags := 1057
  interfaces := #[]
  cf := some (fileOf pool2 7 #[] #[{ accessFlags := 4, nameIndex := 5, descriptorIndex := 6, attributes := #[] }] 1057 2 #[] #[])
  fields := #[]
  methods := #[k2m0]
  instanceTypes := #[]
  staticTypes := #[]
  resolved := Array.replicate 22 none
  statics := none }

def pool3 : Array CpInfo := pool [(1, .methodref 2 3), (0, .class_ 4), (0, .nameAndType 5 6), (0, u "java/lang/Record"), (0, u "<init>"), (0, u "()V"), (0, .fieldref 8 9), (0, .class_ 10), (0, .nameAndType 11 12), (0, u "com/example/tenorbook/tenorbook/trail/TrailFilter"), (0, u "from"), (0, u "Ljava/time/LocalDate;"), (0, .fieldref 8 14), (0, .nameAndType 15 12), (0, u "until"), (0, .fieldref 8 17), (0, .nameAndType 18 19), (0, u "member"), (0, u "Ljava/lang/String;"), (0, .fieldref 8 21), (0, .nameAndType 22 23), (0, u "operation"), (0, u "Lcom/example/tenorbook/tenorbook/trail/Operation;"), (0, .fieldref 8 25), (0, .nameAndType 26 27), (0, u "billId"), (0, u "Ljava/lang/Long;"), (0, .fieldref 8 29), (0, .nameAndType 30 27), (0, u "batchId"), (0, .methodref 32 33), (0, .class_ 34), (0, .nameAndType 35 36), (0, u "java/lang/Long"), (0, u "valueOf"), (0, u "(J)Ljava/lang/Long;"), (0, .methodref 8 38), (0, .nameAndType 5 39), (0, u "(Ljava/time/LocalDate;Ljava/time/LocalDate;Ljava/lang/String;Lcom/example/tenorbook/tenorbook/trail/Operation;Ljava/lang/Long;Ljava/lang/Long;)V"), (15, u "ofBill"), (0, u "(JJ)Lcom/example/tenorbook/tenorbook/trail/TrailFilter;"), (0, u "()Ljava/lang/String;"), (2, u "()Ljava/time/LocalDate;"), (0, u "()Lcom/example/tenorbook/tenorbook/trail/Operation;"), (0, u "()Ljava/lang/Long;")] 25

def k3c0 : Code := { maxStack := 2, maxLocals := 7, code := prog_82_method_1_code, exceptionTable := #[], attributes := #[] }
def k3m0 : Method := { name := "<init>", desc := "(Ljava/time/LocalDate;Ljava/time/LocalDate;Ljava/lang/String;Lcom/example/tenorbook/tenorbook/trail/Operation;Ljava/lang/Long;Ljava/lang/Long;)V", sig := { parameters := [(.object "java/time/LocalDate"), (.object "java/time/LocalDate"), (.object "java/lang/String"), (.object "com/example/tenorbook/tenorbook/trail/Operation"), (.object "java/lang/Long"), (.object "java/lang/Long")], returnType := none }, accessFlags := 1, code := some k3c0 }
def k3c1 : Code := { maxStack := 9, maxLocals := 4, code := prog_82_method_2_code, exceptionTable := #[], attributes := #[] }
def k3m1 : Method := { name := "ofBill", desc := "(JJ)Lcom/example/tenorbook/tenorbook/trail/TrailFilter;", sig := { parameters := [.long, .long], returnType := some (.object "com/example/tenorbook/tenorbook/trail/TrailFilter") }, accessFlags := 9, code := some k3c1 }
def k3c2 : Code := { maxStack := 1, maxLocals := 1, code := prog_82_method_6_code, exceptionTable := #[], attributes := #[] }
def k3m2 : Method := { name := "from", desc := "()Ljava/time/LocalDate;", sig := { parameters := [], returnType := some (.object "java/time/LocalDate") }, accessFlags := 1, code := some k3c2 }
def k3c3 : Code := { maxStack := 1, maxLocals := 1, code := prog_82_method_7_code, exceptionTable := #[], attributes := #[] }
def k3m3 : Method := { name := "until", desc := "()Ljava/time/LocalDate;", sig := { parameters := [], returnType := some (.object "java/time/LocalDate") }, accessFlags := 1, code := some k3c3 }
def k3c4 : Code := { maxStack := 1, maxLocals := 1, code := prog_82_method_8_code, exceptionTable := #[], attributes := #[] }
def k3m4 : Method := { name := "member", desc := "()Ljava/lang/String;", sig := { parameters := [], returnType := some (.object "java/lang/String") }, accessFlags := 1, code := some k3c4 }
def k3c5 : Code := { maxStack := 1, maxLocals := 1, code := prog_82_method_9_code, exceptionTable := #[], attributes := #[] }
def k3m5 : Method := { name := "operation", desc := "()Lcom/example/tenorbook/tenorbook/trail/Operation;", sig := { parameters := [], returnType := some (.object "com/example/tenorbook/tenorbook/trail/Operation") }, accessFlags := 1, code := some k3c5 }
def k3c6 : Code := { maxStack := 1, maxLocals := 1, code := prog_82_method_10_code, exceptionTable := #[], attributes := #[] }
def k3m6 : Method := { name := "billId", desc := "()Ljava/lang/Long;", sig := { parameters := [], returnType := some (.object "java/lang/Long") }, accessFlags := 1, code := some k3c6 }
def k3c7 : Code := { maxStack := 1, maxLocals := 1, code := prog_82_method_11_code, exceptionTable := #[], attributes := #[] }
def k3m7 : Method := { name := "batchId", desc := "()Ljava/lang/Long;", sig := { parameters := [], returnType := some (.object "java/lang/Long") }, accessFlags := 1, code := some k3c7 }
/-- com/example/tenorbook/tenorbook/trail/TrailFilter -/
def k3 : Class := { plain "com/example/tenorbook/tenorbook/trail/TrailFilter" (some 2) with
  accessFlags := 49
  interfaces := #[]
  cf := some (fileOf pool3 8 #[] #[{ accessFlags := 1, nameIndex := 5, descriptorIndex := 39, attributes := #[] }, { accessFlags := 9, nameIndex := 55, descriptorIndex := 56, attributes := #[] }, { accessFlags := 1, nameIndex := 11, descriptorIndex := 60, attributes := #[] }, { accessFlags := 1, nameIndex := 15, descriptorIndex := 60, attributes := #[] }, { accessFlags := 1, nameIndex := 18, descriptorIndex := 57, attributes := #[] }, { accessFlags := 1, nameIndex := 22, descriptorIndex := 61, attributes := #[] }, { accessFlags := 1, nameIndex := 26, descriptorIndex := 62, attributes := #[] }, { accessFlags := 1, nameIndex := 30, descriptorIndex := 62, attributes := #[] }] 49 2 #[] #[{ accessFlags := 18, nameIndex := 11, descriptorIndex := 12, attributes := #[] }, { accessFlags := 18, nameIndex := 15, descriptorIndex := 12, attributes := #[] }, { accessFlags := 18, nameIndex := 18, descriptorIndex := 19, attributes := #[] }, { accessFlags := 18, nameIndex := 22, descriptorIndex := 23, attributes := #[] }, { accessFlags := 18, nameIndex := 26, descriptorIndex := 27, attributes := #[] }, { accessFlags := 18, nameIndex := 30, descriptorIndex := 27, attributes := #[] }])
  fields := #[{ name := "from", type := (.object "java/time/LocalDate"), accessFlags := 18, slot := 0, constantValue := 0 }, { name := "until", type := (.object "java/time/LocalDate"), accessFlags := 18, slot := 1, constantValue := 0 }, { name := "member", type := (.object "java/lang/String"), accessFlags := 18, slot := 2, constantValue := 0 }, { name := "operation", type := (.object "com/example/tenorbook/tenorbook/trail/Operation"), accessFlags := 18, slot := 3, constantValue := 0 }, { name := "billId", type := (.object "java/lang/Long"), accessFlags := 18, slot := 4, constantValue := 0 }, { name := "batchId", type := (.object "java/lang/Long"), accessFlags := 18, slot := 5, constantValue := 0 }]
  methods := #[k3m0, k3m1, k3m2, k3m3, k3m4, k3m5, k3m6, k3m7]
  instanceTypes := #[(.object "java/time/LocalDate"), (.object "java/time/LocalDate"), (.object "java/lang/String"), (.object "com/example/tenorbook/tenorbook/trail/Operation"), (.object "java/lang/Long"), (.object "java/lang/Long")]
  staticTypes := #[]
  resolved := Array.replicate 88 none
  statics := none }

def pool4 : Array CpInfo := pool [(1, .class_ 2), (0, u "java/io/Serializable"), (0, .class_ 4), (0, u "java/lang/Object")] 2

/-- java/io/Serializable -/
def k4 : Class := { plain "java/io/Serializable" (some 0) with
  accessFlags := 1537
  interfaces := #[]
  cf := some (fileOf pool4 1 #[] #[] 1537 3 #[] #[])
  fields := #[]
  methods := #[]
  instanceTypes := #[]
  staticTypes := #[]
  resolved := Array.replicate 7 none
  statics := none }

def pool5 : Array CpInfo := pool [(1, .methodref 2 3), (0, .class_ 4), (0, .nameAndType 5 6), (0, u "java/lang/Object"), (0, u "<init>"), (0, u "()V"), (1, .class_ 10), (1, u "java/lang/Number"), (2, .class_ 14), (0, u "java/io/Serializable"), (0, u "serialVersionUID"), (0, u "J")] 20

def k5c0 : Code := { maxStack := 1, maxLocals := 1, code := jdk_18_method_1_code, exceptionTable := #[], attributes := #[] }
def k5m0 : Method := { name := "<init>", desc := "()V", sig := { parameters := [], returnType := none }, accessFlags := 1, code := some k5c0 }
/-- java/lang/Number -/
def k5 : Class := { plain "java/lang/Number" (some 0) with
  accessFlags := 1057
  interfaces := #[4]
  cf := some (fileOf pool5 8 #[] #[{ accessFlags := 1, nameIndex := 5, descriptorIndex := 6, attributes := #[] }] 1057 2 #[13] #[{ accessFlags := 26, nameIndex := 15, descriptorIndex := 16, attributes := #[] }])
  fields := #[{ name := "serialVersionUID", type := .long, accessFlags := 26, slot := 0, constantValue := 0 }]
  methods := #[k5m0]
  instanceTypes := #[]
  staticTypes := #[.long]
  resolved := Array.replicate 37 none
  statics := none }

def pool6 : Array CpInfo := pool [(1, .class_ 2), (0, u "java/lang/Comparable"), (0, .class_ 4), (0, u "java/lang/Object")] 7

/-- java/lang/Comparable -/
def k6 : Class := { plain "java/lang/Comparable" (some 0) with
  accessFlags := 1537
  interfaces := #[]
  cf := some (fileOf pool6 1 #[] #[] 1537 3 #[] #[])
  fields := #[]
  methods := #[]
  instanceTypes := #[]
  staticTypes := #[]
  resolved := Array.replicate 12 none
  statics := none }

def pool7 : Array CpInfo := pool [(1, .class_ 2), (0, u "java/lang/constant/Constable"), (0, .class_ 4), (0, u "java/lang/Object")] 6

/-- java/lang/constant/Constable -/
def k7 : Class := { plain "java/lang/constant/Constable" (some 0) with
  accessFlags := 1537
  interfaces := #[]
  cf := some (fileOf pool7 1 #[] #[] 1537 3 #[] #[])
  fields := #[]
  methods := #[]
  instanceTypes := #[]
  staticTypes := #[]
  resolved := Array.replicate 11 none
  statics := none }

def pool8 : Array CpInfo := pool [(1, .class_ 2), (0, u "java/lang/constant/ConstantDesc"), (0, .class_ 4), (0, u "java/lang/Object")] 32

/-- java/lang/constant/ConstantDesc -/
def k8 : Class := { plain "java/lang/constant/ConstantDesc" (some 0) with
  accessFlags := 1537
  interfaces := #[]
  cf := some (fileOf pool8 1 #[] #[] 1537 3 #[] #[])
  fields := #[]
  methods := #[]
  instanceTypes := #[]
  staticTypes := #[]
  resolved := Array.replicate 37 none
  statics := none }

def pool9 : Array CpInfo := pool [(1, .class_ 2), (0, u "java/lang/Long"), (55, .nameAndType 59 60), (0, u "<init>"), (0, u "()V"), (24, u "valueOf"), (143, u "(J)Ljava/lang/Long;"), (0, .long 18446744073709551488), (1, .long 127), (1, .fieldref 235 236), (0, .class_ 237), (0, .nameAndType 238 239), (0, u "java/lang/Long$LongCache"), (0, u "cache"), (0, u "[Ljava/lang/Long;"), (0, .methodref 1 241), (0, .nameAndType 59 242), (0, u "(J)V"), (27, .methodref 271 58), (0, .class_ 272), (0, u "java/lang/Number"), (0, .fieldref 1 274), (0, .nameAndType 275 276), (0, u "value"), (0, u "J"), (5, u "longValue"), (0, u "()J"), (77, u "TYPE"), (0, u "Ljava/lang/Class;"), (0, .class_ 364), (0, u "java/lang/Comparable"), (0, .class_ 366), (0, u "java/lang/constant/Constable"), (0, .class_ 368), (0, u "java/lang/constant/ConstantDesc"), (0, u "MIN_VALUE"), (1, u "MAX_VALUE"), (4, u "SIZE"), (0, u "I"), (1, u "BYTES"), (1, u "serialVersionUID")] 142

def k9c0 : Code := { maxStack := 4, maxLocals := 3, code := jdk_35_method_24_code, exceptionTable := #[], attributes := #[] }
def k9m0 : Method := { name := "valueOf", desc := "(J)Ljava/lang/Long;", sig := { parameters := [.long], returnType := some (.object "java/lang/Long") }, accessFlags := 9, code := some k9c0 }
def k9c1 : Code := { maxStack := 3, maxLocals := 3, code := jdk_35_method_26_code, exceptionTable := #[], attributes := #[] }
def k9m1 : Method := { name := "<init>", desc := "(J)V", sig := { parameters := [.long], returnType := none }, accessFlags := 1, code := some k9c1 }
def k9c2 : Code := { maxStack := 2, maxLocals := 1, code := jdk_35_method_31_code, exceptionTable := #[], attributes := #[] }
def k9m2 : Method := { name := "longValue", desc := "()J", sig := { parameters := [], returnType := some .long }, accessFlags := 1, code := some k9c2 }
/-- java/lang/Long -/
def k9 : Class := { plain "java/lang/Long" (some 5) with
  accessFlags := 49
  interfaces := #[6, 7, 8]
  cf := some (fileOf pool9 1 #[.nestMembers #[235]] #[{ accessFlags := 9, nameIndex := 85, descriptorIndex := 229, attributes := #[] }, { accessFlags := 1, nameIndex := 59, descriptorIndex := 242, attributes := #[] }, { accessFlags := 1, nameIndex := 282, descriptorIndex := 283, attributes := #[] }] 49 271 #[363, 365, 367] #[{ accessFlags := 25, nameIndex := 369, descriptorIndex := 276, attributes := #[] }, { accessFlags := 25, nameIndex := 371, descriptorIndex := 276, attributes := #[] }, { accessFlags := 25, nameIndex := 361, descriptorIndex := 362, attributes := #[] }, { accessFlags := 18, nameIndex := 275, descriptorIndex := 276, attributes := #[] }, { accessFlags := 25, nameIndex := 376, descriptorIndex := 377, attributes := #[] }, { accessFlags := 25, nameIndex := 379, descriptorIndex := 377, attributes := #[] }, { accessFlags := 26, nameIndex := 381, descriptorIndex := 276, attributes := #[] }])
  fields := #[{ name := "MIN_VALUE", type := .long, accessFlags := 25, slot := 0, constantValue := 0 }, { name := "MAX_VALUE", type := .long, accessFlags := 25, slot := 1, constantValue := 0 }, { name := "TYPE", type := (.object "java/lang/Class"), accessFlags := 25, slot := 2, constantValue := 0 }, { name := "value", type := .long, accessFlags := 18, slot := 0, constantValue := 0 }, { name := "SIZE", type := .int, accessFlags := 25, slot := 3, constantValue := 0 }, { name := "BYTES", type := .int, accessFlags := 25, slot := 4, constantValue := 0 }, { name := "serialVersionUID", type := .long, accessFlags := 26, slot := 5, constantValue := 0 }]
  methods := #[k9m0, k9m1, k9m2]
  instanceTypes := #[.long]
  staticTypes := #[.long, .long, (.object "java/lang/Class"), .int, .int, .long]
  resolved := Array.replicate 524 none
  statics := none }

def pool10 : Array CpInfo := pool [(2, .class_ 4), (1, u "java/lang/Object"), (0, u "<init>"), (0, u "()V"), (0, .class_ 8), (0, u "java/lang/Long"), (7, .class_ 18), (1, u "java/lang/Long$LongCache"), (0, u "$assertionsDisabled"), (0, u "Z"), (8, u "archivedCache"), (0, u "[Ljava/lang/Long;"), (7, u "cache")] 24

def k10m0 : Method := { name := "<init>", desc := "()V", sig := { parameters := [], returnType := none }, accessFlags := 2, code := none }
/-- java/lang/Long$LongCache -/
def k10 : Class := { plain "java/lang/Long$LongCache" (some 0) with
  accessFlags := 48
  interfaces := #[]
  cf := some (fileOf pool10 16 #[.nestHost 7] #[{ accessFlags := 2, nameIndex := 5, descriptorIndex := 6, attributes := #[] }] 48 2 #[] #[{ accessFlags := 24, nameIndex := 38, descriptorIndex := 30, attributes := #[] }, { accessFlags := 8, nameIndex := 29, descriptorIndex := 30, attributes := #[] }, { accessFlags := 4120, nameIndex := 19, descriptorIndex := 20, attributes := #[] }])
  fields := #[{ name := "cache", type := (.array (.object "java/lang/Long")), accessFlags := 24, slot := 0, constantValue := 0 }, { name := "archivedCache", type := (.array (.object "java/lang/Long")), accessFlags := 8, slot := 1, constantValue := 0 }, { name := "$assertionsDisabled", type := .boolean, accessFlags := 4120, slot := 2, constantValue := 0 }]
  methods := #[k10m0]
  instanceTypes := #[]
  staticTypes := #[(.array (.object "java/lang/Long")), (.array (.object "java/lang/Long")), .boolean]
  resolved := Array.replicate 63 none
  statics := some 0 }

def pool11 : Array CpInfo := pool [(1, u "java/lang/Cloneable"), (0, .class_ 1), (0, u "java/lang/Object"), (0, .class_ 3)] 3

/-- java/lang/Cloneable -/
def k11 : Class := { plain "java/lang/Cloneable" (some 0) with
  accessFlags := 1537
  interfaces := #[]
  cf := some (fileOf pool11 2 #[] #[] 1537 4 #[] #[])
  fields := #[]
  methods := #[]
  instanceTypes := #[]
  staticTypes := #[]
  resolved := Array.replicate 8 none
  statics := none }

/-- the primitive byte -/
def k12 : Class := { plain "byte" none with kind := .primitive 'B', accessFlags := 0x411 }
/-- [B -/
def k13 : Class := { plain "[B" (some 0) with kind := .array 12 .byte, interfaces := #[11, 4], accessFlags := 1041 }

/-- the primitive int -/
def k14 : Class := { plain "int" none with kind := .primitive 'I', accessFlags := 0x411 }
/-- [I -/
def k15 : Class := { plain "[I" (some 0) with kind := .array 14 .int, interfaces := #[11, 4], accessFlags := 1041 }

/-- [Ljava/lang/Long; -/
def k16 : Class := { plain "[Ljava/lang/Long;" (some 0) with kind := .array 9 (.object "java/lang/Long"), interfaces := #[11, 4], accessFlags := 1041 }

def heap : Heap := #[{ cls := 10, slots := #[.ref 1, .null, .int 0], vm := .statics 10 },
  { cls := 16, slots := #[.ref 2, .ref 3, .ref 4, .ref 5, .ref 6, .ref 7, .ref 8, .ref 9, .ref 10, .ref 11, .ref 12, .ref 13, .ref 14, .ref 15, .ref 16, .ref 17, .ref 18, .ref 19, .ref 20, .ref 21, .ref 22, .ref 23, .ref 24, .ref 25, .ref 26, .ref 27, .ref 28, .ref 29, .ref 30, .ref 31, .ref 32, .ref 33, .ref 34, .ref 35, .ref 36, .ref 37, .ref 38, .ref 39, .ref 40, .ref 41, .ref 42, .ref 43, .ref 44, .ref 45, .ref 46, .ref 47, .ref 48, .ref 49, .ref 50, .ref 51, .ref 52, .ref 53, .ref 54, .ref 55, .ref 56, .ref 57, .ref 58, .ref 59, .ref 60, .ref 61, .ref 62, .ref 63, .ref 64, .ref 65, .ref 66, .ref 67, .ref 68, .ref 69, .ref 70, .ref 71, .ref 72, .ref 73, .ref 74, .ref 75, .ref 76, .ref 77, .ref 78, .ref 79, .ref 80, .ref 81, .ref 82, .ref 83, .ref 84, .ref 85, .ref 86, .ref 87, .ref 88, .ref 89, .ref 90, .ref 91, .ref 92, .ref 93, .ref 94, .ref 95, .ref 96, .ref 97, .ref 98, .ref 99, .ref 100, .ref 101, .ref 102, .ref 103, .ref 104, .ref 105, .ref 106, .ref 107, .ref 108, .ref 109, .ref 110, .ref 111, .ref 112, .ref 113, .ref 114, .ref 115, .ref 116, .ref 117, .ref 118, .ref 119, .ref 120, .ref 121, .ref 122, .ref 123, .ref 124, .ref 125, .ref 126, .ref 127, .ref 128, .ref 129, .ref 130, .ref 131, .ref 132, .ref 133, .ref 134, .ref 135, .ref 136, .ref 137, .ref 138, .ref 139, .ref 140, .ref 141, .ref 142, .ref 143, .ref 144, .ref 145, .ref 146, .ref 147, .ref 148, .ref 149, .ref 150, .ref 151, .ref 152, .ref 153, .ref 154, .ref 155, .ref 156, .ref 157, .ref 158, .ref 159, .ref 160, .ref 161, .ref 162, .ref 163, .ref 164, .ref 165, .ref 166, .ref 167, .ref 168, .ref 169, .ref 170, .ref 171, .ref 172, .ref 173, .ref 174, .ref 175, .ref 176, .ref 177, .ref 178, .ref 179, .ref 180, .ref 181, .ref 182, .ref 183, .ref 184, .ref 185, .ref 186, .ref 187, .ref 188, .ref 189, .ref 190, .ref 191, .ref 192, .ref 193, .ref 194, .ref 195, .ref 196, .ref 197, .ref 198, .ref 199, .ref 200, .ref 201, .ref 202, .ref 203, .ref 204, .ref 205, .ref 206, .ref 207, .ref 208, .ref 209, .ref 210, .ref 211, .ref 212, .ref 213, .ref 214, .ref 215, .ref 216, .ref 217, .ref 218, .ref 219, .ref 220, .ref 221, .ref 222, .ref 223, .ref 224, .ref 225, .ref 226, .ref 227, .ref 228, .ref 229, .ref 230, .ref 231, .ref 232, .ref 233, .ref 234, .ref 235, .ref 236, .ref 237, .ref 238, .ref 239, .ref 240, .ref 241, .ref 242, .ref 243, .ref 244, .ref 245, .ref 246, .ref 247, .ref 248, .ref 249, .ref 250, .ref 251, .ref 252, .ref 253, .ref 254, .ref 255, .ref 256, .ref 257], vm := .none },
  { cls := 9, slots := #[.long (-128)], vm := .none },
  { cls := 9, slots := #[.long (-127)], vm := .none },
  { cls := 9, slots := #[.long (-126)], vm := .none },
  { cls := 9, slots := #[.long (-125)], vm := .none },
  { cls := 9, slots := #[.long (-124)], vm := .none },
  { cls := 9, slots := #[.long (-123)], vm := .none },
  { cls := 9, slots := #[.long (-122)], vm := .none },
  { cls := 9, slots := #[.long (-121)], vm := .none },
  { cls := 9, slots := #[.long (-120)], vm := .none },
  { cls := 9, slots := #[.long (-119)], vm := .none },
  { cls := 9, slots := #[.long (-118)], vm := .none },
  { cls := 9, slots := #[.long (-117)], vm := .none },
  { cls := 9, slots := #[.long (-116)], vm := .none },
  { cls := 9, slots := #[.long (-115)], vm := .none },
  { cls := 9, slots := #[.long (-114)], vm := .none },
  { cls := 9, slots := #[.long (-113)], vm := .none },
  { cls := 9, slots := #[.long (-112)], vm := .none },
  { cls := 9, slots := #[.long (-111)], vm := .none },
  { cls := 9, slots := #[.long (-110)], vm := .none },
  { cls := 9, slots := #[.long (-109)], vm := .none },
  { cls := 9, slots := #[.long (-108)], vm := .none },
  { cls := 9, slots := #[.long (-107)], vm := .none },
  { cls := 9, slots := #[.long (-106)], vm := .none },
  { cls := 9, slots := #[.long (-105)], vm := .none },
  { cls := 9, slots := #[.long (-104)], vm := .none },
  { cls := 9, slots := #[.long (-103)], vm := .none },
  { cls := 9, slots := #[.long (-102)], vm := .none },
  { cls := 9, slots := #[.long (-101)], vm := .none },
  { cls := 9, slots := #[.long (-100)], vm := .none },
  { cls := 9, slots := #[.long (-99)], vm := .none },
  { cls := 9, slots := #[.long (-98)], vm := .none },
  { cls := 9, slots := #[.long (-97)], vm := .none },
  { cls := 9, slots := #[.long (-96)], vm := .none },
  { cls := 9, slots := #[.long (-95)], vm := .none },
  { cls := 9, slots := #[.long (-94)], vm := .none },
  { cls := 9, slots := #[.long (-93)], vm := .none },
  { cls := 9, slots := #[.long (-92)], vm := .none },
  { cls := 9, slots := #[.long (-91)], vm := .none },
  { cls := 9, slots := #[.long (-90)], vm := .none },
  { cls := 9, slots := #[.long (-89)], vm := .none },
  { cls := 9, slots := #[.long (-88)], vm := .none },
  { cls := 9, slots := #[.long (-87)], vm := .none },
  { cls := 9, slots := #[.long (-86)], vm := .none },
  { cls := 9, slots := #[.long (-85)], vm := .none },
  { cls := 9, slots := #[.long (-84)], vm := .none },
  { cls := 9, slots := #[.long (-83)], vm := .none },
  { cls := 9, slots := #[.long (-82)], vm := .none },
  { cls := 9, slots := #[.long (-81)], vm := .none },
  { cls := 9, slots := #[.long (-80)], vm := .none },
  { cls := 9, slots := #[.long (-79)], vm := .none },
  { cls := 9, slots := #[.long (-78)], vm := .none },
  { cls := 9, slots := #[.long (-77)], vm := .none },
  { cls := 9, slots := #[.long (-76)], vm := .none },
  { cls := 9, slots := #[.long (-75)], vm := .none },
  { cls := 9, slots := #[.long (-74)], vm := .none },
  { cls := 9, slots := #[.long (-73)], vm := .none },
  { cls := 9, slots := #[.long (-72)], vm := .none },
  { cls := 9, slots := #[.long (-71)], vm := .none },
  { cls := 9, slots := #[.long (-70)], vm := .none },
  { cls := 9, slots := #[.long (-69)], vm := .none },
  { cls := 9, slots := #[.long (-68)], vm := .none },
  { cls := 9, slots := #[.long (-67)], vm := .none },
  { cls := 9, slots := #[.long (-66)], vm := .none },
  { cls := 9, slots := #[.long (-65)], vm := .none },
  { cls := 9, slots := #[.long (-64)], vm := .none },
  { cls := 9, slots := #[.long (-63)], vm := .none },
  { cls := 9, slots := #[.long (-62)], vm := .none },
  { cls := 9, slots := #[.long (-61)], vm := .none },
  { cls := 9, slots := #[.long (-60)], vm := .none },
  { cls := 9, slots := #[.long (-59)], vm := .none },
  { cls := 9, slots := #[.long (-58)], vm := .none },
  { cls := 9, slots := #[.long (-57)], vm := .none },
  { cls := 9, slots := #[.long (-56)], vm := .none },
  { cls := 9, slots := #[.long (-55)], vm := .none },
  { cls := 9, slots := #[.long (-54)], vm := .none },
  { cls := 9, slots := #[.long (-53)], vm := .none },
  { cls := 9, slots := #[.long (-52)], vm := .none },
  { cls := 9, slots := #[.long (-51)], vm := .none },
  { cls := 9, slots := #[.long (-50)], vm := .none },
  { cls := 9, slots := #[.long (-49)], vm := .none },
  { cls := 9, slots := #[.long (-48)], vm := .none },
  { cls := 9, slots := #[.long (-47)], vm := .none },
  { cls := 9, slots := #[.long (-46)], vm := .none },
  { cls := 9, slots := #[.long (-45)], vm := .none },
  { cls := 9, slots := #[.long (-44)], vm := .none },
  { cls := 9, slots := #[.long (-43)], vm := .none },
  { cls := 9, slots := #[.long (-42)], vm := .none },
  { cls := 9, slots := #[.long (-41)], vm := .none },
  { cls := 9, slots := #[.long (-40)], vm := .none },
  { cls := 9, slots := #[.long (-39)], vm := .none },
  { cls := 9, slots := #[.long (-38)], vm := .none },
  { cls := 9, slots := #[.long (-37)], vm := .none },
  { cls := 9, slots := #[.long (-36)], vm := .none },
  { cls := 9, slots := #[.long (-35)], vm := .none },
  { cls := 9, slots := #[.long (-34)], vm := .none },
  { cls := 9, slots := #[.long (-33)], vm := .none },
  { cls := 9, slots := #[.long (-32)], vm := .none },
  { cls := 9, slots := #[.long (-31)], vm := .none },
  { cls := 9, slots := #[.long (-30)], vm := .none },
  { cls := 9, slots := #[.long (-29)], vm := .none },
  { cls := 9, slots := #[.long (-28)], vm := .none },
  { cls := 9, slots := #[.long (-27)], vm := .none },
  { cls := 9, slots := #[.long (-26)], vm := .none },
  { cls := 9, slots := #[.long (-25)], vm := .none },
  { cls := 9, slots := #[.long (-24)], vm := .none },
  { cls := 9, slots := #[.long (-23)], vm := .none },
  { cls := 9, slots := #[.long (-22)], vm := .none },
  { cls := 9, slots := #[.long (-21)], vm := .none },
  { cls := 9, slots := #[.long (-20)], vm := .none },
  { cls := 9, slots := #[.long (-19)], vm := .none },
  { cls := 9, slots := #[.long (-18)], vm := .none },
  { cls := 9, slots := #[.long (-17)], vm := .none },
  { cls := 9, slots := #[.long (-16)], vm := .none },
  { cls := 9, slots := #[.long (-15)], vm := .none },
  { cls := 9, slots := #[.long (-14)], vm := .none },
  { cls := 9, slots := #[.long (-13)], vm := .none },
  { cls := 9, slots := #[.long (-12)], vm := .none },
  { cls := 9, slots := #[.long (-11)], vm := .none },
  { cls := 9, slots := #[.long (-10)], vm := .none },
  { cls := 9, slots := #[.long (-9)], vm := .none },
  { cls := 9, slots := #[.long (-8)], vm := .none },
  { cls := 9, slots := #[.long (-7)], vm := .none },
  { cls := 9, slots := #[.long (-6)], vm := .none },
  { cls := 9, slots := #[.long (-5)], vm := .none },
  { cls := 9, slots := #[.long (-4)], vm := .none },
  { cls := 9, slots := #[.long (-3)], vm := .none },
  { cls := 9, slots := #[.long (-2)], vm := .none },
  { cls := 9, slots := #[.long (-1)], vm := .none },
  { cls := 9, slots := #[.long (0)], vm := .none },
  { cls := 9, slots := #[.long (1)], vm := .none },
  { cls := 9, slots := #[.long (2)], vm := .none },
  { cls := 9, slots := #[.long (3)], vm := .none },
  { cls := 9, slots := #[.long (4)], vm := .none },
  { cls := 9, slots := #[.long (5)], vm := .none },
  { cls := 9, slots := #[.long (6)], vm := .none },
  { cls := 9, slots := #[.long (7)], vm := .none },
  { cls := 9, slots := #[.long (8)], vm := .none },
  { cls := 9, slots := #[.long (9)], vm := .none },
  { cls := 9, slots := #[.long (10)], vm := .none },
  { cls := 9, slots := #[.long (11)], vm := .none },
  { cls := 9, slots := #[.long (12)], vm := .none },
  { cls := 9, slots := #[.long (13)], vm := .none },
  { cls := 9, slots := #[.long (14)], vm := .none },
  { cls := 9, slots := #[.long (15)], vm := .none },
  { cls := 9, slots := #[.long (16)], vm := .none },
  { cls := 9, slots := #[.long (17)], vm := .none },
  { cls := 9, slots := #[.long (18)], vm := .none },
  { cls := 9, slots := #[.long (19)], vm := .none },
  { cls := 9, slots := #[.long (20)], vm := .none },
  { cls := 9, slots := #[.long (21)], vm := .none },
  { cls := 9, slots := #[.long (22)], vm := .none },
  { cls := 9, slots := #[.long (23)], vm := .none },
  { cls := 9, slots := #[.long (24)], vm := .none },
  { cls := 9, slots := #[.long (25)], vm := .none },
  { cls := 9, slots := #[.long (26)], vm := .none },
  { cls := 9, slots := #[.long (27)], vm := .none },
  { cls := 9, slots := #[.long (28)], vm := .none },
  { cls := 9, slots := #[.long (29)], vm := .none },
  { cls := 9, slots := #[.long (30)], vm := .none },
  { cls := 9, slots := #[.long (31)], vm := .none },
  { cls := 9, slots := #[.long (32)], vm := .none },
  { cls := 9, slots := #[.long (33)], vm := .none },
  { cls := 9, slots := #[.long (34)], vm := .none },
  { cls := 9, slots := #[.long (35)], vm := .none },
  { cls := 9, slots := #[.long (36)], vm := .none },
  { cls := 9, slots := #[.long (37)], vm := .none },
  { cls := 9, slots := #[.long (38)], vm := .none },
  { cls := 9, slots := #[.long (39)], vm := .none },
  { cls := 9, slots := #[.long (40)], vm := .none },
  { cls := 9, slots := #[.long (41)], vm := .none },
  { cls := 9, slots := #[.long (42)], vm := .none },
  { cls := 9, slots := #[.long (43)], vm := .none },
  { cls := 9, slots := #[.long (44)], vm := .none },
  { cls := 9, slots := #[.long (45)], vm := .none },
  { cls := 9, slots := #[.long (46)], vm := .none },
  { cls := 9, slots := #[.long (47)], vm := .none },
  { cls := 9, slots := #[.long (48)], vm := .none },
  { cls := 9, slots := #[.long (49)], vm := .none },
  { cls := 9, slots := #[.long (50)], vm := .none },
  { cls := 9, slots := #[.long (51)], vm := .none },
  { cls := 9, slots := #[.long (52)], vm := .none },
  { cls := 9, slots := #[.long (53)], vm := .none },
  { cls := 9, slots := #[.long (54)], vm := .none },
  { cls := 9, slots := #[.long (55)], vm := .none },
  { cls := 9, slots := #[.long (56)], vm := .none },
  { cls := 9, slots := #[.long (57)], vm := .none },
  { cls := 9, slots := #[.long (58)], vm := .none },
  { cls := 9, slots := #[.long (59)], vm := .none },
  { cls := 9, slots := #[.long (60)], vm := .none },
  { cls := 9, slots := #[.long (61)], vm := .none },
  { cls := 9, slots := #[.long (62)], vm := .none },
  { cls := 9, slots := #[.long (63)], vm := .none },
  { cls := 9, slots := #[.long (64)], vm := .none },
  { cls := 9, slots := #[.long (65)], vm := .none },
  { cls := 9, slots := #[.long (66)], vm := .none },
  { cls := 9, slots := #[.long (67)], vm := .none },
  { cls := 9, slots := #[.long (68)], vm := .none },
  { cls := 9, slots := #[.long (69)], vm := .none },
  { cls := 9, slots := #[.long (70)], vm := .none },
  { cls := 9, slots := #[.long (71)], vm := .none },
  { cls := 9, slots := #[.long (72)], vm := .none },
  { cls := 9, slots := #[.long (73)], vm := .none },
  { cls := 9, slots := #[.long (74)], vm := .none },
  { cls := 9, slots := #[.long (75)], vm := .none },
  { cls := 9, slots := #[.long (76)], vm := .none },
  { cls := 9, slots := #[.long (77)], vm := .none },
  { cls := 9, slots := #[.long (78)], vm := .none },
  { cls := 9, slots := #[.long (79)], vm := .none },
  { cls := 9, slots := #[.long (80)], vm := .none },
  { cls := 9, slots := #[.long (81)], vm := .none },
  { cls := 9, slots := #[.long (82)], vm := .none },
  { cls := 9, slots := #[.long (83)], vm := .none },
  { cls := 9, slots := #[.long (84)], vm := .none },
  { cls := 9, slots := #[.long (85)], vm := .none },
  { cls := 9, slots := #[.long (86)], vm := .none },
  { cls := 9, slots := #[.long (87)], vm := .none },
  { cls := 9, slots := #[.long (88)], vm := .none },
  { cls := 9, slots := #[.long (89)], vm := .none },
  { cls := 9, slots := #[.long (90)], vm := .none },
  { cls := 9, slots := #[.long (91)], vm := .none },
  { cls := 9, slots := #[.long (92)], vm := .none },
  { cls := 9, slots := #[.long (93)], vm := .none },
  { cls := 9, slots := #[.long (94)], vm := .none },
  { cls := 9, slots := #[.long (95)], vm := .none },
  { cls := 9, slots := #[.long (96)], vm := .none },
  { cls := 9, slots := #[.long (97)], vm := .none },
  { cls := 9, slots := #[.long (98)], vm := .none },
  { cls := 9, slots := #[.long (99)], vm := .none },
  { cls := 9, slots := #[.long (100)], vm := .none },
  { cls := 9, slots := #[.long (101)], vm := .none },
  { cls := 9, slots := #[.long (102)], vm := .none },
  { cls := 9, slots := #[.long (103)], vm := .none },
  { cls := 9, slots := #[.long (104)], vm := .none },
  { cls := 9, slots := #[.long (105)], vm := .none },
  { cls := 9, slots := #[.long (106)], vm := .none },
  { cls := 9, slots := #[.long (107)], vm := .none },
  { cls := 9, slots := #[.long (108)], vm := .none },
  { cls := 9, slots := #[.long (109)], vm := .none },
  { cls := 9, slots := #[.long (110)], vm := .none },
  { cls := 9, slots := #[.long (111)], vm := .none },
  { cls := 9, slots := #[.long (112)], vm := .none },
  { cls := 9, slots := #[.long (113)], vm := .none },
  { cls := 9, slots := #[.long (114)], vm := .none },
  { cls := 9, slots := #[.long (115)], vm := .none },
  { cls := 9, slots := #[.long (116)], vm := .none },
  { cls := 9, slots := #[.long (117)], vm := .none },
  { cls := 9, slots := #[.long (118)], vm := .none },
  { cls := 9, slots := #[.long (119)], vm := .none },
  { cls := 9, slots := #[.long (120)], vm := .none },
  { cls := 9, slots := #[.long (121)], vm := .none },
  { cls := 9, slots := #[.long (122)], vm := .none },
  { cls := 9, slots := #[.long (123)], vm := .none },
  { cls := 9, slots := #[.long (124)], vm := .none },
  { cls := 9, slots := #[.long (125)], vm := .none },
  { cls := 9, slots := #[.long (126)], vm := .none },
  { cls := 9, slots := #[.long (127)], vm := .none }]
def classes : Array Class := #[k0, k1, k2, k3, k4, k5, k6, k7, k8, k9, k10, k11, k12, k13, k14, k15, k16]
def interned : List (Array UInt16 × Addr) := []
def slotsUsed : Nat := 515
def theMethod : MethodId := ⟨1, 1⟩
def args0 : Array Value := #[.long 3, .long 400]
def aboutOver (below : List Frame) : State where
  vm := { classes := classes, interned := interned.toArray }
  heap := heap
  slotsUsed := slotsUsed
  threads := #[{ frames := .invoking theMethod args0 :: below }]
def below0 : List Frame := [.native { method := ⟨0, 0⟩, args := #[] }]
def about1 : State := aboutOver below0
def p0 : Program := .bare "" "" ""
def e0 : Env := launch0.env 0 0 0
theorem w_frames : about1.frames = Frame.invoking theMethod args0 :: below0 := rfl
set_option maxRecDepth 65536 in
theorem w_args : argsFit about1.vm theMethod args0 = true := by decide +kernel
set_option maxRecDepth 65536 in
theorem w_heap : heapFits about1 = true := by decide +kernel
set_option maxRecDepth 65536 in
theorem w_runnable : about1.curStatus? = some .runnable := by decide +kernel
set_option maxRecDepth 65536 in
theorem w_alone : about1.alone = true := by decide +kernel
set_option maxRecDepth 65536 in
theorem w_named : about1.methodNamed? x = some theMethod := by decide +kernel
set_option maxRecDepth 65536 in
theorem w_hears : about1.hears theMethod below0 = true := by decide +kernel
set_option maxRecDepth 65536 in
theorem w_ripe : about1.ripe theMethod args0 below0 = true := by decide +kernel
theorem w_running : about1.status = .running := rfl
set_option maxRecDepth 65536 in
theorem w_room : about1.hasRoom e0.platform room_1 = true :=
  launch0.hasRoom_least _ room_1 (by decide +kernel) (by decide +kernel) (by decide +kernel) (by decide +kernel) (by decide +kernel) (by decide +kernel)
theorem allAtoms_all (ts : List Jvm.Cond) (a : Array Jvm.Value) (st : Jvm.State) : (allAtoms ts).before a st = ts.all (fun c => c.before a st) := by
  induction ts with
  | nil => rfl
  | cons c t ih =>
    show (Jvm.Cond.and c (allAtoms t)).before a st = _
    rw [Jvm.Cond.before_and, ih, List.all_cons]
def words1 : List Jvm.Cond := Jvm.Cond.code x code maxLocals ret :: tables_1
/-- a 'code' word, met by the world's own term for the bytes: nothing is compared byte by byte -/
theorem code_word {y : MethodName} {bytes : ByteArray} {mx : Nat} {rt : Option FieldType} {a : Array Value} {s : State} {m : MethodId} {meth : Method} {c : Code} (h1 : s.methodNamed? y = some m) (h2 : s.vm.method? m = some meth) (h3 : meth.code = some c) (h4 : c.code = bytes)
    (h5 : (c.maxLocals == mx && c.exceptionTable.isEmpty && decide (c.maxStack ≤ mostOperands) && decide (meth.sig.returnType = rt) && !meth.locks && decide (parseMethodDescriptor y.desc = some meth.sig)) = true) : (Jvm.Cond.code y bytes mx rt).before a s = true := by
  simp only [Bool.and_eq_true, beq_iff_eq, Bool.not_eq_true', decide_eq_true_eq] at h5
  obtain ⟨⟨⟨⟨⟨g1, g2⟩, g3⟩, g4⟩, g5⟩, g6⟩ := h5
  simp [Cond.before, Cond.holds, Cond.value, h1, h2, h3, h4, g1, g2, g3, g4, g5, g6]
def isCode : Jvm.Cond → Bool
  | .code _ _ _ _ => true
  | _ => false
theorem all_split {L : List Jvm.Cond} {P : Jvm.Cond → Bool} (h1 : L.all (fun c => isCode c || P c) = true) (h2 : ∀ c ∈ L.filter isCode, P c = true) : L.all P = true := by
  refine List.all_eq_true.mpr fun c hc => ?_
  have h := List.all_eq_true.mp h1 c hc
  rcases Bool.eq_false_or_eq_true (isCode c) with hi | hi
  · exact h2 c (List.mem_filter.mpr ⟨hc, hi⟩)
  · simpa [hi] using h
set_option maxRecDepth 65536 in
theorem w_c0 : (Jvm.Cond.code x code maxLocals ret).before args0 about1 = true := code_word (m := ⟨1, 1⟩) (meth := k1m1) (c := k1c1) (by decide +kernel) rfl rfl rfl (by decide +kernel)
set_option maxRecDepth 65536 in
theorem w_c1 : (Jvm.Cond.code ({ cls := "com/example/tenorbook/tenorbook/trail/TrailFilter", name := "ofBill", desc := "(JJ)Lcom/example/tenorbook/tenorbook/trail/TrailFilter;" } : Jvm.MethodName) prog_82_method_2_code (4 : Nat) (Option.some (Jvm.ClassFile.FieldType.object "com/example/tenorbook/tenorbook/trail/TrailFilter"))).before args0 about1 = true := code_word (m := ⟨3, 1⟩) (meth := k3m1) (c := k3c1) (by decide +kernel) rfl rfl rfl (by decide +kernel)
set_option maxRecDepth 65536 in
theorem w_c2 : (Jvm.Cond.code ({ cls := "java/lang/Long", name := "valueOf", desc := "(J)Ljava/lang/Long;" } : Jvm.MethodName) jdk_35_method_24_code (3 : Nat) (Option.some (Jvm.ClassFile.FieldType.object "java/lang/Long"))).before args0 about1 = true := code_word (m := ⟨9, 0⟩) (meth := k9m0) (c := k9c0) (by decide +kernel) rfl rfl rfl (by decide +kernel)
set_option maxRecDepth 65536 in
theorem w_c3 : (Jvm.Cond.code ({ cls := "com/example/tenorbook/tenorbook/trail/TrailFilter", name := "<init>", desc := "(Ljava/time/LocalDate;Ljava/time/LocalDate;Ljava/lang/String;Lcom/example/tenorbook/tenorbook/trail/Operation;Ljava/lang/Long;Ljava/lang/Long;)V" } : Jvm.MethodName) prog_82_method_1_code (7 : Nat) (Option.none : Option Jvm.ClassFile.FieldType)).before args0 about1 = true := code_word (m := ⟨3, 0⟩) (meth := k3m0) (c := k3c0) (by decide +kernel) rfl rfl rfl (by decide +kernel)
set_option maxRecDepth 65536 in
theorem w_c4 : (Jvm.Cond.code ({ cls := "java/lang/Record", name := "<init>", desc := "()V" } : Jvm.MethodName) jdk_30_method_1_code (1 : Nat) (Option.none : Option Jvm.ClassFile.FieldType)).before args0 about1 = true := code_word (m := ⟨2, 0⟩) (meth := k2m0) (c := k2c0) (by decide +kernel) rfl rfl rfl (by decide +kernel)
set_option maxRecDepth 65536 in
theorem w_c5 : (Jvm.Cond.code ({ cls := "java/lang/Object", name := "<init>", desc := "()V" } : Jvm.MethodName) object_method_1_code (1 : Nat) (Option.none : Option Jvm.ClassFile.FieldType)).before args0 about1 = true := code_word (m := ⟨0, 0⟩) (meth := k0m0) (c := k0c0) (by decide +kernel) rfl rfl rfl (by decide +kernel)
set_option maxRecDepth 65536 in
theorem w_c6 : (Jvm.Cond.code ({ cls := "com/example/tenorbook/tenorbook/trail/TrailFilter", name := "from", desc := "()Ljava/time/LocalDate;" } : Jvm.MethodName) prog_82_method_6_code (1 : Nat) (Option.some (Jvm.ClassFile.FieldType.object "java/time/LocalDate"))).before args0 about1 = true := code_word (m := ⟨3, 2⟩) (meth := k3m2) (c := k3c2) (by decide +kernel) rfl rfl rfl (by decide +kernel)
set_option maxRecDepth 65536 in
theorem w_c7 : (Jvm.Cond.code ({ cls := "com/example/tenorbook/tenorbook/trail/TrailFilter", name := "until", desc := "()Ljava/time/LocalDate;" } : Jvm.MethodName) prog_82_method_7_code (1 : Nat) (Option.some (Jvm.ClassFile.FieldType.object "java/time/LocalDate"))).before args0 about1 = true := code_word (m := ⟨3, 3⟩) (meth := k3m3) (c := k3c3) (by decide +kernel) rfl rfl rfl (by decide +kernel)
set_option maxRecDepth 65536 in
theorem w_c8 : (Jvm.Cond.code ({ cls := "com/example/tenorbook/tenorbook/trail/TrailFilter", name := "member", desc := "()Ljava/lang/String;" } : Jvm.MethodName) prog_82_method_8_code (1 : Nat) (Option.some (Jvm.ClassFile.FieldType.object "java/lang/String"))).before args0 about1 = true := code_word (m := ⟨3, 4⟩) (meth := k3m4) (c := k3c4) (by decide +kernel) rfl rfl rfl (by decide +kernel)
set_option maxRecDepth 65536 in
theorem w_c9 : (Jvm.Cond.code ({ cls := "com/example/tenorbook/tenorbook/trail/TrailFilter", name := "operation", desc := "()Lcom/example/tenorbook/tenorbook/trail/Operation;" } : Jvm.MethodName) prog_82_method_9_code (1 : Nat) (Option.some (Jvm.ClassFile.FieldType.object "com/example/tenorbook/tenorbook/trail/Operation"))).before args0 about1 = true := code_word (m := ⟨3, 5⟩) (meth := k3m5) (c := k3c5) (by decide +kernel) rfl rfl rfl (by decide +kernel)
set_option maxRecDepth 65536 in
theorem w_c10 : (Jvm.Cond.code ({ cls := "com/example/tenorbook/tenorbook/trail/TrailFilter", name := "billId", desc := "()Ljava/lang/Long;" } : Jvm.MethodName) prog_82_method_10_code (1 : Nat) (Option.some (Jvm.ClassFile.FieldType.object "java/lang/Long"))).before args0 about1 = true := code_word (m := ⟨3, 6⟩) (meth := k3m6) (c := k3c6) (by decide +kernel) rfl rfl rfl (by decide +kernel)
set_option maxRecDepth 65536 in
theorem w_c11 : (Jvm.Cond.code ({ cls := "com/example/tenorbook/tenorbook/trail/TrailFilter", name := "batchId", desc := "()Ljava/lang/Long;" } : Jvm.MethodName) prog_82_method_11_code (1 : Nat) (Option.some (Jvm.ClassFile.FieldType.object "java/lang/Long"))).before args0 about1 = true := code_word (m := ⟨3, 7⟩) (meth := k3m7) (c := k3c7) (by decide +kernel) rfl rfl rfl (by decide +kernel)
set_option maxRecDepth 65536 in
theorem w_c12 : (Jvm.Cond.code ({ cls := "java/lang/Long", name := "longValue", desc := "()J" } : Jvm.MethodName) jdk_35_method_31_code (1 : Nat) (Option.some Jvm.ClassFile.FieldType.long)).before args0 about1 = true := code_word (m := ⟨9, 2⟩) (meth := k9m2) (c := k9c2) (by decide +kernel) rfl rfl rfl (by decide +kernel)
set_option maxRecDepth 65536 in
theorem w_c13 : (Jvm.Cond.code ({ cls := "java/lang/Long", name := "<init>", desc := "(J)V" } : Jvm.MethodName) jdk_35_method_26_code (3 : Nat) (Option.none : Option Jvm.ClassFile.FieldType)).before args0 about1 = true := code_word (m := ⟨9, 1⟩) (meth := k9m1) (c := k9c1) (by decide +kernel) rfl rfl rfl (by decide +kernel)
set_option maxRecDepth 65536 in
theorem w_c14 : (Jvm.Cond.code ({ cls := "java/lang/Number", name := "<init>", desc := "()V" } : Jvm.MethodName) jdk_18_method_1_code (1 : Nat) (Option.none : Option Jvm.ClassFile.FieldType)).before args0 about1 = true := code_word (m := ⟨5, 0⟩) (meth := k5m0) (c := k5c0) (by decide +kernel) rfl rfl rfl (by decide +kernel)
def codes1 : List Jvm.Cond := [Jvm.Cond.code x code maxLocals ret, Jvm.Cond.code ({ cls := "com/example/tenorbook/tenorbook/trail/TrailFilter", name := "ofBill", desc := "(JJ)Lcom/example/tenorbook/tenorbook/trail/TrailFilter;" } : Jvm.MethodName) prog_82_method_2_code (4 : Nat) (Option.some (Jvm.ClassFile.FieldType.object "com/example/tenorbook/tenorbook/trail/TrailFilter")), Jvm.Cond.code ({ cls := "java/lang/Long", name := "valueOf", desc := "(J)Ljava/lang/Long;" } : Jvm.MethodName) jdk_35_method_24_code (3 : Nat) (Option.some (Jvm.ClassFile.FieldType.object "java/lang/Long")), Jvm.Cond.code ({ cls := "com/example/tenorbook/tenorbook/trail/TrailFilter", name := "<init>", desc := "(Ljava/time/LocalDate;Ljava/time/LocalDate;Ljava/lang/String;Lcom/example/tenorbook/tenorbook/trail/Operation;Ljava/lang/Long;Ljava/lang/Long;)V" } : Jvm.MethodName) prog_82_method_1_code (7 : Nat) (Option.none : Option Jvm.ClassFile.FieldType), Jvm.Cond.code ({ cls := "java/lang/Record", name := "<init>", desc := "()V" } : Jvm.MethodName) jdk_30_method_1_code (1 : Nat) (Option.none : Option Jvm.ClassFile.FieldType), Jvm.Cond.code ({ cls := "java/lang/Object", name := "<init>", desc := "()V" } : Jvm.MethodName) object_method_1_code (1 : Nat) (Option.none : Option Jvm.ClassFile.FieldType), Jvm.Cond.code ({ cls := "com/example/tenorbook/tenorbook/trail/TrailFilter", name := "from", desc := "()Ljava/time/LocalDate;" } : Jvm.MethodName) prog_82_method_6_code (1 : Nat) (Option.some (Jvm.ClassFile.FieldType.object "java/time/LocalDate")), Jvm.Cond.code ({ cls := "com/example/tenorbook/tenorbook/trail/TrailFilter", name := "until", desc := "()Ljava/time/LocalDate;" } : Jvm.MethodName) prog_82_method_7_code (1 : Nat) (Option.some (Jvm.ClassFile.FieldType.object "java/time/LocalDate")), Jvm.Cond.code ({ cls := "com/example/tenorbook/tenorbook/trail/TrailFilter", name := "member", desc := "()Ljava/lang/String;" } : Jvm.MethodName) prog_82_method_8_code (1 : Nat) (Option.some (Jvm.ClassFile.FieldType.object "java/lang/String")), Jvm.Cond.code ({ cls := "com/example/tenorbook/tenorbook/trail/TrailFilter", name := "operation", desc := "()Lcom/example/tenorbook/tenorbook/trail/Operation;" } : Jvm.MethodName) prog_82_method_9_code (1 : Nat) (Option.some (Jvm.ClassFile.FieldType.object "com/example/tenorbook/tenorbook/trail/Operation")), Jvm.Cond.code ({ cls := "com/example/tenorbook/tenorbook/trail/TrailFilter", name := "billId", desc := "()Ljava/lang/Long;" } : Jvm.MethodName) prog_82_method_10_code (1 : Nat) (Option.some (Jvm.ClassFile.FieldType.object "java/lang/Long")), Jvm.Cond.code ({ cls := "com/example/tenorbook/tenorbook/trail/TrailFilter", name := "batchId", desc := "()Ljava/lang/Long;" } : Jvm.MethodName) prog_82_method_11_code (1 : Nat) (Option.some (Jvm.ClassFile.FieldType.object "java/lang/Long")), Jvm.Cond.code ({ cls := "java/lang/Long", name := "longValue", desc := "()J" } : Jvm.MethodName) jdk_35_method_31_code (1 : Nat) (Option.some Jvm.ClassFile.FieldType.long), Jvm.Cond.code ({ cls := "java/lang/Long", name := "<init>", desc := "(J)V" } : Jvm.MethodName) jdk_35_method_26_code (3 : Nat) (Option.none : Option Jvm.ClassFile.FieldType), Jvm.Cond.code ({ cls := "java/lang/Number", name := "<init>", desc := "()V" } : Jvm.MethodName) jdk_18_method_1_code (1 : Nat) (Option.none : Option Jvm.ClassFile.FieldType)]
set_option maxRecDepth 65536 in
theorem codes_eq : words1.filter isCode = codes1 := rfl
theorem w_codes : ∀ c ∈ words1.filter isCode, c.before args0 about1 = true := by
  rw [codes_eq]
  intro c hc
  simp only [codes1, List.mem_cons, List.not_mem_nil, or_false] at hc
  rcases hc with rfl | rfl | rfl | rfl | rfl | rfl | rfl | rfl | rfl | rfl | rfl | rfl | rfl | rfl | rfl
  · exact w_c0
  · exact w_c1
  · exact w_c2
  · exact w_c3
  · exact w_c4
  · exact w_c5
  · exact w_c6
  · exact w_c7
  · exact w_c8
  · exact w_c9
  · exact w_c10
  · exact w_c11
  · exact w_c12
  · exact w_c13
  · exact w_c14
set_option maxRecDepth 65536 in
theorem w_t1 : (words1.take 24).all (fun c => isCode c || c.before args0 about1) = true := by decide +kernel
set_option maxRecDepth 65536 in
theorem w_t2 : ((words1.drop 24).take 24).all (fun c => isCode c || c.before args0 about1) = true := by decide +kernel
set_option maxRecDepth 65536 in
theorem w_t3 : (((words1.drop 24).drop 24).take 24).all (fun c => isCode c || c.before args0 about1) = true := by decide +kernel
set_option maxRecDepth 65536 in
theorem w_t4 : (((words1.drop 24).drop 24).drop 24).all (fun c => isCode c || c.before args0 about1) = true := by decide +kernel
theorem w_tables : (allAtoms (Jvm.Cond.code x code maxLocals ret :: tables_1)).before args0 about1 = true := by
  rw [allAtoms_all]
  show words1.all (fun c => c.before args0 about1) = true
  refine all_split ?_ w_codes
  rw [← List.take_append_drop 24 words1, List.all_append, w_t1, ← List.take_append_drop 24 (words1.drop 24), List.all_append, w_t2, ← List.take_append_drop 24 ((words1.drop 24).drop 24), List.all_append, w_t3, w_t4]
  rfl
set_option maxRecDepth 65536 in
theorem w_rest : rest_1_c.before args0 about1 = true := by decide +kernel
set_option maxRecDepth 65536 in
theorem w_case : (Jvm.Cond.and given_1 narrow_1).before args0 about1 = true := by decide +kernel
theorem w_applies : (headSpec (Jvm.Cond.code x code maxLocals ret :: tables_1) room_1).applies x e0.platform about1 = true :=
  (Spec.applies_iff w_frames).mpr ⟨w_running, w_runnable, w_alone, w_named, w_hears, w_ripe, w_room, w_tables⟩
theorem atStart : AtStart classFile x code maxLocals ret World_1 tables_1 room_1 Calls_1 rest_1 Pre_1 launch0 p0 e0 about1 theMethod args0 below0 :=
  ⟨lists_1, trivial, launch0.admits_env _ _ _, launch0.least_env, fairChoices_fair.cas, fairChoices_fair.clock, w_frames, w_args, w_heap, w_applies, trivial, w_rest, w_case⟩
end start1
theorem witness_1 : WitnessClaimed_1 := ⟨start1.p0, start1.e0, start1.about1, start1.theMethod, start1.args0, start1.below0, start1.atStart⟩
end Jvm.Pilot.@@N@@
