import JvmDerived
import JvmDerived.Pilot.@@N@@Statement
import JvmDerived.Pilot.@@N@@Code
set_option linter.unusedVariables false
set_option linter.unusedSimpArgs false
namespace Jvm.Pilot.@@N@@
open Jvm Jvm.ClassFile Sem Op Lib Jvm.Free Jvm.Stand Jvm.LawKit Jvm.RoadKit Bundle Jvm.Pilot.@@N@@.Jvm.D
/-! own_Ends: from here the run comes to its return, and what it leaves is as Qf says -/
def own_Ends (p : Program) (e : Env) (below : List Frame) (s : State) (Qf : Option Value → Heap → List Loc → Prop) (ce sl : Nat) (W : State) : Prop :=
  ∃ U o, Steps p.tables e below W U ∧ U.status = .running ∧ Ended U below o ∧ ∃ v L, o = .returned v ∧ Qf v U.heap L ∧ FrameEnd s o U L ce sl
section Own
variable {p : Program} {l : Launch} {e : Env} {R : Room} {s : State} {m : MethodId} {args : Array Value} {below : List Frame} {meth : Method} {c : Code} {T : State} {locs : List Loc} {cells slots : Nat} {Qf : Option Value → Heap → List Loc → Prop} {ce sl : Nat} {W0 W1 : State}
theorem own_go (h : ∀ t, Steps p.tables e below W1 t → Steps p.tables e below W0 t) (k : own_Ends p e below s Qf ce sl W1) : own_Ends p e below s Qf ce sl W0 := by
  obtain ⟨U, o, h1, h2⟩ := k
  exact ⟨U, o, h _ h1, h2⟩
theorem own_tr (h : Steps p.tables e below W0 W1) (k : own_Ends p e below s Qf ce sl W1) : own_Ends p e below s Qf ce sl W0 := own_go (fun t k => h.trans k) k
theorem own_st {t : State} (h : ∀ t, Steps p.tables e below W1 t → Steps p.tables e below W0 t) (k : Steps p.tables e below W1 t) : Steps p.tables e below W0 t := h t k
theorem own_done (X : Stand p l e R s m args below meth c T locs cells slots) {v : Option Value} (hv : meth.sig.returnType = none → v = none) (hlk : meth.locks = false) (hc : cells ≤ ce) (hs : slots ≤ sl) (hQ : Qf v T.heap locs)
    (h : ∀ fs, (∀ (f : JFrame) (acts : List Action), f.method = m → f.locked = none → f.entered = [] → (doReturn e (T.setTop f) acts v).1 = T.setFrames fs) → Steps p.tables e below W0 (T.setFrames fs)) : own_Ends p e below s Qf ce sl W0 := by
  obtain ⟨fs, hr, hrun, hended, hW, hsame⟩ := X.leave (v := v) hv hlk
  exact ⟨_, _, h fs hr, hrun, hended, _, _, rfl, hQ, ⟨_, rfl⟩, hW, hsame.mono hc hs⟩
theorem own_some {t : FieldType} {v : Option Value} (hret : meth.sig.returnType = some t) : meth.sig.returnType = none → v = none := fun h => by rw [hret] at h; cases h
theorem own_retI (X : Stand p l e R s m args below meth c T locs cells slots) (hx : p.tables.exec = Jvm.exec) {pc : Nat} {Ls : Array Slot} {z : Int32} {rest : List Value} (hret : meth.sig.returnType = some .int) (hd : decode c.code pc = .ok (.ireturn, 1)) (hlk : meth.locks = false) (hc : cells ≤ ce) (hs : slots ≤ sl) (hQ : Qf (some (.int z)) T.heap locs) :
    own_Ends p e below s Qf ce sl (T.setTop (mkF m pc Ls (.int z :: rest))) :=
  own_done X (own_some hret) hlk hc hs hQ fun fs hr => retOut X hx hret rfl (Or.inl ⟨rfl, Or.inl rfl, _, rfl⟩) hd hr
theorem own_retN (X : Stand p l e R s m args below meth c T locs cells slots) (hx : p.tables.exec = Jvm.exec) {pc : Nat} {Ls : Array Slot} {z : Int32} {t : FieldType} {rest : List Value} (hret : meth.sig.returnType = some t) (ht : t = .boolean ∨ t = .byte ∨ t = .char ∨ t = .short) (hd : decode c.code pc = .ok (.ireturn, 1)) (hlk : meth.locks = false) (hc : cells ≤ ce) (hs : slots ≤ sl) (hQ : Qf (some (.int (nar t z))) T.heap locs) :
    own_Ends p e below s Qf ce sl (T.setTop (mkF m pc Ls (.int z :: rest))) :=
  own_done X (own_some hret) hlk hc hs hQ fun fs hr => retN X hx hret ht hd hr
theorem own_retJ (X : Stand p l e R s m args below meth c T locs cells slots) (hx : p.tables.exec = Jvm.exec) {pc : Nat} {Ls : Array Slot} {z : Int64} {rest : List Value} (hret : meth.sig.returnType = some .long) (hd : decode c.code pc = .ok (.lreturn, 1)) (hlk : meth.locks = false) (hc : cells ≤ ce) (hs : slots ≤ sl) (hQ : Qf (some (.long z)) T.heap locs) :
    own_Ends p e below s Qf ce sl (T.setTop (mkF m pc Ls (.long z :: rest))) :=
  own_done X (own_some hret) hlk hc hs hQ fun fs hr => retOut X hx hret rfl (Or.inr (Or.inl ⟨rfl, rfl, _, rfl⟩)) hd hr
theorem own_retR (X : Stand p l e R s m args below meth c T locs cells slots) (hx : p.tables.exec = Jvm.exec) {pc : Nat} {Ls : Array Slot} {w : Value} {t : FieldType} {rest : List Value} (hret : meth.sig.returnType = some t) (ht : t.isReference = true) (hw : w.isRef = true) (hd : decode c.code pc = .ok (.areturn, 1)) (hlk : meth.locks = false) (hc : cells ≤ ce) (hs : slots ≤ sl) (hQ : Qf (some w) T.heap locs) :
    own_Ends p e below s Qf ce sl (T.setTop (mkF m pc Ls (w :: rest))) :=
  own_done X (own_some hret) hlk hc hs hQ fun fs hr => retOut X hx hret (by cases t <;> first | rfl | (simp [FieldType.isReference] at ht)) (Or.inr (Or.inr (Or.inr (Or.inr ⟨rfl, ht, hw⟩)))) hd hr
theorem own_retV (X : Stand p l e R s m args below meth c T locs cells slots) (hx : p.tables.exec = Jvm.exec) {pc : Nat} {Ls : Array Slot} (hret : meth.sig.returnType = none) (hd : decode c.code pc = .ok (.return_, 1)) (hlk : meth.locks = false) (hc : cells ≤ ce) (hs : slots ≤ sl) (hQ : Qf none T.heap locs) :
    own_Ends p e below s Qf ce sl (T.setTop (mkF m pc Ls [])) :=
  own_done X (fun _ => rfl) hlk hc hs hQ fun fs hr => X.returnOut hx hret hd hr
def own_b2i (P : Prop) [Decidable P] : Int32 := if P then 1 else 0
theorem own_b1 {P : Prop} [Decidable P] (h : P) : own_b2i P = 1 := if_pos h
theorem own_b0 {P : Prop} [Decidable P] (h : ¬ P) : own_b2i P = 0 := if_neg h
end Own
def own_Q2 (h0 : Heap) (n0 : Nat) (v : Option Value) (h : Heap) (L : List Loc) : Prop := v = none ∧ Fr n0 L ∧ h = h0
def own_Q1 (Z : State) (a1 : Addr) (p1 : Int32) (q1 : Int64) (p2 : Int32) (h0 : Heap) (n0 : Nat) (v : Option Value) (h : Heap) (L : List Loc) : Prop := v = none ∧ Fr n0 L ∧ Keep h0 h [a1] ∧ Exa Z h a1 "com/example/tenorbook/tenorbook/book/BookPage" ∧ Fld Z h a1 "com/example/tenorbook/tenorbook/book/BookPage" "backwards" "Z" (.int (nar .boolean p1)) ∧ Fld Z h a1 "com/example/tenorbook/tenorbook/book/BookPage" "bound" "J" (.long q1) ∧ Fld Z h a1 "com/example/tenorbook/tenorbook/book/BookPage" "size" "I" (.int p2)
def own_Q4 (Z : State) (q1 : Int64) (p2 : Int32) (h0 : Heap) (n0 : Nat) (v : Option Value) (h : Heap) (L : List Loc) : Prop := ∃ b : Addr, v = some (.ref b) ∧ Fr n0 L ∧ Keep h0 h [] ∧ h0.size ≤ b ∧ Exa Z h b "com/example/tenorbook/tenorbook/book/BookPage" ∧ Fld Z h b "com/example/tenorbook/tenorbook/book/BookPage" "backwards" "Z" (.int 0) ∧ Fld Z h b "com/example/tenorbook/tenorbook/book/BookPage" "bound" "J" (.long (q1 - 1)) ∧ Fld Z h b "com/example/tenorbook/tenorbook/book/BookPage" "size" "I" (.int p2)
def own_Q0 (n0 : Nat) (v : Option Value) (h : Heap) (L : List Loc) : Prop := v = some (.int 1) ∧ Fr n0 L
theorem own_back (x : Int64) : lcmpW (x - 1 + 1) x = 0 := (lw_eq _ _).mpr (by
  rw [← Int64.toInt_inj]
  have a1 := c_lsub x 1
  have a2 := c_ladd (x - 1) 1
  have r0 := rng64 x
  have r1 := rng64 (x - 1)
  have r2 := rng64 (x - 1 + 1)
  have e1 : (1 : Int64).toInt = 1 := rfl
  rw [e1] at *
  omega)
theorem own_pn_java_lang_Record : plainName "java/lang/Record" = true := by first | (simp [plainName, overriddenIn]; done) | decide +kernel
theorem d2_0 : decode jdk_30_method_1_code 0 = .ok (.aload_n 0, 1) := by decide +kernel
theorem d2_1 : decode jdk_30_method_1_code 1 = .ok (.invokespecial 1, 3) := by decide +kernel
theorem d2_4 : decode jdk_30_method_1_code 4 = .ok (.return_, 1) := by decide +kernel
theorem ef_rm2 (m : MethodId) (x0 : Addr)  : entryFrame m #[(.ref x0)] 1 = mkF m 0 #[.val (.ref x0)] [] := by first | (simp [entryFrame, mkF, argsToLocals, Value.category]; done) | rfl
set_option maxRecDepth 65536 in
set_option maxHeartbeats 40000000 in
theorem rm2 (l : Launch) (Z : State) (a0 : Array Value) (hw : ∀ d ∈ tables_1, d.before a0 Z = true) (ws : List Jvm.Cond) (a1 : Addr) (h0 : Heap) (n0 : Nat) (Z0 : n0 ≤ h0.size)  :
    MetFree l (⟨"java/lang/Record", "<init>", "()V"⟩ : MethodName) (head1 (Jvm.Cond.code (⟨"java/lang/Record", "<init>", "()V"⟩ : MethodName) jdk_30_method_1_code 1 none :: ws) ({ frames := 1, cells := 0, slots := 0, locals := 12 } : Room)) (fun a U => a = #[(.ref a1)] ∧ Z.Warmed39 U.vm ∧ U.heap = h0) (fun _ _ _ _ _ => True) (fun _ U o U' => ∃ v L, o = .returned v ∧ own_Q2 h0 n0 v U'.heap L ∧ FrameEnd U o U' L ({ frames := 1, cells := 0, slots := 0, locals := 12 } : Room).cells ({ frames := 1, cells := 0, slots := 0, locals := 12 } : Room).slots) := by
  refine MetFree.of_bodySF (plainFor_of_name own_pn_java_lang_Record) hisR ?_
  intro p e s m args below meth c s₁ Bd hml0 hP hK
  obtain ⟨rfl, hZ, hh⟩ := hP
  have hx := Bd.exec
  have hby := Bd.bytes
  have hlk := BodyLoose.notSynchronized Bd
  have hml : c.maxLocals = 1 := hml0
  have hown : s.vm.findClass "java/lang/Record" = some m.cls := findClass_of_methodNamed Bd.named
  have hnm := (name_of_methodNamed Bd.named Bd.method).1
  have X0 : Stand p l e ({ frames := 1, cells := 0, slots := 0, locals := 12 } : Room) s m #[(.ref a1)] below meth c s₁ [] 0 0 := Stand.of_body Bd
  have e0 : s₁.heap = h0 := by rw [← hh, Bd.state]; rfl
  have N0 := Fr.nil n0
  show own_Ends p e below s (own_Q2 h0 n0) 0 0 (s₁.setTop (entryFrame m #[(.ref a1)] 1))
  refine own_go (W1 := s₁.setTop (mkF m 0 #[.val (.ref a1)] [])) (fun t k => castTop (ef_rm2 m a1 ) k) ?_
  refine own_go (W1 := s₁.setTop (mkF m 1 #[.val (.ref a1)] [(.ref a1)])) (fun t k => XS.aloadN X0.here hx rfl (hb hby d2_0) rfl rfl  k) ?_
  obtain ⟨T1, X1, e1, st1⟩ := initO X0 hx hZ hown (hw _ (List.mem_of_getElem? (i := 11) rfl)) (hw _ (List.mem_of_getElem? (i := 12) rfl)) (hw _ (List.mem_of_getElem? (i := 13) rfl)) e0 (g := (mkF m 1 #[.val (.ref a1)] [(.ref a1)])) rfl (by rw [hml]; rfl) rfl (hb hby d2_1) (by decide) (W := 0) (by show 2 * 0 + _ ≤ _; exact Nat.le_of_eq rfl) (by decide)
  refine own_go (W1 := T1.setTop (mkF m 4 #[.val (.ref a1)] [])) (st1) ?_
  exact own_retV X1 hx Bd.returns (hb hby d2_4) hlk (by decide) (by decide) ⟨rfl, N0, e1⟩
theorem own_pn_com_example_tenorbook_tenorbook_book_BookPage : plainName "com/example/tenorbook/tenorbook/book/BookPage" = true := by first | (simp [plainName, overriddenIn]; done) | decide +kernel
theorem d1_0 : decode prog_18_method_1_code 0 = .ok (.aload_n 0, 1) := by decide +kernel
theorem d1_1 : decode prog_18_method_1_code 1 = .ok (.invokespecial 3, 3) := by decide +kernel
theorem own_pd1 : parseMethodDescriptor "()V" = some ⟨[], none⟩ := by decide +kernel
theorem d1_4 : decode prog_18_method_1_code 4 = .ok (.aload_n 0, 1) := by decide +kernel
theorem d1_5 : decode prog_18_method_1_code 5 = .ok (.iload_n 1, 1) := by decide +kernel
theorem d1_6 : decode prog_18_method_1_code 6 = .ok (.putfield 9, 3) := by decide +kernel
theorem d1_9 : decode prog_18_method_1_code 9 = .ok (.aload_n 0, 1) := by decide +kernel
theorem d1_10 : decode prog_18_method_1_code 10 = .ok (.lload_n 2, 1) := by decide +kernel
theorem d1_11 : decode prog_18_method_1_code 11 = .ok (.putfield 15, 3) := by decide +kernel
theorem d1_14 : decode prog_18_method_1_code 14 = .ok (.aload_n 0, 1) := by decide +kernel
theorem d1_15 : decode prog_18_method_1_code 15 = .ok (.iload 4, 2) := by decide +kernel
theorem d1_17 : decode prog_18_method_1_code 17 = .ok (.putfield 19, 3) := by decide +kernel
theorem d1_20 : decode prog_18_method_1_code 20 = .ok (.return_, 1) := by decide +kernel
theorem ef_rm1 (m : MethodId) (x0 : Addr) (x1 : Int32) (x2 : Int64) (x3 : Int32)  : entryFrame m #[(.ref x0), (.int x1), (.long x2), (.int x3)] 5 = mkF m 0 #[.val (.ref x0), .val (.int x1), .val (.long x2), .second, .val (.int x3)] [] := by first | (simp [entryFrame, mkF, argsToLocals, Value.category]; done) | rfl
set_option maxRecDepth 65536 in
set_option maxHeartbeats 40000000 in
theorem rm1 (l : Launch) (Z : State) (a0 : Array Value) (hw : ∀ d ∈ tables_1, d.before a0 Z = true) (ws : List Jvm.Cond) (a1 : Addr) (p1 : Int32) (q1 : Int64) (p2 : Int32) (h0 : Heap) (n0 : Nat) (Z0 : n0 ≤ h0.size) (E_a1 : Exa Z h0 a1 "com/example/tenorbook/tenorbook/book/BookPage") (F_backwards_a1 : Fld Z h0 a1 "com/example/tenorbook/tenorbook/book/BookPage" "backwards" "Z" (.int 0)) (F_bound_a1 : Fld Z h0 a1 "com/example/tenorbook/tenorbook/book/BookPage" "bound" "J" (.long 0)) (F_size_a1 : Fld Z h0 a1 "com/example/tenorbook/tenorbook/book/BookPage" "size" "I" (.int 0)) (ge_a1 : n0 ≤ a1) :
    MetFree l (⟨"com/example/tenorbook/tenorbook/book/BookPage", "<init>", "(ZJI)V"⟩ : MethodName) (head1 (Jvm.Cond.code (⟨"com/example/tenorbook/tenorbook/book/BookPage", "<init>", "(ZJI)V"⟩ : MethodName) prog_18_method_1_code 5 none :: ws) ({ frames := 2, cells := 0, slots := 0, locals := 24 } : Room)) (fun a U => a = #[(.ref a1), (.int p1), (.long q1), (.int p2)] ∧ Z.Warmed39 U.vm ∧ U.heap = h0) (fun _ _ _ _ _ => True) (fun _ U o U' => ∃ v L, o = .returned v ∧ own_Q1 Z a1 p1 q1 p2 h0 n0 v U'.heap L ∧ FrameEnd U o U' L ({ frames := 2, cells := 0, slots := 0, locals := 24 } : Room).cells ({ frames := 2, cells := 0, slots := 0, locals := 24 } : Room).slots) := by
  refine MetFree.of_bodySF (plainFor_of_name own_pn_com_example_tenorbook_tenorbook_book_BookPage) hisR ?_
  intro p e s m args below meth c s₁ Bd hml0 hP hK
  obtain ⟨rfl, hZ, hh⟩ := hP
  have hx := Bd.exec
  have hby := Bd.bytes
  have hlk := BodyLoose.notSynchronized Bd
  have hml : c.maxLocals = 5 := hml0
  have hown : s.vm.findClass "com/example/tenorbook/tenorbook/book/BookPage" = some m.cls := findClass_of_methodNamed Bd.named
  have hnm := (name_of_methodNamed Bd.named Bd.method).1
  have X0 : Stand p l e ({ frames := 2, cells := 0, slots := 0, locals := 24 } : Room) s m #[(.ref a1), (.int p1), (.long q1), (.int p2)] below meth c s₁ [] 0 0 := Stand.of_body Bd
  have e0 : s₁.heap = h0 := by rw [← hh, Bd.state]; rfl
  have N0 := Fr.nil n0
  show own_Ends p e below s (own_Q1 Z a1 p1 q1 p2 h0 n0) 0 0 (s₁.setTop (entryFrame m #[(.ref a1), (.int p1), (.long q1), (.int p2)] 5))
  refine own_go (W1 := s₁.setTop (mkF m 0 #[.val (.ref a1), .val (.int p1), .val (.long q1), .second, .val (.int p2)] [])) (fun t k => castTop (ef_rm1 m a1 p1 q1 p2 ) k) ?_
  have K0 := Keep.refl h0 [a1]
  refine own_go (W1 := s₁.setTop (mkF m 1 #[.val (.ref a1), .val (.int p1), .val (.long q1), .second, .val (.int p2)] [(.ref a1)])) (fun t k => XS.aloadN X0.here hx rfl (hb hby d1_0) rfl rfl  k) ?_
  obtain ⟨_, _, ⟨T1, L1, k1, n1⟩, -, X1, ⟨Lc1, hQ1, l1, y1, z1⟩, st1⟩ := X0.specialBack hx (y := (⟨"java/lang/Record", "<init>", "()V"⟩ : MethodName)) rfl hown (mvT hZ (hw _ (List.mem_of_getElem? (i := 6) rfl))) (mvT hZ (hw _ (List.mem_of_getElem? (i := 7) rfl))) (mvT hZ (hw _ (List.mem_of_getElem? (i := 10) rfl))) (by decide) (backOf (W := 0) (rm2 l Z a0 hw [] a1 h0 n0 Z0) hZ (hw _ (List.mem_of_getElem? (i := 10) rfl)) (hw _ (List.mem_of_getElem? (i := 9) rfl)) (by decide) (by decide)) (g := (mkF m 1 #[.val (.ref a1), .val (.int p1), .val (.long q1), .second, .val (.int p2)] [(.ref a1)])) rfl (by rw [hml]; rfl) (Steps.refl _) (a := a1) (argsL := []) (rest := []) (lenOf own_pd1 rfl) rfl (by show 2 * 0 + _ ≤ _; exact Nat.le_of_eq rfl) (hb hby d1_1) (fun _ _ => ⟨rfl, e0, (by decide : 0 + 0 ≤ _), (by decide : 0 + 0 ≤ _)⟩)
  dsimp only [Pt.U, Pt.locs, Pt.cells, Pt.slots] at X1 l1 y1 z1 st1 hQ1
  subst l1 y1 z1
  obtain ⟨rfl, Nq1, eh1⟩ := hQ1
  have N1 := Fr.app N0 Nq1
  refine own_tr (W1 := T1.setTop (mkF m 4 #[.val (.ref a1), .val (.int p1), .val (.long q1), .second, .val (.int p2)] [])) st1 ?_
  refine own_go (W1 := T1.setTop (mkF m 5 #[.val (.ref a1), .val (.int p1), .val (.long q1), .second, .val (.int p2)] [(.ref a1)])) (fun t k => XS.aloadN X1.here hx rfl (hb hby d1_4) rfl rfl  k) ?_
  refine own_go (W1 := T1.setTop (mkF m 6 #[.val (.ref a1), .val (.int p1), .val (.long q1), .second, .val (.int p2)] [(.int p1), (.ref a1)])) (fun t k => XS.iloadN X1.here hx rfl (hb hby d1_5) rfl  k) ?_
  obtain ⟨T2, h2, X2, e2, W2, st2⟩ := putFN X1 hx hZ hown (hw _ (List.mem_of_getElem? (i := 14) rfl)) Via.refl eh1 F_backwards_a1 E_a1 (Or.inr ⟨(hw _ (List.mem_of_getElem? (i := 15) rfl)), rfl, hnm⟩) (hw _ (List.mem_of_getElem? (i := 1) rfl)) (ty := .boolean) (v' := (.int (nar .boolean p1))) (by decide) rfl (fits_nar_bool _) (g := (mkF m 6 #[.val (.ref a1), .val (.int p1), .val (.long q1), .second, .val (.int p2)] [(.int p1), (.ref a1)])) rfl rfl (hb hby d1_6)
  have E_a1 := E_a1.wr W2
  have F_backwards_a1 := F_backwards_a1.same W2
  have F_bound_a1 := F_bound_a1.other W2 (Or.inr (slot_ne (a0 := a0) (Or.inr (hw _ (List.mem_of_getElem? (i := 17) rfl))) (Or.inr (hw _ (List.mem_of_getElem? (i := 15) rfl))) (by decide) (t := .long) (t' := .boolean) (by decide) (by decide)))
  have F_size_a1 := F_size_a1.other W2 (Or.inr (slot_ne (a0 := a0) (Or.inr (hw _ (List.mem_of_getElem? (i := 19) rfl))) (Or.inr (hw _ (List.mem_of_getElem? (i := 15) rfl))) (by decide) (t := .int) (t' := .boolean) (by decide) (by decide)))
  have Z2 : n0 ≤ h2.size := by rw [W2.size]; exact Z0
  have K2 := K0.wr W2 (Or.inl (List.mem_of_getElem? (i := 0) rfl))
  have N2 := Fr.snoc X2 N1 ge_a1
  refine own_go (W1 := T2.setTop (mkF m 9 #[.val (.ref a1), .val (.int p1), .val (.long q1), .second, .val (.int p2)] [])) (st2) ?_
  refine own_go (W1 := T2.setTop (mkF m 10 #[.val (.ref a1), .val (.int p1), .val (.long q1), .second, .val (.int p2)] [(.ref a1)])) (fun t k => XS.aloadN X2.here hx rfl (hb hby d1_9) rfl rfl  k) ?_
  refine own_go (W1 := T2.setTop (mkF m 11 #[.val (.ref a1), .val (.int p1), .val (.long q1), .second, .val (.int p2)] [(.long q1), (.ref a1)])) (fun t k => XS.lloadN X2.here hx rfl (hb hby d1_10) rfl  k) ?_
  obtain ⟨T3, h3, X3, e3, W3, st3⟩ := putF X2 hx hZ hown (host := "") (Or.inl (hw _ (List.mem_of_getElem? (i := 16) rfl))) Via.refl e2 F_bound_a1 E_a1 (Or.inr ⟨(hw _ (List.mem_of_getElem? (i := 17) rfl)), rfl, hnm⟩) (hw _ (List.mem_of_getElem? (i := 1) rfl)) (ty := .long) (by decide) rfl rfl (g := (mkF m 11 #[.val (.ref a1), .val (.int p1), .val (.long q1), .second, .val (.int p2)] [(.long q1), (.ref a1)])) rfl rfl (hb hby d1_11)
  have E_a1 := E_a1.wr W3
  have F_backwards_a1 := F_backwards_a1.other W3 (Or.inr (slot_ne (a0 := a0) (Or.inr (hw _ (List.mem_of_getElem? (i := 15) rfl))) (Or.inr (hw _ (List.mem_of_getElem? (i := 17) rfl))) (by decide) (t := .boolean) (t' := .long) (by decide) (by decide)))
  have F_bound_a1 := F_bound_a1.same W3
  have F_size_a1 := F_size_a1.other W3 (Or.inr (slot_ne (a0 := a0) (Or.inr (hw _ (List.mem_of_getElem? (i := 19) rfl))) (Or.inr (hw _ (List.mem_of_getElem? (i := 17) rfl))) (by decide) (t := .int) (t' := .long) (by decide) (by decide)))
  have Z3 : n0 ≤ h3.size := by rw [W3.size]; exact Z2
  have K3 := K2.wr W3 (Or.inl (List.mem_of_getElem? (i := 0) rfl))
  have N3 := Fr.snoc X3 N2 ge_a1
  refine own_go (W1 := T3.setTop (mkF m 14 #[.val (.ref a1), .val (.int p1), .val (.long q1), .second, .val (.int p2)] [])) (st3) ?_
  refine own_go (W1 := T3.setTop (mkF m 15 #[.val (.ref a1), .val (.int p1), .val (.long q1), .second, .val (.int p2)] [(.ref a1)])) (fun t k => XS.aloadN X3.here hx rfl (hb hby d1_14) rfl rfl  k) ?_
  refine own_go (W1 := T3.setTop (mkF m 17 #[.val (.ref a1), .val (.int p1), .val (.long q1), .second, .val (.int p2)] [(.int p2), (.ref a1)])) (fun t k => XS.iload X3.here hx rfl (hb hby d1_15) rfl  k) ?_
  obtain ⟨T4, h4, X4, e4, W4, st4⟩ := putF X3 hx hZ hown (host := "") (Or.inl (hw _ (List.mem_of_getElem? (i := 18) rfl))) Via.refl e3 F_size_a1 E_a1 (Or.inr ⟨(hw _ (List.mem_of_getElem? (i := 19) rfl)), rfl, hnm⟩) (hw _ (List.mem_of_getElem? (i := 1) rfl)) (ty := .int) (by decide) rfl rfl (g := (mkF m 17 #[.val (.ref a1), .val (.int p1), .val (.long q1), .second, .val (.int p2)] [(.int p2), (.ref a1)])) rfl rfl (hb hby d1_17)
  have E_a1 := E_a1.wr W4
  have F_backwards_a1 := F_backwards_a1.other W4 (Or.inr (slot_ne (a0 := a0) (Or.inr (hw _ (List.mem_of_getElem? (i := 15) rfl))) (Or.inr (hw _ (List.mem_of_getElem? (i := 19) rfl))) (by decide) (t := .boolean) (t' := .int) (by decide) (by decide)))
  have F_bound_a1 := F_bound_a1.other W4 (Or.inr (slot_ne (a0 := a0) (Or.inr (hw _ (List.mem_of_getElem? (i := 17) rfl))) (Or.inr (hw _ (List.mem_of_getElem? (i := 19) rfl))) (by decide) (t := .long) (t' := .int) (by decide) (by decide)))
  have F_size_a1 := F_size_a1.same W4
  have Z4 : n0 ≤ h4.size := by rw [W4.size]; exact Z3
  have K4 := K3.wr W4 (Or.inl (List.mem_of_getElem? (i := 0) rfl))
  have N4 := Fr.snoc X4 N3 ge_a1
  refine own_go (W1 := T4.setTop (mkF m 20 #[.val (.ref a1), .val (.int p1), .val (.long q1), .second, .val (.int p2)] [])) (st4) ?_
  exact own_retV X4 hx Bd.returns (hb hby d1_20) hlk (by decide) (by decide) (by rw [e4]; exact ⟨rfl, N4, K4, E_a1, F_backwards_a1, F_bound_a1, F_size_a1⟩)
theorem d4_0 : decode prog_18_method_6_code 0 = .ok (.new 10, 3) := by decide +kernel
theorem d4_3 : decode prog_18_method_6_code 3 = .ok (.dup, 1) := by decide +kernel
theorem d4_4 : decode prog_18_method_6_code 4 = .ok (.iconst 0, 1) := by decide +kernel
theorem d4_5 : decode prog_18_method_6_code 5 = .ok (.lload_n 1, 1) := by decide +kernel
theorem d4_6 : decode prog_18_method_6_code 6 = .ok (.lconst 1, 1) := by decide +kernel
theorem d4_7 : decode prog_18_method_6_code 7 = .ok (.lsub, 1) := by decide +kernel
theorem d4_8 : decode prog_18_method_6_code 8 = .ok (.aload_n 0, 1) := by decide +kernel
theorem d4_9 : decode prog_18_method_6_code 9 = .ok (.getfield 19, 3) := by decide +kernel
theorem d4_12 : decode prog_18_method_6_code 12 = .ok (.invokespecial 23, 3) := by decide +kernel
theorem own_pd0 : parseMethodDescriptor "(ZJI)V" = some ⟨[.boolean, .long, .int], none⟩ := by decide +kernel
theorem d4_15 : decode prog_18_method_6_code 15 = .ok (.areturn, 1) := by decide +kernel
theorem ef_rm4 (m : MethodId) (x0 : Addr) (x1 : Int64)  : entryFrame m #[(.ref x0), (.long x1)] 3 = mkF m 0 #[.val (.ref x0), .val (.long x1), .second] [] := by first | (simp [entryFrame, mkF, argsToLocals, Value.category]; done) | rfl
set_option maxRecDepth 65536 in
set_option maxHeartbeats 40000000 in
theorem rm4 (l : Launch) (Z : State) (a0 : Array Value) (hw : ∀ d ∈ tables_1, d.before a0 Z = true) (ws : List Jvm.Cond) (a1 : Addr) (q1 : Int64) (p2 : Int32) (h0 : Heap) (n0 : Nat) (Z0 : n0 ≤ h0.size) (F_size_a1 : Fld Z h0 a1 "com/example/tenorbook/tenorbook/book/BookPage" "size" "I" (.int p2)) :
    MetFree l (⟨"com/example/tenorbook/tenorbook/book/BookPage", "startingAt", "(J)Lcom/example/tenorbook/tenorbook/book/BookPage;"⟩ : MethodName) (head1 (Jvm.Cond.code (⟨"com/example/tenorbook/tenorbook/book/BookPage", "startingAt", "(J)Lcom/example/tenorbook/tenorbook/book/BookPage;"⟩ : MethodName) prog_18_method_6_code 3 (some (.object "com/example/tenorbook/tenorbook/book/BookPage")) :: ws) ({ frames := 3, cells := 1, slots := 3, locals := 41 } : Room)) (fun a U => a = #[(.ref a1), (.long q1)] ∧ Z.Warmed39 U.vm ∧ U.heap = h0) (fun _ _ _ _ _ => True) (fun _ U o U' => ∃ v L, o = .returned v ∧ own_Q4 Z q1 p2 h0 n0 v U'.heap L ∧ FrameEnd U o U' L ({ frames := 3, cells := 1, slots := 3, locals := 41 } : Room).cells ({ frames := 3, cells := 1, slots := 3, locals := 41 } : Room).slots) := by
  refine MetFree.of_bodySF (plainFor_of_name own_pn_com_example_tenorbook_tenorbook_book_BookPage) hisR ?_
  intro p e s m args below meth c s₁ Bd hml0 hP hK
  obtain ⟨rfl, hZ, hh⟩ := hP
  have hx := Bd.exec
  have hby := Bd.bytes
  have hlk := BodyLoose.notSynchronized Bd
  have hml : c.maxLocals = 3 := hml0
  have hown : s.vm.findClass "com/example/tenorbook/tenorbook/book/BookPage" = some m.cls := findClass_of_methodNamed Bd.named
  have hnm := (name_of_methodNamed Bd.named Bd.method).1
  have X0 : Stand p l e ({ frames := 3, cells := 1, slots := 3, locals := 41 } : Room) s m #[(.ref a1), (.long q1)] below meth c s₁ [] 0 0 := Stand.of_body Bd
  have e0 : s₁.heap = h0 := by rw [← hh, Bd.state]; rfl
  have N0 := Fr.nil n0
  show own_Ends p e below s (own_Q4 Z q1 p2 h0 n0) 1 3 (s₁.setTop (entryFrame m #[(.ref a1), (.long q1)] 3))
  refine own_go (W1 := s₁.setTop (mkF m 0 #[.val (.ref a1), .val (.long q1), .second] [])) (fun t k => castTop (ef_rm4 m a1 q1 ) k) ?_
  have K0 := Keep.refl h0 []
  obtain ⟨T1, h1, X1, e1, E1, A1, D1, -, st1⟩ := newO X0 hx hZ hown (hw _ (List.mem_of_getElem? (i := 25) rfl)) (hw _ (List.mem_of_getElem? (i := 1) rfl)) (hw _ (List.mem_of_getElem? (i := 2) rfl)) e0 (g := (mkF m 0 #[.val (.ref a1), .val (.long q1), .second] [])) rfl (hb hby d4_0) (by decide) (by decide)
  obtain ⟨b, g1⟩ : ∃ z, z = h0.size := ⟨_, rfl⟩
  have ne_a1_b : a1 ≠ b := Nat.ne_of_lt (Nat.lt_of_lt_of_le F_size_a1.lt (Nat.le_of_eq g1.symm))
  have ge_b : n0 ≤ b := Nat.le_trans Z0 (Nat.le_of_eq g1.symm)
  have sz_b : h0.size ≤ b := Nat.le_trans K0.1 (Nat.le_of_eq g1.symm)
  rw [← g1] at A1 D1 st1
  have F_size_a1 := F_size_a1.ext E1
  have Z1 : n0 ≤ h1.size := Nat.le_trans Z0 E1.1
  have K1 := K0.ext E1
  have E_b := A1
  have F_backwards_b : Fld Z h1 b "com/example/tenorbook/tenorbook/book/BookPage" "backwards" "Z" (.int (0 : Int32)) := D1 (Or.inr (hw _ (List.mem_of_getElem? (i := 15) rfl))) (ty := .boolean) (by decide)
  have F_bound_b : Fld Z h1 b "com/example/tenorbook/tenorbook/book/BookPage" "bound" "J" (.long (0 : Int64)) := D1 (Or.inr (hw _ (List.mem_of_getElem? (i := 17) rfl))) (ty := .long) (by decide)
  have F_size_b : Fld Z h1 b "com/example/tenorbook/tenorbook/book/BookPage" "size" "I" (.int (0 : Int32)) := D1 (Or.inr (hw _ (List.mem_of_getElem? (i := 19) rfl))) (ty := .int) (by decide)
  refine own_go (W1 := T1.setTop (mkF m 3 #[.val (.ref a1), .val (.long q1), .second] [(.ref b)])) (st1) ?_
  refine own_go (W1 := T1.setTop (mkF m 4 #[.val (.ref a1), .val (.long q1), .second] [(.ref b), (.ref b)])) (fun t k => XS.dup X1.here hx rfl (hb hby d4_3) rfl rfl k) ?_
  refine own_go (W1 := T1.setTop (mkF m 5 #[.val (.ref a1), .val (.long q1), .second] [(.int (0 : Int32)), (.ref b), (.ref b)])) (fun t k => XS.iconst X1.here hx rfl (hb hby d4_4) k) ?_
  refine own_go (W1 := T1.setTop (mkF m 6 #[.val (.ref a1), .val (.long q1), .second] [(.long q1), (.int (0 : Int32)), (.ref b), (.ref b)])) (fun t k => XS.lloadN X1.here hx rfl (hb hby d4_5) rfl  k) ?_
  refine own_go (W1 := T1.setTop (mkF m 7 #[.val (.ref a1), .val (.long q1), .second] [(.long (1 : Int64)), (.long q1), (.int (0 : Int32)), (.ref b), (.ref b)])) (fun t k => XS.lconst X1.here hx rfl (hb hby d4_6) k) ?_
  refine own_go (W1 := T1.setTop (mkF m 8 #[.val (.ref a1), .val (.long q1), .second] [(.long (q1 - (1 : Int64))), (.int (0 : Int32)), (.ref b), (.ref b)])) (fun t k => XS.lsub X1.here hx rfl (hb hby d4_7) rfl k) ?_
  refine own_go (W1 := T1.setTop (mkF m 9 #[.val (.ref a1), .val (.long q1), .second] [(.ref a1), (.long (q1 - (1 : Int64))), (.int (0 : Int32)), (.ref b), (.ref b)])) (fun t k => XS.aloadN X1.here hx rfl (hb hby d4_8) rfl rfl  k) ?_
  obtain ⟨T2, X2, e2, st2⟩ := getF X1 hx hZ hown (host := "") (Or.inl (hw _ (List.mem_of_getElem? (i := 18) rfl))) Via.refl e1 F_size_a1 (g := (mkF m 9 #[.val (.ref a1), .val (.long q1), .second] [(.ref a1), (.long (q1 - (1 : Int64))), (.int (0 : Int32)), (.ref b), (.ref b)])) rfl rfl (hb hby d4_9)
  refine own_go (W1 := T2.setTop (mkF m 12 #[.val (.ref a1), .val (.long q1), .second] [(.int p2), (.long (q1 - (1 : Int64))), (.int (0 : Int32)), (.ref b), (.ref b)])) (st2) ?_
  obtain ⟨_, _, ⟨T3, L3, k3, n3⟩, -, X3, ⟨Lc3, hQ3, l3, y3, z3⟩, st3⟩ := X2.specialBack hx (y := (⟨"com/example/tenorbook/tenorbook/book/BookPage", "<init>", "(ZJI)V"⟩ : MethodName)) rfl hown (mvT hZ (hw _ (List.mem_of_getElem? (i := 26) rfl))) (mvT hZ (hw _ (List.mem_of_getElem? (i := 4) rfl))) (mvT hZ (hw _ (List.mem_of_getElem? (i := 5) rfl))) (by decide) (backOf (W := 1) (rm1 l Z a0 hw [] b (0 : Int32) (q1 - (1 : Int64)) p2 h1 n0 Z1 E_b F_backwards_b F_bound_b F_size_b ge_b) hZ (hw _ (List.mem_of_getElem? (i := 5) rfl)) (hw _ (List.mem_of_getElem? (i := 2) rfl)) (by decide) (by decide)) (g := (mkF m 12 #[.val (.ref a1), .val (.long q1), .second] [(.int p2), (.long (q1 - (1 : Int64))), (.int (0 : Int32)), (.ref b), (.ref b)])) rfl (by rw [hml]; rfl) (Steps.refl _) (a := b) (argsL := [(.int (0 : Int32)), (.long (q1 - (1 : Int64))), (.int p2)]) (rest := [(.ref b)]) (lenOf own_pd0 rfl) rfl (by show 2 * 0 + _ ≤ _; exact Nat.le_of_eq rfl) (hb hby d4_12) (fun _ _ => ⟨rfl, e2, (by decide : 1 + 0 ≤ _), (by decide : 3 + 0 ≤ _)⟩)
  dsimp only [Pt.U, Pt.locs, Pt.cells, Pt.slots] at X3 l3 y3 z3 st3 hQ3
  subst l3 y3 z3
  obtain ⟨rfl, Nq3, Kq3, Eq3, Fa3, Fb3, Fc3⟩ := hQ3
  have F_size_a1 := F_size_a1.keep Kq3 (ninS ne_a1_b nin0)
  have E_b := E_b.keep Kq3
  have Z3 : n0 ≤ T3.heap.size := Nat.le_trans Z1 Kq3.1
  have K3 := K1.trans Kq3 (allS (Or.inr sz_b) all0)
  have N3 := Fr.app N0 Nq3
  have F_backwards_b : Fld Z T3.heap b "com/example/tenorbook/tenorbook/book/BookPage" "backwards" "Z" (.int (0 : Int32)) := Fa3
  have F_bound_b : Fld Z T3.heap b "com/example/tenorbook/tenorbook/book/BookPage" "bound" "J" (.long (q1 - (1 : Int64))) := Fb3
  have F_size_b : Fld Z T3.heap b "com/example/tenorbook/tenorbook/book/BookPage" "size" "I" (.int p2) := Fc3
  refine own_tr (W1 := T3.setTop (mkF m 15 #[.val (.ref a1), .val (.long q1), .second] [(.ref b)])) st3 ?_
  exact own_retR X3 hx Bd.returns rfl rfl (hb hby d4_15) hlk (by decide) (by decide) ⟨b, rfl, N3, K3, sz_b, E_b, F_backwards_b, F_bound_b, F_size_b⟩
def own_Q5 (w : Int32) (h0 : Heap) (n0 : Nat) (v : Option Value) (h : Heap) (L : List Loc) : Prop := v = some (.int w) ∧ Fr n0 L ∧ h = h0
theorem d5_0 : decode prog_18_method_10_code 0 = .ok (.aload_n 0, 1) := by decide +kernel
theorem d5_1 : decode prog_18_method_10_code 1 = .ok (.getfield 9, 3) := by decide +kernel
theorem d5_4 : decode prog_18_method_10_code 4 = .ok (.ireturn, 1) := by decide +kernel
theorem ef_rm5 (m : MethodId) (x0 : Addr)  : entryFrame m #[(.ref x0)] 1 = mkF m 0 #[.val (.ref x0)] [] := by first | (simp [entryFrame, mkF, argsToLocals, Value.category]; done) | rfl
set_option maxRecDepth 65536 in
set_option maxHeartbeats 40000000 in
theorem rm5 (l : Launch) (Z : State) (a0 : Array Value) (hw : ∀ d ∈ tables_1, d.before a0 Z = true) (ws : List Jvm.Cond) (a1 : Addr) (w : Int32) (h0 : Heap) (n0 : Nat) (Z0 : n0 ≤ h0.size) (F_w : Fld Z h0 a1 "com/example/tenorbook/tenorbook/book/BookPage" "backwards" "Z" (.int w)) (hn : nar .boolean w = w) :
    MetFree l (⟨"com/example/tenorbook/tenorbook/book/BookPage", "backwards", "()Z"⟩ : MethodName) (head1 (Jvm.Cond.code (⟨"com/example/tenorbook/tenorbook/book/BookPage", "backwards", "()Z"⟩ : MethodName) prog_18_method_10_code 1 (some .boolean) :: ws) ({ frames := 0, cells := 0, slots := 0, locals := 0 } : Room)) (fun a U => a = #[(.ref a1)] ∧ Z.Warmed39 U.vm ∧ U.heap = h0) (fun _ _ _ _ _ => True) (fun _ U o U' => ∃ v L, o = .returned v ∧ own_Q5 w h0 n0 v U'.heap L ∧ FrameEnd U o U' L ({ frames := 0, cells := 0, slots := 0, locals := 0 } : Room).cells ({ frames := 0, cells := 0, slots := 0, locals := 0 } : Room).slots) := by
  refine MetFree.of_bodySF (plainFor_of_name own_pn_com_example_tenorbook_tenorbook_book_BookPage) hisR ?_
  intro p e s m args below meth c s₁ Bd hml0 hP hK
  obtain ⟨rfl, hZ, hh⟩ := hP
  have hx := Bd.exec
  have hby := Bd.bytes
  have hlk := BodyLoose.notSynchronized Bd
  have hml : c.maxLocals = 1 := hml0
  have hown : s.vm.findClass "com/example/tenorbook/tenorbook/book/BookPage" = some m.cls := findClass_of_methodNamed Bd.named
  have hnm := (name_of_methodNamed Bd.named Bd.method).1
  have X0 : Stand p l e ({ frames := 0, cells := 0, slots := 0, locals := 0 } : Room) s m #[(.ref a1)] below meth c s₁ [] 0 0 := Stand.of_body Bd
  have e0 : s₁.heap = h0 := by rw [← hh, Bd.state]; rfl
  have N0 := Fr.nil n0
  show own_Ends p e below s (own_Q5 w h0 n0) 0 0 (s₁.setTop (entryFrame m #[(.ref a1)] 1))
  refine own_go (W1 := s₁.setTop (mkF m 0 #[.val (.ref a1)] [])) (fun t k => castTop (ef_rm5 m a1 ) k) ?_
  refine own_go (W1 := s₁.setTop (mkF m 1 #[.val (.ref a1)] [(.ref a1)])) (fun t k => XS.aloadN X0.here hx rfl (hb hby d5_0) rfl rfl  k) ?_
  obtain ⟨T1, X1, e1, st1⟩ := getF X0 hx hZ hown (host := "") (Or.inl (hw _ (List.mem_of_getElem? (i := 14) rfl))) Via.refl e0 F_w (g := (mkF m 1 #[.val (.ref a1)] [(.ref a1)])) rfl rfl (hb hby d5_1)
  refine own_go (W1 := T1.setTop (mkF m 4 #[.val (.ref a1)] [(.int w)])) (st1) ?_
  exact own_retN X1 hx (t := .boolean) Bd.returns (by simp) (hb hby d5_4) hlk (by decide) (by decide) ⟨by rw [hn], N0, e1⟩
def own_Q6 (w : Int64) (h0 : Heap) (n0 : Nat) (v : Option Value) (h : Heap) (L : List Loc) : Prop := v = some (.long w) ∧ Fr n0 L ∧ h = h0
theorem d6_0 : decode prog_18_method_11_code 0 = .ok (.aload_n 0, 1) := by decide +kernel
theorem d6_1 : decode prog_18_method_11_code 1 = .ok (.getfield 15, 3) := by decide +kernel
theorem d6_4 : decode prog_18_method_11_code 4 = .ok (.lreturn, 1) := by decide +kernel
theorem ef_rm6 (m : MethodId) (x0 : Addr)  : entryFrame m #[(.ref x0)] 1 = mkF m 0 #[.val (.ref x0)] [] := by first | (simp [entryFrame, mkF, argsToLocals, Value.category]; done) | rfl
set_option maxRecDepth 65536 in
set_option maxHeartbeats 40000000 in
theorem rm6 (l : Launch) (Z : State) (a0 : Array Value) (hw : ∀ d ∈ tables_1, d.before a0 Z = true) (ws : List Jvm.Cond) (a1 : Addr) (w : Int64) (h0 : Heap) (n0 : Nat) (Z0 : n0 ≤ h0.size) (F_w : Fld Z h0 a1 "com/example/tenorbook/tenorbook/book/BookPage" "bound" "J" (.long w)) :
    MetFree l (⟨"com/example/tenorbook/tenorbook/book/BookPage", "bound", "()J"⟩ : MethodName) (head1 (Jvm.Cond.code (⟨"com/example/tenorbook/tenorbook/book/BookPage", "bound", "()J"⟩ : MethodName) prog_18_method_11_code 1 (some .long) :: ws) ({ frames := 0, cells := 0, slots := 0, locals := 0 } : Room)) (fun a U => a = #[(.ref a1)] ∧ Z.Warmed39 U.vm ∧ U.heap = h0) (fun _ _ _ _ _ => True) (fun _ U o U' => ∃ v L, o = .returned v ∧ own_Q6 w h0 n0 v U'.heap L ∧ FrameEnd U o U' L ({ frames := 0, cells := 0, slots := 0, locals := 0 } : Room).cells ({ frames := 0, cells := 0, slots := 0, locals := 0 } : Room).slots) := by
  refine MetFree.of_bodySF (plainFor_of_name own_pn_com_example_tenorbook_tenorbook_book_BookPage) hisR ?_
  intro p e s m args below meth c s₁ Bd hml0 hP hK
  obtain ⟨rfl, hZ, hh⟩ := hP
  have hx := Bd.exec
  have hby := Bd.bytes
  have hlk := BodyLoose.notSynchronized Bd
  have hml : c.maxLocals = 1 := hml0
  have hown : s.vm.findClass "com/example/tenorbook/tenorbook/book/BookPage" = some m.cls := findClass_of_methodNamed Bd.named
  have hnm := (name_of_methodNamed Bd.named Bd.method).1
  have X0 : Stand p l e ({ frames := 0, cells := 0, slots := 0, locals := 0 } : Room) s m #[(.ref a1)] below meth c s₁ [] 0 0 := Stand.of_body Bd
  have e0 : s₁.heap = h0 := by rw [← hh, Bd.state]; rfl
  have N0 := Fr.nil n0
  show own_Ends p e below s (own_Q6 w h0 n0) 0 0 (s₁.setTop (entryFrame m #[(.ref a1)] 1))
  refine own_go (W1 := s₁.setTop (mkF m 0 #[.val (.ref a1)] [])) (fun t k => castTop (ef_rm6 m a1 ) k) ?_
  refine own_go (W1 := s₁.setTop (mkF m 1 #[.val (.ref a1)] [(.ref a1)])) (fun t k => XS.aloadN X0.here hx rfl (hb hby d6_0) rfl rfl  k) ?_
  obtain ⟨T1, X1, e1, st1⟩ := getF X0 hx hZ hown (host := "") (Or.inl (hw _ (List.mem_of_getElem? (i := 16) rfl))) Via.refl e0 F_w (g := (mkF m 1 #[.val (.ref a1)] [(.ref a1)])) rfl rfl (hb hby d6_1)
  refine own_go (W1 := T1.setTop (mkF m 4 #[.val (.ref a1)] [(.long w)])) (st1) ?_
  exact own_retJ X1 hx Bd.returns (hb hby d6_4) hlk (by decide) (by decide) ⟨rfl, N0, e1⟩
def own_Q7 (w : Int32) (h0 : Heap) (n0 : Nat) (v : Option Value) (h : Heap) (L : List Loc) : Prop := v = some (.int w) ∧ Fr n0 L ∧ h = h0
theorem d7_0 : decode prog_18_method_12_code 0 = .ok (.aload_n 0, 1) := by decide +kernel
theorem d7_1 : decode prog_18_method_12_code 1 = .ok (.getfield 19, 3) := by decide +kernel
theorem d7_4 : decode prog_18_method_12_code 4 = .ok (.ireturn, 1) := by decide +kernel
theorem ef_rm7 (m : MethodId) (x0 : Addr)  : entryFrame m #[(.ref x0)] 1 = mkF m 0 #[.val (.ref x0)] [] := by first | (simp [entryFrame, mkF, argsToLocals, Value.category]; done) | rfl
set_option maxRecDepth 65536 in
set_option maxHeartbeats 40000000 in
theorem rm7 (l : Launch) (Z : State) (a0 : Array Value) (hw : ∀ d ∈ tables_1, d.before a0 Z = true) (ws : List Jvm.Cond) (a1 : Addr) (w : Int32) (h0 : Heap) (n0 : Nat) (Z0 : n0 ≤ h0.size) (F_w : Fld Z h0 a1 "com/example/tenorbook/tenorbook/book/BookPage" "size" "I" (.int w)) :
    MetFree l (⟨"com/example/tenorbook/tenorbook/book/BookPage", "size", "()I"⟩ : MethodName) (head1 (Jvm.Cond.code (⟨"com/example/tenorbook/tenorbook/book/BookPage", "size", "()I"⟩ : MethodName) prog_18_method_12_code 1 (some .int) :: ws) ({ frames := 0, cells := 0, slots := 0, locals := 0 } : Room)) (fun a U => a = #[(.ref a1)] ∧ Z.Warmed39 U.vm ∧ U.heap = h0) (fun _ _ _ _ _ => True) (fun _ U o U' => ∃ v L, o = .returned v ∧ own_Q7 w h0 n0 v U'.heap L ∧ FrameEnd U o U' L ({ frames := 0, cells := 0, slots := 0, locals := 0 } : Room).cells ({ frames := 0, cells := 0, slots := 0, locals := 0 } : Room).slots) := by
  refine MetFree.of_bodySF (plainFor_of_name own_pn_com_example_tenorbook_tenorbook_book_BookPage) hisR ?_
  intro p e s m args below meth c s₁ Bd hml0 hP hK
  obtain ⟨rfl, hZ, hh⟩ := hP
  have hx := Bd.exec
  have hby := Bd.bytes
  have hlk := BodyLoose.notSynchronized Bd
  have hml : c.maxLocals = 1 := hml0
  have hown : s.vm.findClass "com/example/tenorbook/tenorbook/book/BookPage" = some m.cls := findClass_of_methodNamed Bd.named
  have hnm := (name_of_methodNamed Bd.named Bd.method).1
  have X0 : Stand p l e ({ frames := 0, cells := 0, slots := 0, locals := 0 } : Room) s m #[(.ref a1)] below meth c s₁ [] 0 0 := Stand.of_body Bd
  have e0 : s₁.heap = h0 := by rw [← hh, Bd.state]; rfl
  have N0 := Fr.nil n0
  show own_Ends p e below s (own_Q7 w h0 n0) 0 0 (s₁.setTop (entryFrame m #[(.ref a1)] 1))
  refine own_go (W1 := s₁.setTop (mkF m 0 #[.val (.ref a1)] [])) (fun t k => castTop (ef_rm7 m a1 ) k) ?_
  refine own_go (W1 := s₁.setTop (mkF m 1 #[.val (.ref a1)] [(.ref a1)])) (fun t k => XS.aloadN X0.here hx rfl (hb hby d7_0) rfl rfl  k) ?_
  obtain ⟨T1, X1, e1, st1⟩ := getF X0 hx hZ hown (host := "") (Or.inl (hw _ (List.mem_of_getElem? (i := 18) rfl))) Via.refl e0 F_w (g := (mkF m 1 #[.val (.ref a1)] [(.ref a1)])) rfl rfl (hb hby d7_1)
  refine own_go (W1 := T1.setTop (mkF m 4 #[.val (.ref a1)] [(.int w)])) (st1) ?_
  exact own_retI X1 hx Bd.returns (hb hby d7_4) hlk (by decide) (by decide) ⟨rfl, N0, e1⟩
theorem own_pn_com_example_tenorbook_tenorbook_book_BookPageStartingAtPinLaw : plainName "com/example/tenorbook/tenorbook/book/BookPageStartingAtPinLaw" = true := by first | (simp [plainName, overriddenIn]; done) | decide +kernel
theorem own_pd2 : parseMethodDescriptor "(J)Lcom/example/tenorbook/tenorbook/book/BookPage;" = some ⟨[.long], some (.object "com/example/tenorbook/tenorbook/book/BookPage")⟩ := by decide +kernel
theorem own_pd3 : parseMethodDescriptor "()Z" = some ⟨[], some .boolean⟩ := by decide +kernel
theorem own_pd4 : parseMethodDescriptor "()J" = some ⟨[], some .long⟩ := by decide +kernel
theorem own_pd5 : parseMethodDescriptor "()I" = some ⟨[], some .int⟩ := by decide +kernel
theorem ef_rm0 (m : MethodId) (x0 : Int32) (x1 : Int64) (x2 : Int32) (x3 : Int64)  : entryFrame m #[(.int x0), (.long x1), (.int x2), (.long x3)] maxLocals = mkF m 0 #[.val (.int x0), .val (.long x1), .second, .val (.int x2), .val (.long x3), .second, .unset, .unset, .unset, .unset, .unset, .unset, .unset] [] := by first | (simp [entryFrame, mkF, argsToLocals, Value.category, maxLocals]; done) | rfl
set_option maxRecDepth 65536 in
set_option maxHeartbeats 40000000 in
theorem rm0 (l : Launch) (Z : State) (a0 : Array Value) (hw : ∀ d ∈ tables_1, d.before a0 Z = true) (ws : List Jvm.Cond) (p1 : Int32) (q1 : Int64) (p2 : Int32) (q2 : Int64) (h0 : Heap) (n0 : Nat) (Z0 : n0 ≤ h0.size)  :
    MetFree l x (head1 (Jvm.Cond.code x code maxLocals ret :: ws) room_1) (fun a U => a = #[(.int p1), (.long q1), (.int p2), (.long q2)] ∧ Z.Warmed39 U.vm ∧ U.heap = h0) (fun _ _ _ _ _ => True) (fun _ U o U' => ∃ v L, o = .returned v ∧ own_Q0 n0 v U'.heap L ∧ FrameEnd U o U' L 16 128) := by
  refine MetFree.of_bodySF (plainFor_of_name own_pn_com_example_tenorbook_tenorbook_book_BookPageStartingAtPinLaw) hisR ?_
  intro p e s m args below meth c s₁ Bd hml0 hP hK
  obtain ⟨rfl, hZ, hh⟩ := hP
  have hx := Bd.exec
  have hby := Bd.bytes
  have hlk := BodyLoose.notSynchronized Bd
  have hml : c.maxLocals = 13 := hml0
  have hown : s.vm.findClass "com/example/tenorbook/tenorbook/book/BookPageStartingAtPinLaw" = some m.cls := findClass_of_methodNamed Bd.named
  have hnm := (name_of_methodNamed Bd.named Bd.method).1
  have X0 : Stand p l e room_1 s m #[(.int p1), (.long q1), (.int p2), (.long q2)] below meth c s₁ [] 0 0 := Stand.of_body Bd
  have e0 : s₁.heap = h0 := by rw [← hh, Bd.state]; rfl
  have N0 := Fr.nil n0
  show own_Ends p e below s (own_Q0 n0) 16 128 (s₁.setTop (entryFrame m #[(.int p1), (.long q1), (.int p2), (.long q2)] maxLocals))
  refine own_go (W1 := s₁.setTop (mkF m 0 #[.val (.int p1), .val (.long q1), .second, .val (.int p2), .val (.long q2), .second, .unset, .unset, .unset, .unset, .unset, .unset, .unset] [])) (fun t k => castTop (ef_rm0 m p1 q1 p2 q2 ) k) ?_
  refine own_go (W1 := s₁.setTop (mkF m 1 #[.val (.int p1), .val (.long q1), .second, .val (.int p2), .val (.long q2), .second, .unset, .unset, .unset, .unset, .unset, .unset, .unset] [(.int p1)])) (fun t k => XS.iloadN X0.here hx rfl (hb hby at_0) rfl  k) ?_
  refine own_go (W1 := s₁.setTop (mkF m 2 #[.val (.int p1), .val (.long q1), .second, .val (.int p2), .val (.long q2), .second, .unset, .unset, .unset, .unset, .unset, .unset, .unset] [(.int (1 : Int32)), (.int p1)])) (fun t k => XS.iconst X0.here hx rfl (hb hby at_1) k) ?_
  refine own_go (W1 := s₁.setTop (mkF m 3 #[.val (.int p1), .val (.long q1), .second, .val (.int p2), .val (.long q2), .second, .unset, .unset, .unset, .unset, .unset, .unset, .unset] [(.int (p1 &&& (1 : Int32)))])) (fun t k => XS.iand X0.here hx rfl (hb hby at_2) rfl k) ?_
  by_cases hc3_1 : (p1 &&& (1 : Int32)) = (0 : Int32)
  · skip
    refine own_go (W1 := s₁.setTop (mkF m 10 #[.val (.int p1), .val (.long q1), .second, .val (.int p2), .val (.long q2), .second, .unset, .unset, .unset, .unset, .unset, .unset, .unset] [])) (fun t k => XS.ifYes X0.here hx rfl (pc0 := 3) (pc' := 10) rfl (hb hby at_3) rfl ((if0 _ _).trans (teq (show (p1 &&& (1 : Int32)) = (0 : Int32) from hc3_1)).1) (by decide) (by decide) k) ?_
    refine own_go (W1 := s₁.setTop (mkF m 11 #[.val (.int p1), .val (.long q1), .second, .val (.int p2), .val (.long q2), .second, .unset, .unset, .unset, .unset, .unset, .unset, .unset] [(.int (0 : Int32))])) (fun t k => XS.iconst X0.here hx rfl (hb hby at_10) k) ?_
    refine own_go (W1 := s₁.setTop (mkF m 13 #[.val (.int p1), .val (.long q1), .second, .val (.int p2), .val (.long q2), .second, .val (.int (0 : Int32)), .unset, .unset, .unset, .unset, .unset, .unset] [])) (fun t k => XS.istore X0.here hx rfl (hb hby at_11) rfl (l' := #[.val (.int p1), .val (.long q1), .second, .val (.int p2), .val (.long q2), .second, .val (.int (0 : Int32)), .unset, .unset, .unset, .unset, .unset, .unset]) rfl k) ?_
    obtain ⟨T1, h1, X1, e1, E1, A1, D1, -, st1⟩ := newO X0 hx hZ hown (hw _ (List.mem_of_getElem? (i := 0) rfl)) (hw _ (List.mem_of_getElem? (i := 1) rfl)) (hw _ (List.mem_of_getElem? (i := 2) rfl)) e0 (g := (mkF m 13 #[.val (.int p1), .val (.long q1), .second, .val (.int p2), .val (.long q2), .second, .val (.int (0 : Int32)), .unset, .unset, .unset, .unset, .unset, .unset] [])) rfl (hb hby at_13) (by decide) (by decide)
    obtain ⟨pp, g1⟩ : ∃ z, z = h0.size := ⟨_, rfl⟩
    have ge_pp : n0 ≤ pp := Nat.le_trans Z0 (Nat.le_of_eq g1.symm)
    rw [← g1] at A1 D1 st1
    have Z1 : n0 ≤ h1.size := Nat.le_trans Z0 E1.1
    have E_pp := A1
    have F_backwards_pp : Fld Z h1 pp "com/example/tenorbook/tenorbook/book/BookPage" "backwards" "Z" (.int (0 : Int32)) := D1 (Or.inr (hw _ (List.mem_of_getElem? (i := 15) rfl))) (ty := .boolean) (by decide)
    have F_bound_pp : Fld Z h1 pp "com/example/tenorbook/tenorbook/book/BookPage" "bound" "J" (.long (0 : Int64)) := D1 (Or.inr (hw _ (List.mem_of_getElem? (i := 17) rfl))) (ty := .long) (by decide)
    have F_size_pp : Fld Z h1 pp "com/example/tenorbook/tenorbook/book/BookPage" "size" "I" (.int (0 : Int32)) := D1 (Or.inr (hw _ (List.mem_of_getElem? (i := 19) rfl))) (ty := .int) (by decide)
    refine own_go (W1 := T1.setTop (mkF m 16 #[.val (.int p1), .val (.long q1), .second, .val (.int p2), .val (.long q2), .second, .val (.int (0 : Int32)), .unset, .unset, .unset, .unset, .unset, .unset] [(.ref pp)])) (st1) ?_
    refine own_go (W1 := T1.setTop (mkF m 17 #[.val (.int p1), .val (.long q1), .second, .val (.int p2), .val (.long q2), .second, .val (.int (0 : Int32)), .unset, .unset, .unset, .unset, .unset, .unset] [(.ref pp), (.ref pp)])) (fun t k => XS.dup X1.here hx rfl (hb hby at_16) rfl rfl k) ?_
    refine own_go (W1 := T1.setTop (mkF m 19 #[.val (.int p1), .val (.long q1), .second, .val (.int p2), .val (.long q2), .second, .val (.int (0 : Int32)), .unset, .unset, .unset, .unset, .unset, .unset] [(.int (0 : Int32)), (.ref pp), (.ref pp)])) (fun t k => XS.iload X1.here hx rfl (hb hby at_17) rfl  k) ?_
    refine own_go (W1 := T1.setTop (mkF m 20 #[.val (.int p1), .val (.long q1), .second, .val (.int p2), .val (.long q2), .second, .val (.int (0 : Int32)), .unset, .unset, .unset, .unset, .unset, .unset] [(.long q1), (.int (0 : Int32)), (.ref pp), (.ref pp)])) (fun t k => XS.lloadN X1.here hx rfl (hb hby at_19) rfl  k) ?_
    refine own_go (W1 := T1.setTop (mkF m 21 #[.val (.int p1), .val (.long q1), .second, .val (.int p2), .val (.long q2), .second, .val (.int (0 : Int32)), .unset, .unset, .unset, .unset, .unset, .unset] [(.int p2), (.long q1), (.int (0 : Int32)), (.ref pp), (.ref pp)])) (fun t k => XS.iloadN X1.here hx rfl (hb hby at_20) rfl  k) ?_
    obtain ⟨_, _, ⟨T2, L2, k2, n2⟩, -, X2, ⟨Lc2, hQ2, l2, y2, z2⟩, st2⟩ := X1.specialBack hx (y := (⟨"com/example/tenorbook/tenorbook/book/BookPage", "<init>", "(ZJI)V"⟩ : MethodName)) rfl hown (mvT hZ (hw _ (List.mem_of_getElem? (i := 3) rfl))) (mvT hZ (hw _ (List.mem_of_getElem? (i := 4) rfl))) (mvT hZ (hw _ (List.mem_of_getElem? (i := 5) rfl))) (by decide) (backOf (W := 1) (rm1 l Z a0 hw [] pp (0 : Int32) q1 p2 h1 n0 Z1 E_pp F_backwards_pp F_bound_pp F_size_pp ge_pp) hZ (hw _ (List.mem_of_getElem? (i := 5) rfl)) (hw _ (List.mem_of_getElem? (i := 2) rfl)) (by decide) (by decide)) (g := (mkF m 21 #[.val (.int p1), .val (.long q1), .second, .val (.int p2), .val (.long q2), .second, .val (.int (0 : Int32)), .unset, .unset, .unset, .unset, .unset, .unset] [(.int p2), (.long q1), (.int (0 : Int32)), (.ref pp), (.ref pp)])) rfl (by rw [hml]; rfl) (Steps.refl _) (a := pp) (argsL := [(.int (0 : Int32)), (.long q1), (.int p2)]) (rest := [(.ref pp)]) (lenOf own_pd0 rfl) rfl (by show 2 * 0 + _ ≤ _; exact Nat.le_of_eq rfl) (hb hby at_21) (fun _ _ => ⟨rfl, e1, (by decide : 1 + 0 ≤ _), (by decide : 3 + 0 ≤ _)⟩)
    dsimp only [Pt.U, Pt.locs, Pt.cells, Pt.slots] at X2 l2 y2 z2 st2 hQ2
    subst l2 y2 z2
    obtain ⟨rfl, Nq2, Kq2, Eq2, Fa2, Fb2, Fc2⟩ := hQ2
    have E_pp := E_pp.keep Kq2
    have Z2 : n0 ≤ T2.heap.size := Nat.le_trans Z1 Kq2.1
    have N2 := Fr.app N0 Nq2
    have F_backwards_pp : Fld Z T2.heap pp "com/example/tenorbook/tenorbook/book/BookPage" "backwards" "Z" (.int (0 : Int32)) := Fa2
    have F_bound_pp : Fld Z T2.heap pp "com/example/tenorbook/tenorbook/book/BookPage" "bound" "J" (.long q1) := Fb2
    have F_size_pp : Fld Z T2.heap pp "com/example/tenorbook/tenorbook/book/BookPage" "size" "I" (.int p2) := Fc2
    refine own_tr (W1 := T2.setTop (mkF m 24 #[.val (.int p1), .val (.long q1), .second, .val (.int p2), .val (.long q2), .second, .val (.int (0 : Int32)), .unset, .unset, .unset, .unset, .unset, .unset] [(.ref pp)])) st2 ?_
    refine own_go (W1 := T2.setTop (mkF m 26 #[.val (.int p1), .val (.long q1), .second, .val (.int p2), .val (.long q2), .second, .val (.int (0 : Int32)), .val (.ref pp), .unset, .unset, .unset, .unset, .unset] [])) (fun t k => XS.astore X2.here hx rfl (hb hby at_24) rfl rfl (l' := #[.val (.int p1), .val (.long q1), .second, .val (.int p2), .val (.long q2), .second, .val (.int (0 : Int32)), .val (.ref pp), .unset, .unset, .unset, .unset, .unset]) rfl k) ?_
    refine own_go (W1 := T2.setTop (mkF m 28 #[.val (.int p1), .val (.long q1), .second, .val (.int p2), .val (.long q2), .second, .val (.int (0 : Int32)), .val (.ref pp), .unset, .unset, .unset, .unset, .unset] [(.ref pp)])) (fun t k => XS.aload X2.here hx rfl (hb hby at_26) rfl rfl  k) ?_
    refine own_go (W1 := T2.setTop (mkF m 30 #[.val (.int p1), .val (.long q1), .second, .val (.int p2), .val (.long q2), .second, .val (.int (0 : Int32)), .val (.ref pp), .unset, .unset, .unset, .unset, .unset] [(.long q2), (.ref pp)])) (fun t k => XS.lload X2.here hx rfl (hb hby at_28) rfl  k) ?_
    obtain ⟨cq3, kq3, q3a, q3b, q3c⟩ := isOf hZ (rfl : T2.heap = T2.heap) E_pp
    obtain ⟨_, _, ⟨T3, L3, k3, n3⟩, -, X3, ⟨Lc3, hQ3, l3, y3, z3⟩, st3⟩ := X2.virtualBack hx (y := (⟨"com/example/tenorbook/tenorbook/book/BookPage", "startingAt", "(J)Lcom/example/tenorbook/tenorbook/book/BookPage;"⟩ : MethodName)) (z := (⟨"com/example/tenorbook/tenorbook/book/BookPage", "startingAt", "(J)Lcom/example/tenorbook/tenorbook/book/BookPage;"⟩ : MethodName)) hown (mvT hZ (hw _ (List.mem_of_getElem? (i := 20) rfl))) (mvT hZ (hw _ (List.mem_of_getElem? (i := 21) rfl))) (notFace_of_selects (args := #[]) (mvT hZ (hw _ (List.mem_of_getElem? (i := 23) rfl)))) (mvT hZ (hw _ (List.mem_of_getElem? (i := 23) rfl))) (mvT hZ (hw _ (List.mem_of_getElem? (i := 22) rfl))) (by decide) (backOf (W := 0) (rm4 l Z a0 hw [] pp q2 p2 T2.heap n0 Z2 F_size_pp) hZ (hw _ (List.mem_of_getElem? (i := 24) rfl)) (hw _ (List.mem_of_getElem? (i := 2) rfl)) (by decide) (by decide)) q3a q3c (g := (mkF m 30 #[.val (.int p1), .val (.long q1), .second, .val (.int p2), .val (.long q2), .second, .val (.int (0 : Int32)), .val (.ref pp), .unset, .unset, .unset, .unset, .unset] [(.long q2), (.ref pp)])) rfl (by rw [hml]; rfl) (Steps.refl _) (argsL := [(.long q2)]) (rest := []) (lenOf own_pd2 rfl) rfl (by show 2 * 0 + _ ≤ _; exact Nat.le_of_eq rfl) (hb hby at_30) (fun _ _ => ⟨rfl, (rfl : T2.heap = T2.heap), (by decide : 1 + 1 ≤ _), (by decide : 3 + 3 ≤ _)⟩)
    dsimp only [Pt.U, Pt.locs, Pt.cells, Pt.slots] at X3 l3 y3 z3 st3 hQ3
    subst l3 y3 z3
    obtain ⟨qq, rfl, Nq3, Kq3, gq3, Eq3, Fa3, Fb3, Fc3⟩ := hQ3
    have ne_pp_qq : pp ≠ qq := Nat.ne_of_lt (Nat.lt_of_lt_of_le E_pp.lt gq3)
    have E_pp := E_pp.keep Kq3
    have F_backwards_pp := F_backwards_pp.keep Kq3 nin0
    have F_bound_pp := F_bound_pp.keep Kq3 nin0
    have F_size_pp := F_size_pp.keep Kq3 nin0
    have Z3 : n0 ≤ T3.heap.size := Nat.le_trans Z2 Kq3.1
    have N3 := Fr.app N2 Nq3
    have E_qq := Eq3
    have F_backwards_qq : Fld Z T3.heap qq "com/example/tenorbook/tenorbook/book/BookPage" "backwards" "Z" (.int (0 : Int32)) := Fa3
    have F_bound_qq : Fld Z T3.heap qq "com/example/tenorbook/tenorbook/book/BookPage" "bound" "J" (.long (q2 - 1)) := Fb3
    have F_size_qq : Fld Z T3.heap qq "com/example/tenorbook/tenorbook/book/BookPage" "size" "I" (.int p2) := Fc3
    refine own_tr (W1 := T3.setTop (mkF m 33 #[.val (.int p1), .val (.long q1), .second, .val (.int p2), .val (.long q2), .second, .val (.int (0 : Int32)), .val (.ref pp), .unset, .unset, .unset, .unset, .unset] [(.ref qq)])) st3 ?_
    refine own_go (W1 := T3.setTop (mkF m 35 #[.val (.int p1), .val (.long q1), .second, .val (.int p2), .val (.long q2), .second, .val (.int (0 : Int32)), .val (.ref pp), .val (.ref qq), .unset, .unset, .unset, .unset] [])) (fun t k => XS.astore X3.here hx rfl (hb hby at_33) rfl rfl (l' := #[.val (.int p1), .val (.long q1), .second, .val (.int p2), .val (.long q2), .second, .val (.int (0 : Int32)), .val (.ref pp), .val (.ref qq), .unset, .unset, .unset, .unset]) rfl k) ?_
    refine own_go (W1 := T3.setTop (mkF m 37 #[.val (.int p1), .val (.long q1), .second, .val (.int p2), .val (.long q2), .second, .val (.int (0 : Int32)), .val (.ref pp), .val (.ref qq), .unset, .unset, .unset, .unset] [(.ref qq)])) (fun t k => XS.aload X3.here hx rfl (hb hby at_35) rfl rfl  k) ?_
    obtain ⟨cq4, kq4, q4a, q4b, q4c⟩ := isOf hZ (rfl : T3.heap = T3.heap) E_qq
    obtain ⟨_, _, ⟨T4, L4, k4, n4⟩, -, X4, ⟨Lc4, hQ4, l4, y4, z4⟩, st4⟩ := X3.virtualBack hx (y := (⟨"com/example/tenorbook/tenorbook/book/BookPage", "backwards", "()Z"⟩ : MethodName)) (z := (⟨"com/example/tenorbook/tenorbook/book/BookPage", "backwards", "()Z"⟩ : MethodName)) hown (mvT hZ (hw _ (List.mem_of_getElem? (i := 27) rfl))) (mvT hZ (hw _ (List.mem_of_getElem? (i := 28) rfl))) (notFace_of_selects (args := #[]) (mvT hZ (hw _ (List.mem_of_getElem? (i := 30) rfl)))) (mvT hZ (hw _ (List.mem_of_getElem? (i := 30) rfl))) (mvT hZ (hw _ (List.mem_of_getElem? (i := 29) rfl))) (by decide) (backOf (W := 0) (rm5 l Z a0 hw [] qq (0 : Int32) T3.heap n0 Z3 F_backwards_qq rfl) hZ (hw _ (List.mem_of_getElem? (i := 31) rfl)) (hw _ (List.mem_of_getElem? (i := 2) rfl)) (by decide) (by decide)) q4a q4c (g := (mkF m 37 #[.val (.int p1), .val (.long q1), .second, .val (.int p2), .val (.long q2), .second, .val (.int (0 : Int32)), .val (.ref pp), .val (.ref qq), .unset, .unset, .unset, .unset] [(.ref qq)])) rfl (by rw [hml]; rfl) (Steps.refl _) (argsL := []) (rest := []) (lenOf own_pd3 rfl) rfl (by show 2 * 0 + _ ≤ _; exact Nat.le_of_eq rfl) (hb hby at_37) (fun _ _ => ⟨rfl, (rfl : T3.heap = T3.heap), (by decide : 2 + 0 ≤ _), (by decide : 6 + 0 ≤ _)⟩)
    dsimp only [Pt.U, Pt.locs, Pt.cells, Pt.slots] at X4 l4 y4 z4 st4 hQ4
    subst l4 y4 z4
    obtain ⟨rfl, Nq4, eh4⟩ := hQ4
    have N4 := Fr.app N3 Nq4
    refine own_tr (W1 := T4.setTop (mkF m 40 #[.val (.int p1), .val (.long q1), .second, .val (.int p2), .val (.long q2), .second, .val (.int (0 : Int32)), .val (.ref pp), .val (.ref qq), .unset, .unset, .unset, .unset] [(.int (0 : Int32))])) st4 ?_
    refine own_go (W1 := T4.setTop (mkF m 43 #[.val (.int p1), .val (.long q1), .second, .val (.int p2), .val (.long q2), .second, .val (.int (0 : Int32)), .val (.ref pp), .val (.ref qq), .unset, .unset, .unset, .unset] [])) (fun t k => XS.ifNo X4.here hx rfl (hb hby at_40) rfl ((if0 _ _).trans (teq (show (0 : Int32) = (0 : Int32) from (by decide))).2) k) ?_
    refine own_go (W1 := T4.setTop (mkF m 44 #[.val (.int p1), .val (.long q1), .second, .val (.int p2), .val (.long q2), .second, .val (.int (0 : Int32)), .val (.ref pp), .val (.ref qq), .unset, .unset, .unset, .unset] [(.int (1 : Int32))])) (fun t k => XS.iconst X4.here hx rfl (hb hby at_43) k) ?_
    refine own_go (W1 := T4.setTop (mkF m 48 #[.val (.int p1), .val (.long q1), .second, .val (.int p2), .val (.long q2), .second, .val (.int (0 : Int32)), .val (.ref pp), .val (.ref qq), .unset, .unset, .unset, .unset] [(.int (1 : Int32))])) (fun t k => XS.goto X4.here hx rfl (pc0 := 44) (pc' := 48) rfl (hb hby at_44) (by decide) (by decide) k) ?_
    refine own_go (W1 := T4.setTop (mkF m 50 #[.val (.int p1), .val (.long q1), .second, .val (.int p2), .val (.long q2), .second, .val (.int (0 : Int32)), .val (.ref pp), .val (.ref qq), .val (.int (1 : Int32)), .unset, .unset, .unset] [])) (fun t k => XS.istore X4.here hx rfl (hb hby at_48) rfl (l' := #[.val (.int p1), .val (.long q1), .second, .val (.int p2), .val (.long q2), .second, .val (.int (0 : Int32)), .val (.ref pp), .val (.ref qq), .val (.int (1 : Int32)), .unset, .unset, .unset]) rfl k) ?_
    refine own_go (W1 := T4.setTop (mkF m 52 #[.val (.int p1), .val (.long q1), .second, .val (.int p2), .val (.long q2), .second, .val (.int (0 : Int32)), .val (.ref pp), .val (.ref qq), .val (.int (1 : Int32)), .unset, .unset, .unset] [(.ref qq)])) (fun t k => XS.aload X4.here hx rfl (hb hby at_50) rfl rfl  k) ?_
    obtain ⟨cq5, kq5, q5a, q5b, q5c⟩ := isOf hZ eh4 E_qq
    obtain ⟨_, _, ⟨T5, L5, k5, n5⟩, -, X5, ⟨Lc5, hQ5, l5, y5, z5⟩, st5⟩ := X4.virtualBack hx (y := (⟨"com/example/tenorbook/tenorbook/book/BookPage", "bound", "()J"⟩ : MethodName)) (z := (⟨"com/example/tenorbook/tenorbook/book/BookPage", "bound", "()J"⟩ : MethodName)) hown (mvT hZ (hw _ (List.mem_of_getElem? (i := 32) rfl))) (mvT hZ (hw _ (List.mem_of_getElem? (i := 33) rfl))) (notFace_of_selects (args := #[]) (mvT hZ (hw _ (List.mem_of_getElem? (i := 35) rfl)))) (mvT hZ (hw _ (List.mem_of_getElem? (i := 35) rfl))) (mvT hZ (hw _ (List.mem_of_getElem? (i := 34) rfl))) (by decide) (backOf (W := 0) (rm6 l Z a0 hw [] qq (q2 - 1) T3.heap n0 Z3 F_bound_qq) hZ (hw _ (List.mem_of_getElem? (i := 36) rfl)) (hw _ (List.mem_of_getElem? (i := 2) rfl)) (by decide) (by decide)) q5a q5c (g := (mkF m 52 #[.val (.int p1), .val (.long q1), .second, .val (.int p2), .val (.long q2), .second, .val (.int (0 : Int32)), .val (.ref pp), .val (.ref qq), .val (.int (1 : Int32)), .unset, .unset, .unset] [(.ref qq)])) rfl (by rw [hml]; rfl) (Steps.refl _) (argsL := []) (rest := []) (lenOf own_pd4 rfl) rfl (by show 2 * 0 + _ ≤ _; exact Nat.le_of_eq rfl) (hb hby at_52) (fun _ _ => ⟨rfl, eh4, (by decide : 2 + 0 ≤ _), (by decide : 6 + 0 ≤ _)⟩)
    dsimp only [Pt.U, Pt.locs, Pt.cells, Pt.slots] at X5 l5 y5 z5 st5 hQ5
    subst l5 y5 z5
    obtain ⟨rfl, Nq5, eh5⟩ := hQ5
    have N5 := Fr.app N4 Nq5
    refine own_tr (W1 := T5.setTop (mkF m 55 #[.val (.int p1), .val (.long q1), .second, .val (.int p2), .val (.long q2), .second, .val (.int (0 : Int32)), .val (.ref pp), .val (.ref qq), .val (.int (1 : Int32)), .unset, .unset, .unset] [(.long (q2 - 1))])) st5 ?_
    refine own_go (W1 := T5.setTop (mkF m 56 #[.val (.int p1), .val (.long q1), .second, .val (.int p2), .val (.long q2), .second, .val (.int (0 : Int32)), .val (.ref pp), .val (.ref qq), .val (.int (1 : Int32)), .unset, .unset, .unset] [(.long (1 : Int64)), (.long (q2 - 1))])) (fun t k => XS.lconst X5.here hx rfl (hb hby at_55) k) ?_
    refine own_go (W1 := T5.setTop (mkF m 57 #[.val (.int p1), .val (.long q1), .second, .val (.int p2), .val (.long q2), .second, .val (.int (0 : Int32)), .val (.ref pp), .val (.ref qq), .val (.int (1 : Int32)), .unset, .unset, .unset] [(.long ((q2 - 1) + (1 : Int64)))])) (fun t k => XS.ladd X5.here hx rfl (hb hby at_56) rfl k) ?_
    refine own_go (W1 := T5.setTop (mkF m 59 #[.val (.int p1), .val (.long q1), .second, .val (.int p2), .val (.long q2), .second, .val (.int (0 : Int32)), .val (.ref pp), .val (.ref qq), .val (.int (1 : Int32)), .unset, .unset, .unset] [(.long q2), (.long ((q2 - 1) + (1 : Int64)))])) (fun t k => XS.lload X5.here hx rfl (hb hby at_57) rfl  k) ?_
    refine own_go (W1 := T5.setTop (mkF m 60 #[.val (.int p1), .val (.long q1), .second, .val (.int p2), .val (.long q2), .second, .val (.int (0 : Int32)), .val (.ref pp), .val (.ref qq), .val (.int (1 : Int32)), .unset, .unset, .unset] [(.int (lcmpW ((q2 - 1) + (1 : Int64)) q2))])) (fun t k => XS.lcmp X5.here hx rfl (hb hby at_59) rfl k) ?_
    refine own_go (W1 := T5.setTop (mkF m 63 #[.val (.int p1), .val (.long q1), .second, .val (.int p2), .val (.long q2), .second, .val (.int (0 : Int32)), .val (.ref pp), .val (.ref qq), .val (.int (1 : Int32)), .unset, .unset, .unset] [])) (fun t k => XS.ifNo X5.here hx rfl (hb hby at_60) rfl ((if0 _ _).trans (teq (show (lcmpW ((q2 - 1) + (1 : Int64)) q2) = (0 : Int32) from own_back q2)).2) k) ?_
    refine own_go (W1 := T5.setTop (mkF m 64 #[.val (.int p1), .val (.long q1), .second, .val (.int p2), .val (.long q2), .second, .val (.int (0 : Int32)), .val (.ref pp), .val (.ref qq), .val (.int (1 : Int32)), .unset, .unset, .unset] [(.int (1 : Int32))])) (fun t k => XS.iconst X5.here hx rfl (hb hby at_63) k) ?_
    refine own_go (W1 := T5.setTop (mkF m 68 #[.val (.int p1), .val (.long q1), .second, .val (.int p2), .val (.long q2), .second, .val (.int (0 : Int32)), .val (.ref pp), .val (.ref qq), .val (.int (1 : Int32)), .unset, .unset, .unset] [(.int (1 : Int32))])) (fun t k => XS.goto X5.here hx rfl (pc0 := 64) (pc' := 68) rfl (hb hby at_64) (by decide) (by decide) k) ?_
    refine own_go (W1 := T5.setTop (mkF m 70 #[.val (.int p1), .val (.long q1), .second, .val (.int p2), .val (.long q2), .second, .val (.int (0 : Int32)), .val (.ref pp), .val (.ref qq), .val (.int (1 : Int32)), .val (.int (1 : Int32)), .unset, .unset] [])) (fun t k => XS.istore X5.here hx rfl (hb hby at_68) rfl (l' := #[.val (.int p1), .val (.long q1), .second, .val (.int p2), .val (.long q2), .second, .val (.int (0 : Int32)), .val (.ref pp), .val (.ref qq), .val (.int (1 : Int32)), .val (.int (1 : Int32)), .unset, .unset]) rfl k) ?_
    refine own_go (W1 := T5.setTop (mkF m 72 #[.val (.int p1), .val (.long q1), .second, .val (.int p2), .val (.long q2), .second, .val (.int (0 : Int32)), .val (.ref pp), .val (.ref qq), .val (.int (1 : Int32)), .val (.int (1 : Int32)), .unset, .unset] [(.ref qq)])) (fun t k => XS.aload X5.here hx rfl (hb hby at_70) rfl rfl  k) ?_
    obtain ⟨cq6, kq6, q6a, q6b, q6c⟩ := isOf hZ eh5 E_qq
    obtain ⟨_, _, ⟨T6, L6, k6, n6⟩, -, X6, ⟨Lc6, hQ6, l6, y6, z6⟩, st6⟩ := X5.virtualBack hx (y := (⟨"com/example/tenorbook/tenorbook/book/BookPage", "size", "()I"⟩ : MethodName)) (z := (⟨"com/example/tenorbook/tenorbook/book/BookPage", "size", "()I"⟩ : MethodName)) hown (mvT hZ (hw _ (List.mem_of_getElem? (i := 37) rfl))) (mvT hZ (hw _ (List.mem_of_getElem? (i := 38) rfl))) (notFace_of_selects (args := #[]) (mvT hZ (hw _ (List.mem_of_getElem? (i := 40) rfl)))) (mvT hZ (hw _ (List.mem_of_getElem? (i := 40) rfl))) (mvT hZ (hw _ (List.mem_of_getElem? (i := 39) rfl))) (by decide) (backOf (W := 0) (rm7 l Z a0 hw [] qq p2 T3.heap n0 Z3 F_size_qq) hZ (hw _ (List.mem_of_getElem? (i := 41) rfl)) (hw _ (List.mem_of_getElem? (i := 2) rfl)) (by decide) (by decide)) q6a q6c (g := (mkF m 72 #[.val (.int p1), .val (.long q1), .second, .val (.int p2), .val (.long q2), .second, .val (.int (0 : Int32)), .val (.ref pp), .val (.ref qq), .val (.int (1 : Int32)), .val (.int (1 : Int32)), .unset, .unset] [(.ref qq)])) rfl (by rw [hml]; rfl) (Steps.refl _) (argsL := []) (rest := []) (lenOf own_pd5 rfl) rfl (by show 2 * 0 + _ ≤ _; exact Nat.le_of_eq rfl) (hb hby at_72) (fun _ _ => ⟨rfl, eh5, (by decide : 2 + 0 ≤ _), (by decide : 6 + 0 ≤ _)⟩)
    dsimp only [Pt.U, Pt.locs, Pt.cells, Pt.slots] at X6 l6 y6 z6 st6 hQ6
    subst l6 y6 z6
    obtain ⟨rfl, Nq6, eh6⟩ := hQ6
    have N6 := Fr.app N5 Nq6
    refine own_tr (W1 := T6.setTop (mkF m 75 #[.val (.int p1), .val (.long q1), .second, .val (.int p2), .val (.long q2), .second, .val (.int (0 : Int32)), .val (.ref pp), .val (.ref qq), .val (.int (1 : Int32)), .val (.int (1 : Int32)), .unset, .unset] [(.int p2)])) st6 ?_
    refine own_go (W1 := T6.setTop (mkF m 76 #[.val (.int p1), .val (.long q1), .second, .val (.int p2), .val (.long q2), .second, .val (.int (0 : Int32)), .val (.ref pp), .val (.ref qq), .val (.int (1 : Int32)), .val (.int (1 : Int32)), .unset, .unset] [(.int p2), (.int p2)])) (fun t k => XS.iloadN X6.here hx rfl (hb hby at_75) rfl  k) ?_
    refine own_go (W1 := T6.setTop (mkF m 79 #[.val (.int p1), .val (.long q1), .second, .val (.int p2), .val (.long q2), .second, .val (.int (0 : Int32)), .val (.ref pp), .val (.ref qq), .val (.int (1 : Int32)), .val (.int (1 : Int32)), .unset, .unset] [])) (fun t k => XS.icmpNo X6.here hx rfl (hb hby at_76) rfl (teq (show p2 = p2 from rfl)).2 k) ?_
    refine own_go (W1 := T6.setTop (mkF m 80 #[.val (.int p1), .val (.long q1), .second, .val (.int p2), .val (.long q2), .second, .val (.int (0 : Int32)), .val (.ref pp), .val (.ref qq), .val (.int (1 : Int32)), .val (.int (1 : Int32)), .unset, .unset] [(.int (1 : Int32))])) (fun t k => XS.iconst X6.here hx rfl (hb hby at_79) k) ?_
    refine own_go (W1 := T6.setTop (mkF m 84 #[.val (.int p1), .val (.long q1), .second, .val (.int p2), .val (.long q2), .second, .val (.int (0 : Int32)), .val (.ref pp), .val (.ref qq), .val (.int (1 : Int32)), .val (.int (1 : Int32)), .unset, .unset] [(.int (1 : Int32))])) (fun t k => XS.goto X6.here hx rfl (pc0 := 80) (pc' := 84) rfl (hb hby at_80) (by decide) (by decide) k) ?_
    refine own_go (W1 := T6.setTop (mkF m 86 #[.val (.int p1), .val (.long q1), .second, .val (.int p2), .val (.long q2), .second, .val (.int (0 : Int32)), .val (.ref pp), .val (.ref qq), .val (.int (1 : Int32)), .val (.int (1 : Int32)), .val (.int (1 : Int32)), .unset] [])) (fun t k => XS.istore X6.here hx rfl (hb hby at_84) rfl (l' := #[.val (.int p1), .val (.long q1), .second, .val (.int p2), .val (.long q2), .second, .val (.int (0 : Int32)), .val (.ref pp), .val (.ref qq), .val (.int (1 : Int32)), .val (.int (1 : Int32)), .val (.int (1 : Int32)), .unset]) rfl k) ?_
    refine own_go (W1 := T6.setTop (mkF m 88 #[.val (.int p1), .val (.long q1), .second, .val (.int p2), .val (.long q2), .second, .val (.int (0 : Int32)), .val (.ref pp), .val (.ref qq), .val (.int (1 : Int32)), .val (.int (1 : Int32)), .val (.int (1 : Int32)), .unset] [(.ref pp)])) (fun t k => XS.aload X6.here hx rfl (hb hby at_86) rfl rfl  k) ?_
    obtain ⟨cq7, kq7, q7a, q7b, q7c⟩ := isOf hZ eh6 E_pp
    obtain ⟨_, _, ⟨T7, L7, k7, n7⟩, -, X7, ⟨Lc7, hQ7, l7, y7, z7⟩, st7⟩ := X6.virtualBack hx (y := (⟨"com/example/tenorbook/tenorbook/book/BookPage", "backwards", "()Z"⟩ : MethodName)) (z := (⟨"com/example/tenorbook/tenorbook/book/BookPage", "backwards", "()Z"⟩ : MethodName)) hown (mvT hZ (hw _ (List.mem_of_getElem? (i := 27) rfl))) (mvT hZ (hw _ (List.mem_of_getElem? (i := 28) rfl))) (notFace_of_selects (args := #[]) (mvT hZ (hw _ (List.mem_of_getElem? (i := 30) rfl)))) (mvT hZ (hw _ (List.mem_of_getElem? (i := 30) rfl))) (mvT hZ (hw _ (List.mem_of_getElem? (i := 29) rfl))) (by decide) (backOf (W := 0) (rm5 l Z a0 hw [] pp (0 : Int32) T3.heap n0 Z3 F_backwards_pp rfl) hZ (hw _ (List.mem_of_getElem? (i := 31) rfl)) (hw _ (List.mem_of_getElem? (i := 2) rfl)) (by decide) (by decide)) q7a q7c (g := (mkF m 88 #[.val (.int p1), .val (.long q1), .second, .val (.int p2), .val (.long q2), .second, .val (.int (0 : Int32)), .val (.ref pp), .val (.ref qq), .val (.int (1 : Int32)), .val (.int (1 : Int32)), .val (.int (1 : Int32)), .unset] [(.ref pp)])) rfl (by rw [hml]; rfl) (Steps.refl _) (argsL := []) (rest := []) (lenOf own_pd3 rfl) rfl (by show 2 * 0 + _ ≤ _; exact Nat.le_of_eq rfl) (hb hby at_88) (fun _ _ => ⟨rfl, eh6, (by decide : 2 + 0 ≤ _), (by decide : 6 + 0 ≤ _)⟩)
    dsimp only [Pt.U, Pt.locs, Pt.cells, Pt.slots] at X7 l7 y7 z7 st7 hQ7
    subst l7 y7 z7
    obtain ⟨rfl, Nq7, eh7⟩ := hQ7
    have N7 := Fr.app N6 Nq7
    refine own_tr (W1 := T7.setTop (mkF m 91 #[.val (.int p1), .val (.long q1), .second, .val (.int p2), .val (.long q2), .second, .val (.int (0 : Int32)), .val (.ref pp), .val (.ref qq), .val (.int (1 : Int32)), .val (.int (1 : Int32)), .val (.int (1 : Int32)), .unset] [(.int (0 : Int32))])) st7 ?_
    refine own_go (W1 := T7.setTop (mkF m 93 #[.val (.int p1), .val (.long q1), .second, .val (.int p2), .val (.long q2), .second, .val (.int (0 : Int32)), .val (.ref pp), .val (.ref qq), .val (.int (1 : Int32)), .val (.int (1 : Int32)), .val (.int (1 : Int32)), .unset] [(.int (0 : Int32)), (.int (0 : Int32))])) (fun t k => XS.iload X7.here hx rfl (hb hby at_91) rfl  k) ?_
    refine own_go (W1 := T7.setTop (mkF m 96 #[.val (.int p1), .val (.long q1), .second, .val (.int p2), .val (.long q2), .second, .val (.int (0 : Int32)), .val (.ref pp), .val (.ref qq), .val (.int (1 : Int32)), .val (.int (1 : Int32)), .val (.int (1 : Int32)), .unset] [])) (fun t k => XS.icmpNo X7.here hx rfl (hb hby at_93) rfl (teq (show (0 : Int32) = (0 : Int32) from (by decide))).2 k) ?_
    refine own_go (W1 := T7.setTop (mkF m 98 #[.val (.int p1), .val (.long q1), .second, .val (.int p2), .val (.long q2), .second, .val (.int (0 : Int32)), .val (.ref pp), .val (.ref qq), .val (.int (1 : Int32)), .val (.int (1 : Int32)), .val (.int (1 : Int32)), .unset] [(.ref pp)])) (fun t k => XS.aload X7.here hx rfl (hb hby at_96) rfl rfl  k) ?_
    obtain ⟨cq8, kq8, q8a, q8b, q8c⟩ := isOf hZ eh7 E_pp
    obtain ⟨_, _, ⟨T8, L8, k8, n8⟩, -, X8, ⟨Lc8, hQ8, l8, y8, z8⟩, st8⟩ := X7.virtualBack hx (y := (⟨"com/example/tenorbook/tenorbook/book/BookPage", "bound", "()J"⟩ : MethodName)) (z := (⟨"com/example/tenorbook/tenorbook/book/BookPage", "bound", "()J"⟩ : MethodName)) hown (mvT hZ (hw _ (List.mem_of_getElem? (i := 32) rfl))) (mvT hZ (hw _ (List.mem_of_getElem? (i := 33) rfl))) (notFace_of_selects (args := #[]) (mvT hZ (hw _ (List.mem_of_getElem? (i := 35) rfl)))) (mvT hZ (hw _ (List.mem_of_getElem? (i := 35) rfl))) (mvT hZ (hw _ (List.mem_of_getElem? (i := 34) rfl))) (by decide) (backOf (W := 0) (rm6 l Z a0 hw [] pp q1 T3.heap n0 Z3 F_bound_pp) hZ (hw _ (List.mem_of_getElem? (i := 36) rfl)) (hw _ (List.mem_of_getElem? (i := 2) rfl)) (by decide) (by decide)) q8a q8c (g := (mkF m 98 #[.val (.int p1), .val (.long q1), .second, .val (.int p2), .val (.long q2), .second, .val (.int (0 : Int32)), .val (.ref pp), .val (.ref qq), .val (.int (1 : Int32)), .val (.int (1 : Int32)), .val (.int (1 : Int32)), .unset] [(.ref pp)])) rfl (by rw [hml]; rfl) (Steps.refl _) (argsL := []) (rest := []) (lenOf own_pd4 rfl) rfl (by show 2 * 0 + _ ≤ _; exact Nat.le_of_eq rfl) (hb hby at_98) (fun _ _ => ⟨rfl, eh7, (by decide : 2 + 0 ≤ _), (by decide : 6 + 0 ≤ _)⟩)
    dsimp only [Pt.U, Pt.locs, Pt.cells, Pt.slots] at X8 l8 y8 z8 st8 hQ8
    subst l8 y8 z8
    obtain ⟨rfl, Nq8, eh8⟩ := hQ8
    have N8 := Fr.app N7 Nq8
    refine own_tr (W1 := T8.setTop (mkF m 101 #[.val (.int p1), .val (.long q1), .second, .val (.int p2), .val (.long q2), .second, .val (.int (0 : Int32)), .val (.ref pp), .val (.ref qq), .val (.int (1 : Int32)), .val (.int (1 : Int32)), .val (.int (1 : Int32)), .unset] [(.long q1)])) st8 ?_
    refine own_go (W1 := T8.setTop (mkF m 102 #[.val (.int p1), .val (.long q1), .second, .val (.int p2), .val (.long q2), .second, .val (.int (0 : Int32)), .val (.ref pp), .val (.ref qq), .val (.int (1 : Int32)), .val (.int (1 : Int32)), .val (.int (1 : Int32)), .unset] [(.long q1), (.long q1)])) (fun t k => XS.lloadN X8.here hx rfl (hb hby at_101) rfl  k) ?_
    refine own_go (W1 := T8.setTop (mkF m 103 #[.val (.int p1), .val (.long q1), .second, .val (.int p2), .val (.long q2), .second, .val (.int (0 : Int32)), .val (.ref pp), .val (.ref qq), .val (.int (1 : Int32)), .val (.int (1 : Int32)), .val (.int (1 : Int32)), .unset] [(.int (lcmpW q1 q1))])) (fun t k => XS.lcmp X8.here hx rfl (hb hby at_102) rfl k) ?_
    refine own_go (W1 := T8.setTop (mkF m 106 #[.val (.int p1), .val (.long q1), .second, .val (.int p2), .val (.long q2), .second, .val (.int (0 : Int32)), .val (.ref pp), .val (.ref qq), .val (.int (1 : Int32)), .val (.int (1 : Int32)), .val (.int (1 : Int32)), .unset] [])) (fun t k => XS.ifNo X8.here hx rfl (hb hby at_103) rfl ((if0 _ _).trans (teq (show (lcmpW q1 q1) = (0 : Int32) from ((lw_eq _ _).mpr rfl))).2) k) ?_
    refine own_go (W1 := T8.setTop (mkF m 108 #[.val (.int p1), .val (.long q1), .second, .val (.int p2), .val (.long q2), .second, .val (.int (0 : Int32)), .val (.ref pp), .val (.ref qq), .val (.int (1 : Int32)), .val (.int (1 : Int32)), .val (.int (1 : Int32)), .unset] [(.ref pp)])) (fun t k => XS.aload X8.here hx rfl (hb hby at_106) rfl rfl  k) ?_
    obtain ⟨cq9, kq9, q9a, q9b, q9c⟩ := isOf hZ eh8 E_pp
    obtain ⟨_, _, ⟨T9, L9, k9, n9⟩, -, X9, ⟨Lc9, hQ9, l9, y9, z9⟩, st9⟩ := X8.virtualBack hx (y := (⟨"com/example/tenorbook/tenorbook/book/BookPage", "size", "()I"⟩ : MethodName)) (z := (⟨"com/example/tenorbook/tenorbook/book/BookPage", "size", "()I"⟩ : MethodName)) hown (mvT hZ (hw _ (List.mem_of_getElem? (i := 37) rfl))) (mvT hZ (hw _ (List.mem_of_getElem? (i := 38) rfl))) (notFace_of_selects (args := #[]) (mvT hZ (hw _ (List.mem_of_getElem? (i := 40) rfl)))) (mvT hZ (hw _ (List.mem_of_getElem? (i := 40) rfl))) (mvT hZ (hw _ (List.mem_of_getElem? (i := 39) rfl))) (by decide) (backOf (W := 0) (rm7 l Z a0 hw [] pp p2 T3.heap n0 Z3 F_size_pp) hZ (hw _ (List.mem_of_getElem? (i := 41) rfl)) (hw _ (List.mem_of_getElem? (i := 2) rfl)) (by decide) (by decide)) q9a q9c (g := (mkF m 108 #[.val (.int p1), .val (.long q1), .second, .val (.int p2), .val (.long q2), .second, .val (.int (0 : Int32)), .val (.ref pp), .val (.ref qq), .val (.int (1 : Int32)), .val (.int (1 : Int32)), .val (.int (1 : Int32)), .unset] [(.ref pp)])) rfl (by rw [hml]; rfl) (Steps.refl _) (argsL := []) (rest := []) (lenOf own_pd5 rfl) rfl (by show 2 * 0 + _ ≤ _; exact Nat.le_of_eq rfl) (hb hby at_108) (fun _ _ => ⟨rfl, eh8, (by decide : 2 + 0 ≤ _), (by decide : 6 + 0 ≤ _)⟩)
    dsimp only [Pt.U, Pt.locs, Pt.cells, Pt.slots] at X9 l9 y9 z9 st9 hQ9
    subst l9 y9 z9
    obtain ⟨rfl, Nq9, eh9⟩ := hQ9
    have N9 := Fr.app N8 Nq9
    refine own_tr (W1 := T9.setTop (mkF m 111 #[.val (.int p1), .val (.long q1), .second, .val (.int p2), .val (.long q2), .second, .val (.int (0 : Int32)), .val (.ref pp), .val (.ref qq), .val (.int (1 : Int32)), .val (.int (1 : Int32)), .val (.int (1 : Int32)), .unset] [(.int p2)])) st9 ?_
    refine own_go (W1 := T9.setTop (mkF m 112 #[.val (.int p1), .val (.long q1), .second, .val (.int p2), .val (.long q2), .second, .val (.int (0 : Int32)), .val (.ref pp), .val (.ref qq), .val (.int (1 : Int32)), .val (.int (1 : Int32)), .val (.int (1 : Int32)), .unset] [(.int p2), (.int p2)])) (fun t k => XS.iloadN X9.here hx rfl (hb hby at_111) rfl  k) ?_
    refine own_go (W1 := T9.setTop (mkF m 115 #[.val (.int p1), .val (.long q1), .second, .val (.int p2), .val (.long q2), .second, .val (.int (0 : Int32)), .val (.ref pp), .val (.ref qq), .val (.int (1 : Int32)), .val (.int (1 : Int32)), .val (.int (1 : Int32)), .unset] [])) (fun t k => XS.icmpNo X9.here hx rfl (hb hby at_112) rfl (teq (show p2 = p2 from rfl)).2 k) ?_
    refine own_go (W1 := T9.setTop (mkF m 116 #[.val (.int p1), .val (.long q1), .second, .val (.int p2), .val (.long q2), .second, .val (.int (0 : Int32)), .val (.ref pp), .val (.ref qq), .val (.int (1 : Int32)), .val (.int (1 : Int32)), .val (.int (1 : Int32)), .unset] [(.int (1 : Int32))])) (fun t k => XS.iconst X9.here hx rfl (hb hby at_115) k) ?_
    refine own_go (W1 := T9.setTop (mkF m 120 #[.val (.int p1), .val (.long q1), .second, .val (.int p2), .val (.long q2), .second, .val (.int (0 : Int32)), .val (.ref pp), .val (.ref qq), .val (.int (1 : Int32)), .val (.int (1 : Int32)), .val (.int (1 : Int32)), .unset] [(.int (1 : Int32))])) (fun t k => XS.goto X9.here hx rfl (pc0 := 116) (pc' := 120) rfl (hb hby at_116) (by decide) (by decide) k) ?_
    refine own_go (W1 := T9.setTop (mkF m 122 #[.val (.int p1), .val (.long q1), .second, .val (.int p2), .val (.long q2), .second, .val (.int (0 : Int32)), .val (.ref pp), .val (.ref qq), .val (.int (1 : Int32)), .val (.int (1 : Int32)), .val (.int (1 : Int32)), .val (.int (1 : Int32))] [])) (fun t k => XS.istore X9.here hx rfl (hb hby at_120) rfl (l' := #[.val (.int p1), .val (.long q1), .second, .val (.int p2), .val (.long q2), .second, .val (.int (0 : Int32)), .val (.ref pp), .val (.ref qq), .val (.int (1 : Int32)), .val (.int (1 : Int32)), .val (.int (1 : Int32)), .val (.int (1 : Int32))]) rfl k) ?_
    refine own_go (W1 := T9.setTop (mkF m 124 #[.val (.int p1), .val (.long q1), .second, .val (.int p2), .val (.long q2), .second, .val (.int (0 : Int32)), .val (.ref pp), .val (.ref qq), .val (.int (1 : Int32)), .val (.int (1 : Int32)), .val (.int (1 : Int32)), .val (.int (1 : Int32))] [(.int (1 : Int32))])) (fun t k => XS.iload X9.here hx rfl (hb hby at_122) rfl  k) ?_
    refine own_go (W1 := T9.setTop (mkF m 127 #[.val (.int p1), .val (.long q1), .second, .val (.int p2), .val (.long q2), .second, .val (.int (0 : Int32)), .val (.ref pp), .val (.ref qq), .val (.int (1 : Int32)), .val (.int (1 : Int32)), .val (.int (1 : Int32)), .val (.int (1 : Int32))] [])) (fun t k => XS.ifNo X9.here hx rfl (hb hby at_124) rfl ((if0 _ _).trans (feq (show ¬ ((1 : Int32) = (0 : Int32)) from (by decide))).1) k) ?_
    refine own_go (W1 := T9.setTop (mkF m 129 #[.val (.int p1), .val (.long q1), .second, .val (.int p2), .val (.long q2), .second, .val (.int (0 : Int32)), .val (.ref pp), .val (.ref qq), .val (.int (1 : Int32)), .val (.int (1 : Int32)), .val (.int (1 : Int32)), .val (.int (1 : Int32))] [(.int (1 : Int32))])) (fun t k => XS.iload X9.here hx rfl (hb hby at_127) rfl  k) ?_
    refine own_go (W1 := T9.setTop (mkF m 132 #[.val (.int p1), .val (.long q1), .second, .val (.int p2), .val (.long q2), .second, .val (.int (0 : Int32)), .val (.ref pp), .val (.ref qq), .val (.int (1 : Int32)), .val (.int (1 : Int32)), .val (.int (1 : Int32)), .val (.int (1 : Int32))] [])) (fun t k => XS.ifNo X9.here hx rfl (hb hby at_129) rfl ((if0 _ _).trans (feq (show ¬ ((1 : Int32) = (0 : Int32)) from (by decide))).1) k) ?_
    refine own_go (W1 := T9.setTop (mkF m 134 #[.val (.int p1), .val (.long q1), .second, .val (.int p2), .val (.long q2), .second, .val (.int (0 : Int32)), .val (.ref pp), .val (.ref qq), .val (.int (1 : Int32)), .val (.int (1 : Int32)), .val (.int (1 : Int32)), .val (.int (1 : Int32))] [(.int (1 : Int32))])) (fun t k => XS.iload X9.here hx rfl (hb hby at_132) rfl  k) ?_
    refine own_go (W1 := T9.setTop (mkF m 137 #[.val (.int p1), .val (.long q1), .second, .val (.int p2), .val (.long q2), .second, .val (.int (0 : Int32)), .val (.ref pp), .val (.ref qq), .val (.int (1 : Int32)), .val (.int (1 : Int32)), .val (.int (1 : Int32)), .val (.int (1 : Int32))] [])) (fun t k => XS.ifNo X9.here hx rfl (hb hby at_134) rfl ((if0 _ _).trans (feq (show ¬ ((1 : Int32) = (0 : Int32)) from (by decide))).1) k) ?_
    refine own_go (W1 := T9.setTop (mkF m 139 #[.val (.int p1), .val (.long q1), .second, .val (.int p2), .val (.long q2), .second, .val (.int (0 : Int32)), .val (.ref pp), .val (.ref qq), .val (.int (1 : Int32)), .val (.int (1 : Int32)), .val (.int (1 : Int32)), .val (.int (1 : Int32))] [(.int (1 : Int32))])) (fun t k => XS.iload X9.here hx rfl (hb hby at_137) rfl  k) ?_
    refine own_go (W1 := T9.setTop (mkF m 142 #[.val (.int p1), .val (.long q1), .second, .val (.int p2), .val (.long q2), .second, .val (.int (0 : Int32)), .val (.ref pp), .val (.ref qq), .val (.int (1 : Int32)), .val (.int (1 : Int32)), .val (.int (1 : Int32)), .val (.int (1 : Int32))] [])) (fun t k => XS.ifNo X9.here hx rfl (hb hby at_139) rfl ((if0 _ _).trans (feq (show ¬ ((1 : Int32) = (0 : Int32)) from (by decide))).1) k) ?_
    refine own_go (W1 := T9.setTop (mkF m 143 #[.val (.int p1), .val (.long q1), .second, .val (.int p2), .val (.long q2), .second, .val (.int (0 : Int32)), .val (.ref pp), .val (.ref qq), .val (.int (1 : Int32)), .val (.int (1 : Int32)), .val (.int (1 : Int32)), .val (.int (1 : Int32))] [(.int (1 : Int32))])) (fun t k => XS.iconst X9.here hx rfl (hb hby at_142) k) ?_
    refine own_go (W1 := T9.setTop (mkF m 147 #[.val (.int p1), .val (.long q1), .second, .val (.int p2), .val (.long q2), .second, .val (.int (0 : Int32)), .val (.ref pp), .val (.ref qq), .val (.int (1 : Int32)), .val (.int (1 : Int32)), .val (.int (1 : Int32)), .val (.int (1 : Int32))] [(.int (1 : Int32))])) (fun t k => XS.goto X9.here hx rfl (pc0 := 143) (pc' := 147) rfl (hb hby at_143) (by decide) (by decide) k) ?_
    exact own_retN X9 hx (t := .boolean) Bd.returns (by simp) (hb hby at_147) hlk (by decide) (by decide) ⟨rfl, N9⟩
  · skip
    refine own_go (W1 := s₁.setTop (mkF m 6 #[.val (.int p1), .val (.long q1), .second, .val (.int p2), .val (.long q2), .second, .unset, .unset, .unset, .unset, .unset, .unset, .unset] [])) (fun t k => XS.ifNo X0.here hx rfl (hb hby at_3) rfl ((if0 _ _).trans (feq (show ¬ ((p1 &&& (1 : Int32)) = (0 : Int32)) from hc3_1)).1) k) ?_
    refine own_go (W1 := s₁.setTop (mkF m 7 #[.val (.int p1), .val (.long q1), .second, .val (.int p2), .val (.long q2), .second, .unset, .unset, .unset, .unset, .unset, .unset, .unset] [(.int (1 : Int32))])) (fun t k => XS.iconst X0.here hx rfl (hb hby at_6) k) ?_
    refine own_go (W1 := s₁.setTop (mkF m 11 #[.val (.int p1), .val (.long q1), .second, .val (.int p2), .val (.long q2), .second, .unset, .unset, .unset, .unset, .unset, .unset, .unset] [(.int (1 : Int32))])) (fun t k => XS.goto X0.here hx rfl (pc0 := 7) (pc' := 11) rfl (hb hby at_7) (by decide) (by decide) k) ?_
    refine own_go (W1 := s₁.setTop (mkF m 13 #[.val (.int p1), .val (.long q1), .second, .val (.int p2), .val (.long q2), .second, .val (.int (1 : Int32)), .unset, .unset, .unset, .unset, .unset, .unset] [])) (fun t k => XS.istore X0.here hx rfl (hb hby at_11) rfl (l' := #[.val (.int p1), .val (.long q1), .second, .val (.int p2), .val (.long q2), .second, .val (.int (1 : Int32)), .unset, .unset, .unset, .unset, .unset, .unset]) rfl k) ?_
    obtain ⟨T10, h10, X10, e10, E10, A10, D10, -, st10⟩ := newO X0 hx hZ hown (hw _ (List.mem_of_getElem? (i := 0) rfl)) (hw _ (List.mem_of_getElem? (i := 1) rfl)) (hw _ (List.mem_of_getElem? (i := 2) rfl)) e0 (g := (mkF m 13 #[.val (.int p1), .val (.long q1), .second, .val (.int p2), .val (.long q2), .second, .val (.int (1 : Int32)), .unset, .unset, .unset, .unset, .unset, .unset] [])) rfl (hb hby at_13) (by decide) (by decide)
    obtain ⟨pp, g10⟩ : ∃ z, z = h0.size := ⟨_, rfl⟩
    have ge_pp : n0 ≤ pp := Nat.le_trans Z0 (Nat.le_of_eq g10.symm)
    rw [← g10] at A10 D10 st10
    have Z10 : n0 ≤ h10.size := Nat.le_trans Z0 E10.1
    have E_pp := A10
    have F_backwards_pp : Fld Z h10 pp "com/example/tenorbook/tenorbook/book/BookPage" "backwards" "Z" (.int (0 : Int32)) := D10 (Or.inr (hw _ (List.mem_of_getElem? (i := 15) rfl))) (ty := .boolean) (by decide)
    have F_bound_pp : Fld Z h10 pp "com/example/tenorbook/tenorbook/book/BookPage" "bound" "J" (.long (0 : Int64)) := D10 (Or.inr (hw _ (List.mem_of_getElem? (i := 17) rfl))) (ty := .long) (by decide)
    have F_size_pp : Fld Z h10 pp "com/example/tenorbook/tenorbook/book/BookPage" "size" "I" (.int (0 : Int32)) := D10 (Or.inr (hw _ (List.mem_of_getElem? (i := 19) rfl))) (ty := .int) (by decide)
    refine own_go (W1 := T10.setTop (mkF m 16 #[.val (.int p1), .val (.long q1), .second, .val (.int p2), .val (.long q2), .second, .val (.int (1 : Int32)), .unset, .unset, .unset, .unset, .unset, .unset] [(.ref pp)])) (st10) ?_
    refine own_go (W1 := T10.setTop (mkF m 17 #[.val (.int p1), .val (.long q1), .second, .val (.int p2), .val (.long q2), .second, .val (.int (1 : Int32)), .unset, .unset, .unset, .unset, .unset, .unset] [(.ref pp), (.ref pp)])) (fun t k => XS.dup X10.here hx rfl (hb hby at_16) rfl rfl k) ?_
    refine own_go (W1 := T10.setTop (mkF m 19 #[.val (.int p1), .val (.long q1), .second, .val (.int p2), .val (.long q2), .second, .val (.int (1 : Int32)), .unset, .unset, .unset, .unset, .unset, .unset] [(.int (1 : Int32)), (.ref pp), (.ref pp)])) (fun t k => XS.iload X10.here hx rfl (hb hby at_17) rfl  k) ?_
    refine own_go (W1 := T10.setTop (mkF m 20 #[.val (.int p1), .val (.long q1), .second, .val (.int p2), .val (.long q2), .second, .val (.int (1 : Int32)), .unset, .unset, .unset, .unset, .unset, .unset] [(.long q1), (.int (1 : Int32)), (.ref pp), (.ref pp)])) (fun t k => XS.lloadN X10.here hx rfl (hb hby at_19) rfl  k) ?_
    refine own_go (W1 := T10.setTop (mkF m 21 #[.val (.int p1), .val (.long q1), .second, .val (.int p2), .val (.long q2), .second, .val (.int (1 : Int32)), .unset, .unset, .unset, .unset, .unset, .unset] [(.int p2), (.long q1), (.int (1 : Int32)), (.ref pp), (.ref pp)])) (fun t k => XS.iloadN X10.here hx rfl (hb hby at_20) rfl  k) ?_
    obtain ⟨_, _, ⟨T11, L11, k11, n11⟩, -, X11, ⟨Lc11, hQ11, l11, y11, z11⟩, st11⟩ := X10.specialBack hx (y := (⟨"com/example/tenorbook/tenorbook/book/BookPage", "<init>", "(ZJI)V"⟩ : MethodName)) rfl hown (mvT hZ (hw _ (List.mem_of_getElem? (i := 3) rfl))) (mvT hZ (hw _ (List.mem_of_getElem? (i := 4) rfl))) (mvT hZ (hw _ (List.mem_of_getElem? (i := 5) rfl))) (by decide) (backOf (W := 1) (rm1 l Z a0 hw [] pp (1 : Int32) q1 p2 h10 n0 Z10 E_pp F_backwards_pp F_bound_pp F_size_pp ge_pp) hZ (hw _ (List.mem_of_getElem? (i := 5) rfl)) (hw _ (List.mem_of_getElem? (i := 2) rfl)) (by decide) (by decide)) (g := (mkF m 21 #[.val (.int p1), .val (.long q1), .second, .val (.int p2), .val (.long q2), .second, .val (.int (1 : Int32)), .unset, .unset, .unset, .unset, .unset, .unset] [(.int p2), (.long q1), (.int (1 : Int32)), (.ref pp), (.ref pp)])) rfl (by rw [hml]; rfl) (Steps.refl _) (a := pp) (argsL := [(.int (1 : Int32)), (.long q1), (.int p2)]) (rest := [(.ref pp)]) (lenOf own_pd0 rfl) rfl (by show 2 * 0 + _ ≤ _; exact Nat.le_of_eq rfl) (hb hby at_21) (fun _ _ => ⟨rfl, e10, (by decide : 1 + 0 ≤ _), (by decide : 3 + 0 ≤ _)⟩)
    dsimp only [Pt.U, Pt.locs, Pt.cells, Pt.slots] at X11 l11 y11 z11 st11 hQ11
    subst l11 y11 z11
    obtain ⟨rfl, Nq11, Kq11, Eq11, Fa11, Fb11, Fc11⟩ := hQ11
    have E_pp := E_pp.keep Kq11
    have Z11 : n0 ≤ T11.heap.size := Nat.le_trans Z10 Kq11.1
    have N11 := Fr.app N0 Nq11
    have F_backwards_pp : Fld Z T11.heap pp "com/example/tenorbook/tenorbook/book/BookPage" "backwards" "Z" (.int (1 : Int32)) := Fa11
    have F_bound_pp : Fld Z T11.heap pp "com/example/tenorbook/tenorbook/book/BookPage" "bound" "J" (.long q1) := Fb11
    have F_size_pp : Fld Z T11.heap pp "com/example/tenorbook/tenorbook/book/BookPage" "size" "I" (.int p2) := Fc11
    refine own_tr (W1 := T11.setTop (mkF m 24 #[.val (.int p1), .val (.long q1), .second, .val (.int p2), .val (.long q2), .second, .val (.int (1 : Int32)), .unset, .unset, .unset, .unset, .unset, .unset] [(.ref pp)])) st11 ?_
    refine own_go (W1 := T11.setTop (mkF m 26 #[.val (.int p1), .val (.long q1), .second, .val (.int p2), .val (.long q2), .second, .val (.int (1 : Int32)), .val (.ref pp), .unset, .unset, .unset, .unset, .unset] [])) (fun t k => XS.astore X11.here hx rfl (hb hby at_24) rfl rfl (l' := #[.val (.int p1), .val (.long q1), .second, .val (.int p2), .val (.long q2), .second, .val (.int (1 : Int32)), .val (.ref pp), .unset, .unset, .unset, .unset, .unset]) rfl k) ?_
    refine own_go (W1 := T11.setTop (mkF m 28 #[.val (.int p1), .val (.long q1), .second, .val (.int p2), .val (.long q2), .second, .val (.int (1 : Int32)), .val (.ref pp), .unset, .unset, .unset, .unset, .unset] [(.ref pp)])) (fun t k => XS.aload X11.here hx rfl (hb hby at_26) rfl rfl  k) ?_
    refine own_go (W1 := T11.setTop (mkF m 30 #[.val (.int p1), .val (.long q1), .second, .val (.int p2), .val (.long q2), .second, .val (.int (1 : Int32)), .val (.ref pp), .unset, .unset, .unset, .unset, .unset] [(.long q2), (.ref pp)])) (fun t k => XS.lload X11.here hx rfl (hb hby at_28) rfl  k) ?_
    obtain ⟨cq12, kq12, q12a, q12b, q12c⟩ := isOf hZ (rfl : T11.heap = T11.heap) E_pp
    obtain ⟨_, _, ⟨T12, L12, k12, n12⟩, -, X12, ⟨Lc12, hQ12, l12, y12, z12⟩, st12⟩ := X11.virtualBack hx (y := (⟨"com/example/tenorbook/tenorbook/book/BookPage", "startingAt", "(J)Lcom/example/tenorbook/tenorbook/book/BookPage;"⟩ : MethodName)) (z := (⟨"com/example/tenorbook/tenorbook/book/BookPage", "startingAt", "(J)Lcom/example/tenorbook/tenorbook/book/BookPage;"⟩ : MethodName)) hown (mvT hZ (hw _ (List.mem_of_getElem? (i := 20) rfl))) (mvT hZ (hw _ (List.mem_of_getElem? (i := 21) rfl))) (notFace_of_selects (args := #[]) (mvT hZ (hw _ (List.mem_of_getElem? (i := 23) rfl)))) (mvT hZ (hw _ (List.mem_of_getElem? (i := 23) rfl))) (mvT hZ (hw _ (List.mem_of_getElem? (i := 22) rfl))) (by decide) (backOf (W := 0) (rm4 l Z a0 hw [] pp q2 p2 T11.heap n0 Z11 F_size_pp) hZ (hw _ (List.mem_of_getElem? (i := 24) rfl)) (hw _ (List.mem_of_getElem? (i := 2) rfl)) (by decide) (by decide)) q12a q12c (g := (mkF m 30 #[.val (.int p1), .val (.long q1), .second, .val (.int p2), .val (.long q2), .second, .val (.int (1 : Int32)), .val (.ref pp), .unset, .unset, .unset, .unset, .unset] [(.long q2), (.ref pp)])) rfl (by rw [hml]; rfl) (Steps.refl _) (argsL := [(.long q2)]) (rest := []) (lenOf own_pd2 rfl) rfl (by show 2 * 0 + _ ≤ _; exact Nat.le_of_eq rfl) (hb hby at_30) (fun _ _ => ⟨rfl, (rfl : T11.heap = T11.heap), (by decide : 1 + 1 ≤ _), (by decide : 3 + 3 ≤ _)⟩)
    dsimp only [Pt.U, Pt.locs, Pt.cells, Pt.slots] at X12 l12 y12 z12 st12 hQ12
    subst l12 y12 z12
    obtain ⟨qq, rfl, Nq12, Kq12, gq12, Eq12, Fa12, Fb12, Fc12⟩ := hQ12
    have ne_pp_qq : pp ≠ qq := Nat.ne_of_lt (Nat.lt_of_lt_of_le E_pp.lt gq12)
    have E_pp := E_pp.keep Kq12
    have F_backwards_pp := F_backwards_pp.keep Kq12 nin0
    have F_bound_pp := F_bound_pp.keep Kq12 nin0
    have F_size_pp := F_size_pp.keep Kq12 nin0
    have Z12 : n0 ≤ T12.heap.size := Nat.le_trans Z11 Kq12.1
    have N12 := Fr.app N11 Nq12
    have E_qq := Eq12
    have F_backwards_qq : Fld Z T12.heap qq "com/example/tenorbook/tenorbook/book/BookPage" "backwards" "Z" (.int (0 : Int32)) := Fa12
    have F_bound_qq : Fld Z T12.heap qq "com/example/tenorbook/tenorbook/book/BookPage" "bound" "J" (.long (q2 - 1)) := Fb12
    have F_size_qq : Fld Z T12.heap qq "com/example/tenorbook/tenorbook/book/BookPage" "size" "I" (.int p2) := Fc12
    refine own_tr (W1 := T12.setTop (mkF m 33 #[.val (.int p1), .val (.long q1), .second, .val (.int p2), .val (.long q2), .second, .val (.int (1 : Int32)), .val (.ref pp), .unset, .unset, .unset, .unset, .unset] [(.ref qq)])) st12 ?_
    refine own_go (W1 := T12.setTop (mkF m 35 #[.val (.int p1), .val (.long q1), .second, .val (.int p2), .val (.long q2), .second, .val (.int (1 : Int32)), .val (.ref pp), .val (.ref qq), .unset, .unset, .unset, .unset] [])) (fun t k => XS.astore X12.here hx rfl (hb hby at_33) rfl rfl (l' := #[.val (.int p1), .val (.long q1), .second, .val (.int p2), .val (.long q2), .second, .val (.int (1 : Int32)), .val (.ref pp), .val (.ref qq), .unset, .unset, .unset, .unset]) rfl k) ?_
    refine own_go (W1 := T12.setTop (mkF m 37 #[.val (.int p1), .val (.long q1), .second, .val (.int p2), .val (.long q2), .second, .val (.int (1 : Int32)), .val (.ref pp), .val (.ref qq), .unset, .unset, .unset, .unset] [(.ref qq)])) (fun t k => XS.aload X12.here hx rfl (hb hby at_35) rfl rfl  k) ?_
    obtain ⟨cq13, kq13, q13a, q13b, q13c⟩ := isOf hZ (rfl : T12.heap = T12.heap) E_qq
    obtain ⟨_, _, ⟨T13, L13, k13, n13⟩, -, X13, ⟨Lc13, hQ13, l13, y13, z13⟩, st13⟩ := X12.virtualBack hx (y := (⟨"com/example/tenorbook/tenorbook/book/BookPage", "backwards", "()Z"⟩ : MethodName)) (z := (⟨"com/example/tenorbook/tenorbook/book/BookPage", "backwards", "()Z"⟩ : MethodName)) hown (mvT hZ (hw _ (List.mem_of_getElem? (i := 27) rfl))) (mvT hZ (hw _ (List.mem_of_getElem? (i := 28) rfl))) (notFace_of_selects (args := #[]) (mvT hZ (hw _ (List.mem_of_getElem? (i := 30) rfl)))) (mvT hZ (hw _ (List.mem_of_getElem? (i := 30) rfl))) (mvT hZ (hw _ (List.mem_of_getElem? (i := 29) rfl))) (by decide) (backOf (W := 0) (rm5 l Z a0 hw [] qq (0 : Int32) T12.heap n0 Z12 F_backwards_qq rfl) hZ (hw _ (List.mem_of_getElem? (i := 31) rfl)) (hw _ (List.mem_of_getElem? (i := 2) rfl)) (by decide) (by decide)) q13a q13c (g := (mkF m 37 #[.val (.int p1), .val (.long q1), .second, .val (.int p2), .val (.long q2), .second, .val (.int (1 : Int32)), .val (.ref pp), .val (.ref qq), .unset, .unset, .unset, .unset] [(.ref qq)])) rfl (by rw [hml]; rfl) (Steps.refl _) (argsL := []) (rest := []) (lenOf own_pd3 rfl) rfl (by show 2 * 0 + _ ≤ _; exact Nat.le_of_eq rfl) (hb hby at_37) (fun _ _ => ⟨rfl, (rfl : T12.heap = T12.heap), (by decide : 2 + 0 ≤ _), (by decide : 6 + 0 ≤ _)⟩)
    dsimp only [Pt.U, Pt.locs, Pt.cells, Pt.slots] at X13 l13 y13 z13 st13 hQ13
    subst l13 y13 z13
    obtain ⟨rfl, Nq13, eh13⟩ := hQ13
    have N13 := Fr.app N12 Nq13
    refine own_tr (W1 := T13.setTop (mkF m 40 #[.val (.int p1), .val (.long q1), .second, .val (.int p2), .val (.long q2), .second, .val (.int (1 : Int32)), .val (.ref pp), .val (.ref qq), .unset, .unset, .unset, .unset] [(.int (0 : Int32))])) st13 ?_
    refine own_go (W1 := T13.setTop (mkF m 43 #[.val (.int p1), .val (.long q1), .second, .val (.int p2), .val (.long q2), .second, .val (.int (1 : Int32)), .val (.ref pp), .val (.ref qq), .unset, .unset, .unset, .unset] [])) (fun t k => XS.ifNo X13.here hx rfl (hb hby at_40) rfl ((if0 _ _).trans (teq (show (0 : Int32) = (0 : Int32) from (by decide))).2) k) ?_
    refine own_go (W1 := T13.setTop (mkF m 44 #[.val (.int p1), .val (.long q1), .second, .val (.int p2), .val (.long q2), .second, .val (.int (1 : Int32)), .val (.ref pp), .val (.ref qq), .unset, .unset, .unset, .unset] [(.int (1 : Int32))])) (fun t k => XS.iconst X13.here hx rfl (hb hby at_43) k) ?_
    refine own_go (W1 := T13.setTop (mkF m 48 #[.val (.int p1), .val (.long q1), .second, .val (.int p2), .val (.long q2), .second, .val (.int (1 : Int32)), .val (.ref pp), .val (.ref qq), .unset, .unset, .unset, .unset] [(.int (1 : Int32))])) (fun t k => XS.goto X13.here hx rfl (pc0 := 44) (pc' := 48) rfl (hb hby at_44) (by decide) (by decide) k) ?_
    refine own_go (W1 := T13.setTop (mkF m 50 #[.val (.int p1), .val (.long q1), .second, .val (.int p2), .val (.long q2), .second, .val (.int (1 : Int32)), .val (.ref pp), .val (.ref qq), .val (.int (1 : Int32)), .unset, .unset, .unset] [])) (fun t k => XS.istore X13.here hx rfl (hb hby at_48) rfl (l' := #[.val (.int p1), .val (.long q1), .second, .val (.int p2), .val (.long q2), .second, .val (.int (1 : Int32)), .val (.ref pp), .val (.ref qq), .val (.int (1 : Int32)), .unset, .unset, .unset]) rfl k) ?_
    refine own_go (W1 := T13.setTop (mkF m 52 #[.val (.int p1), .val (.long q1), .second, .val (.int p2), .val (.long q2), .second, .val (.int (1 : Int32)), .val (.ref pp), .val (.ref qq), .val (.int (1 : Int32)), .unset, .unset, .unset] [(.ref qq)])) (fun t k => XS.aload X13.here hx rfl (hb hby at_50) rfl rfl  k) ?_
    obtain ⟨cq14, kq14, q14a, q14b, q14c⟩ := isOf hZ eh13 E_qq
    obtain ⟨_, _, ⟨T14, L14, k14, n14⟩, -, X14, ⟨Lc14, hQ14, l14, y14, z14⟩, st14⟩ := X13.virtualBack hx (y := (⟨"com/example/tenorbook/tenorbook/book/BookPage", "bound", "()J"⟩ : MethodName)) (z := (⟨"com/example/tenorbook/tenorbook/book/BookPage", "bound", "()J"⟩ : MethodName)) hown (mvT hZ (hw _ (List.mem_of_getElem? (i := 32) rfl))) (mvT hZ (hw _ (List.mem_of_getElem? (i := 33) rfl))) (notFace_of_selects (args := #[]) (mvT hZ (hw _ (List.mem_of_getElem? (i := 35) rfl)))) (mvT hZ (hw _ (List.mem_of_getElem? (i := 35) rfl))) (mvT hZ (hw _ (List.mem_of_getElem? (i := 34) rfl))) (by decide) (backOf (W := 0) (rm6 l Z a0 hw [] qq (q2 - 1) T12.heap n0 Z12 F_bound_qq) hZ (hw _ (List.mem_of_getElem? (i := 36) rfl)) (hw _ (List.mem_of_getElem? (i := 2) rfl)) (by decide) (by decide)) q14a q14c (g := (mkF m 52 #[.val (.int p1), .val (.long q1), .second, .val (.int p2), .val (.long q2), .second, .val (.int (1 : Int32)), .val (.ref pp), .val (.ref qq), .val (.int (1 : Int32)), .unset, .unset, .unset] [(.ref qq)])) rfl (by rw [hml]; rfl) (Steps.refl _) (argsL := []) (rest := []) (lenOf own_pd4 rfl) rfl (by show 2 * 0 + _ ≤ _; exact Nat.le_of_eq rfl) (hb hby at_52) (fun _ _ => ⟨rfl, eh13, (by decide : 2 + 0 ≤ _), (by decide : 6 + 0 ≤ _)⟩)
    dsimp only [Pt.U, Pt.locs, Pt.cells, Pt.slots] at X14 l14 y14 z14 st14 hQ14
    subst l14 y14 z14
    obtain ⟨rfl, Nq14, eh14⟩ := hQ14
    have N14 := Fr.app N13 Nq14
    refine own_tr (W1 := T14.setTop (mkF m 55 #[.val (.int p1), .val (.long q1), .second, .val (.int p2), .val (.long q2), .second, .val (.int (1 : Int32)), .val (.ref pp), .val (.ref qq), .val (.int (1 : Int32)), .unset, .unset, .unset] [(.long (q2 - 1))])) st14 ?_
    refine own_go (W1 := T14.setTop (mkF m 56 #[.val (.int p1), .val (.long q1), .second, .val (.int p2), .val (.long q2), .second, .val (.int (1 : Int32)), .val (.ref pp), .val (.ref qq), .val (.int (1 : Int32)), .unset, .unset, .unset] [(.long (1 : Int64)), (.long (q2 - 1))])) (fun t k => XS.lconst X14.here hx rfl (hb hby at_55) k) ?_
    refine own_go (W1 := T14.setTop (mkF m 57 #[.val (.int p1), .val (.long q1), .second, .val (.int p2), .val (.long q2), .second, .val (.int (1 : Int32)), .val (.ref pp), .val (.ref qq), .val (.int (1 : Int32)), .unset, .unset, .unset] [(.long ((q2 - 1) + (1 : Int64)))])) (fun t k => XS.ladd X14.here hx rfl (hb hby at_56) rfl k) ?_
    refine own_go (W1 := T14.setTop (mkF m 59 #[.val (.int p1), .val (.long q1), .second, .val (.int p2), .val (.long q2), .second, .val (.int (1 : Int32)), .val (.ref pp), .val (.ref qq), .val (.int (1 : Int32)), .unset, .unset, .unset] [(.long q2), (.long ((q2 - 1) + (1 : Int64)))])) (fun t k => XS.lload X14.here hx rfl (hb hby at_57) rfl  k) ?_
    refine own_go (W1 := T14.setTop (mkF m 60 #[.val (.int p1), .val (.long q1), .second, .val (.int p2), .val (.long q2), .second, .val (.int (1 : Int32)), .val (.ref pp), .val (.ref qq), .val (.int (1 : Int32)), .unset, .unset, .unset] [(.int (lcmpW ((q2 - 1) + (1 : Int64)) q2))])) (fun t k => XS.lcmp X14.here hx rfl (hb hby at_59) rfl k) ?_
    refine own_go (W1 := T14.setTop (mkF m 63 #[.val (.int p1), .val (.long q1), .second, .val (.int p2), .val (.long q2), .second, .val (.int (1 : Int32)), .val (.ref pp), .val (.ref qq), .val (.int (1 : Int32)), .unset, .unset, .unset] [])) (fun t k => XS.ifNo X14.here hx rfl (hb hby at_60) rfl ((if0 _ _).trans (teq (show (lcmpW ((q2 - 1) + (1 : Int64)) q2) = (0 : Int32) from own_back q2)).2) k) ?_
    refine own_go (W1 := T14.setTop (mkF m 64 #[.val (.int p1), .val (.long q1), .second, .val (.int p2), .val (.long q2), .second, .val (.int (1 : Int32)), .val (.ref pp), .val (.ref qq), .val (.int (1 : Int32)), .unset, .unset, .unset] [(.int (1 : Int32))])) (fun t k => XS.iconst X14.here hx rfl (hb hby at_63) k) ?_
    refine own_go (W1 := T14.setTop (mkF m 68 #[.val (.int p1), .val (.long q1), .second, .val (.int p2), .val (.long q2), .second, .val (.int (1 : Int32)), .val (.ref pp), .val (.ref qq), .val (.int (1 : Int32)), .unset, .unset, .unset] [(.int (1 : Int32))])) (fun t k => XS.goto X14.here hx rfl (pc0 := 64) (pc' := 68) rfl (hb hby at_64) (by decide) (by decide) k) ?_
    refine own_go (W1 := T14.setTop (mkF m 70 #[.val (.int p1), .val (.long q1), .second, .val (.int p2), .val (.long q2), .second, .val (.int (1 : Int32)), .val (.ref pp), .val (.ref qq), .val (.int (1 : Int32)), .val (.int (1 : Int32)), .unset, .unset] [])) (fun t k => XS.istore X14.here hx rfl (hb hby at_68) rfl (l' := #[.val (.int p1), .val (.long q1), .second, .val (.int p2), .val (.long q2), .second, .val (.int (1 : Int32)), .val (.ref pp), .val (.ref qq), .val (.int (1 : Int32)), .val (.int (1 : Int32)), .unset, .unset]) rfl k) ?_
    refine own_go (W1 := T14.setTop (mkF m 72 #[.val (.int p1), .val (.long q1), .second, .val (.int p2), .val (.long q2), .second, .val (.int (1 : Int32)), .val (.ref pp), .val (.ref qq), .val (.int (1 : Int32)), .val (.int (1 : Int32)), .unset, .unset] [(.ref qq)])) (fun t k => XS.aload X14.here hx rfl (hb hby at_70) rfl rfl  k) ?_
    obtain ⟨cq15, kq15, q15a, q15b, q15c⟩ := isOf hZ eh14 E_qq
    obtain ⟨_, _, ⟨T15, L15, k15, n15⟩, -, X15, ⟨Lc15, hQ15, l15, y15, z15⟩, st15⟩ := X14.virtualBack hx (y := (⟨"com/example/tenorbook/tenorbook/book/BookPage", "size", "()I"⟩ : MethodName)) (z := (⟨"com/example/tenorbook/tenorbook/book/BookPage", "size", "()I"⟩ : MethodName)) hown (mvT hZ (hw _ (List.mem_of_getElem? (i := 37) rfl))) (mvT hZ (hw _ (List.mem_of_getElem? (i := 38) rfl))) (notFace_of_selects (args := #[]) (mvT hZ (hw _ (List.mem_of_getElem? (i := 40) rfl)))) (mvT hZ (hw _ (List.mem_of_getElem? (i := 40) rfl))) (mvT hZ (hw _ (List.mem_of_getElem? (i := 39) rfl))) (by decide) (backOf (W := 0) (rm7 l Z a0 hw [] qq p2 T12.heap n0 Z12 F_size_qq) hZ (hw _ (List.mem_of_getElem? (i := 41) rfl)) (hw _ (List.mem_of_getElem? (i := 2) rfl)) (by decide) (by decide)) q15a q15c (g := (mkF m 72 #[.val (.int p1), .val (.long q1), .second, .val (.int p2), .val (.long q2), .second, .val (.int (1 : Int32)), .val (.ref pp), .val (.ref qq), .val (.int (1 : Int32)), .val (.int (1 : Int32)), .unset, .unset] [(.ref qq)])) rfl (by rw [hml]; rfl) (Steps.refl _) (argsL := []) (rest := []) (lenOf own_pd5 rfl) rfl (by show 2 * 0 + _ ≤ _; exact Nat.le_of_eq rfl) (hb hby at_72) (fun _ _ => ⟨rfl, eh14, (by decide : 2 + 0 ≤ _), (by decide : 6 + 0 ≤ _)⟩)
    dsimp only [Pt.U, Pt.locs, Pt.cells, Pt.slots] at X15 l15 y15 z15 st15 hQ15
    subst l15 y15 z15
    obtain ⟨rfl, Nq15, eh15⟩ := hQ15
    have N15 := Fr.app N14 Nq15
    refine own_tr (W1 := T15.setTop (mkF m 75 #[.val (.int p1), .val (.long q1), .second, .val (.int p2), .val (.long q2), .second, .val (.int (1 : Int32)), .val (.ref pp), .val (.ref qq), .val (.int (1 : Int32)), .val (.int (1 : Int32)), .unset, .unset] [(.int p2)])) st15 ?_
    refine own_go (W1 := T15.setTop (mkF m 76 #[.val (.int p1), .val (.long q1), .second, .val (.int p2), .val (.long q2), .second, .val (.int (1 : Int32)), .val (.ref pp), .val (.ref qq), .val (.int (1 : Int32)), .val (.int (1 : Int32)), .unset, .unset] [(.int p2), (.int p2)])) (fun t k => XS.iloadN X15.here hx rfl (hb hby at_75) rfl  k) ?_
    refine own_go (W1 := T15.setTop (mkF m 79 #[.val (.int p1), .val (.long q1), .second, .val (.int p2), .val (.long q2), .second, .val (.int (1 : Int32)), .val (.ref pp), .val (.ref qq), .val (.int (1 : Int32)), .val (.int (1 : Int32)), .unset, .unset] [])) (fun t k => XS.icmpNo X15.here hx rfl (hb hby at_76) rfl (teq (show p2 = p2 from rfl)).2 k) ?_
    refine own_go (W1 := T15.setTop (mkF m 80 #[.val (.int p1), .val (.long q1), .second, .val (.int p2), .val (.long q2), .second, .val (.int (1 : Int32)), .val (.ref pp), .val (.ref qq), .val (.int (1 : Int32)), .val (.int (1 : Int32)), .unset, .unset] [(.int (1 : Int32))])) (fun t k => XS.iconst X15.here hx rfl (hb hby at_79) k) ?_
    refine own_go (W1 := T15.setTop (mkF m 84 #[.val (.int p1), .val (.long q1), .second, .val (.int p2), .val (.long q2), .second, .val (.int (1 : Int32)), .val (.ref pp), .val (.ref qq), .val (.int (1 : Int32)), .val (.int (1 : Int32)), .unset, .unset] [(.int (1 : Int32))])) (fun t k => XS.goto X15.here hx rfl (pc0 := 80) (pc' := 84) rfl (hb hby at_80) (by decide) (by decide) k) ?_
    refine own_go (W1 := T15.setTop (mkF m 86 #[.val (.int p1), .val (.long q1), .second, .val (.int p2), .val (.long q2), .second, .val (.int (1 : Int32)), .val (.ref pp), .val (.ref qq), .val (.int (1 : Int32)), .val (.int (1 : Int32)), .val (.int (1 : Int32)), .unset] [])) (fun t k => XS.istore X15.here hx rfl (hb hby at_84) rfl (l' := #[.val (.int p1), .val (.long q1), .second, .val (.int p2), .val (.long q2), .second, .val (.int (1 : Int32)), .val (.ref pp), .val (.ref qq), .val (.int (1 : Int32)), .val (.int (1 : Int32)), .val (.int (1 : Int32)), .unset]) rfl k) ?_
    refine own_go (W1 := T15.setTop (mkF m 88 #[.val (.int p1), .val (.long q1), .second, .val (.int p2), .val (.long q2), .second, .val (.int (1 : Int32)), .val (.ref pp), .val (.ref qq), .val (.int (1 : Int32)), .val (.int (1 : Int32)), .val (.int (1 : Int32)), .unset] [(.ref pp)])) (fun t k => XS.aload X15.here hx rfl (hb hby at_86) rfl rfl  k) ?_
    obtain ⟨cq16, kq16, q16a, q16b, q16c⟩ := isOf hZ eh15 E_pp
    obtain ⟨_, _, ⟨T16, L16, k16, n16⟩, -, X16, ⟨Lc16, hQ16, l16, y16, z16⟩, st16⟩ := X15.virtualBack hx (y := (⟨"com/example/tenorbook/tenorbook/book/BookPage", "backwards", "()Z"⟩ : MethodName)) (z := (⟨"com/example/tenorbook/tenorbook/book/BookPage", "backwards", "()Z"⟩ : MethodName)) hown (mvT hZ (hw _ (List.mem_of_getElem? (i := 27) rfl))) (mvT hZ (hw _ (List.mem_of_getElem? (i := 28) rfl))) (notFace_of_selects (args := #[]) (mvT hZ (hw _ (List.mem_of_getElem? (i := 30) rfl)))) (mvT hZ (hw _ (List.mem_of_getElem? (i := 30) rfl))) (mvT hZ (hw _ (List.mem_of_getElem? (i := 29) rfl))) (by decide) (backOf (W := 0) (rm5 l Z a0 hw [] pp (1 : Int32) T12.heap n0 Z12 F_backwards_pp rfl) hZ (hw _ (List.mem_of_getElem? (i := 31) rfl)) (hw _ (List.mem_of_getElem? (i := 2) rfl)) (by decide) (by decide)) q16a q16c (g := (mkF m 88 #[.val (.int p1), .val (.long q1), .second, .val (.int p2), .val (.long q2), .second, .val (.int (1 : Int32)), .val (.ref pp), .val (.ref qq), .val (.int (1 : Int32)), .val (.int (1 : Int32)), .val (.int (1 : Int32)), .unset] [(.ref pp)])) rfl (by rw [hml]; rfl) (Steps.refl _) (argsL := []) (rest := []) (lenOf own_pd3 rfl) rfl (by show 2 * 0 + _ ≤ _; exact Nat.le_of_eq rfl) (hb hby at_88) (fun _ _ => ⟨rfl, eh15, (by decide : 2 + 0 ≤ _), (by decide : 6 + 0 ≤ _)⟩)
    dsimp only [Pt.U, Pt.locs, Pt.cells, Pt.slots] at X16 l16 y16 z16 st16 hQ16
    subst l16 y16 z16
    obtain ⟨rfl, Nq16, eh16⟩ := hQ16
    have N16 := Fr.app N15 Nq16
    refine own_tr (W1 := T16.setTop (mkF m 91 #[.val (.int p1), .val (.long q1), .second, .val (.int p2), .val (.long q2), .second, .val (.int (1 : Int32)), .val (.ref pp), .val (.ref qq), .val (.int (1 : Int32)), .val (.int (1 : Int32)), .val (.int (1 : Int32)), .unset] [(.int (1 : Int32))])) st16 ?_
    refine own_go (W1 := T16.setTop (mkF m 93 #[.val (.int p1), .val (.long q1), .second, .val (.int p2), .val (.long q2), .second, .val (.int (1 : Int32)), .val (.ref pp), .val (.ref qq), .val (.int (1 : Int32)), .val (.int (1 : Int32)), .val (.int (1 : Int32)), .unset] [(.int (1 : Int32)), (.int (1 : Int32))])) (fun t k => XS.iload X16.here hx rfl (hb hby at_91) rfl  k) ?_
    refine own_go (W1 := T16.setTop (mkF m 96 #[.val (.int p1), .val (.long q1), .second, .val (.int p2), .val (.long q2), .second, .val (.int (1 : Int32)), .val (.ref pp), .val (.ref qq), .val (.int (1 : Int32)), .val (.int (1 : Int32)), .val (.int (1 : Int32)), .unset] [])) (fun t k => XS.icmpNo X16.here hx rfl (hb hby at_93) rfl (teq (show (1 : Int32) = (1 : Int32) from (by decide))).2 k) ?_
    refine own_go (W1 := T16.setTop (mkF m 98 #[.val (.int p1), .val (.long q1), .second, .val (.int p2), .val (.long q2), .second, .val (.int (1 : Int32)), .val (.ref pp), .val (.ref qq), .val (.int (1 : Int32)), .val (.int (1 : Int32)), .val (.int (1 : Int32)), .unset] [(.ref pp)])) (fun t k => XS.aload X16.here hx rfl (hb hby at_96) rfl rfl  k) ?_
    obtain ⟨cq17, kq17, q17a, q17b, q17c⟩ := isOf hZ eh16 E_pp
    obtain ⟨_, _, ⟨T17, L17, k17, n17⟩, -, X17, ⟨Lc17, hQ17, l17, y17, z17⟩, st17⟩ := X16.virtualBack hx (y := (⟨"com/example/tenorbook/tenorbook/book/BookPage", "bound", "()J"⟩ : MethodName)) (z := (⟨"com/example/tenorbook/tenorbook/book/BookPage", "bound", "()J"⟩ : MethodName)) hown (mvT hZ (hw _ (List.mem_of_getElem? (i := 32) rfl))) (mvT hZ (hw _ (List.mem_of_getElem? (i := 33) rfl))) (notFace_of_selects (args := #[]) (mvT hZ (hw _ (List.mem_of_getElem? (i := 35) rfl)))) (mvT hZ (hw _ (List.mem_of_getElem? (i := 35) rfl))) (mvT hZ (hw _ (List.mem_of_getElem? (i := 34) rfl))) (by decide) (backOf (W := 0) (rm6 l Z a0 hw [] pp q1 T12.heap n0 Z12 F_bound_pp) hZ (hw _ (List.mem_of_getElem? (i := 36) rfl)) (hw _ (List.mem_of_getElem? (i := 2) rfl)) (by decide) (by decide)) q17a q17c (g := (mkF m 98 #[.val (.int p1), .val (.long q1), .second, .val (.int p2), .val (.long q2), .second, .val (.int (1 : Int32)), .val (.ref pp), .val (.ref qq), .val (.int (1 : Int32)), .val (.int (1 : Int32)), .val (.int (1 : Int32)), .unset] [(.ref pp)])) rfl (by rw [hml]; rfl) (Steps.refl _) (argsL := []) (rest := []) (lenOf own_pd4 rfl) rfl (by show 2 * 0 + _ ≤ _; exact Nat.le_of_eq rfl) (hb hby at_98) (fun _ _ => ⟨rfl, eh16, (by decide : 2 + 0 ≤ _), (by decide : 6 + 0 ≤ _)⟩)
    dsimp only [Pt.U, Pt.locs, Pt.cells, Pt.slots] at X17 l17 y17 z17 st17 hQ17
    subst l17 y17 z17
    obtain ⟨rfl, Nq17, eh17⟩ := hQ17
    have N17 := Fr.app N16 Nq17
    refine own_tr (W1 := T17.setTop (mkF m 101 #[.val (.int p1), .val (.long q1), .second, .val (.int p2), .val (.long q2), .second, .val (.int (1 : Int32)), .val (.ref pp), .val (.ref qq), .val (.int (1 : Int32)), .val (.int (1 : Int32)), .val (.int (1 : Int32)), .unset] [(.long q1)])) st17 ?_
    refine own_go (W1 := T17.setTop (mkF m 102 #[.val (.int p1), .val (.long q1), .second, .val (.int p2), .val (.long q2), .second, .val (.int (1 : Int32)), .val (.ref pp), .val (.ref qq), .val (.int (1 : Int32)), .val (.int (1 : Int32)), .val (.int (1 : Int32)), .unset] [(.long q1), (.long q1)])) (fun t k => XS.lloadN X17.here hx rfl (hb hby at_101) rfl  k) ?_
    refine own_go (W1 := T17.setTop (mkF m 103 #[.val (.int p1), .val (.long q1), .second, .val (.int p2), .val (.long q2), .second, .val (.int (1 : Int32)), .val (.ref pp), .val (.ref qq), .val (.int (1 : Int32)), .val (.int (1 : Int32)), .val (.int (1 : Int32)), .unset] [(.int (lcmpW q1 q1))])) (fun t k => XS.lcmp X17.here hx rfl (hb hby at_102) rfl k) ?_
    refine own_go (W1 := T17.setTop (mkF m 106 #[.val (.int p1), .val (.long q1), .second, .val (.int p2), .val (.long q2), .second, .val (.int (1 : Int32)), .val (.ref pp), .val (.ref qq), .val (.int (1 : Int32)), .val (.int (1 : Int32)), .val (.int (1 : Int32)), .unset] [])) (fun t k => XS.ifNo X17.here hx rfl (hb hby at_103) rfl ((if0 _ _).trans (teq (show (lcmpW q1 q1) = (0 : Int32) from ((lw_eq _ _).mpr rfl))).2) k) ?_
    refine own_go (W1 := T17.setTop (mkF m 108 #[.val (.int p1), .val (.long q1), .second, .val (.int p2), .val (.long q2), .second, .val (.int (1 : Int32)), .val (.ref pp), .val (.ref qq), .val (.int (1 : Int32)), .val (.int (1 : Int32)), .val (.int (1 : Int32)), .unset] [(.ref pp)])) (fun t k => XS.aload X17.here hx rfl (hb hby at_106) rfl rfl  k) ?_
    obtain ⟨cq18, kq18, q18a, q18b, q18c⟩ := isOf hZ eh17 E_pp
    obtain ⟨_, _, ⟨T18, L18, k18, n18⟩, -, X18, ⟨Lc18, hQ18, l18, y18, z18⟩, st18⟩ := X17.virtualBack hx (y := (⟨"com/example/tenorbook/tenorbook/book/BookPage", "size", "()I"⟩ : MethodName)) (z := (⟨"com/example/tenorbook/tenorbook/book/BookPage", "size", "()I"⟩ : MethodName)) hown (mvT hZ (hw _ (List.mem_of_getElem? (i := 37) rfl))) (mvT hZ (hw _ (List.mem_of_getElem? (i := 38) rfl))) (notFace_of_selects (args := #[]) (mvT hZ (hw _ (List.mem_of_getElem? (i := 40) rfl)))) (mvT hZ (hw _ (List.mem_of_getElem? (i := 40) rfl))) (mvT hZ (hw _ (List.mem_of_getElem? (i := 39) rfl))) (by decide) (backOf (W := 0) (rm7 l Z a0 hw [] pp p2 T12.heap n0 Z12 F_size_pp) hZ (hw _ (List.mem_of_getElem? (i := 41) rfl)) (hw _ (List.mem_of_getElem? (i := 2) rfl)) (by decide) (by decide)) q18a q18c (g := (mkF m 108 #[.val (.int p1), .val (.long q1), .second, .val (.int p2), .val (.long q2), .second, .val (.int (1 : Int32)), .val (.ref pp), .val (.ref qq), .val (.int (1 : Int32)), .val (.int (1 : Int32)), .val (.int (1 : Int32)), .unset] [(.ref pp)])) rfl (by rw [hml]; rfl) (Steps.refl _) (argsL := []) (rest := []) (lenOf own_pd5 rfl) rfl (by show 2 * 0 + _ ≤ _; exact Nat.le_of_eq rfl) (hb hby at_108) (fun _ _ => ⟨rfl, eh17, (by decide : 2 + 0 ≤ _), (by decide : 6 + 0 ≤ _)⟩)
    dsimp only [Pt.U, Pt.locs, Pt.cells, Pt.slots] at X18 l18 y18 z18 st18 hQ18
    subst l18 y18 z18
    obtain ⟨rfl, Nq18, eh18⟩ := hQ18
    have N18 := Fr.app N17 Nq18
    refine own_tr (W1 := T18.setTop (mkF m 111 #[.val (.int p1), .val (.long q1), .second, .val (.int p2), .val (.long q2), .second, .val (.int (1 : Int32)), .val (.ref pp), .val (.ref qq), .val (.int (1 : Int32)), .val (.int (1 : Int32)), .val (.int (1 : Int32)), .unset] [(.int p2)])) st18 ?_
    refine own_go (W1 := T18.setTop (mkF m 112 #[.val (.int p1), .val (.long q1), .second, .val (.int p2), .val (.long q2), .second, .val (.int (1 : Int32)), .val (.ref pp), .val (.ref qq), .val (.int (1 : Int32)), .val (.int (1 : Int32)), .val (.int (1 : Int32)), .unset] [(.int p2), (.int p2)])) (fun t k => XS.iloadN X18.here hx rfl (hb hby at_111) rfl  k) ?_
    refine own_go (W1 := T18.setTop (mkF m 115 #[.val (.int p1), .val (.long q1), .second, .val (.int p2), .val (.long q2), .second, .val (.int (1 : Int32)), .val (.ref pp), .val (.ref qq), .val (.int (1 : Int32)), .val (.int (1 : Int32)), .val (.int (1 : Int32)), .unset] [])) (fun t k => XS.icmpNo X18.here hx rfl (hb hby at_112) rfl (teq (show p2 = p2 from rfl)).2 k) ?_
    refine own_go (W1 := T18.setTop (mkF m 116 #[.val (.int p1), .val (.long q1), .second, .val (.int p2), .val (.long q2), .second, .val (.int (1 : Int32)), .val (.ref pp), .val (.ref qq), .val (.int (1 : Int32)), .val (.int (1 : Int32)), .val (.int (1 : Int32)), .unset] [(.int (1 : Int32))])) (fun t k => XS.iconst X18.here hx rfl (hb hby at_115) k) ?_
    refine own_go (W1 := T18.setTop (mkF m 120 #[.val (.int p1), .val (.long q1), .second, .val (.int p2), .val (.long q2), .second, .val (.int (1 : Int32)), .val (.ref pp), .val (.ref qq), .val (.int (1 : Int32)), .val (.int (1 : Int32)), .val (.int (1 : Int32)), .unset] [(.int (1 : Int32))])) (fun t k => XS.goto X18.here hx rfl (pc0 := 116) (pc' := 120) rfl (hb hby at_116) (by decide) (by decide) k) ?_
    refine own_go (W1 := T18.setTop (mkF m 122 #[.val (.int p1), .val (.long q1), .second, .val (.int p2), .val (.long q2), .second, .val (.int (1 : Int32)), .val (.ref pp), .val (.ref qq), .val (.int (1 : Int32)), .val (.int (1 : Int32)), .val (.int (1 : Int32)), .val (.int (1 : Int32))] [])) (fun t k => XS.istore X18.here hx rfl (hb hby at_120) rfl (l' := #[.val (.int p1), .val (.long q1), .second, .val (.int p2), .val (.long q2), .second, .val (.int (1 : Int32)), .val (.ref pp), .val (.ref qq), .val (.int (1 : Int32)), .val (.int (1 : Int32)), .val (.int (1 : Int32)), .val (.int (1 : Int32))]) rfl k) ?_
    refine own_go (W1 := T18.setTop (mkF m 124 #[.val (.int p1), .val (.long q1), .second, .val (.int p2), .val (.long q2), .second, .val (.int (1 : Int32)), .val (.ref pp), .val (.ref qq), .val (.int (1 : Int32)), .val (.int (1 : Int32)), .val (.int (1 : Int32)), .val (.int (1 : Int32))] [(.int (1 : Int32))])) (fun t k => XS.iload X18.here hx rfl (hb hby at_122) rfl  k) ?_
    refine own_go (W1 := T18.setTop (mkF m 127 #[.val (.int p1), .val (.long q1), .second, .val (.int p2), .val (.long q2), .second, .val (.int (1 : Int32)), .val (.ref pp), .val (.ref qq), .val (.int (1 : Int32)), .val (.int (1 : Int32)), .val (.int (1 : Int32)), .val (.int (1 : Int32))] [])) (fun t k => XS.ifNo X18.here hx rfl (hb hby at_124) rfl ((if0 _ _).trans (feq (show ¬ ((1 : Int32) = (0 : Int32)) from (by decide))).1) k) ?_
    refine own_go (W1 := T18.setTop (mkF m 129 #[.val (.int p1), .val (.long q1), .second, .val (.int p2), .val (.long q2), .second, .val (.int (1 : Int32)), .val (.ref pp), .val (.ref qq), .val (.int (1 : Int32)), .val (.int (1 : Int32)), .val (.int (1 : Int32)), .val (.int (1 : Int32))] [(.int (1 : Int32))])) (fun t k => XS.iload X18.here hx rfl (hb hby at_127) rfl  k) ?_
    refine own_go (W1 := T18.setTop (mkF m 132 #[.val (.int p1), .val (.long q1), .second, .val (.int p2), .val (.long q2), .second, .val (.int (1 : Int32)), .val (.ref pp), .val (.ref qq), .val (.int (1 : Int32)), .val (.int (1 : Int32)), .val (.int (1 : Int32)), .val (.int (1 : Int32))] [])) (fun t k => XS.ifNo X18.here hx rfl (hb hby at_129) rfl ((if0 _ _).trans (feq (show ¬ ((1 : Int32) = (0 : Int32)) from (by decide))).1) k) ?_
    refine own_go (W1 := T18.setTop (mkF m 134 #[.val (.int p1), .val (.long q1), .second, .val (.int p2), .val (.long q2), .second, .val (.int (1 : Int32)), .val (.ref pp), .val (.ref qq), .val (.int (1 : Int32)), .val (.int (1 : Int32)), .val (.int (1 : Int32)), .val (.int (1 : Int32))] [(.int (1 : Int32))])) (fun t k => XS.iload X18.here hx rfl (hb hby at_132) rfl  k) ?_
    refine own_go (W1 := T18.setTop (mkF m 137 #[.val (.int p1), .val (.long q1), .second, .val (.int p2), .val (.long q2), .second, .val (.int (1 : Int32)), .val (.ref pp), .val (.ref qq), .val (.int (1 : Int32)), .val (.int (1 : Int32)), .val (.int (1 : Int32)), .val (.int (1 : Int32))] [])) (fun t k => XS.ifNo X18.here hx rfl (hb hby at_134) rfl ((if0 _ _).trans (feq (show ¬ ((1 : Int32) = (0 : Int32)) from (by decide))).1) k) ?_
    refine own_go (W1 := T18.setTop (mkF m 139 #[.val (.int p1), .val (.long q1), .second, .val (.int p2), .val (.long q2), .second, .val (.int (1 : Int32)), .val (.ref pp), .val (.ref qq), .val (.int (1 : Int32)), .val (.int (1 : Int32)), .val (.int (1 : Int32)), .val (.int (1 : Int32))] [(.int (1 : Int32))])) (fun t k => XS.iload X18.here hx rfl (hb hby at_137) rfl  k) ?_
    refine own_go (W1 := T18.setTop (mkF m 142 #[.val (.int p1), .val (.long q1), .second, .val (.int p2), .val (.long q2), .second, .val (.int (1 : Int32)), .val (.ref pp), .val (.ref qq), .val (.int (1 : Int32)), .val (.int (1 : Int32)), .val (.int (1 : Int32)), .val (.int (1 : Int32))] [])) (fun t k => XS.ifNo X18.here hx rfl (hb hby at_139) rfl ((if0 _ _).trans (feq (show ¬ ((1 : Int32) = (0 : Int32)) from (by decide))).1) k) ?_
    refine own_go (W1 := T18.setTop (mkF m 143 #[.val (.int p1), .val (.long q1), .second, .val (.int p2), .val (.long q2), .second, .val (.int (1 : Int32)), .val (.ref pp), .val (.ref qq), .val (.int (1 : Int32)), .val (.int (1 : Int32)), .val (.int (1 : Int32)), .val (.int (1 : Int32))] [(.int (1 : Int32))])) (fun t k => XS.iconst X18.here hx rfl (hb hby at_142) k) ?_
    refine own_go (W1 := T18.setTop (mkF m 147 #[.val (.int p1), .val (.long q1), .second, .val (.int p2), .val (.long q2), .second, .val (.int (1 : Int32)), .val (.ref pp), .val (.ref qq), .val (.int (1 : Int32)), .val (.int (1 : Int32)), .val (.int (1 : Int32)), .val (.int (1 : Int32))] [(.int (1 : Int32))])) (fun t k => XS.goto X18.here hx rfl (pc0 := 143) (pc' := 147) rfl (hb hby at_143) (by decide) (by decide) k) ?_
    exact own_retN X18 hx (t := .boolean) Bd.returns (by simp) (hb hby at_147) hlk (by decide) (by decide) ⟨rfl, N18⟩
set_option maxRecDepth 65536 in
set_option maxHeartbeats 40000000 in
theorem comes_1 {Post : Tables → Env → Array Value → State → Outcome → State → Prop} (hpost : ∀ tb e args s v u, (limb_1_1.after args s (.returned v) u = true ∧ limb_1_2.after args s (.returned v) u = true ∧ True) → FrameEnd s (.returned v) u (Jvm.fieldLocs frame_1_writes args s ++ Jvm.arrayLocs frame_1_arrays args s ++ Jvm.staticLocs frame_1_statics s) 16 128 → Post tb e args s (.returned v) u) :
    ArmFor flags0 classFile x code maxLocals ret World_1 tables_1 room_1 Calls_1 rest_1 Pre_1 Post := by
  intro l hfl _ _ p e ha hc hk s m args below hf hA hF happ hP
  obtain ⟨hcalls, hrest, hpre⟩ := hP
  obtain ⟨-, -, -, hnamed, -, -, -, hat⟩ := (Spec.applies_iff hf).mp happ
  obtain ⟨hg, hn⟩ := and_e (Cond.before_iff.mp (show (Jvm.Cond.and given_1 narrow_1).before args s = true from hpre))
  obtain ⟨gc, hg⟩ := and_e hg
  obtain ⟨ga0, hg⟩ := and_e hg
  obtain ⟨ga1, hg⟩ := and_e hg
  obtain ⟨ga2, hg⟩ := and_e hg
  have ga3 := hg
  obtain ⟨w0, w1, w2, w3, rfl⟩ : ∃ w0 w1 w2 w3 : Value, args = #[w0, w1, w2, w3] := by
    have hs : args.size = 4 := by simpa [Cond.value, given_1] using gc
    obtain ⟨L⟩ := args
    match L, hs with
    | [w0, w1, w2, w3], _ => exact ⟨w0, w1, w2, w3, rfl⟩
  have hw := fun d (hd : d ∈ tables_1) => atoms_spec (ws := Jvm.Cond.code x code maxLocals ret :: tables_1) hat d (List.mem_cons_of_mem _ hd)
  have hfit : Fit s := fun {y c} hc i hi => by
    obtain ⟨ha, rfl⟩ := Array.getElem?_eq_some_iff.mp hc
    have q := List.all_eq_true.mp ((Array.all_eq_true_iff_forall_mem.mp hF) _ (Array.getElem_mem ha)) i (List.mem_range.mpr hi)
    simpa [Array.getElem?_eq_getElem hi] using q
  obtain ⟨i0, ei0⟩ := is_v ga0
  obtain rfl : w0 = (.int i0) := Option.some.inj ei0
  obtain ⟨i1, ei1⟩ := isL_v ga1
  obtain rfl : w1 = (.long i1) := Option.some.inj ei1
  obtain ⟨i2, ei2⟩ := is_v ga2
  obtain rfl : w2 = (.int i2) := Option.some.inj ei2
  obtain ⟨i3, ei3⟩ := isL_v ga3
  obtain rfl : w3 = (.long i3) := Option.some.inj ei3
  obtain ⟨n, o, h1, h2, h3, _, L, rfl, ⟨rfl, N⟩, hq⟩ := rm0 l s _ hw tables_1 i0 i1 i2 i3 s.heap s.heap.size (Nat.le_refl _)  p e ha hc hk s m _ below hf ((Spec.applies_iff_loose hf).mp happ).1 ⟨rfl, State.Warmed39.refl s, rfl⟩ trivial
  refine ⟨n, _, h1, h2, h3, hpost _ _ _ _ _ _ ⟨Cond.after_iff.mpr rfl, Cond.after_iff.mpr (eq_i res_at (Term.int_eval (1)) rfl), trivial⟩ ⟨hq.1, hq.2.1, (hq.2.2.sift fun y hy => Or.inr (N y hy)).mono (by decide) (by decide)⟩⟩
theorem main_1_1 : Claimed_1_1 := comes_1 fun _ _ _ _ _ _ h hF => ⟨h.1, hF⟩
theorem main_1_2 : Claimed_1_2 := comes_1 fun _ _ _ _ _ _ h hF => ⟨h.2.1, hF⟩
end Jvm.Pilot.@@N@@
namespace Jvm.Pilot.@@N@@
open Jvm Jvm.ClassFile Sem Op Lib Jvm.Free Jvm.Stand Jvm.Pilot.@@N@@.Jvm.D
/-! MADE BY PROGRAM (witnessworld.py) out of the Statement's table words and the real class files: 8 classes; the members and pool entries that the words name. The judged class is class 1, her method 1. -/
namespace start1
open Jvm.ClassFile
def u (s : String) : CpInfo := .utf8 (stringToUtf16 s)
/-- a pool by its gaps: so many unusable entries, then the entry; so many at the end -/
def gap : Nat → List CpInfo → List CpInfo
  | 0, r => r
  | n + 1, r => .unusable :: gap n r
def poolList (es : List (Nat × CpInfo)) (last : Nat) : List CpInfo := es.foldr (fun e r => gap e.1 (e.2 :: r)) (gap last [])
def pool (es : List (Nat × CpInfo)) (last : Nat) : Array CpInfo := ⟨poolList es last⟩
def fileOf (pool : Array CpInfo) (this : Nat) (attrs : Array Attribute := #[]) (ms : Array MethodInfo := #[]) (fl : Nat := 33) (sup : Nat := 0) (ifs : Array Nat := #[]) (fds : Array FieldInfo := #[]) : ClassFile where
  minorVersion := 0
  majorVersion := 65
  constantPool := pool
  accessFlags := fl
  thisClass := this
  superClass := sup
  interfaces := ifs
  fields := fds
  methods := ms
  attributes := attrs
def plain (name : String) (sup : Option ClassId) : Class where
  name := name
  kind := .ordinary
  loader := none
  accessFlags := 33
  super := sup
  interfaces := #[]
  cf := none
  fields := #[]
  methods := #[]
  instanceTypes := #[]
  staticTypes := #[]
  resolved := #[]
  callSites := []
  init := .initialized
  statics := none
  mirror := none

def pool0 : Array CpInfo := pool [(5, u "<init>"), (0, u "()V"), (1, .class_ 10), (1, u "java/lang/Object")] 113

def k0c0 : Code := { maxStack := 0, maxLocals := 1, code := object_method_1_code, exceptionTable := #[], attributes := #[] }
def k0m0 : Method := { name := "<init>", desc := "()V", sig := { parameters := [], returnType := none }, accessFlags := 1, code := some k0c0 }
/-- java/lang/Object -/
def k0 : Class := { plain "java/lang/Object" none with
  accessFlags := 33
  interfaces := #[]
  cf := some (fileOf pool0 8 #[] #[{ accessFlags := 1, nameIndex := 5, descriptorIndex := 6, attributes := #[] }] 33 0 #[] #[])
  fields := #[]
  methods := #[k0m0]
  instanceTypes := #[]
  staticTypes := #[]
  resolved := Array.replicate 124 none
  statics := none }

def pool1 : Array CpInfo := pool [(2, .class_ 4), (1, u "java/lang/Object"), (0, u "<init>"), (0, u "()V"), (0, .class_ 8), (0, u "com/example/tenorbook/tenorbook/book/BookPage"), (0, .methodref 7 10), (0, .nameAndType 5 11), (0, u "(ZJI)V"), (0, .methodref 7 13), (0, .nameAndType 14 15), (0, u "startingAt"), (0, u "(J)Lcom/example/tenorbook/tenorbook/book/BookPage;"), (0, .methodref 7 17), (0, .nameAndType 18 19), (0, u "backwards"), (0, u "()Z"), (0, .methodref 7 21), (0, .nameAndType 22 23), (0, u "bound"), (0, u "()J"), (0, .methodref 7 25), (0, .nameAndType 26 27), (0, u "size"), (0, u "()I"), (0, .class_ 29), (0, u "com/example/tenorbook/tenorbook/book/BookPageStartingAtPinLaw"), (2, u "law"), (0, u "(IJIJ)Z")] 3

def k1m0 : Method := { name := "<init>", desc := "()V", sig := { parameters := [], returnType := none }, accessFlags := 2, code := none }
def k1c1 : Code := { maxStack := 6, maxLocals := 13, code := code, exceptionTable := #[], attributes := #[] }
def k1m1 : Method := { name := "law", desc := "(IJIJ)Z", sig := { parameters := [.int, .long, .int, .long], returnType := some .boolean }, accessFlags := 9, code := some k1c1 }
/-- com/example/tenorbook/tenorbook/book/BookPageStartingAtPinLaw -/
def k1 : Class := { plain "com/example/tenorbook/tenorbook/book/BookPageStartingAtPinLaw" (some 0) with
  accessFlags := 49
  interfaces := #[]
  cf := some (fileOf pool1 28 #[] #[{ accessFlags := 2, nameIndex := 5, descriptorIndex := 6, attributes := #[] }, { accessFlags := 9, nameIndex := 32, descriptorIndex := 33, attributes := #[] }] 49 2 #[] #[])
  fields := #[]
  methods := #[k1m0, k1m1]
  instanceTypes := #[]
  staticTypes := #[]
  resolved := Array.replicate 37 none
  statics := none }

def pool2 : Array CpInfo := pool [(1, .methodref 2 3), (0, .class_ 4), (0, .nameAndType 5 6), (0, u "java/lang/Object"), (0, u "<init>"), (0, u "()V"), (0, .class_ 8), (0, u "java/lang/Record")] 13

def k2c0 : Code := { maxStack := 1, maxLocals := 1, code := jdk_30_method_1_code, exceptionTable := #[], attributes := #[] }
def k2m0 : Method := { name := "<init>", desc := "()V", sig := { parameters := [], returnType := none }, accessFlags := 4, code := some k2c0 }
/-- java/lang/Record -/
def k2 : Class := { plain "java/lang/Record" (some 0) with
  accessFlags := 1057
  interfaces := #[]
  cf := some (fileOf pool2 7 #[] #[{ accessFlags := 4, nameIndex := 5, descriptorIndex := 6, attributes := #[] }] 1057 2 #[] #[])
  fields := #[]
  methods := #[k2m0]
  instanceTypes := #[]
  staticTypes := #[]
  resolved := Array.replicate 22 none
  statics := none }

def pool3 : Array CpInfo := pool [(3, .methodref 4 5), (0, .class_ 6), (0, .nameAndType 7 8), (0, u "java/lang/Record"), (0, u "<init>"), (0, u "()V"), (0, .fieldref 10 11), (0, .class_ 12), (0, .nameAndType 13 14), (0, u "com/example/tenorbook/tenorbook/book/BookPage"), (0, u "backwards"), (0, u "Z"), (0, .fieldref 10 16), (0, .nameAndType 17 18), (0, u "bound"), (0, u "J"), (0, .fieldref 10 20), (0, .nameAndType 21 22), (0, u "size"), (0, u "I"), (0, .methodref 10 24), (0, .nameAndType 7 25), (0, u "(ZJI)V"), (37, u "()I"), (5, u "LAST_ID"), (0, u "Ljava/math/BigDecimal;"), (11, u "()J"), (25, u "USUAL"), (2, u "MOST"), (1, u "END"), (9, u "startingAt"), (0, u "(J)Lcom/example/tenorbook/tenorbook/book/BookPage;"), (1, u "()Z")] 31

def k3c0 : Code := { maxStack := 3, maxLocals := 5, code := prog_18_method_1_code, exceptionTable := #[], attributes := #[] }
def k3m0 : Method := { name := "<init>", desc := "(ZJI)V", sig := { parameters := [.boolean, .long, .int], returnType := none }, accessFlags := 1, code := some k3c0 }
def k3c1 : Code := { maxStack := 7, maxLocals := 3, code := prog_18_method_6_code, exceptionTable := #[], attributes := #[] }
def k3m1 : Method := { name := "startingAt", desc := "(J)Lcom/example/tenorbook/tenorbook/book/BookPage;", sig := { parameters := [.long], returnType := some (.object "com/example/tenorbook/tenorbook/book/BookPage") }, accessFlags := 0, code := some k3c1 }
def k3c2 : Code := { maxStack := 1, maxLocals := 1, code := prog_18_method_10_code, exceptionTable := #[], attributes := #[] }
def k3m2 : Method := { name := "backwards", desc := "()Z", sig := { parameters := [], returnType := some .boolean }, accessFlags := 1, code := some k3c2 }
def k3c3 : Code := { maxStack := 2, maxLocals := 1, code := prog_18_method_11_code, exceptionTable := #[], attributes := #[] }
def k3m3 : Method := { name := "bound", desc := "()J", sig := { parameters := [], returnType := some .long }, accessFlags := 1, code := some k3c3 }
def k3c4 : Code := { maxStack := 1, maxLocals := 1, code := prog_18_method_12_code, exceptionTable := #[], attributes := #[] }
def k3m4 : Method := { name := "size", desc := "()I", sig := { parameters := [], returnType := some .int }, accessFlags := 1, code := some k3c4 }
/-- com/example/tenorbook/tenorbook/book/BookPage -/
def k3 : Class := { plain "com/example/tenorbook/tenorbook/book/BookPage" (some 2) with
  accessFlags := 49
  interfaces := #[]
  cf := some (fileOf pool3 10 #[] #[{ accessFlags := 1, nameIndex := 7, descriptorIndex := 25, attributes := #[] }, { accessFlags := 0, nameIndex := 123, descriptorIndex := 124, attributes := #[] }, { accessFlags := 1, nameIndex := 13, descriptorIndex := 126, attributes := #[] }, { accessFlags := 1, nameIndex := 17, descriptorIndex := 82, attributes := #[] }, { accessFlags := 1, nameIndex := 21, descriptorIndex := 63, attributes := #[] }] 49 4 #[] #[{ accessFlags := 18, nameIndex := 13, descriptorIndex := 14, attributes := #[] }, { accessFlags := 18, nameIndex := 17, descriptorIndex := 18, attributes := #[] }, { accessFlags := 18, nameIndex := 21, descriptorIndex := 22, attributes := #[] }, { accessFlags := 25, nameIndex := 108, descriptorIndex := 22, attributes := #[] }, { accessFlags := 25, nameIndex := 111, descriptorIndex := 22, attributes := #[] }, { accessFlags := 25, nameIndex := 113, descriptorIndex := 18, attributes := #[] }, { accessFlags := 26, nameIndex := 69, descriptorIndex := 70, attributes := #[] }])
  fields := #[{ name := "backwards", type := .boolean, accessFlags := 18, slot := 0, constantValue := 0 }, { name := "bound", type := .long, accessFlags := 18, slot := 1, constantValue := 0 }, { name := "size", type := .int, accessFlags := 18, slot := 2, constantValue := 0 }, { name := "USUAL", type := .int, accessFlags := 25, slot := 0, constantValue := 0 }, { name := "MOST", type := .int, accessFlags := 25, slot := 1, constantValue := 0 }, { name := "END", type := .long, accessFlags := 25, slot := 2, constantValue := 0 }, { name := "LAST_ID", type := (.object "java/math/BigDecimal"), accessFlags := 26, slot := 3, constantValue := 0 }]
  methods := #[k3m0, k3m1, k3m2, k3m3, k3m4]
  instanceTypes := #[.boolean, .long, .int]
  staticTypes := #[.int, .int, .long, (.object "java/math/BigDecimal")]
  resolved := Array.replicate 158 none
  statics := none }

def pool4 : Array CpInfo := pool [(1, u "java/lang/Cloneable"), (0, .class_ 1), (0, u "java/lang/Object"), (0, .class_ 3)] 3

/-- java/lang/Cloneable -/
def k4 : Class := { plain "java/lang/Cloneable" (some 0) with
  accessFlags := 1537
  interfaces := #[]
  cf := some (fileOf pool4 2 #[] #[] 1537 4 #[] #[])
  fields := #[]
  methods := #[]
  instanceTypes := #[]
  staticTypes := #[]
  resolved := Array.replicate 8 none
  statics := none }

def pool5 : Array CpInfo := pool [(1, u "java/io/Serializable"), (0, .class_ 1), (0, u "java/lang/Object"), (0, .class_ 3)] 3

/-- java/io/Serializable -/
def k5 : Class := { plain "java/io/Serializable" (some 0) with
  accessFlags := 1537
  interfaces := #[]
  cf := some (fileOf pool5 2 #[] #[] 1537 4 #[] #[])
  fields := #[]
  methods := #[]
  instanceTypes := #[]
  staticTypes := #[]
  resolved := Array.replicate 8 none
  statics := none }

/-- the primitive byte -/
def k6 : Class := { plain "byte" none with kind := .primitive 'B', accessFlags := 0x411 }
/-- [B -/
def k7 : Class := { plain "[B" (some 0) with kind := .array 6 .byte, interfaces := #[4, 5], accessFlags := 1041 }

def heap : Heap := #[]
def classes : Array Class := #[k0, k1, k2, k3, k4, k5, k6, k7]
def interned : List (Array UInt16 × Addr) := []
def slotsUsed : Nat := 0
def theMethod : MethodId := ⟨1, 1⟩
def args0 : Array Value := #[.int 1, .long 7, .int 5, .long 9]
def aboutOver (below : List Frame) : State where
  vm := { classes := classes, interned := interned.toArray }
  heap := heap
  slotsUsed := slotsUsed
  threads := #[{ frames := .invoking theMethod args0 :: below }]
def below0 : List Frame := [.native { method := ⟨0, 0⟩, args := #[] }]
def about1 : State := aboutOver below0
def p0 : Program := .bare "" "" ""
def e0 : Env := launch0.env 0 0 0
theorem w_frames : about1.frames = Frame.invoking theMethod args0 :: below0 := rfl
set_option maxRecDepth 65536 in
theorem w_args : argsFit about1.vm theMethod args0 = true := by decide +kernel
set_option maxRecDepth 65536 in
theorem w_heap : heapFits about1 = true := by decide +kernel
set_option maxRecDepth 65536 in
theorem w_runnable : about1.curStatus? = some .runnable := by decide +kernel
set_option maxRecDepth 65536 in
theorem w_alone : about1.alone = true := by decide +kernel
set_option maxRecDepth 65536 in
theorem w_named : about1.methodNamed? x = some theMethod := by decide +kernel
set_option maxRecDepth 65536 in
theorem w_hears : about1.hears theMethod below0 = true := by decide +kernel
set_option maxRecDepth 65536 in
theorem w_ripe : about1.ripe theMethod args0 below0 = true := by decide +kernel
theorem w_running : about1.status = .running := rfl
set_option maxRecDepth 65536 in
theorem w_room : about1.hasRoom e0.platform room_1 = true :=
  launch0.hasRoom_least _ room_1 (by decide +kernel) (by decide +kernel) (by decide +kernel) (by decide +kernel) (by decide +kernel) (by decide +kernel)
theorem allAtoms_all (ts : List Jvm.Cond) (a : Array Jvm.Value) (st : Jvm.State) : (allAtoms ts).before a st = ts.all (fun c => c.before a st) := by
  induction ts with
  | nil => rfl
  | cons c t ih =>
    show (Jvm.Cond.and c (allAtoms t)).before a st = _
    rw [Jvm.Cond.before_and, ih, List.all_cons]
def words1 : List Jvm.Cond := Jvm.Cond.code x code maxLocals ret :: tables_1
/-- a 'code' word, met by the world's own term for the bytes: nothing is compared byte by byte -/
theorem code_word {y : MethodName} {bytes : ByteArray} {mx : Nat} {rt : Option FieldType} {a : Array Value} {s : State} {m : MethodId} {meth : Method} {c : Code} (h1 : s.methodNamed? y = some m) (h2 : s.vm.method? m = some meth) (h3 : meth.code = some c) (h4 : c.code = bytes)
    (h5 : (c.maxLocals == mx && c.exceptionTable.isEmpty && decide (c.maxStack ≤ mostOperands) && decide (meth.sig.returnType = rt) && !meth.locks && decide (parseMethodDescriptor y.desc = some meth.sig)) = true) : (Jvm.Cond.code y bytes mx rt).before a s = true := by
  simp only [Bool.and_eq_true, beq_iff_eq, Bool.not_eq_true', decide_eq_true_eq] at h5
  obtain ⟨⟨⟨⟨⟨g1, g2⟩, g3⟩, g4⟩, g5⟩, g6⟩ := h5
  simp [Cond.before, Cond.holds, Cond.value, h1, h2, h3, h4, g1, g2, g3, g4, g5, g6]
def isCode : Jvm.Cond → Bool
  | .code _ _ _ _ => true
  | _ => false
theorem all_split {L : List Jvm.Cond} {P : Jvm.Cond → Bool} (h1 : L.all (fun c => isCode c || P c) = true) (h2 : ∀ c ∈ L.filter isCode, P c = true) : L.all P = true := by
  refine List.all_eq_true.mpr fun c hc => ?_
  have h := List.all_eq_true.mp h1 c hc
  rcases Bool.eq_false_or_eq_true (isCode c) with hi | hi
  · exact h2 c (List.mem_filter.mpr ⟨hc, hi⟩)
  · simpa [hi] using h
set_option maxRecDepth 65536 in
theorem w_c0 : (Jvm.Cond.code x code maxLocals ret).before args0 about1 = true := code_word (m := ⟨1, 1⟩) (meth := k1m1) (c := k1c1) (by decide +kernel) rfl rfl rfl (by decide +kernel)
set_option maxRecDepth 65536 in
theorem w_c1 : (Jvm.Cond.code ({ cls := "com/example/tenorbook/tenorbook/book/BookPage", name := "<init>", desc := "(ZJI)V" } : Jvm.MethodName) prog_18_method_1_code (5 : Nat) (Option.none : Option Jvm.ClassFile.FieldType)).before args0 about1 = true := code_word (m := ⟨3, 0⟩) (meth := k3m0) (c := k3c0) (by decide +kernel) rfl rfl rfl (by decide +kernel)
set_option maxRecDepth 65536 in
theorem w_c2 : (Jvm.Cond.code ({ cls := "java/lang/Record", name := "<init>", desc := "()V" } : Jvm.MethodName) jdk_30_method_1_code (1 : Nat) (Option.none : Option Jvm.ClassFile.FieldType)).before args0 about1 = true := code_word (m := ⟨2, 0⟩) (meth := k2m0) (c := k2c0) (by decide +kernel) rfl rfl rfl (by decide +kernel)
set_option maxRecDepth 65536 in
theorem w_c3 : (Jvm.Cond.code ({ cls := "java/lang/Object", name := "<init>", desc := "()V" } : Jvm.MethodName) object_method_1_code (1 : Nat) (Option.none : Option Jvm.ClassFile.FieldType)).before args0 about1 = true := code_word (m := ⟨0, 0⟩) (meth := k0m0) (c := k0c0) (by decide +kernel) rfl rfl rfl (by decide +kernel)
set_option maxRecDepth 65536 in
theorem w_c4 : (Jvm.Cond.code ({ cls := "com/example/tenorbook/tenorbook/book/BookPage", name := "startingAt", desc := "(J)Lcom/example/tenorbook/tenorbook/book/BookPage;" } : Jvm.MethodName) prog_18_method_6_code (3 : Nat) (Option.some (Jvm.ClassFile.FieldType.object "com/example/tenorbook/tenorbook/book/BookPage"))).before args0 about1 = true := code_word (m := ⟨3, 1⟩) (meth := k3m1) (c := k3c1) (by decide +kernel) rfl rfl rfl (by decide +kernel)
set_option maxRecDepth 65536 in
theorem w_c5 : (Jvm.Cond.code ({ cls := "com/example/tenorbook/tenorbook/book/BookPage", name := "backwards", desc := "()Z" } : Jvm.MethodName) prog_18_method_10_code (1 : Nat) (Option.some Jvm.ClassFile.FieldType.boolean)).before args0 about1 = true := code_word (m := ⟨3, 2⟩) (meth := k3m2) (c := k3c2) (by decide +kernel) rfl rfl rfl (by decide +kernel)
set_option maxRecDepth 65536 in
theorem w_c6 : (Jvm.Cond.code ({ cls := "com/example/tenorbook/tenorbook/book/BookPage", name := "bound", desc := "()J" } : Jvm.MethodName) prog_18_method_11_code (1 : Nat) (Option.some Jvm.ClassFile.FieldType.long)).before args0 about1 = true := code_word (m := ⟨3, 3⟩) (meth := k3m3) (c := k3c3) (by decide +kernel) rfl rfl rfl (by decide +kernel)
set_option maxRecDepth 65536 in
theorem w_c7 : (Jvm.Cond.code ({ cls := "com/example/tenorbook/tenorbook/book/BookPage", name := "size", desc := "()I" } : Jvm.MethodName) prog_18_method_12_code (1 : Nat) (Option.some Jvm.ClassFile.FieldType.int)).before args0 about1 = true := code_word (m := ⟨3, 4⟩) (meth := k3m4) (c := k3c4) (by decide +kernel) rfl rfl rfl (by decide +kernel)
def codes1 : List Jvm.Cond := [Jvm.Cond.code x code maxLocals ret, Jvm.Cond.code ({ cls := "com/example/tenorbook/tenorbook/book/BookPage", name := "<init>", desc := "(ZJI)V" } : Jvm.MethodName) prog_18_method_1_code (5 : Nat) (Option.none : Option Jvm.ClassFile.FieldType), Jvm.Cond.code ({ cls := "java/lang/Record", name := "<init>", desc := "()V" } : Jvm.MethodName) jdk_30_method_1_code (1 : Nat) (Option.none : Option Jvm.ClassFile.FieldType), Jvm.Cond.code ({ cls := "java/lang/Object", name := "<init>", desc := "()V" } : Jvm.MethodName) object_method_1_code (1 : Nat) (Option.none : Option Jvm.ClassFile.FieldType), Jvm.Cond.code ({ cls := "com/example/tenorbook/tenorbook/book/BookPage", name := "startingAt", desc := "(J)Lcom/example/tenorbook/tenorbook/book/BookPage;" } : Jvm.MethodName) prog_18_method_6_code (3 : Nat) (Option.some (Jvm.ClassFile.FieldType.object "com/example/tenorbook/tenorbook/book/BookPage")), Jvm.Cond.code ({ cls := "com/example/tenorbook/tenorbook/book/BookPage", name := "backwards", desc := "()Z" } : Jvm.MethodName) prog_18_method_10_code (1 : Nat) (Option.some Jvm.ClassFile.FieldType.boolean), Jvm.Cond.code ({ cls := "com/example/tenorbook/tenorbook/book/BookPage", name := "bound", desc := "()J" } : Jvm.MethodName) prog_18_method_11_code (1 : Nat) (Option.some Jvm.ClassFile.FieldType.long), Jvm.Cond.code ({ cls := "com/example/tenorbook/tenorbook/book/BookPage", name := "size", desc := "()I" } : Jvm.MethodName) prog_18_method_12_code (1 : Nat) (Option.some Jvm.ClassFile.FieldType.int)]
set_option maxRecDepth 65536 in
theorem codes_eq : words1.filter isCode = codes1 := rfl
theorem w_codes : ∀ c ∈ words1.filter isCode, c.before args0 about1 = true := by
  rw [codes_eq]
  intro c hc
  simp only [codes1, List.mem_cons, List.not_mem_nil, or_false] at hc
  rcases hc with rfl | rfl | rfl | rfl | rfl | rfl | rfl | rfl
  · exact w_c0
  · exact w_c1
  · exact w_c2
  · exact w_c3
  · exact w_c4
  · exact w_c5
  · exact w_c6
  · exact w_c7
set_option maxRecDepth 65536 in
theorem w_t1 : (words1.take 24).all (fun c => isCode c || c.before args0 about1) = true := by decide +kernel
set_option maxRecDepth 65536 in
theorem w_t2 : (words1.drop 24).all (fun c => isCode c || c.before args0 about1) = true := by decide +kernel
theorem w_tables : (allAtoms (Jvm.Cond.code x code maxLocals ret :: tables_1)).before args0 about1 = true := by
  rw [allAtoms_all]
  show words1.all (fun c => c.before args0 about1) = true
  refine all_split ?_ w_codes
  rw [← List.take_append_drop 24 words1, List.all_append, w_t1, w_t2]
  rfl
set_option maxRecDepth 65536 in
theorem w_case : (Jvm.Cond.and given_1 narrow_1).before args0 about1 = true := by decide +kernel
theorem w_applies : (headSpec (Jvm.Cond.code x code maxLocals ret :: tables_1) room_1).applies x e0.platform about1 = true :=
  (Spec.applies_iff w_frames).mpr ⟨w_running, w_runnable, w_alone, w_named, w_hears, w_ripe, w_room, w_tables⟩
theorem atStart : AtStart classFile x code maxLocals ret World_1 tables_1 room_1 Calls_1 rest_1 Pre_1 launch0 p0 e0 about1 theMethod args0 below0 :=
  ⟨lists_1, trivial, launch0.admits_env _ _ _, launch0.least_env, fairChoices_fair.cas, fairChoices_fair.clock, w_frames, w_args, w_heap, w_applies, trivial, trivial, w_case⟩
end start1
theorem witness_1 : WitnessClaimed_1 := ⟨start1.p0, start1.e0, start1.about1, start1.theMethod, start1.args0, start1.below0, start1.atStart⟩
end Jvm.Pilot.@@N@@
