import JvmDerived
import JvmDerived.Pilot.@@N@@Statement
import JvmDerived.Pilot.@@N@@Code
set_option linter.unusedVariables false
set_option linter.unusedSimpArgs false
namespace Jvm.Pilot.@@N@@
open Jvm Jvm.ClassFile Sem Op Lib Jvm.Free Jvm.Stand Jvm.LawKit Jvm.RoadKit Bundle Jvm.Pilot.@@N@@.Jvm.D
/-! own_Ends: from here the run comes to its return, and what it leaves is as Qf says -/
def own_Ends (p : Program) (e : Env) (below : List Frame) (s : State) (Qf : Option Value → Heap → List Loc → Prop) (ce sl : Nat) (W : State) : Prop :=
  ∃ U o, Steps p.tables e below W U ∧ U.status = .running ∧ Ended U below o ∧ ∃ v L, o = .returned v ∧ Qf v U.heap L ∧ FrameEnd s o U L ce sl
section Own
variable {p : Program} {l : Launch} {e : Env} {R : Room} {s : State} {m : MethodId} {args : Array Value} {below : List Frame} {meth : Method} {c : Code} {T : State} {locs : List Loc} {cells slots : Nat} {Qf : Option Value → Heap → List Loc → Prop} {ce sl : Nat} {W0 W1 : State}
theorem own_go (h : ∀ t, Steps p.tables e below W1 t → Steps p.tables e below W0 t) (k : own_Ends p e below s Qf ce sl W1) : own_Ends p e below s Qf ce sl W0 := by
  obtain ⟨U, o, h1, h2⟩ := k
  exact ⟨U, o, h _ h1, h2⟩
theorem own_tr (h : Steps p.tables e below W0 W1) (k : own_Ends p e below s Qf ce sl W1) : own_Ends p e below s Qf ce sl W0 := own_go (fun t k => h.trans k) k
theorem own_st {t : State} (h : ∀ t, Steps p.tables e below W1 t → Steps p.tables e below W0 t) (k : Steps p.tables e below W1 t) : Steps p.tables e below W0 t := h t k
theorem own_done (X : Stand p l e R s m args below meth c T locs cells slots) {v : Option Value} (hv : meth.sig.returnType = none → v = none) (hlk : meth.locks = false) (hc : cells ≤ ce) (hs : slots ≤ sl) (hQ : Qf v T.heap locs)
    (h : ∀ fs, (∀ (f : JFrame) (acts : List Action), f.method = m → f.locked = none → f.entered = [] → (doReturn e (T.setTop f) acts v).1 = T.setFrames fs) → Steps p.tables e below W0 (T.setFrames fs)) : own_Ends p e below s Qf ce sl W0 := by
  obtain ⟨fs, hr, hrun, hended, hW, hsame⟩ := X.leave (v := v) hv hlk
  exact ⟨_, _, h fs hr, hrun, hended, _, _, rfl, hQ, ⟨_, rfl⟩, hW, hsame.mono hc hs⟩
theorem own_some {t : FieldType} {v : Option Value} (hret : meth.sig.returnType = some t) : meth.sig.returnType = none → v = none := fun h => by rw [hret] at h; cases h
theorem own_retI (X : Stand p l e R s m args below meth c T locs cells slots) (hx : p.tables.exec = Jvm.exec) {pc : Nat} {Ls : Array Slot} {z : Int32} {rest : List Value} (hret : meth.sig.returnType = some .int) (hd : decode c.code pc = .ok (.ireturn, 1)) (hlk : meth.locks = false) (hc : cells ≤ ce) (hs : slots ≤ sl) (hQ : Qf (some (.int z)) T.heap locs) :
    own_Ends p e below s Qf ce sl (T.setTop (mkF m pc Ls (.int z :: rest))) :=
  own_done X (own_some hret) hlk hc hs hQ fun fs hr => retOut X hx hret rfl (Or.inl ⟨rfl, Or.inl rfl, _, rfl⟩) hd hr
theorem own_retN (X : Stand p l e R s m args below meth c T locs cells slots) (hx : p.tables.exec = Jvm.exec) {pc : Nat} {Ls : Array Slot} {z : Int32} {t : FieldType} {rest : List Value} (hret : meth.sig.returnType = some t) (ht : t = .boolean ∨ t = .byte ∨ t = .char ∨ t = .short) (hd : decode c.code pc = .ok (.ireturn, 1)) (hlk : meth.locks = false) (hc : cells ≤ ce) (hs : slots ≤ sl) (hQ : Qf (some (.int (nar t z))) T.heap locs) :
    own_Ends p e below s Qf ce sl (T.setTop (mkF m pc Ls (.int z :: rest))) :=
  own_done X (own_some hret) hlk hc hs hQ fun fs hr => retN X hx hret ht hd hr
theorem own_retJ (X : Stand p l e R s m args below meth c T locs cells slots) (hx : p.tables.exec = Jvm.exec) {pc : Nat} {Ls : Array Slot} {z : Int64} {rest : List Value} (hret : meth.sig.returnType = some .long) (hd : decode c.code pc = .ok (.lreturn, 1)) (hlk : meth.locks = false) (hc : cells ≤ ce) (hs : slots ≤ sl) (hQ : Qf (some (.long z)) T.heap locs) :
    own_Ends p e below s Qf ce sl (T.setTop (mkF m pc Ls (.long z :: rest))) :=
  own_done X (own_some hret) hlk hc hs hQ fun fs hr => retOut X hx hret rfl (Or.inr (Or.inl ⟨rfl, rfl, _, rfl⟩)) hd hr
theorem own_retD (X : Stand p l e R s m args below meth c T locs cells slots) (hx : p.tables.exec = Jvm.exec) {pc : Nat} {Ls : Array Slot} {z : UInt64} {rest : List Value} (hret : meth.sig.returnType = some .double) (hd : decode c.code pc = .ok (.dreturn, 1)) (hlk : meth.locks = false) (hc : cells ≤ ce) (hs : slots ≤ sl) (hQ : Qf (some (.double z)) T.heap locs) :
    own_Ends p e below s Qf ce sl (T.setTop (mkF m pc Ls (.double z :: rest))) :=
  own_done X (own_some hret) hlk hc hs hQ fun fs hr => retOut X hx hret rfl (Or.inr (Or.inr (Or.inl ⟨rfl, rfl, _, rfl⟩))) hd hr
theorem own_retR (X : Stand p l e R s m args below meth c T locs cells slots) (hx : p.tables.exec = Jvm.exec) {pc : Nat} {Ls : Array Slot} {w : Value} {t : FieldType} {rest : List Value} (hret : meth.sig.returnType = some t) (ht : t.isReference = true) (hw : w.isRef = true) (hd : decode c.code pc = .ok (.areturn, 1)) (hlk : meth.locks = false) (hc : cells ≤ ce) (hs : slots ≤ sl) (hQ : Qf (some w) T.heap locs) :
    own_Ends p e below s Qf ce sl (T.setTop (mkF m pc Ls (w :: rest))) :=
  own_done X (own_some hret) hlk hc hs hQ fun fs hr => retOut X hx hret (by cases t <;> first | rfl | (simp [FieldType.isReference] at ht)) (Or.inr (Or.inr (Or.inr (Or.inr ⟨rfl, ht, hw⟩)))) hd hr
theorem own_retV (X : Stand p l e R s m args below meth c T locs cells slots) (hx : p.tables.exec = Jvm.exec) {pc : Nat} {Ls : Array Slot} (hret : meth.sig.returnType = none) (hd : decode c.code pc = .ok (.return_, 1)) (hlk : meth.locks = false) (hc : cells ≤ ce) (hs : slots ≤ sl) (hQ : Qf none T.heap locs) :
    own_Ends p e below s Qf ce sl (T.setTop (mkF m pc Ls [])) :=
  own_done X (fun _ => rfl) hlk hc hs hQ fun fs hr => X.returnOut hx hret hd hr
def own_b2i (P : Prop) [Decidable P] : Int32 := if P then 1 else 0
theorem own_b1 {P : Prop} [Decidable P] (h : P) : own_b2i P = 1 := if_pos h
theorem own_b0 {P : Prop} [Decidable P] (h : ¬ P) : own_b2i P = 0 := if_neg h
end Own
/-! the same with the wide end: String constants may have been resolved meanwhile -/
def own_EndsW (p : Program) (e : Env) (below : List Frame) (s : State) (Qf : Option Value → Heap → List Loc → Prop) (ce sl : Nat) (W : State) : Prop :=
  ∃ U o, Steps p.tables e below W U ∧ U.status = .running ∧ Ended U below o ∧ ∃ v L, o = .returned v ∧ Qf v U.heap L ∧ ReturnedEndW s o U L ce sl
section OwnW
variable {p : Program} {l : Launch} {e : Env} {R : Room} {s : State} {vm1 : Vm} {kk : Nat} {m : MethodId} {args : Array Value} {below : List Frame} {meth : Method} {c : Code} {T : State} {locs : List Loc} {cells slots : Nat} {Qf : Option Value → Heap → List Loc → Prop} {ce sl : Nat} {W0 W1 : State}
theorem own_goW (h : ∀ t, Steps p.tables e below W1 t → Steps p.tables e below W0 t) (k : own_EndsW p e below s Qf ce sl W1) : own_EndsW p e below s Qf ce sl W0 := by
  obtain ⟨U, o, h1, h2⟩ := k
  exact ⟨U, o, h _ h1, h2⟩
theorem own_trW (h : Steps p.tables e below W0 W1) (k : own_EndsW p e below s Qf ce sl W1) : own_EndsW p e below s Qf ce sl W0 := own_goW (fun t k => h.trans k) k
theorem own_doneW (X : Stand p l e R (s.setVm vm1) m args below meth c T locs cells slots) (hS : s.Since vm1 kk) (hk : kk ≤ T.heap.size) {v : Option Value} (hv : meth.sig.returnType = none → v = none) (hlk : meth.locks = false) (hc : cells ≤ ce) (hs : slots ≤ sl) (hQ : Qf v T.heap locs)
    (h : ∀ fs, (∀ (f : JFrame) (acts : List Action), f.method = m → f.locked = none → f.entered = [] → (doReturn e (T.setTop f) acts v).1 = T.setFrames fs) → Steps p.tables e below W0 (T.setFrames fs)) : own_EndsW p e below s Qf ce sl W0 := by
  obtain ⟨fs, hr, hrun, hended, q1, q2, q3, q4⟩ := X.leaveW hS hk (v := v) hv hlk
  exact ⟨_, _, h fs hr, hrun, hended, _, _, rfl, hQ, q1, q2, q3, q4.mono hc hs⟩
theorem own_retIW (X : Stand p l e R (s.setVm vm1) m args below meth c T locs cells slots) (hS : s.Since vm1 kk) (hk : kk ≤ T.heap.size) (hx : p.tables.exec = Jvm.exec) {pc : Nat} {Ls : Array Slot} {z : Int32} {rest : List Value} (hret : meth.sig.returnType = some .int) (hd : decode c.code pc = .ok (.ireturn, 1)) (hlk : meth.locks = false) (hc : cells ≤ ce) (hs : slots ≤ sl) (hQ : Qf (some (.int z)) T.heap locs) :
    own_EndsW p e below s Qf ce sl (T.setTop (mkF m pc Ls (.int z :: rest))) :=
  own_doneW X hS hk (own_some hret) hlk hc hs hQ fun fs hr => retOut X hx hret rfl (Or.inl ⟨rfl, Or.inl rfl, _, rfl⟩) hd hr
theorem own_retNW (X : Stand p l e R (s.setVm vm1) m args below meth c T locs cells slots) (hS : s.Since vm1 kk) (hk : kk ≤ T.heap.size) (hx : p.tables.exec = Jvm.exec) {pc : Nat} {Ls : Array Slot} {z : Int32} {t : FieldType} {rest : List Value} (hret : meth.sig.returnType = some t) (ht : t = .boolean ∨ t = .byte ∨ t = .char ∨ t = .short) (hd : decode c.code pc = .ok (.ireturn, 1)) (hlk : meth.locks = false) (hc : cells ≤ ce) (hs : slots ≤ sl) (hQ : Qf (some (.int (nar t z))) T.heap locs) :
    own_EndsW p e below s Qf ce sl (T.setTop (mkF m pc Ls (.int z :: rest))) :=
  own_doneW X hS hk (own_some hret) hlk hc hs hQ fun fs hr => retN X hx hret ht hd hr
theorem own_retRW (X : Stand p l e R (s.setVm vm1) m args below meth c T locs cells slots) (hS : s.Since vm1 kk) (hk : kk ≤ T.heap.size) (hx : p.tables.exec = Jvm.exec) {pc : Nat} {Ls : Array Slot} {w : Value} {t : FieldType} {rest : List Value} (hret : meth.sig.returnType = some t) (ht : t.isReference = true) (hw : w.isRef = true) (hd : decode c.code pc = .ok (.areturn, 1)) (hlk : meth.locks = false) (hc : cells ≤ ce) (hs : slots ≤ sl) (hQ : Qf (some w) T.heap locs) :
    own_EndsW p e below s Qf ce sl (T.setTop (mkF m pc Ls (w :: rest))) :=
  own_doneW X hS hk (own_some hret) hlk hc hs hQ fun fs hr => retOut X hx hret (by cases t <;> first | rfl | (simp [FieldType.isReference] at ht)) (Or.inr (Or.inr (Or.inr (Or.inr ⟨rfl, ht, hw⟩)))) hd hr
theorem own_retVW (X : Stand p l e R (s.setVm vm1) m args below meth c T locs cells slots) (hS : s.Since vm1 kk) (hk : kk ≤ T.heap.size) (hx : p.tables.exec = Jvm.exec) {pc : Nat} {Ls : Array Slot} (hret : meth.sig.returnType = none) (hd : decode c.code pc = .ok (.return_, 1)) (hlk : meth.locks = false) (hc : cells ≤ ce) (hs : slots ≤ sl) (hQ : Qf none T.heap locs) :
    own_EndsW p e below s Qf ce sl (T.setTop (mkF m pc Ls [])) :=
  own_doneW X hS hk (fun _ => rfl) hlk hc hs hQ fun fs hr => X.returnOut hx hret hd hr
end OwnW
def own_Qp (z : Value) (h0 : Heap) (n0 : Nat) (v : Option Value) (h : Heap) (L : List Loc) : Prop := v = some z ∧ Fr n0 L ∧ h = h0
def own_Qv (h0 : Heap) (n0 : Nat) (v : Option Value) (h : Heap) (L : List Loc) : Prop := v = none ∧ Fr n0 L ∧ h = h0
def own_JS (Z : State) (cs : Int32) (fm : Value) : Prop := Sta Z Z.heap "java/lang/String" "COMPACT_STRINGS" "Z" (.int cs) ∧ ¬ cs = 0 ∧ Sta Z Z.heap "jdk/internal/util/Preconditions" "SIOOBE_FORMATTER" "Ljava/util/function/BiFunction;" fm ∧ fm.isRef = true
theorem own_shr0 (z : Int32) : z >>> ((0 : Int32) &&& 31) = z := by
  rw [← Int32.toInt_inj, c_ishr z 0 0 rfl]; simp
def own_ch (x : Int32) : Int32 := nar .char ((x &&& (255 : Int32)).toUInt32.toUInt16.toUInt32.toInt32)
theorem own_narc (y : Int32) : nar .char (nar .char y) = nar .char y := by
  rw [← Int32.toInt_inj]
  show ((y.toUInt32.toUInt16.toUInt32.toInt32).toUInt32.toUInt16.toUInt32.toInt32).toInt = (y.toUInt32.toUInt16.toUInt32.toInt32).toInt
  have h1 := c_i2c y
  have h2 := c_i2c (y.toUInt32.toUInt16.toUInt32.toInt32)
  omega
theorem own_chn (x : Int32) : nar .char (own_ch x) = own_ch x := own_narc _
theorem own_cat1 {v : Value} (h : v.isRef = true) : v.category = 1 := by rcases ref_cases h with rfl | ⟨a, rfl⟩ <;> rfl

theorem own_pn_java_lang_String : plainName "java/lang/String" = true := by first | (simp [plainName, overriddenIn]; done) | decide +kernel
theorem d3_0 : decode jdk_42_method_154_code 0 = .ok (.getstatic 38, 3) := by decide +kernel
theorem d3_3 : decode jdk_42_method_154_code 3 = .ok (.ifCond .eq 14, 3) := by decide +kernel
theorem d3_6 : decode jdk_42_method_154_code 6 = .ok (.aload_n 0, 1) := by decide +kernel
theorem d3_7 : decode jdk_42_method_154_code 7 = .ok (.getfield 15, 3) := by decide +kernel
theorem d3_10 : decode jdk_42_method_154_code 10 = .ok (.ifCond .ne 7, 3) := by decide +kernel
theorem d3_13 : decode jdk_42_method_154_code 13 = .ok (.iconst 1, 1) := by decide +kernel
theorem d3_14 : decode jdk_42_method_154_code 14 = .ok (.goto 4, 3) := by decide +kernel
theorem d3_18 : decode jdk_42_method_154_code 18 = .ok (.ireturn, 1) := by decide +kernel
theorem ef_rm3 (m : MethodId) (x0 : Addr)  : entryFrame m #[(.ref x0)] 1 = mkF m 0 #[.val (.ref x0)] [] := by first | (simp [entryFrame, mkF, argsToLocals, Value.category]; done) | rfl
set_option maxRecDepth 65536 in
set_option maxHeartbeats 40000000 in
theorem rm3 (l : Launch) (Z : State) (a0 : Array Value) (hw : ∀ d ∈ tables_1, d.before a0 Z = true) (ws : List Jvm.Cond) (t : Addr) (cs : Int32) (fm : Value) (h0 : Heap) (n0 : Nat) (Z0 : n0 ≤ h0.size) (C_t : Fld Z h0 t "java/lang/String" "coder" "B" (.int 0)) (Xo : Old Z n0 h0) (hjs : own_JS Z cs fm) :
    MetFree l (⟨"java/lang/String", "isLatin1", "()Z"⟩ : MethodName) (head1 (Jvm.Cond.code (⟨"java/lang/String", "isLatin1", "()Z"⟩ : MethodName) jdk_42_method_154_code 1 (some .boolean) :: ws) ({ frames := 0, cells := 0, slots := 0, locals := 0 } : Room)) (fun a U => a = #[(.ref t)] ∧ Z.Warmed39 U.vm ∧ U.heap = h0) (fun _ _ _ _ _ => True) (fun _ U o U' => ∃ v L, o = .returned v ∧ own_Qp (.int 1) h0 n0 v U'.heap L ∧ FrameEnd U o U' L ({ frames := 0, cells := 0, slots := 0, locals := 0 } : Room).cells ({ frames := 0, cells := 0, slots := 0, locals := 0 } : Room).slots) := by
  refine MetFree.of_bodySF (plainFor_of_name own_pn_java_lang_String) hisR ?_
  intro p e s m args below meth c s₁ Bd hml0 hP hK
  obtain ⟨rfl, hZ, hh⟩ := hP
  have hx := Bd.exec
  have hby := Bd.bytes
  have hlk := BodyLoose.notSynchronized Bd
  have hml : c.maxLocals = 1 := hml0
  have hown : s.vm.findClass "java/lang/String" = some m.cls := findClass_of_methodNamed Bd.named
  have hnm := (name_of_methodNamed Bd.named Bd.method).1
  have X0 : Stand p l e ({ frames := 0, cells := 0, slots := 0, locals := 0 } : Room) s m #[(.ref t)] below meth c s₁ [] 0 0 := Stand.of_body Bd
  have e0 : s₁.heap = h0 := by rw [← hh, Bd.state]; rfl
  have N0 := Fr.nil n0
  show own_Ends p e below s (own_Qp (.int 1) h0 n0) 0 0 (s₁.setTop (entryFrame m #[(.ref t)] 1))
  refine own_go (W1 := s₁.setTop (mkF m 0 #[.val (.ref t)] [])) (fun tq kq => castTop (ef_rm3 m t ) kq) ?_
  have S_cs := hjs.1.ext Xo.2
  obtain ⟨T1, X1, e1, st1⟩ := getS2 X0 hx hZ hown (host := "") (Or.inl (hw _ (List.mem_of_getElem? (i := 22) rfl))) Via.refl e0 S_cs (g := (mkF m 0 #[.val (.ref t)] [])) rfl (hb hby d3_0)
  refine own_go (W1 := T1.setTop (mkF m 3 #[.val (.ref t)] [(.int cs)])) (st1) ?_
  refine own_go (W1 := T1.setTop (mkF m 6 #[.val (.ref t)] [])) (fun tq kq => XS.ifNo X1.here hx rfl (hb hby d3_3) rfl ((if0 _ _).trans (feq (show ¬ (cs = (0 : Int32)) from hjs.2.1)).1) kq) ?_
  refine own_go (W1 := T1.setTop (mkF m 7 #[.val (.ref t)] [(.ref t)])) (fun tq kq => XS.aloadN X1.here hx rfl (hb hby d3_6) rfl rfl  kq) ?_
  obtain ⟨T2, X2, e2, st2⟩ := getF X1 hx hZ hown (host := "") (Or.inl (hw _ (List.mem_of_getElem? (i := 23) rfl))) Via.refl e1 C_t (g := (mkF m 7 #[.val (.ref t)] [(.ref t)])) rfl rfl (hb hby d3_7)
  refine own_go (W1 := T2.setTop (mkF m 10 #[.val (.ref t)] [(.int (0 : Int32))])) (st2) ?_
  refine own_go (W1 := T2.setTop (mkF m 13 #[.val (.ref t)] [])) (fun tq kq => XS.ifNo X2.here hx rfl (hb hby d3_10) rfl ((if0 _ _).trans (teq (show (0 : Int32) = (0 : Int32) from (by decide))).2) kq) ?_
  refine own_go (W1 := T2.setTop (mkF m 14 #[.val (.ref t)] [(.int (1 : Int32))])) (fun tq kq => XS.iconst X2.here hx rfl (hb hby d3_13) kq) ?_
  refine own_go (W1 := T2.setTop (mkF m 18 #[.val (.ref t)] [(.int (1 : Int32))])) (fun tq kq => XS.goto X2.here hx rfl (pc0 := 14) (pc' := 18) rfl (hb hby d3_14) (by decide) (by decide) kq) ?_
  exact own_retN X2 hx (t := .boolean) Bd.returns (by simp) (hb hby d3_18) hlk (by decide) (by decide) ⟨rfl, N0, e2⟩
theorem own_pn_jdk_internal_util_Preconditions : plainName "jdk/internal/util/Preconditions" = true := by first | (simp [plainName, overriddenIn]; done) | decide +kernel
theorem d6_0 : decode jdk_41_method_11_code 0 = .ok (.iload_n 0, 1) := by decide +kernel
theorem d6_1 : decode jdk_41_method_11_code 1 = .ok (.ifCond .lt 8, 3) := by decide +kernel
theorem d6_4 : decode jdk_41_method_11_code 4 = .ok (.iload_n 0, 1) := by decide +kernel
theorem d6_5 : decode jdk_41_method_11_code 5 = .ok (.iload_n 1, 1) := by decide +kernel
theorem d6_6 : decode jdk_41_method_11_code 6 = .ok (.if_icmp .lt 10, 3) := by decide +kernel
theorem d6_16 : decode jdk_41_method_11_code 16 = .ok (.iload_n 0, 1) := by decide +kernel
theorem d6_17 : decode jdk_41_method_11_code 17 = .ok (.ireturn, 1) := by decide +kernel
theorem ef_rm6 (m : MethodId) (x0 : Int32) (x1 : Int32) (x2 : Value) (hx2 : x2.isRef = true) : entryFrame m #[(.int x0), (.int x1), x2] 3 = mkF m 0 #[.val (.int x0), .val (.int x1), .val x2] [] := by
  rcases ref_cases hx2 with rfl | ⟨q2, rfl⟩ <;> first | (simp [entryFrame, mkF, argsToLocals, Value.category]; done) | rfl
set_option maxRecDepth 65536 in
set_option maxHeartbeats 40000000 in
theorem rm6 (l : Launch) (Z : State) (a0 : Array Value) (hw : ∀ d ∈ tables_1, d.before a0 Z = true) (ws : List Jvm.Cond) (i z : Int32) (fm : Value) (h0 : Heap) (n0 : Nat) (Z0 : n0 ≤ h0.size) (h_fm : fm.isRef = true) (hlo : ¬ i < 0) (hhi : i < z) :
    MetFree l (⟨"jdk/internal/util/Preconditions", "checkIndex", "(IILjava/util/function/BiFunction;)I"⟩ : MethodName) (head1 (Jvm.Cond.code (⟨"jdk/internal/util/Preconditions", "checkIndex", "(IILjava/util/function/BiFunction;)I"⟩ : MethodName) jdk_41_method_11_code 3 (some .int) :: ws) ({ frames := 0, cells := 0, slots := 0, locals := 0 } : Room)) (fun a U => a = #[(.int i), (.int z), fm] ∧ Z.Warmed39 U.vm ∧ U.heap = h0) (fun _ _ _ _ _ => True) (fun _ U o U' => ∃ v L, o = .returned v ∧ own_Qp (.int i) h0 n0 v U'.heap L ∧ FrameEnd U o U' L ({ frames := 0, cells := 0, slots := 0, locals := 0 } : Room).cells ({ frames := 0, cells := 0, slots := 0, locals := 0 } : Room).slots) := by
  refine MetFree.of_bodySF (plainFor_of_name own_pn_jdk_internal_util_Preconditions) hisR ?_
  intro p e s m args below meth c s₁ Bd hml0 hP hK
  obtain ⟨rfl, hZ, hh⟩ := hP
  have hx := Bd.exec
  have hby := Bd.bytes
  have hlk := BodyLoose.notSynchronized Bd
  have hml : c.maxLocals = 3 := hml0
  have hown : s.vm.findClass "jdk/internal/util/Preconditions" = some m.cls := findClass_of_methodNamed Bd.named
  have hnm := (name_of_methodNamed Bd.named Bd.method).1
  have X0 : Stand p l e ({ frames := 0, cells := 0, slots := 0, locals := 0 } : Room) s m #[(.int i), (.int z), fm] below meth c s₁ [] 0 0 := Stand.of_body Bd
  have e0 : s₁.heap = h0 := by rw [← hh, Bd.state]; rfl
  have N0 := Fr.nil n0
  show own_Ends p e below s (own_Qp (.int i) h0 n0) 0 0 (s₁.setTop (entryFrame m #[(.int i), (.int z), fm] 3))
  refine own_go (W1 := s₁.setTop (mkF m 0 #[.val (.int i), .val (.int z), .val fm] [])) (fun tq kq => castTop (ef_rm6 m i z fm h_fm) kq) ?_
  refine own_go (W1 := s₁.setTop (mkF m 1 #[.val (.int i), .val (.int z), .val fm] [(.int i)])) (fun tq kq => XS.iloadN X0.here hx rfl (hb hby d6_0) rfl  kq) ?_
  refine own_go (W1 := s₁.setTop (mkF m 4 #[.val (.int i), .val (.int z), .val fm] [])) (fun tq kq => XS.ifNo X0.here hx rfl (hb hby d6_1) rfl ((if0 _ _).trans (flt (show ¬ (i < (0 : Int32)) from hlo)).1) kq) ?_
  refine own_go (W1 := s₁.setTop (mkF m 5 #[.val (.int i), .val (.int z), .val fm] [(.int i)])) (fun tq kq => XS.iloadN X0.here hx rfl (hb hby d6_4) rfl  kq) ?_
  refine own_go (W1 := s₁.setTop (mkF m 6 #[.val (.int i), .val (.int z), .val fm] [(.int z), (.int i)])) (fun tq kq => XS.iloadN X0.here hx rfl (hb hby d6_5) rfl  kq) ?_
  refine own_go (W1 := s₁.setTop (mkF m 16 #[.val (.int i), .val (.int z), .val fm] [])) (fun tq kq => XS.icmpYes X0.here hx rfl (pc0 := 6) (pc' := 16) rfl (hb hby d6_6) rfl (tlt (show i < z from hhi)).1 (by decide) (by decide) kq) ?_
  refine own_go (W1 := s₁.setTop (mkF m 17 #[.val (.int i), .val (.int z), .val fm] [(.int i)])) (fun tq kq => XS.iloadN X0.here hx rfl (hb hby d6_16) rfl  kq) ?_
  exact own_retI X0 hx Bd.returns (hb hby d6_17) hlk (by decide) (by decide) ⟨rfl, N0, e0⟩
theorem d5_0 : decode jdk_42_method_155_code 0 = .ok (.iload_n 0, 1) := by decide +kernel
theorem d5_1 : decode jdk_42_method_155_code 1 = .ok (.iload_n 1, 1) := by decide +kernel
theorem d5_2 : decode jdk_42_method_155_code 2 = .ok (.getstatic 1053, 3) := by decide +kernel
theorem d5_5 : decode jdk_42_method_155_code 5 = .ok (.invokestatic 1059, 3) := by decide +kernel
theorem own_pd5 : parseMethodDescriptor "(IILjava/util/function/BiFunction;)I" = some ⟨[.int, .int, (.object "java/util/function/BiFunction")], some .int⟩ := by decide +kernel
theorem d5_8 : decode jdk_42_method_155_code 8 = .ok (.pop, 1) := by decide +kernel
theorem d5_9 : decode jdk_42_method_155_code 9 = .ok (.return_, 1) := by decide +kernel
theorem ef_rm5 (m : MethodId) (x0 : Int32) (x1 : Int32)  : entryFrame m #[(.int x0), (.int x1)] 2 = mkF m 0 #[.val (.int x0), .val (.int x1)] [] := by first | (simp [entryFrame, mkF, argsToLocals, Value.category]; done) | rfl
set_option maxRecDepth 65536 in
set_option maxHeartbeats 40000000 in
theorem rm5 (l : Launch) (Z : State) (a0 : Array Value) (hw : ∀ d ∈ tables_1, d.before a0 Z = true) (ws : List Jvm.Cond) (i z cs : Int32) (fm : Value) (h0 : Heap) (n0 : Nat) (Z0 : n0 ≤ h0.size) (hlo : ¬ i < 0) (hhi : i < z) (Xo : Old Z n0 h0) (hjs : own_JS Z cs fm) :
    MetFree l (⟨"java/lang/String", "checkIndex", "(II)V"⟩ : MethodName) (head1 (Jvm.Cond.code (⟨"java/lang/String", "checkIndex", "(II)V"⟩ : MethodName) jdk_42_method_155_code 2 none :: ws) ({ frames := 1, cells := 0, slots := 0, locals := 14 } : Room)) (fun a U => a = #[(.int i), (.int z)] ∧ Z.Warmed39 U.vm ∧ U.heap = h0) (fun _ _ _ _ _ => True) (fun _ U o U' => ∃ v L, o = .returned v ∧ own_Qv h0 n0 v U'.heap L ∧ FrameEnd U o U' L ({ frames := 1, cells := 0, slots := 0, locals := 14 } : Room).cells ({ frames := 1, cells := 0, slots := 0, locals := 14 } : Room).slots) := by
  refine MetFree.of_bodySF (plainFor_of_name own_pn_java_lang_String) hisR ?_
  intro p e s m args below meth c s₁ Bd hml0 hP hK
  obtain ⟨rfl, hZ, hh⟩ := hP
  have hx := Bd.exec
  have hby := Bd.bytes
  have hlk := BodyLoose.notSynchronized Bd
  have hml : c.maxLocals = 2 := hml0
  have hown : s.vm.findClass "java/lang/String" = some m.cls := findClass_of_methodNamed Bd.named
  have hnm := (name_of_methodNamed Bd.named Bd.method).1
  have X0 : Stand p l e ({ frames := 1, cells := 0, slots := 0, locals := 14 } : Room) s m #[(.int i), (.int z)] below meth c s₁ [] 0 0 := Stand.of_body Bd
  have e0 : s₁.heap = h0 := by rw [← hh, Bd.state]; rfl
  have N0 := Fr.nil n0
  show own_Ends p e below s (own_Qv h0 n0) 0 0 (s₁.setTop (entryFrame m #[(.int i), (.int z)] 2))
  refine own_go (W1 := s₁.setTop (mkF m 0 #[.val (.int i), .val (.int z)] [])) (fun tq kq => castTop (ef_rm5 m i z ) kq) ?_
  have S_fm := hjs.2.2.1.ext Xo.2
  have h_fm := hjs.2.2.2
  refine own_go (W1 := s₁.setTop (mkF m 1 #[.val (.int i), .val (.int z)] [(.int i)])) (fun tq kq => XS.iloadN X0.here hx rfl (hb hby d5_0) rfl  kq) ?_
  refine own_go (W1 := s₁.setTop (mkF m 2 #[.val (.int i), .val (.int z)] [(.int z), (.int i)])) (fun tq kq => XS.iloadN X0.here hx rfl (hb hby d5_1) rfl  kq) ?_
  obtain ⟨T1, X1, e1, st1⟩ := getS2 X0 hx hZ hown (host := "") (Or.inl (hw _ (List.mem_of_getElem? (i := 32) rfl))) Via.refl e0 S_fm (g := (mkF m 2 #[.val (.int i), .val (.int z)] [(.int z), (.int i)])) rfl (hb hby d5_2)
  refine own_go (W1 := T1.setTop (mkF m 5 #[.val (.int i), .val (.int z)] [fm, (.int z), (.int i)])) (st1) ?_
  obtain ⟨_, _, ⟨T2, L2, k2, n2⟩, -, X2, ⟨Lc2, hQ2, l2, y2, z2⟩, st2⟩ := Jvm.LawKit.callS X1 hx (y := (⟨"jdk/internal/util/Preconditions", "checkIndex", "(IILjava/util/function/BiFunction;)I"⟩ : MethodName)) hown (mvT hZ (hw _ (List.mem_of_getElem? (i := 34) rfl))) (mvT hZ (hw _ (List.mem_of_getElem? (i := 35) rfl))) (mvT hZ (hw _ (List.mem_of_getElem? (i := 33) rfl))) (mvT hZ (hw _ (List.mem_of_getElem? (i := 36) rfl))) (by decide) (backOf (W := 0) (rm6 l Z a0 hw [] i z fm h0 n0 Z0 hjs.2.2.2 hlo hhi) hZ (hw _ (List.mem_of_getElem? (i := 36) rfl)) (hw _ (List.mem_of_getElem? (i := 33) rfl)) (by decide) (by decide)) (g := (mkF m 5 #[.val (.int i), .val (.int z)] [fm, (.int z), (.int i)])) rfl (by rw [hml]; rfl) (argsL := [(.int i), (.int z), fm]) (rest := []) (lenOf own_pd5 rfl) rfl (by show 2 * 0 + _ ≤ _; exact Nat.le_of_eq rfl) (hb hby d5_5) (fun _ _ => ⟨rfl, e1, (by decide : 0 + 0 ≤ _), (by decide : 0 + 0 ≤ _)⟩)
  dsimp only [Pt.U, Pt.locs, Pt.cells, Pt.slots] at X2 l2 y2 z2 st2 hQ2
  subst l2 y2 z2
  obtain ⟨rfl, Nq2, eh2⟩ := hQ2
  have N2 := Fr.app N0 Nq2
  refine own_go (W1 := T2.setTop (mkF m 8 #[.val (.int i), .val (.int z)] [(.int i)])) st2 ?_
  refine own_go (W1 := T2.setTop (mkF m 9 #[.val (.int i), .val (.int z)] [])) (fun tq kq => XS.pop X2.here hx rfl (hb hby d5_8) rfl rfl kq) ?_
  exact own_retV X2 hx Bd.returns (hb hby d5_9) hlk (by decide) (by decide) ⟨rfl, N2, eh2⟩
theorem own_pn_java_lang_StringLatin1 : plainName "java/lang/StringLatin1" = true := by first | (simp [plainName, overriddenIn]; done) | decide +kernel
theorem d4_0 : decode jdk_43_method_2_code 0 = .ok (.iload_n 1, 1) := by decide +kernel
theorem d4_1 : decode jdk_43_method_2_code 1 = .ok (.aload_n 0, 1) := by decide +kernel
theorem d4_2 : decode jdk_43_method_2_code 2 = .ok (.arraylength, 1) := by decide +kernel
theorem d4_3 : decode jdk_43_method_2_code 3 = .ok (.invokestatic 9, 3) := by decide +kernel
theorem own_pd4 : parseMethodDescriptor "(II)V" = some ⟨[.int, .int], none⟩ := by decide +kernel
theorem d4_6 : decode jdk_43_method_2_code 6 = .ok (.aload_n 0, 1) := by decide +kernel
theorem d4_7 : decode jdk_43_method_2_code 7 = .ok (.iload_n 1, 1) := by decide +kernel
theorem d4_8 : decode jdk_43_method_2_code 8 = .ok (.baload, 1) := by decide +kernel
theorem d4_9 : decode jdk_43_method_2_code 9 = .ok (.sipush 255, 3) := by decide +kernel
theorem d4_12 : decode jdk_43_method_2_code 12 = .ok (.iand, 1) := by decide +kernel
theorem d4_13 : decode jdk_43_method_2_code 13 = .ok (.i2c, 1) := by decide +kernel
theorem d4_14 : decode jdk_43_method_2_code 14 = .ok (.ireturn, 1) := by decide +kernel
theorem ef_rm4 (m : MethodId) (x0 : Addr) (x1 : Int32)  : entryFrame m #[(.ref x0), (.int x1)] 2 = mkF m 0 #[.val (.ref x0), .val (.int x1)] [] := by first | (simp [entryFrame, mkF, argsToLocals, Value.category]; done) | rfl
set_option maxRecDepth 65536 in
set_option maxHeartbeats 40000000 in
theorem rm4 (l : Launch) (Z : State) (a0 : Array Value) (hw : ∀ d ∈ tables_1, d.before a0 Z = true) (ws : List Jvm.Cond) (b : Addr) (kb : ClassId) (i z x cs : Int32) (fm : Value) (vs : List Value) (h0 : Heap) (n0 : Nat) (Z0 : n0 ≤ h0.size) (V_b : Arv Z h0 b kb .byte z vs (.int 0)) (hlo : ¬ i < 0) (hhi : i < z) (hx1 : vs.getD i.toNatClampNeg (.int 0) = .int x) (Xo : Old Z n0 h0) (hjs : own_JS Z cs fm) :
    MetFree l (⟨"java/lang/StringLatin1", "charAt", "([BI)C"⟩ : MethodName) (head1 (Jvm.Cond.code (⟨"java/lang/StringLatin1", "charAt", "([BI)C"⟩ : MethodName) jdk_43_method_2_code 2 (some .char) :: ws) ({ frames := 2, cells := 0, slots := 0, locals := 27 } : Room)) (fun a U => a = #[(.ref b), (.int i)] ∧ Z.Warmed39 U.vm ∧ U.heap = h0) (fun _ _ _ _ _ => True) (fun _ U o U' => ∃ v L, o = .returned v ∧ own_Qp (.int (own_ch x)) h0 n0 v U'.heap L ∧ FrameEnd U o U' L ({ frames := 2, cells := 0, slots := 0, locals := 27 } : Room).cells ({ frames := 2, cells := 0, slots := 0, locals := 27 } : Room).slots) := by
  refine MetFree.of_bodySF (plainFor_of_name own_pn_java_lang_StringLatin1) hisR ?_
  intro p e s m args below meth c s₁ Bd hml0 hP hK
  obtain ⟨rfl, hZ, hh⟩ := hP
  have hx := Bd.exec
  have hby := Bd.bytes
  have hlk := BodyLoose.notSynchronized Bd
  have hml : c.maxLocals = 2 := hml0
  have hown : s.vm.findClass "java/lang/StringLatin1" = some m.cls := findClass_of_methodNamed Bd.named
  have hnm := (name_of_methodNamed Bd.named Bd.method).1
  have X0 : Stand p l e ({ frames := 2, cells := 0, slots := 0, locals := 27 } : Room) s m #[(.ref b), (.int i)] below meth c s₁ [] 0 0 := Stand.of_body Bd
  have e0 : s₁.heap = h0 := by rw [← hh, Bd.state]; rfl
  have N0 := Fr.nil n0
  show own_Ends p e below s (own_Qp (.int (own_ch x)) h0 n0) 0 0 (s₁.setTop (entryFrame m #[(.ref b), (.int i)] 2))
  refine own_go (W1 := s₁.setTop (mkF m 0 #[.val (.ref b), .val (.int i)] [])) (fun tq kq => castTop (ef_rm4 m b i ) kq) ?_
  refine own_go (W1 := s₁.setTop (mkF m 1 #[.val (.ref b), .val (.int i)] [(.int i)])) (fun tq kq => XS.iloadN X0.here hx rfl (hb hby d4_0) rfl  kq) ?_
  refine own_go (W1 := s₁.setTop (mkF m 2 #[.val (.ref b), .val (.int i)] [(.ref b), (.int i)])) (fun tq kq => XS.aloadN X0.here hx rfl (hb hby d4_1) rfl rfl  kq) ?_
  obtain ⟨cl1, Ar1, -, S1, M1, -, -⟩ := id V_b
  have al1 := X0.arraylength hx (by rw [e0]; exact Ar1.1) (State.isArrayOf_alike hZ.alike Ar1.2.1) (g := (mkF m 2 #[.val (.ref b), .val (.int i)] [(.ref b), (.int i)])) rfl rfl (hb hby d4_2)
  rw [len_of S1 M1] at al1
  refine own_go (W1 := s₁.setTop (mkF m 3 #[.val (.ref b), .val (.int i)] [(.int z), (.int i)])) (al1) ?_
  obtain ⟨_, _, ⟨T2, L2, k2, n2⟩, -, X2, ⟨Lc2, hQ2, l2, y2, z2⟩, st2⟩ := Jvm.LawKit.callS X0 hx (y := (⟨"java/lang/String", "checkIndex", "(II)V"⟩ : MethodName)) hown (mvT hZ (hw _ (List.mem_of_getElem? (i := 29) rfl))) (mvT hZ (hw _ (List.mem_of_getElem? (i := 30) rfl))) (mvT hZ (hw _ (List.mem_of_getElem? (i := 5) rfl))) (mvT hZ (hw _ (List.mem_of_getElem? (i := 31) rfl))) (by decide) (backOf (W := 0) (rm5 l Z a0 hw [] i z cs fm h0 n0 Z0 hlo hhi Xo hjs) hZ (hw _ (List.mem_of_getElem? (i := 31) rfl)) (hw _ (List.mem_of_getElem? (i := 5) rfl)) (by decide) (by decide)) (g := (mkF m 3 #[.val (.ref b), .val (.int i)] [(.int z), (.int i)])) rfl (by rw [hml]; rfl) (argsL := [(.int i), (.int z)]) (rest := []) (lenOf own_pd4 rfl) rfl (by show 2 * 0 + _ ≤ _; exact Nat.le_of_eq rfl) (hb hby d4_3) (fun _ _ => ⟨rfl, e0, (by decide : 0 + 0 ≤ _), (by decide : 0 + 0 ≤ _)⟩)
  dsimp only [Pt.U, Pt.locs, Pt.cells, Pt.slots] at X2 l2 y2 z2 st2 hQ2
  subst l2 y2 z2
  obtain ⟨rfl, Nq2, eh2⟩ := hQ2
  have N2 := Fr.app N0 Nq2
  refine own_go (W1 := T2.setTop (mkF m 6 #[.val (.ref b), .val (.int i)] [])) st2 ?_
  refine own_go (W1 := T2.setTop (mkF m 7 #[.val (.ref b), .val (.int i)] [(.ref b)])) (fun tq kq => XS.aloadN X2.here hx rfl (hb hby d4_6) rfl rfl  kq) ?_
  refine own_go (W1 := T2.setTop (mkF m 8 #[.val (.ref b), .val (.int i)] [(.int i), (.ref b)])) (fun tq kq => XS.iloadN X2.here hx rfl (hb hby d4_7) rfl  kq) ?_
  obtain ⟨cl3, Ar3, q3, S3, M3, H3, G3⟩ := id V_b
  have hin3 : ¬ (i < 0 ∨ cl3.slots.size ≤ (i).toNatClampNeg) := inb_of S3 ⟨hlo, hhi⟩
  have hat3 : cl3.slots[(i).toNatClampNeg]? = some (.int x) := Has.at H3 hin3 hx1
  refine own_go (W1 := T2.setTop (mkF m 9 #[.val (.ref b), .val (.int i)] [(.int x)])) (X2.baloadBytes hx (j := i) (v := (.int x)) (by rw [eh2]; exact Ar3.1) (State.isArrayOf_alike hZ.alike Ar3.2.1) Ar3.2.2 hin3 hat3 (g := (mkF m 8 #[.val (.ref b), .val (.int i)] [(.int i), (.ref b)])) rfl rfl (hb hby d4_8)) ?_
  refine own_go (W1 := T2.setTop (mkF m 12 #[.val (.ref b), .val (.int i)] [(.int (255 : Int32)), (.int x)])) (fun tq kq => XS.sipush X2.here hx rfl (hb hby d4_9) kq) ?_
  refine own_go (W1 := T2.setTop (mkF m 13 #[.val (.ref b), .val (.int i)] [(.int (x &&& (255 : Int32)))])) (fun tq kq => XS.iand X2.here hx rfl (hb hby d4_12) rfl kq) ?_
  refine own_go (W1 := T2.setTop (mkF m 14 #[.val (.ref b), .val (.int i)] [(.int ((x &&& (255 : Int32)).toUInt32.toUInt16.toUInt32.toInt32))])) (fun tq kq => XS.i2c X2.here hx rfl (hb hby d4_13) rfl kq) ?_
  exact own_retN X2 hx (t := .char) Bd.returns (by simp) (hb hby d4_14) hlk (by decide) (by decide) ⟨rfl, N2, eh2⟩
theorem d2_0 : decode jdk_42_method_56_code 0 = .ok (.aload_n 0, 1) := by decide +kernel
theorem d2_1 : decode jdk_42_method_56_code 1 = .ok (.invokevirtual 492, 3) := by decide +kernel
theorem own_pd2 : parseMethodDescriptor "()Z" = some ⟨[], some .boolean⟩ := by decide +kernel
theorem d2_4 : decode jdk_42_method_56_code 4 = .ok (.ifCond .eq 12, 3) := by decide +kernel
theorem d2_7 : decode jdk_42_method_56_code 7 = .ok (.aload_n 0, 1) := by decide +kernel
theorem d2_8 : decode jdk_42_method_56_code 8 = .ok (.getfield 9, 3) := by decide +kernel
theorem d2_11 : decode jdk_42_method_56_code 11 = .ok (.iload_n 1, 1) := by decide +kernel
theorem d2_12 : decode jdk_42_method_56_code 12 = .ok (.invokestatic 495, 3) := by decide +kernel
theorem own_pd3 : parseMethodDescriptor "([BI)C" = some ⟨[(.array .byte), .int], some .char⟩ := by decide +kernel
theorem d2_15 : decode jdk_42_method_56_code 15 = .ok (.ireturn, 1) := by decide +kernel
theorem ef_rm2 (m : MethodId) (x0 : Addr) (x1 : Int32)  : entryFrame m #[(.ref x0), (.int x1)] 2 = mkF m 0 #[.val (.ref x0), .val (.int x1)] [] := by first | (simp [entryFrame, mkF, argsToLocals, Value.category]; done) | rfl
set_option maxRecDepth 65536 in
set_option maxHeartbeats 40000000 in
theorem rm2 (l : Launch) (Z : State) (a0 : Array Value) (hw : ∀ d ∈ tables_1, d.before a0 Z = true) (ws : List Jvm.Cond) (t b : Addr) (kb : ClassId) (i z x cs : Int32) (fm : Value) (vs : List Value) (h0 : Heap) (n0 : Nat) (Z0 : n0 ≤ h0.size) (E_t : Exa Z h0 t "java/lang/String") (C_t : Fld Z h0 t "java/lang/String" "coder" "B" (.int 0)) (F_t : Fld Z h0 t "java/lang/String" "value" "[B" (.ref b)) (V_b : Arv Z h0 b kb .byte z vs (.int 0)) (hlo : ¬ i < 0) (hhi : i < z) (hx1 : vs.getD i.toNatClampNeg (.int 0) = .int x) (Xo : Old Z n0 h0) (hjs : own_JS Z cs fm) :
    MetFree l (⟨"java/lang/String", "charAt", "(I)C"⟩ : MethodName) (head1 (Jvm.Cond.code (⟨"java/lang/String", "charAt", "(I)C"⟩ : MethodName) jdk_42_method_56_code 2 (some .char) :: ws) ({ frames := 3, cells := 0, slots := 0, locals := 40 } : Room)) (fun a U => a = #[(.ref t), (.int i)] ∧ Z.Warmed39 U.vm ∧ U.heap = h0) (fun _ _ _ _ _ => True) (fun _ U o U' => ∃ v L, o = .returned v ∧ own_Qp (.int (own_ch x)) h0 n0 v U'.heap L ∧ FrameEnd U o U' L ({ frames := 3, cells := 0, slots := 0, locals := 40 } : Room).cells ({ frames := 3, cells := 0, slots := 0, locals := 40 } : Room).slots) := by
  refine MetFree.of_bodySF (plainFor_of_name own_pn_java_lang_String) hisR ?_
  intro p e s m args below meth c s₁ Bd hml0 hP hK
  obtain ⟨rfl, hZ, hh⟩ := hP
  have hx := Bd.exec
  have hby := Bd.bytes
  have hlk := BodyLoose.notSynchronized Bd
  have hml : c.maxLocals = 2 := hml0
  have hown : s.vm.findClass "java/lang/String" = some m.cls := findClass_of_methodNamed Bd.named
  have hnm := (name_of_methodNamed Bd.named Bd.method).1
  have X0 : Stand p l e ({ frames := 3, cells := 0, slots := 0, locals := 40 } : Room) s m #[(.ref t), (.int i)] below meth c s₁ [] 0 0 := Stand.of_body Bd
  have e0 : s₁.heap = h0 := by rw [← hh, Bd.state]; rfl
  have N0 := Fr.nil n0
  show own_Ends p e below s (own_Qp (.int (own_ch x)) h0 n0) 0 0 (s₁.setTop (entryFrame m #[(.ref t), (.int i)] 2))
  refine own_go (W1 := s₁.setTop (mkF m 0 #[.val (.ref t), .val (.int i)] [])) (fun tq kq => castTop (ef_rm2 m t i ) kq) ?_
  refine own_go (W1 := s₁.setTop (mkF m 1 #[.val (.ref t), .val (.int i)] [(.ref t)])) (fun tq kq => XS.aloadN X0.here hx rfl (hb hby d2_0) rfl rfl  kq) ?_
  obtain ⟨cq1, kq1, q1a, q1b, q1c⟩ := isOf hZ e0 E_t
  obtain ⟨_, _, ⟨T1, L1, k1, n1⟩, -, X1, ⟨Lc1, hQ1, l1, y1, z1⟩, st1⟩ := X0.virtualBack hx (y := (⟨"java/lang/String", "isLatin1", "()Z"⟩ : MethodName)) (z := (⟨"java/lang/String", "isLatin1", "()Z"⟩ : MethodName)) hown (mvT hZ (hw _ (List.mem_of_getElem? (i := 17) rfl))) (mvT hZ (hw _ (List.mem_of_getElem? (i := 18) rfl))) (notFace_of_selects (args := #[]) (mvT hZ (hw _ (List.mem_of_getElem? (i := 20) rfl)))) (mvT hZ (hw _ (List.mem_of_getElem? (i := 20) rfl))) (mvT hZ (hw _ (List.mem_of_getElem? (i := 19) rfl))) (by decide) (backOf (W := 0) (rm3 l Z a0 hw [] t cs fm h0 n0 Z0 C_t Xo hjs) hZ (hw _ (List.mem_of_getElem? (i := 21) rfl)) (hw _ (List.mem_of_getElem? (i := 5) rfl)) (by decide) (by decide)) q1a q1c (g := (mkF m 1 #[.val (.ref t), .val (.int i)] [(.ref t)])) rfl (by rw [hml]; rfl) (Steps.refl _) (argsL := []) (rest := []) (lenOf own_pd2 rfl) rfl (by show 2 * 0 + _ ≤ _; exact Nat.le_of_eq rfl) (hb hby d2_1) (fun _ _ => ⟨rfl, e0, (by decide : 0 + 0 ≤ _), (by decide : 0 + 0 ≤ _)⟩)
  dsimp only [Pt.U, Pt.locs, Pt.cells, Pt.slots] at X1 l1 y1 z1 st1 hQ1
  subst l1 y1 z1
  obtain ⟨rfl, Nq1, eh1⟩ := hQ1
  have N1 := Fr.app N0 Nq1
  refine own_tr (W1 := T1.setTop (mkF m 4 #[.val (.ref t), .val (.int i)] [(.int (1 : Int32))])) st1 ?_
  refine own_go (W1 := T1.setTop (mkF m 7 #[.val (.ref t), .val (.int i)] [])) (fun tq kq => XS.ifNo X1.here hx rfl (hb hby d2_4) rfl ((if0 _ _).trans (feq (show ¬ ((1 : Int32) = (0 : Int32)) from (by decide))).1) kq) ?_
  refine own_go (W1 := T1.setTop (mkF m 8 #[.val (.ref t), .val (.int i)] [(.ref t)])) (fun tq kq => XS.aloadN X1.here hx rfl (hb hby d2_7) rfl rfl  kq) ?_
  obtain ⟨T2, X2, e2, st2⟩ := getF X1 hx hZ hown (host := "") (Or.inl (hw _ (List.mem_of_getElem? (i := 24) rfl))) Via.refl eh1 F_t (g := (mkF m 8 #[.val (.ref t), .val (.int i)] [(.ref t)])) rfl rfl (hb hby d2_8)
  refine own_go (W1 := T2.setTop (mkF m 11 #[.val (.ref t), .val (.int i)] [(.ref b)])) (st2) ?_
  refine own_go (W1 := T2.setTop (mkF m 12 #[.val (.ref t), .val (.int i)] [(.int i), (.ref b)])) (fun tq kq => XS.iloadN X2.here hx rfl (hb hby d2_11) rfl  kq) ?_
  obtain ⟨_, _, ⟨T3, L3, k3, n3⟩, -, X3, ⟨Lc3, hQ3, l3, y3, z3⟩, st3⟩ := Jvm.LawKit.callS X2 hx (y := (⟨"java/lang/StringLatin1", "charAt", "([BI)C"⟩ : MethodName)) hown (mvT hZ (hw _ (List.mem_of_getElem? (i := 25) rfl))) (mvT hZ (hw _ (List.mem_of_getElem? (i := 26) rfl))) (mvT hZ (hw _ (List.mem_of_getElem? (i := 27) rfl))) (mvT hZ (hw _ (List.mem_of_getElem? (i := 28) rfl))) (by decide) (backOf (W := 0) (rm4 l Z a0 hw [] b kb i z x cs fm vs h0 n0 Z0 V_b hlo hhi hx1 Xo hjs) hZ (hw _ (List.mem_of_getElem? (i := 28) rfl)) (hw _ (List.mem_of_getElem? (i := 27) rfl)) (by decide) (by decide)) (g := (mkF m 12 #[.val (.ref t), .val (.int i)] [(.int i), (.ref b)])) rfl (by rw [hml]; rfl) (argsL := [(.ref b), (.int i)]) (rest := []) (lenOf own_pd3 rfl) rfl (by show 2 * 0 + _ ≤ _; exact Nat.le_of_eq rfl) (hb hby d2_12) (fun _ _ => ⟨rfl, e2, (by decide : 0 + 0 ≤ _), (by decide : 0 + 0 ≤ _)⟩)
  dsimp only [Pt.U, Pt.locs, Pt.cells, Pt.slots] at X3 l3 y3 z3 st3 hQ3
  subst l3 y3 z3
  obtain ⟨rfl, Nq3, eh3⟩ := hQ3
  have N3 := Fr.app N1 Nq3
  refine own_go (W1 := T3.setTop (mkF m 15 #[.val (.ref t), .val (.int i)] [(.int (own_ch x))])) st3 ?_
  exact own_retN X3 hx (t := .char) Bd.returns (by simp) (hb hby d2_15) hlk (by decide) (by decide) ⟨by rw [show nar .char (own_ch x) = own_ch x from own_chn x], N3, eh3⟩
def own_up : List Value := [(.int 48), (.int 49), (.int 50), (.int 51), (.int 52), (.int 53), (.int 54), (.int 55), (.int 56), (.int 57), (.int 65), (.int 66), (.int 67), (.int 68), (.int 69), (.int 70)]
def own_lo : List Value := [(.int 48), (.int 49), (.int 50), (.int 51), (.int 52), (.int 53), (.int 54), (.int 55), (.int 56), (.int 57), (.int 97), (.int 98), (.int 99), (.int 100), (.int 101), (.int 102)]
def own_hex (c : Int32) : Int32 := if ¬ c < 48 ∧ ¬ 57 < c then c - 48 else if ¬ c < 65 ∧ ¬ 70 < c then c - 65 + 10 else if ¬ c < 97 ∧ ¬ 102 < c then c - 97 + 10 else -1
def own_Q0 (n0 : Nat) (v : Option Value) (h : Heap) (L : List Loc) : Prop := v = some (.int 1) ∧ Fr n0 L
theorem own_m15 (y : Int32) : ¬ (y &&& (15 : Int32)) < 0 ∧ (y &&& (15 : Int32)) < 16 := by
  have h := c_mask y 15 4 (by decide) (by decide)
  have e0 : (0 : Int32).toInt = 0 := rfl
  have e1 : (16 : Int32).toInt = 16 := rfl
  rw [Int32.lt_iff_toInt_lt, Int32.lt_iff_toInt_lt, e0, e1]
  omega
theorem own_16 {v : Int32} (h : ¬ v < 0 ∧ v < 16) : v = 0 ∨ v = 1 ∨ v = 2 ∨ v = 3 ∨ v = 4 ∨ v = 5 ∨ v = 6 ∨ v = 7 ∨ v = 8 ∨ v = 9 ∨ v = 10 ∨ v = 11 ∨ v = 12 ∨ v = 13 ∨ v = 14 ∨ v = 15 := by
  rw [Int32.lt_iff_toInt_lt, Int32.lt_iff_toInt_lt] at h
  have e0 : (0 : Int32).toInt = 0 := rfl
  have e1 : (1 : Int32).toInt = 1 := rfl
  have e2 : (2 : Int32).toInt = 2 := rfl
  have e3 : (3 : Int32).toInt = 3 := rfl
  have e4 : (4 : Int32).toInt = 4 := rfl
  have e5 : (5 : Int32).toInt = 5 := rfl
  have e6 : (6 : Int32).toInt = 6 := rfl
  have e7 : (7 : Int32).toInt = 7 := rfl
  have e8 : (8 : Int32).toInt = 8 := rfl
  have e9 : (9 : Int32).toInt = 9 := rfl
  have e10 : (10 : Int32).toInt = 10 := rfl
  have e11 : (11 : Int32).toInt = 11 := rfl
  have e12 : (12 : Int32).toInt = 12 := rfl
  have e13 : (13 : Int32).toInt = 13 := rfl
  have e14 : (14 : Int32).toInt = 14 := rfl
  have e15 : (15 : Int32).toInt = 15 := rfl
  have e16 : (16 : Int32).toInt = 16 := rfl
  simp only [← Int32.toInt_inj, e0, e1, e2, e3, e4, e5, e6, e7, e8, e9, e10, e11, e12, e13, e14, e15]
  rw [e0, e16] at h
  omega
theorem own_up16 {v : Int32} (h : ¬ v < 0 ∧ v < 16) : ∃ x : Int32, own_up.getD v.toNatClampNeg (.int 0) = .int x ∧ own_hex (own_ch x) = v := by
  rcases own_16 h with rfl | rfl | rfl | rfl | rfl | rfl | rfl | rfl | rfl | rfl | rfl | rfl | rfl | rfl | rfl | rfl
  · exact ⟨48, rfl, by decide⟩
  · exact ⟨49, rfl, by decide⟩
  · exact ⟨50, rfl, by decide⟩
  · exact ⟨51, rfl, by decide⟩
  · exact ⟨52, rfl, by decide⟩
  · exact ⟨53, rfl, by decide⟩
  · exact ⟨54, rfl, by decide⟩
  · exact ⟨55, rfl, by decide⟩
  · exact ⟨56, rfl, by decide⟩
  · exact ⟨57, rfl, by decide⟩
  · exact ⟨65, rfl, by decide⟩
  · exact ⟨66, rfl, by decide⟩
  · exact ⟨67, rfl, by decide⟩
  · exact ⟨68, rfl, by decide⟩
  · exact ⟨69, rfl, by decide⟩
  · exact ⟨70, rfl, by decide⟩
theorem own_lo16 {v : Int32} (h : ¬ v < 0 ∧ v < 16) : ∃ x : Int32, own_lo.getD v.toNatClampNeg (.int 0) = .int x ∧ own_hex (own_ch x) = v := by
  rcases own_16 h with rfl | rfl | rfl | rfl | rfl | rfl | rfl | rfl | rfl | rfl | rfl | rfl | rfl | rfl | rfl | rfl
  · exact ⟨48, rfl, by decide⟩
  · exact ⟨49, rfl, by decide⟩
  · exact ⟨50, rfl, by decide⟩
  · exact ⟨51, rfl, by decide⟩
  · exact ⟨52, rfl, by decide⟩
  · exact ⟨53, rfl, by decide⟩
  · exact ⟨54, rfl, by decide⟩
  · exact ⟨55, rfl, by decide⟩
  · exact ⟨56, rfl, by decide⟩
  · exact ⟨57, rfl, by decide⟩
  · exact ⟨97, rfl, by decide⟩
  · exact ⟨98, rfl, by decide⟩
  · exact ⟨99, rfl, by decide⟩
  · exact ⟨100, rfl, by decide⟩
  · exact ⟨101, rfl, by decide⟩
  · exact ⟨102, rfl, by decide⟩
theorem own_back {c : Int32} (h : ¬ own_hex c = -1) : (¬ own_hex c < 0 ∧ own_hex c < 16) ∧ ¬ 15 < own_hex c ∧ ∃ xu xl : Int32, own_up.getD (own_hex c).toNatClampNeg (.int 0) = .int xu ∧ own_lo.getD (own_hex c).toNatClampNeg (.int 0) = .int xl ∧ (c = own_ch xu ∨ c = own_ch xl) := by
  have q : c = 48 ∨ c = 49 ∨ c = 50 ∨ c = 51 ∨ c = 52 ∨ c = 53 ∨ c = 54 ∨ c = 55 ∨ c = 56 ∨ c = 57 ∨ c = 65 ∨ c = 66 ∨ c = 67 ∨ c = 68 ∨ c = 69 ∨ c = 70 ∨ c = 97 ∨ c = 98 ∨ c = 99 ∨ c = 100 ∨ c = 101 ∨ c = 102 := by
    have e48 : (48 : Int32).toInt = 48 := rfl
    have e49 : (49 : Int32).toInt = 49 := rfl
    have e50 : (50 : Int32).toInt = 50 := rfl
    have e51 : (51 : Int32).toInt = 51 := rfl
    have e52 : (52 : Int32).toInt = 52 := rfl
    have e53 : (53 : Int32).toInt = 53 := rfl
    have e54 : (54 : Int32).toInt = 54 := rfl
    have e55 : (55 : Int32).toInt = 55 := rfl
    have e56 : (56 : Int32).toInt = 56 := rfl
    have e57 : (57 : Int32).toInt = 57 := rfl
    have e65 : (65 : Int32).toInt = 65 := rfl
    have e66 : (66 : Int32).toInt = 66 := rfl
    have e67 : (67 : Int32).toInt = 67 := rfl
    have e68 : (68 : Int32).toInt = 68 := rfl
    have e69 : (69 : Int32).toInt = 69 := rfl
    have e70 : (70 : Int32).toInt = 70 := rfl
    have e97 : (97 : Int32).toInt = 97 := rfl
    have e98 : (98 : Int32).toInt = 98 := rfl
    have e99 : (99 : Int32).toInt = 99 := rfl
    have e100 : (100 : Int32).toInt = 100 := rfl
    have e101 : (101 : Int32).toInt = 101 := rfl
    have e102 : (102 : Int32).toInt = 102 := rfl
    simp only [← Int32.toInt_inj, e48, e49, e50, e51, e52, e53, e54, e55, e56, e57, e65, e66, e67, e68, e69, e70, e97, e98, e99, e100, e101, e102]
    simp only [own_hex, Int32.lt_iff_toInt_lt, e48, e57, e65, e70, e97, e102] at h
    by_cases h1 : ¬ c.toInt < 48 ∧ ¬ 57 < c.toInt
    · omega
    · rw [if_neg h1] at h
      by_cases h2 : ¬ c.toInt < 65 ∧ ¬ 70 < c.toInt
      · omega
      · rw [if_neg h2] at h
        by_cases h3 : ¬ c.toInt < 97 ∧ ¬ 102 < c.toInt
        · omega
        · rw [if_neg h3] at h; exact absurd rfl h
  clear h
  rcases q with rfl | rfl | rfl | rfl | rfl | rfl | rfl | rfl | rfl | rfl | rfl | rfl | rfl | rfl | rfl | rfl | rfl | rfl | rfl | rfl | rfl | rfl
  · rw [show own_hex 48 = 0 from by decide]; exact ⟨by decide, by decide, 48, 48, rfl, rfl, by decide⟩
  · rw [show own_hex 49 = 1 from by decide]; exact ⟨by decide, by decide, 49, 49, rfl, rfl, by decide⟩
  · rw [show own_hex 50 = 2 from by decide]; exact ⟨by decide, by decide, 50, 50, rfl, rfl, by decide⟩
  · rw [show own_hex 51 = 3 from by decide]; exact ⟨by decide, by decide, 51, 51, rfl, rfl, by decide⟩
  · rw [show own_hex 52 = 4 from by decide]; exact ⟨by decide, by decide, 52, 52, rfl, rfl, by decide⟩
  · rw [show own_hex 53 = 5 from by decide]; exact ⟨by decide, by decide, 53, 53, rfl, rfl, by decide⟩
  · rw [show own_hex 54 = 6 from by decide]; exact ⟨by decide, by decide, 54, 54, rfl, rfl, by decide⟩
  · rw [show own_hex 55 = 7 from by decide]; exact ⟨by decide, by decide, 55, 55, rfl, rfl, by decide⟩
  · rw [show own_hex 56 = 8 from by decide]; exact ⟨by decide, by decide, 56, 56, rfl, rfl, by decide⟩
  · rw [show own_hex 57 = 9 from by decide]; exact ⟨by decide, by decide, 57, 57, rfl, rfl, by decide⟩
  · rw [show own_hex 65 = 10 from by decide]; exact ⟨by decide, by decide, 65, 97, rfl, rfl, by decide⟩
  · rw [show own_hex 66 = 11 from by decide]; exact ⟨by decide, by decide, 66, 98, rfl, rfl, by decide⟩
  · rw [show own_hex 67 = 12 from by decide]; exact ⟨by decide, by decide, 67, 99, rfl, rfl, by decide⟩
  · rw [show own_hex 68 = 13 from by decide]; exact ⟨by decide, by decide, 68, 100, rfl, rfl, by decide⟩
  · rw [show own_hex 69 = 14 from by decide]; exact ⟨by decide, by decide, 69, 101, rfl, rfl, by decide⟩
  · rw [show own_hex 70 = 15 from by decide]; exact ⟨by decide, by decide, 70, 102, rfl, rfl, by decide⟩
  · rw [show own_hex 97 = 10 from by decide]; exact ⟨by decide, by decide, 65, 97, rfl, rfl, by decide⟩
  · rw [show own_hex 98 = 11 from by decide]; exact ⟨by decide, by decide, 66, 98, rfl, rfl, by decide⟩
  · rw [show own_hex 99 = 12 from by decide]; exact ⟨by decide, by decide, 67, 99, rfl, rfl, by decide⟩
  · rw [show own_hex 100 = 13 from by decide]; exact ⟨by decide, by decide, 68, 100, rfl, rfl, by decide⟩
  · rw [show own_hex 101 = 14 from by decide]; exact ⟨by decide, by decide, 69, 101, rfl, rfl, by decide⟩
  · rw [show own_hex 102 = 15 from by decide]; exact ⟨by decide, by decide, 70, 102, rfl, rfl, by decide⟩
theorem own_pn_com_example_cerb3rus_cerb3rus_value_Octets : plainName "com/example/cerb3rus/cerb3rus/value/Octets" = true := by first | (simp [plainName, overriddenIn]; done) | decide +kernel
theorem d1_0 : decode prog_113_method_7_code 0 = .ok (.iload_n 0, 1) := by decide +kernel
theorem d1_1 : decode prog_113_method_7_code 1 = .ok (.bipush 48, 2) := by decide +kernel
theorem d1_3 : decode prog_113_method_7_code 3 = .ok (.if_icmp .lt 14, 3) := by decide +kernel
theorem d1_17 : decode prog_113_method_7_code 17 = .ok (.iload_n 0, 1) := by decide +kernel
theorem d1_18 : decode prog_113_method_7_code 18 = .ok (.bipush 65, 2) := by decide +kernel
theorem d1_20 : decode prog_113_method_7_code 20 = .ok (.if_icmp .lt 17, 3) := by decide +kernel
theorem d1_37 : decode prog_113_method_7_code 37 = .ok (.iload_n 0, 1) := by decide +kernel
theorem d1_38 : decode prog_113_method_7_code 38 = .ok (.bipush 97, 2) := by decide +kernel
theorem d1_40 : decode prog_113_method_7_code 40 = .ok (.if_icmp .lt 17, 3) := by decide +kernel
theorem d1_57 : decode prog_113_method_7_code 57 = .ok (.iconst (-1), 1) := by decide +kernel
theorem d1_58 : decode prog_113_method_7_code 58 = .ok (.ireturn, 1) := by decide +kernel
theorem d1_43 : decode prog_113_method_7_code 43 = .ok (.iload_n 0, 1) := by decide +kernel
theorem d1_44 : decode prog_113_method_7_code 44 = .ok (.bipush 102, 2) := by decide +kernel
theorem d1_46 : decode prog_113_method_7_code 46 = .ok (.if_icmp .gt 11, 3) := by decide +kernel
theorem d1_49 : decode prog_113_method_7_code 49 = .ok (.iload_n 0, 1) := by decide +kernel
theorem d1_50 : decode prog_113_method_7_code 50 = .ok (.bipush 97, 2) := by decide +kernel
theorem d1_52 : decode prog_113_method_7_code 52 = .ok (.isub, 1) := by decide +kernel
theorem d1_53 : decode prog_113_method_7_code 53 = .ok (.bipush 10, 2) := by decide +kernel
theorem d1_55 : decode prog_113_method_7_code 55 = .ok (.iadd, 1) := by decide +kernel
theorem d1_56 : decode prog_113_method_7_code 56 = .ok (.ireturn, 1) := by decide +kernel
theorem d1_23 : decode prog_113_method_7_code 23 = .ok (.iload_n 0, 1) := by decide +kernel
theorem d1_24 : decode prog_113_method_7_code 24 = .ok (.bipush 70, 2) := by decide +kernel
theorem d1_26 : decode prog_113_method_7_code 26 = .ok (.if_icmp .gt 11, 3) := by decide +kernel
theorem d1_29 : decode prog_113_method_7_code 29 = .ok (.iload_n 0, 1) := by decide +kernel
theorem d1_30 : decode prog_113_method_7_code 30 = .ok (.bipush 65, 2) := by decide +kernel
theorem d1_32 : decode prog_113_method_7_code 32 = .ok (.isub, 1) := by decide +kernel
theorem d1_33 : decode prog_113_method_7_code 33 = .ok (.bipush 10, 2) := by decide +kernel
theorem d1_35 : decode prog_113_method_7_code 35 = .ok (.iadd, 1) := by decide +kernel
theorem d1_36 : decode prog_113_method_7_code 36 = .ok (.ireturn, 1) := by decide +kernel
theorem d1_6 : decode prog_113_method_7_code 6 = .ok (.iload_n 0, 1) := by decide +kernel
theorem d1_7 : decode prog_113_method_7_code 7 = .ok (.bipush 57, 2) := by decide +kernel
theorem d1_9 : decode prog_113_method_7_code 9 = .ok (.if_icmp .gt 8, 3) := by decide +kernel
theorem d1_12 : decode prog_113_method_7_code 12 = .ok (.iload_n 0, 1) := by decide +kernel
theorem d1_13 : decode prog_113_method_7_code 13 = .ok (.bipush 48, 2) := by decide +kernel
theorem d1_15 : decode prog_113_method_7_code 15 = .ok (.isub, 1) := by decide +kernel
theorem d1_16 : decode prog_113_method_7_code 16 = .ok (.ireturn, 1) := by decide +kernel
theorem ef_rm1 (m : MethodId) (x0 : Int32)  : entryFrame m #[(.int x0)] 1 = mkF m 0 #[.val (.int x0)] [] := by first | (simp [entryFrame, mkF, argsToLocals, Value.category]; done) | rfl
set_option maxRecDepth 65536 in
set_option maxHeartbeats 40000000 in
theorem rm1 (l : Launch) (Z : State) (a0 : Array Value) (hw : ∀ d ∈ tables_1, d.before a0 Z = true) (ws : List Jvm.Cond) (p1 : Int32) (h0 : Heap) (n0 : Nat) (Z0 : n0 ≤ h0.size)  :
    MetFree l (⟨"com/example/cerb3rus/cerb3rus/value/Octets", "hexDigit", "(C)I"⟩ : MethodName) (head1 (Jvm.Cond.code (⟨"com/example/cerb3rus/cerb3rus/value/Octets", "hexDigit", "(C)I"⟩ : MethodName) prog_113_method_7_code 1 (some .int) :: ws) ({ frames := 0, cells := 0, slots := 0, locals := 0 } : Room)) (fun a U => a = #[(.int p1)] ∧ Z.Warmed39 U.vm ∧ U.heap = h0) (fun _ _ _ _ _ => True) (fun _ U o U' => ∃ v L, o = .returned v ∧ own_Qp (.int (own_hex p1)) h0 n0 v U'.heap L ∧ FrameEnd U o U' L ({ frames := 0, cells := 0, slots := 0, locals := 0 } : Room).cells ({ frames := 0, cells := 0, slots := 0, locals := 0 } : Room).slots) := by
  refine MetFree.of_bodySF (plainFor_of_name own_pn_com_example_cerb3rus_cerb3rus_value_Octets) hisR ?_
  intro p e s m args below meth c s₁ Bd hml0 hP hK
  obtain ⟨rfl, hZ, hh⟩ := hP
  have hx := Bd.exec
  have hby := Bd.bytes
  have hlk := BodyLoose.notSynchronized Bd
  have hml : c.maxLocals = 1 := hml0
  have hown : s.vm.findClass "com/example/cerb3rus/cerb3rus/value/Octets" = some m.cls := findClass_of_methodNamed Bd.named
  have hnm := (name_of_methodNamed Bd.named Bd.method).1
  have X0 : Stand p l e ({ frames := 0, cells := 0, slots := 0, locals := 0 } : Room) s m #[(.int p1)] below meth c s₁ [] 0 0 := Stand.of_body Bd
  have e0 : s₁.heap = h0 := by rw [← hh, Bd.state]; rfl
  have N0 := Fr.nil n0
  show own_Ends p e below s (own_Qp (.int (own_hex p1)) h0 n0) 0 0 (s₁.setTop (entryFrame m #[(.int p1)] 1))
  refine own_go (W1 := s₁.setTop (mkF m 0 #[.val (.int p1)] [])) (fun tq kq => castTop (ef_rm1 m p1 ) kq) ?_
  refine own_go (W1 := s₁.setTop (mkF m 1 #[.val (.int p1)] [(.int p1)])) (fun tq kq => XS.iloadN X0.here hx rfl (hb hby d1_0) rfl  kq) ?_
  refine own_go (W1 := s₁.setTop (mkF m 3 #[.val (.int p1)] [(.int (48 : Int32)), (.int p1)])) (fun tq kq => XS.bipush X0.here hx rfl (hb hby d1_1) kq) ?_
  by_cases hc3_1 : p1 < (48 : Int32)
  · skip
    refine own_go (W1 := s₁.setTop (mkF m 17 #[.val (.int p1)] [])) (fun tq kq => XS.icmpYes X0.here hx rfl (pc0 := 3) (pc' := 17) rfl (hb hby d1_3) rfl (tlt (show p1 < (48 : Int32) from hc3_1)).1 (by decide) (by decide) kq) ?_
    refine own_go (W1 := s₁.setTop (mkF m 18 #[.val (.int p1)] [(.int p1)])) (fun tq kq => XS.iloadN X0.here hx rfl (hb hby d1_17) rfl  kq) ?_
    refine own_go (W1 := s₁.setTop (mkF m 20 #[.val (.int p1)] [(.int (65 : Int32)), (.int p1)])) (fun tq kq => XS.bipush X0.here hx rfl (hb hby d1_18) kq) ?_
    by_cases hc20_2 : p1 < (65 : Int32)
    · skip
      refine own_go (W1 := s₁.setTop (mkF m 37 #[.val (.int p1)] [])) (fun tq kq => XS.icmpYes X0.here hx rfl (pc0 := 20) (pc' := 37) rfl (hb hby d1_20) rfl (tlt (show p1 < (65 : Int32) from hc20_2)).1 (by decide) (by decide) kq) ?_
      refine own_go (W1 := s₁.setTop (mkF m 38 #[.val (.int p1)] [(.int p1)])) (fun tq kq => XS.iloadN X0.here hx rfl (hb hby d1_37) rfl  kq) ?_
      refine own_go (W1 := s₁.setTop (mkF m 40 #[.val (.int p1)] [(.int (97 : Int32)), (.int p1)])) (fun tq kq => XS.bipush X0.here hx rfl (hb hby d1_38) kq) ?_
      by_cases hc40_3 : p1 < (97 : Int32)
      · skip
        refine own_go (W1 := s₁.setTop (mkF m 57 #[.val (.int p1)] [])) (fun tq kq => XS.icmpYes X0.here hx rfl (pc0 := 40) (pc' := 57) rfl (hb hby d1_40) rfl (tlt (show p1 < (97 : Int32) from hc40_3)).1 (by decide) (by decide) kq) ?_
        refine own_go (W1 := s₁.setTop (mkF m 58 #[.val (.int p1)] [(.int (-1 : Int32))])) (fun tq kq => XS.iconst X0.here hx rfl (hb hby d1_57) kq) ?_
        exact own_retI X0 hx Bd.returns (hb hby d1_58) hlk (by decide) (by decide) ⟨by simp [own_hex, hc3_1, hc20_2, hc40_3], N0, e0⟩
      · skip
        refine own_go (W1 := s₁.setTop (mkF m 43 #[.val (.int p1)] [])) (fun tq kq => XS.icmpNo X0.here hx rfl (hb hby d1_40) rfl (flt (show ¬ (p1 < (97 : Int32)) from hc40_3)).1 kq) ?_
        refine own_go (W1 := s₁.setTop (mkF m 44 #[.val (.int p1)] [(.int p1)])) (fun tq kq => XS.iloadN X0.here hx rfl (hb hby d1_43) rfl  kq) ?_
        refine own_go (W1 := s₁.setTop (mkF m 46 #[.val (.int p1)] [(.int (102 : Int32)), (.int p1)])) (fun tq kq => XS.bipush X0.here hx rfl (hb hby d1_44) kq) ?_
        by_cases hc46_4 : (102 : Int32) < p1
        · skip
          refine own_go (W1 := s₁.setTop (mkF m 57 #[.val (.int p1)] [])) (fun tq kq => XS.icmpYes X0.here hx rfl (pc0 := 46) (pc' := 57) rfl (hb hby d1_46) rfl (tlt (show (102 : Int32) < p1 from hc46_4)).2.2.1 (by decide) (by decide) kq) ?_
          refine own_go (W1 := s₁.setTop (mkF m 58 #[.val (.int p1)] [(.int (-1 : Int32))])) (fun tq kq => XS.iconst X0.here hx rfl (hb hby d1_57) kq) ?_
          exact own_retI X0 hx Bd.returns (hb hby d1_58) hlk (by decide) (by decide) ⟨by simp [own_hex, hc3_1, hc20_2, hc40_3, hc46_4], N0, e0⟩
        · skip
          refine own_go (W1 := s₁.setTop (mkF m 49 #[.val (.int p1)] [])) (fun tq kq => XS.icmpNo X0.here hx rfl (hb hby d1_46) rfl (flt (show ¬ ((102 : Int32) < p1) from hc46_4)).2.2.1 kq) ?_
          refine own_go (W1 := s₁.setTop (mkF m 50 #[.val (.int p1)] [(.int p1)])) (fun tq kq => XS.iloadN X0.here hx rfl (hb hby d1_49) rfl  kq) ?_
          refine own_go (W1 := s₁.setTop (mkF m 52 #[.val (.int p1)] [(.int (97 : Int32)), (.int p1)])) (fun tq kq => XS.bipush X0.here hx rfl (hb hby d1_50) kq) ?_
          refine own_go (W1 := s₁.setTop (mkF m 53 #[.val (.int p1)] [(.int (p1 - (97 : Int32)))])) (fun tq kq => XS.isub X0.here hx rfl (hb hby d1_52) rfl kq) ?_
          refine own_go (W1 := s₁.setTop (mkF m 55 #[.val (.int p1)] [(.int (10 : Int32)), (.int (p1 - (97 : Int32)))])) (fun tq kq => XS.bipush X0.here hx rfl (hb hby d1_53) kq) ?_
          refine own_go (W1 := s₁.setTop (mkF m 56 #[.val (.int p1)] [(.int ((p1 - (97 : Int32)) + (10 : Int32)))])) (fun tq kq => XS.iadd X0.here hx rfl (hb hby d1_55) rfl kq) ?_
          exact own_retI X0 hx Bd.returns (hb hby d1_56) hlk (by decide) (by decide) ⟨by simp [own_hex, hc3_1, hc20_2, hc40_3, hc46_4], N0, e0⟩
    · skip
      refine own_go (W1 := s₁.setTop (mkF m 23 #[.val (.int p1)] [])) (fun tq kq => XS.icmpNo X0.here hx rfl (hb hby d1_20) rfl (flt (show ¬ (p1 < (65 : Int32)) from hc20_2)).1 kq) ?_
      refine own_go (W1 := s₁.setTop (mkF m 24 #[.val (.int p1)] [(.int p1)])) (fun tq kq => XS.iloadN X0.here hx rfl (hb hby d1_23) rfl  kq) ?_
      refine own_go (W1 := s₁.setTop (mkF m 26 #[.val (.int p1)] [(.int (70 : Int32)), (.int p1)])) (fun tq kq => XS.bipush X0.here hx rfl (hb hby d1_24) kq) ?_
      by_cases hc26_5 : (70 : Int32) < p1
      · skip
        refine own_go (W1 := s₁.setTop (mkF m 37 #[.val (.int p1)] [])) (fun tq kq => XS.icmpYes X0.here hx rfl (pc0 := 26) (pc' := 37) rfl (hb hby d1_26) rfl (tlt (show (70 : Int32) < p1 from hc26_5)).2.2.1 (by decide) (by decide) kq) ?_
        refine own_go (W1 := s₁.setTop (mkF m 38 #[.val (.int p1)] [(.int p1)])) (fun tq kq => XS.iloadN X0.here hx rfl (hb hby d1_37) rfl  kq) ?_
        refine own_go (W1 := s₁.setTop (mkF m 40 #[.val (.int p1)] [(.int (97 : Int32)), (.int p1)])) (fun tq kq => XS.bipush X0.here hx rfl (hb hby d1_38) kq) ?_
        by_cases hc40_6 : p1 < (97 : Int32)
        · skip
          refine own_go (W1 := s₁.setTop (mkF m 57 #[.val (.int p1)] [])) (fun tq kq => XS.icmpYes X0.here hx rfl (pc0 := 40) (pc' := 57) rfl (hb hby d1_40) rfl (tlt (show p1 < (97 : Int32) from hc40_6)).1 (by decide) (by decide) kq) ?_
          refine own_go (W1 := s₁.setTop (mkF m 58 #[.val (.int p1)] [(.int (-1 : Int32))])) (fun tq kq => XS.iconst X0.here hx rfl (hb hby d1_57) kq) ?_
          exact own_retI X0 hx Bd.returns (hb hby d1_58) hlk (by decide) (by decide) ⟨by simp [own_hex, hc3_1, hc20_2, hc26_5, hc40_6], N0, e0⟩
        · skip
          refine own_go (W1 := s₁.setTop (mkF m 43 #[.val (.int p1)] [])) (fun tq kq => XS.icmpNo X0.here hx rfl (hb hby d1_40) rfl (flt (show ¬ (p1 < (97 : Int32)) from hc40_6)).1 kq) ?_
          refine own_go (W1 := s₁.setTop (mkF m 44 #[.val (.int p1)] [(.int p1)])) (fun tq kq => XS.iloadN X0.here hx rfl (hb hby d1_43) rfl  kq) ?_
          refine own_go (W1 := s₁.setTop (mkF m 46 #[.val (.int p1)] [(.int (102 : Int32)), (.int p1)])) (fun tq kq => XS.bipush X0.here hx rfl (hb hby d1_44) kq) ?_
          by_cases hc46_7 : (102 : Int32) < p1
          · skip
            refine own_go (W1 := s₁.setTop (mkF m 57 #[.val (.int p1)] [])) (fun tq kq => XS.icmpYes X0.here hx rfl (pc0 := 46) (pc' := 57) rfl (hb hby d1_46) rfl (tlt (show (102 : Int32) < p1 from hc46_7)).2.2.1 (by decide) (by decide) kq) ?_
            refine own_go (W1 := s₁.setTop (mkF m 58 #[.val (.int p1)] [(.int (-1 : Int32))])) (fun tq kq => XS.iconst X0.here hx rfl (hb hby d1_57) kq) ?_
            exact own_retI X0 hx Bd.returns (hb hby d1_58) hlk (by decide) (by decide) ⟨by simp [own_hex, hc3_1, hc20_2, hc26_5, hc40_6, hc46_7], N0, e0⟩
          · skip
            refine own_go (W1 := s₁.setTop (mkF m 49 #[.val (.int p1)] [])) (fun tq kq => XS.icmpNo X0.here hx rfl (hb hby d1_46) rfl (flt (show ¬ ((102 : Int32) < p1) from hc46_7)).2.2.1 kq) ?_
            refine own_go (W1 := s₁.setTop (mkF m 50 #[.val (.int p1)] [(.int p1)])) (fun tq kq => XS.iloadN X0.here hx rfl (hb hby d1_49) rfl  kq) ?_
            refine own_go (W1 := s₁.setTop (mkF m 52 #[.val (.int p1)] [(.int (97 : Int32)), (.int p1)])) (fun tq kq => XS.bipush X0.here hx rfl (hb hby d1_50) kq) ?_
            refine own_go (W1 := s₁.setTop (mkF m 53 #[.val (.int p1)] [(.int (p1 - (97 : Int32)))])) (fun tq kq => XS.isub X0.here hx rfl (hb hby d1_52) rfl kq) ?_
            refine own_go (W1 := s₁.setTop (mkF m 55 #[.val (.int p1)] [(.int (10 : Int32)), (.int (p1 - (97 : Int32)))])) (fun tq kq => XS.bipush X0.here hx rfl (hb hby d1_53) kq) ?_
            refine own_go (W1 := s₁.setTop (mkF m 56 #[.val (.int p1)] [(.int ((p1 - (97 : Int32)) + (10 : Int32)))])) (fun tq kq => XS.iadd X0.here hx rfl (hb hby d1_55) rfl kq) ?_
            exact own_retI X0 hx Bd.returns (hb hby d1_56) hlk (by decide) (by decide) ⟨by simp [own_hex, hc3_1, hc20_2, hc26_5, hc40_6, hc46_7], N0, e0⟩
      · skip
        refine own_go (W1 := s₁.setTop (mkF m 29 #[.val (.int p1)] [])) (fun tq kq => XS.icmpNo X0.here hx rfl (hb hby d1_26) rfl (flt (show ¬ ((70 : Int32) < p1) from hc26_5)).2.2.1 kq) ?_
        refine own_go (W1 := s₁.setTop (mkF m 30 #[.val (.int p1)] [(.int p1)])) (fun tq kq => XS.iloadN X0.here hx rfl (hb hby d1_29) rfl  kq) ?_
        refine own_go (W1 := s₁.setTop (mkF m 32 #[.val (.int p1)] [(.int (65 : Int32)), (.int p1)])) (fun tq kq => XS.bipush X0.here hx rfl (hb hby d1_30) kq) ?_
        refine own_go (W1 := s₁.setTop (mkF m 33 #[.val (.int p1)] [(.int (p1 - (65 : Int32)))])) (fun tq kq => XS.isub X0.here hx rfl (hb hby d1_32) rfl kq) ?_
        refine own_go (W1 := s₁.setTop (mkF m 35 #[.val (.int p1)] [(.int (10 : Int32)), (.int (p1 - (65 : Int32)))])) (fun tq kq => XS.bipush X0.here hx rfl (hb hby d1_33) kq) ?_
        refine own_go (W1 := s₁.setTop (mkF m 36 #[.val (.int p1)] [(.int ((p1 - (65 : Int32)) + (10 : Int32)))])) (fun tq kq => XS.iadd X0.here hx rfl (hb hby d1_35) rfl kq) ?_
        exact own_retI X0 hx Bd.returns (hb hby d1_36) hlk (by decide) (by decide) ⟨by simp [own_hex, hc3_1, hc20_2, hc26_5], N0, e0⟩
  · skip
    refine own_go (W1 := s₁.setTop (mkF m 6 #[.val (.int p1)] [])) (fun tq kq => XS.icmpNo X0.here hx rfl (hb hby d1_3) rfl (flt (show ¬ (p1 < (48 : Int32)) from hc3_1)).1 kq) ?_
    refine own_go (W1 := s₁.setTop (mkF m 7 #[.val (.int p1)] [(.int p1)])) (fun tq kq => XS.iloadN X0.here hx rfl (hb hby d1_6) rfl  kq) ?_
    refine own_go (W1 := s₁.setTop (mkF m 9 #[.val (.int p1)] [(.int (57 : Int32)), (.int p1)])) (fun tq kq => XS.bipush X0.here hx rfl (hb hby d1_7) kq) ?_
    by_cases hc9_8 : (57 : Int32) < p1
    · skip
      refine own_go (W1 := s₁.setTop (mkF m 17 #[.val (.int p1)] [])) (fun tq kq => XS.icmpYes X0.here hx rfl (pc0 := 9) (pc' := 17) rfl (hb hby d1_9) rfl (tlt (show (57 : Int32) < p1 from hc9_8)).2.2.1 (by decide) (by decide) kq) ?_
      refine own_go (W1 := s₁.setTop (mkF m 18 #[.val (.int p1)] [(.int p1)])) (fun tq kq => XS.iloadN X0.here hx rfl (hb hby d1_17) rfl  kq) ?_
      refine own_go (W1 := s₁.setTop (mkF m 20 #[.val (.int p1)] [(.int (65 : Int32)), (.int p1)])) (fun tq kq => XS.bipush X0.here hx rfl (hb hby d1_18) kq) ?_
      by_cases hc20_9 : p1 < (65 : Int32)
      · skip
        refine own_go (W1 := s₁.setTop (mkF m 37 #[.val (.int p1)] [])) (fun tq kq => XS.icmpYes X0.here hx rfl (pc0 := 20) (pc' := 37) rfl (hb hby d1_20) rfl (tlt (show p1 < (65 : Int32) from hc20_9)).1 (by decide) (by decide) kq) ?_
        refine own_go (W1 := s₁.setTop (mkF m 38 #[.val (.int p1)] [(.int p1)])) (fun tq kq => XS.iloadN X0.here hx rfl (hb hby d1_37) rfl  kq) ?_
        refine own_go (W1 := s₁.setTop (mkF m 40 #[.val (.int p1)] [(.int (97 : Int32)), (.int p1)])) (fun tq kq => XS.bipush X0.here hx rfl (hb hby d1_38) kq) ?_
        by_cases hc40_10 : p1 < (97 : Int32)
        · skip
          refine own_go (W1 := s₁.setTop (mkF m 57 #[.val (.int p1)] [])) (fun tq kq => XS.icmpYes X0.here hx rfl (pc0 := 40) (pc' := 57) rfl (hb hby d1_40) rfl (tlt (show p1 < (97 : Int32) from hc40_10)).1 (by decide) (by decide) kq) ?_
          refine own_go (W1 := s₁.setTop (mkF m 58 #[.val (.int p1)] [(.int (-1 : Int32))])) (fun tq kq => XS.iconst X0.here hx rfl (hb hby d1_57) kq) ?_
          exact own_retI X0 hx Bd.returns (hb hby d1_58) hlk (by decide) (by decide) ⟨by simp [own_hex, hc3_1, hc9_8, hc20_9, hc40_10], N0, e0⟩
        · skip
          refine own_go (W1 := s₁.setTop (mkF m 43 #[.val (.int p1)] [])) (fun tq kq => XS.icmpNo X0.here hx rfl (hb hby d1_40) rfl (flt (show ¬ (p1 < (97 : Int32)) from hc40_10)).1 kq) ?_
          refine own_go (W1 := s₁.setTop (mkF m 44 #[.val (.int p1)] [(.int p1)])) (fun tq kq => XS.iloadN X0.here hx rfl (hb hby d1_43) rfl  kq) ?_
          refine own_go (W1 := s₁.setTop (mkF m 46 #[.val (.int p1)] [(.int (102 : Int32)), (.int p1)])) (fun tq kq => XS.bipush X0.here hx rfl (hb hby d1_44) kq) ?_
          by_cases hc46_11 : (102 : Int32) < p1
          · skip
            refine own_go (W1 := s₁.setTop (mkF m 57 #[.val (.int p1)] [])) (fun tq kq => XS.icmpYes X0.here hx rfl (pc0 := 46) (pc' := 57) rfl (hb hby d1_46) rfl (tlt (show (102 : Int32) < p1 from hc46_11)).2.2.1 (by decide) (by decide) kq) ?_
            refine own_go (W1 := s₁.setTop (mkF m 58 #[.val (.int p1)] [(.int (-1 : Int32))])) (fun tq kq => XS.iconst X0.here hx rfl (hb hby d1_57) kq) ?_
            exact own_retI X0 hx Bd.returns (hb hby d1_58) hlk (by decide) (by decide) ⟨by simp [own_hex, hc3_1, hc9_8, hc20_9, hc40_10, hc46_11], N0, e0⟩
          · skip
            refine own_go (W1 := s₁.setTop (mkF m 49 #[.val (.int p1)] [])) (fun tq kq => XS.icmpNo X0.here hx rfl (hb hby d1_46) rfl (flt (show ¬ ((102 : Int32) < p1) from hc46_11)).2.2.1 kq) ?_
            refine own_go (W1 := s₁.setTop (mkF m 50 #[.val (.int p1)] [(.int p1)])) (fun tq kq => XS.iloadN X0.here hx rfl (hb hby d1_49) rfl  kq) ?_
            refine own_go (W1 := s₁.setTop (mkF m 52 #[.val (.int p1)] [(.int (97 : Int32)), (.int p1)])) (fun tq kq => XS.bipush X0.here hx rfl (hb hby d1_50) kq) ?_
            refine own_go (W1 := s₁.setTop (mkF m 53 #[.val (.int p1)] [(.int (p1 - (97 : Int32)))])) (fun tq kq => XS.isub X0.here hx rfl (hb hby d1_52) rfl kq) ?_
            refine own_go (W1 := s₁.setTop (mkF m 55 #[.val (.int p1)] [(.int (10 : Int32)), (.int (p1 - (97 : Int32)))])) (fun tq kq => XS.bipush X0.here hx rfl (hb hby d1_53) kq) ?_
            refine own_go (W1 := s₁.setTop (mkF m 56 #[.val (.int p1)] [(.int ((p1 - (97 : Int32)) + (10 : Int32)))])) (fun tq kq => XS.iadd X0.here hx rfl (hb hby d1_55) rfl kq) ?_
            exact own_retI X0 hx Bd.returns (hb hby d1_56) hlk (by decide) (by decide) ⟨by simp [own_hex, hc3_1, hc9_8, hc20_9, hc40_10, hc46_11], N0, e0⟩
      · skip
        refine own_go (W1 := s₁.setTop (mkF m 23 #[.val (.int p1)] [])) (fun tq kq => XS.icmpNo X0.here hx rfl (hb hby d1_20) rfl (flt (show ¬ (p1 < (65 : Int32)) from hc20_9)).1 kq) ?_
        refine own_go (W1 := s₁.setTop (mkF m 24 #[.val (.int p1)] [(.int p1)])) (fun tq kq => XS.iloadN X0.here hx rfl (hb hby d1_23) rfl  kq) ?_
        refine own_go (W1 := s₁.setTop (mkF m 26 #[.val (.int p1)] [(.int (70 : Int32)), (.int p1)])) (fun tq kq => XS.bipush X0.here hx rfl (hb hby d1_24) kq) ?_
        by_cases hc26_12 : (70 : Int32) < p1
        · skip
          refine own_go (W1 := s₁.setTop (mkF m 37 #[.val (.int p1)] [])) (fun tq kq => XS.icmpYes X0.here hx rfl (pc0 := 26) (pc' := 37) rfl (hb hby d1_26) rfl (tlt (show (70 : Int32) < p1 from hc26_12)).2.2.1 (by decide) (by decide) kq) ?_
          refine own_go (W1 := s₁.setTop (mkF m 38 #[.val (.int p1)] [(.int p1)])) (fun tq kq => XS.iloadN X0.here hx rfl (hb hby d1_37) rfl  kq) ?_
          refine own_go (W1 := s₁.setTop (mkF m 40 #[.val (.int p1)] [(.int (97 : Int32)), (.int p1)])) (fun tq kq => XS.bipush X0.here hx rfl (hb hby d1_38) kq) ?_
          by_cases hc40_13 : p1 < (97 : Int32)
          · skip
            refine own_go (W1 := s₁.setTop (mkF m 57 #[.val (.int p1)] [])) (fun tq kq => XS.icmpYes X0.here hx rfl (pc0 := 40) (pc' := 57) rfl (hb hby d1_40) rfl (tlt (show p1 < (97 : Int32) from hc40_13)).1 (by decide) (by decide) kq) ?_
            refine own_go (W1 := s₁.setTop (mkF m 58 #[.val (.int p1)] [(.int (-1 : Int32))])) (fun tq kq => XS.iconst X0.here hx rfl (hb hby d1_57) kq) ?_
            exact own_retI X0 hx Bd.returns (hb hby d1_58) hlk (by decide) (by decide) ⟨by simp [own_hex, hc3_1, hc9_8, hc20_9, hc26_12, hc40_13], N0, e0⟩
          · skip
            refine own_go (W1 := s₁.setTop (mkF m 43 #[.val (.int p1)] [])) (fun tq kq => XS.icmpNo X0.here hx rfl (hb hby d1_40) rfl (flt (show ¬ (p1 < (97 : Int32)) from hc40_13)).1 kq) ?_
            refine own_go (W1 := s₁.setTop (mkF m 44 #[.val (.int p1)] [(.int p1)])) (fun tq kq => XS.iloadN X0.here hx rfl (hb hby d1_43) rfl  kq) ?_
            refine own_go (W1 := s₁.setTop (mkF m 46 #[.val (.int p1)] [(.int (102 : Int32)), (.int p1)])) (fun tq kq => XS.bipush X0.here hx rfl (hb hby d1_44) kq) ?_
            by_cases hc46_14 : (102 : Int32) < p1
            · skip
              refine own_go (W1 := s₁.setTop (mkF m 57 #[.val (.int p1)] [])) (fun tq kq => XS.icmpYes X0.here hx rfl (pc0 := 46) (pc' := 57) rfl (hb hby d1_46) rfl (tlt (show (102 : Int32) < p1 from hc46_14)).2.2.1 (by decide) (by decide) kq) ?_
              refine own_go (W1 := s₁.setTop (mkF m 58 #[.val (.int p1)] [(.int (-1 : Int32))])) (fun tq kq => XS.iconst X0.here hx rfl (hb hby d1_57) kq) ?_
              exact own_retI X0 hx Bd.returns (hb hby d1_58) hlk (by decide) (by decide) ⟨by simp [own_hex, hc3_1, hc9_8, hc20_9, hc26_12, hc40_13, hc46_14], N0, e0⟩
            · skip
              refine own_go (W1 := s₁.setTop (mkF m 49 #[.val (.int p1)] [])) (fun tq kq => XS.icmpNo X0.here hx rfl (hb hby d1_46) rfl (flt (show ¬ ((102 : Int32) < p1) from hc46_14)).2.2.1 kq) ?_
              refine own_go (W1 := s₁.setTop (mkF m 50 #[.val (.int p1)] [(.int p1)])) (fun tq kq => XS.iloadN X0.here hx rfl (hb hby d1_49) rfl  kq) ?_
              refine own_go (W1 := s₁.setTop (mkF m 52 #[.val (.int p1)] [(.int (97 : Int32)), (.int p1)])) (fun tq kq => XS.bipush X0.here hx rfl (hb hby d1_50) kq) ?_
              refine own_go (W1 := s₁.setTop (mkF m 53 #[.val (.int p1)] [(.int (p1 - (97 : Int32)))])) (fun tq kq => XS.isub X0.here hx rfl (hb hby d1_52) rfl kq) ?_
              refine own_go (W1 := s₁.setTop (mkF m 55 #[.val (.int p1)] [(.int (10 : Int32)), (.int (p1 - (97 : Int32)))])) (fun tq kq => XS.bipush X0.here hx rfl (hb hby d1_53) kq) ?_
              refine own_go (W1 := s₁.setTop (mkF m 56 #[.val (.int p1)] [(.int ((p1 - (97 : Int32)) + (10 : Int32)))])) (fun tq kq => XS.iadd X0.here hx rfl (hb hby d1_55) rfl kq) ?_
              exact own_retI X0 hx Bd.returns (hb hby d1_56) hlk (by decide) (by decide) ⟨by simp [own_hex, hc3_1, hc9_8, hc20_9, hc26_12, hc40_13, hc46_14], N0, e0⟩
        · skip
          refine own_go (W1 := s₁.setTop (mkF m 29 #[.val (.int p1)] [])) (fun tq kq => XS.icmpNo X0.here hx rfl (hb hby d1_26) rfl (flt (show ¬ ((70 : Int32) < p1) from hc26_12)).2.2.1 kq) ?_
          refine own_go (W1 := s₁.setTop (mkF m 30 #[.val (.int p1)] [(.int p1)])) (fun tq kq => XS.iloadN X0.here hx rfl (hb hby d1_29) rfl  kq) ?_
          refine own_go (W1 := s₁.setTop (mkF m 32 #[.val (.int p1)] [(.int (65 : Int32)), (.int p1)])) (fun tq kq => XS.bipush X0.here hx rfl (hb hby d1_30) kq) ?_
          refine own_go (W1 := s₁.setTop (mkF m 33 #[.val (.int p1)] [(.int (p1 - (65 : Int32)))])) (fun tq kq => XS.isub X0.here hx rfl (hb hby d1_32) rfl kq) ?_
          refine own_go (W1 := s₁.setTop (mkF m 35 #[.val (.int p1)] [(.int (10 : Int32)), (.int (p1 - (65 : Int32)))])) (fun tq kq => XS.bipush X0.here hx rfl (hb hby d1_33) kq) ?_
          refine own_go (W1 := s₁.setTop (mkF m 36 #[.val (.int p1)] [(.int ((p1 - (65 : Int32)) + (10 : Int32)))])) (fun tq kq => XS.iadd X0.here hx rfl (hb hby d1_35) rfl kq) ?_
          exact own_retI X0 hx Bd.returns (hb hby d1_36) hlk (by decide) (by decide) ⟨by simp [own_hex, hc3_1, hc9_8, hc20_9, hc26_12], N0, e0⟩
    · skip
      refine own_go (W1 := s₁.setTop (mkF m 12 #[.val (.int p1)] [])) (fun tq kq => XS.icmpNo X0.here hx rfl (hb hby d1_9) rfl (flt (show ¬ ((57 : Int32) < p1) from hc9_8)).2.2.1 kq) ?_
      refine own_go (W1 := s₁.setTop (mkF m 13 #[.val (.int p1)] [(.int p1)])) (fun tq kq => XS.iloadN X0.here hx rfl (hb hby d1_12) rfl  kq) ?_
      refine own_go (W1 := s₁.setTop (mkF m 15 #[.val (.int p1)] [(.int (48 : Int32)), (.int p1)])) (fun tq kq => XS.bipush X0.here hx rfl (hb hby d1_13) kq) ?_
      refine own_go (W1 := s₁.setTop (mkF m 16 #[.val (.int p1)] [(.int (p1 - (48 : Int32)))])) (fun tq kq => XS.isub X0.here hx rfl (hb hby d1_15) rfl kq) ?_
      exact own_retI X0 hx Bd.returns (hb hby d1_16) hlk (by decide) (by decide) ⟨by simp [own_hex, hc3_1, hc9_8], N0, e0⟩
theorem own_pn_com_example_cerb3rus_cerb3rus_value_OctetsHexDigitPinLaw : plainName "com/example/cerb3rus/cerb3rus/value/OctetsHexDigitPinLaw" = true := by first | (simp [plainName, overriddenIn]; done) | decide +kernel
theorem own_pd0 : parseMethodDescriptor "(C)I" = some ⟨[.char], some .int⟩ := by decide +kernel
theorem own_pd1 : parseMethodDescriptor "(I)C" = some ⟨[.int], some .char⟩ := by decide +kernel
theorem ef_rm0 (m : MethodId) (x0 : Int32) (x1 : Int32)  : entryFrame m #[(.int x0), (.int x1)] maxLocals = mkF m 0 #[.val (.int x0), .val (.int x1), .unset, .unset, .unset, .unset, .unset, .unset] [] := by first | (simp [entryFrame, mkF, argsToLocals, Value.category, maxLocals]; done) | rfl
set_option maxRecDepth 65536 in
set_option maxHeartbeats 40000000 in
theorem rm0 (l : Launch) (Z : State) (a0 : Array Value) (hw : ∀ d ∈ tables_1, d.before a0 Z = true) (ws : List Jvm.Cond) (x1 y1 cs : Int32) (fm : Value) (h0 : Heap) (n0 : Nat) (Z0 : n0 ≤ h0.size) (Xo : Old Z n0 h0) (hjs : own_JS Z cs fm) (hc13 : Jvm.Lit.constHeld Z "com/example/cerb3rus/cerb3rus/value/OctetsHexDigitPinLaw" 13) (hc21 : Jvm.Lit.constHeld Z "com/example/cerb3rus/cerb3rus/value/OctetsHexDigitPinLaw" 21) (hcw : Jvm.Lit.compactW.before a0 Z = true) :
    MetFree l x (head1 (Jvm.Cond.code x code maxLocals ret :: ws) room_1) (fun a U => a = #[(.int x1), (.int y1)] ∧ Z.Warmed39 U.vm ∧ U.heap = h0 ∧ U = Z) (fun _ _ _ _ _ => True) (fun _ U o U' => ∃ v L, o = .returned v ∧ own_Q0 n0 v U'.heap L ∧ ReturnedEndW U o U' L 8 2112) := by
  refine MetFree.of_bodySF (plainFor_of_name own_pn_com_example_cerb3rus_cerb3rus_value_OctetsHexDigitPinLaw) hisR ?_
  intro p e s m args below meth c s₁ Bd hml0 hP hK
  obtain ⟨rfl, hZ, hh, hUZ⟩ := hP
  have hx := Bd.exec
  have hby := Bd.bytes
  have hlk := BodyLoose.notSynchronized Bd
  have hml : c.maxLocals = 8 := hml0
  have hown : s.vm.findClass "com/example/cerb3rus/cerb3rus/value/OctetsHexDigitPinLaw" = some m.cls := findClass_of_methodNamed Bd.named
  have hnm := (name_of_methodNamed Bd.named Bd.method).1
  have X0 : Stand p l e room_1 s m #[(.int x1), (.int y1)] below meth c s₁ [] 0 0 := Stand.of_body Bd
  have e0 : s₁.heap = h0 := by rw [← hh, Bd.state]; rfl
  have N0 := Fr.nil n0
  have X0 : Stand p l e room_1 (s.setVm s.vm) m #[(.int x1), (.int y1)] below meth c s₁ [] 0 0 := X0
  have hS0 : s.Since s.vm 0 := (State.WarmedH.refl s).since 0
  have hk0 : 0 ≤ h0.size := Nat.zero_le _
  show own_EndsW p e below s (own_Q0 n0) 8 2112 (s₁.setTop (entryFrame m #[(.int x1), (.int y1)] maxLocals))
  refine own_goW (W1 := s₁.setTop (mkF m 0 #[.val (.int x1), .val (.int y1), .unset, .unset, .unset, .unset, .unset, .unset] [])) (fun tq kq => castTop (ef_rm0 m x1 y1 ) kq) ?_
  have wS : ∀ d ∈ Bundle.stringAtoms, d.before a0 Z = true := by
    intro d hd
    simp only [Bundle.stringAtoms, Bundle.sN, List.mem_cons, List.not_mem_nil, or_false] at hd
    rcases hd with rfl | rfl | rfl | rfl | rfl | rfl | rfl
    · exact (hw _ (List.mem_of_getElem? (i := 5) rfl))
    · exact (hw _ (List.mem_of_getElem? (i := 6) rfl))
    · exact (hw _ (List.mem_of_getElem? (i := 7) rfl))
    · exact (hw _ (List.mem_of_getElem? (i := 8) rfl))
    · exact (hw _ (List.mem_of_getElem? (i := 9) rfl))
    · exact (hw _ (List.mem_of_getElem? (i := 10) rfl))
    · exact (hw _ (List.mem_of_getElem? (i := 11) rfl))
  have hkeep : ∀ (b : Addr) (cl : Cell), Z.heap[b]? = some cl → s.heap[b]? = some cl := fun b cl q => by rw [hUZ]; exact q
  have I0 : IB Z s.vm [] := by rw [hUZ]; exact IB.start
  refine own_goW (W1 := s₁.setTop (mkF m 1 #[.val (.int x1), .val (.int y1), .unset, .unset, .unset, .unset, .unset, .unset] [(.int x1)])) (fun tq kq => XS.iloadN X0.here hx rfl (hb hby at_0) rfl  kq) ?_
  refine own_goW (W1 := s₁.setTop (mkF m 2 #[.val (.int x1), .val (.int y1), .unset, .unset, .unset, .unset, .unset, .unset] [(.int (x1.toUInt32.toUInt16.toUInt32.toInt32))])) (fun tq kq => XS.i2c X0.here hx rfl (hb hby at_1) rfl kq) ?_
  refine own_goW (W1 := s₁.setTop (mkF m 3 #[.val (.int x1), .val (.int y1), .val (.int (x1.toUInt32.toUInt16.toUInt32.toInt32)), .unset, .unset, .unset, .unset, .unset] [])) (fun tq kq => XS.istoreN X0.here hx rfl (hb hby at_2) rfl (l' := #[.val (.int x1), .val (.int y1), .val (.int (x1.toUInt32.toUInt16.toUInt32.toInt32)), .unset, .unset, .unset, .unset, .unset]) rfl kq) ?_
  refine own_goW (W1 := s₁.setTop (mkF m 4 #[.val (.int x1), .val (.int y1), .val (.int (x1.toUInt32.toUInt16.toUInt32.toInt32)), .unset, .unset, .unset, .unset, .unset] [(.int y1)])) (fun tq kq => XS.iloadN X0.here hx rfl (hb hby at_3) rfl  kq) ?_
  refine own_goW (W1 := s₁.setTop (mkF m 6 #[.val (.int x1), .val (.int y1), .val (.int (x1.toUInt32.toUInt16.toUInt32.toInt32)), .unset, .unset, .unset, .unset, .unset] [(.int (15 : Int32)), (.int y1)])) (fun tq kq => XS.bipush X0.here hx rfl (hb hby at_4) kq) ?_
  refine own_goW (W1 := s₁.setTop (mkF m 7 #[.val (.int x1), .val (.int y1), .val (.int (x1.toUInt32.toUInt16.toUInt32.toInt32)), .unset, .unset, .unset, .unset, .unset] [(.int (y1 &&& (15 : Int32)))])) (fun tq kq => XS.iand X0.here hx rfl (hb hby at_6) rfl kq) ?_
  refine own_goW (W1 := s₁.setTop (mkF m 8 #[.val (.int x1), .val (.int y1), .val (.int (x1.toUInt32.toUInt16.toUInt32.toInt32)), .val (.int (y1 &&& (15 : Int32))), .unset, .unset, .unset, .unset] [])) (fun tq kq => XS.istoreN X0.here hx rfl (hb hby at_7) rfl (l' := #[.val (.int x1), .val (.int y1), .val (.int (x1.toUInt32.toUInt16.toUInt32.toInt32)), .val (.int (y1 &&& (15 : Int32))), .unset, .unset, .unset, .unset]) rfl kq) ?_
  have hv := own_m15 y1
  generalize (y1 &&& (15 : Int32)) = vv at *
  obtain ⟨xtU, hxtU, hiU⟩ := own_up16 hv
  obtain ⟨xtL, hxtL, hiL⟩ := own_lo16 hv
  generalize x1.toUInt32.toUInt16.toUInt32.toInt32 = c1 at *
  refine own_goW (W1 := s₁.setTop (mkF m 9 #[.val (.int x1), .val (.int y1), .val (.int c1), .val (.int vv), .unset, .unset, .unset, .unset] [(.int c1)])) (fun tq kq => XS.iloadN X0.here hx rfl (hb hby at_8) rfl  kq) ?_
  obtain ⟨_, _, ⟨T1, L1, k1, n1⟩, -, X1, ⟨Lc1, hQ1, l1, y1, z1⟩, st1⟩ := Jvm.LawKit.callS X0 hx (y := (⟨"com/example/cerb3rus/cerb3rus/value/Octets", "hexDigit", "(C)I"⟩ : MethodName)) hown (mvT hZ (hw _ (List.mem_of_getElem? (i := 0) rfl))) (mvT hZ (hw _ (List.mem_of_getElem? (i := 1) rfl))) (mvT hZ (hw _ (List.mem_of_getElem? (i := 2) rfl))) (mvT hZ (hw _ (List.mem_of_getElem? (i := 3) rfl))) (by decide) (backOf (W := 0) (rm1 l Z a0 hw [] c1 h0 n0 Z0) hZ (hw _ (List.mem_of_getElem? (i := 3) rfl)) (hw _ (List.mem_of_getElem? (i := 2) rfl)) (by decide) (by decide)) (g := (mkF m 9 #[.val (.int x1), .val (.int y1), .val (.int c1), .val (.int vv), .unset, .unset, .unset, .unset] [(.int c1)])) rfl (by rw [hml]; rfl) (argsL := [(.int c1)]) (rest := []) (lenOf own_pd0 rfl) rfl (by show 2 * 0 + _ ≤ _; exact Nat.le_of_eq rfl) (hb hby at_9) (fun _ _ => ⟨rfl, e0, (by decide : 0 + 0 ≤ _), (by decide : 0 + 0 ≤ _)⟩)
  dsimp only [Pt.U, Pt.locs, Pt.cells, Pt.slots] at X1 l1 y1 z1 st1 hQ1
  subst l1 y1 z1
  obtain ⟨rfl, Nq1, eh1⟩ := hQ1
  have N1 := Fr.app N0 Nq1
  refine own_goW (W1 := T1.setTop (mkF m 12 #[.val (.int x1), .val (.int y1), .val (.int c1), .val (.int vv), .unset, .unset, .unset, .unset] [(.int (own_hex c1))])) st1 ?_
  refine own_goW (W1 := T1.setTop (mkF m 14 #[.val (.int x1), .val (.int y1), .val (.int c1), .val (.int vv), .val (.int (own_hex c1)), .unset, .unset, .unset] [])) (fun tq kq => XS.istore X1.here hx rfl (hb hby at_12) rfl (l' := #[.val (.int x1), .val (.int y1), .val (.int c1), .val (.int vv), .val (.int (own_hex c1)), .unset, .unset, .unset]) rfl kq) ?_
  obtain ⟨tU, T2, h2, k2, b2, kb2, X2, e2, E2, hS2, hk2, hZ, hown, Ex2, Fc2, Fv2, Va2, -, -, I2, L2, st2⟩ := ldcSVL X1 hx hZ hown (hw _ (List.mem_of_getElem? (i := 4) rfl)) wS eh1 hS0 hk0 (by show Fr s.heap.size _; rw [hUZ, Xo.1]; exact N1) hkeep I0 (by decide) hc13 hcw (vs := own_up) (z := 16) ⟨by decide, rfl⟩ (by decide) rfl (g := (mkF m 14 #[.val (.int x1), .val (.int y1), .val (.int c1), .val (.int vv), .val (.int (own_hex c1)), .unset, .unset, .unset] [])) rfl (hb hby at_14) (n := 64) (by decide) (by decide) (by decide) (by decide)
  have Xo := Xo.ext E2
  have Z2 : n0 ≤ h2.size := Nat.le_trans Z0 E2.1
  have E_tU := Ex2
  have C_tU := Fc2
  have F_tU := Fv2
  have V_b2 := Va2
  refine own_goW (W1 := T2.setTop (mkF m 16 #[.val (.int x1), .val (.int y1), .val (.int c1), .val (.int vv), .val (.int (own_hex c1)), .unset, .unset, .unset] [(.ref tU)])) (st2) ?_
  refine own_goW (W1 := T2.setTop (mkF m 17 #[.val (.int x1), .val (.int y1), .val (.int c1), .val (.int vv), .val (.int (own_hex c1)), .unset, .unset, .unset] [(.int vv), (.ref tU)])) (fun tq kq => XS.iloadN X2.here hx rfl (hb hby at_16) rfl  kq) ?_
  obtain ⟨cq3, kq3, q3a, q3b, q3c⟩ := isOf hZ e2 E_tU
  obtain ⟨_, _, ⟨T3, L3, k3, n3⟩, -, X3, ⟨Lc3, hQ3, l3, y3, z3⟩, st3⟩ := X2.virtualBack hx (y := (⟨"java/lang/String", "charAt", "(I)C"⟩ : MethodName)) (z := (⟨"java/lang/String", "charAt", "(I)C"⟩ : MethodName)) hown (mvT hZ (hw _ (List.mem_of_getElem? (i := 12) rfl))) (mvT hZ (hw _ (List.mem_of_getElem? (i := 13) rfl))) (notFace_of_selects (args := #[]) (mvT hZ (hw _ (List.mem_of_getElem? (i := 15) rfl)))) (mvT hZ (hw _ (List.mem_of_getElem? (i := 15) rfl))) (mvT hZ (hw _ (List.mem_of_getElem? (i := 14) rfl))) (by decide) (backOf (W := 0) (rm2 l Z a0 hw [] tU b2 kb2 vv (16 : Int32) xtU cs fm own_up h2 n0 Z2 E_tU C_tU F_tU V_b2 hv.1 hv.2 hxtU Xo hjs) hZ (hw _ (List.mem_of_getElem? (i := 16) rfl)) (hw _ (List.mem_of_getElem? (i := 5) rfl)) (by decide) (by decide)) q3a q3c (g := (mkF m 17 #[.val (.int x1), .val (.int y1), .val (.int c1), .val (.int vv), .val (.int (own_hex c1)), .unset, .unset, .unset] [(.int vv), (.ref tU)])) rfl (by rw [hml]; rfl) (Steps.refl _) (argsL := [(.int vv)]) (rest := []) (lenOf own_pd1 rfl) rfl (by show 2 * 0 + _ ≤ _; exact Nat.le_of_eq rfl) (hb hby at_17) (fun _ _ => ⟨rfl, e2, (by decide : 2 + 0 ≤ _), (by decide : 68 + 0 ≤ _)⟩)
  dsimp only [Pt.U, Pt.locs, Pt.cells, Pt.slots] at X3 l3 y3 z3 st3 hQ3
  subst l3 y3 z3
  obtain ⟨rfl, Nq3, eh3⟩ := hQ3
  have N3 := Fr.app N1 Nq3
  refine own_trW (W1 := T3.setTop (mkF m 20 #[.val (.int x1), .val (.int y1), .val (.int c1), .val (.int vv), .val (.int (own_hex c1)), .unset, .unset, .unset] [(.int (own_ch xtU))])) st3 ?_
  obtain ⟨_, _, ⟨T4, L4, k4, n4⟩, -, X4, ⟨Lc4, hQ4, l4, y4, z4⟩, st4⟩ := Jvm.LawKit.callS X3 hx (y := (⟨"com/example/cerb3rus/cerb3rus/value/Octets", "hexDigit", "(C)I"⟩ : MethodName)) hown (mvT hZ (hw _ (List.mem_of_getElem? (i := 0) rfl))) (mvT hZ (hw _ (List.mem_of_getElem? (i := 1) rfl))) (mvT hZ (hw _ (List.mem_of_getElem? (i := 2) rfl))) (mvT hZ (hw _ (List.mem_of_getElem? (i := 3) rfl))) (by decide) (backOf (W := 0) (rm1 l Z a0 hw [] (own_ch xtU) h2 n0 Z2) hZ (hw _ (List.mem_of_getElem? (i := 3) rfl)) (hw _ (List.mem_of_getElem? (i := 2) rfl)) (by decide) (by decide)) (g := (mkF m 20 #[.val (.int x1), .val (.int y1), .val (.int c1), .val (.int vv), .val (.int (own_hex c1)), .unset, .unset, .unset] [(.int (own_ch xtU))])) rfl (by rw [hml]; rfl) (argsL := [(.int (own_ch xtU))]) (rest := []) (lenOf own_pd0 rfl) rfl (by show 2 * 0 + _ ≤ _; exact Nat.le_of_eq rfl) (hb hby at_20) (fun _ _ => ⟨rfl, eh3, (by decide : 2 + 0 ≤ _), (by decide : 68 + 0 ≤ _)⟩)
  dsimp only [Pt.U, Pt.locs, Pt.cells, Pt.slots] at X4 l4 y4 z4 st4 hQ4
  subst l4 y4 z4
  obtain ⟨rfl, Nq4, eh4⟩ := hQ4
  have N4 := Fr.app N3 Nq4
  refine own_goW (W1 := T4.setTop (mkF m 23 #[.val (.int x1), .val (.int y1), .val (.int c1), .val (.int vv), .val (.int (own_hex c1)), .unset, .unset, .unset] [(.int (own_hex (own_ch xtU)))])) st4 ?_
  rw [hiU]
  refine own_goW (W1 := T4.setTop (mkF m 25 #[.val (.int x1), .val (.int y1), .val (.int c1), .val (.int vv), .val (.int (own_hex c1)), .val (.int vv), .unset, .unset] [])) (fun tq kq => XS.istore X4.here hx rfl (hb hby at_23) rfl (l' := #[.val (.int x1), .val (.int y1), .val (.int c1), .val (.int vv), .val (.int (own_hex c1)), .val (.int vv), .unset, .unset]) rfl kq) ?_
  obtain ⟨tL, T5, h5, k5, b5, kb5, X5, e5, E5, hS5, hk5, hZ, hown, Ex5, Fc5, Fv5, Va5, -, -, I5, L5, st5⟩ := ldcSVL (s := s.setVm T2.vm) (vm0 := T2.vm) X4 hx hZ hown (hw _ (List.mem_of_getElem? (i := 37) rfl)) wS eh4 ((State.WarmedH.refl (s.setVm T2.vm)).since 0) (Nat.zero_le _) (by show Fr s.heap.size _; rw [hUZ, Xo.1]; exact N4) hkeep I2 (by decide) hc21 hcw (vs := own_lo) (z := 16) ⟨by decide, rfl⟩ (by decide) rfl (g := (mkF m 25 #[.val (.int x1), .val (.int y1), .val (.int c1), .val (.int vv), .val (.int (own_hex c1)), .val (.int vv), .unset, .unset] [])) rfl (hb hby at_25) (n := 64) (by decide) (by decide) (by decide) (by decide)
  have X5 : Stand p l e room_1 (s.setVm T5.vm) m #[(.int x1), (.int y1)] below meth c T5 _ _ _ := X5
  have hSn5 : s.Since T5.vm h5.size := hS2.trans ⟨hS5.1, fun j q hj hq => ⟨(hS5.2 j q hj hq).1, Nat.lt_of_lt_of_le (hS5.2 j q hj hq).2 hk5⟩⟩ (Nat.le_trans hk2 E5.1)
  have hkn5 : h5.size ≤ h5.size := Nat.le_refl _
  have Xo := Xo.ext E5
  have E_tU := E_tU.ext E5
  have C_tU := C_tU.ext E5
  have F_tU := F_tU.ext E5
  have V_b2 := V_b2.ext E5
  have Z5 : n0 ≤ h5.size := Nat.le_trans Z2 E5.1
  have Ls13_5 := L2.stays hS5.1
  have E_tL := Ex5
  have C_tL := Fc5
  have F_tL := Fv5
  have V_b5 := Va5
  refine own_goW (W1 := T5.setTop (mkF m 27 #[.val (.int x1), .val (.int y1), .val (.int c1), .val (.int vv), .val (.int (own_hex c1)), .val (.int vv), .unset, .unset] [(.ref tL)])) (st5) ?_
  refine own_goW (W1 := T5.setTop (mkF m 28 #[.val (.int x1), .val (.int y1), .val (.int c1), .val (.int vv), .val (.int (own_hex c1)), .val (.int vv), .unset, .unset] [(.int vv), (.ref tL)])) (fun tq kq => XS.iloadN X5.here hx rfl (hb hby at_27) rfl  kq) ?_
  obtain ⟨cq6, kq6, q6a, q6b, q6c⟩ := isOf hZ e5 E_tL
  obtain ⟨_, _, ⟨T6, L6, k6, n6⟩, -, X6, ⟨Lc6, hQ6, l6, y6, z6⟩, st6⟩ := X5.virtualBack hx (y := (⟨"java/lang/String", "charAt", "(I)C"⟩ : MethodName)) (z := (⟨"java/lang/String", "charAt", "(I)C"⟩ : MethodName)) hown (mvT hZ (hw _ (List.mem_of_getElem? (i := 12) rfl))) (mvT hZ (hw _ (List.mem_of_getElem? (i := 13) rfl))) (notFace_of_selects (args := #[]) (mvT hZ (hw _ (List.mem_of_getElem? (i := 15) rfl)))) (mvT hZ (hw _ (List.mem_of_getElem? (i := 15) rfl))) (mvT hZ (hw _ (List.mem_of_getElem? (i := 14) rfl))) (by decide) (backOf (W := 0) (rm2 l Z a0 hw [] tL b5 kb5 vv (16 : Int32) xtL cs fm own_lo h5 n0 Z5 E_tL C_tL F_tL V_b5 hv.1 hv.2 hxtL Xo hjs) hZ (hw _ (List.mem_of_getElem? (i := 16) rfl)) (hw _ (List.mem_of_getElem? (i := 5) rfl)) (by decide) (by decide)) q6a q6c (g := (mkF m 28 #[.val (.int x1), .val (.int y1), .val (.int c1), .val (.int vv), .val (.int (own_hex c1)), .val (.int vv), .unset, .unset] [(.int vv), (.ref tL)])) rfl (by rw [hml]; rfl) (Steps.refl _) (argsL := [(.int vv)]) (rest := []) (lenOf own_pd1 rfl) rfl (by show 2 * 0 + _ ≤ _; exact Nat.le_of_eq rfl) (hb hby at_28) (fun _ _ => ⟨rfl, e5, (by decide : 4 + 0 ≤ _), (by decide : 136 + 0 ≤ _)⟩)
  dsimp only [Pt.U, Pt.locs, Pt.cells, Pt.slots] at X6 l6 y6 z6 st6 hQ6
  subst l6 y6 z6
  obtain ⟨rfl, Nq6, eh6⟩ := hQ6
  have N6 := Fr.app N4 Nq6
  refine own_trW (W1 := T6.setTop (mkF m 31 #[.val (.int x1), .val (.int y1), .val (.int c1), .val (.int vv), .val (.int (own_hex c1)), .val (.int vv), .unset, .unset] [(.int (own_ch xtL))])) st6 ?_
  obtain ⟨_, _, ⟨T7, L7, k7, n7⟩, -, X7, ⟨Lc7, hQ7, l7, y7, z7⟩, st7⟩ := Jvm.LawKit.callS X6 hx (y := (⟨"com/example/cerb3rus/cerb3rus/value/Octets", "hexDigit", "(C)I"⟩ : MethodName)) hown (mvT hZ (hw _ (List.mem_of_getElem? (i := 0) rfl))) (mvT hZ (hw _ (List.mem_of_getElem? (i := 1) rfl))) (mvT hZ (hw _ (List.mem_of_getElem? (i := 2) rfl))) (mvT hZ (hw _ (List.mem_of_getElem? (i := 3) rfl))) (by decide) (backOf (W := 0) (rm1 l Z a0 hw [] (own_ch xtL) h5 n0 Z5) hZ (hw _ (List.mem_of_getElem? (i := 3) rfl)) (hw _ (List.mem_of_getElem? (i := 2) rfl)) (by decide) (by decide)) (g := (mkF m 31 #[.val (.int x1), .val (.int y1), .val (.int c1), .val (.int vv), .val (.int (own_hex c1)), .val (.int vv), .unset, .unset] [(.int (own_ch xtL))])) rfl (by rw [hml]; rfl) (argsL := [(.int (own_ch xtL))]) (rest := []) (lenOf own_pd0 rfl) rfl (by show 2 * 0 + _ ≤ _; exact Nat.le_of_eq rfl) (hb hby at_31) (fun _ _ => ⟨rfl, eh6, (by decide : 4 + 0 ≤ _), (by decide : 136 + 0 ≤ _)⟩)
  dsimp only [Pt.U, Pt.locs, Pt.cells, Pt.slots] at X7 l7 y7 z7 st7 hQ7
  subst l7 y7 z7
  obtain ⟨rfl, Nq7, eh7⟩ := hQ7
  have N7 := Fr.app N6 Nq7
  refine own_goW (W1 := T7.setTop (mkF m 34 #[.val (.int x1), .val (.int y1), .val (.int c1), .val (.int vv), .val (.int (own_hex c1)), .val (.int vv), .unset, .unset] [(.int (own_hex (own_ch xtL)))])) st7 ?_
  rw [hiL]
  refine own_goW (W1 := T7.setTop (mkF m 36 #[.val (.int x1), .val (.int y1), .val (.int c1), .val (.int vv), .val (.int (own_hex c1)), .val (.int vv), .val (.int vv), .unset] [])) (fun tq kq => XS.istore X7.here hx rfl (hb hby at_34) rfl (l' := #[.val (.int x1), .val (.int y1), .val (.int c1), .val (.int vv), .val (.int (own_hex c1)), .val (.int vv), .val (.int vv), .unset]) rfl kq) ?_
  refine own_goW (W1 := T7.setTop (mkF m 38 #[.val (.int x1), .val (.int y1), .val (.int c1), .val (.int vv), .val (.int (own_hex c1)), .val (.int vv), .val (.int vv), .unset] [(.int (own_hex c1))])) (fun tq kq => XS.iload X7.here hx rfl (hb hby at_36) rfl  kq) ?_
  refine own_goW (W1 := T7.setTop (mkF m 39 #[.val (.int x1), .val (.int y1), .val (.int c1), .val (.int vv), .val (.int (own_hex c1)), .val (.int vv), .val (.int vv), .unset] [(.int (-1 : Int32)), (.int (own_hex c1))])) (fun tq kq => XS.iconst X7.here hx rfl (hb hby at_38) kq) ?_
  by_cases hc39_1 : (own_hex c1) = (-1 : Int32)
  · skip
    refine own_goW (W1 := T7.setTop (mkF m 42 #[.val (.int x1), .val (.int y1), .val (.int c1), .val (.int vv), .val (.int (own_hex c1)), .val (.int vv), .val (.int vv), .unset] [])) (fun tq kq => XS.icmpNo X7.here hx rfl (hb hby at_39) rfl (teq (show (own_hex c1) = (-1 : Int32) from hc39_1)).2 kq) ?_
    refine own_goW (W1 := T7.setTop (mkF m 43 #[.val (.int x1), .val (.int y1), .val (.int c1), .val (.int vv), .val (.int (own_hex c1)), .val (.int vv), .val (.int vv), .unset] [(.int (1 : Int32))])) (fun tq kq => XS.iconst X7.here hx rfl (hb hby at_42) kq) ?_
    refine own_goW (W1 := T7.setTop (mkF m 45 #[.val (.int x1), .val (.int y1), .val (.int c1), .val (.int vv), .val (.int (own_hex c1)), .val (.int vv), .val (.int vv), .val (.int (1 : Int32))] [])) (fun tq kq => XS.istore X7.here hx rfl (hb hby at_43) rfl (l' := #[.val (.int x1), .val (.int y1), .val (.int c1), .val (.int vv), .val (.int (own_hex c1)), .val (.int vv), .val (.int vv), .val (.int (1 : Int32))]) rfl kq) ?_
    refine own_goW (W1 := T7.setTop (mkF m 95 #[.val (.int x1), .val (.int y1), .val (.int c1), .val (.int vv), .val (.int (own_hex c1)), .val (.int vv), .val (.int vv), .val (.int (1 : Int32))] [])) (fun tq kq => XS.goto X7.here hx rfl (pc0 := 45) (pc' := 95) rfl (hb hby at_45) (by decide) (by decide) kq) ?_
    refine own_goW (W1 := T7.setTop (mkF m 97 #[.val (.int x1), .val (.int y1), .val (.int c1), .val (.int vv), .val (.int (own_hex c1)), .val (.int vv), .val (.int vv), .val (.int (1 : Int32))] [(.int (1 : Int32))])) (fun tq kq => XS.iload X7.here hx rfl (hb hby at_95) rfl  kq) ?_
    refine own_goW (W1 := T7.setTop (mkF m 100 #[.val (.int x1), .val (.int y1), .val (.int c1), .val (.int vv), .val (.int (own_hex c1)), .val (.int vv), .val (.int vv), .val (.int (1 : Int32))] [])) (fun tq kq => XS.ifNo X7.here hx rfl (hb hby at_97) rfl ((if0 _ _).trans (feq (show ¬ ((1 : Int32) = (0 : Int32)) from (by decide))).1) kq) ?_
    refine own_goW (W1 := T7.setTop (mkF m 102 #[.val (.int x1), .val (.int y1), .val (.int c1), .val (.int vv), .val (.int (own_hex c1)), .val (.int vv), .val (.int vv), .val (.int (1 : Int32))] [(.int vv)])) (fun tq kq => XS.iload X7.here hx rfl (hb hby at_100) rfl  kq) ?_
    refine own_goW (W1 := T7.setTop (mkF m 103 #[.val (.int x1), .val (.int y1), .val (.int c1), .val (.int vv), .val (.int (own_hex c1)), .val (.int vv), .val (.int vv), .val (.int (1 : Int32))] [(.int vv), (.int vv)])) (fun tq kq => XS.iloadN X7.here hx rfl (hb hby at_102) rfl  kq) ?_
    refine own_goW (W1 := T7.setTop (mkF m 106 #[.val (.int x1), .val (.int y1), .val (.int c1), .val (.int vv), .val (.int (own_hex c1)), .val (.int vv), .val (.int vv), .val (.int (1 : Int32))] [])) (fun tq kq => XS.icmpNo X7.here hx rfl (hb hby at_103) rfl (teq (show vv = vv from rfl)).2 kq) ?_
    refine own_goW (W1 := T7.setTop (mkF m 108 #[.val (.int x1), .val (.int y1), .val (.int c1), .val (.int vv), .val (.int (own_hex c1)), .val (.int vv), .val (.int vv), .val (.int (1 : Int32))] [(.int vv)])) (fun tq kq => XS.iload X7.here hx rfl (hb hby at_106) rfl  kq) ?_
    refine own_goW (W1 := T7.setTop (mkF m 109 #[.val (.int x1), .val (.int y1), .val (.int c1), .val (.int vv), .val (.int (own_hex c1)), .val (.int vv), .val (.int vv), .val (.int (1 : Int32))] [(.int vv), (.int vv)])) (fun tq kq => XS.iloadN X7.here hx rfl (hb hby at_108) rfl  kq) ?_
    refine own_goW (W1 := T7.setTop (mkF m 112 #[.val (.int x1), .val (.int y1), .val (.int c1), .val (.int vv), .val (.int (own_hex c1)), .val (.int vv), .val (.int vv), .val (.int (1 : Int32))] [])) (fun tq kq => XS.icmpNo X7.here hx rfl (hb hby at_109) rfl (teq (show vv = vv from rfl)).2 kq) ?_
    refine own_goW (W1 := T7.setTop (mkF m 113 #[.val (.int x1), .val (.int y1), .val (.int c1), .val (.int vv), .val (.int (own_hex c1)), .val (.int vv), .val (.int vv), .val (.int (1 : Int32))] [(.int (1 : Int32))])) (fun tq kq => XS.iconst X7.here hx rfl (hb hby at_112) kq) ?_
    refine own_goW (W1 := T7.setTop (mkF m 117 #[.val (.int x1), .val (.int y1), .val (.int c1), .val (.int vv), .val (.int (own_hex c1)), .val (.int vv), .val (.int vv), .val (.int (1 : Int32))] [(.int (1 : Int32))])) (fun tq kq => XS.goto X7.here hx rfl (pc0 := 113) (pc' := 117) rfl (hb hby at_113) (by decide) (by decide) kq) ?_
    exact own_retNW X7 hSn5 (by rw [eh7]; exact hkn5) hx (t := .boolean) Bd.returns (by simp) (hb hby at_117) hlk (by decide) (by decide) ⟨rfl, N7⟩
  · skip
    refine own_goW (W1 := T7.setTop (mkF m 48 #[.val (.int x1), .val (.int y1), .val (.int c1), .val (.int vv), .val (.int (own_hex c1)), .val (.int vv), .val (.int vv), .unset] [])) (fun tq kq => XS.icmpYes X7.here hx rfl (pc0 := 39) (pc' := 48) rfl (hb hby at_39) rfl (feq (show ¬ ((own_hex c1) = (-1 : Int32)) from hc39_1)).2 (by decide) (by decide) kq) ?_
    have hbk := own_back hc39_1
    obtain ⟨xu, xl, hbu, hbl, hcc⟩ := hbk.2.2
    refine own_goW (W1 := T7.setTop (mkF m 50 #[.val (.int x1), .val (.int y1), .val (.int c1), .val (.int vv), .val (.int (own_hex c1)), .val (.int vv), .val (.int vv), .unset] [(.int (own_hex c1))])) (fun tq kq => XS.iload X7.here hx rfl (hb hby at_48) rfl  kq) ?_
    refine own_goW (W1 := T7.setTop (mkF m 53 #[.val (.int x1), .val (.int y1), .val (.int c1), .val (.int vv), .val (.int (own_hex c1)), .val (.int vv), .val (.int vv), .unset] [])) (fun tq kq => XS.ifNo X7.here hx rfl (hb hby at_50) rfl ((if0 _ _).trans (flt (show ¬ ((own_hex c1) < (0 : Int32)) from hbk.1.1)).1) kq) ?_
    refine own_goW (W1 := T7.setTop (mkF m 55 #[.val (.int x1), .val (.int y1), .val (.int c1), .val (.int vv), .val (.int (own_hex c1)), .val (.int vv), .val (.int vv), .unset] [(.int (own_hex c1))])) (fun tq kq => XS.iload X7.here hx rfl (hb hby at_53) rfl  kq) ?_
    refine own_goW (W1 := T7.setTop (mkF m 57 #[.val (.int x1), .val (.int y1), .val (.int c1), .val (.int vv), .val (.int (own_hex c1)), .val (.int vv), .val (.int vv), .unset] [(.int (15 : Int32)), (.int (own_hex c1))])) (fun tq kq => XS.bipush X7.here hx rfl (hb hby at_55) kq) ?_
    refine own_goW (W1 := T7.setTop (mkF m 60 #[.val (.int x1), .val (.int y1), .val (.int c1), .val (.int vv), .val (.int (own_hex c1)), .val (.int vv), .val (.int vv), .unset] [])) (fun tq kq => XS.icmpNo X7.here hx rfl (hb hby at_57) rfl (flt (show ¬ ((15 : Int32) < (own_hex c1)) from hbk.2.1)).2.2.1 kq) ?_
    refine own_goW (W1 := T7.setTop (mkF m 61 #[.val (.int x1), .val (.int y1), .val (.int c1), .val (.int vv), .val (.int (own_hex c1)), .val (.int vv), .val (.int vv), .unset] [(.int c1)])) (fun tq kq => XS.iloadN X7.here hx rfl (hb hby at_60) rfl  kq) ?_
    refine own_goW (W1 := T7.setTop (mkF m 63 #[.val (.int x1), .val (.int y1), .val (.int c1), .val (.int vv), .val (.int (own_hex c1)), .val (.int vv), .val (.int vv), .unset] [(.ref tU), (.int c1)])) (ldcAgain X7 hx hZ hown (hw _ (List.mem_of_getElem? (i := 4) rfl)) Ls13_5 (g := (mkF m 61 #[.val (.int x1), .val (.int y1), .val (.int c1), .val (.int vv), .val (.int (own_hex c1)), .val (.int vv), .val (.int vv), .unset] [(.int c1)])) rfl (hb hby at_61)) ?_
    refine own_goW (W1 := T7.setTop (mkF m 65 #[.val (.int x1), .val (.int y1), .val (.int c1), .val (.int vv), .val (.int (own_hex c1)), .val (.int vv), .val (.int vv), .unset] [(.int (own_hex c1)), (.ref tU), (.int c1)])) (fun tq kq => XS.iload X7.here hx rfl (hb hby at_63) rfl  kq) ?_
    obtain ⟨cq8, kq8, q8a, q8b, q8c⟩ := isOf hZ eh7 E_tU
    obtain ⟨_, _, ⟨T8, L8, k8, n8⟩, -, X8, ⟨Lc8, hQ8, l8, y8, z8⟩, st8⟩ := X7.virtualBack hx (y := (⟨"java/lang/String", "charAt", "(I)C"⟩ : MethodName)) (z := (⟨"java/lang/String", "charAt", "(I)C"⟩ : MethodName)) hown (mvT hZ (hw _ (List.mem_of_getElem? (i := 12) rfl))) (mvT hZ (hw _ (List.mem_of_getElem? (i := 13) rfl))) (notFace_of_selects (args := #[]) (mvT hZ (hw _ (List.mem_of_getElem? (i := 15) rfl)))) (mvT hZ (hw _ (List.mem_of_getElem? (i := 15) rfl))) (mvT hZ (hw _ (List.mem_of_getElem? (i := 14) rfl))) (by decide) (backOf (W := 1) (rm2 l Z a0 hw [] tU b2 kb2 (own_hex c1) (16 : Int32) xu cs fm own_up h5 n0 Z5 E_tU C_tU F_tU V_b2 hbk.1.1 hbk.1.2 hbu Xo hjs) hZ (hw _ (List.mem_of_getElem? (i := 16) rfl)) (hw _ (List.mem_of_getElem? (i := 5) rfl)) (by decide) (by decide)) q8a q8c (g := (mkF m 65 #[.val (.int x1), .val (.int y1), .val (.int c1), .val (.int vv), .val (.int (own_hex c1)), .val (.int vv), .val (.int vv), .unset] [(.int (own_hex c1)), (.ref tU), (.int c1)])) rfl (by rw [hml]; rfl) (Steps.refl _) (argsL := [(.int (own_hex c1))]) (rest := [(.int c1)]) (lenOf own_pd1 rfl) rfl (by show 2 * 0 + _ ≤ _; exact Nat.le_of_eq rfl) (hb hby at_65) (fun _ _ => ⟨rfl, eh7, (by decide : 4 + 0 ≤ _), (by decide : 136 + 0 ≤ _)⟩)
    dsimp only [Pt.U, Pt.locs, Pt.cells, Pt.slots] at X8 l8 y8 z8 st8 hQ8
    subst l8 y8 z8
    obtain ⟨rfl, Nq8, eh8⟩ := hQ8
    have N8 := Fr.app N7 Nq8
    refine own_trW (W1 := T8.setTop (mkF m 68 #[.val (.int x1), .val (.int y1), .val (.int c1), .val (.int vv), .val (.int (own_hex c1)), .val (.int vv), .val (.int vv), .unset] [(.int (own_ch xu)), (.int c1)])) st8 ?_
    by_cases hc68_2 : c1 = (own_ch xu)
    · skip
      refine own_goW (W1 := T8.setTop (mkF m 82 #[.val (.int x1), .val (.int y1), .val (.int c1), .val (.int vv), .val (.int (own_hex c1)), .val (.int vv), .val (.int vv), .unset] [])) (fun tq kq => XS.icmpYes X8.here hx rfl (pc0 := 68) (pc' := 82) rfl (hb hby at_68) rfl (teq (show c1 = (own_ch xu) from hc68_2)).1 (by decide) (by decide) kq) ?_
      refine own_goW (W1 := T8.setTop (mkF m 83 #[.val (.int x1), .val (.int y1), .val (.int c1), .val (.int vv), .val (.int (own_hex c1)), .val (.int vv), .val (.int vv), .unset] [(.int (1 : Int32))])) (fun tq kq => XS.iconst X8.here hx rfl (hb hby at_82) kq) ?_
      refine own_goW (W1 := T8.setTop (mkF m 87 #[.val (.int x1), .val (.int y1), .val (.int c1), .val (.int vv), .val (.int (own_hex c1)), .val (.int vv), .val (.int vv), .unset] [(.int (1 : Int32))])) (fun tq kq => XS.goto X8.here hx rfl (pc0 := 83) (pc' := 87) rfl (hb hby at_83) (by decide) (by decide) kq) ?_
      refine own_goW (W1 := T8.setTop (mkF m 89 #[.val (.int x1), .val (.int y1), .val (.int c1), .val (.int vv), .val (.int (own_hex c1)), .val (.int vv), .val (.int vv), .val (.int (1 : Int32))] [])) (fun tq kq => XS.istore X8.here hx rfl (hb hby at_87) rfl (l' := #[.val (.int x1), .val (.int y1), .val (.int c1), .val (.int vv), .val (.int (own_hex c1)), .val (.int vv), .val (.int vv), .val (.int (1 : Int32))]) rfl kq) ?_
      refine own_goW (W1 := T8.setTop (mkF m 95 #[.val (.int x1), .val (.int y1), .val (.int c1), .val (.int vv), .val (.int (own_hex c1)), .val (.int vv), .val (.int vv), .val (.int (1 : Int32))] [])) (fun tq kq => XS.goto X8.here hx rfl (pc0 := 89) (pc' := 95) rfl (hb hby at_89) (by decide) (by decide) kq) ?_
      refine own_goW (W1 := T8.setTop (mkF m 97 #[.val (.int x1), .val (.int y1), .val (.int c1), .val (.int vv), .val (.int (own_hex c1)), .val (.int vv), .val (.int vv), .val (.int (1 : Int32))] [(.int (1 : Int32))])) (fun tq kq => XS.iload X8.here hx rfl (hb hby at_95) rfl  kq) ?_
      refine own_goW (W1 := T8.setTop (mkF m 100 #[.val (.int x1), .val (.int y1), .val (.int c1), .val (.int vv), .val (.int (own_hex c1)), .val (.int vv), .val (.int vv), .val (.int (1 : Int32))] [])) (fun tq kq => XS.ifNo X8.here hx rfl (hb hby at_97) rfl ((if0 _ _).trans (feq (show ¬ ((1 : Int32) = (0 : Int32)) from (by decide))).1) kq) ?_
      refine own_goW (W1 := T8.setTop (mkF m 102 #[.val (.int x1), .val (.int y1), .val (.int c1), .val (.int vv), .val (.int (own_hex c1)), .val (.int vv), .val (.int vv), .val (.int (1 : Int32))] [(.int vv)])) (fun tq kq => XS.iload X8.here hx rfl (hb hby at_100) rfl  kq) ?_
      refine own_goW (W1 := T8.setTop (mkF m 103 #[.val (.int x1), .val (.int y1), .val (.int c1), .val (.int vv), .val (.int (own_hex c1)), .val (.int vv), .val (.int vv), .val (.int (1 : Int32))] [(.int vv), (.int vv)])) (fun tq kq => XS.iloadN X8.here hx rfl (hb hby at_102) rfl  kq) ?_
      refine own_goW (W1 := T8.setTop (mkF m 106 #[.val (.int x1), .val (.int y1), .val (.int c1), .val (.int vv), .val (.int (own_hex c1)), .val (.int vv), .val (.int vv), .val (.int (1 : Int32))] [])) (fun tq kq => XS.icmpNo X8.here hx rfl (hb hby at_103) rfl (teq (show vv = vv from rfl)).2 kq) ?_
      refine own_goW (W1 := T8.setTop (mkF m 108 #[.val (.int x1), .val (.int y1), .val (.int c1), .val (.int vv), .val (.int (own_hex c1)), .val (.int vv), .val (.int vv), .val (.int (1 : Int32))] [(.int vv)])) (fun tq kq => XS.iload X8.here hx rfl (hb hby at_106) rfl  kq) ?_
      refine own_goW (W1 := T8.setTop (mkF m 109 #[.val (.int x1), .val (.int y1), .val (.int c1), .val (.int vv), .val (.int (own_hex c1)), .val (.int vv), .val (.int vv), .val (.int (1 : Int32))] [(.int vv), (.int vv)])) (fun tq kq => XS.iloadN X8.here hx rfl (hb hby at_108) rfl  kq) ?_
      refine own_goW (W1 := T8.setTop (mkF m 112 #[.val (.int x1), .val (.int y1), .val (.int c1), .val (.int vv), .val (.int (own_hex c1)), .val (.int vv), .val (.int vv), .val (.int (1 : Int32))] [])) (fun tq kq => XS.icmpNo X8.here hx rfl (hb hby at_109) rfl (teq (show vv = vv from rfl)).2 kq) ?_
      refine own_goW (W1 := T8.setTop (mkF m 113 #[.val (.int x1), .val (.int y1), .val (.int c1), .val (.int vv), .val (.int (own_hex c1)), .val (.int vv), .val (.int vv), .val (.int (1 : Int32))] [(.int (1 : Int32))])) (fun tq kq => XS.iconst X8.here hx rfl (hb hby at_112) kq) ?_
      refine own_goW (W1 := T8.setTop (mkF m 117 #[.val (.int x1), .val (.int y1), .val (.int c1), .val (.int vv), .val (.int (own_hex c1)), .val (.int vv), .val (.int vv), .val (.int (1 : Int32))] [(.int (1 : Int32))])) (fun tq kq => XS.goto X8.here hx rfl (pc0 := 113) (pc' := 117) rfl (hb hby at_113) (by decide) (by decide) kq) ?_
      exact own_retNW X8 hSn5 (by rw [eh8]; exact hkn5) hx (t := .boolean) Bd.returns (by simp) (hb hby at_117) hlk (by decide) (by decide) ⟨rfl, N8⟩
    · skip
      refine own_goW (W1 := T8.setTop (mkF m 71 #[.val (.int x1), .val (.int y1), .val (.int c1), .val (.int vv), .val (.int (own_hex c1)), .val (.int vv), .val (.int vv), .unset] [])) (fun tq kq => XS.icmpNo X8.here hx rfl (hb hby at_68) rfl (feq (show ¬ (c1 = (own_ch xu)) from hc68_2)).1 kq) ?_
      refine own_goW (W1 := T8.setTop (mkF m 72 #[.val (.int x1), .val (.int y1), .val (.int c1), .val (.int vv), .val (.int (own_hex c1)), .val (.int vv), .val (.int vv), .unset] [(.int c1)])) (fun tq kq => XS.iloadN X8.here hx rfl (hb hby at_71) rfl  kq) ?_
      refine own_goW (W1 := T8.setTop (mkF m 74 #[.val (.int x1), .val (.int y1), .val (.int c1), .val (.int vv), .val (.int (own_hex c1)), .val (.int vv), .val (.int vv), .unset] [(.ref tL), (.int c1)])) (ldcAgain X8 hx hZ hown (hw _ (List.mem_of_getElem? (i := 37) rfl)) L5 (g := (mkF m 72 #[.val (.int x1), .val (.int y1), .val (.int c1), .val (.int vv), .val (.int (own_hex c1)), .val (.int vv), .val (.int vv), .unset] [(.int c1)])) rfl (hb hby at_72)) ?_
      refine own_goW (W1 := T8.setTop (mkF m 76 #[.val (.int x1), .val (.int y1), .val (.int c1), .val (.int vv), .val (.int (own_hex c1)), .val (.int vv), .val (.int vv), .unset] [(.int (own_hex c1)), (.ref tL), (.int c1)])) (fun tq kq => XS.iload X8.here hx rfl (hb hby at_74) rfl  kq) ?_
      obtain ⟨cq9, kq9, q9a, q9b, q9c⟩ := isOf hZ eh8 E_tL
      obtain ⟨_, _, ⟨T9, L9, k9, n9⟩, -, X9, ⟨Lc9, hQ9, l9, y9, z9⟩, st9⟩ := X8.virtualBack hx (y := (⟨"java/lang/String", "charAt", "(I)C"⟩ : MethodName)) (z := (⟨"java/lang/String", "charAt", "(I)C"⟩ : MethodName)) hown (mvT hZ (hw _ (List.mem_of_getElem? (i := 12) rfl))) (mvT hZ (hw _ (List.mem_of_getElem? (i := 13) rfl))) (notFace_of_selects (args := #[]) (mvT hZ (hw _ (List.mem_of_getElem? (i := 15) rfl)))) (mvT hZ (hw _ (List.mem_of_getElem? (i := 15) rfl))) (mvT hZ (hw _ (List.mem_of_getElem? (i := 14) rfl))) (by decide) (backOf (W := 1) (rm2 l Z a0 hw [] tL b5 kb5 (own_hex c1) (16 : Int32) xl cs fm own_lo h5 n0 Z5 E_tL C_tL F_tL V_b5 hbk.1.1 hbk.1.2 hbl Xo hjs) hZ (hw _ (List.mem_of_getElem? (i := 16) rfl)) (hw _ (List.mem_of_getElem? (i := 5) rfl)) (by decide) (by decide)) q9a q9c (g := (mkF m 76 #[.val (.int x1), .val (.int y1), .val (.int c1), .val (.int vv), .val (.int (own_hex c1)), .val (.int vv), .val (.int vv), .unset] [(.int (own_hex c1)), (.ref tL), (.int c1)])) rfl (by rw [hml]; rfl) (Steps.refl _) (argsL := [(.int (own_hex c1))]) (rest := [(.int c1)]) (lenOf own_pd1 rfl) rfl (by show 2 * 0 + _ ≤ _; exact Nat.le_of_eq rfl) (hb hby at_76) (fun _ _ => ⟨rfl, eh8, (by decide : 4 + 0 ≤ _), (by decide : 136 + 0 ≤ _)⟩)
      dsimp only [Pt.U, Pt.locs, Pt.cells, Pt.slots] at X9 l9 y9 z9 st9 hQ9
      subst l9 y9 z9
      obtain ⟨rfl, Nq9, eh9⟩ := hQ9
      have N9 := Fr.app N8 Nq9
      refine own_trW (W1 := T9.setTop (mkF m 79 #[.val (.int x1), .val (.int y1), .val (.int c1), .val (.int vv), .val (.int (own_hex c1)), .val (.int vv), .val (.int vv), .unset] [(.int (own_ch xl)), (.int c1)])) st9 ?_
      refine own_goW (W1 := T9.setTop (mkF m 82 #[.val (.int x1), .val (.int y1), .val (.int c1), .val (.int vv), .val (.int (own_hex c1)), .val (.int vv), .val (.int vv), .unset] [])) (fun tq kq => XS.icmpNo X9.here hx rfl (hb hby at_79) rfl (teq (show c1 = (own_ch xl) from (hcc.resolve_left hc68_2))).2 kq) ?_
      refine own_goW (W1 := T9.setTop (mkF m 83 #[.val (.int x1), .val (.int y1), .val (.int c1), .val (.int vv), .val (.int (own_hex c1)), .val (.int vv), .val (.int vv), .unset] [(.int (1 : Int32))])) (fun tq kq => XS.iconst X9.here hx rfl (hb hby at_82) kq) ?_
      refine own_goW (W1 := T9.setTop (mkF m 87 #[.val (.int x1), .val (.int y1), .val (.int c1), .val (.int vv), .val (.int (own_hex c1)), .val (.int vv), .val (.int vv), .unset] [(.int (1 : Int32))])) (fun tq kq => XS.goto X9.here hx rfl (pc0 := 83) (pc' := 87) rfl (hb hby at_83) (by decide) (by decide) kq) ?_
      refine own_goW (W1 := T9.setTop (mkF m 89 #[.val (.int x1), .val (.int y1), .val (.int c1), .val (.int vv), .val (.int (own_hex c1)), .val (.int vv), .val (.int vv), .val (.int (1 : Int32))] [])) (fun tq kq => XS.istore X9.here hx rfl (hb hby at_87) rfl (l' := #[.val (.int x1), .val (.int y1), .val (.int c1), .val (.int vv), .val (.int (own_hex c1)), .val (.int vv), .val (.int vv), .val (.int (1 : Int32))]) rfl kq) ?_
      refine own_goW (W1 := T9.setTop (mkF m 95 #[.val (.int x1), .val (.int y1), .val (.int c1), .val (.int vv), .val (.int (own_hex c1)), .val (.int vv), .val (.int vv), .val (.int (1 : Int32))] [])) (fun tq kq => XS.goto X9.here hx rfl (pc0 := 89) (pc' := 95) rfl (hb hby at_89) (by decide) (by decide) kq) ?_
      refine own_goW (W1 := T9.setTop (mkF m 97 #[.val (.int x1), .val (.int y1), .val (.int c1), .val (.int vv), .val (.int (own_hex c1)), .val (.int vv), .val (.int vv), .val (.int (1 : Int32))] [(.int (1 : Int32))])) (fun tq kq => XS.iload X9.here hx rfl (hb hby at_95) rfl  kq) ?_
      refine own_goW (W1 := T9.setTop (mkF m 100 #[.val (.int x1), .val (.int y1), .val (.int c1), .val (.int vv), .val (.int (own_hex c1)), .val (.int vv), .val (.int vv), .val (.int (1 : Int32))] [])) (fun tq kq => XS.ifNo X9.here hx rfl (hb hby at_97) rfl ((if0 _ _).trans (feq (show ¬ ((1 : Int32) = (0 : Int32)) from (by decide))).1) kq) ?_
      refine own_goW (W1 := T9.setTop (mkF m 102 #[.val (.int x1), .val (.int y1), .val (.int c1), .val (.int vv), .val (.int (own_hex c1)), .val (.int vv), .val (.int vv), .val (.int (1 : Int32))] [(.int vv)])) (fun tq kq => XS.iload X9.here hx rfl (hb hby at_100) rfl  kq) ?_
      refine own_goW (W1 := T9.setTop (mkF m 103 #[.val (.int x1), .val (.int y1), .val (.int c1), .val (.int vv), .val (.int (own_hex c1)), .val (.int vv), .val (.int vv), .val (.int (1 : Int32))] [(.int vv), (.int vv)])) (fun tq kq => XS.iloadN X9.here hx rfl (hb hby at_102) rfl  kq) ?_
      refine own_goW (W1 := T9.setTop (mkF m 106 #[.val (.int x1), .val (.int y1), .val (.int c1), .val (.int vv), .val (.int (own_hex c1)), .val (.int vv), .val (.int vv), .val (.int (1 : Int32))] [])) (fun tq kq => XS.icmpNo X9.here hx rfl (hb hby at_103) rfl (teq (show vv = vv from rfl)).2 kq) ?_
      refine own_goW (W1 := T9.setTop (mkF m 108 #[.val (.int x1), .val (.int y1), .val (.int c1), .val (.int vv), .val (.int (own_hex c1)), .val (.int vv), .val (.int vv), .val (.int (1 : Int32))] [(.int vv)])) (fun tq kq => XS.iload X9.here hx rfl (hb hby at_106) rfl  kq) ?_
      refine own_goW (W1 := T9.setTop (mkF m 109 #[.val (.int x1), .val (.int y1), .val (.int c1), .val (.int vv), .val (.int (own_hex c1)), .val (.int vv), .val (.int vv), .val (.int (1 : Int32))] [(.int vv), (.int vv)])) (fun tq kq => XS.iloadN X9.here hx rfl (hb hby at_108) rfl  kq) ?_
      refine own_goW (W1 := T9.setTop (mkF m 112 #[.val (.int x1), .val (.int y1), .val (.int c1), .val (.int vv), .val (.int (own_hex c1)), .val (.int vv), .val (.int vv), .val (.int (1 : Int32))] [])) (fun tq kq => XS.icmpNo X9.here hx rfl (hb hby at_109) rfl (teq (show vv = vv from rfl)).2 kq) ?_
      refine own_goW (W1 := T9.setTop (mkF m 113 #[.val (.int x1), .val (.int y1), .val (.int c1), .val (.int vv), .val (.int (own_hex c1)), .val (.int vv), .val (.int vv), .val (.int (1 : Int32))] [(.int (1 : Int32))])) (fun tq kq => XS.iconst X9.here hx rfl (hb hby at_112) kq) ?_
      refine own_goW (W1 := T9.setTop (mkF m 117 #[.val (.int x1), .val (.int y1), .val (.int c1), .val (.int vv), .val (.int (own_hex c1)), .val (.int vv), .val (.int vv), .val (.int (1 : Int32))] [(.int (1 : Int32))])) (fun tq kq => XS.goto X9.here hx rfl (pc0 := 113) (pc' := 117) rfl (hb hby at_113) (by decide) (by decide) kq) ?_
      exact own_retNW X9 hSn5 (by rw [eh9]; exact hkn5) hx (t := .boolean) Bd.returns (by simp) (hb hby at_117) hlk (by decide) (by decide) ⟨rfl, N9⟩
set_option maxRecDepth 65536 in
set_option maxHeartbeats 40000000 in
theorem comes_1 {Post : Tables → Env → Array Value → State → Outcome → State → Prop} (hpost : ∀ tb e args s v u, (limb_1_1.after args s (.returned v) u = true ∧ limb_1_2.after args s (.returned v) u = true ∧ True) → ReturnedEndW s (.returned v) u (Jvm.fieldLocs frame_1_writes args s ++ Jvm.arrayLocs frame_1_arrays args s ++ Jvm.staticLocs frame_1_statics s) 8 2112 → Post tb e args s (.returned v) u) :
    ArmFor flags0 classFile x code maxLocals ret World_1 tables_1 room_1 Calls_1 rest_1 Pre_1 Post := by
  intro l hfl _ _ p e ha hc hk s m args below hf hA hF happ hP
  obtain ⟨hcalls, hrest, hpre⟩ := hP
  obtain ⟨-, -, -, hnamed, -, -, -, hat⟩ := (Spec.applies_iff hf).mp happ
  obtain ⟨hg, hn⟩ := and_e (Cond.before_iff.mp (show (Jvm.Cond.and given_1 narrow_1).before args s = true from hpre))
  obtain ⟨gc, hg⟩ := and_e hg
  obtain ⟨ga0, hg⟩ := and_e hg
  have ga1 := hg
  obtain ⟨w0, w1, rfl⟩ : ∃ w0 w1 : Value, args = #[w0, w1] := by
    have hs : args.size = 2 := by simpa [Cond.value, given_1] using gc
    obtain ⟨L⟩ := args
    match L, hs with
    | [w0, w1], _ => exact ⟨w0, w1, rfl⟩
  have hw := fun d (hd : d ∈ tables_1) => atoms_spec (ws := Jvm.Cond.code x code maxLocals ret :: tables_1) hat d (List.mem_cons_of_mem _ hd)
  have hfit : Fit s := fun {y c} hc i hi => by
    obtain ⟨ha, rfl⟩ := Array.getElem?_eq_some_iff.mp hc
    have q := List.all_eq_true.mp ((Array.all_eq_true_iff_forall_mem.mp hF) _ (Array.getElem_mem ha)) i (List.mem_range.mpr hi)
    simpa [Array.getElem?_eq_getElem hi] using q
  obtain ⟨i0, ei0⟩ := is_v ga0
  obtain rfl : w0 = (.int i0) := Option.some.inj ei0
  obtain ⟨i1, ei1⟩ := is_v ga1
  obtain rfl : w1 = (.int i1) := Option.some.inj ei1
  obtain ⟨hsets, -⟩ := atoms_of _ (rest_1_c_eq ▸ (show rest_1_c.before _ s = true from hrest))
  have js0 := hsets _ (List.mem_of_getElem? (i := 0) rfl)
  obtain ⟨cs, evc⟩ := is_v (Cond.before_iff.mp (hsets _ (List.mem_of_getElem? (i := 1) rfl)))
  have hne : ¬ cs = 0 := gotF (Cond.eq_ints evc (Term.int_eval (0))) (not_v (Cond.before_iff.mp (hsets _ (List.mem_of_getElem? (i := 2) rfl))))
  have S_c := Sta.start evc (Or.inl js0)
  obtain ⟨fm, evf, h_fm⟩ := isR_v (Cond.before_iff.mp (hsets _ (List.mem_of_getElem? (i := 8) rfl)))
  have S_f := Sta.start evf (Or.inl (hsets _ (List.mem_of_getElem? (i := 7) rfl)))
  obtain ⟨n, o, h1, h2, h3, _, L, rfl, ⟨rfl, N⟩, hq⟩ := rm0 l s _ hw tables_1 i0 i1 cs fm s.heap s.heap.size (Nat.le_refl _) (Old.start s) ⟨S_c, hne, S_f, h_fm⟩ (hcalls.1 _ (List.mem_of_getElem? (i := 0) rfl)) (hcalls.1 _ (List.mem_of_getElem? (i := 1) rfl)) (hsets _ (List.mem_of_getElem? (i := 2) rfl)) p e ha hc hk s m _ below hf ((Spec.applies_iff_loose hf).mp happ).1 ⟨rfl, State.Warmed39.refl s, rfl, rfl⟩ trivial
  refine ⟨n, _, h1, h2, h3, hpost _ _ _ _ _ _ ⟨Cond.after_iff.mpr rfl, Cond.after_iff.mpr (eq_i res_at (Term.int_eval (1)) rfl), trivial⟩ ⟨hq.1, hq.2.1, hq.2.2.1, (hq.2.2.2.sift fun y hy => Or.inr (N y hy)).mono (by decide) (by decide)⟩⟩
theorem main_1_1 : Claimed_1_1 := comes_1 fun _ _ _ _ _ _ h hF => ⟨h.1, hF⟩
theorem main_1_2 : Claimed_1_2 := comes_1 fun _ _ _ _ _ _ h hF => ⟨h.2.1, hF⟩
end Jvm.Pilot.@@N@@
namespace Jvm.Pilot.@@N@@
open Jvm Jvm.ClassFile Sem Op Lib Jvm.Free Jvm.Stand Jvm.Pilot.@@N@@.Jvm.D
/-! MADE BY PROGRAM (witnessworld.py) out of the Statement's table words and the real class files: 17 classes; the members and pool entries that the words name. The judged class is class 1, her method 1. -/
namespace start1
open Jvm.ClassFile
def u (s : String) : CpInfo := .utf8 (stringToUtf16 s)
/-- a pool by its gaps: so many unusable entries, then the entry; so many at the end -/
def gap : Nat → List CpInfo → List CpInfo
  | 0, r => r
  | n + 1, r => .unusable :: gap n r
def poolList (es : List (Nat × CpInfo)) (last : Nat) : List CpInfo := es.foldr (fun e r => gap e.1 (e.2 :: r)) (gap last [])
def pool (es : List (Nat × CpInfo)) (last : Nat) : Array CpInfo := ⟨poolList es last⟩
def fileOf (pool : Array CpInfo) (this : Nat) (attrs : Array Attribute := #[]) (ms : Array MethodInfo := #[]) (fl : Nat := 33) (sup : Nat := 0) (ifs : Array Nat := #[]) (fds : Array FieldInfo := #[]) : ClassFile where
  minorVersion := 0
  majorVersion := 65
  constantPool := pool
  accessFlags := fl
  thisClass := this
  superClass := sup
  interfaces := ifs
  fields := fds
  methods := ms
  attributes := attrs
def plain (name : String) (sup : Option ClassId) : Class where
  name := name
  kind := .ordinary
  loader := none
  accessFlags := 33
  super := sup
  interfaces := #[]
  cf := none
  fields := #[]
  methods := #[]
  instanceTypes := #[]
  staticTypes := #[]
  resolved := #[]
  callSites := []
  init := .initialized
  statics := none
  mirror := none

def pool0 : Array CpInfo := pool [(5, u "<init>"), (0, u "()V"), (1, .class_ 10), (1, u "java/lang/Object")] 113

def k0m0 : Method := { name := "<init>", desc := "()V", sig := { parameters := [], returnType := none }, accessFlags := 1, code := none }
/-- java/lang/Object -/
def k0 : Class := { plain "java/lang/Object" none with
  accessFlags := 33
  interfaces := #[]
  cf := some (fileOf pool0 8 #[] #[{ accessFlags := 1, nameIndex := 5, descriptorIndex := 6, attributes := #[] }] 33 0 #[] #[])
  fields := #[]
  methods := #[k0m0]
  instanceTypes := #[]
  staticTypes := #[]
  resolved := Array.replicate 124 none
  statics := none }

def pool1 : Array CpInfo := pool [(2, .class_ 4), (1, u "java/lang/Object"), (0, u "<init>"), (0, u "()V"), (0, .methodref 8 9), (0, .class_ 10), (0, .nameAndType 11 12), (0, u "com/example/cerb3rus/cerb3rus/value/Octets"), (0, u "hexDigit"), (0, u "(C)I"), (0, .string 14), (0, u "0123456789ABCDEF"), (0, .methodref 16 17), (0, .class_ 18), (0, .nameAndType 19 20), (0, u "java/lang/String"), (0, u "charAt"), (0, u "(I)C"), (0, .string 22), (0, u "0123456789abcdef"), (0, .class_ 24), (0, u "com/example/cerb3rus/cerb3rus/value/OctetsHexDigitPinLaw"), (2, u "law"), (0, u "(II)Z")] 3

def k1m0 : Method := { name := "<init>", desc := "()V", sig := { parameters := [], returnType := none }, accessFlags := 1, code := none }
def k1c1 : Code := { maxStack := 3, maxLocals := 8, code := code, exceptionTable := #[], attributes := #[] }
def k1m1 : Method := { name := "law", desc := "(II)Z", sig := { parameters := [.int, .int], returnType := some .boolean }, accessFlags := 9, code := some k1c1 }
/-- com/example/cerb3rus/cerb3rus/value/OctetsHexDigitPinLaw -/
def k1 : Class := { plain "com/example/cerb3rus/cerb3rus/value/OctetsHexDigitPinLaw" (some 0) with
  accessFlags := 49
  interfaces := #[]
  cf := some (fileOf pool1 23 #[] #[{ accessFlags := 1, nameIndex := 5, descriptorIndex := 6, attributes := #[] }, { accessFlags := 9, nameIndex := 27, descriptorIndex := 28, attributes := #[] }] 49 2 #[] #[])
  fields := #[]
  methods := #[k1m0, k1m1]
  instanceTypes := #[]
  staticTypes := #[]
  resolved := Array.replicate 32 none
  statics := none }

def pool2 : Array CpInfo := pool [(2, .class_ 4), (1, u "java/lang/Object"), (3, .class_ 10), (1, u "com/example/cerb3rus/cerb3rus/value/Octets"), (0, u "octets"), (0, u "[B"), (17, u "hexDigit"), (0, u "(C)I"), (79, u "HEX_DIGITS"), (0, u "Ljava/lang/String;"), (1, u "BASE64_DIGITS"), (0, u "BEFORE_ONE_PAD"), (0, u "BEFORE_TWO_PADS")] 15

def k2c0 : Code := { maxStack := 2, maxLocals := 1, code := prog_113_method_7_code, exceptionTable := #[], attributes := #[] }
def k2m0 : Method := { name := "hexDigit", desc := "(C)I", sig := { parameters := [.char], returnType := some .int }, accessFlags := 8, code := some k2c0 }
/-- com/example/cerb3rus/cerb3rus/value/Octets -/
def k2 : Class := { plain "com/example/cerb3rus/cerb3rus/value/Octets" (some 0) with
  accessFlags := 33
  interfaces := #[]
  cf := some (fileOf pool2 8 #[] #[{ accessFlags := 8, nameIndex := 30, descriptorIndex := 31, attributes := #[] }] 33 2 #[] #[{ accessFlags := 26, nameIndex := 111, descriptorIndex := 112, attributes := #[] }, { accessFlags := 26, nameIndex := 114, descriptorIndex := 112, attributes := #[] }, { accessFlags := 26, nameIndex := 115, descriptorIndex := 112, attributes := #[] }, { accessFlags := 26, nameIndex := 116, descriptorIndex := 112, attributes := #[] }, { accessFlags := 18, nameIndex := 11, descriptorIndex := 12, attributes := #[] }])
  fields := #[{ name := "HEX_DIGITS", type := (.object "java/lang/String"), accessFlags := 26, slot := 0, constantValue := 0 }, { name := "BASE64_DIGITS", type := (.object "java/lang/String"), accessFlags := 26, slot := 1, constantValue := 0 }, { name := "BEFORE_ONE_PAD", type := (.object "java/lang/String"), accessFlags := 26, slot := 2, constantValue := 0 }, { name := "BEFORE_TWO_PADS", type := (.object "java/lang/String"), accessFlags := 26, slot := 3, constantValue := 0 }, { name := "octets", type := (.array .byte), accessFlags := 18, slot := 0, constantValue := 0 }]
  methods := #[k2m0]
  instanceTypes := #[(.array .byte)]
  staticTypes := #[(.object "java/lang/String"), (.object "java/lang/String"), (.object "java/lang/String"), (.object "java/lang/String")]
  resolved := Array.replicate 132 none
  statics := none }

def pool3 : Array CpInfo := pool [(1, .class_ 2), (0, u "java/io/Serializable"), (0, .class_ 4), (0, u "java/lang/Object")] 2

/-- java/io/Serializable -/
def k3 : Class := { plain "java/io/Serializable" (some 0) with
  accessFlags := 1537
  interfaces := #[]
  cf := some (fileOf pool3 1 #[] #[] 1537 3 #[] #[])
  fields := #[]
  methods := #[]
  instanceTypes := #[]
  staticTypes := #[]
  resolved := Array.replicate 7 none
  statics := none }

def pool4 : Array CpInfo := pool [(1, .class_ 2), (0, u "java/lang/Comparable"), (0, .class_ 4), (0, u "java/lang/Object")] 7

/-- java/lang/Comparable -/
def k4 : Class := { plain "java/lang/Comparable" (some 0) with
  accessFlags := 1537
  interfaces := #[]
  cf := some (fileOf pool4 1 #[] #[] 1537 3 #[] #[])
  fields := #[]
  methods := #[]
  instanceTypes := #[]
  staticTypes := #[]
  resolved := Array.replicate 12 none
  statics := none }

def pool5 : Array CpInfo := pool [(2, .class_ 4), (1, u "java/lang/CharSequence"), (42, .class_ 48), (0, u "java/lang/CharSequence$1CodePointIterator"), (10, .class_ 60), (0, u "java/lang/CharSequence$1CharIterator"), (5, .class_ 67), (0, u "java/lang/Object")] 63

/-- java/lang/CharSequence -/
def k5 : Class := { plain "java/lang/CharSequence" (some 0) with
  accessFlags := 1537
  interfaces := #[]
  cf := some (fileOf pool5 2 #[.nestMembers #[47, 59]] #[] 1537 66 #[] #[])
  fields := #[]
  methods := #[]
  instanceTypes := #[]
  staticTypes := #[]
  resolved := Array.replicate 131 none
  statics := none }

def pool6 : Array CpInfo := pool [(1, .class_ 2), (0, u "java/lang/constant/Constable"), (0, .class_ 4), (0, u "java/lang/Object")] 6

/-- java/lang/constant/Constable -/
def k6 : Class := { plain "java/lang/constant/Constable" (some 0) with
  accessFlags := 1537
  interfaces := #[]
  cf := some (fileOf pool6 1 #[] #[] 1537 3 #[] #[])
  fields := #[]
  methods := #[]
  instanceTypes := #[]
  staticTypes := #[]
  resolved := Array.replicate 11 none
  statics := none }

def pool7 : Array CpInfo := pool [(1, .class_ 2), (0, u "java/lang/constant/ConstantDesc"), (0, .class_ 4), (0, u "java/lang/Object")] 32

/-- java/lang/constant/ConstantDesc -/
def k7 : Class := { plain "java/lang/constant/ConstantDesc" (some 0) with
  accessFlags := 1537
  interfaces := #[]
  cf := some (fileOf pool7 1 #[] #[] 1537 3 #[] #[])
  fields := #[]
  methods := #[]
  instanceTypes := #[]
  staticTypes := #[]
  resolved := Array.replicate 37 none
  statics := none }

def pool8 : Array CpInfo := pool [(2, .class_ 4), (1, u "java/lang/Object"), (0, u "<init>"), (0, u "()V"), (2, .fieldref 10 11), (0, .class_ 12), (0, .nameAndType 13 14), (0, u "java/lang/String"), (0, u "value"), (0, u "[B"), (0, .fieldref 10 16), (0, .nameAndType 17 18), (0, u "coder"), (0, u "B"), (2, u "hash"), (0, u "I"), (2, u "hashIsZero"), (0, u "Z"), (11, .fieldref 10 39), (0, .nameAndType 40 26), (0, u "COMPACT_STRINGS"), (66, .class_ 109), (1, u "java/lang/StringLatin1"), (32, u "()Z"), (220, u "([BI)C"), (27, u "(II)V"), (35, u "(I)C"), (64, .methodref 10 493), (0, .nameAndType 494 142), (0, u "isLatin1"), (0, .methodref 107 496), (0, .nameAndType 497 363), (0, u "charAt"), (3, u "checkIndex"), (73, .class_ 576), (0, u "java/lang/CharSequence"), (22, u "CASE_INSENSITIVE_ORDER"), (0, u "Ljava/util/Comparator;"), (452, .fieldref 1054 1055), (0, .class_ 1056), (0, .nameAndType 1057 1058), (0, u "jdk/internal/util/Preconditions"), (0, u "SIOOBE_FORMATTER"), (0, u "Ljava/util/function/BiFunction;"), (0, .methodref 1054 1060), (0, .nameAndType 501 1061), (0, u "(IILjava/util/function/BiFunction;)I"), (39, u "serialPersistentFields"), (0, u "[Ljava/io/ObjectStreamField;"), (0, .class_ 1104), (0, u "java/lang/String$CaseInsensitiveComparator"), (1, .class_ 1107), (0, u "java/io/Serializable"), (0, .class_ 1109), (0, u "java/lang/Comparable"), (0, .class_ 1111), (0, u "java/lang/constant/Constable"), (0, .class_ 1113), (0, u "java/lang/constant/ConstantDesc"), (2, u "serialVersionUID"), (0, u "J"), (3, u "REPL"), (0, u "C"), (2, u "LATIN1"), (1, u "UTF16")] 323

def k8m0 : Method := { name := "<init>", desc := "()V", sig := { parameters := [], returnType := none }, accessFlags := 1, code := none }
def k8c1 : Code := { maxStack := 2, maxLocals := 2, code := jdk_42_method_56_code, exceptionTable := #[], attributes := #[] }
def k8m1 : Method := { name := "charAt", desc := "(I)C", sig := { parameters := [.int], returnType := some .char }, accessFlags := 1, code := some k8c1 }
def k8c2 : Code := { maxStack := 1, maxLocals := 1, code := jdk_42_method_154_code, exceptionTable := #[], attributes := #[] }
def k8m2 : Method := { name := "isLatin1", desc := "()Z", sig := { parameters := [], returnType := some .boolean }, accessFlags := 0, code := some k8c2 }
def k8c3 : Code := { maxStack := 3, maxLocals := 2, code := jdk_42_method_155_code, exceptionTable := #[], attributes := #[] }
def k8m3 : Method := { name := "checkIndex", desc := "(II)V", sig := { parameters := [.int, .int], returnType := none }, accessFlags := 8, code := some k8c3 }
/-- java/lang/String -/
def k8 : Class := { plain "java/lang/String" (some 0) with
  accessFlags := 49
  interfaces := #[3, 4, 5, 6, 7]
  cf := some (fileOf pool8 10 #[.nestMembers #[1103]] #[{ accessFlags := 1, nameIndex := 5, descriptorIndex := 6, attributes := #[] }, { accessFlags := 1, nameIndex := 497, descriptorIndex := 427, attributes := #[] }, { accessFlags := 0, nameIndex := 494, descriptorIndex := 142, attributes := #[] }, { accessFlags := 8, nameIndex := 501, descriptorIndex := 391, attributes := #[] }] 49 2 #[1106, 1108, 575, 1110, 1112] #[{ accessFlags := 18, nameIndex := 13, descriptorIndex := 14, attributes := #[] }, { accessFlags := 18, nameIndex := 17, descriptorIndex := 18, attributes := #[] }, { accessFlags := 2, nameIndex := 21, descriptorIndex := 22, attributes := #[] }, { accessFlags := 2, nameIndex := 25, descriptorIndex := 26, attributes := #[] }, { accessFlags := 26, nameIndex := 1116, descriptorIndex := 1117, attributes := #[] }, { accessFlags := 24, nameIndex := 40, descriptorIndex := 26, attributes := #[] }, { accessFlags := 26, nameIndex := 1101, descriptorIndex := 1102, attributes := #[] }, { accessFlags := 26, nameIndex := 1121, descriptorIndex := 1122, attributes := #[] }, { accessFlags := 25, nameIndex := 599, descriptorIndex := 600, attributes := #[] }, { accessFlags := 24, nameIndex := 1125, descriptorIndex := 18, attributes := #[] }, { accessFlags := 24, nameIndex := 1127, descriptorIndex := 18, attributes := #[] }])
  fields := #[{ name := "value", type := (.array .byte), accessFlags := 18, slot := 0, constantValue := 0 }, { name := "coder", type := .byte, accessFlags := 18, slot := 1, constantValue := 0 }, { name := "hash", type := .int, accessFlags := 2, slot := 2, constantValue := 0 }, { name := "hashIsZero", type := .boolean, accessFlags := 2, slot := 3, constantValue := 0 }, { name := "serialVersionUID", type := .long, accessFlags := 26, slot := 0, constantValue := 0 }, { name := "COMPACT_STRINGS", type := .boolean, accessFlags := 24, slot := 1, constantValue := 0 }, { name := "serialPersistentFields", type := (.array (.object "java/io/ObjectStreamField")), accessFlags := 26, slot := 2, constantValue := 0 }, { name := "REPL", type := .char, accessFlags := 26, slot := 3, constantValue := 0 }, { name := "CASE_INSENSITIVE_ORDER", type := (.object "java/util/Comparator"), accessFlags := 25, slot := 4, constantValue := 0 }, { name := "LATIN1", type := .byte, accessFlags := 24, slot := 5, constantValue := 0 }, { name := "UTF16", type := .byte, accessFlags := 24, slot := 6, constantValue := 0 }]
  methods := #[k8m0, k8m1, k8m2, k8m3]
  instanceTypes := #[(.array .byte), .byte, .int, .boolean]
  staticTypes := #[.long, .boolean, (.array (.object "java/io/ObjectStreamField")), .char, (.object "java/util/Comparator"), .byte, .byte]
  resolved := Array.replicate 1451 none
  statics := some 0 }

def pool9 : Array CpInfo := pool [(1, .class_ 2), (0, u "java/lang/String"), (1, .class_ 6), (1, u "java/lang/Object"), (0, u "<init>"), (0, u "()V"), (0, .methodref 1 10), (0, .nameAndType 11 12), (0, u "checkIndex"), (0, u "(II)V"), (1, .class_ 16), (1, u "java/lang/StringLatin1"), (36, u "([BI)C"), (67, u "$assertionsDisabled"), (0, u "Z"), (98, .class_ 223), (1, u "java/lang/StringLatin1$LinesSpliterator"), (28, u "charAt"), (137, .class_ 391), (0, u "java/lang/StringLatin1$CharsSpliterator")] 3

def k9m0 : Method := { name := "<init>", desc := "()V", sig := { parameters := [], returnType := none }, accessFlags := 0, code := none }
def k9c1 : Code := { maxStack := 2, maxLocals := 2, code := jdk_43_method_2_code, exceptionTable := #[], attributes := #[] }
def k9m1 : Method := { name := "charAt", desc := "([BI)C", sig := { parameters := [(.array .byte), .int], returnType := some .char }, accessFlags := 9, code := some k9c1 }
/-- java/lang/StringLatin1 -/
def k9 : Class := { plain "java/lang/StringLatin1" (some 0) with
  accessFlags := 48
  interfaces := #[]
  cf := some (fileOf pool9 14 #[.nestMembers #[390, 221]] #[{ accessFlags := 0, nameIndex := 7, descriptorIndex := 8, attributes := #[] }, { accessFlags := 9, nameIndex := 252, descriptorIndex := 53, attributes := #[] }] 48 4 #[] #[{ accessFlags := 4120, nameIndex := 121, descriptorIndex := 122, attributes := #[] }])
  fields := #[{ name := "$assertionsDisabled", type := .boolean, accessFlags := 4120, slot := 0, constantValue := 0 }]
  methods := #[k9m0, k9m1]
  instanceTypes := #[]
  staticTypes := #[.boolean]
  resolved := Array.replicate 395 none
  statics := none }

def pool10 : Array CpInfo := pool [(2, .class_ 4), (1, u "java/lang/Object"), (0, u "<init>"), (0, u "()V"), (17, .class_ 26), (1, u "jdk/internal/util/Preconditions"), (6, u "checkIndex"), (21, .class_ 56), (0, u "jdk/internal/util/Preconditions$4"), (57, .class_ 115), (0, u "jdk/internal/util/Preconditions$1"), (7, u "SIOOBE_FORMATTER"), (0, u "Ljava/util/function/BiFunction;"), (0, .class_ 126), (0, u "jdk/internal/util/Preconditions$2"), (3, u "AIOOBE_FORMATTER"), (0, .class_ 132), (0, u "jdk/internal/util/Preconditions$3"), (3, u "IOOBE_FORMATTER"), (41, u "(IILjava/util/function/BiFunction;)I")] 15

def k10m0 : Method := { name := "<init>", desc := "()V", sig := { parameters := [], returnType := none }, accessFlags := 1, code := none }
def k10c1 : Code := { maxStack := 3, maxLocals := 3, code := jdk_41_method_11_code, exceptionTable := #[], attributes := #[] }
def k10m1 : Method := { name := "checkIndex", desc := "(IILjava/util/function/BiFunction;)I", sig := { parameters := [.int, .int, (.object "java/util/function/BiFunction")], returnType := some .int }, accessFlags := 9, code := some k10c1 }
/-- jdk/internal/util/Preconditions -/
def k10 : Class := { plain "jdk/internal/util/Preconditions" (some 0) with
  accessFlags := 33
  interfaces := #[]
  cf := some (fileOf pool10 24 #[.nestMembers #[55, 131, 125, 114]] #[{ accessFlags := 1, nameIndex := 5, descriptorIndex := 6, attributes := #[] }, { accessFlags := 9, nameIndex := 33, descriptorIndex := 178, attributes := #[] }] 33 2 #[] #[{ accessFlags := 25, nameIndex := 123, descriptorIndex := 124, attributes := #[] }, { accessFlags := 25, nameIndex := 130, descriptorIndex := 124, attributes := #[] }, { accessFlags := 25, nameIndex := 136, descriptorIndex := 124, attributes := #[] }])
  fields := #[{ name := "SIOOBE_FORMATTER", type := (.object "java/util/function/BiFunction"), accessFlags := 25, slot := 0, constantValue := 0 }, { name := "AIOOBE_FORMATTER", type := (.object "java/util/function/BiFunction"), accessFlags := 25, slot := 1, constantValue := 0 }, { name := "IOOBE_FORMATTER", type := (.object "java/util/function/BiFunction"), accessFlags := 25, slot := 2, constantValue := 0 }]
  methods := #[k10m0, k10m1]
  instanceTypes := #[]
  staticTypes := #[(.object "java/util/function/BiFunction"), (.object "java/util/function/BiFunction"), (.object "java/util/function/BiFunction")]
  resolved := Array.replicate 194 none
  statics := some 1 }

def pool11 : Array CpInfo := pool [(9, u "<init>"), (6, .class_ 18), (1, u "java/lang/Object"), (0, u "()V"), (1, .class_ 23), (1, u "jdk/internal/util/ArraysSupport"), (0, u "LOG2_ARRAY_LONG_INDEX_SCALE"), (0, u "I"), (2, u "U"), (0, u "Ljdk/internal/misc/Unsafe;"), (8, u "BIG_ENDIAN"), (0, u "Z"), (8, u "LOG2_BYTE_BIT_SIZE"), (4, u "LOG2_ARRAY_INT_INDEX_SCALE"), (54, u "JLA"), (0, u "Ljdk/internal/access/JavaLangAccess;"), (11, u "LOG2_ARRAY_BOOLEAN_INDEX_SCALE"), (9, u "LOG2_ARRAY_BYTE_INDEX_SCALE"), (5, u "LOG2_ARRAY_CHAR_INDEX_SCALE"), (5, u "LOG2_ARRAY_SHORT_INDEX_SCALE"), (18, u "LOG2_ARRAY_FLOAT_INDEX_SCALE"), (24, u "LOG2_ARRAY_DOUBLE_INDEX_SCALE"), (89, u "T_BOOLEAN"), (2, u "T_CHAR"), (1, u "T_FLOAT"), (1, u "T_DOUBLE"), (1, u "T_BYTE"), (1, u "T_SHORT"), (1, u "T_INT"), (1, u "T_LONG"), (1, u "SOFT_MAX_ARRAY_LENGTH")] 83

def k11m0 : Method := { name := "<init>", desc := "()V", sig := { parameters := [], returnType := none }, accessFlags := 2, code := none }
/-- jdk/internal/util/ArraysSupport -/
def k11 : Class := { plain "jdk/internal/util/ArraysSupport" (some 0) with
  accessFlags := 33
  interfaces := #[]
  cf := some (fileOf pool11 21 #[] #[{ accessFlags := 2, nameIndex := 9, descriptorIndex := 19, attributes := #[] }] 33 16 #[] #[{ accessFlags := 24, nameIndex := 28, descriptorIndex := 29, attributes := #[] }, { accessFlags := 26, nameIndex := 38, descriptorIndex := 39, attributes := #[] }, { accessFlags := 25, nameIndex := 121, descriptorIndex := 25, attributes := #[] }, { accessFlags := 25, nameIndex := 131, descriptorIndex := 25, attributes := #[] }, { accessFlags := 25, nameIndex := 137, descriptorIndex := 25, attributes := #[] }, { accessFlags := 25, nameIndex := 143, descriptorIndex := 25, attributes := #[] }, { accessFlags := 25, nameIndex := 53, descriptorIndex := 25, attributes := #[] }, { accessFlags := 25, nameIndex := 24, descriptorIndex := 25, attributes := #[] }, { accessFlags := 25, nameIndex := 162, descriptorIndex := 25, attributes := #[] }, { accessFlags := 25, nameIndex := 187, descriptorIndex := 25, attributes := #[] }, { accessFlags := 26, nameIndex := 48, descriptorIndex := 25, attributes := #[] }, { accessFlags := 25, nameIndex := 277, descriptorIndex := 25, attributes := #[] }, { accessFlags := 25, nameIndex := 280, descriptorIndex := 25, attributes := #[] }, { accessFlags := 25, nameIndex := 282, descriptorIndex := 25, attributes := #[] }, { accessFlags := 25, nameIndex := 284, descriptorIndex := 25, attributes := #[] }, { accessFlags := 25, nameIndex := 286, descriptorIndex := 25, attributes := #[] }, { accessFlags := 25, nameIndex := 288, descriptorIndex := 25, attributes := #[] }, { accessFlags := 25, nameIndex := 290, descriptorIndex := 25, attributes := #[] }, { accessFlags := 25, nameIndex := 292, descriptorIndex := 25, attributes := #[] }, { accessFlags := 26, nameIndex := 108, descriptorIndex := 109, attributes := #[] }, { accessFlags := 25, nameIndex := 294, descriptorIndex := 25, attributes := #[] }])
  fields := #[{ name := "U", type := (.object "jdk/internal/misc/Unsafe"), accessFlags := 24, slot := 0, constantValue := 0 }, { name := "BIG_ENDIAN", type := .boolean, accessFlags := 26, slot := 1, constantValue := 0 }, { name := "LOG2_ARRAY_BOOLEAN_INDEX_SCALE", type := .int, accessFlags := 25, slot := 2, constantValue := 0 }, { name := "LOG2_ARRAY_BYTE_INDEX_SCALE", type := .int, accessFlags := 25, slot := 3, constantValue := 0 }, { name := "LOG2_ARRAY_CHAR_INDEX_SCALE", type := .int, accessFlags := 25, slot := 4, constantValue := 0 }, { name := "LOG2_ARRAY_SHORT_INDEX_SCALE", type := .int, accessFlags := 25, slot := 5, constantValue := 0 }, { name := "LOG2_ARRAY_INT_INDEX_SCALE", type := .int, accessFlags := 25, slot := 6, constantValue := 0 }, { name := "LOG2_ARRAY_LONG_INDEX_SCALE", type := .int, accessFlags := 25, slot := 7, constantValue := 0 }, { name := "LOG2_ARRAY_FLOAT_INDEX_SCALE", type := .int, accessFlags := 25, slot := 8, constantValue := 0 }, { name := "LOG2_ARRAY_DOUBLE_INDEX_SCALE", type := .int, accessFlags := 25, slot := 9, constantValue := 0 }, { name := "LOG2_BYTE_BIT_SIZE", type := .int, accessFlags := 26, slot := 10, constantValue := 0 }, { name := "T_BOOLEAN", type := .int, accessFlags := 25, slot := 11, constantValue := 0 }, { name := "T_CHAR", type := .int, accessFlags := 25, slot := 12, constantValue := 0 }, { name := "T_FLOAT", type := .int, accessFlags := 25, slot := 13, constantValue := 0 }, { name := "T_DOUBLE", type := .int, accessFlags := 25, slot := 14, constantValue := 0 }, { name := "T_BYTE", type := .int, accessFlags := 25, slot := 15, constantValue := 0 }, { name := "T_SHORT", type := .int, accessFlags := 25, slot := 16, constantValue := 0 }, { name := "T_INT", type := .int, accessFlags := 25, slot := 17, constantValue := 0 }, { name := "T_LONG", type := .int, accessFlags := 25, slot := 18, constantValue := 0 }, { name := "JLA", type := (.object "jdk/internal/access/JavaLangAccess"), accessFlags := 26, slot := 19, constantValue := 0 }, { name := "SOFT_MAX_ARRAY_LENGTH", type := .int, accessFlags := 25, slot := 20, constantValue := 0 }]
  methods := #[k11m0]
  instanceTypes := #[]
  staticTypes := #[(.object "jdk/internal/misc/Unsafe"), .boolean, .int, .int, .int, .int, .int, .int, .int, .int, .int, .int, .int, .int, .int, .int, .int, .int, .int, (.object "jdk/internal/access/JavaLangAccess"), .int]
  resolved := Array.replicate 378 none
  statics := none }

def pool12 : Array CpInfo := pool [(1, u "java/lang/Cloneable"), (0, .class_ 1), (0, u "java/lang/Object"), (0, .class_ 3)] 3

/-- java/lang/Cloneable -/
def k12 : Class := { plain "java/lang/Cloneable" (some 0) with
  accessFlags := 1537
  interfaces := #[]
  cf := some (fileOf pool12 2 #[] #[] 1537 4 #[] #[])
  fields := #[]
  methods := #[]
  instanceTypes := #[]
  staticTypes := #[]
  resolved := Array.replicate 8 none
  statics := none }

/-- the primitive byte -/
def k13 : Class := { plain "byte" none with kind := .primitive 'B', accessFlags := 0x411 }
/-- [B -/
def k14 : Class := { plain "[B" (some 0) with kind := .array 13 .byte, interfaces := #[12, 3], accessFlags := 1041 }

/-- the primitive int -/
def k15 : Class := { plain "int" none with kind := .primitive 'I', accessFlags := 0x411 }
/-- [I -/
def k16 : Class := { plain "[I" (some 0) with kind := .array 15 .int, interfaces := #[12, 3], accessFlags := 1041 }

def heap : Heap := #[{ cls := 8, slots := #[.long 0, .int 1, .null, .int 0, .null, .int 0, .int 0], vm := .statics 8 },
  { cls := 10, slots := #[.null, .null, .null], vm := .statics 10 }]
def classes : Array Class := #[k0, k1, k2, k3, k4, k5, k6, k7, k8, k9, k10, k11, k12, k13, k14, k15, k16]
def interned : List (Array UInt16 × Addr) := []
def slotsUsed : Nat := 10
def theMethod : MethodId := ⟨1, 1⟩
def args0 : Array Value := #[.int 3, .int 5]
def aboutOver (below : List Frame) : State where
  vm := { classes := classes, interned := interned.toArray }
  heap := heap
  slotsUsed := slotsUsed
  threads := #[{ frames := .invoking theMethod args0 :: below }]
def below0 : List Frame := [.native { method := ⟨0, 0⟩, args := #[] }]
def about1 : State := aboutOver below0
def p0 : Program := .bare "" "" ""
def e0 : Env := launch0.env 0 0 0
theorem w_frames : about1.frames = Frame.invoking theMethod args0 :: below0 := rfl
set_option maxRecDepth 65536 in
theorem w_args : argsFit about1.vm theMethod args0 = true := by decide +kernel
set_option maxRecDepth 65536 in
theorem w_heap : heapFits about1 = true := by decide +kernel
set_option maxRecDepth 65536 in
theorem w_runnable : about1.curStatus? = some .runnable := by decide +kernel
set_option maxRecDepth 65536 in
theorem w_alone : about1.alone = true := by decide +kernel
set_option maxRecDepth 65536 in
theorem w_named : about1.methodNamed? x = some theMethod := by decide +kernel
set_option maxRecDepth 65536 in
theorem w_hears : about1.hears theMethod below0 = true := by decide +kernel
set_option maxRecDepth 65536 in
theorem w_ripe : about1.ripe theMethod args0 below0 = true := by decide +kernel
theorem w_running : about1.status = .running := rfl
set_option maxRecDepth 65536 in
theorem w_room : about1.hasRoom e0.platform room_1 = true :=
  launch0.hasRoom_least _ room_1 (by decide +kernel) (by decide +kernel) (by decide +kernel) (by decide +kernel) (by decide +kernel) (by decide +kernel)
theorem allAtoms_all (ts : List Jvm.Cond) (a : Array Jvm.Value) (st : Jvm.State) : (allAtoms ts).before a st = ts.all (fun c => c.before a st) := by
  induction ts with
  | nil => rfl
  | cons c t ih =>
    show (Jvm.Cond.and c (allAtoms t)).before a st = _
    rw [Jvm.Cond.before_and, ih, List.all_cons]
def words1 : List Jvm.Cond := Jvm.Cond.code x code maxLocals ret :: tables_1
/-- a 'code' word, met by the world's own term for the bytes: nothing is compared byte by byte -/
theorem code_word {y : MethodName} {bytes : ByteArray} {mx : Nat} {rt : Option FieldType} {a : Array Value} {s : State} {m : MethodId} {meth : Method} {c : Code} (h1 : s.methodNamed? y = some m) (h2 : s.vm.method? m = some meth) (h3 : meth.code = some c) (h4 : c.code = bytes)
    (h5 : (c.maxLocals == mx && c.exceptionTable.isEmpty && decide (c.maxStack ≤ mostOperands) && decide (meth.sig.returnType = rt) && !meth.locks && decide (parseMethodDescriptor y.desc = some meth.sig)) = true) : (Jvm.Cond.code y bytes mx rt).before a s = true := by
  simp only [Bool.and_eq_true, beq_iff_eq, Bool.not_eq_true', decide_eq_true_eq] at h5
  obtain ⟨⟨⟨⟨⟨g1, g2⟩, g3⟩, g4⟩, g5⟩, g6⟩ := h5
  simp [Cond.before, Cond.holds, Cond.value, h1, h2, h3, h4, g1, g2, g3, g4, g5, g6]
def isCode : Jvm.Cond → Bool
  | .code _ _ _ _ => true
  | _ => false
theorem all_split {L : List Jvm.Cond} {P : Jvm.Cond → Bool} (h1 : L.all (fun c => isCode c || P c) = true) (h2 : ∀ c ∈ L.filter isCode, P c = true) : L.all P = true := by
  refine List.all_eq_true.mpr fun c hc => ?_
  have h := List.all_eq_true.mp h1 c hc
  rcases Bool.eq_false_or_eq_true (isCode c) with hi | hi
  · exact h2 c (List.mem_filter.mpr ⟨hc, hi⟩)
  · simpa [hi] using h
set_option maxRecDepth 65536 in
theorem w_c0 : (Jvm.Cond.code x code maxLocals ret).before args0 about1 = true := code_word (m := ⟨1, 1⟩) (meth := k1m1) (c := k1c1) (by decide +kernel) rfl rfl rfl (by decide +kernel)
set_option maxRecDepth 65536 in
theorem w_c1 : (Jvm.Cond.code ({ cls := "com/example/cerb3rus/cerb3rus/value/Octets", name := "hexDigit", desc := "(C)I" } : Jvm.MethodName) prog_113_method_7_code (1 : Nat) (Option.some Jvm.ClassFile.FieldType.int)).before args0 about1 = true := code_word (m := ⟨2, 0⟩) (meth := k2m0) (c := k2c0) (by decide +kernel) rfl rfl rfl (by decide +kernel)
set_option maxRecDepth 65536 in
theorem w_c2 : (Jvm.Cond.code ({ cls := "java/lang/String", name := "charAt", desc := "(I)C" } : Jvm.MethodName) jdk_42_method_56_code (2 : Nat) (Option.some Jvm.ClassFile.FieldType.char)).before args0 about1 = true := code_word (m := ⟨8, 1⟩) (meth := k8m1) (c := k8c1) (by decide +kernel) rfl rfl rfl (by decide +kernel)
set_option maxRecDepth 65536 in
theorem w_c3 : (Jvm.Cond.code ({ cls := "java/lang/String", name := "isLatin1", desc := "()Z" } : Jvm.MethodName) jdk_42_method_154_code (1 : Nat) (Option.some Jvm.ClassFile.FieldType.boolean)).before args0 about1 = true := code_word (m := ⟨8, 2⟩) (meth := k8m2) (c := k8c2) (by decide +kernel) rfl rfl rfl (by decide +kernel)
set_option maxRecDepth 65536 in
theorem w_c4 : (Jvm.Cond.code ({ cls := "java/lang/StringLatin1", name := "charAt", desc := "([BI)C" } : Jvm.MethodName) jdk_43_method_2_code (2 : Nat) (Option.some Jvm.ClassFile.FieldType.char)).before args0 about1 = true := code_word (m := ⟨9, 1⟩) (meth := k9m1) (c := k9c1) (by decide +kernel) rfl rfl rfl (by decide +kernel)
set_option maxRecDepth 65536 in
theorem w_c5 : (Jvm.Cond.code ({ cls := "java/lang/String", name := "checkIndex", desc := "(II)V" } : Jvm.MethodName) jdk_42_method_155_code (2 : Nat) (Option.none : Option Jvm.ClassFile.FieldType)).before args0 about1 = true := code_word (m := ⟨8, 3⟩) (meth := k8m3) (c := k8c3) (by decide +kernel) rfl rfl rfl (by decide +kernel)
set_option maxRecDepth 65536 in
theorem w_c6 : (Jvm.Cond.code ({ cls := "jdk/internal/util/Preconditions", name := "checkIndex", desc := "(IILjava/util/function/BiFunction;)I" } : Jvm.MethodName) jdk_41_method_11_code (3 : Nat) (Option.some Jvm.ClassFile.FieldType.int)).before args0 about1 = true := code_word (m := ⟨10, 1⟩) (meth := k10m1) (c := k10c1) (by decide +kernel) rfl rfl rfl (by decide +kernel)
def codes1 : List Jvm.Cond := [Jvm.Cond.code x code maxLocals ret, Jvm.Cond.code ({ cls := "com/example/cerb3rus/cerb3rus/value/Octets", name := "hexDigit", desc := "(C)I" } : Jvm.MethodName) prog_113_method_7_code (1 : Nat) (Option.some Jvm.ClassFile.FieldType.int), Jvm.Cond.code ({ cls := "java/lang/String", name := "charAt", desc := "(I)C" } : Jvm.MethodName) jdk_42_method_56_code (2 : Nat) (Option.some Jvm.ClassFile.FieldType.char), Jvm.Cond.code ({ cls := "java/lang/String", name := "isLatin1", desc := "()Z" } : Jvm.MethodName) jdk_42_method_154_code (1 : Nat) (Option.some Jvm.ClassFile.FieldType.boolean), Jvm.Cond.code ({ cls := "java/lang/StringLatin1", name := "charAt", desc := "([BI)C" } : Jvm.MethodName) jdk_43_method_2_code (2 : Nat) (Option.some Jvm.ClassFile.FieldType.char), Jvm.Cond.code ({ cls := "java/lang/String", name := "checkIndex", desc := "(II)V" } : Jvm.MethodName) jdk_42_method_155_code (2 : Nat) (Option.none : Option Jvm.ClassFile.FieldType), Jvm.Cond.code ({ cls := "jdk/internal/util/Preconditions", name := "checkIndex", desc := "(IILjava/util/function/BiFunction;)I" } : Jvm.MethodName) jdk_41_method_11_code (3 : Nat) (Option.some Jvm.ClassFile.FieldType.int)]
set_option maxRecDepth 65536 in
theorem codes_eq : words1.filter isCode = codes1 := rfl
theorem w_codes : ∀ c ∈ words1.filter isCode, c.before args0 about1 = true := by
  rw [codes_eq]
  intro c hc
  simp only [codes1, List.mem_cons, List.not_mem_nil, or_false] at hc
  rcases hc with rfl | rfl | rfl | rfl | rfl | rfl | rfl
  · exact w_c0
  · exact w_c1
  · exact w_c2
  · exact w_c3
  · exact w_c4
  · exact w_c5
  · exact w_c6
set_option maxRecDepth 65536 in
theorem w_t1 : (words1.take 24).all (fun c => isCode c || c.before args0 about1) = true := by decide +kernel
set_option maxRecDepth 65536 in
theorem w_t2 : (words1.drop 24).all (fun c => isCode c || c.before args0 about1) = true := by decide +kernel
theorem w_tables : (allAtoms (Jvm.Cond.code x code maxLocals ret :: tables_1)).before args0 about1 = true := by
  rw [allAtoms_all]
  show words1.all (fun c => c.before args0 about1) = true
  refine all_split ?_ w_codes
  rw [← List.take_append_drop 24 words1, List.all_append, w_t1, w_t2]
  rfl
set_option maxRecDepth 65536 in
theorem w_rest : rest_1_c.before args0 about1 = true := by decide +kernel
set_option maxRecDepth 65536 in
theorem w_case : (Jvm.Cond.and given_1 narrow_1).before args0 about1 = true := by decide +kernel
set_option maxRecDepth 65536 in
theorem w_consts : constsHeld consts_1 about1 := Jvm.Lit.constsHeldB_iff.mp (by decide +kernel)
theorem w_applies : (headSpec (Jvm.Cond.code x code maxLocals ret :: tables_1) room_1).applies x e0.platform about1 = true :=
  (Spec.applies_iff w_frames).mpr ⟨w_running, w_runnable, w_alone, w_named, w_hears, w_ripe, w_room, w_tables⟩
theorem atStart : AtStart classFile x code maxLocals ret World_1 tables_1 room_1 Calls_1 rest_1 Pre_1 launch0 p0 e0 about1 theMethod args0 below0 :=
  ⟨lists_1, trivial, launch0.admits_env _ _ _, launch0.least_env, fairChoices_fair.cas, fairChoices_fair.clock, w_frames, w_args, w_heap, w_applies, ⟨w_consts, trivial⟩, w_rest, w_case⟩
end start1
theorem witness_1 : WitnessClaimed_1 := ⟨start1.p0, start1.e0, start1.about1, start1.theMethod, start1.args0, start1.below0, start1.atStart⟩
end Jvm.Pilot.@@N@@
