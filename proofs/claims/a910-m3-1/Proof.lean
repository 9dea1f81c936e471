import JvmDerived
import JvmDerived.Pilot.@@N@@Statement
import JvmDerived.Pilot.@@N@@Code
set_option linter.unusedVariables false
set_option linter.unusedSimpArgs false
namespace Jvm.Pilot.@@N@@
open Jvm Jvm.ClassFile Sem Op Lib Jvm.Free Jvm.Stand Jvm.LawKit Jvm.RoadKit Bundle Jvm.Pilot.@@N@@.Jvm.D
/-! own_Ends: from here the run comes to its return, and what it leaves is as Qf says -/
def own_Ends (p : Program) (e : Env) (below : List Frame) (s : State) (Qf : Option Value → Heap → List Loc → Prop) (ce sl : Nat) (W : State) : Prop :=
  ∃ U o, Steps p.tables e below W U ∧ U.status = .running ∧ Ended U below o ∧ ∃ v L, o = .returned v ∧ Qf v U.heap L ∧ FrameEnd s o U L ce sl
section Own
variable {p : Program} {l : Launch} {e : Env} {R : Room} {s : State} {m : MethodId} {args : Array Value} {below : List Frame} {meth : Method} {c : Code} {T : State} {locs : List Loc} {cells slots : Nat} {Qf : Option Value → Heap → List Loc → Prop} {ce sl : Nat} {W0 W1 : State}
theorem own_go (h : ∀ t, Steps p.tables e below W1 t → Steps p.tables e below W0 t) (k : own_Ends p e below s Qf ce sl W1) : own_Ends p e below s Qf ce sl W0 := by
  obtain ⟨U, o, h1, h2⟩ := k
  exact ⟨U, o, h _ h1, h2⟩
theorem own_tr (h : Steps p.tables e below W0 W1) (k : own_Ends p e below s Qf ce sl W1) : own_Ends p e below s Qf ce sl W0 := own_go (fun t k => h.trans k) k
theorem own_st {t : State} (h : ∀ t, Steps p.tables e below W1 t → Steps p.tables e below W0 t) (k : Steps p.tables e below W1 t) : Steps p.tables e below W0 t := h t k
theorem own_done (X : Stand p l e R s m args below meth c T locs cells slots) {v : Option Value} (hv : meth.sig.returnType = none → v = none) (hlk : meth.locks = false) (hc : cells ≤ ce) (hs : slots ≤ sl) (hQ : Qf v T.heap locs)
    (h : ∀ fs, (∀ (f : JFrame) (acts : List Action), f.method = m → f.locked = none → f.entered = [] → (doReturn e (T.setTop f) acts v).1 = T.setFrames fs) → Steps p.tables e below W0 (T.setFrames fs)) : own_Ends p e below s Qf ce sl W0 := by
  obtain ⟨fs, hr, hrun, hended, hW, hsame⟩ := X.leave (v := v) hv hlk
  exact ⟨_, _, h fs hr, hrun, hended, _, _, rfl, hQ, ⟨_, rfl⟩, hW, hsame.mono hc hs⟩
theorem own_some {t : FieldType} {v : Option Value} (hret : meth.sig.returnType = some t) : meth.sig.returnType = none → v = none := fun h => by rw [hret] at h; cases h
theorem own_retI (X : Stand p l e R s m args below meth c T locs cells slots) (hx : p.tables.exec = Jvm.exec) {pc : Nat} {Ls : Array Slot} {z : Int32} {rest : List Value} (hret : meth.sig.returnType = some .int) (hd : decode c.code pc = .ok (.ireturn, 1)) (hlk : meth.locks = false) (hc : cells ≤ ce) (hs : slots ≤ sl) (hQ : Qf (some (.int z)) T.heap locs) :
    own_Ends p e below s Qf ce sl (T.setTop (mkF m pc Ls (.int z :: rest))) :=
  own_done X (own_some hret) hlk hc hs hQ fun fs hr => retOut X hx hret rfl (Or.inl ⟨rfl, Or.inl rfl, _, rfl⟩) hd hr
theorem own_retN (X : Stand p l e R s m args below meth c T locs cells slots) (hx : p.tables.exec = Jvm.exec) {pc : Nat} {Ls : Array Slot} {z : Int32} {t : FieldType} {rest : List Value} (hret : meth.sig.returnType = some t) (ht : t = .boolean ∨ t = .byte ∨ t = .char ∨ t = .short) (hd : decode c.code pc = .ok (.ireturn, 1)) (hlk : meth.locks = false) (hc : cells ≤ ce) (hs : slots ≤ sl) (hQ : Qf (some (.int (nar t z))) T.heap locs) :
    own_Ends p e below s Qf ce sl (T.setTop (mkF m pc Ls (.int z :: rest))) :=
  own_done X (own_some hret) hlk hc hs hQ fun fs hr => retN X hx hret ht hd hr
theorem own_retJ (X : Stand p l e R s m args below meth c T locs cells slots) (hx : p.tables.exec = Jvm.exec) {pc : Nat} {Ls : Array Slot} {z : Int64} {rest : List Value} (hret : meth.sig.returnType = some .long) (hd : decode c.code pc = .ok (.lreturn, 1)) (hlk : meth.locks = false) (hc : cells ≤ ce) (hs : slots ≤ sl) (hQ : Qf (some (.long z)) T.heap locs) :
    own_Ends p e below s Qf ce sl (T.setTop (mkF m pc Ls (.long z :: rest))) :=
  own_done X (own_some hret) hlk hc hs hQ fun fs hr => retOut X hx hret rfl (Or.inr (Or.inl ⟨rfl, rfl, _, rfl⟩)) hd hr
theorem own_retD (X : Stand p l e R s m args below meth c T locs cells slots) (hx : p.tables.exec = Jvm.exec) {pc : Nat} {Ls : Array Slot} {z : UInt64} {rest : List Value} (hret : meth.sig.returnType = some .double) (hd : decode c.code pc = .ok (.dreturn, 1)) (hlk : meth.locks = false) (hc : cells ≤ ce) (hs : slots ≤ sl) (hQ : Qf (some (.double z)) T.heap locs) :
    own_Ends p e below s Qf ce sl (T.setTop (mkF m pc Ls (.double z :: rest))) :=
  own_done X (own_some hret) hlk hc hs hQ fun fs hr => retOut X hx hret rfl (Or.inr (Or.inr (Or.inl ⟨rfl, rfl, _, rfl⟩))) hd hr
theorem own_retR (X : Stand p l e R s m args below meth c T locs cells slots) (hx : p.tables.exec = Jvm.exec) {pc : Nat} {Ls : Array Slot} {w : Value} {t : FieldType} {rest : List Value} (hret : meth.sig.returnType = some t) (ht : t.isReference = true) (hw : w.isRef = true) (hd : decode c.code pc = .ok (.areturn, 1)) (hlk : meth.locks = false) (hc : cells ≤ ce) (hs : slots ≤ sl) (hQ : Qf (some w) T.heap locs) :
    own_Ends p e below s Qf ce sl (T.setTop (mkF m pc Ls (w :: rest))) :=
  own_done X (own_some hret) hlk hc hs hQ fun fs hr => retOut X hx hret (by cases t <;> first | rfl | (simp [FieldType.isReference] at ht)) (Or.inr (Or.inr (Or.inr (Or.inr ⟨rfl, ht, hw⟩)))) hd hr
theorem own_retV (X : Stand p l e R s m args below meth c T locs cells slots) (hx : p.tables.exec = Jvm.exec) {pc : Nat} {Ls : Array Slot} (hret : meth.sig.returnType = none) (hd : decode c.code pc = .ok (.return_, 1)) (hlk : meth.locks = false) (hc : cells ≤ ce) (hs : slots ≤ sl) (hQ : Qf none T.heap locs) :
    own_Ends p e below s Qf ce sl (T.setTop (mkF m pc Ls [])) :=
  own_done X (fun _ => rfl) hlk hc hs hQ fun fs hr => X.returnOut hx hret hd hr
def own_b2i (P : Prop) [Decidable P] : Int32 := if P then 1 else 0
theorem own_b1 {P : Prop} [Decidable P] (h : P) : own_b2i P = 1 := if_pos h
theorem own_b0 {P : Prop} [Decidable P] (h : ¬ P) : own_b2i P = 0 := if_neg h
end Own
def own_chA (p : Int32) : Int32 := if p < 64 then p + 32 else p - 64
def own_vA (u : Int32) : Int32 := if u % 128 < 32 then u % 128 + 64 else u % 128 - 32
def own_Q (z : Int32) (h0 : Heap) (n0 : Nat) (v : Option Value) (h : Heap) (L : List Loc) : Prop := v = some (.int z) ∧ Fr n0 L ∧ h = h0
def own_Q0 (n0 : Nat) (v : Option Value) (h : Heap) (L : List Loc) : Prop := v = some (.int 1) ∧ Fr n0 L
theorem own_v (x : Int32) : 0 ≤ ((x &&& (2147483647 : Int32)) % (96 : Int32)).toInt ∧ ((x &&& (2147483647 : Int32)) % (96 : Int32)).toInt < 96 := by
  have h := c_mask x 2147483647 31 (by decide) (by decide)
  have h2 := (c_irem (x &&& 2147483647) 96 96 rfl).1 (by omega)
  omega
theorem own_same {u : Int32} (h : 0 ≤ u.toInt ∧ u.toInt < 128) : u % 128 = u := by
  rw [← Int32.toInt_inj]
  rw [(c_irem u 128 128 rfl).1 h.1]
  omega
theorem own_p32 {v : Int32} (h : 0 ≤ v.toInt ∧ v.toInt < 96) : (v + 32).toInt = v.toInt + 32 := by
  have a := c_iadd v 32
  have r := rng32 (v + 32)
  have e : (32 : Int32).toInt = 32 := rfl
  omega
theorem own_A {v : Int32} (h : 0 ≤ v.toInt ∧ v.toInt < 96) : (0 ≤ (own_chA v).toInt ∧ (own_chA v).toInt < 96) ∧ own_vA (own_chA v) = v := by
  have e64 : (64 : Int32).toInt = 64 := rfl
  have e32 : (32 : Int32).toInt = 32 := rfl
  by_cases q : v < 64
  · have e : own_chA v = v + 32 := if_pos q
    have q' := q
    rw [Int32.lt_iff_toInt_lt, e64] at q'
    have p := own_p32 h
    rw [e]
    refine ⟨by omega, ?_⟩
    have s := own_same (u := v + 32) (by omega)
    have n : ¬ (v + 32) % 128 < 32 := by rw [s, Int32.lt_iff_toInt_lt]; omega
    rw [own_vA, if_neg n, s, ← Int32.toInt_inj]
    have a := c_isub (v + 32) 32
    have r := rng32 (v + 32 - 32)
    omega
  · have e : own_chA v = v - 64 := if_neg q
    have q' := q
    rw [Int32.lt_iff_toInt_lt, e64] at q'
    have a := c_isub v 64
    have r := rng32 (v - 64)
    rw [e]
    have p : (v - 64).toInt = v.toInt - 64 := by omega
    refine ⟨by omega, ?_⟩
    have s := own_same (u := v - 64) (by omega)
    have n : (v - 64) % 128 < 32 := by rw [s, Int32.lt_iff_toInt_lt]; omega
    rw [own_vA, if_pos n, s, ← Int32.toInt_inj]
    have a := c_iadd (v - 64) 64
    have r := rng32 (v - 64 + 64)
    omega
theorem own_B {v : Int32} (h : 0 ≤ v.toInt ∧ v.toInt < 96) : (32 ≤ (v + 32).toInt ∧ (v + 32).toInt < 128) ∧ (v + 32) % 128 - 32 = v := by
  have p := own_p32 h
  have s := own_same (u := v + 32) (by omega)
  refine ⟨by omega, ?_⟩
  have e32 : (32 : Int32).toInt = 32 := rfl
  rw [s, ← Int32.toInt_inj]
  have a := c_isub (v + 32) 32
  have r := rng32 (v + 32 - 32)
  omega
theorem own_notneg {u : Int32} (h : 0 ≤ u.toInt) : ¬ u < 0 := by rw [Int32.lt_iff_toInt_lt]; have e : (0 : Int32).toInt = 0 := rfl; omega
theorem own_le127 {u : Int32} (h : u.toInt < 128) : ¬ (127 : Int32) < u := by rw [Int32.lt_iff_toInt_lt]; have e : (127 : Int32).toInt = 127 := rfl; omega
theorem own_notm1 {u : Int32} (h : 0 ≤ u.toInt) : ¬ u = -1 := by rw [← Int32.toInt_inj]; have e : (-1 : Int32).toInt = -1 := rfl; omega
def own_Q3 (w : Int32) (h0 : Heap) (n0 : Nat) (v : Option Value) (h : Heap) (L : List Loc) : Prop := v = some (.int w) ∧ Fr n0 L ∧ h = h0
theorem own_pn_java_lang_Enum : plainName "java/lang/Enum" = true := by first | (simp [plainName, overriddenIn]; done) | decide +kernel
theorem d3_0 : decode jdk_37_method_2_code 0 = .ok (.aload_n 0, 1) := by decide +kernel
theorem d3_1 : decode jdk_37_method_2_code 1 = .ok (.getfield 7, 3) := by decide +kernel
theorem d3_4 : decode jdk_37_method_2_code 4 = .ok (.ireturn, 1) := by decide +kernel
theorem ef_rm3 (m : MethodId) (x0 : Addr)  : entryFrame m #[(.ref x0)] 1 = mkF m 0 #[.val (.ref x0)] [] := by first | (simp [entryFrame, mkF, argsToLocals, Value.category]; done) | rfl
set_option maxRecDepth 65536 in
set_option maxHeartbeats 40000000 in
theorem rm3 (l : Launch) (Z : State) (a0 : Array Value) (hw : ∀ d ∈ tables_1, d.before a0 Z = true) (ws : List Jvm.Cond) (a1 : Addr) (w : Int32) (h0 : Heap) (n0 : Nat) (Z0 : n0 ≤ h0.size) (F_w : Fld Z h0 a1 "java/lang/Enum" "ordinal" "I" (.int w)) :
    MetFree l (⟨"java/lang/Enum", "ordinal", "()I"⟩ : MethodName) (head1 (Jvm.Cond.code (⟨"java/lang/Enum", "ordinal", "()I"⟩ : MethodName) jdk_37_method_2_code 1 (some .int) :: ws) ({ frames := 0, cells := 0, slots := 0, locals := 0 } : Room)) (fun a U => a = #[(.ref a1)] ∧ Z.Warmed39 U.vm ∧ U.heap = h0) (fun _ _ _ _ _ => True) (fun _ U o U' => ∃ v L, o = .returned v ∧ own_Q3 w h0 n0 v U'.heap L ∧ FrameEnd U o U' L ({ frames := 0, cells := 0, slots := 0, locals := 0 } : Room).cells ({ frames := 0, cells := 0, slots := 0, locals := 0 } : Room).slots) := by
  refine MetFree.of_bodySF (plainFor_of_name own_pn_java_lang_Enum) hisR ?_
  intro p e s m args below meth c s₁ Bd hml0 hP hK
  obtain ⟨rfl, hZ, hh⟩ := hP
  have hx := Bd.exec
  have hby := Bd.bytes
  have hlk := BodyLoose.notSynchronized Bd
  have hml : c.maxLocals = 1 := hml0
  have hown : s.vm.findClass "java/lang/Enum" = some m.cls := findClass_of_methodNamed Bd.named
  have hnm := (name_of_methodNamed Bd.named Bd.method).1
  have X0 : Stand p l e ({ frames := 0, cells := 0, slots := 0, locals := 0 } : Room) s m #[(.ref a1)] below meth c s₁ [] 0 0 := Stand.of_body Bd
  have e0 : s₁.heap = h0 := by rw [← hh, Bd.state]; rfl
  have N0 := Fr.nil n0
  show own_Ends p e below s (own_Q3 w h0 n0) 0 0 (s₁.setTop (entryFrame m #[(.ref a1)] 1))
  refine own_go (W1 := s₁.setTop (mkF m 0 #[.val (.ref a1)] [])) (fun t k => castTop (ef_rm3 m a1 ) k) ?_
  refine own_go (W1 := s₁.setTop (mkF m 1 #[.val (.ref a1)] [(.ref a1)])) (fun t k => XS.aloadN X0.here hx rfl (hb hby d3_0) rfl rfl  k) ?_
  obtain ⟨T1, X1, e1, st1⟩ := getF X0 hx hZ hown (host := "") (Or.inl (hw _ (List.mem_of_getElem? (i := 24) rfl))) Via.refl e0 F_w (g := (mkF m 1 #[.val (.ref a1)] [(.ref a1)])) rfl rfl (hb hby d3_1)
  refine own_go (W1 := T1.setTop (mkF m 4 #[.val (.ref a1)] [(.int w)])) (st1) ?_
  exact own_retI X1 hx Bd.returns (hb hby d3_4) hlk (by decide) (by decide) ⟨rfl, N0, e1⟩
theorem own_pn_com_example_quietzone_quietzone_code128_CodeSet : plainName "com/example/quietzone/quietzone/code128/CodeSet" = true := by first | (simp [plainName, overriddenIn]; done) | decide +kernel
theorem d1_0 : decode prog_15_method_11_code 0 = .ok (.aload_n 0, 1) := by decide +kernel
theorem d1_1 : decode prog_15_method_11_code 1 = .ok (.getstatic 7, 3) := by decide +kernel
theorem d1_4 : decode prog_15_method_11_code 4 = .ok (.if_acmp .ne 8, 3) := by decide +kernel
theorem d1_12 : decode prog_15_method_11_code 12 = .ok (.iload_n 1, 1) := by decide +kernel
theorem d1_13 : decode prog_15_method_11_code 13 = .ok (.bipush 64, 2) := by decide +kernel
theorem d1_15 : decode prog_15_method_11_code 15 = .ok (.if_icmp .ge 10, 3) := by decide +kernel
theorem d1_18 : decode prog_15_method_11_code 18 = .ok (.iload_n 1, 1) := by decide +kernel
theorem d1_19 : decode prog_15_method_11_code 19 = .ok (.bipush 32, 2) := by decide +kernel
theorem d1_21 : decode prog_15_method_11_code 21 = .ok (.iadd, 1) := by decide +kernel
theorem d1_22 : decode prog_15_method_11_code 22 = .ok (.goto 7, 3) := by decide +kernel
theorem d1_29 : decode prog_15_method_11_code 29 = .ok (.ireturn, 1) := by decide +kernel
theorem d1_25 : decode prog_15_method_11_code 25 = .ok (.iload_n 1, 1) := by decide +kernel
theorem d1_26 : decode prog_15_method_11_code 26 = .ok (.bipush 64, 2) := by decide +kernel
theorem d1_28 : decode prog_15_method_11_code 28 = .ok (.isub, 1) := by decide +kernel
theorem ef_rm1A (m : MethodId) (x0 : Addr) (x1 : Int32)  : entryFrame m #[(.ref x0), (.int x1)] 2 = mkF m 0 #[.val (.ref x0), .val (.int x1)] [] := by first | (simp [entryFrame, mkF, argsToLocals, Value.category]; done) | rfl
set_option maxRecDepth 65536 in
set_option maxHeartbeats 40000000 in
theorem rm1A (l : Launch) (Z : State) (a0 : Array Value) (hw : ∀ d ∈ tables_1, d.before a0 Z = true) (ws : List Jvm.Cond) (a1 sB : Addr) (p1 : Int32) (h0 : Heap) (n0 : Nat) (Z0 : n0 ≤ h0.size) (S_B : Sta Z h0 "com/example/quietzone/quietzone/code128/CodeSet" "B" "Lcom/example/quietzone/quietzone/code128/CodeSet;" (.ref sB)) (ne : a1 ≠ sB) :
    MetFree l (⟨"com/example/quietzone/quietzone/code128/CodeSet", "characterOf", "(I)I"⟩ : MethodName) (head1 (Jvm.Cond.code (⟨"com/example/quietzone/quietzone/code128/CodeSet", "characterOf", "(I)I"⟩ : MethodName) prog_15_method_11_code 2 (some .int) :: ws) ({ frames := 0, cells := 0, slots := 0, locals := 0 } : Room)) (fun a U => a = #[(.ref a1), (.int p1)] ∧ Z.Warmed39 U.vm ∧ U.heap = h0) (fun _ _ _ _ _ => True) (fun _ U o U' => ∃ v L, o = .returned v ∧ own_Q (own_chA p1) h0 n0 v U'.heap L ∧ FrameEnd U o U' L ({ frames := 0, cells := 0, slots := 0, locals := 0 } : Room).cells ({ frames := 0, cells := 0, slots := 0, locals := 0 } : Room).slots) := by
  refine MetFree.of_bodySF (plainFor_of_name own_pn_com_example_quietzone_quietzone_code128_CodeSet) hisR ?_
  intro p e s m args below meth c s₁ Bd hml0 hP hK
  obtain ⟨rfl, hZ, hh⟩ := hP
  have hx := Bd.exec
  have hby := Bd.bytes
  have hlk := BodyLoose.notSynchronized Bd
  have hml : c.maxLocals = 2 := hml0
  have hown : s.vm.findClass "com/example/quietzone/quietzone/code128/CodeSet" = some m.cls := findClass_of_methodNamed Bd.named
  have hnm := (name_of_methodNamed Bd.named Bd.method).1
  have X0 : Stand p l e ({ frames := 0, cells := 0, slots := 0, locals := 0 } : Room) s m #[(.ref a1), (.int p1)] below meth c s₁ [] 0 0 := Stand.of_body Bd
  have e0 : s₁.heap = h0 := by rw [← hh, Bd.state]; rfl
  have N0 := Fr.nil n0
  show own_Ends p e below s (own_Q (own_chA p1) h0 n0) 0 0 (s₁.setTop (entryFrame m #[(.ref a1), (.int p1)] 2))
  refine own_go (W1 := s₁.setTop (mkF m 0 #[.val (.ref a1), .val (.int p1)] [])) (fun t k => castTop (ef_rm1A m a1 p1 ) k) ?_
  refine own_go (W1 := s₁.setTop (mkF m 1 #[.val (.ref a1), .val (.int p1)] [(.ref a1)])) (fun t k => XS.aloadN X0.here hx rfl (hb hby d1_0) rfl rfl  k) ?_
  obtain ⟨T1, X1, e1, st1⟩ := getS2 X0 hx hZ hown (host := "") (Or.inl (hw _ (List.mem_of_getElem? (i := 9) rfl))) Via.refl e0 S_B (g := (mkF m 1 #[.val (.ref a1), .val (.int p1)] [(.ref a1)])) rfl (hb hby d1_1)
  refine own_go (W1 := T1.setTop (mkF m 4 #[.val (.ref a1), .val (.int p1)] [(.ref sB), (.ref a1)])) (st1) ?_
  refine own_go (W1 := T1.setTop (mkF m 12 #[.val (.ref a1), .val (.int p1)] [])) (fun t k => Jvm.RoadKit.acmp (g := (mkF m 4 #[.val (.ref a1), .val (.int p1)] [(.ref sB), (.ref a1)])) X1 hx rfl rfl rfl (pc0 := 4) (pc' := 12) (same := false) rfl (hb hby d1_4) rfl (decide_eq_false fun q => ne (Value.ref.inj q)) (by decide) (by decide) k) ?_
  refine own_go (W1 := T1.setTop (mkF m 13 #[.val (.ref a1), .val (.int p1)] [(.int p1)])) (fun t k => XS.iloadN X1.here hx rfl (hb hby d1_12) rfl  k) ?_
  refine own_go (W1 := T1.setTop (mkF m 15 #[.val (.ref a1), .val (.int p1)] [(.int (64 : Int32)), (.int p1)])) (fun t k => XS.bipush X1.here hx rfl (hb hby d1_13) k) ?_
  by_cases hc15_1 : p1 < (64 : Int32)
  · skip
    refine own_go (W1 := T1.setTop (mkF m 18 #[.val (.ref a1), .val (.int p1)] [])) (fun t k => XS.icmpNo X1.here hx rfl (hb hby d1_15) rfl (tlt (show p1 < (64 : Int32) from hc15_1)).2.1 k) ?_
    refine own_go (W1 := T1.setTop (mkF m 19 #[.val (.ref a1), .val (.int p1)] [(.int p1)])) (fun t k => XS.iloadN X1.here hx rfl (hb hby d1_18) rfl  k) ?_
    refine own_go (W1 := T1.setTop (mkF m 21 #[.val (.ref a1), .val (.int p1)] [(.int (32 : Int32)), (.int p1)])) (fun t k => XS.bipush X1.here hx rfl (hb hby d1_19) k) ?_
    refine own_go (W1 := T1.setTop (mkF m 22 #[.val (.ref a1), .val (.int p1)] [(.int (p1 + (32 : Int32)))])) (fun t k => XS.iadd X1.here hx rfl (hb hby d1_21) rfl k) ?_
    refine own_go (W1 := T1.setTop (mkF m 29 #[.val (.ref a1), .val (.int p1)] [(.int (p1 + (32 : Int32)))])) (fun t k => XS.goto X1.here hx rfl (pc0 := 22) (pc' := 29) rfl (hb hby d1_22) (by decide) (by decide) k) ?_
    exact own_retI X1 hx Bd.returns (hb hby d1_29) hlk (by decide) (by decide) ⟨by rw [show own_chA p1 = _ from if_pos hc15_1], N0, e1⟩
  · skip
    refine own_go (W1 := T1.setTop (mkF m 25 #[.val (.ref a1), .val (.int p1)] [])) (fun t k => XS.icmpYes X1.here hx rfl (pc0 := 15) (pc' := 25) rfl (hb hby d1_15) rfl (flt (show ¬ (p1 < (64 : Int32)) from hc15_1)).2.1 (by decide) (by decide) k) ?_
    refine own_go (W1 := T1.setTop (mkF m 26 #[.val (.ref a1), .val (.int p1)] [(.int p1)])) (fun t k => XS.iloadN X1.here hx rfl (hb hby d1_25) rfl  k) ?_
    refine own_go (W1 := T1.setTop (mkF m 28 #[.val (.ref a1), .val (.int p1)] [(.int (64 : Int32)), (.int p1)])) (fun t k => XS.bipush X1.here hx rfl (hb hby d1_26) k) ?_
    refine own_go (W1 := T1.setTop (mkF m 29 #[.val (.ref a1), .val (.int p1)] [(.int (p1 - (64 : Int32)))])) (fun t k => XS.isub X1.here hx rfl (hb hby d1_28) rfl k) ?_
    exact own_retI X1 hx Bd.returns (hb hby d1_29) hlk (by decide) (by decide) ⟨by rw [show own_chA p1 = _ from if_neg hc15_1], N0, e1⟩
theorem d1_7 : decode prog_15_method_11_code 7 = .ok (.iload_n 1, 1) := by decide +kernel
theorem d1_8 : decode prog_15_method_11_code 8 = .ok (.bipush 32, 2) := by decide +kernel
theorem d1_10 : decode prog_15_method_11_code 10 = .ok (.iadd, 1) := by decide +kernel
theorem d1_11 : decode prog_15_method_11_code 11 = .ok (.ireturn, 1) := by decide +kernel
theorem ef_rm1B (m : MethodId) (x0 : Addr) (x1 : Int32)  : entryFrame m #[(.ref x0), (.int x1)] 2 = mkF m 0 #[.val (.ref x0), .val (.int x1)] [] := by first | (simp [entryFrame, mkF, argsToLocals, Value.category]; done) | rfl
set_option maxRecDepth 65536 in
set_option maxHeartbeats 40000000 in
theorem rm1B (l : Launch) (Z : State) (a0 : Array Value) (hw : ∀ d ∈ tables_1, d.before a0 Z = true) (ws : List Jvm.Cond) (sB : Addr) (p1 : Int32) (h0 : Heap) (n0 : Nat) (Z0 : n0 ≤ h0.size) (S_B : Sta Z h0 "com/example/quietzone/quietzone/code128/CodeSet" "B" "Lcom/example/quietzone/quietzone/code128/CodeSet;" (.ref sB))  :
    MetFree l (⟨"com/example/quietzone/quietzone/code128/CodeSet", "characterOf", "(I)I"⟩ : MethodName) (head1 (Jvm.Cond.code (⟨"com/example/quietzone/quietzone/code128/CodeSet", "characterOf", "(I)I"⟩ : MethodName) prog_15_method_11_code 2 (some .int) :: ws) ({ frames := 0, cells := 0, slots := 0, locals := 0 } : Room)) (fun a U => a = #[(.ref sB), (.int p1)] ∧ Z.Warmed39 U.vm ∧ U.heap = h0) (fun _ _ _ _ _ => True) (fun _ U o U' => ∃ v L, o = .returned v ∧ own_Q (p1 + 32) h0 n0 v U'.heap L ∧ FrameEnd U o U' L ({ frames := 0, cells := 0, slots := 0, locals := 0 } : Room).cells ({ frames := 0, cells := 0, slots := 0, locals := 0 } : Room).slots) := by
  refine MetFree.of_bodySF (plainFor_of_name own_pn_com_example_quietzone_quietzone_code128_CodeSet) hisR ?_
  intro p e s m args below meth c s₁ Bd hml0 hP hK
  obtain ⟨rfl, hZ, hh⟩ := hP
  have hx := Bd.exec
  have hby := Bd.bytes
  have hlk := BodyLoose.notSynchronized Bd
  have hml : c.maxLocals = 2 := hml0
  have hown : s.vm.findClass "com/example/quietzone/quietzone/code128/CodeSet" = some m.cls := findClass_of_methodNamed Bd.named
  have hnm := (name_of_methodNamed Bd.named Bd.method).1
  have X0 : Stand p l e ({ frames := 0, cells := 0, slots := 0, locals := 0 } : Room) s m #[(.ref sB), (.int p1)] below meth c s₁ [] 0 0 := Stand.of_body Bd
  have e0 : s₁.heap = h0 := by rw [← hh, Bd.state]; rfl
  have N0 := Fr.nil n0
  show own_Ends p e below s (own_Q (p1 + 32) h0 n0) 0 0 (s₁.setTop (entryFrame m #[(.ref sB), (.int p1)] 2))
  refine own_go (W1 := s₁.setTop (mkF m 0 #[.val (.ref sB), .val (.int p1)] [])) (fun t k => castTop (ef_rm1B m sB p1 ) k) ?_
  refine own_go (W1 := s₁.setTop (mkF m 1 #[.val (.ref sB), .val (.int p1)] [(.ref sB)])) (fun t k => XS.aloadN X0.here hx rfl (hb hby d1_0) rfl rfl  k) ?_
  obtain ⟨T1, X1, e1, st1⟩ := getS2 X0 hx hZ hown (host := "") (Or.inl (hw _ (List.mem_of_getElem? (i := 9) rfl))) Via.refl e0 S_B (g := (mkF m 1 #[.val (.ref sB), .val (.int p1)] [(.ref sB)])) rfl (hb hby d1_1)
  refine own_go (W1 := T1.setTop (mkF m 4 #[.val (.ref sB), .val (.int p1)] [(.ref sB), (.ref sB)])) (st1) ?_
  refine own_go (W1 := T1.setTop (mkF m 7 #[.val (.ref sB), .val (.int p1)] [])) (fun t k => Jvm.RoadKit.acmp (g := (mkF m 4 #[.val (.ref sB), .val (.int p1)] [(.ref sB), (.ref sB)])) X1 hx rfl rfl rfl (pc0 := 4) (pc' := 7) (same := true) rfl (hb hby d1_4) rfl (decide_eq_true rfl) (by decide) (by decide) k) ?_
  refine own_go (W1 := T1.setTop (mkF m 8 #[.val (.ref sB), .val (.int p1)] [(.int p1)])) (fun t k => XS.iloadN X1.here hx rfl (hb hby d1_7) rfl  k) ?_
  refine own_go (W1 := T1.setTop (mkF m 10 #[.val (.ref sB), .val (.int p1)] [(.int (32 : Int32)), (.int p1)])) (fun t k => XS.bipush X1.here hx rfl (hb hby d1_8) k) ?_
  refine own_go (W1 := T1.setTop (mkF m 11 #[.val (.ref sB), .val (.int p1)] [(.int (p1 + (32 : Int32)))])) (fun t k => XS.iadd X1.here hx rfl (hb hby d1_10) rfl k) ?_
  exact own_retI X1 hx Bd.returns (hb hby d1_11) hlk (by decide) (by decide) ⟨rfl, N0, e1⟩
theorem d2_0 : decode prog_15_method_8_code 0 = .ok (.aload_n 1, 1) := by decide +kernel
theorem d2_1 : decode prog_15_method_8_code 1 = .ok (.iload_n 2, 1) := by decide +kernel
theorem d2_2 : decode prog_15_method_8_code 2 = .ok (.iaload, 1) := by decide +kernel
theorem d2_3 : decode prog_15_method_8_code 3 = .ok (.iconst (-1), 1) := by decide +kernel
theorem d2_4 : decode prog_15_method_8_code 4 = .ok (.if_icmp .ne 5, 3) := by decide +kernel
theorem d2_9 : decode prog_15_method_8_code 9 = .ok (.aload_n 1, 1) := by decide +kernel
theorem d2_10 : decode prog_15_method_8_code 10 = .ok (.iload_n 2, 1) := by decide +kernel
theorem d2_11 : decode prog_15_method_8_code 11 = .ok (.iaload, 1) := by decide +kernel
theorem d2_12 : decode prog_15_method_8_code 12 = .ok (.sipush 128, 3) := by decide +kernel
theorem d2_15 : decode prog_15_method_8_code 15 = .ok (.irem, 1) := by decide +kernel
theorem d2_16 : decode prog_15_method_8_code 16 = .ok (.istore_n 3, 1) := by decide +kernel
theorem d2_17 : decode prog_15_method_8_code 17 = .ok (.aload_n 0, 1) := by decide +kernel
theorem d2_18 : decode prog_15_method_8_code 18 = .ok (.invokevirtual 53, 3) := by decide +kernel
theorem own_pd2 : parseMethodDescriptor "()I" = some ⟨[], some .int⟩ := by decide +kernel
theorem d2_21 : decode prog_15_method_8_code 21 = .ok (.lookupswitch 51 #[(0, 27), (1, 39)], 27) := by decide +kernel
theorem d2_48 : decode prog_15_method_8_code 48 = .ok (.iload_n 3, 1) := by decide +kernel
theorem d2_49 : decode prog_15_method_8_code 49 = .ok (.bipush 96, 2) := by decide +kernel
theorem d2_51 : decode prog_15_method_8_code 51 = .ok (.if_icmp .ge 7, 3) := by decide +kernel
theorem d2_54 : decode prog_15_method_8_code 54 = .ok (.iconst 1, 1) := by decide +kernel
theorem d2_55 : decode prog_15_method_8_code 55 = .ok (.goto 4, 3) := by decide +kernel
theorem d2_59 : decode prog_15_method_8_code 59 = .ok (.ireturn, 1) := by decide +kernel
theorem d2_58 : decode prog_15_method_8_code 58 = .ok (.iconst 0, 1) := by decide +kernel
theorem ef_rm2A (m : MethodId) (x0 : Addr) (x1 : Addr) (x2 : Int32)  : entryFrame m #[(.ref x0), (.ref x1), (.int x2)] 4 = mkF m 0 #[.val (.ref x0), .val (.ref x1), .val (.int x2), .unset] [] := by first | (simp [entryFrame, mkF, argsToLocals, Value.category]; done) | rfl
set_option maxRecDepth 65536 in
set_option maxHeartbeats 40000000 in
theorem rm2A (l : Launch) (Z : State) (a0 : Array Value) (hw : ∀ d ∈ tables_1, d.before a0 Z = true) (ws : List Jvm.Cond) (a1 u : Addr) (ku : ClassId) (x : Int32) (h0 : Heap) (n0 : Nat) (Z0 : n0 ≤ h0.size) (E_a1 : Exa Z h0 a1 "com/example/quietzone/quietzone/code128/CodeSet") (F_ord : Fld Z h0 a1 "java/lang/Enum" "ordinal" "I" (.int 0)) (V_u : Arv Z h0 u ku .int 1 [(.int x)] (.int 0)) (hx1 : ¬ x = -1) :
    MetFree l (⟨"com/example/quietzone/quietzone/code128/CodeSet", "carries", "([II)Z"⟩ : MethodName) (head1 (Jvm.Cond.code (⟨"com/example/quietzone/quietzone/code128/CodeSet", "carries", "([II)Z"⟩ : MethodName) prog_15_method_8_code 4 (some .boolean) :: ws) ({ frames := 1, cells := 0, slots := 0, locals := 12 } : Room)) (fun a U => a = #[(.ref a1), (.ref u), (.int (0 : Int32))] ∧ Z.Warmed39 U.vm ∧ U.heap = h0) (fun _ _ _ _ _ => True) (fun _ U o U' => ∃ v L, o = .returned v ∧ own_Q (own_b2i (x % 128 < 96)) h0 n0 v U'.heap L ∧ FrameEnd U o U' L ({ frames := 1, cells := 0, slots := 0, locals := 12 } : Room).cells ({ frames := 1, cells := 0, slots := 0, locals := 12 } : Room).slots) := by
  refine MetFree.of_bodySF (plainFor_of_name own_pn_com_example_quietzone_quietzone_code128_CodeSet) hisR ?_
  intro p e s m args below meth c s₁ Bd hml0 hP hK
  obtain ⟨rfl, hZ, hh⟩ := hP
  have hx := Bd.exec
  have hby := Bd.bytes
  have hlk := BodyLoose.notSynchronized Bd
  have hml : c.maxLocals = 4 := hml0
  have hown : s.vm.findClass "com/example/quietzone/quietzone/code128/CodeSet" = some m.cls := findClass_of_methodNamed Bd.named
  have hnm := (name_of_methodNamed Bd.named Bd.method).1
  have X0 : Stand p l e ({ frames := 1, cells := 0, slots := 0, locals := 12 } : Room) s m #[(.ref a1), (.ref u), (.int (0 : Int32))] below meth c s₁ [] 0 0 := Stand.of_body Bd
  have e0 : s₁.heap = h0 := by rw [← hh, Bd.state]; rfl
  have N0 := Fr.nil n0
  show own_Ends p e below s (own_Q (own_b2i (x % 128 < 96)) h0 n0) 0 0 (s₁.setTop (entryFrame m #[(.ref a1), (.ref u), (.int (0 : Int32))] 4))
  refine own_go (W1 := s₁.setTop (mkF m 0 #[.val (.ref a1), .val (.ref u), .val (.int (0 : Int32)), .unset] [])) (fun t k => castTop (ef_rm2A m a1 u (0 : Int32) ) k) ?_
  refine own_go (W1 := s₁.setTop (mkF m 1 #[.val (.ref a1), .val (.ref u), .val (.int (0 : Int32)), .unset] [(.ref u)])) (fun t k => XS.aloadN X0.here hx rfl (hb hby d2_0) rfl rfl  k) ?_
  refine own_go (W1 := s₁.setTop (mkF m 2 #[.val (.ref a1), .val (.ref u), .val (.int (0 : Int32)), .unset] [(.int (0 : Int32)), (.ref u)])) (fun t k => XS.iloadN X0.here hx rfl (hb hby d2_1) rfl  k) ?_
  obtain ⟨cl1, Ar1, q1, S1, M1, H1, G1⟩ := id V_u
  have hin1 : ¬ ((0 : Int32) < 0 ∨ cl1.slots.size ≤ ((0 : Int32)).toNatClampNeg) := inb_of S1 ⟨by decide, by decide⟩
  have hat1 : cl1.slots[((0 : Int32)).toNatClampNeg]? = some (.int x) := Has.at H1 hin1 rfl
  refine own_go (W1 := s₁.setTop (mkF m 3 #[.val (.ref a1), .val (.ref u), .val (.int (0 : Int32)), .unset] [(.int x)])) (X0.iaload hx (j := (0 : Int32)) (v := (.int x)) (by rw [e0]; exact Ar1.1) (State.isArrayOf_alike hZ.alike Ar1.2.1) Ar1.2.2 hin1 hat1 (g := (mkF m 2 #[.val (.ref a1), .val (.ref u), .val (.int (0 : Int32)), .unset] [(.int (0 : Int32)), (.ref u)])) rfl rfl (hb hby d2_2)) ?_
  refine own_go (W1 := s₁.setTop (mkF m 4 #[.val (.ref a1), .val (.ref u), .val (.int (0 : Int32)), .unset] [(.int (-1 : Int32)), (.int x)])) (fun t k => XS.iconst X0.here hx rfl (hb hby d2_3) k) ?_
  refine own_go (W1 := s₁.setTop (mkF m 9 #[.val (.ref a1), .val (.ref u), .val (.int (0 : Int32)), .unset] [])) (fun t k => XS.icmpYes X0.here hx rfl (pc0 := 4) (pc' := 9) rfl (hb hby d2_4) rfl (feq (show ¬ (x = (-1 : Int32)) from hx1)).2 (by decide) (by decide) k) ?_
  refine own_go (W1 := s₁.setTop (mkF m 10 #[.val (.ref a1), .val (.ref u), .val (.int (0 : Int32)), .unset] [(.ref u)])) (fun t k => XS.aloadN X0.here hx rfl (hb hby d2_9) rfl rfl  k) ?_
  refine own_go (W1 := s₁.setTop (mkF m 11 #[.val (.ref a1), .val (.ref u), .val (.int (0 : Int32)), .unset] [(.int (0 : Int32)), (.ref u)])) (fun t k => XS.iloadN X0.here hx rfl (hb hby d2_10) rfl  k) ?_
  obtain ⟨cl2, Ar2, q2, S2, M2, H2, G2⟩ := id V_u
  have hin2 : ¬ ((0 : Int32) < 0 ∨ cl2.slots.size ≤ ((0 : Int32)).toNatClampNeg) := inb_of S2 ⟨by decide, by decide⟩
  have hat2 : cl2.slots[((0 : Int32)).toNatClampNeg]? = some (.int x) := Has.at H2 hin2 rfl
  refine own_go (W1 := s₁.setTop (mkF m 12 #[.val (.ref a1), .val (.ref u), .val (.int (0 : Int32)), .unset] [(.int x)])) (X0.iaload hx (j := (0 : Int32)) (v := (.int x)) (by rw [e0]; exact Ar2.1) (State.isArrayOf_alike hZ.alike Ar2.2.1) Ar2.2.2 hin2 hat2 (g := (mkF m 11 #[.val (.ref a1), .val (.ref u), .val (.int (0 : Int32)), .unset] [(.int (0 : Int32)), (.ref u)])) rfl rfl (hb hby d2_11)) ?_
  refine own_go (W1 := s₁.setTop (mkF m 15 #[.val (.ref a1), .val (.ref u), .val (.int (0 : Int32)), .unset] [(.int (128 : Int32)), (.int x)])) (fun t k => XS.sipush X0.here hx rfl (hb hby d2_12) k) ?_
  refine own_go (W1 := s₁.setTop (mkF m 16 #[.val (.ref a1), .val (.ref u), .val (.int (0 : Int32)), .unset] [(.int (x % (128 : Int32)))])) (fun t k => iremM X0 hx rfl (hb hby d2_15) rfl (by decide) k) ?_
  refine own_go (W1 := s₁.setTop (mkF m 17 #[.val (.ref a1), .val (.ref u), .val (.int (0 : Int32)), .val (.int (x % (128 : Int32)))] [])) (fun t k => XS.istoreN X0.here hx rfl (hb hby d2_16) rfl (l' := #[.val (.ref a1), .val (.ref u), .val (.int (0 : Int32)), .val (.int (x % (128 : Int32)))]) rfl k) ?_
  refine own_go (W1 := s₁.setTop (mkF m 18 #[.val (.ref a1), .val (.ref u), .val (.int (0 : Int32)), .val (.int (x % (128 : Int32)))] [(.ref a1)])) (fun t k => XS.aloadN X0.here hx rfl (hb hby d2_17) rfl rfl  k) ?_
  obtain ⟨cq3, kq3, q3a, q3b, q3c⟩ := isOf hZ e0 E_a1
  obtain ⟨_, _, ⟨T3, L3, k3, n3⟩, -, X3, ⟨Lc3, hQ3, l3, y3, z3⟩, st3⟩ := X0.virtualBackUp hx (x := (⟨"com/example/quietzone/quietzone/code128/CodeSet", "ordinal", "()I"⟩ : MethodName)) (y := (⟨"java/lang/Enum", "ordinal", "()I"⟩ : MethodName)) hown (mvT hZ (hw _ (List.mem_of_getElem? (i := 17) rfl))) (mvT hZ (hw _ (List.mem_of_getElem? (i := 18) rfl))) (mvT hZ (hw _ (List.mem_of_getElem? (i := 19) rfl))) (by decide) (mvT hZ (hw _ (List.mem_of_getElem? (i := 21) rfl))) (mvT hZ (hw _ (List.mem_of_getElem? (i := 20) rfl))) (backOf (W := 0) (rm3 l Z a0 hw [] a1 (0 : Int32) h0 n0 Z0 F_ord) hZ (hw _ (List.mem_of_getElem? (i := 23) rfl)) (hw _ (List.mem_of_getElem? (i := 22) rfl)) (by decide) (by decide)) q3a q3c (g := (mkF m 18 #[.val (.ref a1), .val (.ref u), .val (.int (0 : Int32)), .val (.int (x % (128 : Int32)))] [(.ref a1)])) rfl (by rw [hml]; rfl) (Steps.refl _) (argsL := []) (rest := []) (lenOf own_pd2 rfl) rfl (by show 2 * 0 + _ ≤ _; exact Nat.le_of_eq rfl) (hb hby d2_18) (fun _ _ => ⟨rfl, e0, (by decide : 0 + 0 ≤ _), (by decide : 0 + 0 ≤ _)⟩)
  dsimp only [Pt.U, Pt.locs, Pt.cells, Pt.slots] at X3 l3 y3 z3 st3 hQ3
  subst l3 y3 z3
  obtain ⟨rfl, Nq3, eh3⟩ := hQ3
  have N3 := Fr.app N0 Nq3
  refine own_tr (W1 := T3.setTop (mkF m 21 #[.val (.ref a1), .val (.ref u), .val (.int (0 : Int32)), .val (.int (x % (128 : Int32)))] [(.int (0 : Int32))])) st3 ?_
  refine own_go (W1 := T3.setTop (mkF m 48 #[.val (.ref a1), .val (.ref u), .val (.int (0 : Int32)), .val (.int (x % (128 : Int32)))] [])) (X3.lookupswitchHit hx (g := (mkF m 21 #[.val (.ref a1), .val (.ref u), .val (.int (0 : Int32)), .val (.int (x % (128 : Int32)))] [(.int (0 : Int32))])) rfl (k := (0 : Int32)) (rest := []) rfl (hb hby d2_21) (by decide) (a := 0) (off := 27) (by decide) (by show (0 : Int) ≤ ((21 : Nat) : Int) + 27; decide)) ?_
  refine own_go (W1 := T3.setTop (mkF m 49 #[.val (.ref a1), .val (.ref u), .val (.int (0 : Int32)), .val (.int (x % (128 : Int32)))] [(.int (x % (128 : Int32)))])) (fun t k => XS.iloadN X3.here hx rfl (hb hby d2_48) rfl  k) ?_
  refine own_go (W1 := T3.setTop (mkF m 51 #[.val (.ref a1), .val (.ref u), .val (.int (0 : Int32)), .val (.int (x % (128 : Int32)))] [(.int (96 : Int32)), (.int (x % (128 : Int32)))])) (fun t k => XS.bipush X3.here hx rfl (hb hby d2_49) k) ?_
  by_cases hc51_1 : (x % (128 : Int32)) < (96 : Int32)
  · skip
    refine own_go (W1 := T3.setTop (mkF m 54 #[.val (.ref a1), .val (.ref u), .val (.int (0 : Int32)), .val (.int (x % (128 : Int32)))] [])) (fun t k => XS.icmpNo X3.here hx rfl (hb hby d2_51) rfl (tlt (show (x % (128 : Int32)) < (96 : Int32) from hc51_1)).2.1 k) ?_
    refine own_go (W1 := T3.setTop (mkF m 55 #[.val (.ref a1), .val (.ref u), .val (.int (0 : Int32)), .val (.int (x % (128 : Int32)))] [(.int (1 : Int32))])) (fun t k => XS.iconst X3.here hx rfl (hb hby d2_54) k) ?_
    refine own_go (W1 := T3.setTop (mkF m 59 #[.val (.ref a1), .val (.ref u), .val (.int (0 : Int32)), .val (.int (x % (128 : Int32)))] [(.int (1 : Int32))])) (fun t k => XS.goto X3.here hx rfl (pc0 := 55) (pc' := 59) rfl (hb hby d2_55) (by decide) (by decide) k) ?_
    exact own_retN X3 hx (t := .boolean) Bd.returns (by simp) (hb hby d2_59) hlk (by decide) (by decide) ⟨by rw [own_b1 (hc51_1)]; rfl, N3, eh3⟩
  · skip
    refine own_go (W1 := T3.setTop (mkF m 58 #[.val (.ref a1), .val (.ref u), .val (.int (0 : Int32)), .val (.int (x % (128 : Int32)))] [])) (fun t k => XS.icmpYes X3.here hx rfl (pc0 := 51) (pc' := 58) rfl (hb hby d2_51) rfl (flt (show ¬ ((x % (128 : Int32)) < (96 : Int32)) from hc51_1)).2.1 (by decide) (by decide) k) ?_
    refine own_go (W1 := T3.setTop (mkF m 59 #[.val (.ref a1), .val (.ref u), .val (.int (0 : Int32)), .val (.int (x % (128 : Int32)))] [(.int (0 : Int32))])) (fun t k => XS.iconst X3.here hx rfl (hb hby d2_58) k) ?_
    exact own_retN X3 hx (t := .boolean) Bd.returns (by simp) (hb hby d2_59) hlk (by decide) (by decide) ⟨by rw [own_b0 (hc51_1)]; rfl, N3, eh3⟩
theorem d2_60 : decode prog_15_method_8_code 60 = .ok (.iload_n 3, 1) := by decide +kernel
theorem d2_61 : decode prog_15_method_8_code 61 = .ok (.bipush 32, 2) := by decide +kernel
theorem d2_63 : decode prog_15_method_8_code 63 = .ok (.if_icmp .lt 7, 3) := by decide +kernel
theorem d2_70 : decode prog_15_method_8_code 70 = .ok (.iconst 0, 1) := by decide +kernel
theorem d2_71 : decode prog_15_method_8_code 71 = .ok (.ireturn, 1) := by decide +kernel
theorem d2_66 : decode prog_15_method_8_code 66 = .ok (.iconst 1, 1) := by decide +kernel
theorem d2_67 : decode prog_15_method_8_code 67 = .ok (.goto 4, 3) := by decide +kernel
theorem ef_rm2B (m : MethodId) (x0 : Addr) (x1 : Addr) (x2 : Int32)  : entryFrame m #[(.ref x0), (.ref x1), (.int x2)] 4 = mkF m 0 #[.val (.ref x0), .val (.ref x1), .val (.int x2), .unset] [] := by first | (simp [entryFrame, mkF, argsToLocals, Value.category]; done) | rfl
set_option maxRecDepth 65536 in
set_option maxHeartbeats 40000000 in
theorem rm2B (l : Launch) (Z : State) (a0 : Array Value) (hw : ∀ d ∈ tables_1, d.before a0 Z = true) (ws : List Jvm.Cond) (a1 u : Addr) (ku : ClassId) (x : Int32) (h0 : Heap) (n0 : Nat) (Z0 : n0 ≤ h0.size) (E_a1 : Exa Z h0 a1 "com/example/quietzone/quietzone/code128/CodeSet") (F_ord : Fld Z h0 a1 "java/lang/Enum" "ordinal" "I" (.int 1)) (V_u : Arv Z h0 u ku .int 1 [(.int x)] (.int 0)) (hx1 : ¬ x = -1) :
    MetFree l (⟨"com/example/quietzone/quietzone/code128/CodeSet", "carries", "([II)Z"⟩ : MethodName) (head1 (Jvm.Cond.code (⟨"com/example/quietzone/quietzone/code128/CodeSet", "carries", "([II)Z"⟩ : MethodName) prog_15_method_8_code 4 (some .boolean) :: ws) ({ frames := 1, cells := 0, slots := 0, locals := 12 } : Room)) (fun a U => a = #[(.ref a1), (.ref u), (.int (0 : Int32))] ∧ Z.Warmed39 U.vm ∧ U.heap = h0) (fun _ _ _ _ _ => True) (fun _ U o U' => ∃ v L, o = .returned v ∧ own_Q (own_b2i (¬ x % 128 < 32)) h0 n0 v U'.heap L ∧ FrameEnd U o U' L ({ frames := 1, cells := 0, slots := 0, locals := 12 } : Room).cells ({ frames := 1, cells := 0, slots := 0, locals := 12 } : Room).slots) := by
  refine MetFree.of_bodySF (plainFor_of_name own_pn_com_example_quietzone_quietzone_code128_CodeSet) hisR ?_
  intro p e s m args below meth c s₁ Bd hml0 hP hK
  obtain ⟨rfl, hZ, hh⟩ := hP
  have hx := Bd.exec
  have hby := Bd.bytes
  have hlk := BodyLoose.notSynchronized Bd
  have hml : c.maxLocals = 4 := hml0
  have hown : s.vm.findClass "com/example/quietzone/quietzone/code128/CodeSet" = some m.cls := findClass_of_methodNamed Bd.named
  have hnm := (name_of_methodNamed Bd.named Bd.method).1
  have X0 : Stand p l e ({ frames := 1, cells := 0, slots := 0, locals := 12 } : Room) s m #[(.ref a1), (.ref u), (.int (0 : Int32))] below meth c s₁ [] 0 0 := Stand.of_body Bd
  have e0 : s₁.heap = h0 := by rw [← hh, Bd.state]; rfl
  have N0 := Fr.nil n0
  show own_Ends p e below s (own_Q (own_b2i (¬ x % 128 < 32)) h0 n0) 0 0 (s₁.setTop (entryFrame m #[(.ref a1), (.ref u), (.int (0 : Int32))] 4))
  refine own_go (W1 := s₁.setTop (mkF m 0 #[.val (.ref a1), .val (.ref u), .val (.int (0 : Int32)), .unset] [])) (fun t k => castTop (ef_rm2B m a1 u (0 : Int32) ) k) ?_
  refine own_go (W1 := s₁.setTop (mkF m 1 #[.val (.ref a1), .val (.ref u), .val (.int (0 : Int32)), .unset] [(.ref u)])) (fun t k => XS.aloadN X0.here hx rfl (hb hby d2_0) rfl rfl  k) ?_
  refine own_go (W1 := s₁.setTop (mkF m 2 #[.val (.ref a1), .val (.ref u), .val (.int (0 : Int32)), .unset] [(.int (0 : Int32)), (.ref u)])) (fun t k => XS.iloadN X0.here hx rfl (hb hby d2_1) rfl  k) ?_
  obtain ⟨cl1, Ar1, q1, S1, M1, H1, G1⟩ := id V_u
  have hin1 : ¬ ((0 : Int32) < 0 ∨ cl1.slots.size ≤ ((0 : Int32)).toNatClampNeg) := inb_of S1 ⟨by decide, by decide⟩
  have hat1 : cl1.slots[((0 : Int32)).toNatClampNeg]? = some (.int x) := Has.at H1 hin1 rfl
  refine own_go (W1 := s₁.setTop (mkF m 3 #[.val (.ref a1), .val (.ref u), .val (.int (0 : Int32)), .unset] [(.int x)])) (X0.iaload hx (j := (0 : Int32)) (v := (.int x)) (by rw [e0]; exact Ar1.1) (State.isArrayOf_alike hZ.alike Ar1.2.1) Ar1.2.2 hin1 hat1 (g := (mkF m 2 #[.val (.ref a1), .val (.ref u), .val (.int (0 : Int32)), .unset] [(.int (0 : Int32)), (.ref u)])) rfl rfl (hb hby d2_2)) ?_
  refine own_go (W1 := s₁.setTop (mkF m 4 #[.val (.ref a1), .val (.ref u), .val (.int (0 : Int32)), .unset] [(.int (-1 : Int32)), (.int x)])) (fun t k => XS.iconst X0.here hx rfl (hb hby d2_3) k) ?_
  refine own_go (W1 := s₁.setTop (mkF m 9 #[.val (.ref a1), .val (.ref u), .val (.int (0 : Int32)), .unset] [])) (fun t k => XS.icmpYes X0.here hx rfl (pc0 := 4) (pc' := 9) rfl (hb hby d2_4) rfl (feq (show ¬ (x = (-1 : Int32)) from hx1)).2 (by decide) (by decide) k) ?_
  refine own_go (W1 := s₁.setTop (mkF m 10 #[.val (.ref a1), .val (.ref u), .val (.int (0 : Int32)), .unset] [(.ref u)])) (fun t k => XS.aloadN X0.here hx rfl (hb hby d2_9) rfl rfl  k) ?_
  refine own_go (W1 := s₁.setTop (mkF m 11 #[.val (.ref a1), .val (.ref u), .val (.int (0 : Int32)), .unset] [(.int (0 : Int32)), (.ref u)])) (fun t k => XS.iloadN X0.here hx rfl (hb hby d2_10) rfl  k) ?_
  obtain ⟨cl2, Ar2, q2, S2, M2, H2, G2⟩ := id V_u
  have hin2 : ¬ ((0 : Int32) < 0 ∨ cl2.slots.size ≤ ((0 : Int32)).toNatClampNeg) := inb_of S2 ⟨by decide, by decide⟩
  have hat2 : cl2.slots[((0 : Int32)).toNatClampNeg]? = some (.int x) := Has.at H2 hin2 rfl
  refine own_go (W1 := s₁.setTop (mkF m 12 #[.val (.ref a1), .val (.ref u), .val (.int (0 : Int32)), .unset] [(.int x)])) (X0.iaload hx (j := (0 : Int32)) (v := (.int x)) (by rw [e0]; exact Ar2.1) (State.isArrayOf_alike hZ.alike Ar2.2.1) Ar2.2.2 hin2 hat2 (g := (mkF m 11 #[.val (.ref a1), .val (.ref u), .val (.int (0 : Int32)), .unset] [(.int (0 : Int32)), (.ref u)])) rfl rfl (hb hby d2_11)) ?_
  refine own_go (W1 := s₁.setTop (mkF m 15 #[.val (.ref a1), .val (.ref u), .val (.int (0 : Int32)), .unset] [(.int (128 : Int32)), (.int x)])) (fun t k => XS.sipush X0.here hx rfl (hb hby d2_12) k) ?_
  refine own_go (W1 := s₁.setTop (mkF m 16 #[.val (.ref a1), .val (.ref u), .val (.int (0 : Int32)), .unset] [(.int (x % (128 : Int32)))])) (fun t k => iremM X0 hx rfl (hb hby d2_15) rfl (by decide) k) ?_
  refine own_go (W1 := s₁.setTop (mkF m 17 #[.val (.ref a1), .val (.ref u), .val (.int (0 : Int32)), .val (.int (x % (128 : Int32)))] [])) (fun t k => XS.istoreN X0.here hx rfl (hb hby d2_16) rfl (l' := #[.val (.ref a1), .val (.ref u), .val (.int (0 : Int32)), .val (.int (x % (128 : Int32)))]) rfl k) ?_
  refine own_go (W1 := s₁.setTop (mkF m 18 #[.val (.ref a1), .val (.ref u), .val (.int (0 : Int32)), .val (.int (x % (128 : Int32)))] [(.ref a1)])) (fun t k => XS.aloadN X0.here hx rfl (hb hby d2_17) rfl rfl  k) ?_
  obtain ⟨cq3, kq3, q3a, q3b, q3c⟩ := isOf hZ e0 E_a1
  obtain ⟨_, _, ⟨T3, L3, k3, n3⟩, -, X3, ⟨Lc3, hQ3, l3, y3, z3⟩, st3⟩ := X0.virtualBackUp hx (x := (⟨"com/example/quietzone/quietzone/code128/CodeSet", "ordinal", "()I"⟩ : MethodName)) (y := (⟨"java/lang/Enum", "ordinal", "()I"⟩ : MethodName)) hown (mvT hZ (hw _ (List.mem_of_getElem? (i := 17) rfl))) (mvT hZ (hw _ (List.mem_of_getElem? (i := 18) rfl))) (mvT hZ (hw _ (List.mem_of_getElem? (i := 19) rfl))) (by decide) (mvT hZ (hw _ (List.mem_of_getElem? (i := 21) rfl))) (mvT hZ (hw _ (List.mem_of_getElem? (i := 20) rfl))) (backOf (W := 0) (rm3 l Z a0 hw [] a1 (1 : Int32) h0 n0 Z0 F_ord) hZ (hw _ (List.mem_of_getElem? (i := 23) rfl)) (hw _ (List.mem_of_getElem? (i := 22) rfl)) (by decide) (by decide)) q3a q3c (g := (mkF m 18 #[.val (.ref a1), .val (.ref u), .val (.int (0 : Int32)), .val (.int (x % (128 : Int32)))] [(.ref a1)])) rfl (by rw [hml]; rfl) (Steps.refl _) (argsL := []) (rest := []) (lenOf own_pd2 rfl) rfl (by show 2 * 0 + _ ≤ _; exact Nat.le_of_eq rfl) (hb hby d2_18) (fun _ _ => ⟨rfl, e0, (by decide : 0 + 0 ≤ _), (by decide : 0 + 0 ≤ _)⟩)
  dsimp only [Pt.U, Pt.locs, Pt.cells, Pt.slots] at X3 l3 y3 z3 st3 hQ3
  subst l3 y3 z3
  obtain ⟨rfl, Nq3, eh3⟩ := hQ3
  have N3 := Fr.app N0 Nq3
  refine own_tr (W1 := T3.setTop (mkF m 21 #[.val (.ref a1), .val (.ref u), .val (.int (0 : Int32)), .val (.int (x % (128 : Int32)))] [(.int (1 : Int32))])) st3 ?_
  refine own_go (W1 := T3.setTop (mkF m 60 #[.val (.ref a1), .val (.ref u), .val (.int (0 : Int32)), .val (.int (x % (128 : Int32)))] [])) (X3.lookupswitchHit hx (g := (mkF m 21 #[.val (.ref a1), .val (.ref u), .val (.int (0 : Int32)), .val (.int (x % (128 : Int32)))] [(.int (1 : Int32))])) rfl (k := (1 : Int32)) (rest := []) rfl (hb hby d2_21) (by decide) (a := 1) (off := 39) (by decide) (by show (0 : Int) ≤ ((21 : Nat) : Int) + 39; decide)) ?_
  refine own_go (W1 := T3.setTop (mkF m 61 #[.val (.ref a1), .val (.ref u), .val (.int (0 : Int32)), .val (.int (x % (128 : Int32)))] [(.int (x % (128 : Int32)))])) (fun t k => XS.iloadN X3.here hx rfl (hb hby d2_60) rfl  k) ?_
  refine own_go (W1 := T3.setTop (mkF m 63 #[.val (.ref a1), .val (.ref u), .val (.int (0 : Int32)), .val (.int (x % (128 : Int32)))] [(.int (32 : Int32)), (.int (x % (128 : Int32)))])) (fun t k => XS.bipush X3.here hx rfl (hb hby d2_61) k) ?_
  by_cases hc63_1 : (x % (128 : Int32)) < (32 : Int32)
  · skip
    refine own_go (W1 := T3.setTop (mkF m 70 #[.val (.ref a1), .val (.ref u), .val (.int (0 : Int32)), .val (.int (x % (128 : Int32)))] [])) (fun t k => XS.icmpYes X3.here hx rfl (pc0 := 63) (pc' := 70) rfl (hb hby d2_63) rfl (tlt (show (x % (128 : Int32)) < (32 : Int32) from hc63_1)).1 (by decide) (by decide) k) ?_
    refine own_go (W1 := T3.setTop (mkF m 71 #[.val (.ref a1), .val (.ref u), .val (.int (0 : Int32)), .val (.int (x % (128 : Int32)))] [(.int (0 : Int32))])) (fun t k => XS.iconst X3.here hx rfl (hb hby d2_70) k) ?_
    exact own_retN X3 hx (t := .boolean) Bd.returns (by simp) (hb hby d2_71) hlk (by decide) (by decide) ⟨by rw [own_b0 ((fun q => q hc63_1))]; rfl, N3, eh3⟩
  · skip
    refine own_go (W1 := T3.setTop (mkF m 66 #[.val (.ref a1), .val (.ref u), .val (.int (0 : Int32)), .val (.int (x % (128 : Int32)))] [])) (fun t k => XS.icmpNo X3.here hx rfl (hb hby d2_63) rfl (flt (show ¬ ((x % (128 : Int32)) < (32 : Int32)) from hc63_1)).1 k) ?_
    refine own_go (W1 := T3.setTop (mkF m 67 #[.val (.ref a1), .val (.ref u), .val (.int (0 : Int32)), .val (.int (x % (128 : Int32)))] [(.int (1 : Int32))])) (fun t k => XS.iconst X3.here hx rfl (hb hby d2_66) k) ?_
    refine own_go (W1 := T3.setTop (mkF m 71 #[.val (.ref a1), .val (.ref u), .val (.int (0 : Int32)), .val (.int (x % (128 : Int32)))] [(.int (1 : Int32))])) (fun t k => XS.goto X3.here hx rfl (pc0 := 67) (pc' := 71) rfl (hb hby d2_67) (by decide) (by decide) k) ?_
    exact own_retN X3 hx (t := .boolean) Bd.returns (by simp) (hb hby d2_71) hlk (by decide) (by decide) ⟨by rw [own_b1 (hc63_1)]; rfl, N3, eh3⟩
theorem d4_0 : decode prog_15_method_9_code 0 = .ok (.aload_n 1, 1) := by decide +kernel
theorem d4_1 : decode prog_15_method_9_code 1 = .ok (.iload_n 2, 1) := by decide +kernel
theorem d4_2 : decode prog_15_method_9_code 2 = .ok (.iaload, 1) := by decide +kernel
theorem d4_3 : decode prog_15_method_9_code 3 = .ok (.iconst (-1), 1) := by decide +kernel
theorem d4_4 : decode prog_15_method_9_code 4 = .ok (.if_icmp .ne 6, 3) := by decide +kernel
theorem d4_10 : decode prog_15_method_9_code 10 = .ok (.aload_n 1, 1) := by decide +kernel
theorem d4_11 : decode prog_15_method_9_code 11 = .ok (.iload_n 2, 1) := by decide +kernel
theorem d4_12 : decode prog_15_method_9_code 12 = .ok (.iaload, 1) := by decide +kernel
theorem d4_13 : decode prog_15_method_9_code 13 = .ok (.sipush 128, 3) := by decide +kernel
theorem d4_16 : decode prog_15_method_9_code 16 = .ok (.irem, 1) := by decide +kernel
theorem d4_17 : decode prog_15_method_9_code 17 = .ok (.istore_n 3, 1) := by decide +kernel
theorem d4_18 : decode prog_15_method_9_code 18 = .ok (.aload_n 0, 1) := by decide +kernel
theorem d4_19 : decode prog_15_method_9_code 19 = .ok (.invokevirtual 53, 3) := by decide +kernel
theorem d4_22 : decode prog_15_method_9_code 22 = .ok (.lookupswitch 49 #[(0, 26), (1, 44)], 26) := by decide +kernel
theorem d4_48 : decode prog_15_method_9_code 48 = .ok (.iload_n 3, 1) := by decide +kernel
theorem d4_49 : decode prog_15_method_9_code 49 = .ok (.bipush 32, 2) := by decide +kernel
theorem d4_51 : decode prog_15_method_9_code 51 = .ok (.if_icmp .ge 10, 3) := by decide +kernel
theorem d4_54 : decode prog_15_method_9_code 54 = .ok (.iload_n 3, 1) := by decide +kernel
theorem d4_55 : decode prog_15_method_9_code 55 = .ok (.bipush 64, 2) := by decide +kernel
theorem d4_57 : decode prog_15_method_9_code 57 = .ok (.iadd, 1) := by decide +kernel
theorem d4_58 : decode prog_15_method_9_code 58 = .ok (.goto 7, 3) := by decide +kernel
theorem d4_65 : decode prog_15_method_9_code 65 = .ok (.ireturn, 1) := by decide +kernel
theorem d4_61 : decode prog_15_method_9_code 61 = .ok (.iload_n 3, 1) := by decide +kernel
theorem d4_62 : decode prog_15_method_9_code 62 = .ok (.bipush 32, 2) := by decide +kernel
theorem d4_64 : decode prog_15_method_9_code 64 = .ok (.isub, 1) := by decide +kernel
theorem ef_rm4A (m : MethodId) (x0 : Addr) (x1 : Addr) (x2 : Int32)  : entryFrame m #[(.ref x0), (.ref x1), (.int x2)] 4 = mkF m 0 #[.val (.ref x0), .val (.ref x1), .val (.int x2), .unset] [] := by first | (simp [entryFrame, mkF, argsToLocals, Value.category]; done) | rfl
set_option maxRecDepth 65536 in
set_option maxHeartbeats 40000000 in
theorem rm4A (l : Launch) (Z : State) (a0 : Array Value) (hw : ∀ d ∈ tables_1, d.before a0 Z = true) (ws : List Jvm.Cond) (a1 u : Addr) (ku : ClassId) (x : Int32) (h0 : Heap) (n0 : Nat) (Z0 : n0 ≤ h0.size) (E_a1 : Exa Z h0 a1 "com/example/quietzone/quietzone/code128/CodeSet") (F_ord : Fld Z h0 a1 "java/lang/Enum" "ordinal" "I" (.int 0)) (V_u : Arv Z h0 u ku .int 1 [(.int x)] (.int 0)) (hx1 : ¬ x = -1) :
    MetFree l (⟨"com/example/quietzone/quietzone/code128/CodeSet", "valueAt", "([II)I"⟩ : MethodName) (head1 (Jvm.Cond.code (⟨"com/example/quietzone/quietzone/code128/CodeSet", "valueAt", "([II)I"⟩ : MethodName) prog_15_method_9_code 4 (some .int) :: ws) ({ frames := 1, cells := 0, slots := 0, locals := 12 } : Room)) (fun a U => a = #[(.ref a1), (.ref u), (.int (0 : Int32))] ∧ Z.Warmed39 U.vm ∧ U.heap = h0) (fun _ _ _ _ _ => True) (fun _ U o U' => ∃ v L, o = .returned v ∧ own_Q (own_vA x) h0 n0 v U'.heap L ∧ FrameEnd U o U' L ({ frames := 1, cells := 0, slots := 0, locals := 12 } : Room).cells ({ frames := 1, cells := 0, slots := 0, locals := 12 } : Room).slots) := by
  refine MetFree.of_bodySF (plainFor_of_name own_pn_com_example_quietzone_quietzone_code128_CodeSet) hisR ?_
  intro p e s m args below meth c s₁ Bd hml0 hP hK
  obtain ⟨rfl, hZ, hh⟩ := hP
  have hx := Bd.exec
  have hby := Bd.bytes
  have hlk := BodyLoose.notSynchronized Bd
  have hml : c.maxLocals = 4 := hml0
  have hown : s.vm.findClass "com/example/quietzone/quietzone/code128/CodeSet" = some m.cls := findClass_of_methodNamed Bd.named
  have hnm := (name_of_methodNamed Bd.named Bd.method).1
  have X0 : Stand p l e ({ frames := 1, cells := 0, slots := 0, locals := 12 } : Room) s m #[(.ref a1), (.ref u), (.int (0 : Int32))] below meth c s₁ [] 0 0 := Stand.of_body Bd
  have e0 : s₁.heap = h0 := by rw [← hh, Bd.state]; rfl
  have N0 := Fr.nil n0
  show own_Ends p e below s (own_Q (own_vA x) h0 n0) 0 0 (s₁.setTop (entryFrame m #[(.ref a1), (.ref u), (.int (0 : Int32))] 4))
  refine own_go (W1 := s₁.setTop (mkF m 0 #[.val (.ref a1), .val (.ref u), .val (.int (0 : Int32)), .unset] [])) (fun t k => castTop (ef_rm4A m a1 u (0 : Int32) ) k) ?_
  refine own_go (W1 := s₁.setTop (mkF m 1 #[.val (.ref a1), .val (.ref u), .val (.int (0 : Int32)), .unset] [(.ref u)])) (fun t k => XS.aloadN X0.here hx rfl (hb hby d4_0) rfl rfl  k) ?_
  refine own_go (W1 := s₁.setTop (mkF m 2 #[.val (.ref a1), .val (.ref u), .val (.int (0 : Int32)), .unset] [(.int (0 : Int32)), (.ref u)])) (fun t k => XS.iloadN X0.here hx rfl (hb hby d4_1) rfl  k) ?_
  obtain ⟨cl1, Ar1, q1, S1, M1, H1, G1⟩ := id V_u
  have hin1 : ¬ ((0 : Int32) < 0 ∨ cl1.slots.size ≤ ((0 : Int32)).toNatClampNeg) := inb_of S1 ⟨by decide, by decide⟩
  have hat1 : cl1.slots[((0 : Int32)).toNatClampNeg]? = some (.int x) := Has.at H1 hin1 rfl
  refine own_go (W1 := s₁.setTop (mkF m 3 #[.val (.ref a1), .val (.ref u), .val (.int (0 : Int32)), .unset] [(.int x)])) (X0.iaload hx (j := (0 : Int32)) (v := (.int x)) (by rw [e0]; exact Ar1.1) (State.isArrayOf_alike hZ.alike Ar1.2.1) Ar1.2.2 hin1 hat1 (g := (mkF m 2 #[.val (.ref a1), .val (.ref u), .val (.int (0 : Int32)), .unset] [(.int (0 : Int32)), (.ref u)])) rfl rfl (hb hby d4_2)) ?_
  refine own_go (W1 := s₁.setTop (mkF m 4 #[.val (.ref a1), .val (.ref u), .val (.int (0 : Int32)), .unset] [(.int (-1 : Int32)), (.int x)])) (fun t k => XS.iconst X0.here hx rfl (hb hby d4_3) k) ?_
  refine own_go (W1 := s₁.setTop (mkF m 10 #[.val (.ref a1), .val (.ref u), .val (.int (0 : Int32)), .unset] [])) (fun t k => XS.icmpYes X0.here hx rfl (pc0 := 4) (pc' := 10) rfl (hb hby d4_4) rfl (feq (show ¬ (x = (-1 : Int32)) from hx1)).2 (by decide) (by decide) k) ?_
  refine own_go (W1 := s₁.setTop (mkF m 11 #[.val (.ref a1), .val (.ref u), .val (.int (0 : Int32)), .unset] [(.ref u)])) (fun t k => XS.aloadN X0.here hx rfl (hb hby d4_10) rfl rfl  k) ?_
  refine own_go (W1 := s₁.setTop (mkF m 12 #[.val (.ref a1), .val (.ref u), .val (.int (0 : Int32)), .unset] [(.int (0 : Int32)), (.ref u)])) (fun t k => XS.iloadN X0.here hx rfl (hb hby d4_11) rfl  k) ?_
  obtain ⟨cl2, Ar2, q2, S2, M2, H2, G2⟩ := id V_u
  have hin2 : ¬ ((0 : Int32) < 0 ∨ cl2.slots.size ≤ ((0 : Int32)).toNatClampNeg) := inb_of S2 ⟨by decide, by decide⟩
  have hat2 : cl2.slots[((0 : Int32)).toNatClampNeg]? = some (.int x) := Has.at H2 hin2 rfl
  refine own_go (W1 := s₁.setTop (mkF m 13 #[.val (.ref a1), .val (.ref u), .val (.int (0 : Int32)), .unset] [(.int x)])) (X0.iaload hx (j := (0 : Int32)) (v := (.int x)) (by rw [e0]; exact Ar2.1) (State.isArrayOf_alike hZ.alike Ar2.2.1) Ar2.2.2 hin2 hat2 (g := (mkF m 12 #[.val (.ref a1), .val (.ref u), .val (.int (0 : Int32)), .unset] [(.int (0 : Int32)), (.ref u)])) rfl rfl (hb hby d4_12)) ?_
  refine own_go (W1 := s₁.setTop (mkF m 16 #[.val (.ref a1), .val (.ref u), .val (.int (0 : Int32)), .unset] [(.int (128 : Int32)), (.int x)])) (fun t k => XS.sipush X0.here hx rfl (hb hby d4_13) k) ?_
  refine own_go (W1 := s₁.setTop (mkF m 17 #[.val (.ref a1), .val (.ref u), .val (.int (0 : Int32)), .unset] [(.int (x % (128 : Int32)))])) (fun t k => iremM X0 hx rfl (hb hby d4_16) rfl (by decide) k) ?_
  refine own_go (W1 := s₁.setTop (mkF m 18 #[.val (.ref a1), .val (.ref u), .val (.int (0 : Int32)), .val (.int (x % (128 : Int32)))] [])) (fun t k => XS.istoreN X0.here hx rfl (hb hby d4_17) rfl (l' := #[.val (.ref a1), .val (.ref u), .val (.int (0 : Int32)), .val (.int (x % (128 : Int32)))]) rfl k) ?_
  refine own_go (W1 := s₁.setTop (mkF m 19 #[.val (.ref a1), .val (.ref u), .val (.int (0 : Int32)), .val (.int (x % (128 : Int32)))] [(.ref a1)])) (fun t k => XS.aloadN X0.here hx rfl (hb hby d4_18) rfl rfl  k) ?_
  obtain ⟨cq3, kq3, q3a, q3b, q3c⟩ := isOf hZ e0 E_a1
  obtain ⟨_, _, ⟨T3, L3, k3, n3⟩, -, X3, ⟨Lc3, hQ3, l3, y3, z3⟩, st3⟩ := X0.virtualBackUp hx (x := (⟨"com/example/quietzone/quietzone/code128/CodeSet", "ordinal", "()I"⟩ : MethodName)) (y := (⟨"java/lang/Enum", "ordinal", "()I"⟩ : MethodName)) hown (mvT hZ (hw _ (List.mem_of_getElem? (i := 17) rfl))) (mvT hZ (hw _ (List.mem_of_getElem? (i := 18) rfl))) (mvT hZ (hw _ (List.mem_of_getElem? (i := 19) rfl))) (by decide) (mvT hZ (hw _ (List.mem_of_getElem? (i := 21) rfl))) (mvT hZ (hw _ (List.mem_of_getElem? (i := 20) rfl))) (backOf (W := 0) (rm3 l Z a0 hw [] a1 (0 : Int32) h0 n0 Z0 F_ord) hZ (hw _ (List.mem_of_getElem? (i := 23) rfl)) (hw _ (List.mem_of_getElem? (i := 22) rfl)) (by decide) (by decide)) q3a q3c (g := (mkF m 19 #[.val (.ref a1), .val (.ref u), .val (.int (0 : Int32)), .val (.int (x % (128 : Int32)))] [(.ref a1)])) rfl (by rw [hml]; rfl) (Steps.refl _) (argsL := []) (rest := []) (lenOf own_pd2 rfl) rfl (by show 2 * 0 + _ ≤ _; exact Nat.le_of_eq rfl) (hb hby d4_19) (fun _ _ => ⟨rfl, e0, (by decide : 0 + 0 ≤ _), (by decide : 0 + 0 ≤ _)⟩)
  dsimp only [Pt.U, Pt.locs, Pt.cells, Pt.slots] at X3 l3 y3 z3 st3 hQ3
  subst l3 y3 z3
  obtain ⟨rfl, Nq3, eh3⟩ := hQ3
  have N3 := Fr.app N0 Nq3
  refine own_tr (W1 := T3.setTop (mkF m 22 #[.val (.ref a1), .val (.ref u), .val (.int (0 : Int32)), .val (.int (x % (128 : Int32)))] [(.int (0 : Int32))])) st3 ?_
  refine own_go (W1 := T3.setTop (mkF m 48 #[.val (.ref a1), .val (.ref u), .val (.int (0 : Int32)), .val (.int (x % (128 : Int32)))] [])) (X3.lookupswitchHit hx (g := (mkF m 22 #[.val (.ref a1), .val (.ref u), .val (.int (0 : Int32)), .val (.int (x % (128 : Int32)))] [(.int (0 : Int32))])) rfl (k := (0 : Int32)) (rest := []) rfl (hb hby d4_22) (by decide) (a := 0) (off := 26) (by decide) (by show (0 : Int) ≤ ((22 : Nat) : Int) + 26; decide)) ?_
  refine own_go (W1 := T3.setTop (mkF m 49 #[.val (.ref a1), .val (.ref u), .val (.int (0 : Int32)), .val (.int (x % (128 : Int32)))] [(.int (x % (128 : Int32)))])) (fun t k => XS.iloadN X3.here hx rfl (hb hby d4_48) rfl  k) ?_
  refine own_go (W1 := T3.setTop (mkF m 51 #[.val (.ref a1), .val (.ref u), .val (.int (0 : Int32)), .val (.int (x % (128 : Int32)))] [(.int (32 : Int32)), (.int (x % (128 : Int32)))])) (fun t k => XS.bipush X3.here hx rfl (hb hby d4_49) k) ?_
  by_cases hc51_1 : (x % (128 : Int32)) < (32 : Int32)
  · skip
    refine own_go (W1 := T3.setTop (mkF m 54 #[.val (.ref a1), .val (.ref u), .val (.int (0 : Int32)), .val (.int (x % (128 : Int32)))] [])) (fun t k => XS.icmpNo X3.here hx rfl (hb hby d4_51) rfl (tlt (show (x % (128 : Int32)) < (32 : Int32) from hc51_1)).2.1 k) ?_
    refine own_go (W1 := T3.setTop (mkF m 55 #[.val (.ref a1), .val (.ref u), .val (.int (0 : Int32)), .val (.int (x % (128 : Int32)))] [(.int (x % (128 : Int32)))])) (fun t k => XS.iloadN X3.here hx rfl (hb hby d4_54) rfl  k) ?_
    refine own_go (W1 := T3.setTop (mkF m 57 #[.val (.ref a1), .val (.ref u), .val (.int (0 : Int32)), .val (.int (x % (128 : Int32)))] [(.int (64 : Int32)), (.int (x % (128 : Int32)))])) (fun t k => XS.bipush X3.here hx rfl (hb hby d4_55) k) ?_
    refine own_go (W1 := T3.setTop (mkF m 58 #[.val (.ref a1), .val (.ref u), .val (.int (0 : Int32)), .val (.int (x % (128 : Int32)))] [(.int ((x % (128 : Int32)) + (64 : Int32)))])) (fun t k => XS.iadd X3.here hx rfl (hb hby d4_57) rfl k) ?_
    refine own_go (W1 := T3.setTop (mkF m 65 #[.val (.ref a1), .val (.ref u), .val (.int (0 : Int32)), .val (.int (x % (128 : Int32)))] [(.int ((x % (128 : Int32)) + (64 : Int32)))])) (fun t k => XS.goto X3.here hx rfl (pc0 := 58) (pc' := 65) rfl (hb hby d4_58) (by decide) (by decide) k) ?_
    exact own_retI X3 hx Bd.returns (hb hby d4_65) hlk (by decide) (by decide) ⟨by rw [show own_vA x = _ from if_pos hc51_1], N3, eh3⟩
  · skip
    refine own_go (W1 := T3.setTop (mkF m 61 #[.val (.ref a1), .val (.ref u), .val (.int (0 : Int32)), .val (.int (x % (128 : Int32)))] [])) (fun t k => XS.icmpYes X3.here hx rfl (pc0 := 51) (pc' := 61) rfl (hb hby d4_51) rfl (flt (show ¬ ((x % (128 : Int32)) < (32 : Int32)) from hc51_1)).2.1 (by decide) (by decide) k) ?_
    refine own_go (W1 := T3.setTop (mkF m 62 #[.val (.ref a1), .val (.ref u), .val (.int (0 : Int32)), .val (.int (x % (128 : Int32)))] [(.int (x % (128 : Int32)))])) (fun t k => XS.iloadN X3.here hx rfl (hb hby d4_61) rfl  k) ?_
    refine own_go (W1 := T3.setTop (mkF m 64 #[.val (.ref a1), .val (.ref u), .val (.int (0 : Int32)), .val (.int (x % (128 : Int32)))] [(.int (32 : Int32)), (.int (x % (128 : Int32)))])) (fun t k => XS.bipush X3.here hx rfl (hb hby d4_62) k) ?_
    refine own_go (W1 := T3.setTop (mkF m 65 #[.val (.ref a1), .val (.ref u), .val (.int (0 : Int32)), .val (.int (x % (128 : Int32)))] [(.int ((x % (128 : Int32)) - (32 : Int32)))])) (fun t k => XS.isub X3.here hx rfl (hb hby d4_64) rfl k) ?_
    exact own_retI X3 hx Bd.returns (hb hby d4_65) hlk (by decide) (by decide) ⟨by rw [show own_vA x = _ from if_neg hc51_1], N3, eh3⟩
theorem d4_66 : decode prog_15_method_9_code 66 = .ok (.iload_n 3, 1) := by decide +kernel
theorem d4_67 : decode prog_15_method_9_code 67 = .ok (.bipush 32, 2) := by decide +kernel
theorem d4_69 : decode prog_15_method_9_code 69 = .ok (.isub, 1) := by decide +kernel
theorem d4_70 : decode prog_15_method_9_code 70 = .ok (.ireturn, 1) := by decide +kernel
theorem ef_rm4B (m : MethodId) (x0 : Addr) (x1 : Addr) (x2 : Int32)  : entryFrame m #[(.ref x0), (.ref x1), (.int x2)] 4 = mkF m 0 #[.val (.ref x0), .val (.ref x1), .val (.int x2), .unset] [] := by first | (simp [entryFrame, mkF, argsToLocals, Value.category]; done) | rfl
set_option maxRecDepth 65536 in
set_option maxHeartbeats 40000000 in
theorem rm4B (l : Launch) (Z : State) (a0 : Array Value) (hw : ∀ d ∈ tables_1, d.before a0 Z = true) (ws : List Jvm.Cond) (a1 u : Addr) (ku : ClassId) (x : Int32) (h0 : Heap) (n0 : Nat) (Z0 : n0 ≤ h0.size) (E_a1 : Exa Z h0 a1 "com/example/quietzone/quietzone/code128/CodeSet") (F_ord : Fld Z h0 a1 "java/lang/Enum" "ordinal" "I" (.int 1)) (V_u : Arv Z h0 u ku .int 1 [(.int x)] (.int 0)) (hx1 : ¬ x = -1) :
    MetFree l (⟨"com/example/quietzone/quietzone/code128/CodeSet", "valueAt", "([II)I"⟩ : MethodName) (head1 (Jvm.Cond.code (⟨"com/example/quietzone/quietzone/code128/CodeSet", "valueAt", "([II)I"⟩ : MethodName) prog_15_method_9_code 4 (some .int) :: ws) ({ frames := 1, cells := 0, slots := 0, locals := 12 } : Room)) (fun a U => a = #[(.ref a1), (.ref u), (.int (0 : Int32))] ∧ Z.Warmed39 U.vm ∧ U.heap = h0) (fun _ _ _ _ _ => True) (fun _ U o U' => ∃ v L, o = .returned v ∧ own_Q (x % 128 - 32) h0 n0 v U'.heap L ∧ FrameEnd U o U' L ({ frames := 1, cells := 0, slots := 0, locals := 12 } : Room).cells ({ frames := 1, cells := 0, slots := 0, locals := 12 } : Room).slots) := by
  refine MetFree.of_bodySF (plainFor_of_name own_pn_com_example_quietzone_quietzone_code128_CodeSet) hisR ?_
  intro p e s m args below meth c s₁ Bd hml0 hP hK
  obtain ⟨rfl, hZ, hh⟩ := hP
  have hx := Bd.exec
  have hby := Bd.bytes
  have hlk := BodyLoose.notSynchronized Bd
  have hml : c.maxLocals = 4 := hml0
  have hown : s.vm.findClass "com/example/quietzone/quietzone/code128/CodeSet" = some m.cls := findClass_of_methodNamed Bd.named
  have hnm := (name_of_methodNamed Bd.named Bd.method).1
  have X0 : Stand p l e ({ frames := 1, cells := 0, slots := 0, locals := 12 } : Room) s m #[(.ref a1), (.ref u), (.int (0 : Int32))] below meth c s₁ [] 0 0 := Stand.of_body Bd
  have e0 : s₁.heap = h0 := by rw [← hh, Bd.state]; rfl
  have N0 := Fr.nil n0
  show own_Ends p e below s (own_Q (x % 128 - 32) h0 n0) 0 0 (s₁.setTop (entryFrame m #[(.ref a1), (.ref u), (.int (0 : Int32))] 4))
  refine own_go (W1 := s₁.setTop (mkF m 0 #[.val (.ref a1), .val (.ref u), .val (.int (0 : Int32)), .unset] [])) (fun t k => castTop (ef_rm4B m a1 u (0 : Int32) ) k) ?_
  refine own_go (W1 := s₁.setTop (mkF m 1 #[.val (.ref a1), .val (.ref u), .val (.int (0 : Int32)), .unset] [(.ref u)])) (fun t k => XS.aloadN X0.here hx rfl (hb hby d4_0) rfl rfl  k) ?_
  refine own_go (W1 := s₁.setTop (mkF m 2 #[.val (.ref a1), .val (.ref u), .val (.int (0 : Int32)), .unset] [(.int (0 : Int32)), (.ref u)])) (fun t k => XS.iloadN X0.here hx rfl (hb hby d4_1) rfl  k) ?_
  obtain ⟨cl1, Ar1, q1, S1, M1, H1, G1⟩ := id V_u
  have hin1 : ¬ ((0 : Int32) < 0 ∨ cl1.slots.size ≤ ((0 : Int32)).toNatClampNeg) := inb_of S1 ⟨by decide, by decide⟩
  have hat1 : cl1.slots[((0 : Int32)).toNatClampNeg]? = some (.int x) := Has.at H1 hin1 rfl
  refine own_go (W1 := s₁.setTop (mkF m 3 #[.val (.ref a1), .val (.ref u), .val (.int (0 : Int32)), .unset] [(.int x)])) (X0.iaload hx (j := (0 : Int32)) (v := (.int x)) (by rw [e0]; exact Ar1.1) (State.isArrayOf_alike hZ.alike Ar1.2.1) Ar1.2.2 hin1 hat1 (g := (mkF m 2 #[.val (.ref a1), .val (.ref u), .val (.int (0 : Int32)), .unset] [(.int (0 : Int32)), (.ref u)])) rfl rfl (hb hby d4_2)) ?_
  refine own_go (W1 := s₁.setTop (mkF m 4 #[.val (.ref a1), .val (.ref u), .val (.int (0 : Int32)), .unset] [(.int (-1 : Int32)), (.int x)])) (fun t k => XS.iconst X0.here hx rfl (hb hby d4_3) k) ?_
  refine own_go (W1 := s₁.setTop (mkF m 10 #[.val (.ref a1), .val (.ref u), .val (.int (0 : Int32)), .unset] [])) (fun t k => XS.icmpYes X0.here hx rfl (pc0 := 4) (pc' := 10) rfl (hb hby d4_4) rfl (feq (show ¬ (x = (-1 : Int32)) from hx1)).2 (by decide) (by decide) k) ?_
  refine own_go (W1 := s₁.setTop (mkF m 11 #[.val (.ref a1), .val (.ref u), .val (.int (0 : Int32)), .unset] [(.ref u)])) (fun t k => XS.aloadN X0.here hx rfl (hb hby d4_10) rfl rfl  k) ?_
  refine own_go (W1 := s₁.setTop (mkF m 12 #[.val (.ref a1), .val (.ref u), .val (.int (0 : Int32)), .unset] [(.int (0 : Int32)), (.ref u)])) (fun t k => XS.iloadN X0.here hx rfl (hb hby d4_11) rfl  k) ?_
  obtain ⟨cl2, Ar2, q2, S2, M2, H2, G2⟩ := id V_u
  have hin2 : ¬ ((0 : Int32) < 0 ∨ cl2.slots.size ≤ ((0 : Int32)).toNatClampNeg) := inb_of S2 ⟨by decide, by decide⟩
  have hat2 : cl2.slots[((0 : Int32)).toNatClampNeg]? = some (.int x) := Has.at H2 hin2 rfl
  refine own_go (W1 := s₁.setTop (mkF m 13 #[.val (.ref a1), .val (.ref u), .val (.int (0 : Int32)), .unset] [(.int x)])) (X0.iaload hx (j := (0 : Int32)) (v := (.int x)) (by rw [e0]; exact Ar2.1) (State.isArrayOf_alike hZ.alike Ar2.2.1) Ar2.2.2 hin2 hat2 (g := (mkF m 12 #[.val (.ref a1), .val (.ref u), .val (.int (0 : Int32)), .unset] [(.int (0 : Int32)), (.ref u)])) rfl rfl (hb hby d4_12)) ?_
  refine own_go (W1 := s₁.setTop (mkF m 16 #[.val (.ref a1), .val (.ref u), .val (.int (0 : Int32)), .unset] [(.int (128 : Int32)), (.int x)])) (fun t k => XS.sipush X0.here hx rfl (hb hby d4_13) k) ?_
  refine own_go (W1 := s₁.setTop (mkF m 17 #[.val (.ref a1), .val (.ref u), .val (.int (0 : Int32)), .unset] [(.int (x % (128 : Int32)))])) (fun t k => iremM X0 hx rfl (hb hby d4_16) rfl (by decide) k) ?_
  refine own_go (W1 := s₁.setTop (mkF m 18 #[.val (.ref a1), .val (.ref u), .val (.int (0 : Int32)), .val (.int (x % (128 : Int32)))] [])) (fun t k => XS.istoreN X0.here hx rfl (hb hby d4_17) rfl (l' := #[.val (.ref a1), .val (.ref u), .val (.int (0 : Int32)), .val (.int (x % (128 : Int32)))]) rfl k) ?_
  refine own_go (W1 := s₁.setTop (mkF m 19 #[.val (.ref a1), .val (.ref u), .val (.int (0 : Int32)), .val (.int (x % (128 : Int32)))] [(.ref a1)])) (fun t k => XS.aloadN X0.here hx rfl (hb hby d4_18) rfl rfl  k) ?_
  obtain ⟨cq3, kq3, q3a, q3b, q3c⟩ := isOf hZ e0 E_a1
  obtain ⟨_, _, ⟨T3, L3, k3, n3⟩, -, X3, ⟨Lc3, hQ3, l3, y3, z3⟩, st3⟩ := X0.virtualBackUp hx (x := (⟨"com/example/quietzone/quietzone/code128/CodeSet", "ordinal", "()I"⟩ : MethodName)) (y := (⟨"java/lang/Enum", "ordinal", "()I"⟩ : MethodName)) hown (mvT hZ (hw _ (List.mem_of_getElem? (i := 17) rfl))) (mvT hZ (hw _ (List.mem_of_getElem? (i := 18) rfl))) (mvT hZ (hw _ (List.mem_of_getElem? (i := 19) rfl))) (by decide) (mvT hZ (hw _ (List.mem_of_getElem? (i := 21) rfl))) (mvT hZ (hw _ (List.mem_of_getElem? (i := 20) rfl))) (backOf (W := 0) (rm3 l Z a0 hw [] a1 (1 : Int32) h0 n0 Z0 F_ord) hZ (hw _ (List.mem_of_getElem? (i := 23) rfl)) (hw _ (List.mem_of_getElem? (i := 22) rfl)) (by decide) (by decide)) q3a q3c (g := (mkF m 19 #[.val (.ref a1), .val (.ref u), .val (.int (0 : Int32)), .val (.int (x % (128 : Int32)))] [(.ref a1)])) rfl (by rw [hml]; rfl) (Steps.refl _) (argsL := []) (rest := []) (lenOf own_pd2 rfl) rfl (by show 2 * 0 + _ ≤ _; exact Nat.le_of_eq rfl) (hb hby d4_19) (fun _ _ => ⟨rfl, e0, (by decide : 0 + 0 ≤ _), (by decide : 0 + 0 ≤ _)⟩)
  dsimp only [Pt.U, Pt.locs, Pt.cells, Pt.slots] at X3 l3 y3 z3 st3 hQ3
  subst l3 y3 z3
  obtain ⟨rfl, Nq3, eh3⟩ := hQ3
  have N3 := Fr.app N0 Nq3
  refine own_tr (W1 := T3.setTop (mkF m 22 #[.val (.ref a1), .val (.ref u), .val (.int (0 : Int32)), .val (.int (x % (128 : Int32)))] [(.int (1 : Int32))])) st3 ?_
  refine own_go (W1 := T3.setTop (mkF m 66 #[.val (.ref a1), .val (.ref u), .val (.int (0 : Int32)), .val (.int (x % (128 : Int32)))] [])) (X3.lookupswitchHit hx (g := (mkF m 22 #[.val (.ref a1), .val (.ref u), .val (.int (0 : Int32)), .val (.int (x % (128 : Int32)))] [(.int (1 : Int32))])) rfl (k := (1 : Int32)) (rest := []) rfl (hb hby d4_22) (by decide) (a := 1) (off := 44) (by decide) (by show (0 : Int) ≤ ((22 : Nat) : Int) + 44; decide)) ?_
  refine own_go (W1 := T3.setTop (mkF m 67 #[.val (.ref a1), .val (.ref u), .val (.int (0 : Int32)), .val (.int (x % (128 : Int32)))] [(.int (x % (128 : Int32)))])) (fun t k => XS.iloadN X3.here hx rfl (hb hby d4_66) rfl  k) ?_
  refine own_go (W1 := T3.setTop (mkF m 69 #[.val (.ref a1), .val (.ref u), .val (.int (0 : Int32)), .val (.int (x % (128 : Int32)))] [(.int (32 : Int32)), (.int (x % (128 : Int32)))])) (fun t k => XS.bipush X3.here hx rfl (hb hby d4_67) k) ?_
  refine own_go (W1 := T3.setTop (mkF m 70 #[.val (.ref a1), .val (.ref u), .val (.int (0 : Int32)), .val (.int (x % (128 : Int32)))] [(.int ((x % (128 : Int32)) - (32 : Int32)))])) (fun t k => XS.isub X3.here hx rfl (hb hby d4_69) rfl k) ?_
  exact own_retI X3 hx Bd.returns (hb hby d4_70) hlk (by decide) (by decide) ⟨rfl, N3, eh3⟩
theorem own_pn_com_example_quietzone_quietzone_code128_CodeSetCharacterOfPinLaw : plainName "com/example/quietzone/quietzone/code128/CodeSetCharacterOfPinLaw" = true := by first | (simp [plainName, overriddenIn]; done) | decide +kernel
theorem own_pd0 : parseMethodDescriptor "(I)I" = some ⟨[.int], some .int⟩ := by decide +kernel
theorem own_pd1 : parseMethodDescriptor "([II)Z" = some ⟨[(.array .int), .int], some .boolean⟩ := by decide +kernel
theorem own_pd3 : parseMethodDescriptor "([II)I" = some ⟨[(.array .int), .int], some .int⟩ := by decide +kernel
theorem ef_rm0 (m : MethodId) (x0 : Int32) (x1 : Int32)  : entryFrame m #[(.int x0), (.int x1)] maxLocals = mkF m 0 #[.val (.int x0), .val (.int x1), .unset, .unset, .unset, .unset] [] := by first | (simp [entryFrame, mkF, argsToLocals, Value.category, maxLocals]; done) | rfl
set_option maxRecDepth 65536 in
set_option maxHeartbeats 40000000 in
theorem rm0 (l : Launch) (Z : State) (a0 : Array Value) (hw : ∀ d ∈ tables_1, d.before a0 Z = true) (ws : List Jvm.Cond) (p1 p2 : Int32) (sA sB : Addr) (h0 : Heap) (n0 : Nat) (Z0 : n0 ≤ h0.size)  (S_A : Sta Z h0 "com/example/quietzone/quietzone/code128/CodeSet" "A" "Lcom/example/quietzone/quietzone/code128/CodeSet;" (.ref sA)) (E_A : Exa Z h0 sA "com/example/quietzone/quietzone/code128/CodeSet") (F_A : Fld Z h0 sA "java/lang/Enum" "ordinal" "I" (.int 0)) (S_B : Sta Z h0 "com/example/quietzone/quietzone/code128/CodeSet" "B" "Lcom/example/quietzone/quietzone/code128/CodeSet;" (.ref sB)) (E_B : Exa Z h0 sB "com/example/quietzone/quietzone/code128/CodeSet") (F_B : Fld Z h0 sB "java/lang/Enum" "ordinal" "I" (.int 1)) :
    MetFree l x (head1 (Jvm.Cond.code x code maxLocals ret :: ws) room_1) (fun a U => a = #[(.int p1), (.int p2)] ∧ Z.Warmed39 U.vm ∧ U.heap = h0) (fun _ _ _ _ _ => True) (fun _ U o U' => ∃ v L, o = .returned v ∧ own_Q0 n0 v U'.heap L ∧ FrameEnd U o U' L 16 128) := by
  refine MetFree.of_bodySF (plainFor_of_name own_pn_com_example_quietzone_quietzone_code128_CodeSetCharacterOfPinLaw) hisR ?_
  intro p e s m args below meth c s₁ Bd hml0 hP hK
  obtain ⟨rfl, hZ, hh⟩ := hP
  have hx := Bd.exec
  have hby := Bd.bytes
  have hlk := BodyLoose.notSynchronized Bd
  have hml : c.maxLocals = 6 := hml0
  have hown : s.vm.findClass "com/example/quietzone/quietzone/code128/CodeSetCharacterOfPinLaw" = some m.cls := findClass_of_methodNamed Bd.named
  have hnm := (name_of_methodNamed Bd.named Bd.method).1
  have X0 : Stand p l e room_1 s m #[(.int p1), (.int p2)] below meth c s₁ [] 0 0 := Stand.of_body Bd
  have e0 : s₁.heap = h0 := by rw [← hh, Bd.state]; rfl
  have N0 := Fr.nil n0
  show own_Ends p e below s (own_Q0 n0) 16 128 (s₁.setTop (entryFrame m #[(.int p1), (.int p2)] maxLocals))
  refine own_go (W1 := s₁.setTop (mkF m 0 #[.val (.int p1), .val (.int p2), .unset, .unset, .unset, .unset] [])) (fun t k => castTop (ef_rm0 m p1 p2 ) k) ?_
  have neAB : sA ≠ sB := F_A.ne F_B (by decide)
  refine own_go (W1 := s₁.setTop (mkF m 1 #[.val (.int p1), .val (.int p2), .unset, .unset, .unset, .unset] [(.int p1)])) (fun t k => XS.iloadN X0.here hx rfl (hb hby at_0) rfl  k) ?_
  refine own_go (W1 := s₁.setTop (mkF m 2 #[.val (.int p1), .val (.int p2), .unset, .unset, .unset, .unset] [(.int (1 : Int32)), (.int p1)])) (fun t k => XS.iconst X0.here hx rfl (hb hby at_1) k) ?_
  refine own_go (W1 := s₁.setTop (mkF m 3 #[.val (.int p1), .val (.int p2), .unset, .unset, .unset, .unset] [(.int (p1 &&& (1 : Int32)))])) (fun t k => XS.iand X0.here hx rfl (hb hby at_2) rfl k) ?_
  by_cases hc3_1 : (p1 &&& (1 : Int32)) = (0 : Int32)
  · skip
    refine own_go (W1 := s₁.setTop (mkF m 6 #[.val (.int p1), .val (.int p2), .unset, .unset, .unset, .unset] [])) (fun t k => XS.ifNo X0.here hx rfl (hb hby at_3) rfl ((if0 _ _).trans (teq (show (p1 &&& (1 : Int32)) = (0 : Int32) from hc3_1)).2) k) ?_
    obtain ⟨T1, X1, e1, st1⟩ := getS2 X0 hx hZ hown (host := "") (Or.inl (hw _ (List.mem_of_getElem? (i := 0) rfl))) Via.refl e0 S_A (g := (mkF m 6 #[.val (.int p1), .val (.int p2), .unset, .unset, .unset, .unset] [])) rfl (hb hby at_6)
    refine own_go (W1 := T1.setTop (mkF m 9 #[.val (.int p1), .val (.int p2), .unset, .unset, .unset, .unset] [(.ref sA)])) (st1) ?_
    refine own_go (W1 := T1.setTop (mkF m 15 #[.val (.int p1), .val (.int p2), .unset, .unset, .unset, .unset] [(.ref sA)])) (fun t k => XS.goto X1.here hx rfl (pc0 := 9) (pc' := 15) rfl (hb hby at_9) (by decide) (by decide) k) ?_
    refine own_go (W1 := T1.setTop (mkF m 16 #[.val (.int p1), .val (.int p2), .val (.ref sA), .unset, .unset, .unset] [])) (fun t k => XS.astoreN X1.here hx rfl (hb hby at_15) rfl rfl (l' := #[.val (.int p1), .val (.int p2), .val (.ref sA), .unset, .unset, .unset]) rfl k) ?_
    refine own_go (W1 := T1.setTop (mkF m 17 #[.val (.int p1), .val (.int p2), .val (.ref sA), .unset, .unset, .unset] [(.int p2)])) (fun t k => XS.iloadN X1.here hx rfl (hb hby at_16) rfl  k) ?_
    refine own_go (W1 := T1.setTop (mkF m 19 #[.val (.int p1), .val (.int p2), .val (.ref sA), .unset, .unset, .unset] [(.int (2147483647 : Int32)), (.int p2)])) (X1.ldcInt hx hown (mvT hZ (hw _ (List.mem_of_getElem? (i := 3) rfl))) (g := (mkF m 17 #[.val (.int p1), .val (.int p2), .val (.ref sA), .unset, .unset, .unset] [(.int p2)])) rfl (hb hby at_17)) ?_
    refine own_go (W1 := T1.setTop (mkF m 20 #[.val (.int p1), .val (.int p2), .val (.ref sA), .unset, .unset, .unset] [(.int (p2 &&& (2147483647 : Int32)))])) (fun t k => XS.iand X1.here hx rfl (hb hby at_19) rfl k) ?_
    refine own_go (W1 := T1.setTop (mkF m 22 #[.val (.int p1), .val (.int p2), .val (.ref sA), .unset, .unset, .unset] [(.int (96 : Int32)), (.int (p2 &&& (2147483647 : Int32)))])) (fun t k => XS.bipush X1.here hx rfl (hb hby at_20) k) ?_
    refine own_go (W1 := T1.setTop (mkF m 23 #[.val (.int p1), .val (.int p2), .val (.ref sA), .unset, .unset, .unset] [(.int ((p2 &&& (2147483647 : Int32)) % (96 : Int32)))])) (fun t k => iremM X1 hx rfl (hb hby at_22) rfl (by decide) k) ?_
    refine own_go (W1 := T1.setTop (mkF m 24 #[.val (.int p1), .val (.int p2), .val (.ref sA), .val (.int ((p2 &&& (2147483647 : Int32)) % (96 : Int32))), .unset, .unset] [])) (fun t k => XS.istoreN X1.here hx rfl (hb hby at_23) rfl (l' := #[.val (.int p1), .val (.int p2), .val (.ref sA), .val (.int ((p2 &&& (2147483647 : Int32)) % (96 : Int32))), .unset, .unset]) rfl k) ?_
    have hv := own_v p2
    generalize ((p2 &&& (2147483647 : Int32)) % (96 : Int32)) = vv at *
    have hh := own_A hv
    refine own_go (W1 := T1.setTop (mkF m 25 #[.val (.int p1), .val (.int p2), .val (.ref sA), .val (.int vv), .unset, .unset] [(.ref sA)])) (fun t k => XS.aloadN X1.here hx rfl (hb hby at_24) rfl rfl  k) ?_
    refine own_go (W1 := T1.setTop (mkF m 26 #[.val (.int p1), .val (.int p2), .val (.ref sA), .val (.int vv), .unset, .unset] [(.int vv), (.ref sA)])) (fun t k => XS.iloadN X1.here hx rfl (hb hby at_25) rfl  k) ?_
    obtain ⟨cq2, kq2, q2a, q2b, q2c⟩ := isOf hZ e1 E_A
    obtain ⟨_, _, ⟨T2, L2, k2, n2⟩, -, X2, ⟨Lc2, hQ2, l2, y2, z2⟩, st2⟩ := X1.virtualBack hx (y := (⟨"com/example/quietzone/quietzone/code128/CodeSet", "characterOf", "(I)I"⟩ : MethodName)) (z := (⟨"com/example/quietzone/quietzone/code128/CodeSet", "characterOf", "(I)I"⟩ : MethodName)) hown (mvT hZ (hw _ (List.mem_of_getElem? (i := 4) rfl))) (mvT hZ (hw _ (List.mem_of_getElem? (i := 5) rfl))) (notFace_of_selects (args := #[]) (mvT hZ (hw _ (List.mem_of_getElem? (i := 7) rfl)))) (mvT hZ (hw _ (List.mem_of_getElem? (i := 7) rfl))) (mvT hZ (hw _ (List.mem_of_getElem? (i := 6) rfl))) (by decide) (backOf (W := 0) (rm1A l Z a0 hw [] sA sB vv h0 n0 Z0 S_B neAB) hZ (hw _ (List.mem_of_getElem? (i := 8) rfl)) (hw _ (List.mem_of_getElem? (i := 1) rfl)) (by decide) (by decide)) q2a q2c (g := (mkF m 26 #[.val (.int p1), .val (.int p2), .val (.ref sA), .val (.int vv), .unset, .unset] [(.int vv), (.ref sA)])) rfl (by rw [hml]; rfl) (Steps.refl _) (argsL := [(.int vv)]) (rest := []) (lenOf own_pd0 rfl) rfl (by show 2 * 0 + _ ≤ _; exact Nat.le_of_eq rfl) (hb hby at_26) (fun _ _ => ⟨rfl, e1, (by decide : 0 + 0 ≤ _), (by decide : 0 + 0 ≤ _)⟩)
    dsimp only [Pt.U, Pt.locs, Pt.cells, Pt.slots] at X2 l2 y2 z2 st2 hQ2
    subst l2 y2 z2
    obtain ⟨rfl, Nq2, eh2⟩ := hQ2
    have N2 := Fr.app N0 Nq2
    refine own_tr (W1 := T2.setTop (mkF m 29 #[.val (.int p1), .val (.int p2), .val (.ref sA), .val (.int vv), .unset, .unset] [(.int (own_chA vv))])) st2 ?_
    refine own_go (W1 := T2.setTop (mkF m 31 #[.val (.int p1), .val (.int p2), .val (.ref sA), .val (.int vv), .val (.int (own_chA vv)), .unset] [])) (fun t k => XS.istore X2.here hx rfl (hb hby at_29) rfl (l' := #[.val (.int p1), .val (.int p2), .val (.ref sA), .val (.int vv), .val (.int (own_chA vv)), .unset]) rfl k) ?_
    refine own_go (W1 := T2.setTop (mkF m 33 #[.val (.int p1), .val (.int p2), .val (.ref sA), .val (.int vv), .val (.int (own_chA vv)), .unset] [(.int (own_chA vv))])) (fun t k => XS.iload X2.here hx rfl (hb hby at_31) rfl  k) ?_
    refine own_go (W1 := T2.setTop (mkF m 36 #[.val (.int p1), .val (.int p2), .val (.ref sA), .val (.int vv), .val (.int (own_chA vv)), .unset] [])) (fun t k => XS.ifNo X2.here hx rfl (hb hby at_33) rfl ((if0 _ _).trans (flt (show ¬ ((own_chA vv) < (0 : Int32)) from (own_notneg (by omega)))).1) k) ?_
    refine own_go (W1 := T2.setTop (mkF m 38 #[.val (.int p1), .val (.int p2), .val (.ref sA), .val (.int vv), .val (.int (own_chA vv)), .unset] [(.int (own_chA vv))])) (fun t k => XS.iload X2.here hx rfl (hb hby at_36) rfl  k) ?_
    refine own_go (W1 := T2.setTop (mkF m 40 #[.val (.int p1), .val (.int p2), .val (.ref sA), .val (.int vv), .val (.int (own_chA vv)), .unset] [(.int (127 : Int32)), (.int (own_chA vv))])) (fun t k => XS.bipush X2.here hx rfl (hb hby at_38) k) ?_
    refine own_go (W1 := T2.setTop (mkF m 45 #[.val (.int p1), .val (.int p2), .val (.ref sA), .val (.int vv), .val (.int (own_chA vv)), .unset] [])) (fun t k => XS.icmpYes X2.here hx rfl (pc0 := 40) (pc' := 45) rfl (hb hby at_40) rfl (flt (show ¬ ((127 : Int32) < (own_chA vv)) from (own_le127 (by omega)))).2.2.2 (by decide) (by decide) k) ?_
    refine own_go (W1 := T2.setTop (mkF m 46 #[.val (.int p1), .val (.int p2), .val (.ref sA), .val (.int vv), .val (.int (own_chA vv)), .unset] [(.int (1 : Int32))])) (fun t k => XS.iconst X2.here hx rfl (hb hby at_45) k) ?_
    obtain ⟨T3, h3, k3, X3, e3, E3, A3, st3⟩ := newP X2 hx hZ (hw _ (List.mem_of_getElem? (i := 11) rfl)) eh2 (g := (mkF m 46 #[.val (.int p1), .val (.int p2), .val (.ref sA), .val (.int vv), .val (.int (own_chA vv)), .unset] [(.int (1 : Int32))])) rfl (hb hby at_46) rfl (by decide) (cap := 1) (by decide) (by decide) (by decide) (by decide)
    obtain ⟨u, g3⟩ : ∃ z, z = h0.size := ⟨_, rfl⟩
    have ne_sA_u : sA ≠ u := Nat.ne_of_lt (Nat.lt_of_lt_of_le E_A.lt (Nat.le_of_eq g3.symm))
    have ne_sB_u : sB ≠ u := Nat.ne_of_lt (Nat.lt_of_lt_of_le E_B.lt (Nat.le_of_eq g3.symm))
    have ge_u : n0 ≤ u := Nat.le_trans Z0 (Nat.le_of_eq g3.symm)
    rw [← g3] at A3 st3
    have S_A := S_A.ext E3
    have E_A := E_A.ext E3
    have F_A := F_A.ext E3
    have S_B := S_B.ext E3
    have E_B := E_B.ext E3
    have F_B := F_B.ext E3
    have Z3 : n0 ≤ h3.size := Nat.le_trans Z0 E3.1
    have V_u : Arv Z h3 u k3 .int (1 : Int32) [(.int (0 : Int32))] (.int (0 : Int32)) := (Arv.new A3 (by decide)).pad (pad_rep [] (.int (0 : Int32)) 1)
    refine own_go (W1 := T3.setTop (mkF m 48 #[.val (.int p1), .val (.int p2), .val (.ref sA), .val (.int vv), .val (.int (own_chA vv)), .unset] [(.ref u)])) (st3) ?_
    refine own_go (W1 := T3.setTop (mkF m 49 #[.val (.int p1), .val (.int p2), .val (.ref sA), .val (.int vv), .val (.int (own_chA vv)), .unset] [(.ref u), (.ref u)])) (fun t k => XS.dup X3.here hx rfl (hb hby at_48) rfl rfl k) ?_
    refine own_go (W1 := T3.setTop (mkF m 50 #[.val (.int p1), .val (.int p2), .val (.ref sA), .val (.int vv), .val (.int (own_chA vv)), .unset] [(.int (0 : Int32)), (.ref u), (.ref u)])) (fun t k => XS.iconst X3.here hx rfl (hb hby at_49) k) ?_
    refine own_go (W1 := T3.setTop (mkF m 52 #[.val (.int p1), .val (.int p2), .val (.ref sA), .val (.int vv), .val (.int (own_chA vv)), .unset] [(.int (own_chA vv)), (.int (0 : Int32)), (.ref u), (.ref u)])) (fun t k => XS.iload X3.here hx rfl (hb hby at_50) rfl  k) ?_
    obtain ⟨cl4, Ar4, q4, S4, M4, H4, G4⟩ := id V_u
    have hin4 : ¬ ((0 : Int32) < 0 ∨ cl4.slots.size ≤ ((0 : Int32)).toNatClampNeg) := inb_of S4 ⟨by decide, by decide⟩
    obtain ⟨T4, h4, X4, e4, W4, st4⟩ := stI X3 hx hZ e3 Ar4 (j := (0 : Int32)) hin4 (g := (mkF m 52 #[.val (.int p1), .val (.int p2), .val (.ref sA), .val (.int vv), .val (.int (own_chA vv)), .unset] [(.int (own_chA vv)), (.int (0 : Int32)), (.ref u), (.ref u)])) rfl rfl (hb hby at_52)
    have V_u : Arv Z h4 u k3 .int (1 : Int32) [(.int (own_chA vv))] (.int (0 : Int32)) := Arv.set Ar4 q4 S4 M4 H4 G4 rfl W4 0 rfl (Nat.le_of_ble_eq_true rfl)
    have S_A := S_A.wr W4
    have E_A := E_A.wr W4
    have F_A := F_A.other W4 (Or.inl ne_sA_u)
    have S_B := S_B.wr W4
    have E_B := E_B.wr W4
    have F_B := F_B.other W4 (Or.inl ne_sB_u)
    have Z4 : n0 ≤ h4.size := by rw [W4.size]; exact Z3
    have N4 := Fr.snoc X4 N2 ge_u
    refine own_go (W1 := T4.setTop (mkF m 53 #[.val (.int p1), .val (.int p2), .val (.ref sA), .val (.int vv), .val (.int (own_chA vv)), .unset] [(.ref u)])) (st4) ?_
    refine own_go (W1 := T4.setTop (mkF m 55 #[.val (.int p1), .val (.int p2), .val (.ref sA), .val (.int vv), .val (.int (own_chA vv)), .val (.ref u)] [])) (fun t k => XS.astore X4.here hx rfl (hb hby at_53) rfl rfl (l' := #[.val (.int p1), .val (.int p2), .val (.ref sA), .val (.int vv), .val (.int (own_chA vv)), .val (.ref u)]) rfl k) ?_
    refine own_go (W1 := T4.setTop (mkF m 56 #[.val (.int p1), .val (.int p2), .val (.ref sA), .val (.int vv), .val (.int (own_chA vv)), .val (.ref u)] [(.ref sA)])) (fun t k => XS.aloadN X4.here hx rfl (hb hby at_55) rfl rfl  k) ?_
    refine own_go (W1 := T4.setTop (mkF m 58 #[.val (.int p1), .val (.int p2), .val (.ref sA), .val (.int vv), .val (.int (own_chA vv)), .val (.ref u)] [(.ref u), (.ref sA)])) (fun t k => XS.aload X4.here hx rfl (hb hby at_56) rfl rfl  k) ?_
    refine own_go (W1 := T4.setTop (mkF m 59 #[.val (.int p1), .val (.int p2), .val (.ref sA), .val (.int vv), .val (.int (own_chA vv)), .val (.ref u)] [(.int (0 : Int32)), (.ref u), (.ref sA)])) (fun t k => XS.iconst X4.here hx rfl (hb hby at_58) k) ?_
    obtain ⟨cq5, kq5, q5a, q5b, q5c⟩ := isOf hZ e4 E_A
    obtain ⟨_, _, ⟨T5, L5, k5, n5⟩, -, X5, ⟨Lc5, hQ5, l5, y5, z5⟩, st5⟩ := X4.virtualBack hx (y := (⟨"com/example/quietzone/quietzone/code128/CodeSet", "carries", "([II)Z"⟩ : MethodName)) (z := (⟨"com/example/quietzone/quietzone/code128/CodeSet", "carries", "([II)Z"⟩ : MethodName)) hown (mvT hZ (hw _ (List.mem_of_getElem? (i := 12) rfl))) (mvT hZ (hw _ (List.mem_of_getElem? (i := 13) rfl))) (notFace_of_selects (args := #[]) (mvT hZ (hw _ (List.mem_of_getElem? (i := 15) rfl)))) (mvT hZ (hw _ (List.mem_of_getElem? (i := 15) rfl))) (mvT hZ (hw _ (List.mem_of_getElem? (i := 14) rfl))) (by decide) (backOf (W := 0) (rm2A l Z a0 hw [] sA u k3 (own_chA vv) h4 n0 Z4 E_A F_A V_u (own_notm1 (by omega))) hZ (hw _ (List.mem_of_getElem? (i := 16) rfl)) (hw _ (List.mem_of_getElem? (i := 1) rfl)) (by decide) (by decide)) q5a q5c (g := (mkF m 59 #[.val (.int p1), .val (.int p2), .val (.ref sA), .val (.int vv), .val (.int (own_chA vv)), .val (.ref u)] [(.int (0 : Int32)), (.ref u), (.ref sA)])) rfl (by rw [hml]; rfl) (Steps.refl _) (argsL := [(.ref u), (.int (0 : Int32))]) (rest := []) (lenOf own_pd1 rfl) rfl (by show 2 * 0 + _ ≤ _; exact Nat.le_of_eq rfl) (hb hby at_59) (fun _ _ => ⟨rfl, e4, (by decide : 1 + 0 ≤ _), (by decide : 1 + 0 ≤ _)⟩)
    dsimp only [Pt.U, Pt.locs, Pt.cells, Pt.slots] at X5 l5 y5 z5 st5 hQ5
    subst l5 y5 z5
    obtain ⟨rfl, Nq5, eh5⟩ := hQ5
    have N5 := Fr.app N4 Nq5
    refine own_tr (W1 := T5.setTop (mkF m 62 #[.val (.int p1), .val (.int p2), .val (.ref sA), .val (.int vv), .val (.int (own_chA vv)), .val (.ref u)] [(.int (own_b2i ((own_chA vv) % 128 < 96)))])) st5 ?_
    refine own_go (W1 := T5.setTop (mkF m 65 #[.val (.int p1), .val (.int p2), .val (.ref sA), .val (.int vv), .val (.int (own_chA vv)), .val (.ref u)] [])) (fun t k => XS.ifNo X5.here hx rfl (hb hby at_62) rfl ((if0 _ _).trans (feq (show ¬ ((own_b2i ((own_chA vv) % 128 < 96)) = (0 : Int32)) from (by rw [own_b1 (by rw [own_same (by omega), Int32.lt_iff_toInt_lt]; exact hh.1.2)]; decide))).1) k) ?_
    refine own_go (W1 := T5.setTop (mkF m 66 #[.val (.int p1), .val (.int p2), .val (.ref sA), .val (.int vv), .val (.int (own_chA vv)), .val (.ref u)] [(.ref sA)])) (fun t k => XS.aloadN X5.here hx rfl (hb hby at_65) rfl rfl  k) ?_
    refine own_go (W1 := T5.setTop (mkF m 68 #[.val (.int p1), .val (.int p2), .val (.ref sA), .val (.int vv), .val (.int (own_chA vv)), .val (.ref u)] [(.ref u), (.ref sA)])) (fun t k => XS.aload X5.here hx rfl (hb hby at_66) rfl rfl  k) ?_
    refine own_go (W1 := T5.setTop (mkF m 69 #[.val (.int p1), .val (.int p2), .val (.ref sA), .val (.int vv), .val (.int (own_chA vv)), .val (.ref u)] [(.int (0 : Int32)), (.ref u), (.ref sA)])) (fun t k => XS.iconst X5.here hx rfl (hb hby at_68) k) ?_
    obtain ⟨cq6, kq6, q6a, q6b, q6c⟩ := isOf hZ eh5 E_A
    obtain ⟨_, _, ⟨T6, L6, k6, n6⟩, -, X6, ⟨Lc6, hQ6, l6, y6, z6⟩, st6⟩ := X5.virtualBack hx (y := (⟨"com/example/quietzone/quietzone/code128/CodeSet", "valueAt", "([II)I"⟩ : MethodName)) (z := (⟨"com/example/quietzone/quietzone/code128/CodeSet", "valueAt", "([II)I"⟩ : MethodName)) hown (mvT hZ (hw _ (List.mem_of_getElem? (i := 26) rfl))) (mvT hZ (hw _ (List.mem_of_getElem? (i := 27) rfl))) (notFace_of_selects (args := #[]) (mvT hZ (hw _ (List.mem_of_getElem? (i := 29) rfl)))) (mvT hZ (hw _ (List.mem_of_getElem? (i := 29) rfl))) (mvT hZ (hw _ (List.mem_of_getElem? (i := 28) rfl))) (by decide) (backOf (W := 0) (rm4A l Z a0 hw [] sA u k3 (own_chA vv) h4 n0 Z4 E_A F_A V_u (own_notm1 (by omega))) hZ (hw _ (List.mem_of_getElem? (i := 30) rfl)) (hw _ (List.mem_of_getElem? (i := 1) rfl)) (by decide) (by decide)) q6a q6c (g := (mkF m 69 #[.val (.int p1), .val (.int p2), .val (.ref sA), .val (.int vv), .val (.int (own_chA vv)), .val (.ref u)] [(.int (0 : Int32)), (.ref u), (.ref sA)])) rfl (by rw [hml]; rfl) (Steps.refl _) (argsL := [(.ref u), (.int (0 : Int32))]) (rest := []) (lenOf own_pd3 rfl) rfl (by show 2 * 0 + _ ≤ _; exact Nat.le_of_eq rfl) (hb hby at_69) (fun _ _ => ⟨rfl, eh5, (by decide : 1 + 0 ≤ _), (by decide : 1 + 0 ≤ _)⟩)
    dsimp only [Pt.U, Pt.locs, Pt.cells, Pt.slots] at X6 l6 y6 z6 st6 hQ6
    subst l6 y6 z6
    obtain ⟨rfl, Nq6, eh6⟩ := hQ6
    have N6 := Fr.app N5 Nq6
    refine own_tr (W1 := T6.setTop (mkF m 72 #[.val (.int p1), .val (.int p2), .val (.ref sA), .val (.int vv), .val (.int (own_chA vv)), .val (.ref u)] [(.int (own_vA (own_chA vv)))])) st6 ?_
    refine own_go (W1 := T6.setTop (mkF m 73 #[.val (.int p1), .val (.int p2), .val (.ref sA), .val (.int vv), .val (.int (own_chA vv)), .val (.ref u)] [(.int vv), (.int (own_vA (own_chA vv)))])) (fun t k => XS.iloadN X6.here hx rfl (hb hby at_72) rfl  k) ?_
    refine own_go (W1 := T6.setTop (mkF m 76 #[.val (.int p1), .val (.int p2), .val (.ref sA), .val (.int vv), .val (.int (own_chA vv)), .val (.ref u)] [])) (fun t k => XS.icmpNo X6.here hx rfl (hb hby at_73) rfl (teq (show (own_vA (own_chA vv)) = vv from hh.2)).2 k) ?_
    refine own_go (W1 := T6.setTop (mkF m 77 #[.val (.int p1), .val (.int p2), .val (.ref sA), .val (.int vv), .val (.int (own_chA vv)), .val (.ref u)] [(.int (1 : Int32))])) (fun t k => XS.iconst X6.here hx rfl (hb hby at_76) k) ?_
    refine own_go (W1 := T6.setTop (mkF m 81 #[.val (.int p1), .val (.int p2), .val (.ref sA), .val (.int vv), .val (.int (own_chA vv)), .val (.ref u)] [(.int (1 : Int32))])) (fun t k => XS.goto X6.here hx rfl (pc0 := 77) (pc' := 81) rfl (hb hby at_77) (by decide) (by decide) k) ?_
    exact own_retN X6 hx (t := .boolean) Bd.returns (by simp) (hb hby at_81) hlk (by decide) (by decide) ⟨rfl, N6⟩
  · skip
    refine own_go (W1 := s₁.setTop (mkF m 12 #[.val (.int p1), .val (.int p2), .unset, .unset, .unset, .unset] [])) (fun t k => XS.ifYes X0.here hx rfl (pc0 := 3) (pc' := 12) rfl (hb hby at_3) rfl ((if0 _ _).trans (feq (show ¬ ((p1 &&& (1 : Int32)) = (0 : Int32)) from hc3_1)).2) (by decide) (by decide) k) ?_
    obtain ⟨T7, X7, e7, st7⟩ := getS2 X0 hx hZ hown (host := "") (Or.inl (hw _ (List.mem_of_getElem? (i := 31) rfl))) Via.refl e0 S_B (g := (mkF m 12 #[.val (.int p1), .val (.int p2), .unset, .unset, .unset, .unset] [])) rfl (hb hby at_12)
    refine own_go (W1 := T7.setTop (mkF m 15 #[.val (.int p1), .val (.int p2), .unset, .unset, .unset, .unset] [(.ref sB)])) (st7) ?_
    refine own_go (W1 := T7.setTop (mkF m 16 #[.val (.int p1), .val (.int p2), .val (.ref sB), .unset, .unset, .unset] [])) (fun t k => XS.astoreN X7.here hx rfl (hb hby at_15) rfl rfl (l' := #[.val (.int p1), .val (.int p2), .val (.ref sB), .unset, .unset, .unset]) rfl k) ?_
    refine own_go (W1 := T7.setTop (mkF m 17 #[.val (.int p1), .val (.int p2), .val (.ref sB), .unset, .unset, .unset] [(.int p2)])) (fun t k => XS.iloadN X7.here hx rfl (hb hby at_16) rfl  k) ?_
    refine own_go (W1 := T7.setTop (mkF m 19 #[.val (.int p1), .val (.int p2), .val (.ref sB), .unset, .unset, .unset] [(.int (2147483647 : Int32)), (.int p2)])) (X7.ldcInt hx hown (mvT hZ (hw _ (List.mem_of_getElem? (i := 3) rfl))) (g := (mkF m 17 #[.val (.int p1), .val (.int p2), .val (.ref sB), .unset, .unset, .unset] [(.int p2)])) rfl (hb hby at_17)) ?_
    refine own_go (W1 := T7.setTop (mkF m 20 #[.val (.int p1), .val (.int p2), .val (.ref sB), .unset, .unset, .unset] [(.int (p2 &&& (2147483647 : Int32)))])) (fun t k => XS.iand X7.here hx rfl (hb hby at_19) rfl k) ?_
    refine own_go (W1 := T7.setTop (mkF m 22 #[.val (.int p1), .val (.int p2), .val (.ref sB), .unset, .unset, .unset] [(.int (96 : Int32)), (.int (p2 &&& (2147483647 : Int32)))])) (fun t k => XS.bipush X7.here hx rfl (hb hby at_20) k) ?_
    refine own_go (W1 := T7.setTop (mkF m 23 #[.val (.int p1), .val (.int p2), .val (.ref sB), .unset, .unset, .unset] [(.int ((p2 &&& (2147483647 : Int32)) % (96 : Int32)))])) (fun t k => iremM X7 hx rfl (hb hby at_22) rfl (by decide) k) ?_
    refine own_go (W1 := T7.setTop (mkF m 24 #[.val (.int p1), .val (.int p2), .val (.ref sB), .val (.int ((p2 &&& (2147483647 : Int32)) % (96 : Int32))), .unset, .unset] [])) (fun t k => XS.istoreN X7.here hx rfl (hb hby at_23) rfl (l' := #[.val (.int p1), .val (.int p2), .val (.ref sB), .val (.int ((p2 &&& (2147483647 : Int32)) % (96 : Int32))), .unset, .unset]) rfl k) ?_
    have hv := own_v p2
    generalize ((p2 &&& (2147483647 : Int32)) % (96 : Int32)) = vv at *
    have hh := own_B hv
    refine own_go (W1 := T7.setTop (mkF m 25 #[.val (.int p1), .val (.int p2), .val (.ref sB), .val (.int vv), .unset, .unset] [(.ref sB)])) (fun t k => XS.aloadN X7.here hx rfl (hb hby at_24) rfl rfl  k) ?_
    refine own_go (W1 := T7.setTop (mkF m 26 #[.val (.int p1), .val (.int p2), .val (.ref sB), .val (.int vv), .unset, .unset] [(.int vv), (.ref sB)])) (fun t k => XS.iloadN X7.here hx rfl (hb hby at_25) rfl  k) ?_
    obtain ⟨cq8, kq8, q8a, q8b, q8c⟩ := isOf hZ e7 E_B
    obtain ⟨_, _, ⟨T8, L8, k8, n8⟩, -, X8, ⟨Lc8, hQ8, l8, y8, z8⟩, st8⟩ := X7.virtualBack hx (y := (⟨"com/example/quietzone/quietzone/code128/CodeSet", "characterOf", "(I)I"⟩ : MethodName)) (z := (⟨"com/example/quietzone/quietzone/code128/CodeSet", "characterOf", "(I)I"⟩ : MethodName)) hown (mvT hZ (hw _ (List.mem_of_getElem? (i := 4) rfl))) (mvT hZ (hw _ (List.mem_of_getElem? (i := 5) rfl))) (notFace_of_selects (args := #[]) (mvT hZ (hw _ (List.mem_of_getElem? (i := 7) rfl)))) (mvT hZ (hw _ (List.mem_of_getElem? (i := 7) rfl))) (mvT hZ (hw _ (List.mem_of_getElem? (i := 6) rfl))) (by decide) (backOf (W := 0) (rm1B l Z a0 hw [] sB vv h0 n0 Z0 S_B) hZ (hw _ (List.mem_of_getElem? (i := 8) rfl)) (hw _ (List.mem_of_getElem? (i := 1) rfl)) (by decide) (by decide)) q8a q8c (g := (mkF m 26 #[.val (.int p1), .val (.int p2), .val (.ref sB), .val (.int vv), .unset, .unset] [(.int vv), (.ref sB)])) rfl (by rw [hml]; rfl) (Steps.refl _) (argsL := [(.int vv)]) (rest := []) (lenOf own_pd0 rfl) rfl (by show 2 * 0 + _ ≤ _; exact Nat.le_of_eq rfl) (hb hby at_26) (fun _ _ => ⟨rfl, e7, (by decide : 0 + 0 ≤ _), (by decide : 0 + 0 ≤ _)⟩)
    dsimp only [Pt.U, Pt.locs, Pt.cells, Pt.slots] at X8 l8 y8 z8 st8 hQ8
    subst l8 y8 z8
    obtain ⟨rfl, Nq8, eh8⟩ := hQ8
    have N8 := Fr.app N0 Nq8
    refine own_tr (W1 := T8.setTop (mkF m 29 #[.val (.int p1), .val (.int p2), .val (.ref sB), .val (.int vv), .unset, .unset] [(.int (vv + 32))])) st8 ?_
    refine own_go (W1 := T8.setTop (mkF m 31 #[.val (.int p1), .val (.int p2), .val (.ref sB), .val (.int vv), .val (.int (vv + 32)), .unset] [])) (fun t k => XS.istore X8.here hx rfl (hb hby at_29) rfl (l' := #[.val (.int p1), .val (.int p2), .val (.ref sB), .val (.int vv), .val (.int (vv + 32)), .unset]) rfl k) ?_
    refine own_go (W1 := T8.setTop (mkF m 33 #[.val (.int p1), .val (.int p2), .val (.ref sB), .val (.int vv), .val (.int (vv + 32)), .unset] [(.int (vv + 32))])) (fun t k => XS.iload X8.here hx rfl (hb hby at_31) rfl  k) ?_
    refine own_go (W1 := T8.setTop (mkF m 36 #[.val (.int p1), .val (.int p2), .val (.ref sB), .val (.int vv), .val (.int (vv + 32)), .unset] [])) (fun t k => XS.ifNo X8.here hx rfl (hb hby at_33) rfl ((if0 _ _).trans (flt (show ¬ ((vv + 32) < (0 : Int32)) from (own_notneg (by omega)))).1) k) ?_
    refine own_go (W1 := T8.setTop (mkF m 38 #[.val (.int p1), .val (.int p2), .val (.ref sB), .val (.int vv), .val (.int (vv + 32)), .unset] [(.int (vv + 32))])) (fun t k => XS.iload X8.here hx rfl (hb hby at_36) rfl  k) ?_
    refine own_go (W1 := T8.setTop (mkF m 40 #[.val (.int p1), .val (.int p2), .val (.ref sB), .val (.int vv), .val (.int (vv + 32)), .unset] [(.int (127 : Int32)), (.int (vv + 32))])) (fun t k => XS.bipush X8.here hx rfl (hb hby at_38) k) ?_
    refine own_go (W1 := T8.setTop (mkF m 45 #[.val (.int p1), .val (.int p2), .val (.ref sB), .val (.int vv), .val (.int (vv + 32)), .unset] [])) (fun t k => XS.icmpYes X8.here hx rfl (pc0 := 40) (pc' := 45) rfl (hb hby at_40) rfl (flt (show ¬ ((127 : Int32) < (vv + 32)) from (own_le127 (by omega)))).2.2.2 (by decide) (by decide) k) ?_
    refine own_go (W1 := T8.setTop (mkF m 46 #[.val (.int p1), .val (.int p2), .val (.ref sB), .val (.int vv), .val (.int (vv + 32)), .unset] [(.int (1 : Int32))])) (fun t k => XS.iconst X8.here hx rfl (hb hby at_45) k) ?_
    obtain ⟨T9, h9, k9, X9, e9, E9, A9, st9⟩ := newP X8 hx hZ (hw _ (List.mem_of_getElem? (i := 11) rfl)) eh8 (g := (mkF m 46 #[.val (.int p1), .val (.int p2), .val (.ref sB), .val (.int vv), .val (.int (vv + 32)), .unset] [(.int (1 : Int32))])) rfl (hb hby at_46) rfl (by decide) (cap := 1) (by decide) (by decide) (by decide) (by decide)
    obtain ⟨u, g9⟩ : ∃ z, z = h0.size := ⟨_, rfl⟩
    have ne_sA_u : sA ≠ u := Nat.ne_of_lt (Nat.lt_of_lt_of_le E_A.lt (Nat.le_of_eq g9.symm))
    have ne_sB_u : sB ≠ u := Nat.ne_of_lt (Nat.lt_of_lt_of_le E_B.lt (Nat.le_of_eq g9.symm))
    have ge_u : n0 ≤ u := Nat.le_trans Z0 (Nat.le_of_eq g9.symm)
    rw [← g9] at A9 st9
    have S_A := S_A.ext E9
    have E_A := E_A.ext E9
    have F_A := F_A.ext E9
    have S_B := S_B.ext E9
    have E_B := E_B.ext E9
    have F_B := F_B.ext E9
    have Z9 : n0 ≤ h9.size := Nat.le_trans Z0 E9.1
    have V_u : Arv Z h9 u k9 .int (1 : Int32) [(.int (0 : Int32))] (.int (0 : Int32)) := (Arv.new A9 (by decide)).pad (pad_rep [] (.int (0 : Int32)) 1)
    refine own_go (W1 := T9.setTop (mkF m 48 #[.val (.int p1), .val (.int p2), .val (.ref sB), .val (.int vv), .val (.int (vv + 32)), .unset] [(.ref u)])) (st9) ?_
    refine own_go (W1 := T9.setTop (mkF m 49 #[.val (.int p1), .val (.int p2), .val (.ref sB), .val (.int vv), .val (.int (vv + 32)), .unset] [(.ref u), (.ref u)])) (fun t k => XS.dup X9.here hx rfl (hb hby at_48) rfl rfl k) ?_
    refine own_go (W1 := T9.setTop (mkF m 50 #[.val (.int p1), .val (.int p2), .val (.ref sB), .val (.int vv), .val (.int (vv + 32)), .unset] [(.int (0 : Int32)), (.ref u), (.ref u)])) (fun t k => XS.iconst X9.here hx rfl (hb hby at_49) k) ?_
    refine own_go (W1 := T9.setTop (mkF m 52 #[.val (.int p1), .val (.int p2), .val (.ref sB), .val (.int vv), .val (.int (vv + 32)), .unset] [(.int (vv + 32)), (.int (0 : Int32)), (.ref u), (.ref u)])) (fun t k => XS.iload X9.here hx rfl (hb hby at_50) rfl  k) ?_
    obtain ⟨cl10, Ar10, q10, S10, M10, H10, G10⟩ := id V_u
    have hin10 : ¬ ((0 : Int32) < 0 ∨ cl10.slots.size ≤ ((0 : Int32)).toNatClampNeg) := inb_of S10 ⟨by decide, by decide⟩
    obtain ⟨T10, h10, X10, e10, W10, st10⟩ := stI X9 hx hZ e9 Ar10 (j := (0 : Int32)) hin10 (g := (mkF m 52 #[.val (.int p1), .val (.int p2), .val (.ref sB), .val (.int vv), .val (.int (vv + 32)), .unset] [(.int (vv + 32)), (.int (0 : Int32)), (.ref u), (.ref u)])) rfl rfl (hb hby at_52)
    have V_u : Arv Z h10 u k9 .int (1 : Int32) [(.int (vv + 32))] (.int (0 : Int32)) := Arv.set Ar10 q10 S10 M10 H10 G10 rfl W10 0 rfl (Nat.le_of_ble_eq_true rfl)
    have S_A := S_A.wr W10
    have E_A := E_A.wr W10
    have F_A := F_A.other W10 (Or.inl ne_sA_u)
    have S_B := S_B.wr W10
    have E_B := E_B.wr W10
    have F_B := F_B.other W10 (Or.inl ne_sB_u)
    have Z10 : n0 ≤ h10.size := by rw [W10.size]; exact Z9
    have N10 := Fr.snoc X10 N8 ge_u
    refine own_go (W1 := T10.setTop (mkF m 53 #[.val (.int p1), .val (.int p2), .val (.ref sB), .val (.int vv), .val (.int (vv + 32)), .unset] [(.ref u)])) (st10) ?_
    refine own_go (W1 := T10.setTop (mkF m 55 #[.val (.int p1), .val (.int p2), .val (.ref sB), .val (.int vv), .val (.int (vv + 32)), .val (.ref u)] [])) (fun t k => XS.astore X10.here hx rfl (hb hby at_53) rfl rfl (l' := #[.val (.int p1), .val (.int p2), .val (.ref sB), .val (.int vv), .val (.int (vv + 32)), .val (.ref u)]) rfl k) ?_
    refine own_go (W1 := T10.setTop (mkF m 56 #[.val (.int p1), .val (.int p2), .val (.ref sB), .val (.int vv), .val (.int (vv + 32)), .val (.ref u)] [(.ref sB)])) (fun t k => XS.aloadN X10.here hx rfl (hb hby at_55) rfl rfl  k) ?_
    refine own_go (W1 := T10.setTop (mkF m 58 #[.val (.int p1), .val (.int p2), .val (.ref sB), .val (.int vv), .val (.int (vv + 32)), .val (.ref u)] [(.ref u), (.ref sB)])) (fun t k => XS.aload X10.here hx rfl (hb hby at_56) rfl rfl  k) ?_
    refine own_go (W1 := T10.setTop (mkF m 59 #[.val (.int p1), .val (.int p2), .val (.ref sB), .val (.int vv), .val (.int (vv + 32)), .val (.ref u)] [(.int (0 : Int32)), (.ref u), (.ref sB)])) (fun t k => XS.iconst X10.here hx rfl (hb hby at_58) k) ?_
    obtain ⟨cq11, kq11, q11a, q11b, q11c⟩ := isOf hZ e10 E_B
    obtain ⟨_, _, ⟨T11, L11, k11, n11⟩, -, X11, ⟨Lc11, hQ11, l11, y11, z11⟩, st11⟩ := X10.virtualBack hx (y := (⟨"com/example/quietzone/quietzone/code128/CodeSet", "carries", "([II)Z"⟩ : MethodName)) (z := (⟨"com/example/quietzone/quietzone/code128/CodeSet", "carries", "([II)Z"⟩ : MethodName)) hown (mvT hZ (hw _ (List.mem_of_getElem? (i := 12) rfl))) (mvT hZ (hw _ (List.mem_of_getElem? (i := 13) rfl))) (notFace_of_selects (args := #[]) (mvT hZ (hw _ (List.mem_of_getElem? (i := 15) rfl)))) (mvT hZ (hw _ (List.mem_of_getElem? (i := 15) rfl))) (mvT hZ (hw _ (List.mem_of_getElem? (i := 14) rfl))) (by decide) (backOf (W := 0) (rm2B l Z a0 hw [] sB u k9 (vv + 32) h10 n0 Z10 E_B F_B V_u (own_notm1 (by omega))) hZ (hw _ (List.mem_of_getElem? (i := 16) rfl)) (hw _ (List.mem_of_getElem? (i := 1) rfl)) (by decide) (by decide)) q11a q11c (g := (mkF m 59 #[.val (.int p1), .val (.int p2), .val (.ref sB), .val (.int vv), .val (.int (vv + 32)), .val (.ref u)] [(.int (0 : Int32)), (.ref u), (.ref sB)])) rfl (by rw [hml]; rfl) (Steps.refl _) (argsL := [(.ref u), (.int (0 : Int32))]) (rest := []) (lenOf own_pd1 rfl) rfl (by show 2 * 0 + _ ≤ _; exact Nat.le_of_eq rfl) (hb hby at_59) (fun _ _ => ⟨rfl, e10, (by decide : 1 + 0 ≤ _), (by decide : 1 + 0 ≤ _)⟩)
    dsimp only [Pt.U, Pt.locs, Pt.cells, Pt.slots] at X11 l11 y11 z11 st11 hQ11
    subst l11 y11 z11
    obtain ⟨rfl, Nq11, eh11⟩ := hQ11
    have N11 := Fr.app N10 Nq11
    refine own_tr (W1 := T11.setTop (mkF m 62 #[.val (.int p1), .val (.int p2), .val (.ref sB), .val (.int vv), .val (.int (vv + 32)), .val (.ref u)] [(.int (own_b2i (¬ (vv + 32) % 128 < 32)))])) st11 ?_
    refine own_go (W1 := T11.setTop (mkF m 65 #[.val (.int p1), .val (.int p2), .val (.ref sB), .val (.int vv), .val (.int (vv + 32)), .val (.ref u)] [])) (fun t k => XS.ifNo X11.here hx rfl (hb hby at_62) rfl ((if0 _ _).trans (feq (show ¬ ((own_b2i (¬ (vv + 32) % 128 < 32)) = (0 : Int32)) from (by rw [own_b1 (by rw [own_same (by omega), Int32.lt_iff_toInt_lt]; exact fun q => absurd hh.1.1 (Int.not_le.mpr q))]; decide))).1) k) ?_
    refine own_go (W1 := T11.setTop (mkF m 66 #[.val (.int p1), .val (.int p2), .val (.ref sB), .val (.int vv), .val (.int (vv + 32)), .val (.ref u)] [(.ref sB)])) (fun t k => XS.aloadN X11.here hx rfl (hb hby at_65) rfl rfl  k) ?_
    refine own_go (W1 := T11.setTop (mkF m 68 #[.val (.int p1), .val (.int p2), .val (.ref sB), .val (.int vv), .val (.int (vv + 32)), .val (.ref u)] [(.ref u), (.ref sB)])) (fun t k => XS.aload X11.here hx rfl (hb hby at_66) rfl rfl  k) ?_
    refine own_go (W1 := T11.setTop (mkF m 69 #[.val (.int p1), .val (.int p2), .val (.ref sB), .val (.int vv), .val (.int (vv + 32)), .val (.ref u)] [(.int (0 : Int32)), (.ref u), (.ref sB)])) (fun t k => XS.iconst X11.here hx rfl (hb hby at_68) k) ?_
    obtain ⟨cq12, kq12, q12a, q12b, q12c⟩ := isOf hZ eh11 E_B
    obtain ⟨_, _, ⟨T12, L12, k12, n12⟩, -, X12, ⟨Lc12, hQ12, l12, y12, z12⟩, st12⟩ := X11.virtualBack hx (y := (⟨"com/example/quietzone/quietzone/code128/CodeSet", "valueAt", "([II)I"⟩ : MethodName)) (z := (⟨"com/example/quietzone/quietzone/code128/CodeSet", "valueAt", "([II)I"⟩ : MethodName)) hown (mvT hZ (hw _ (List.mem_of_getElem? (i := 26) rfl))) (mvT hZ (hw _ (List.mem_of_getElem? (i := 27) rfl))) (notFace_of_selects (args := #[]) (mvT hZ (hw _ (List.mem_of_getElem? (i := 29) rfl)))) (mvT hZ (hw _ (List.mem_of_getElem? (i := 29) rfl))) (mvT hZ (hw _ (List.mem_of_getElem? (i := 28) rfl))) (by decide) (backOf (W := 0) (rm4B l Z a0 hw [] sB u k9 (vv + 32) h10 n0 Z10 E_B F_B V_u (own_notm1 (by omega))) hZ (hw _ (List.mem_of_getElem? (i := 30) rfl)) (hw _ (List.mem_of_getElem? (i := 1) rfl)) (by decide) (by decide)) q12a q12c (g := (mkF m 69 #[.val (.int p1), .val (.int p2), .val (.ref sB), .val (.int vv), .val (.int (vv + 32)), .val (.ref u)] [(.int (0 : Int32)), (.ref u), (.ref sB)])) rfl (by rw [hml]; rfl) (Steps.refl _) (argsL := [(.ref u), (.int (0 : Int32))]) (rest := []) (lenOf own_pd3 rfl) rfl (by show 2 * 0 + _ ≤ _; exact Nat.le_of_eq rfl) (hb hby at_69) (fun _ _ => ⟨rfl, eh11, (by decide : 1 + 0 ≤ _), (by decide : 1 + 0 ≤ _)⟩)
    dsimp only [Pt.U, Pt.locs, Pt.cells, Pt.slots] at X12 l12 y12 z12 st12 hQ12
    subst l12 y12 z12
    obtain ⟨rfl, Nq12, eh12⟩ := hQ12
    have N12 := Fr.app N11 Nq12
    refine own_tr (W1 := T12.setTop (mkF m 72 #[.val (.int p1), .val (.int p2), .val (.ref sB), .val (.int vv), .val (.int (vv + 32)), .val (.ref u)] [(.int ((vv + 32) % 128 - 32))])) st12 ?_
    refine own_go (W1 := T12.setTop (mkF m 73 #[.val (.int p1), .val (.int p2), .val (.ref sB), .val (.int vv), .val (.int (vv + 32)), .val (.ref u)] [(.int vv), (.int ((vv + 32) % 128 - 32))])) (fun t k => XS.iloadN X12.here hx rfl (hb hby at_72) rfl  k) ?_
    refine own_go (W1 := T12.setTop (mkF m 76 #[.val (.int p1), .val (.int p2), .val (.ref sB), .val (.int vv), .val (.int (vv + 32)), .val (.ref u)] [])) (fun t k => XS.icmpNo X12.here hx rfl (hb hby at_73) rfl (teq (show ((vv + 32) % 128 - 32) = vv from hh.2)).2 k) ?_
    refine own_go (W1 := T12.setTop (mkF m 77 #[.val (.int p1), .val (.int p2), .val (.ref sB), .val (.int vv), .val (.int (vv + 32)), .val (.ref u)] [(.int (1 : Int32))])) (fun t k => XS.iconst X12.here hx rfl (hb hby at_76) k) ?_
    refine own_go (W1 := T12.setTop (mkF m 81 #[.val (.int p1), .val (.int p2), .val (.ref sB), .val (.int vv), .val (.int (vv + 32)), .val (.ref u)] [(.int (1 : Int32))])) (fun t k => XS.goto X12.here hx rfl (pc0 := 77) (pc' := 81) rfl (hb hby at_77) (by decide) (by decide) k) ?_
    exact own_retN X12 hx (t := .boolean) Bd.returns (by simp) (hb hby at_81) hlk (by decide) (by decide) ⟨rfl, N12⟩
set_option maxRecDepth 65536 in
set_option maxHeartbeats 40000000 in
theorem comes_1 {Post : Tables → Env → Array Value → State → Outcome → State → Prop} (hpost : ∀ tb e args s v u, (limb_1_1.after args s (.returned v) u = true ∧ limb_1_2.after args s (.returned v) u = true ∧ True) → FrameEnd s (.returned v) u (Jvm.fieldLocs frame_1_writes args s ++ Jvm.arrayLocs frame_1_arrays args s ++ Jvm.staticLocs frame_1_statics s) 16 128 → Post tb e args s (.returned v) u) :
    ArmFor flags0 classFile x code maxLocals ret World_1 tables_1 room_1 Calls_1 rest_1 Pre_1 Post := by
  intro l hfl _ _ p e ha hc hk s m args below hf hA hF happ hP
  obtain ⟨hcalls, hrest, hpre⟩ := hP
  obtain ⟨-, -, -, hnamed, -, -, -, hat⟩ := (Spec.applies_iff hf).mp happ
  obtain ⟨hg, hn⟩ := and_e (Cond.before_iff.mp (show (Jvm.Cond.and given_1 narrow_1).before args s = true from hpre))
  obtain ⟨gc, hg⟩ := and_e hg
  obtain ⟨ga0, hg⟩ := and_e hg
  have ga1 := hg
  obtain ⟨w0, w1, rfl⟩ : ∃ w0 w1 : Value, args = #[w0, w1] := by
    have hs : args.size = 2 := by simpa [Cond.value, given_1] using gc
    obtain ⟨L⟩ := args
    match L, hs with
    | [w0, w1], _ => exact ⟨w0, w1, rfl⟩
  have hw := fun d (hd : d ∈ tables_1) => atoms_spec (ws := Jvm.Cond.code x code maxLocals ret :: tables_1) hat d (List.mem_cons_of_mem _ hd)
  have hfit : Fit s := fun {y c} hc i hi => by
    obtain ⟨ha, rfl⟩ := Array.getElem?_eq_some_iff.mp hc
    have q := List.all_eq_true.mp ((Array.all_eq_true_iff_forall_mem.mp hF) _ (Array.getElem_mem ha)) i (List.mem_range.mpr hi)
    simpa [Array.getElem?_eq_getElem hi] using q
  obtain ⟨i0, ei0⟩ := is_v ga0
  obtain rfl : w0 = (.int i0) := Option.some.inj ei0
  obtain ⟨i1, ei1⟩ := is_v ga1
  obtain rfl : w1 = (.int i1) := Option.some.inj ei1
  obtain ⟨nw0, hn⟩ := and_e hn
  obtain ⟨nw1, hn⟩ := and_e hn
  obtain ⟨nw2, hn⟩ := and_e hn
  have nw3 := hn
  obtain ⟨sA, ev_A⟩ := exa_v nw0
  have E_A := Exa.start ev_A nw0
  have S_A := Sta.start ev_A (Or.inr ⟨(hw _ (List.mem_of_getElem? (i := 1) rfl)), (hw _ (List.mem_of_getElem? (i := 2) rfl))⟩)
  obtain ⟨sB, ev_B⟩ := exa_v nw1
  have E_B := Exa.start ev_B nw1
  have S_B := Sta.start ev_B (Or.inr ⟨(hw _ (List.mem_of_getElem? (i := 1) rfl)), (hw _ (List.mem_of_getElem? (i := 10) rfl))⟩)
  have F_A : Fld s s.heap sA "java/lang/Enum" "ordinal" "I" (.int 0) := Fld.start ((fld_at ev_A).symm.trans (Cond.eq_int (beq_iff_eq.mpr nw2) rfl))
  have F_B : Fld s s.heap sB "java/lang/Enum" "ordinal" "I" (.int 1) := Fld.start ((fld_at ev_B).symm.trans (Cond.eq_int (beq_iff_eq.mpr nw3) rfl))
  obtain ⟨n, o, h1, h2, h3, _, L, rfl, ⟨rfl, N⟩, hq⟩ := rm0 l s _ hw tables_1 i0 i1 sA sB s.heap s.heap.size (Nat.le_refl _) S_A E_A F_A S_B E_B F_B p e ha hc hk s m _ below hf ((Spec.applies_iff_loose hf).mp happ).1 ⟨rfl, State.Warmed39.refl s, rfl⟩ trivial
  refine ⟨n, _, h1, h2, h3, hpost _ _ _ _ _ _ ⟨Cond.after_iff.mpr rfl, Cond.after_iff.mpr (eq_i res_at (Term.int_eval (1)) rfl), trivial⟩ ⟨hq.1, hq.2.1, (hq.2.2.sift fun y hy => Or.inr (N y hy)).mono (by decide) (by decide)⟩⟩
theorem main_1_1 : Claimed_1_1 := comes_1 fun _ _ _ _ _ _ h hF => ⟨h.1, hF⟩
theorem main_1_2 : Claimed_1_2 := comes_1 fun _ _ _ _ _ _ h hF => ⟨h.2.1, hF⟩
end Jvm.Pilot.@@N@@
namespace Jvm.Pilot.@@N@@
open Jvm Jvm.ClassFile Sem Op Lib Jvm.Free Jvm.Stand Jvm.Pilot.@@N@@.Jvm.D
/-! MADE BY PROGRAM (witnessworld.py) out of the Statement's table words and the real class files: 12 classes; the members and pool entries that the words name. The judged class is class 1, her method 1. -/
namespace start1
open Jvm.ClassFile
def u (s : String) : CpInfo := .utf8 (stringToUtf16 s)
/-- a pool by its gaps: so many unusable entries, then the entry; so many at the end -/
def gap : Nat → List CpInfo → List CpInfo
  | 0, r => r
  | n + 1, r => .unusable :: gap n r
def poolList (es : List (Nat × CpInfo)) (last : Nat) : List CpInfo := es.foldr (fun e r => gap e.1 (e.2 :: r)) (gap last [])
def pool (es : List (Nat × CpInfo)) (last : Nat) : Array CpInfo := ⟨poolList es last⟩
def fileOf (pool : Array CpInfo) (this : Nat) (attrs : Array Attribute := #[]) (ms : Array MethodInfo := #[]) (fl : Nat := 33) (sup : Nat := 0) (ifs : Array Nat := #[]) (fds : Array FieldInfo := #[]) : ClassFile where
  minorVersion := 0
  majorVersion := 65
  constantPool := pool
  accessFlags := fl
  thisClass := this
  superClass := sup
  interfaces := ifs
  fields := fds
  methods := ms
  attributes := attrs
def plain (name : String) (sup : Option ClassId) : Class where
  name := name
  kind := .ordinary
  loader := none
  accessFlags := 33
  super := sup
  interfaces := #[]
  cf := none
  fields := #[]
  methods := #[]
  instanceTypes := #[]
  staticTypes := #[]
  resolved := #[]
  callSites := []
  init := .initialized
  statics := none
  mirror := none

def pool0 : Array CpInfo := pool [(5, u "<init>"), (0, u "()V"), (1, .class_ 10), (1, u "java/lang/Object")] 113

def k0m0 : Method := { name := "<init>", desc := "()V", sig := { parameters := [], returnType := none }, accessFlags := 1, code := none }
/-- java/lang/Object -/
def k0 : Class := { plain "java/lang/Object" none with
  accessFlags := 33
  interfaces := #[]
  cf := some (fileOf pool0 8 #[] #[{ accessFlags := 1, nameIndex := 5, descriptorIndex := 6, attributes := #[] }] 33 0 #[] #[])
  fields := #[]
  methods := #[k0m0]
  instanceTypes := #[]
  staticTypes := #[]
  resolved := Array.replicate 124 none
  statics := none }

def pool1 : Array CpInfo := pool [(2, .class_ 4), (1, u "java/lang/Object"), (0, u "<init>"), (0, u "()V"), (0, .fieldref 8 9), (0, .class_ 10), (0, .nameAndType 11 12), (0, u "com/example/quietzone/quietzone/code128/CodeSet"), (0, u "A"), (0, u "Lcom/example/quietzone/quietzone/code128/CodeSet;"), (0, .fieldref 8 14), (0, .nameAndType 15 12), (0, u "B"), (0, .integer 2147483647), (0, .methodref 8 18), (0, .nameAndType 19 20), (0, u "characterOf"), (0, u "(I)I"), (0, .methodref 8 22), (0, .nameAndType 23 24), (0, u "carries"), (0, u "([II)Z"), (0, .methodref 8 26), (0, .nameAndType 27 28), (0, u "valueAt"), (0, u "([II)I"), (0, .class_ 30), (0, u "com/example/quietzone/quietzone/code128/CodeSetCharacterOfPinLaw"), (2, u "law"), (0, u "(II)Z")] 5

def k1m0 : Method := { name := "<init>", desc := "()V", sig := { parameters := [], returnType := none }, accessFlags := 1, code := none }
def k1c1 : Code := { maxStack := 4, maxLocals := 6, code := code, exceptionTable := #[], attributes := #[] }
def k1m1 : Method := { name := "law", desc := "(II)Z", sig := { parameters := [.int, .int], returnType := some .boolean }, accessFlags := 9, code := some k1c1 }
/-- com/example/quietzone/quietzone/code128/CodeSetCharacterOfPinLaw -/
def k1 : Class := { plain "com/example/quietzone/quietzone/code128/CodeSetCharacterOfPinLaw" (some 0) with
  accessFlags := 49
  interfaces := #[]
  cf := some (fileOf pool1 29 #[] #[{ accessFlags := 1, nameIndex := 5, descriptorIndex := 6, attributes := #[] }, { accessFlags := 9, nameIndex := 33, descriptorIndex := 34, attributes := #[] }] 49 2 #[] #[])
  fields := #[]
  methods := #[k1m0, k1m1]
  instanceTypes := #[]
  staticTypes := #[]
  resolved := Array.replicate 40 none
  statics := none }

def pool2 : Array CpInfo := pool [(1, .class_ 2), (0, u "java/lang/constant/Constable"), (0, .class_ 4), (0, u "java/lang/Object")] 6

/-- java/lang/constant/Constable -/
def k2 : Class := { plain "java/lang/constant/Constable" (some 0) with
  accessFlags := 1537
  interfaces := #[]
  cf := some (fileOf pool2 1 #[] #[] 1537 3 #[] #[])
  fields := #[]
  methods := #[]
  instanceTypes := #[]
  staticTypes := #[]
  resolved := Array.replicate 11 none
  statics := none }

def pool3 : Array CpInfo := pool [(1, .class_ 2), (0, u "java/lang/Comparable"), (0, .class_ 4), (0, u "java/lang/Object")] 7

/-- java/lang/Comparable -/
def k3 : Class := { plain "java/lang/Comparable" (some 0) with
  accessFlags := 1537
  interfaces := #[]
  cf := some (fileOf pool3 1 #[] #[] 1537 3 #[] #[])
  fields := #[]
  methods := #[]
  instanceTypes := #[]
  staticTypes := #[]
  resolved := Array.replicate 12 none
  statics := none }

def pool4 : Array CpInfo := pool [(1, .class_ 2), (0, u "java/io/Serializable"), (0, .class_ 4), (0, u "java/lang/Object")] 2

/-- java/io/Serializable -/
def k4 : Class := { plain "java/io/Serializable" (some 0) with
  accessFlags := 1537
  interfaces := #[]
  cf := some (fileOf pool4 1 #[] #[] 1537 3 #[] #[])
  fields := #[]
  methods := #[]
  instanceTypes := #[]
  staticTypes := #[]
  resolved := Array.replicate 7 none
  statics := none }

def pool5 : Array CpInfo := pool [(2, .class_ 4), (1, u "java/lang/Enum"), (0, u "name"), (0, u "Ljava/lang/String;"), (0, .fieldref 2 8), (0, .nameAndType 9 10), (0, u "ordinal"), (0, u "I"), (1, .class_ 14), (1, u "java/lang/Object"), (4, u "hash"), (86, .class_ 108), (1, u "java/lang/Enum$EnumDesc"), (2, .class_ 112), (0, u "java/lang/constant/Constable"), (0, .class_ 114), (0, u "java/lang/Comparable"), (0, .class_ 116), (0, u "java/io/Serializable"), (9, u "()I")] 77

def k5c0 : Code := { maxStack := 1, maxLocals := 1, code := jdk_37_method_2_code, exceptionTable := #[], attributes := #[] }
def k5m0 : Method := { name := "ordinal", desc := "()I", sig := { parameters := [], returnType := some .int }, accessFlags := 17, code := some k5c0 }
/-- java/lang/Enum -/
def k5 : Class := { plain "java/lang/Enum" (some 0) with
  accessFlags := 1057
  interfaces := #[2, 3, 4]
  cf := some (fileOf pool5 2 #[.nestMembers #[106]] #[{ accessFlags := 17, nameIndex := 9, descriptorIndex := 126, attributes := #[] }] 1057 12 #[111, 113, 115] #[{ accessFlags := 18, nameIndex := 5, descriptorIndex := 6, attributes := #[] }, { accessFlags := 18, nameIndex := 9, descriptorIndex := 10, attributes := #[] }, { accessFlags := 2, nameIndex := 19, descriptorIndex := 10, attributes := #[] }])
  fields := #[{ name := "name", type := (.object "java/lang/String"), accessFlags := 18, slot := 0, constantValue := 0 }, { name := "ordinal", type := .int, accessFlags := 18, slot := 1, constantValue := 0 }, { name := "hash", type := .int, accessFlags := 2, slot := 2, constantValue := 0 }]
  methods := #[k5m0]
  instanceTypes := #[(.object "java/lang/String"), .int, .int]
  staticTypes := #[]
  resolved := Array.replicate 204 none
  statics := none }

def pool6 : Array CpInfo := pool [(1, .class_ 2), (0, u "com/example/quietzone/quietzone/code128/CodeSet"), (2, u "A"), (0, u "Lcom/example/quietzone/quietzone/code128/CodeSet;"), (0, .fieldref 1 8), (0, .nameAndType 9 6), (0, u "B"), (2, u "C"), (2, u "$VALUES"), (0, u "[Lcom/example/quietzone/quietzone/code128/CodeSet;"), (6, .class_ 25), (1, u "java/lang/Enum"), (8, u "start"), (0, u "I"), (2, u "code"), (14, .methodref 1 54), (0, .nameAndType 55 56), (0, u "ordinal"), (0, u "()I"), (18, u "SHIFT"), (2, u "FNC1"), (1, u "FNC1_VALUE"), (13, u "carries"), (0, u "([II)Z"), (0, u "valueAt"), (0, u "([II)I"), (1, u "characterOf"), (0, u "(I)I")] 7

def k6c0 : Code := { maxStack := 3, maxLocals := 4, code := prog_15_method_8_code, exceptionTable := #[], attributes := #[] }
def k6m0 : Method := { name := "carries", desc := "([II)Z", sig := { parameters := [(.array .int), .int], returnType := some .boolean }, accessFlags := 0, code := some k6c0 }
def k6c1 : Code := { maxStack := 4, maxLocals := 4, code := prog_15_method_9_code, exceptionTable := #[], attributes := #[] }
def k6m1 : Method := { name := "valueAt", desc := "([II)I", sig := { parameters := [(.array .int), .int], returnType := some .int }, accessFlags := 0, code := some k6c1 }
def k6c2 : Code := { maxStack := 2, maxLocals := 2, code := prog_15_method_11_code, exceptionTable := #[], attributes := #[] }
def k6m2 : Method := { name := "characterOf", desc := "(I)I", sig := { parameters := [.int], returnType := some .int }, accessFlags := 0, code := some k6c2 }
/-- com/example/quietzone/quietzone/code128/CodeSet -/
def k6 : Class := { plain "com/example/quietzone/quietzone/code128/CodeSet" (some 5) with
  accessFlags := 16432
  interfaces := #[]
  cf := some (fileOf pool6 1 #[] #[{ accessFlags := 0, nameIndex := 94, descriptorIndex := 95, attributes := #[] }, { accessFlags := 0, nameIndex := 96, descriptorIndex := 97, attributes := #[] }, { accessFlags := 0, nameIndex := 99, descriptorIndex := 100, attributes := #[] }] 16432 23 #[] #[{ accessFlags := 16409, nameIndex := 5, descriptorIndex := 6, attributes := #[] }, { accessFlags := 16409, nameIndex := 9, descriptorIndex := 6, attributes := #[] }, { accessFlags := 16409, nameIndex := 12, descriptorIndex := 6, attributes := #[] }, { accessFlags := 24, nameIndex := 75, descriptorIndex := 35, attributes := #[] }, { accessFlags := 24, nameIndex := 78, descriptorIndex := 35, attributes := #[] }, { accessFlags := 24, nameIndex := 80, descriptorIndex := 35, attributes := #[] }, { accessFlags := 18, nameIndex := 34, descriptorIndex := 35, attributes := #[] }, { accessFlags := 18, nameIndex := 38, descriptorIndex := 35, attributes := #[] }, { accessFlags := 4122, nameIndex := 15, descriptorIndex := 16, attributes := #[] }])
  fields := #[{ name := "A", type := (.object "com/example/quietzone/quietzone/code128/CodeSet"), accessFlags := 16409, slot := 0, constantValue := 0 }, { name := "B", type := (.object "com/example/quietzone/quietzone/code128/CodeSet"), accessFlags := 16409, slot := 1, constantValue := 0 }, { name := "C", type := (.object "com/example/quietzone/quietzone/code128/CodeSet"), accessFlags := 16409, slot := 2, constantValue := 0 }, { name := "SHIFT", type := .int, accessFlags := 24, slot := 3, constantValue := 0 }, { name := "FNC1", type := .int, accessFlags := 24, slot := 4, constantValue := 0 }, { name := "FNC1_VALUE", type := .int, accessFlags := 24, slot := 5, constantValue := 0 }, { name := "start", type := .int, accessFlags := 18, slot := 3, constantValue := 0 }, { name := "code", type := .int, accessFlags := 18, slot := 4, constantValue := 0 }, { name := "$VALUES", type := (.array (.object "com/example/quietzone/quietzone/code128/CodeSet")), accessFlags := 4122, slot := 6, constantValue := 0 }]
  methods := #[k6m0, k6m1, k6m2]
  instanceTypes := #[(.object "java/lang/String"), .int, .int, .int, .int]
  staticTypes := #[(.object "com/example/quietzone/quietzone/code128/CodeSet"), (.object "com/example/quietzone/quietzone/code128/CodeSet"), (.object "com/example/quietzone/quietzone/code128/CodeSet"), .int, .int, .int, (.array (.object "com/example/quietzone/quietzone/code128/CodeSet"))]
  resolved := Array.replicate 108 none
  statics := some 0 }

def pool7 : Array CpInfo := pool [(1, u "java/lang/Cloneable"), (0, .class_ 1), (0, u "java/lang/Object"), (0, .class_ 3)] 3

/-- java/lang/Cloneable -/
def k7 : Class := { plain "java/lang/Cloneable" (some 0) with
  accessFlags := 1537
  interfaces := #[]
  cf := some (fileOf pool7 2 #[] #[] 1537 4 #[] #[])
  fields := #[]
  methods := #[]
  instanceTypes := #[]
  staticTypes := #[]
  resolved := Array.replicate 8 none
  statics := none }

/-- the primitive byte -/
def k8 : Class := { plain "byte" none with kind := .primitive 'B', accessFlags := 0x411 }
/-- [B -/
def k9 : Class := { plain "[B" (some 0) with kind := .array 8 .byte, interfaces := #[7, 4], accessFlags := 1041 }

/-- the primitive int -/
def k10 : Class := { plain "int" none with kind := .primitive 'I', accessFlags := 0x411 }
/-- [I -/
def k11 : Class := { plain "[I" (some 0) with kind := .array 10 .int, interfaces := #[7, 4], accessFlags := 1041 }

def heap : Heap := #[{ cls := 6, slots := #[.ref 1, .ref 2, .null, .int 0, .int 0, .int 0, .null], vm := .statics 6 },
  { cls := 6, slots := #[.null, .int 0, .int 0, .int 0, .int 0], vm := .none },
  { cls := 6, slots := #[.null, .int 1, .int 0, .int 0, .int 0], vm := .none }]
def classes : Array Class := #[k0, k1, k2, k3, k4, k5, k6, k7, k8, k9, k10, k11]
def interned : List (Array UInt16 × Addr) := []
def slotsUsed : Nat := 17
def theMethod : MethodId := ⟨1, 1⟩
def args0 : Array Value := #[.int 3, .int 40]
def aboutOver (below : List Frame) : State where
  vm := { classes := classes, interned := interned.toArray }
  heap := heap
  slotsUsed := slotsUsed
  threads := #[{ frames := .invoking theMethod args0 :: below }]
def below0 : List Frame := [.native { method := ⟨0, 0⟩, args := #[] }]
def about1 : State := aboutOver below0
def p0 : Program := .bare "" "" ""
def e0 : Env := launch0.env 0 0 0
theorem w_frames : about1.frames = Frame.invoking theMethod args0 :: below0 := rfl
set_option maxRecDepth 65536 in
theorem w_args : argsFit about1.vm theMethod args0 = true := by decide +kernel
set_option maxRecDepth 65536 in
theorem w_heap : heapFits about1 = true := by decide +kernel
set_option maxRecDepth 65536 in
theorem w_runnable : about1.curStatus? = some .runnable := by decide +kernel
set_option maxRecDepth 65536 in
theorem w_alone : about1.alone = true := by decide +kernel
set_option maxRecDepth 65536 in
theorem w_named : about1.methodNamed? x = some theMethod := by decide +kernel
set_option maxRecDepth 65536 in
theorem w_hears : about1.hears theMethod below0 = true := by decide +kernel
set_option maxRecDepth 65536 in
theorem w_ripe : about1.ripe theMethod args0 below0 = true := by decide +kernel
theorem w_running : about1.status = .running := rfl
set_option maxRecDepth 65536 in
theorem w_room : about1.hasRoom e0.platform room_1 = true :=
  launch0.hasRoom_least _ room_1 (by decide +kernel) (by decide +kernel) (by decide +kernel) (by decide +kernel) (by decide +kernel) (by decide +kernel)
theorem allAtoms_all (ts : List Jvm.Cond) (a : Array Jvm.Value) (st : Jvm.State) : (allAtoms ts).before a st = ts.all (fun c => c.before a st) := by
  induction ts with
  | nil => rfl
  | cons c t ih =>
    show (Jvm.Cond.and c (allAtoms t)).before a st = _
    rw [Jvm.Cond.before_and, ih, List.all_cons]
def words1 : List Jvm.Cond := Jvm.Cond.code x code maxLocals ret :: tables_1
/-- a 'code' word, met by the world's own term for the bytes: nothing is compared byte by byte -/
theorem code_word {y : MethodName} {bytes : ByteArray} {mx : Nat} {rt : Option FieldType} {a : Array Value} {s : State} {m : MethodId} {meth : Method} {c : Code} (h1 : s.methodNamed? y = some m) (h2 : s.vm.method? m = some meth) (h3 : meth.code = some c) (h4 : c.code = bytes)
    (h5 : (c.maxLocals == mx && c.exceptionTable.isEmpty && decide (c.maxStack ≤ mostOperands) && decide (meth.sig.returnType = rt) && !meth.locks && decide (parseMethodDescriptor y.desc = some meth.sig)) = true) : (Jvm.Cond.code y bytes mx rt).before a s = true := by
  simp only [Bool.and_eq_true, beq_iff_eq, Bool.not_eq_true', decide_eq_true_eq] at h5
  obtain ⟨⟨⟨⟨⟨g1, g2⟩, g3⟩, g4⟩, g5⟩, g6⟩ := h5
  simp [Cond.before, Cond.holds, Cond.value, h1, h2, h3, h4, g1, g2, g3, g4, g5, g6]
def isCode : Jvm.Cond → Bool
  | .code _ _ _ _ => true
  | _ => false
theorem all_split {L : List Jvm.Cond} {P : Jvm.Cond → Bool} (h1 : L.all (fun c => isCode c || P c) = true) (h2 : ∀ c ∈ L.filter isCode, P c = true) : L.all P = true := by
  refine List.all_eq_true.mpr fun c hc => ?_
  have h := List.all_eq_true.mp h1 c hc
  rcases Bool.eq_false_or_eq_true (isCode c) with hi | hi
  · exact h2 c (List.mem_filter.mpr ⟨hc, hi⟩)
  · simpa [hi] using h
set_option maxRecDepth 65536 in
theorem w_c0 : (Jvm.Cond.code x code maxLocals ret).before args0 about1 = true := code_word (m := ⟨1, 1⟩) (meth := k1m1) (c := k1c1) (by decide +kernel) rfl rfl rfl (by decide +kernel)
set_option maxRecDepth 65536 in
theorem w_c1 : (Jvm.Cond.code ({ cls := "com/example/quietzone/quietzone/code128/CodeSet", name := "characterOf", desc := "(I)I" } : Jvm.MethodName) prog_15_method_11_code (2 : Nat) (Option.some Jvm.ClassFile.FieldType.int)).before args0 about1 = true := code_word (m := ⟨6, 2⟩) (meth := k6m2) (c := k6c2) (by decide +kernel) rfl rfl rfl (by decide +kernel)
set_option maxRecDepth 65536 in
theorem w_c2 : (Jvm.Cond.code ({ cls := "com/example/quietzone/quietzone/code128/CodeSet", name := "carries", desc := "([II)Z" } : Jvm.MethodName) prog_15_method_8_code (4 : Nat) (Option.some Jvm.ClassFile.FieldType.boolean)).before args0 about1 = true := code_word (m := ⟨6, 0⟩) (meth := k6m0) (c := k6c0) (by decide +kernel) rfl rfl rfl (by decide +kernel)
set_option maxRecDepth 65536 in
theorem w_c3 : (Jvm.Cond.code ({ cls := "java/lang/Enum", name := "ordinal", desc := "()I" } : Jvm.MethodName) jdk_37_method_2_code (1 : Nat) (Option.some Jvm.ClassFile.FieldType.int)).before args0 about1 = true := code_word (m := ⟨5, 0⟩) (meth := k5m0) (c := k5c0) (by decide +kernel) rfl rfl rfl (by decide +kernel)
set_option maxRecDepth 65536 in
theorem w_c4 : (Jvm.Cond.code ({ cls := "com/example/quietzone/quietzone/code128/CodeSet", name := "valueAt", desc := "([II)I" } : Jvm.MethodName) prog_15_method_9_code (4 : Nat) (Option.some Jvm.ClassFile.FieldType.int)).before args0 about1 = true := code_word (m := ⟨6, 1⟩) (meth := k6m1) (c := k6c1) (by decide +kernel) rfl rfl rfl (by decide +kernel)
def codes1 : List Jvm.Cond := [Jvm.Cond.code x code maxLocals ret, Jvm.Cond.code ({ cls := "com/example/quietzone/quietzone/code128/CodeSet", name := "characterOf", desc := "(I)I" } : Jvm.MethodName) prog_15_method_11_code (2 : Nat) (Option.some Jvm.ClassFile.FieldType.int), Jvm.Cond.code ({ cls := "com/example/quietzone/quietzone/code128/CodeSet", name := "carries", desc := "([II)Z" } : Jvm.MethodName) prog_15_method_8_code (4 : Nat) (Option.some Jvm.ClassFile.FieldType.boolean), Jvm.Cond.code ({ cls := "java/lang/Enum", name := "ordinal", desc := "()I" } : Jvm.MethodName) jdk_37_method_2_code (1 : Nat) (Option.some Jvm.ClassFile.FieldType.int), Jvm.Cond.code ({ cls := "com/example/quietzone/quietzone/code128/CodeSet", name := "valueAt", desc := "([II)I" } : Jvm.MethodName) prog_15_method_9_code (4 : Nat) (Option.some Jvm.ClassFile.FieldType.int)]
set_option maxRecDepth 65536 in
theorem codes_eq : words1.filter isCode = codes1 := rfl
theorem w_codes : ∀ c ∈ words1.filter isCode, c.before args0 about1 = true := by
  rw [codes_eq]
  intro c hc
  simp only [codes1, List.mem_cons, List.not_mem_nil, or_false] at hc
  rcases hc with rfl | rfl | rfl | rfl | rfl
  · exact w_c0
  · exact w_c1
  · exact w_c2
  · exact w_c3
  · exact w_c4
set_option maxRecDepth 65536 in
theorem w_t1 : (words1.take 24).all (fun c => isCode c || c.before args0 about1) = true := by decide +kernel
set_option maxRecDepth 65536 in
theorem w_t2 : (words1.drop 24).all (fun c => isCode c || c.before args0 about1) = true := by decide +kernel
theorem w_tables : (allAtoms (Jvm.Cond.code x code maxLocals ret :: tables_1)).before args0 about1 = true := by
  rw [allAtoms_all]
  show words1.all (fun c => c.before args0 about1) = true
  refine all_split ?_ w_codes
  rw [← List.take_append_drop 24 words1, List.all_append, w_t1, w_t2]
  rfl
set_option maxRecDepth 65536 in
theorem w_case : (Jvm.Cond.and given_1 narrow_1).before args0 about1 = true := by decide +kernel
theorem w_applies : (headSpec (Jvm.Cond.code x code maxLocals ret :: tables_1) room_1).applies x e0.platform about1 = true :=
  (Spec.applies_iff w_frames).mpr ⟨w_running, w_runnable, w_alone, w_named, w_hears, w_ripe, w_room, w_tables⟩
theorem atStart : AtStart classFile x code maxLocals ret World_1 tables_1 room_1 Calls_1 rest_1 Pre_1 launch0 p0 e0 about1 theMethod args0 below0 :=
  ⟨lists_1, trivial, launch0.admits_env _ _ _, launch0.least_env, fairChoices_fair.cas, fairChoices_fair.clock, w_frames, w_args, w_heap, w_applies, trivial, trivial, w_case⟩
end start1
theorem witness_1 : WitnessClaimed_1 := ⟨start1.p0, start1.e0, start1.about1, start1.theMethod, start1.args0, start1.below0, start1.atStart⟩
end Jvm.Pilot.@@N@@
