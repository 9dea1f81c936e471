import JvmDerived
import JvmDerived.Pilot.@@N@@Statement
import JvmDerived.Pilot.@@N@@Code
set_option linter.unusedVariables false
set_option linter.unusedSimpArgs false
namespace Jvm.Pilot.@@N@@
open Jvm Jvm.ClassFile Sem Op Lib Jvm.Free Jvm.Stand Jvm.LawKit Jvm.RoadKit Bundle Jvm.Pilot.@@N@@.Jvm.D
/-! own_Ends: from here the run comes to its return, and what it leaves is as Qf says -/
def own_Ends (p : Program) (e : Env) (below : List Frame) (s : State) (Qf : Option Value → Heap → List Loc → Prop) (ce sl : Nat) (W : State) : Prop :=
  ∃ U o, Steps p.tables e below W U ∧ U.status = .running ∧ Ended U below o ∧ ∃ v L, o = .returned v ∧ Qf v U.heap L ∧ FrameEnd s o U L ce sl
section Own
variable {p : Program} {l : Launch} {e : Env} {R : Room} {s : State} {m : MethodId} {args : Array Value} {below : List Frame} {meth : Method} {c : Code} {T : State} {locs : List Loc} {cells slots : Nat} {Qf : Option Value → Heap → List Loc → Prop} {ce sl : Nat} {W0 W1 : State}
theorem own_go (h : ∀ t, Steps p.tables e below W1 t → Steps p.tables e below W0 t) (k : own_Ends p e below s Qf ce sl W1) : own_Ends p e below s Qf ce sl W0 := by
  obtain ⟨U, o, h1, h2⟩ := k
  exact ⟨U, o, h _ h1, h2⟩
theorem own_tr (h : Steps p.tables e below W0 W1) (k : own_Ends p e below s Qf ce sl W1) : own_Ends p e below s Qf ce sl W0 := own_go (fun t k => h.trans k) k
theorem own_st {t : State} (h : ∀ t, Steps p.tables e below W1 t → Steps p.tables e below W0 t) (k : Steps p.tables e below W1 t) : Steps p.tables e below W0 t := h t k
theorem own_done (X : Stand p l e R s m args below meth c T locs cells slots) {v : Option Value} (hv : meth.sig.returnType = none → v = none) (hlk : meth.locks = false) (hc : cells ≤ ce) (hs : slots ≤ sl) (hQ : Qf v T.heap locs)
    (h : ∀ fs, (∀ (f : JFrame) (acts : List Action), f.method = m → f.locked = none → f.entered = [] → (doReturn e (T.setTop f) acts v).1 = T.setFrames fs) → Steps p.tables e below W0 (T.setFrames fs)) : own_Ends p e below s Qf ce sl W0 := by
  obtain ⟨fs, hr, hrun, hended, hW, hsame⟩ := X.leave (v := v) hv hlk
  exact ⟨_, _, h fs hr, hrun, hended, _, _, rfl, hQ, ⟨_, rfl⟩, hW, hsame.mono hc hs⟩
theorem own_some {t : FieldType} {v : Option Value} (hret : meth.sig.returnType = some t) : meth.sig.returnType = none → v = none := fun h => by rw [hret] at h; cases h
theorem own_retI (X : Stand p l e R s m args below meth c T locs cells slots) (hx : p.tables.exec = Jvm.exec) {pc : Nat} {Ls : Array Slot} {z : Int32} {rest : List Value} (hret : meth.sig.returnType = some .int) (hd : decode c.code pc = .ok (.ireturn, 1)) (hlk : meth.locks = false) (hc : cells ≤ ce) (hs : slots ≤ sl) (hQ : Qf (some (.int z)) T.heap locs) :
    own_Ends p e below s Qf ce sl (T.setTop (mkF m pc Ls (.int z :: rest))) :=
  own_done X (own_some hret) hlk hc hs hQ fun fs hr => retOut X hx hret rfl (Or.inl ⟨rfl, Or.inl rfl, _, rfl⟩) hd hr
theorem own_retN (X : Stand p l e R s m args below meth c T locs cells slots) (hx : p.tables.exec = Jvm.exec) {pc : Nat} {Ls : Array Slot} {z : Int32} {t : FieldType} {rest : List Value} (hret : meth.sig.returnType = some t) (ht : t = .boolean ∨ t = .byte ∨ t = .char ∨ t = .short) (hd : decode c.code pc = .ok (.ireturn, 1)) (hlk : meth.locks = false) (hc : cells ≤ ce) (hs : slots ≤ sl) (hQ : Qf (some (.int (nar t z))) T.heap locs) :
    own_Ends p e below s Qf ce sl (T.setTop (mkF m pc Ls (.int z :: rest))) :=
  own_done X (own_some hret) hlk hc hs hQ fun fs hr => retN X hx hret ht hd hr
theorem own_retJ (X : Stand p l e R s m args below meth c T locs cells slots) (hx : p.tables.exec = Jvm.exec) {pc : Nat} {Ls : Array Slot} {z : Int64} {rest : List Value} (hret : meth.sig.returnType = some .long) (hd : decode c.code pc = .ok (.lreturn, 1)) (hlk : meth.locks = false) (hc : cells ≤ ce) (hs : slots ≤ sl) (hQ : Qf (some (.long z)) T.heap locs) :
    own_Ends p e below s Qf ce sl (T.setTop (mkF m pc Ls (.long z :: rest))) :=
  own_done X (own_some hret) hlk hc hs hQ fun fs hr => retOut X hx hret rfl (Or.inr (Or.inl ⟨rfl, rfl, _, rfl⟩)) hd hr
theorem own_retD (X : Stand p l e R s m args below meth c T locs cells slots) (hx : p.tables.exec = Jvm.exec) {pc : Nat} {Ls : Array Slot} {z : UInt64} {rest : List Value} (hret : meth.sig.returnType = some .double) (hd : decode c.code pc = .ok (.dreturn, 1)) (hlk : meth.locks = false) (hc : cells ≤ ce) (hs : slots ≤ sl) (hQ : Qf (some (.double z)) T.heap locs) :
    own_Ends p e below s Qf ce sl (T.setTop (mkF m pc Ls (.double z :: rest))) :=
  own_done X (own_some hret) hlk hc hs hQ fun fs hr => retOut X hx hret rfl (Or.inr (Or.inr (Or.inl ⟨rfl, rfl, _, rfl⟩))) hd hr
theorem own_retR (X : Stand p l e R s m args below meth c T locs cells slots) (hx : p.tables.exec = Jvm.exec) {pc : Nat} {Ls : Array Slot} {w : Value} {t : FieldType} {rest : List Value} (hret : meth.sig.returnType = some t) (ht : t.isReference = true) (hw : w.isRef = true) (hd : decode c.code pc = .ok (.areturn, 1)) (hlk : meth.locks = false) (hc : cells ≤ ce) (hs : slots ≤ sl) (hQ : Qf (some w) T.heap locs) :
    own_Ends p e below s Qf ce sl (T.setTop (mkF m pc Ls (w :: rest))) :=
  own_done X (own_some hret) hlk hc hs hQ fun fs hr => retOut X hx hret (by cases t <;> first | rfl | (simp [FieldType.isReference] at ht)) (Or.inr (Or.inr (Or.inr (Or.inr ⟨rfl, ht, hw⟩)))) hd hr
theorem own_retV (X : Stand p l e R s m args below meth c T locs cells slots) (hx : p.tables.exec = Jvm.exec) {pc : Nat} {Ls : Array Slot} (hret : meth.sig.returnType = none) (hd : decode c.code pc = .ok (.return_, 1)) (hlk : meth.locks = false) (hc : cells ≤ ce) (hs : slots ≤ sl) (hQ : Qf none T.heap locs) :
    own_Ends p e below s Qf ce sl (T.setTop (mkF m pc Ls [])) :=
  own_done X (fun _ => rfl) hlk hc hs hQ fun fs hr => X.returnOut hx hret hd hr
def own_b2i (P : Prop) [Decidable P] : Int32 := if P then 1 else 0
theorem own_b1 {P : Prop} [Decidable P] (h : P) : own_b2i P = 1 := if_pos h
theorem own_b0 {P : Prop} [Decidable P] (h : ¬ P) : own_b2i P = 0 := if_neg h
end Own
abbrev own_fit (w1 w2 p : Int32) : Prop := ¬ w1 = 0 ∧ ¬ p < w2
def own_Q1 (w1 w2 p1 : Int32) (h0 : Heap) (n0 : Nat) (v : Option Value) (h : Heap) (L : List Loc) : Prop := v = some (.int (own_b2i (own_fit w1 w2 p1))) ∧ Fr n0 L ∧ h = h0
def own_Q0 (n0 : Nat) (v : Option Value) (h : Heap) (L : List Loc) : Prop := v = some (.int 1) ∧ Fr n0 L
def own_by (s b : Int32) : Int32 := if (((s.toUInt32 >>> ((3 : Int32) &&& 31).toUInt32).toInt32) &&& (1 : Int32)) = 0 then b else b % 70
theorem own_pn_com_example_tokenspan_tokenspan_tokens_JwsAlgorithm : plainName "com/example/tokenspan/tokenspan/tokens/JwsAlgorithm" = true := by first | (simp [plainName, overriddenIn]; done) | decide +kernel
theorem d1_0 : decode prog_35_method_6_code 0 = .ok (.aload_n 0, 1) := by decide +kernel
theorem d1_1 : decode prog_35_method_6_code 1 = .ok (.getfield 41, 3) := by decide +kernel
theorem d1_4 : decode prog_35_method_6_code 4 = .ok (.ifCond .eq 15, 3) := by decide +kernel
theorem d1_19 : decode prog_35_method_6_code 19 = .ok (.iconst 0, 1) := by decide +kernel
theorem d1_20 : decode prog_35_method_6_code 20 = .ok (.ireturn, 1) := by decide +kernel
theorem d1_7 : decode prog_35_method_6_code 7 = .ok (.iload_n 1, 1) := by decide +kernel
theorem d1_8 : decode prog_35_method_6_code 8 = .ok (.aload_n 0, 1) := by decide +kernel
theorem d1_9 : decode prog_35_method_6_code 9 = .ok (.getfield 45, 3) := by decide +kernel
theorem d1_12 : decode prog_35_method_6_code 12 = .ok (.if_icmp .lt 7, 3) := by decide +kernel
theorem d1_15 : decode prog_35_method_6_code 15 = .ok (.iconst 1, 1) := by decide +kernel
theorem d1_16 : decode prog_35_method_6_code 16 = .ok (.goto 4, 3) := by decide +kernel
theorem ef_rm1 (m : MethodId) (x0 : Addr) (x1 : Int32)  : entryFrame m #[(.ref x0), (.int x1)] 2 = mkF m 0 #[.val (.ref x0), .val (.int x1)] [] := by first | (simp [entryFrame, mkF, argsToLocals, Value.category]; done) | rfl
set_option maxRecDepth 65536 in
set_option maxHeartbeats 40000000 in
theorem rm1 (l : Launch) (Z : State) (a0 : Array Value) (hw : ∀ d ∈ tables_1, d.before a0 Z = true) (ws : List Jvm.Cond) (a1 : Addr) (w1 w2 p1 : Int32) (h0 : Heap) (n0 : Nat) (Z0 : n0 ≤ h0.size) (F_hmac : Fld Z h0 a1 "com/example/tokenspan/tokenspan/tokens/JwsAlgorithm" "hmac" "Z" (.int w1)) (F_hash : Fld Z h0 a1 "com/example/tokenspan/tokenspan/tokens/JwsAlgorithm" "hashBytes" "I" (.int w2)) :
    MetFree l (⟨"com/example/tokenspan/tokenspan/tokens/JwsAlgorithm", "fitsSecret", "(I)Z"⟩ : MethodName) (head1 (Jvm.Cond.code (⟨"com/example/tokenspan/tokenspan/tokens/JwsAlgorithm", "fitsSecret", "(I)Z"⟩ : MethodName) prog_35_method_6_code 2 (some .boolean) :: ws) ({ frames := 0, cells := 0, slots := 0, locals := 0 } : Room)) (fun a U => a = #[(.ref a1), (.int p1)] ∧ Z.Warmed39 U.vm ∧ U.heap = h0) (fun _ _ _ _ _ => True) (fun _ U o U' => ∃ v L, o = .returned v ∧ own_Q1 w1 w2 p1 h0 n0 v U'.heap L ∧ FrameEnd U o U' L ({ frames := 0, cells := 0, slots := 0, locals := 0 } : Room).cells ({ frames := 0, cells := 0, slots := 0, locals := 0 } : Room).slots) := by
  refine MetFree.of_bodySF (plainFor_of_name own_pn_com_example_tokenspan_tokenspan_tokens_JwsAlgorithm) hisR ?_
  intro p e s m args below meth c s₁ Bd hml0 hP hK
  obtain ⟨rfl, hZ, hh⟩ := hP
  have hx := Bd.exec
  have hby := Bd.bytes
  have hlk := BodyLoose.notSynchronized Bd
  have hml : c.maxLocals = 2 := hml0
  have hown : s.vm.findClass "com/example/tokenspan/tokenspan/tokens/JwsAlgorithm" = some m.cls := findClass_of_methodNamed Bd.named
  have hnm := (name_of_methodNamed Bd.named Bd.method).1
  have X0 : Stand p l e ({ frames := 0, cells := 0, slots := 0, locals := 0 } : Room) s m #[(.ref a1), (.int p1)] below meth c s₁ [] 0 0 := Stand.of_body Bd
  have e0 : s₁.heap = h0 := by rw [← hh, Bd.state]; rfl
  have N0 := Fr.nil n0
  show own_Ends p e below s (own_Q1 w1 w2 p1 h0 n0) 0 0 (s₁.setTop (entryFrame m #[(.ref a1), (.int p1)] 2))
  refine own_go (W1 := s₁.setTop (mkF m 0 #[.val (.ref a1), .val (.int p1)] [])) (fun t k => castTop (ef_rm1 m a1 p1 ) k) ?_
  refine own_go (W1 := s₁.setTop (mkF m 1 #[.val (.ref a1), .val (.int p1)] [(.ref a1)])) (fun t k => XS.aloadN X0.here hx rfl (hb hby d1_0) rfl rfl  k) ?_
  obtain ⟨T1, X1, e1, st1⟩ := getF X0 hx hZ hown (host := "") (Or.inl (hw _ (List.mem_of_getElem? (i := 8) rfl))) Via.refl e0 F_hmac (g := (mkF m 1 #[.val (.ref a1), .val (.int p1)] [(.ref a1)])) rfl rfl (hb hby d1_1)
  refine own_go (W1 := T1.setTop (mkF m 4 #[.val (.ref a1), .val (.int p1)] [(.int w1)])) (st1) ?_
  by_cases hc4_1 : w1 = (0 : Int32)
  · skip
    refine own_go (W1 := T1.setTop (mkF m 19 #[.val (.ref a1), .val (.int p1)] [])) (fun t k => XS.ifYes X1.here hx rfl (pc0 := 4) (pc' := 19) rfl (hb hby d1_4) rfl ((if0 _ _).trans (teq (show w1 = (0 : Int32) from hc4_1)).1) (by decide) (by decide) k) ?_
    refine own_go (W1 := T1.setTop (mkF m 20 #[.val (.ref a1), .val (.int p1)] [(.int (0 : Int32))])) (fun t k => XS.iconst X1.here hx rfl (hb hby d1_19) k) ?_
    exact own_retN X1 hx (t := .boolean) Bd.returns (by simp) (hb hby d1_20) hlk (by decide) (by decide) ⟨by rw [own_b0 (show ¬ own_fit w1 w2 p1 from by simp [own_fit, hc4_1])]; rfl, N0, e1⟩
  · skip
    refine own_go (W1 := T1.setTop (mkF m 7 #[.val (.ref a1), .val (.int p1)] [])) (fun t k => XS.ifNo X1.here hx rfl (hb hby d1_4) rfl ((if0 _ _).trans (feq (show ¬ (w1 = (0 : Int32)) from hc4_1)).1) k) ?_
    refine own_go (W1 := T1.setTop (mkF m 8 #[.val (.ref a1), .val (.int p1)] [(.int p1)])) (fun t k => XS.iloadN X1.here hx rfl (hb hby d1_7) rfl  k) ?_
    refine own_go (W1 := T1.setTop (mkF m 9 #[.val (.ref a1), .val (.int p1)] [(.ref a1), (.int p1)])) (fun t k => XS.aloadN X1.here hx rfl (hb hby d1_8) rfl rfl  k) ?_
    obtain ⟨T2, X2, e2, st2⟩ := getF X1 hx hZ hown (host := "") (Or.inl (hw _ (List.mem_of_getElem? (i := 12) rfl))) Via.refl e1 F_hash (g := (mkF m 9 #[.val (.ref a1), .val (.int p1)] [(.ref a1), (.int p1)])) rfl rfl (hb hby d1_9)
    refine own_go (W1 := T2.setTop (mkF m 12 #[.val (.ref a1), .val (.int p1)] [(.int w2), (.int p1)])) (st2) ?_
    by_cases hc12_2 : p1 < w2
    · skip
      refine own_go (W1 := T2.setTop (mkF m 19 #[.val (.ref a1), .val (.int p1)] [])) (fun t k => XS.icmpYes X2.here hx rfl (pc0 := 12) (pc' := 19) rfl (hb hby d1_12) rfl (tlt (show p1 < w2 from hc12_2)).1 (by decide) (by decide) k) ?_
      refine own_go (W1 := T2.setTop (mkF m 20 #[.val (.ref a1), .val (.int p1)] [(.int (0 : Int32))])) (fun t k => XS.iconst X2.here hx rfl (hb hby d1_19) k) ?_
      exact own_retN X2 hx (t := .boolean) Bd.returns (by simp) (hb hby d1_20) hlk (by decide) (by decide) ⟨by rw [own_b0 (show ¬ own_fit w1 w2 p1 from by simp [own_fit, hc4_1, hc12_2])]; rfl, N0, e2⟩
    · skip
      refine own_go (W1 := T2.setTop (mkF m 15 #[.val (.ref a1), .val (.int p1)] [])) (fun t k => XS.icmpNo X2.here hx rfl (hb hby d1_12) rfl (flt (show ¬ (p1 < w2) from hc12_2)).1 k) ?_
      refine own_go (W1 := T2.setTop (mkF m 16 #[.val (.ref a1), .val (.int p1)] [(.int (1 : Int32))])) (fun t k => XS.iconst X2.here hx rfl (hb hby d1_15) k) ?_
      refine own_go (W1 := T2.setTop (mkF m 20 #[.val (.ref a1), .val (.int p1)] [(.int (1 : Int32))])) (fun t k => XS.goto X2.here hx rfl (pc0 := 16) (pc' := 20) rfl (hb hby d1_16) (by decide) (by decide) k) ?_
      exact own_retN X2 hx (t := .boolean) Bd.returns (by simp) (hb hby d1_20) hlk (by decide) (by decide) ⟨by rw [own_b1 (show own_fit w1 w2 p1 from by simp [own_fit, hc4_1, hc12_2])]; rfl, N0, e2⟩
theorem own_pn_com_example_tokenspan_tokenspan_tokens_JwsAlgorithmFitsSecretPinLaw : plainName "com/example/tokenspan/tokenspan/tokens/JwsAlgorithmFitsSecretPinLaw" = true := by first | (simp [plainName, overriddenIn]; done) | decide +kernel
theorem own_pd0 : parseMethodDescriptor "(I)Z" = some ⟨[.int], some .boolean⟩ := by decide +kernel
theorem ef_rm0 (m : MethodId) (x0 : Int32) (x1 : Int32)  : entryFrame m #[(.int x0), (.int x1)] maxLocals = mkF m 0 #[.val (.int x0), .val (.int x1), .unset, .unset, .unset, .unset] [] := by first | (simp [entryFrame, mkF, argsToLocals, Value.category, maxLocals]; done) | rfl
set_option maxRecDepth 65536 in
set_option maxHeartbeats 40000000 in
theorem rm0 (l : Launch) (Z : State) (a0 : Array Value) (hw : ∀ d ∈ tables_1, d.before a0 Z = true) (ws : List Jvm.Cond) (sel b : Int32) (sRS256 : Addr) (sRS384 : Addr) (sRS512 : Addr) (sHS256 : Addr) (sHS384 : Addr) (sHS512 : Addr) (h0 : Heap) (n0 : Nat) (Z0 : n0 ≤ h0.size)  (S_RS256 : Sta Z h0 "com/example/tokenspan/tokenspan/tokens/JwsAlgorithm" "RS256" "Lcom/example/tokenspan/tokenspan/tokens/JwsAlgorithm;" (.ref sRS256)) (E_RS256 : Exa Z h0 sRS256 "com/example/tokenspan/tokenspan/tokens/JwsAlgorithm") (F_hmac_RS256 : Fld Z h0 sRS256 "com/example/tokenspan/tokenspan/tokens/JwsAlgorithm" "hmac" "Z" (.int 0)) (F_hash_RS256 : Fld Z h0 sRS256 "com/example/tokenspan/tokenspan/tokens/JwsAlgorithm" "hashBytes" "I" (.int 32)) (S_RS384 : Sta Z h0 "com/example/tokenspan/tokenspan/tokens/JwsAlgorithm" "RS384" "Lcom/example/tokenspan/tokenspan/tokens/JwsAlgorithm;" (.ref sRS384)) (E_RS384 : Exa Z h0 sRS384 "com/example/tokenspan/tokenspan/tokens/JwsAlgorithm") (F_hmac_RS384 : Fld Z h0 sRS384 "com/example/tokenspan/tokenspan/tokens/JwsAlgorithm" "hmac" "Z" (.int 0)) (F_hash_RS384 : Fld Z h0 sRS384 "com/example/tokenspan/tokenspan/tokens/JwsAlgorithm" "hashBytes" "I" (.int 48)) (S_RS512 : Sta Z h0 "com/example/tokenspan/tokenspan/tokens/JwsAlgorithm" "RS512" "Lcom/example/tokenspan/tokenspan/tokens/JwsAlgorithm;" (.ref sRS512)) (E_RS512 : Exa Z h0 sRS512 "com/example/tokenspan/tokenspan/tokens/JwsAlgorithm") (F_hmac_RS512 : Fld Z h0 sRS512 "com/example/tokenspan/tokenspan/tokens/JwsAlgorithm" "hmac" "Z" (.int 0)) (F_hash_RS512 : Fld Z h0 sRS512 "com/example/tokenspan/tokenspan/tokens/JwsAlgorithm" "hashBytes" "I" (.int 64)) (S_HS256 : Sta Z h0 "com/example/tokenspan/tokenspan/tokens/JwsAlgorithm" "HS256" "Lcom/example/tokenspan/tokenspan/tokens/JwsAlgorithm;" (.ref sHS256)) (E_HS256 : Exa Z h0 sHS256 "com/example/tokenspan/tokenspan/tokens/JwsAlgorithm") (F_hmac_HS256 : Fld Z h0 sHS256 "com/example/tokenspan/tokenspan/tokens/JwsAlgorithm" "hmac" "Z" (.int 1)) (F_hash_HS256 : Fld Z h0 sHS256 "com/example/tokenspan/tokenspan/tokens/JwsAlgorithm" "hashBytes" "I" (.int 32)) (S_HS384 : Sta Z h0 "com/example/tokenspan/tokenspan/tokens/JwsAlgorithm" "HS384" "Lcom/example/tokenspan/tokenspan/tokens/JwsAlgorithm;" (.ref sHS384)) (E_HS384 : Exa Z h0 sHS384 "com/example/tokenspan/tokenspan/tokens/JwsAlgorithm") (F_hmac_HS384 : Fld Z h0 sHS384 "com/example/tokenspan/tokenspan/tokens/JwsAlgorithm" "hmac" "Z" (.int 1)) (F_hash_HS384 : Fld Z h0 sHS384 "com/example/tokenspan/tokenspan/tokens/JwsAlgorithm" "hashBytes" "I" (.int 48)) (S_HS512 : Sta Z h0 "com/example/tokenspan/tokenspan/tokens/JwsAlgorithm" "HS512" "Lcom/example/tokenspan/tokenspan/tokens/JwsAlgorithm;" (.ref sHS512)) (E_HS512 : Exa Z h0 sHS512 "com/example/tokenspan/tokenspan/tokens/JwsAlgorithm") (F_hmac_HS512 : Fld Z h0 sHS512 "com/example/tokenspan/tokenspan/tokens/JwsAlgorithm" "hmac" "Z" (.int 1)) (F_hash_HS512 : Fld Z h0 sHS512 "com/example/tokenspan/tokenspan/tokens/JwsAlgorithm" "hashBytes" "I" (.int 64)) :
    MetFree l x (head1 (Jvm.Cond.code x code maxLocals ret :: ws) room_1) (fun a U => a = #[(.int sel), (.int b)] ∧ Z.Warmed39 U.vm ∧ U.heap = h0) (fun _ _ _ _ _ => True) (fun _ U o U' => ∃ v L, o = .returned v ∧ own_Q0 n0 v U'.heap L ∧ FrameEnd U o U' L 0 0) := by
  refine MetFree.of_bodySF (plainFor_of_name own_pn_com_example_tokenspan_tokenspan_tokens_JwsAlgorithmFitsSecretPinLaw) hisR ?_
  intro p e s m args below meth c s₁ Bd hml0 hP hK
  obtain ⟨rfl, hZ, hh⟩ := hP
  have hx := Bd.exec
  have hby := Bd.bytes
  have hlk := BodyLoose.notSynchronized Bd
  have hml : c.maxLocals = 6 := hml0
  have hown : s.vm.findClass "com/example/tokenspan/tokenspan/tokens/JwsAlgorithmFitsSecretPinLaw" = some m.cls := findClass_of_methodNamed Bd.named
  have hnm := (name_of_methodNamed Bd.named Bd.method).1
  have X0 : Stand p l e room_1 s m #[(.int sel), (.int b)] below meth c s₁ [] 0 0 := Stand.of_body Bd
  have e0 : s₁.heap = h0 := by rw [← hh, Bd.state]; rfl
  have N0 := Fr.nil n0
  show own_Ends p e below s (own_Q0 n0) 0 0 (s₁.setTop (entryFrame m #[(.int sel), (.int b)] maxLocals))
  refine own_go (W1 := s₁.setTop (mkF m 0 #[.val (.int sel), .val (.int b), .unset, .unset, .unset, .unset] [])) (fun t k => castTop (ef_rm0 m sel b ) k) ?_
  refine own_go (W1 := s₁.setTop (mkF m 1 #[.val (.int sel), .val (.int b), .unset, .unset, .unset, .unset] [(.int sel)])) (fun t k => XS.iloadN X0.here hx rfl (hb hby at_0) rfl  k) ?_
  refine own_go (W1 := s₁.setTop (mkF m 3 #[.val (.int sel), .val (.int b), .unset, .unset, .unset, .unset] [(.int (7 : Int32)), (.int sel)])) (fun t k => XS.bipush X0.here hx rfl (hb hby at_1) k) ?_
  refine own_go (W1 := s₁.setTop (mkF m 4 #[.val (.int sel), .val (.int b), .unset, .unset, .unset, .unset] [(.int (sel &&& (7 : Int32)))])) (fun t k => XS.iand X0.here hx rfl (hb hby at_3) rfl k) ?_
  refine own_go (W1 := s₁.setTop (mkF m 6 #[.val (.int sel), .val (.int b), .unset, .unset, .unset, .unset] [(.int (6 : Int32)), (.int (sel &&& (7 : Int32)))])) (fun t k => XS.bipush X0.here hx rfl (hb hby at_4) k) ?_
  refine own_go (W1 := s₁.setTop (mkF m 7 #[.val (.int sel), .val (.int b), .unset, .unset, .unset, .unset] [(.int ((sel &&& (7 : Int32)) % (6 : Int32)))])) (fun t k => iremM X0 hx rfl (hb hby at_6) rfl (by decide) k) ?_
  refine own_go (W1 := s₁.setTop (mkF m 8 #[.val (.int sel), .val (.int b), .val (.int ((sel &&& (7 : Int32)) % (6 : Int32))), .unset, .unset, .unset] [])) (fun t k => XS.istoreN X0.here hx rfl (hb hby at_7) rfl (l' := #[.val (.int sel), .val (.int b), .val (.int ((sel &&& (7 : Int32)) % (6 : Int32))), .unset, .unset, .unset]) rfl k) ?_
  have sgA : ∀ t, Steps p.tables e below (s₁.setTop (mkF m 25 #[.val (.int sel), .val (.int b), .val (.int ((sel &&& (7 : Int32)) % (6 : Int32))), .val (.int (own_by sel b)), .unset, .unset] [])) t → Steps p.tables e below (s₁.setTop (mkF m 8 #[.val (.int sel), .val (.int b), .val (.int ((sel &&& (7 : Int32)) % (6 : Int32))), .unset, .unset, .unset] [])) t := by
    intro t k
    refine own_st (W1 := s₁.setTop (mkF m 9 #[.val (.int sel), .val (.int b), .val (.int ((sel &&& (7 : Int32)) % (6 : Int32))), .unset, .unset, .unset] [(.int sel)])) (fun t k => XS.iloadN X0.here hx rfl (hb hby at_8) rfl  k) ?_
    refine own_st (W1 := s₁.setTop (mkF m 10 #[.val (.int sel), .val (.int b), .val (.int ((sel &&& (7 : Int32)) % (6 : Int32))), .unset, .unset, .unset] [(.int (3 : Int32)), (.int sel)])) (fun t k => XS.iconst X0.here hx rfl (hb hby at_9) k) ?_
    refine own_st (W1 := s₁.setTop (mkF m 11 #[.val (.int sel), .val (.int b), .val (.int ((sel &&& (7 : Int32)) % (6 : Int32))), .unset, .unset, .unset] [(.int ((sel.toUInt32 >>> ((3 : Int32) &&& 31).toUInt32).toInt32))])) (fun t k => XS.iushr X0.here hx rfl (hb hby at_10) rfl k) ?_
    refine own_st (W1 := s₁.setTop (mkF m 12 #[.val (.int sel), .val (.int b), .val (.int ((sel &&& (7 : Int32)) % (6 : Int32))), .unset, .unset, .unset] [(.int (1 : Int32)), (.int ((sel.toUInt32 >>> ((3 : Int32) &&& 31).toUInt32).toInt32))])) (fun t k => XS.iconst X0.here hx rfl (hb hby at_11) k) ?_
    refine own_st (W1 := s₁.setTop (mkF m 13 #[.val (.int sel), .val (.int b), .val (.int ((sel &&& (7 : Int32)) % (6 : Int32))), .unset, .unset, .unset] [(.int (((sel.toUInt32 >>> ((3 : Int32) &&& 31).toUInt32).toInt32) &&& (1 : Int32)))])) (fun t k => XS.iand X0.here hx rfl (hb hby at_12) rfl k) ?_
    by_cases hc13_1 : (((sel.toUInt32 >>> ((3 : Int32) &&& 31).toUInt32).toInt32) &&& (1 : Int32)) = (0 : Int32)
    · skip
      refine own_st (W1 := s₁.setTop (mkF m 23 #[.val (.int sel), .val (.int b), .val (.int ((sel &&& (7 : Int32)) % (6 : Int32))), .unset, .unset, .unset] [])) (fun t k => XS.ifYes X0.here hx rfl (pc0 := 13) (pc' := 23) rfl (hb hby at_13) rfl ((if0 _ _).trans (teq (show (((sel.toUInt32 >>> ((3 : Int32) &&& 31).toUInt32).toInt32) &&& (1 : Int32)) = (0 : Int32) from hc13_1)).1) (by decide) (by decide) k) ?_
      refine own_st (W1 := s₁.setTop (mkF m 24 #[.val (.int sel), .val (.int b), .val (.int ((sel &&& (7 : Int32)) % (6 : Int32))), .unset, .unset, .unset] [(.int b)])) (fun t k => XS.iloadN X0.here hx rfl (hb hby at_23) rfl  k) ?_
      refine own_st (W1 := s₁.setTop (mkF m 25 #[.val (.int sel), .val (.int b), .val (.int ((sel &&& (7 : Int32)) % (6 : Int32))), .val (.int b), .unset, .unset] [])) (fun t k => XS.istoreN X0.here hx rfl (hb hby at_24) rfl (l' := #[.val (.int sel), .val (.int b), .val (.int ((sel &&& (7 : Int32)) % (6 : Int32))), .val (.int b), .unset, .unset]) rfl k) ?_
      rw [show own_by sel b = _ from if_pos hc13_1] at k
      exact k
    · skip
      refine own_st (W1 := s₁.setTop (mkF m 16 #[.val (.int sel), .val (.int b), .val (.int ((sel &&& (7 : Int32)) % (6 : Int32))), .unset, .unset, .unset] [])) (fun t k => XS.ifNo X0.here hx rfl (hb hby at_13) rfl ((if0 _ _).trans (feq (show ¬ ((((sel.toUInt32 >>> ((3 : Int32) &&& 31).toUInt32).toInt32) &&& (1 : Int32)) = (0 : Int32)) from hc13_1)).1) k) ?_
      refine own_st (W1 := s₁.setTop (mkF m 17 #[.val (.int sel), .val (.int b), .val (.int ((sel &&& (7 : Int32)) % (6 : Int32))), .unset, .unset, .unset] [(.int b)])) (fun t k => XS.iloadN X0.here hx rfl (hb hby at_16) rfl  k) ?_
      refine own_st (W1 := s₁.setTop (mkF m 19 #[.val (.int sel), .val (.int b), .val (.int ((sel &&& (7 : Int32)) % (6 : Int32))), .unset, .unset, .unset] [(.int (70 : Int32)), (.int b)])) (fun t k => XS.bipush X0.here hx rfl (hb hby at_17) k) ?_
      refine own_st (W1 := s₁.setTop (mkF m 20 #[.val (.int sel), .val (.int b), .val (.int ((sel &&& (7 : Int32)) % (6 : Int32))), .unset, .unset, .unset] [(.int (b % (70 : Int32)))])) (fun t k => iremM X0 hx rfl (hb hby at_19) rfl (by decide) k) ?_
      refine own_st (W1 := s₁.setTop (mkF m 24 #[.val (.int sel), .val (.int b), .val (.int ((sel &&& (7 : Int32)) % (6 : Int32))), .unset, .unset, .unset] [(.int (b % (70 : Int32)))])) (fun t k => XS.goto X0.here hx rfl (pc0 := 20) (pc' := 24) rfl (hb hby at_20) (by decide) (by decide) k) ?_
      refine own_st (W1 := s₁.setTop (mkF m 25 #[.val (.int sel), .val (.int b), .val (.int ((sel &&& (7 : Int32)) % (6 : Int32))), .val (.int (b % (70 : Int32))), .unset, .unset] [])) (fun t k => XS.istoreN X0.here hx rfl (hb hby at_24) rfl (l' := #[.val (.int sel), .val (.int b), .val (.int ((sel &&& (7 : Int32)) % (6 : Int32))), .val (.int (b % (70 : Int32))), .unset, .unset]) rfl k) ?_
      rw [show own_by sel b = _ from if_neg hc13_1] at k
      exact k
  refine own_go (W1 := s₁.setTop (mkF m 25 #[.val (.int sel), .val (.int b), .val (.int ((sel &&& (7 : Int32)) % (6 : Int32))), .val (.int (own_by sel b)), .unset, .unset] [])) (sgA) ?_
  generalize own_by sel b = bb
  refine own_go (W1 := s₁.setTop (mkF m 26 #[.val (.int sel), .val (.int b), .val (.int ((sel &&& (7 : Int32)) % (6 : Int32))), .val (.int bb), .unset, .unset] [(.int ((sel &&& (7 : Int32)) % (6 : Int32)))])) (fun t k => XS.iloadN X0.here hx rfl (hb hby at_25) rfl  k) ?_
  by_cases hc26_2 : ((sel &&& (7 : Int32)) % (6 : Int32)) = (0 : Int32)
  · skip
    refine own_go (W1 := s₁.setTop (mkF m 29 #[.val (.int sel), .val (.int b), .val (.int ((sel &&& (7 : Int32)) % (6 : Int32))), .val (.int bb), .unset, .unset] [])) (fun t k => XS.ifNo X0.here hx rfl (hb hby at_26) rfl ((if0 _ _).trans (teq (show ((sel &&& (7 : Int32)) % (6 : Int32)) = (0 : Int32) from hc26_2)).2) k) ?_
    obtain ⟨T1, X1, e1, st1⟩ := getS2 X0 hx hZ hown (host := "") (Or.inl (hw _ (List.mem_of_getElem? (i := 0) rfl))) Via.refl e0 S_RS256 (g := (mkF m 29 #[.val (.int sel), .val (.int b), .val (.int ((sel &&& (7 : Int32)) % (6 : Int32))), .val (.int bb), .unset, .unset] [])) rfl (hb hby at_29)
    refine own_go (W1 := T1.setTop (mkF m 32 #[.val (.int sel), .val (.int b), .val (.int ((sel &&& (7 : Int32)) % (6 : Int32))), .val (.int bb), .unset, .unset] [(.ref sRS256)])) (st1) ?_
    refine own_go (W1 := T1.setTop (mkF m 34 #[.val (.int sel), .val (.int b), .val (.int ((sel &&& (7 : Int32)) % (6 : Int32))), .val (.int bb), .val (.ref sRS256), .unset] [])) (fun t k => XS.astore X1.here hx rfl (hb hby at_32) rfl rfl (l' := #[.val (.int sel), .val (.int b), .val (.int ((sel &&& (7 : Int32)) % (6 : Int32))), .val (.int bb), .val (.ref sRS256), .unset]) rfl k) ?_
    refine own_go (W1 := T1.setTop (mkF m 35 #[.val (.int sel), .val (.int b), .val (.int ((sel &&& (7 : Int32)) % (6 : Int32))), .val (.int bb), .val (.ref sRS256), .unset] [(.int (0 : Int32))])) (fun t k => XS.iconst X1.here hx rfl (hb hby at_34) k) ?_
    refine own_go (W1 := T1.setTop (mkF m 37 #[.val (.int sel), .val (.int b), .val (.int ((sel &&& (7 : Int32)) % (6 : Int32))), .val (.int bb), .val (.ref sRS256), .val (.int (0 : Int32))] [])) (fun t k => XS.istore X1.here hx rfl (hb hby at_35) rfl (l' := #[.val (.int sel), .val (.int b), .val (.int ((sel &&& (7 : Int32)) % (6 : Int32))), .val (.int bb), .val (.ref sRS256), .val (.int (0 : Int32))]) rfl k) ?_
    refine own_go (W1 := T1.setTop (mkF m 142 #[.val (.int sel), .val (.int b), .val (.int ((sel &&& (7 : Int32)) % (6 : Int32))), .val (.int bb), .val (.ref sRS256), .val (.int (0 : Int32))] [])) (fun t k => XS.goto X1.here hx rfl (pc0 := 37) (pc' := 142) rfl (hb hby at_37) (by decide) (by decide) k) ?_
    refine own_go (W1 := T1.setTop (mkF m 144 #[.val (.int sel), .val (.int b), .val (.int ((sel &&& (7 : Int32)) % (6 : Int32))), .val (.int bb), .val (.ref sRS256), .val (.int (0 : Int32))] [(.ref sRS256)])) (fun t k => XS.aload X1.here hx rfl (hb hby at_142) rfl rfl  k) ?_
    refine own_go (W1 := T1.setTop (mkF m 145 #[.val (.int sel), .val (.int b), .val (.int ((sel &&& (7 : Int32)) % (6 : Int32))), .val (.int bb), .val (.ref sRS256), .val (.int (0 : Int32))] [(.int bb), (.ref sRS256)])) (fun t k => XS.iloadN X1.here hx rfl (hb hby at_144) rfl  k) ?_
    obtain ⟨cq2, kq2, q2a, q2b, q2c⟩ := isOf hZ e1 E_RS256
    obtain ⟨_, _, ⟨T2, L2, k2, n2⟩, -, X2, ⟨Lc2, hQ2, l2, y2, z2⟩, st2⟩ := X1.virtualBack hx (y := (⟨"com/example/tokenspan/tokenspan/tokens/JwsAlgorithm", "fitsSecret", "(I)Z"⟩ : MethodName)) (z := (⟨"com/example/tokenspan/tokenspan/tokens/JwsAlgorithm", "fitsSecret", "(I)Z"⟩ : MethodName)) hown (mvT hZ (hw _ (List.mem_of_getElem? (i := 3) rfl))) (mvT hZ (hw _ (List.mem_of_getElem? (i := 4) rfl))) (notFace_of_selects (args := #[]) (mvT hZ (hw _ (List.mem_of_getElem? (i := 6) rfl)))) (mvT hZ (hw _ (List.mem_of_getElem? (i := 6) rfl))) (mvT hZ (hw _ (List.mem_of_getElem? (i := 5) rfl))) (by decide) (backOf (W := 0) (rm1 l Z a0 hw [] sRS256 0 32 bb h0 n0 Z0 F_hmac_RS256 F_hash_RS256) hZ (hw _ (List.mem_of_getElem? (i := 7) rfl)) (hw _ (List.mem_of_getElem? (i := 1) rfl)) (by decide) (by decide)) q2a q2c (g := (mkF m 145 #[.val (.int sel), .val (.int b), .val (.int ((sel &&& (7 : Int32)) % (6 : Int32))), .val (.int bb), .val (.ref sRS256), .val (.int (0 : Int32))] [(.int bb), (.ref sRS256)])) rfl (by rw [hml]; rfl) (Steps.refl _) (argsL := [(.int bb)]) (rest := []) (lenOf own_pd0 rfl) rfl (by show 2 * 0 + _ ≤ _; exact Nat.le_of_eq rfl) (hb hby at_145) (fun _ _ => ⟨rfl, e1, (by decide : 0 + 0 ≤ _), (by decide : 0 + 0 ≤ _)⟩)
    dsimp only [Pt.U, Pt.locs, Pt.cells, Pt.slots] at X2 l2 y2 z2 st2 hQ2
    subst l2 y2 z2
    obtain ⟨rfl, Nq2, eh2⟩ := hQ2
    have N2 := Fr.app N0 Nq2
    refine own_tr (W1 := T2.setTop (mkF m 148 #[.val (.int sel), .val (.int b), .val (.int ((sel &&& (7 : Int32)) % (6 : Int32))), .val (.int bb), .val (.ref sRS256), .val (.int (0 : Int32))] [(.int (own_b2i (own_fit (0 : Int32) (32 : Int32) bb)))])) st2 ?_
    refine own_go (W1 := T2.setTop (mkF m 150 #[.val (.int sel), .val (.int b), .val (.int ((sel &&& (7 : Int32)) % (6 : Int32))), .val (.int bb), .val (.ref sRS256), .val (.int (0 : Int32))] [(.int (0 : Int32)), (.int (own_b2i (own_fit (0 : Int32) (32 : Int32) bb)))])) (fun t k => XS.iload X2.here hx rfl (hb hby at_148) rfl  k) ?_
    refine own_go (W1 := T2.setTop (mkF m 153 #[.val (.int sel), .val (.int b), .val (.int ((sel &&& (7 : Int32)) % (6 : Int32))), .val (.int bb), .val (.ref sRS256), .val (.int (0 : Int32))] [])) (fun t k => XS.icmpNo X2.here hx rfl (hb hby at_150) rfl (teq (show (own_b2i (own_fit (0 : Int32) (32 : Int32) bb)) = (0 : Int32) from (own_b0 (show ¬ own_fit 0 32 bb from by simp [own_fit, hc26_2])))).2 k) ?_
    refine own_go (W1 := T2.setTop (mkF m 154 #[.val (.int sel), .val (.int b), .val (.int ((sel &&& (7 : Int32)) % (6 : Int32))), .val (.int bb), .val (.ref sRS256), .val (.int (0 : Int32))] [(.int (1 : Int32))])) (fun t k => XS.iconst X2.here hx rfl (hb hby at_153) k) ?_
    refine own_go (W1 := T2.setTop (mkF m 158 #[.val (.int sel), .val (.int b), .val (.int ((sel &&& (7 : Int32)) % (6 : Int32))), .val (.int bb), .val (.ref sRS256), .val (.int (0 : Int32))] [(.int (1 : Int32))])) (fun t k => XS.goto X2.here hx rfl (pc0 := 154) (pc' := 158) rfl (hb hby at_154) (by decide) (by decide) k) ?_
    exact own_retN X2 hx (t := .boolean) Bd.returns (by simp) (hb hby at_158) hlk (by decide) (by decide) ⟨rfl, N2⟩
  · skip
    refine own_go (W1 := s₁.setTop (mkF m 40 #[.val (.int sel), .val (.int b), .val (.int ((sel &&& (7 : Int32)) % (6 : Int32))), .val (.int bb), .unset, .unset] [])) (fun t k => XS.ifYes X0.here hx rfl (pc0 := 26) (pc' := 40) rfl (hb hby at_26) rfl ((if0 _ _).trans (feq (show ¬ (((sel &&& (7 : Int32)) % (6 : Int32)) = (0 : Int32)) from hc26_2)).2) (by decide) (by decide) k) ?_
    refine own_go (W1 := s₁.setTop (mkF m 41 #[.val (.int sel), .val (.int b), .val (.int ((sel &&& (7 : Int32)) % (6 : Int32))), .val (.int bb), .unset, .unset] [(.int ((sel &&& (7 : Int32)) % (6 : Int32)))])) (fun t k => XS.iloadN X0.here hx rfl (hb hby at_40) rfl  k) ?_
    refine own_go (W1 := s₁.setTop (mkF m 42 #[.val (.int sel), .val (.int b), .val (.int ((sel &&& (7 : Int32)) % (6 : Int32))), .val (.int bb), .unset, .unset] [(.int (1 : Int32)), (.int ((sel &&& (7 : Int32)) % (6 : Int32)))])) (fun t k => XS.iconst X0.here hx rfl (hb hby at_41) k) ?_
    by_cases hc42_3 : ((sel &&& (7 : Int32)) % (6 : Int32)) = (1 : Int32)
    · skip
      refine own_go (W1 := s₁.setTop (mkF m 45 #[.val (.int sel), .val (.int b), .val (.int ((sel &&& (7 : Int32)) % (6 : Int32))), .val (.int bb), .unset, .unset] [])) (fun t k => XS.icmpNo X0.here hx rfl (hb hby at_42) rfl (teq (show ((sel &&& (7 : Int32)) % (6 : Int32)) = (1 : Int32) from hc42_3)).2 k) ?_
      obtain ⟨T3, X3, e3, st3⟩ := getS2 X0 hx hZ hown (host := "") (Or.inl (hw _ (List.mem_of_getElem? (i := 16) rfl))) Via.refl e0 S_RS384 (g := (mkF m 45 #[.val (.int sel), .val (.int b), .val (.int ((sel &&& (7 : Int32)) % (6 : Int32))), .val (.int bb), .unset, .unset] [])) rfl (hb hby at_45)
      refine own_go (W1 := T3.setTop (mkF m 48 #[.val (.int sel), .val (.int b), .val (.int ((sel &&& (7 : Int32)) % (6 : Int32))), .val (.int bb), .unset, .unset] [(.ref sRS384)])) (st3) ?_
      refine own_go (W1 := T3.setTop (mkF m 50 #[.val (.int sel), .val (.int b), .val (.int ((sel &&& (7 : Int32)) % (6 : Int32))), .val (.int bb), .val (.ref sRS384), .unset] [])) (fun t k => XS.astore X3.here hx rfl (hb hby at_48) rfl rfl (l' := #[.val (.int sel), .val (.int b), .val (.int ((sel &&& (7 : Int32)) % (6 : Int32))), .val (.int bb), .val (.ref sRS384), .unset]) rfl k) ?_
      refine own_go (W1 := T3.setTop (mkF m 51 #[.val (.int sel), .val (.int b), .val (.int ((sel &&& (7 : Int32)) % (6 : Int32))), .val (.int bb), .val (.ref sRS384), .unset] [(.int (0 : Int32))])) (fun t k => XS.iconst X3.here hx rfl (hb hby at_50) k) ?_
      refine own_go (W1 := T3.setTop (mkF m 53 #[.val (.int sel), .val (.int b), .val (.int ((sel &&& (7 : Int32)) % (6 : Int32))), .val (.int bb), .val (.ref sRS384), .val (.int (0 : Int32))] [])) (fun t k => XS.istore X3.here hx rfl (hb hby at_51) rfl (l' := #[.val (.int sel), .val (.int b), .val (.int ((sel &&& (7 : Int32)) % (6 : Int32))), .val (.int bb), .val (.ref sRS384), .val (.int (0 : Int32))]) rfl k) ?_
      refine own_go (W1 := T3.setTop (mkF m 142 #[.val (.int sel), .val (.int b), .val (.int ((sel &&& (7 : Int32)) % (6 : Int32))), .val (.int bb), .val (.ref sRS384), .val (.int (0 : Int32))] [])) (fun t k => XS.goto X3.here hx rfl (pc0 := 53) (pc' := 142) rfl (hb hby at_53) (by decide) (by decide) k) ?_
      refine own_go (W1 := T3.setTop (mkF m 144 #[.val (.int sel), .val (.int b), .val (.int ((sel &&& (7 : Int32)) % (6 : Int32))), .val (.int bb), .val (.ref sRS384), .val (.int (0 : Int32))] [(.ref sRS384)])) (fun t k => XS.aload X3.here hx rfl (hb hby at_142) rfl rfl  k) ?_
      refine own_go (W1 := T3.setTop (mkF m 145 #[.val (.int sel), .val (.int b), .val (.int ((sel &&& (7 : Int32)) % (6 : Int32))), .val (.int bb), .val (.ref sRS384), .val (.int (0 : Int32))] [(.int bb), (.ref sRS384)])) (fun t k => XS.iloadN X3.here hx rfl (hb hby at_144) rfl  k) ?_
      obtain ⟨cq4, kq4, q4a, q4b, q4c⟩ := isOf hZ e3 E_RS384
      obtain ⟨_, _, ⟨T4, L4, k4, n4⟩, -, X4, ⟨Lc4, hQ4, l4, y4, z4⟩, st4⟩ := X3.virtualBack hx (y := (⟨"com/example/tokenspan/tokenspan/tokens/JwsAlgorithm", "fitsSecret", "(I)Z"⟩ : MethodName)) (z := (⟨"com/example/tokenspan/tokenspan/tokens/JwsAlgorithm", "fitsSecret", "(I)Z"⟩ : MethodName)) hown (mvT hZ (hw _ (List.mem_of_getElem? (i := 3) rfl))) (mvT hZ (hw _ (List.mem_of_getElem? (i := 4) rfl))) (notFace_of_selects (args := #[]) (mvT hZ (hw _ (List.mem_of_getElem? (i := 6) rfl)))) (mvT hZ (hw _ (List.mem_of_getElem? (i := 6) rfl))) (mvT hZ (hw _ (List.mem_of_getElem? (i := 5) rfl))) (by decide) (backOf (W := 0) (rm1 l Z a0 hw [] sRS384 0 48 bb h0 n0 Z0 F_hmac_RS384 F_hash_RS384) hZ (hw _ (List.mem_of_getElem? (i := 7) rfl)) (hw _ (List.mem_of_getElem? (i := 1) rfl)) (by decide) (by decide)) q4a q4c (g := (mkF m 145 #[.val (.int sel), .val (.int b), .val (.int ((sel &&& (7 : Int32)) % (6 : Int32))), .val (.int bb), .val (.ref sRS384), .val (.int (0 : Int32))] [(.int bb), (.ref sRS384)])) rfl (by rw [hml]; rfl) (Steps.refl _) (argsL := [(.int bb)]) (rest := []) (lenOf own_pd0 rfl) rfl (by show 2 * 0 + _ ≤ _; exact Nat.le_of_eq rfl) (hb hby at_145) (fun _ _ => ⟨rfl, e3, (by decide : 0 + 0 ≤ _), (by decide : 0 + 0 ≤ _)⟩)
      dsimp only [Pt.U, Pt.locs, Pt.cells, Pt.slots] at X4 l4 y4 z4 st4 hQ4
      subst l4 y4 z4
      obtain ⟨rfl, Nq4, eh4⟩ := hQ4
      have N4 := Fr.app N0 Nq4
      refine own_tr (W1 := T4.setTop (mkF m 148 #[.val (.int sel), .val (.int b), .val (.int ((sel &&& (7 : Int32)) % (6 : Int32))), .val (.int bb), .val (.ref sRS384), .val (.int (0 : Int32))] [(.int (own_b2i (own_fit (0 : Int32) (48 : Int32) bb)))])) st4 ?_
      refine own_go (W1 := T4.setTop (mkF m 150 #[.val (.int sel), .val (.int b), .val (.int ((sel &&& (7 : Int32)) % (6 : Int32))), .val (.int bb), .val (.ref sRS384), .val (.int (0 : Int32))] [(.int (0 : Int32)), (.int (own_b2i (own_fit (0 : Int32) (48 : Int32) bb)))])) (fun t k => XS.iload X4.here hx rfl (hb hby at_148) rfl  k) ?_
      refine own_go (W1 := T4.setTop (mkF m 153 #[.val (.int sel), .val (.int b), .val (.int ((sel &&& (7 : Int32)) % (6 : Int32))), .val (.int bb), .val (.ref sRS384), .val (.int (0 : Int32))] [])) (fun t k => XS.icmpNo X4.here hx rfl (hb hby at_150) rfl (teq (show (own_b2i (own_fit (0 : Int32) (48 : Int32) bb)) = (0 : Int32) from (own_b0 (show ¬ own_fit 0 48 bb from by simp [own_fit, hc26_2, hc42_3])))).2 k) ?_
      refine own_go (W1 := T4.setTop (mkF m 154 #[.val (.int sel), .val (.int b), .val (.int ((sel &&& (7 : Int32)) % (6 : Int32))), .val (.int bb), .val (.ref sRS384), .val (.int (0 : Int32))] [(.int (1 : Int32))])) (fun t k => XS.iconst X4.here hx rfl (hb hby at_153) k) ?_
      refine own_go (W1 := T4.setTop (mkF m 158 #[.val (.int sel), .val (.int b), .val (.int ((sel &&& (7 : Int32)) % (6 : Int32))), .val (.int bb), .val (.ref sRS384), .val (.int (0 : Int32))] [(.int (1 : Int32))])) (fun t k => XS.goto X4.here hx rfl (pc0 := 154) (pc' := 158) rfl (hb hby at_154) (by decide) (by decide) k) ?_
      exact own_retN X4 hx (t := .boolean) Bd.returns (by simp) (hb hby at_158) hlk (by decide) (by decide) ⟨rfl, N4⟩
    · skip
      refine own_go (W1 := s₁.setTop (mkF m 56 #[.val (.int sel), .val (.int b), .val (.int ((sel &&& (7 : Int32)) % (6 : Int32))), .val (.int bb), .unset, .unset] [])) (fun t k => XS.icmpYes X0.here hx rfl (pc0 := 42) (pc' := 56) rfl (hb hby at_42) rfl (feq (show ¬ (((sel &&& (7 : Int32)) % (6 : Int32)) = (1 : Int32)) from hc42_3)).2 (by decide) (by decide) k) ?_
      refine own_go (W1 := s₁.setTop (mkF m 57 #[.val (.int sel), .val (.int b), .val (.int ((sel &&& (7 : Int32)) % (6 : Int32))), .val (.int bb), .unset, .unset] [(.int ((sel &&& (7 : Int32)) % (6 : Int32)))])) (fun t k => XS.iloadN X0.here hx rfl (hb hby at_56) rfl  k) ?_
      refine own_go (W1 := s₁.setTop (mkF m 58 #[.val (.int sel), .val (.int b), .val (.int ((sel &&& (7 : Int32)) % (6 : Int32))), .val (.int bb), .unset, .unset] [(.int (2 : Int32)), (.int ((sel &&& (7 : Int32)) % (6 : Int32)))])) (fun t k => XS.iconst X0.here hx rfl (hb hby at_57) k) ?_
      by_cases hc58_4 : ((sel &&& (7 : Int32)) % (6 : Int32)) = (2 : Int32)
      · skip
        refine own_go (W1 := s₁.setTop (mkF m 61 #[.val (.int sel), .val (.int b), .val (.int ((sel &&& (7 : Int32)) % (6 : Int32))), .val (.int bb), .unset, .unset] [])) (fun t k => XS.icmpNo X0.here hx rfl (hb hby at_58) rfl (teq (show ((sel &&& (7 : Int32)) % (6 : Int32)) = (2 : Int32) from hc58_4)).2 k) ?_
        obtain ⟨T5, X5, e5, st5⟩ := getS2 X0 hx hZ hown (host := "") (Or.inl (hw _ (List.mem_of_getElem? (i := 20) rfl))) Via.refl e0 S_RS512 (g := (mkF m 61 #[.val (.int sel), .val (.int b), .val (.int ((sel &&& (7 : Int32)) % (6 : Int32))), .val (.int bb), .unset, .unset] [])) rfl (hb hby at_61)
        refine own_go (W1 := T5.setTop (mkF m 64 #[.val (.int sel), .val (.int b), .val (.int ((sel &&& (7 : Int32)) % (6 : Int32))), .val (.int bb), .unset, .unset] [(.ref sRS512)])) (st5) ?_
        refine own_go (W1 := T5.setTop (mkF m 66 #[.val (.int sel), .val (.int b), .val (.int ((sel &&& (7 : Int32)) % (6 : Int32))), .val (.int bb), .val (.ref sRS512), .unset] [])) (fun t k => XS.astore X5.here hx rfl (hb hby at_64) rfl rfl (l' := #[.val (.int sel), .val (.int b), .val (.int ((sel &&& (7 : Int32)) % (6 : Int32))), .val (.int bb), .val (.ref sRS512), .unset]) rfl k) ?_
        refine own_go (W1 := T5.setTop (mkF m 67 #[.val (.int sel), .val (.int b), .val (.int ((sel &&& (7 : Int32)) % (6 : Int32))), .val (.int bb), .val (.ref sRS512), .unset] [(.int (0 : Int32))])) (fun t k => XS.iconst X5.here hx rfl (hb hby at_66) k) ?_
        refine own_go (W1 := T5.setTop (mkF m 69 #[.val (.int sel), .val (.int b), .val (.int ((sel &&& (7 : Int32)) % (6 : Int32))), .val (.int bb), .val (.ref sRS512), .val (.int (0 : Int32))] [])) (fun t k => XS.istore X5.here hx rfl (hb hby at_67) rfl (l' := #[.val (.int sel), .val (.int b), .val (.int ((sel &&& (7 : Int32)) % (6 : Int32))), .val (.int bb), .val (.ref sRS512), .val (.int (0 : Int32))]) rfl k) ?_
        refine own_go (W1 := T5.setTop (mkF m 142 #[.val (.int sel), .val (.int b), .val (.int ((sel &&& (7 : Int32)) % (6 : Int32))), .val (.int bb), .val (.ref sRS512), .val (.int (0 : Int32))] [])) (fun t k => XS.goto X5.here hx rfl (pc0 := 69) (pc' := 142) rfl (hb hby at_69) (by decide) (by decide) k) ?_
        refine own_go (W1 := T5.setTop (mkF m 144 #[.val (.int sel), .val (.int b), .val (.int ((sel &&& (7 : Int32)) % (6 : Int32))), .val (.int bb), .val (.ref sRS512), .val (.int (0 : Int32))] [(.ref sRS512)])) (fun t k => XS.aload X5.here hx rfl (hb hby at_142) rfl rfl  k) ?_
        refine own_go (W1 := T5.setTop (mkF m 145 #[.val (.int sel), .val (.int b), .val (.int ((sel &&& (7 : Int32)) % (6 : Int32))), .val (.int bb), .val (.ref sRS512), .val (.int (0 : Int32))] [(.int bb), (.ref sRS512)])) (fun t k => XS.iloadN X5.here hx rfl (hb hby at_144) rfl  k) ?_
        obtain ⟨cq6, kq6, q6a, q6b, q6c⟩ := isOf hZ e5 E_RS512
        obtain ⟨_, _, ⟨T6, L6, k6, n6⟩, -, X6, ⟨Lc6, hQ6, l6, y6, z6⟩, st6⟩ := X5.virtualBack hx (y := (⟨"com/example/tokenspan/tokenspan/tokens/JwsAlgorithm", "fitsSecret", "(I)Z"⟩ : MethodName)) (z := (⟨"com/example/tokenspan/tokenspan/tokens/JwsAlgorithm", "fitsSecret", "(I)Z"⟩ : MethodName)) hown (mvT hZ (hw _ (List.mem_of_getElem? (i := 3) rfl))) (mvT hZ (hw _ (List.mem_of_getElem? (i := 4) rfl))) (notFace_of_selects (args := #[]) (mvT hZ (hw _ (List.mem_of_getElem? (i := 6) rfl)))) (mvT hZ (hw _ (List.mem_of_getElem? (i := 6) rfl))) (mvT hZ (hw _ (List.mem_of_getElem? (i := 5) rfl))) (by decide) (backOf (W := 0) (rm1 l Z a0 hw [] sRS512 0 64 bb h0 n0 Z0 F_hmac_RS512 F_hash_RS512) hZ (hw _ (List.mem_of_getElem? (i := 7) rfl)) (hw _ (List.mem_of_getElem? (i := 1) rfl)) (by decide) (by decide)) q6a q6c (g := (mkF m 145 #[.val (.int sel), .val (.int b), .val (.int ((sel &&& (7 : Int32)) % (6 : Int32))), .val (.int bb), .val (.ref sRS512), .val (.int (0 : Int32))] [(.int bb), (.ref sRS512)])) rfl (by rw [hml]; rfl) (Steps.refl _) (argsL := [(.int bb)]) (rest := []) (lenOf own_pd0 rfl) rfl (by show 2 * 0 + _ ≤ _; exact Nat.le_of_eq rfl) (hb hby at_145) (fun _ _ => ⟨rfl, e5, (by decide : 0 + 0 ≤ _), (by decide : 0 + 0 ≤ _)⟩)
        dsimp only [Pt.U, Pt.locs, Pt.cells, Pt.slots] at X6 l6 y6 z6 st6 hQ6
        subst l6 y6 z6
        obtain ⟨rfl, Nq6, eh6⟩ := hQ6
        have N6 := Fr.app N0 Nq6
        refine own_tr (W1 := T6.setTop (mkF m 148 #[.val (.int sel), .val (.int b), .val (.int ((sel &&& (7 : Int32)) % (6 : Int32))), .val (.int bb), .val (.ref sRS512), .val (.int (0 : Int32))] [(.int (own_b2i (own_fit (0 : Int32) (64 : Int32) bb)))])) st6 ?_
        refine own_go (W1 := T6.setTop (mkF m 150 #[.val (.int sel), .val (.int b), .val (.int ((sel &&& (7 : Int32)) % (6 : Int32))), .val (.int bb), .val (.ref sRS512), .val (.int (0 : Int32))] [(.int (0 : Int32)), (.int (own_b2i (own_fit (0 : Int32) (64 : Int32) bb)))])) (fun t k => XS.iload X6.here hx rfl (hb hby at_148) rfl  k) ?_
        refine own_go (W1 := T6.setTop (mkF m 153 #[.val (.int sel), .val (.int b), .val (.int ((sel &&& (7 : Int32)) % (6 : Int32))), .val (.int bb), .val (.ref sRS512), .val (.int (0 : Int32))] [])) (fun t k => XS.icmpNo X6.here hx rfl (hb hby at_150) rfl (teq (show (own_b2i (own_fit (0 : Int32) (64 : Int32) bb)) = (0 : Int32) from (own_b0 (show ¬ own_fit 0 64 bb from by simp [own_fit, hc26_2, hc42_3, hc58_4])))).2 k) ?_
        refine own_go (W1 := T6.setTop (mkF m 154 #[.val (.int sel), .val (.int b), .val (.int ((sel &&& (7 : Int32)) % (6 : Int32))), .val (.int bb), .val (.ref sRS512), .val (.int (0 : Int32))] [(.int (1 : Int32))])) (fun t k => XS.iconst X6.here hx rfl (hb hby at_153) k) ?_
        refine own_go (W1 := T6.setTop (mkF m 158 #[.val (.int sel), .val (.int b), .val (.int ((sel &&& (7 : Int32)) % (6 : Int32))), .val (.int bb), .val (.ref sRS512), .val (.int (0 : Int32))] [(.int (1 : Int32))])) (fun t k => XS.goto X6.here hx rfl (pc0 := 154) (pc' := 158) rfl (hb hby at_154) (by decide) (by decide) k) ?_
        exact own_retN X6 hx (t := .boolean) Bd.returns (by simp) (hb hby at_158) hlk (by decide) (by decide) ⟨rfl, N6⟩
      · skip
        refine own_go (W1 := s₁.setTop (mkF m 72 #[.val (.int sel), .val (.int b), .val (.int ((sel &&& (7 : Int32)) % (6 : Int32))), .val (.int bb), .unset, .unset] [])) (fun t k => XS.icmpYes X0.here hx rfl (pc0 := 58) (pc' := 72) rfl (hb hby at_58) rfl (feq (show ¬ (((sel &&& (7 : Int32)) % (6 : Int32)) = (2 : Int32)) from hc58_4)).2 (by decide) (by decide) k) ?_
        refine own_go (W1 := s₁.setTop (mkF m 73 #[.val (.int sel), .val (.int b), .val (.int ((sel &&& (7 : Int32)) % (6 : Int32))), .val (.int bb), .unset, .unset] [(.int ((sel &&& (7 : Int32)) % (6 : Int32)))])) (fun t k => XS.iloadN X0.here hx rfl (hb hby at_72) rfl  k) ?_
        refine own_go (W1 := s₁.setTop (mkF m 74 #[.val (.int sel), .val (.int b), .val (.int ((sel &&& (7 : Int32)) % (6 : Int32))), .val (.int bb), .unset, .unset] [(.int (3 : Int32)), (.int ((sel &&& (7 : Int32)) % (6 : Int32)))])) (fun t k => XS.iconst X0.here hx rfl (hb hby at_73) k) ?_
        by_cases hc74_5 : ((sel &&& (7 : Int32)) % (6 : Int32)) = (3 : Int32)
        · skip
          refine own_go (W1 := s₁.setTop (mkF m 77 #[.val (.int sel), .val (.int b), .val (.int ((sel &&& (7 : Int32)) % (6 : Int32))), .val (.int bb), .unset, .unset] [])) (fun t k => XS.icmpNo X0.here hx rfl (hb hby at_74) rfl (teq (show ((sel &&& (7 : Int32)) % (6 : Int32)) = (3 : Int32) from hc74_5)).2 k) ?_
          obtain ⟨T7, X7, e7, st7⟩ := getS2 X0 hx hZ hown (host := "") (Or.inl (hw _ (List.mem_of_getElem? (i := 18) rfl))) Via.refl e0 S_HS256 (g := (mkF m 77 #[.val (.int sel), .val (.int b), .val (.int ((sel &&& (7 : Int32)) % (6 : Int32))), .val (.int bb), .unset, .unset] [])) rfl (hb hby at_77)
          refine own_go (W1 := T7.setTop (mkF m 80 #[.val (.int sel), .val (.int b), .val (.int ((sel &&& (7 : Int32)) % (6 : Int32))), .val (.int bb), .unset, .unset] [(.ref sHS256)])) (st7) ?_
          refine own_go (W1 := T7.setTop (mkF m 82 #[.val (.int sel), .val (.int b), .val (.int ((sel &&& (7 : Int32)) % (6 : Int32))), .val (.int bb), .val (.ref sHS256), .unset] [])) (fun t k => XS.astore X7.here hx rfl (hb hby at_80) rfl rfl (l' := #[.val (.int sel), .val (.int b), .val (.int ((sel &&& (7 : Int32)) % (6 : Int32))), .val (.int bb), .val (.ref sHS256), .unset]) rfl k) ?_
          refine own_go (W1 := T7.setTop (mkF m 83 #[.val (.int sel), .val (.int b), .val (.int ((sel &&& (7 : Int32)) % (6 : Int32))), .val (.int bb), .val (.ref sHS256), .unset] [(.int bb)])) (fun t k => XS.iloadN X7.here hx rfl (hb hby at_82) rfl  k) ?_
          refine own_go (W1 := T7.setTop (mkF m 85 #[.val (.int sel), .val (.int b), .val (.int ((sel &&& (7 : Int32)) % (6 : Int32))), .val (.int bb), .val (.ref sHS256), .unset] [(.int (32 : Int32)), (.int bb)])) (fun t k => XS.bipush X7.here hx rfl (hb hby at_83) k) ?_
          by_cases hc85_6 : bb < (32 : Int32)
          · skip
            refine own_go (W1 := T7.setTop (mkF m 92 #[.val (.int sel), .val (.int b), .val (.int ((sel &&& (7 : Int32)) % (6 : Int32))), .val (.int bb), .val (.ref sHS256), .unset] [])) (fun t k => XS.icmpYes X7.here hx rfl (pc0 := 85) (pc' := 92) rfl (hb hby at_85) rfl (tlt (show bb < (32 : Int32) from hc85_6)).1 (by decide) (by decide) k) ?_
            refine own_go (W1 := T7.setTop (mkF m 93 #[.val (.int sel), .val (.int b), .val (.int ((sel &&& (7 : Int32)) % (6 : Int32))), .val (.int bb), .val (.ref sHS256), .unset] [(.int (0 : Int32))])) (fun t k => XS.iconst X7.here hx rfl (hb hby at_92) k) ?_
            refine own_go (W1 := T7.setTop (mkF m 95 #[.val (.int sel), .val (.int b), .val (.int ((sel &&& (7 : Int32)) % (6 : Int32))), .val (.int bb), .val (.ref sHS256), .val (.int (0 : Int32))] [])) (fun t k => XS.istore X7.here hx rfl (hb hby at_93) rfl (l' := #[.val (.int sel), .val (.int b), .val (.int ((sel &&& (7 : Int32)) % (6 : Int32))), .val (.int bb), .val (.ref sHS256), .val (.int (0 : Int32))]) rfl k) ?_
            refine own_go (W1 := T7.setTop (mkF m 142 #[.val (.int sel), .val (.int b), .val (.int ((sel &&& (7 : Int32)) % (6 : Int32))), .val (.int bb), .val (.ref sHS256), .val (.int (0 : Int32))] [])) (fun t k => XS.goto X7.here hx rfl (pc0 := 95) (pc' := 142) rfl (hb hby at_95) (by decide) (by decide) k) ?_
            refine own_go (W1 := T7.setTop (mkF m 144 #[.val (.int sel), .val (.int b), .val (.int ((sel &&& (7 : Int32)) % (6 : Int32))), .val (.int bb), .val (.ref sHS256), .val (.int (0 : Int32))] [(.ref sHS256)])) (fun t k => XS.aload X7.here hx rfl (hb hby at_142) rfl rfl  k) ?_
            refine own_go (W1 := T7.setTop (mkF m 145 #[.val (.int sel), .val (.int b), .val (.int ((sel &&& (7 : Int32)) % (6 : Int32))), .val (.int bb), .val (.ref sHS256), .val (.int (0 : Int32))] [(.int bb), (.ref sHS256)])) (fun t k => XS.iloadN X7.here hx rfl (hb hby at_144) rfl  k) ?_
            obtain ⟨cq8, kq8, q8a, q8b, q8c⟩ := isOf hZ e7 E_HS256
            obtain ⟨_, _, ⟨T8, L8, k8, n8⟩, -, X8, ⟨Lc8, hQ8, l8, y8, z8⟩, st8⟩ := X7.virtualBack hx (y := (⟨"com/example/tokenspan/tokenspan/tokens/JwsAlgorithm", "fitsSecret", "(I)Z"⟩ : MethodName)) (z := (⟨"com/example/tokenspan/tokenspan/tokens/JwsAlgorithm", "fitsSecret", "(I)Z"⟩ : MethodName)) hown (mvT hZ (hw _ (List.mem_of_getElem? (i := 3) rfl))) (mvT hZ (hw _ (List.mem_of_getElem? (i := 4) rfl))) (notFace_of_selects (args := #[]) (mvT hZ (hw _ (List.mem_of_getElem? (i := 6) rfl)))) (mvT hZ (hw _ (List.mem_of_getElem? (i := 6) rfl))) (mvT hZ (hw _ (List.mem_of_getElem? (i := 5) rfl))) (by decide) (backOf (W := 0) (rm1 l Z a0 hw [] sHS256 1 32 bb h0 n0 Z0 F_hmac_HS256 F_hash_HS256) hZ (hw _ (List.mem_of_getElem? (i := 7) rfl)) (hw _ (List.mem_of_getElem? (i := 1) rfl)) (by decide) (by decide)) q8a q8c (g := (mkF m 145 #[.val (.int sel), .val (.int b), .val (.int ((sel &&& (7 : Int32)) % (6 : Int32))), .val (.int bb), .val (.ref sHS256), .val (.int (0 : Int32))] [(.int bb), (.ref sHS256)])) rfl (by rw [hml]; rfl) (Steps.refl _) (argsL := [(.int bb)]) (rest := []) (lenOf own_pd0 rfl) rfl (by show 2 * 0 + _ ≤ _; exact Nat.le_of_eq rfl) (hb hby at_145) (fun _ _ => ⟨rfl, e7, (by decide : 0 + 0 ≤ _), (by decide : 0 + 0 ≤ _)⟩)
            dsimp only [Pt.U, Pt.locs, Pt.cells, Pt.slots] at X8 l8 y8 z8 st8 hQ8
            subst l8 y8 z8
            obtain ⟨rfl, Nq8, eh8⟩ := hQ8
            have N8 := Fr.app N0 Nq8
            refine own_tr (W1 := T8.setTop (mkF m 148 #[.val (.int sel), .val (.int b), .val (.int ((sel &&& (7 : Int32)) % (6 : Int32))), .val (.int bb), .val (.ref sHS256), .val (.int (0 : Int32))] [(.int (own_b2i (own_fit (1 : Int32) (32 : Int32) bb)))])) st8 ?_
            refine own_go (W1 := T8.setTop (mkF m 150 #[.val (.int sel), .val (.int b), .val (.int ((sel &&& (7 : Int32)) % (6 : Int32))), .val (.int bb), .val (.ref sHS256), .val (.int (0 : Int32))] [(.int (0 : Int32)), (.int (own_b2i (own_fit (1 : Int32) (32 : Int32) bb)))])) (fun t k => XS.iload X8.here hx rfl (hb hby at_148) rfl  k) ?_
            refine own_go (W1 := T8.setTop (mkF m 153 #[.val (.int sel), .val (.int b), .val (.int ((sel &&& (7 : Int32)) % (6 : Int32))), .val (.int bb), .val (.ref sHS256), .val (.int (0 : Int32))] [])) (fun t k => XS.icmpNo X8.here hx rfl (hb hby at_150) rfl (teq (show (own_b2i (own_fit (1 : Int32) (32 : Int32) bb)) = (0 : Int32) from (own_b0 (show ¬ own_fit 1 32 bb from by simp [own_fit, hc26_2, hc42_3, hc58_4, hc74_5, hc85_6])))).2 k) ?_
            refine own_go (W1 := T8.setTop (mkF m 154 #[.val (.int sel), .val (.int b), .val (.int ((sel &&& (7 : Int32)) % (6 : Int32))), .val (.int bb), .val (.ref sHS256), .val (.int (0 : Int32))] [(.int (1 : Int32))])) (fun t k => XS.iconst X8.here hx rfl (hb hby at_153) k) ?_
            refine own_go (W1 := T8.setTop (mkF m 158 #[.val (.int sel), .val (.int b), .val (.int ((sel &&& (7 : Int32)) % (6 : Int32))), .val (.int bb), .val (.ref sHS256), .val (.int (0 : Int32))] [(.int (1 : Int32))])) (fun t k => XS.goto X8.here hx rfl (pc0 := 154) (pc' := 158) rfl (hb hby at_154) (by decide) (by decide) k) ?_
            exact own_retN X8 hx (t := .boolean) Bd.returns (by simp) (hb hby at_158) hlk (by decide) (by decide) ⟨rfl, N8⟩
          · skip
            refine own_go (W1 := T7.setTop (mkF m 88 #[.val (.int sel), .val (.int b), .val (.int ((sel &&& (7 : Int32)) % (6 : Int32))), .val (.int bb), .val (.ref sHS256), .unset] [])) (fun t k => XS.icmpNo X7.here hx rfl (hb hby at_85) rfl (flt (show ¬ (bb < (32 : Int32)) from hc85_6)).1 k) ?_
            refine own_go (W1 := T7.setTop (mkF m 89 #[.val (.int sel), .val (.int b), .val (.int ((sel &&& (7 : Int32)) % (6 : Int32))), .val (.int bb), .val (.ref sHS256), .unset] [(.int (1 : Int32))])) (fun t k => XS.iconst X7.here hx rfl (hb hby at_88) k) ?_
            refine own_go (W1 := T7.setTop (mkF m 93 #[.val (.int sel), .val (.int b), .val (.int ((sel &&& (7 : Int32)) % (6 : Int32))), .val (.int bb), .val (.ref sHS256), .unset] [(.int (1 : Int32))])) (fun t k => XS.goto X7.here hx rfl (pc0 := 89) (pc' := 93) rfl (hb hby at_89) (by decide) (by decide) k) ?_
            refine own_go (W1 := T7.setTop (mkF m 95 #[.val (.int sel), .val (.int b), .val (.int ((sel &&& (7 : Int32)) % (6 : Int32))), .val (.int bb), .val (.ref sHS256), .val (.int (1 : Int32))] [])) (fun t k => XS.istore X7.here hx rfl (hb hby at_93) rfl (l' := #[.val (.int sel), .val (.int b), .val (.int ((sel &&& (7 : Int32)) % (6 : Int32))), .val (.int bb), .val (.ref sHS256), .val (.int (1 : Int32))]) rfl k) ?_
            refine own_go (W1 := T7.setTop (mkF m 142 #[.val (.int sel), .val (.int b), .val (.int ((sel &&& (7 : Int32)) % (6 : Int32))), .val (.int bb), .val (.ref sHS256), .val (.int (1 : Int32))] [])) (fun t k => XS.goto X7.here hx rfl (pc0 := 95) (pc' := 142) rfl (hb hby at_95) (by decide) (by decide) k) ?_
            refine own_go (W1 := T7.setTop (mkF m 144 #[.val (.int sel), .val (.int b), .val (.int ((sel &&& (7 : Int32)) % (6 : Int32))), .val (.int bb), .val (.ref sHS256), .val (.int (1 : Int32))] [(.ref sHS256)])) (fun t k => XS.aload X7.here hx rfl (hb hby at_142) rfl rfl  k) ?_
            refine own_go (W1 := T7.setTop (mkF m 145 #[.val (.int sel), .val (.int b), .val (.int ((sel &&& (7 : Int32)) % (6 : Int32))), .val (.int bb), .val (.ref sHS256), .val (.int (1 : Int32))] [(.int bb), (.ref sHS256)])) (fun t k => XS.iloadN X7.here hx rfl (hb hby at_144) rfl  k) ?_
            obtain ⟨cq9, kq9, q9a, q9b, q9c⟩ := isOf hZ e7 E_HS256
            obtain ⟨_, _, ⟨T9, L9, k9, n9⟩, -, X9, ⟨Lc9, hQ9, l9, y9, z9⟩, st9⟩ := X7.virtualBack hx (y := (⟨"com/example/tokenspan/tokenspan/tokens/JwsAlgorithm", "fitsSecret", "(I)Z"⟩ : MethodName)) (z := (⟨"com/example/tokenspan/tokenspan/tokens/JwsAlgorithm", "fitsSecret", "(I)Z"⟩ : MethodName)) hown (mvT hZ (hw _ (List.mem_of_getElem? (i := 3) rfl))) (mvT hZ (hw _ (List.mem_of_getElem? (i := 4) rfl))) (notFace_of_selects (args := #[]) (mvT hZ (hw _ (List.mem_of_getElem? (i := 6) rfl)))) (mvT hZ (hw _ (List.mem_of_getElem? (i := 6) rfl))) (mvT hZ (hw _ (List.mem_of_getElem? (i := 5) rfl))) (by decide) (backOf (W := 0) (rm1 l Z a0 hw [] sHS256 1 32 bb h0 n0 Z0 F_hmac_HS256 F_hash_HS256) hZ (hw _ (List.mem_of_getElem? (i := 7) rfl)) (hw _ (List.mem_of_getElem? (i := 1) rfl)) (by decide) (by decide)) q9a q9c (g := (mkF m 145 #[.val (.int sel), .val (.int b), .val (.int ((sel &&& (7 : Int32)) % (6 : Int32))), .val (.int bb), .val (.ref sHS256), .val (.int (1 : Int32))] [(.int bb), (.ref sHS256)])) rfl (by rw [hml]; rfl) (Steps.refl _) (argsL := [(.int bb)]) (rest := []) (lenOf own_pd0 rfl) rfl (by show 2 * 0 + _ ≤ _; exact Nat.le_of_eq rfl) (hb hby at_145) (fun _ _ => ⟨rfl, e7, (by decide : 0 + 0 ≤ _), (by decide : 0 + 0 ≤ _)⟩)
            dsimp only [Pt.U, Pt.locs, Pt.cells, Pt.slots] at X9 l9 y9 z9 st9 hQ9
            subst l9 y9 z9
            obtain ⟨rfl, Nq9, eh9⟩ := hQ9
            have N9 := Fr.app N0 Nq9
            refine own_tr (W1 := T9.setTop (mkF m 148 #[.val (.int sel), .val (.int b), .val (.int ((sel &&& (7 : Int32)) % (6 : Int32))), .val (.int bb), .val (.ref sHS256), .val (.int (1 : Int32))] [(.int (own_b2i (own_fit (1 : Int32) (32 : Int32) bb)))])) st9 ?_
            refine own_go (W1 := T9.setTop (mkF m 150 #[.val (.int sel), .val (.int b), .val (.int ((sel &&& (7 : Int32)) % (6 : Int32))), .val (.int bb), .val (.ref sHS256), .val (.int (1 : Int32))] [(.int (1 : Int32)), (.int (own_b2i (own_fit (1 : Int32) (32 : Int32) bb)))])) (fun t k => XS.iload X9.here hx rfl (hb hby at_148) rfl  k) ?_
            refine own_go (W1 := T9.setTop (mkF m 153 #[.val (.int sel), .val (.int b), .val (.int ((sel &&& (7 : Int32)) % (6 : Int32))), .val (.int bb), .val (.ref sHS256), .val (.int (1 : Int32))] [])) (fun t k => XS.icmpNo X9.here hx rfl (hb hby at_150) rfl (teq (show (own_b2i (own_fit (1 : Int32) (32 : Int32) bb)) = (1 : Int32) from (own_b1 (show own_fit 1 32 bb from by simp [own_fit, hc26_2, hc42_3, hc58_4, hc74_5, hc85_6])))).2 k) ?_
            refine own_go (W1 := T9.setTop (mkF m 154 #[.val (.int sel), .val (.int b), .val (.int ((sel &&& (7 : Int32)) % (6 : Int32))), .val (.int bb), .val (.ref sHS256), .val (.int (1 : Int32))] [(.int (1 : Int32))])) (fun t k => XS.iconst X9.here hx rfl (hb hby at_153) k) ?_
            refine own_go (W1 := T9.setTop (mkF m 158 #[.val (.int sel), .val (.int b), .val (.int ((sel &&& (7 : Int32)) % (6 : Int32))), .val (.int bb), .val (.ref sHS256), .val (.int (1 : Int32))] [(.int (1 : Int32))])) (fun t k => XS.goto X9.here hx rfl (pc0 := 154) (pc' := 158) rfl (hb hby at_154) (by decide) (by decide) k) ?_
            exact own_retN X9 hx (t := .boolean) Bd.returns (by simp) (hb hby at_158) hlk (by decide) (by decide) ⟨rfl, N9⟩
        · skip
          refine own_go (W1 := s₁.setTop (mkF m 98 #[.val (.int sel), .val (.int b), .val (.int ((sel &&& (7 : Int32)) % (6 : Int32))), .val (.int bb), .unset, .unset] [])) (fun t k => XS.icmpYes X0.here hx rfl (pc0 := 74) (pc' := 98) rfl (hb hby at_74) rfl (feq (show ¬ (((sel &&& (7 : Int32)) % (6 : Int32)) = (3 : Int32)) from hc74_5)).2 (by decide) (by decide) k) ?_
          refine own_go (W1 := s₁.setTop (mkF m 99 #[.val (.int sel), .val (.int b), .val (.int ((sel &&& (7 : Int32)) % (6 : Int32))), .val (.int bb), .unset, .unset] [(.int ((sel &&& (7 : Int32)) % (6 : Int32)))])) (fun t k => XS.iloadN X0.here hx rfl (hb hby at_98) rfl  k) ?_
          refine own_go (W1 := s₁.setTop (mkF m 100 #[.val (.int sel), .val (.int b), .val (.int ((sel &&& (7 : Int32)) % (6 : Int32))), .val (.int bb), .unset, .unset] [(.int (4 : Int32)), (.int ((sel &&& (7 : Int32)) % (6 : Int32)))])) (fun t k => XS.iconst X0.here hx rfl (hb hby at_99) k) ?_
          by_cases hc100_7 : ((sel &&& (7 : Int32)) % (6 : Int32)) = (4 : Int32)
          · skip
            refine own_go (W1 := s₁.setTop (mkF m 103 #[.val (.int sel), .val (.int b), .val (.int ((sel &&& (7 : Int32)) % (6 : Int32))), .val (.int bb), .unset, .unset] [])) (fun t k => XS.icmpNo X0.here hx rfl (hb hby at_100) rfl (teq (show ((sel &&& (7 : Int32)) % (6 : Int32)) = (4 : Int32) from hc100_7)).2 k) ?_
            obtain ⟨T10, X10, e10, st10⟩ := getS2 X0 hx hZ hown (host := "") (Or.inl (hw _ (List.mem_of_getElem? (i := 10) rfl))) Via.refl e0 S_HS384 (g := (mkF m 103 #[.val (.int sel), .val (.int b), .val (.int ((sel &&& (7 : Int32)) % (6 : Int32))), .val (.int bb), .unset, .unset] [])) rfl (hb hby at_103)
            refine own_go (W1 := T10.setTop (mkF m 106 #[.val (.int sel), .val (.int b), .val (.int ((sel &&& (7 : Int32)) % (6 : Int32))), .val (.int bb), .unset, .unset] [(.ref sHS384)])) (st10) ?_
            refine own_go (W1 := T10.setTop (mkF m 108 #[.val (.int sel), .val (.int b), .val (.int ((sel &&& (7 : Int32)) % (6 : Int32))), .val (.int bb), .val (.ref sHS384), .unset] [])) (fun t k => XS.astore X10.here hx rfl (hb hby at_106) rfl rfl (l' := #[.val (.int sel), .val (.int b), .val (.int ((sel &&& (7 : Int32)) % (6 : Int32))), .val (.int bb), .val (.ref sHS384), .unset]) rfl k) ?_
            refine own_go (W1 := T10.setTop (mkF m 109 #[.val (.int sel), .val (.int b), .val (.int ((sel &&& (7 : Int32)) % (6 : Int32))), .val (.int bb), .val (.ref sHS384), .unset] [(.int bb)])) (fun t k => XS.iloadN X10.here hx rfl (hb hby at_108) rfl  k) ?_
            refine own_go (W1 := T10.setTop (mkF m 111 #[.val (.int sel), .val (.int b), .val (.int ((sel &&& (7 : Int32)) % (6 : Int32))), .val (.int bb), .val (.ref sHS384), .unset] [(.int (48 : Int32)), (.int bb)])) (fun t k => XS.bipush X10.here hx rfl (hb hby at_109) k) ?_
            by_cases hc111_8 : bb < (48 : Int32)
            · skip
              refine own_go (W1 := T10.setTop (mkF m 118 #[.val (.int sel), .val (.int b), .val (.int ((sel &&& (7 : Int32)) % (6 : Int32))), .val (.int bb), .val (.ref sHS384), .unset] [])) (fun t k => XS.icmpYes X10.here hx rfl (pc0 := 111) (pc' := 118) rfl (hb hby at_111) rfl (tlt (show bb < (48 : Int32) from hc111_8)).1 (by decide) (by decide) k) ?_
              refine own_go (W1 := T10.setTop (mkF m 119 #[.val (.int sel), .val (.int b), .val (.int ((sel &&& (7 : Int32)) % (6 : Int32))), .val (.int bb), .val (.ref sHS384), .unset] [(.int (0 : Int32))])) (fun t k => XS.iconst X10.here hx rfl (hb hby at_118) k) ?_
              refine own_go (W1 := T10.setTop (mkF m 121 #[.val (.int sel), .val (.int b), .val (.int ((sel &&& (7 : Int32)) % (6 : Int32))), .val (.int bb), .val (.ref sHS384), .val (.int (0 : Int32))] [])) (fun t k => XS.istore X10.here hx rfl (hb hby at_119) rfl (l' := #[.val (.int sel), .val (.int b), .val (.int ((sel &&& (7 : Int32)) % (6 : Int32))), .val (.int bb), .val (.ref sHS384), .val (.int (0 : Int32))]) rfl k) ?_
              refine own_go (W1 := T10.setTop (mkF m 142 #[.val (.int sel), .val (.int b), .val (.int ((sel &&& (7 : Int32)) % (6 : Int32))), .val (.int bb), .val (.ref sHS384), .val (.int (0 : Int32))] [])) (fun t k => XS.goto X10.here hx rfl (pc0 := 121) (pc' := 142) rfl (hb hby at_121) (by decide) (by decide) k) ?_
              refine own_go (W1 := T10.setTop (mkF m 144 #[.val (.int sel), .val (.int b), .val (.int ((sel &&& (7 : Int32)) % (6 : Int32))), .val (.int bb), .val (.ref sHS384), .val (.int (0 : Int32))] [(.ref sHS384)])) (fun t k => XS.aload X10.here hx rfl (hb hby at_142) rfl rfl  k) ?_
              refine own_go (W1 := T10.setTop (mkF m 145 #[.val (.int sel), .val (.int b), .val (.int ((sel &&& (7 : Int32)) % (6 : Int32))), .val (.int bb), .val (.ref sHS384), .val (.int (0 : Int32))] [(.int bb), (.ref sHS384)])) (fun t k => XS.iloadN X10.here hx rfl (hb hby at_144) rfl  k) ?_
              obtain ⟨cq11, kq11, q11a, q11b, q11c⟩ := isOf hZ e10 E_HS384
              obtain ⟨_, _, ⟨T11, L11, k11, n11⟩, -, X11, ⟨Lc11, hQ11, l11, y11, z11⟩, st11⟩ := X10.virtualBack hx (y := (⟨"com/example/tokenspan/tokenspan/tokens/JwsAlgorithm", "fitsSecret", "(I)Z"⟩ : MethodName)) (z := (⟨"com/example/tokenspan/tokenspan/tokens/JwsAlgorithm", "fitsSecret", "(I)Z"⟩ : MethodName)) hown (mvT hZ (hw _ (List.mem_of_getElem? (i := 3) rfl))) (mvT hZ (hw _ (List.mem_of_getElem? (i := 4) rfl))) (notFace_of_selects (args := #[]) (mvT hZ (hw _ (List.mem_of_getElem? (i := 6) rfl)))) (mvT hZ (hw _ (List.mem_of_getElem? (i := 6) rfl))) (mvT hZ (hw _ (List.mem_of_getElem? (i := 5) rfl))) (by decide) (backOf (W := 0) (rm1 l Z a0 hw [] sHS384 1 48 bb h0 n0 Z0 F_hmac_HS384 F_hash_HS384) hZ (hw _ (List.mem_of_getElem? (i := 7) rfl)) (hw _ (List.mem_of_getElem? (i := 1) rfl)) (by decide) (by decide)) q11a q11c (g := (mkF m 145 #[.val (.int sel), .val (.int b), .val (.int ((sel &&& (7 : Int32)) % (6 : Int32))), .val (.int bb), .val (.ref sHS384), .val (.int (0 : Int32))] [(.int bb), (.ref sHS384)])) rfl (by rw [hml]; rfl) (Steps.refl _) (argsL := [(.int bb)]) (rest := []) (lenOf own_pd0 rfl) rfl (by show 2 * 0 + _ ≤ _; exact Nat.le_of_eq rfl) (hb hby at_145) (fun _ _ => ⟨rfl, e10, (by decide : 0 + 0 ≤ _), (by decide : 0 + 0 ≤ _)⟩)
              dsimp only [Pt.U, Pt.locs, Pt.cells, Pt.slots] at X11 l11 y11 z11 st11 hQ11
              subst l11 y11 z11
              obtain ⟨rfl, Nq11, eh11⟩ := hQ11
              have N11 := Fr.app N0 Nq11
              refine own_tr (W1 := T11.setTop (mkF m 148 #[.val (.int sel), .val (.int b), .val (.int ((sel &&& (7 : Int32)) % (6 : Int32))), .val (.int bb), .val (.ref sHS384), .val (.int (0 : Int32))] [(.int (own_b2i (own_fit (1 : Int32) (48 : Int32) bb)))])) st11 ?_
              refine own_go (W1 := T11.setTop (mkF m 150 #[.val (.int sel), .val (.int b), .val (.int ((sel &&& (7 : Int32)) % (6 : Int32))), .val (.int bb), .val (.ref sHS384), .val (.int (0 : Int32))] [(.int (0 : Int32)), (.int (own_b2i (own_fit (1 : Int32) (48 : Int32) bb)))])) (fun t k => XS.iload X11.here hx rfl (hb hby at_148) rfl  k) ?_
              refine own_go (W1 := T11.setTop (mkF m 153 #[.val (.int sel), .val (.int b), .val (.int ((sel &&& (7 : Int32)) % (6 : Int32))), .val (.int bb), .val (.ref sHS384), .val (.int (0 : Int32))] [])) (fun t k => XS.icmpNo X11.here hx rfl (hb hby at_150) rfl (teq (show (own_b2i (own_fit (1 : Int32) (48 : Int32) bb)) = (0 : Int32) from (own_b0 (show ¬ own_fit 1 48 bb from by simp [own_fit, hc26_2, hc42_3, hc58_4, hc74_5, hc100_7, hc111_8])))).2 k) ?_
              refine own_go (W1 := T11.setTop (mkF m 154 #[.val (.int sel), .val (.int b), .val (.int ((sel &&& (7 : Int32)) % (6 : Int32))), .val (.int bb), .val (.ref sHS384), .val (.int (0 : Int32))] [(.int (1 : Int32))])) (fun t k => XS.iconst X11.here hx rfl (hb hby at_153) k) ?_
              refine own_go (W1 := T11.setTop (mkF m 158 #[.val (.int sel), .val (.int b), .val (.int ((sel &&& (7 : Int32)) % (6 : Int32))), .val (.int bb), .val (.ref sHS384), .val (.int (0 : Int32))] [(.int (1 : Int32))])) (fun t k => XS.goto X11.here hx rfl (pc0 := 154) (pc' := 158) rfl (hb hby at_154) (by decide) (by decide) k) ?_
              exact own_retN X11 hx (t := .boolean) Bd.returns (by simp) (hb hby at_158) hlk (by decide) (by decide) ⟨rfl, N11⟩
            · skip
              refine own_go (W1 := T10.setTop (mkF m 114 #[.val (.int sel), .val (.int b), .val (.int ((sel &&& (7 : Int32)) % (6 : Int32))), .val (.int bb), .val (.ref sHS384), .unset] [])) (fun t k => XS.icmpNo X10.here hx rfl (hb hby at_111) rfl (flt (show ¬ (bb < (48 : Int32)) from hc111_8)).1 k) ?_
              refine own_go (W1 := T10.setTop (mkF m 115 #[.val (.int sel), .val (.int b), .val (.int ((sel &&& (7 : Int32)) % (6 : Int32))), .val (.int bb), .val (.ref sHS384), .unset] [(.int (1 : Int32))])) (fun t k => XS.iconst X10.here hx rfl (hb hby at_114) k) ?_
              refine own_go (W1 := T10.setTop (mkF m 119 #[.val (.int sel), .val (.int b), .val (.int ((sel &&& (7 : Int32)) % (6 : Int32))), .val (.int bb), .val (.ref sHS384), .unset] [(.int (1 : Int32))])) (fun t k => XS.goto X10.here hx rfl (pc0 := 115) (pc' := 119) rfl (hb hby at_115) (by decide) (by decide) k) ?_
              refine own_go (W1 := T10.setTop (mkF m 121 #[.val (.int sel), .val (.int b), .val (.int ((sel &&& (7 : Int32)) % (6 : Int32))), .val (.int bb), .val (.ref sHS384), .val (.int (1 : Int32))] [])) (fun t k => XS.istore X10.here hx rfl (hb hby at_119) rfl (l' := #[.val (.int sel), .val (.int b), .val (.int ((sel &&& (7 : Int32)) % (6 : Int32))), .val (.int bb), .val (.ref sHS384), .val (.int (1 : Int32))]) rfl k) ?_
              refine own_go (W1 := T10.setTop (mkF m 142 #[.val (.int sel), .val (.int b), .val (.int ((sel &&& (7 : Int32)) % (6 : Int32))), .val (.int bb), .val (.ref sHS384), .val (.int (1 : Int32))] [])) (fun t k => XS.goto X10.here hx rfl (pc0 := 121) (pc' := 142) rfl (hb hby at_121) (by decide) (by decide) k) ?_
              refine own_go (W1 := T10.setTop (mkF m 144 #[.val (.int sel), .val (.int b), .val (.int ((sel &&& (7 : Int32)) % (6 : Int32))), .val (.int bb), .val (.ref sHS384), .val (.int (1 : Int32))] [(.ref sHS384)])) (fun t k => XS.aload X10.here hx rfl (hb hby at_142) rfl rfl  k) ?_
              refine own_go (W1 := T10.setTop (mkF m 145 #[.val (.int sel), .val (.int b), .val (.int ((sel &&& (7 : Int32)) % (6 : Int32))), .val (.int bb), .val (.ref sHS384), .val (.int (1 : Int32))] [(.int bb), (.ref sHS384)])) (fun t k => XS.iloadN X10.here hx rfl (hb hby at_144) rfl  k) ?_
              obtain ⟨cq12, kq12, q12a, q12b, q12c⟩ := isOf hZ e10 E_HS384
              obtain ⟨_, _, ⟨T12, L12, k12, n12⟩, -, X12, ⟨Lc12, hQ12, l12, y12, z12⟩, st12⟩ := X10.virtualBack hx (y := (⟨"com/example/tokenspan/tokenspan/tokens/JwsAlgorithm", "fitsSecret", "(I)Z"⟩ : MethodName)) (z := (⟨"com/example/tokenspan/tokenspan/tokens/JwsAlgorithm", "fitsSecret", "(I)Z"⟩ : MethodName)) hown (mvT hZ (hw _ (List.mem_of_getElem? (i := 3) rfl))) (mvT hZ (hw _ (List.mem_of_getElem? (i := 4) rfl))) (notFace_of_selects (args := #[]) (mvT hZ (hw _ (List.mem_of_getElem? (i := 6) rfl)))) (mvT hZ (hw _ (List.mem_of_getElem? (i := 6) rfl))) (mvT hZ (hw _ (List.mem_of_getElem? (i := 5) rfl))) (by decide) (backOf (W := 0) (rm1 l Z a0 hw [] sHS384 1 48 bb h0 n0 Z0 F_hmac_HS384 F_hash_HS384) hZ (hw _ (List.mem_of_getElem? (i := 7) rfl)) (hw _ (List.mem_of_getElem? (i := 1) rfl)) (by decide) (by decide)) q12a q12c (g := (mkF m 145 #[.val (.int sel), .val (.int b), .val (.int ((sel &&& (7 : Int32)) % (6 : Int32))), .val (.int bb), .val (.ref sHS384), .val (.int (1 : Int32))] [(.int bb), (.ref sHS384)])) rfl (by rw [hml]; rfl) (Steps.refl _) (argsL := [(.int bb)]) (rest := []) (lenOf own_pd0 rfl) rfl (by show 2 * 0 + _ ≤ _; exact Nat.le_of_eq rfl) (hb hby at_145) (fun _ _ => ⟨rfl, e10, (by decide : 0 + 0 ≤ _), (by decide : 0 + 0 ≤ _)⟩)
              dsimp only [Pt.U, Pt.locs, Pt.cells, Pt.slots] at X12 l12 y12 z12 st12 hQ12
              subst l12 y12 z12
              obtain ⟨rfl, Nq12, eh12⟩ := hQ12
              have N12 := Fr.app N0 Nq12
              refine own_tr (W1 := T12.setTop (mkF m 148 #[.val (.int sel), .val (.int b), .val (.int ((sel &&& (7 : Int32)) % (6 : Int32))), .val (.int bb), .val (.ref sHS384), .val (.int (1 : Int32))] [(.int (own_b2i (own_fit (1 : Int32) (48 : Int32) bb)))])) st12 ?_
              refine own_go (W1 := T12.setTop (mkF m 150 #[.val (.int sel), .val (.int b), .val (.int ((sel &&& (7 : Int32)) % (6 : Int32))), .val (.int bb), .val (.ref sHS384), .val (.int (1 : Int32))] [(.int (1 : Int32)), (.int (own_b2i (own_fit (1 : Int32) (48 : Int32) bb)))])) (fun t k => XS.iload X12.here hx rfl (hb hby at_148) rfl  k) ?_
              refine own_go (W1 := T12.setTop (mkF m 153 #[.val (.int sel), .val (.int b), .val (.int ((sel &&& (7 : Int32)) % (6 : Int32))), .val (.int bb), .val (.ref sHS384), .val (.int (1 : Int32))] [])) (fun t k => XS.icmpNo X12.here hx rfl (hb hby at_150) rfl (teq (show (own_b2i (own_fit (1 : Int32) (48 : Int32) bb)) = (1 : Int32) from (own_b1 (show own_fit 1 48 bb from by simp [own_fit, hc26_2, hc42_3, hc58_4, hc74_5, hc100_7, hc111_8])))).2 k) ?_
              refine own_go (W1 := T12.setTop (mkF m 154 #[.val (.int sel), .val (.int b), .val (.int ((sel &&& (7 : Int32)) % (6 : Int32))), .val (.int bb), .val (.ref sHS384), .val (.int (1 : Int32))] [(.int (1 : Int32))])) (fun t k => XS.iconst X12.here hx rfl (hb hby at_153) k) ?_
              refine own_go (W1 := T12.setTop (mkF m 158 #[.val (.int sel), .val (.int b), .val (.int ((sel &&& (7 : Int32)) % (6 : Int32))), .val (.int bb), .val (.ref sHS384), .val (.int (1 : Int32))] [(.int (1 : Int32))])) (fun t k => XS.goto X12.here hx rfl (pc0 := 154) (pc' := 158) rfl (hb hby at_154) (by decide) (by decide) k) ?_
              exact own_retN X12 hx (t := .boolean) Bd.returns (by simp) (hb hby at_158) hlk (by decide) (by decide) ⟨rfl, N12⟩
          · skip
            refine own_go (W1 := s₁.setTop (mkF m 124 #[.val (.int sel), .val (.int b), .val (.int ((sel &&& (7 : Int32)) % (6 : Int32))), .val (.int bb), .unset, .unset] [])) (fun t k => XS.icmpYes X0.here hx rfl (pc0 := 100) (pc' := 124) rfl (hb hby at_100) rfl (feq (show ¬ (((sel &&& (7 : Int32)) % (6 : Int32)) = (4 : Int32)) from hc100_7)).2 (by decide) (by decide) k) ?_
            obtain ⟨T13, X13, e13, st13⟩ := getS2 X0 hx hZ hown (host := "") (Or.inl (hw _ (List.mem_of_getElem? (i := 14) rfl))) Via.refl e0 S_HS512 (g := (mkF m 124 #[.val (.int sel), .val (.int b), .val (.int ((sel &&& (7 : Int32)) % (6 : Int32))), .val (.int bb), .unset, .unset] [])) rfl (hb hby at_124)
            refine own_go (W1 := T13.setTop (mkF m 127 #[.val (.int sel), .val (.int b), .val (.int ((sel &&& (7 : Int32)) % (6 : Int32))), .val (.int bb), .unset, .unset] [(.ref sHS512)])) (st13) ?_
            refine own_go (W1 := T13.setTop (mkF m 129 #[.val (.int sel), .val (.int b), .val (.int ((sel &&& (7 : Int32)) % (6 : Int32))), .val (.int bb), .val (.ref sHS512), .unset] [])) (fun t k => XS.astore X13.here hx rfl (hb hby at_127) rfl rfl (l' := #[.val (.int sel), .val (.int b), .val (.int ((sel &&& (7 : Int32)) % (6 : Int32))), .val (.int bb), .val (.ref sHS512), .unset]) rfl k) ?_
            refine own_go (W1 := T13.setTop (mkF m 130 #[.val (.int sel), .val (.int b), .val (.int ((sel &&& (7 : Int32)) % (6 : Int32))), .val (.int bb), .val (.ref sHS512), .unset] [(.int bb)])) (fun t k => XS.iloadN X13.here hx rfl (hb hby at_129) rfl  k) ?_
            refine own_go (W1 := T13.setTop (mkF m 132 #[.val (.int sel), .val (.int b), .val (.int ((sel &&& (7 : Int32)) % (6 : Int32))), .val (.int bb), .val (.ref sHS512), .unset] [(.int (64 : Int32)), (.int bb)])) (fun t k => XS.bipush X13.here hx rfl (hb hby at_130) k) ?_
            by_cases hc132_9 : bb < (64 : Int32)
            · skip
              refine own_go (W1 := T13.setTop (mkF m 139 #[.val (.int sel), .val (.int b), .val (.int ((sel &&& (7 : Int32)) % (6 : Int32))), .val (.int bb), .val (.ref sHS512), .unset] [])) (fun t k => XS.icmpYes X13.here hx rfl (pc0 := 132) (pc' := 139) rfl (hb hby at_132) rfl (tlt (show bb < (64 : Int32) from hc132_9)).1 (by decide) (by decide) k) ?_
              refine own_go (W1 := T13.setTop (mkF m 140 #[.val (.int sel), .val (.int b), .val (.int ((sel &&& (7 : Int32)) % (6 : Int32))), .val (.int bb), .val (.ref sHS512), .unset] [(.int (0 : Int32))])) (fun t k => XS.iconst X13.here hx rfl (hb hby at_139) k) ?_
              refine own_go (W1 := T13.setTop (mkF m 142 #[.val (.int sel), .val (.int b), .val (.int ((sel &&& (7 : Int32)) % (6 : Int32))), .val (.int bb), .val (.ref sHS512), .val (.int (0 : Int32))] [])) (fun t k => XS.istore X13.here hx rfl (hb hby at_140) rfl (l' := #[.val (.int sel), .val (.int b), .val (.int ((sel &&& (7 : Int32)) % (6 : Int32))), .val (.int bb), .val (.ref sHS512), .val (.int (0 : Int32))]) rfl k) ?_
              refine own_go (W1 := T13.setTop (mkF m 144 #[.val (.int sel), .val (.int b), .val (.int ((sel &&& (7 : Int32)) % (6 : Int32))), .val (.int bb), .val (.ref sHS512), .val (.int (0 : Int32))] [(.ref sHS512)])) (fun t k => XS.aload X13.here hx rfl (hb hby at_142) rfl rfl  k) ?_
              refine own_go (W1 := T13.setTop (mkF m 145 #[.val (.int sel), .val (.int b), .val (.int ((sel &&& (7 : Int32)) % (6 : Int32))), .val (.int bb), .val (.ref sHS512), .val (.int (0 : Int32))] [(.int bb), (.ref sHS512)])) (fun t k => XS.iloadN X13.here hx rfl (hb hby at_144) rfl  k) ?_
              obtain ⟨cq14, kq14, q14a, q14b, q14c⟩ := isOf hZ e13 E_HS512
              obtain ⟨_, _, ⟨T14, L14, k14, n14⟩, -, X14, ⟨Lc14, hQ14, l14, y14, z14⟩, st14⟩ := X13.virtualBack hx (y := (⟨"com/example/tokenspan/tokenspan/tokens/JwsAlgorithm", "fitsSecret", "(I)Z"⟩ : MethodName)) (z := (⟨"com/example/tokenspan/tokenspan/tokens/JwsAlgorithm", "fitsSecret", "(I)Z"⟩ : MethodName)) hown (mvT hZ (hw _ (List.mem_of_getElem? (i := 3) rfl))) (mvT hZ (hw _ (List.mem_of_getElem? (i := 4) rfl))) (notFace_of_selects (args := #[]) (mvT hZ (hw _ (List.mem_of_getElem? (i := 6) rfl)))) (mvT hZ (hw _ (List.mem_of_getElem? (i := 6) rfl))) (mvT hZ (hw _ (List.mem_of_getElem? (i := 5) rfl))) (by decide) (backOf (W := 0) (rm1 l Z a0 hw [] sHS512 1 64 bb h0 n0 Z0 F_hmac_HS512 F_hash_HS512) hZ (hw _ (List.mem_of_getElem? (i := 7) rfl)) (hw _ (List.mem_of_getElem? (i := 1) rfl)) (by decide) (by decide)) q14a q14c (g := (mkF m 145 #[.val (.int sel), .val (.int b), .val (.int ((sel &&& (7 : Int32)) % (6 : Int32))), .val (.int bb), .val (.ref sHS512), .val (.int (0 : Int32))] [(.int bb), (.ref sHS512)])) rfl (by rw [hml]; rfl) (Steps.refl _) (argsL := [(.int bb)]) (rest := []) (lenOf own_pd0 rfl) rfl (by show 2 * 0 + _ ≤ _; exact Nat.le_of_eq rfl) (hb hby at_145) (fun _ _ => ⟨rfl, e13, (by decide : 0 + 0 ≤ _), (by decide : 0 + 0 ≤ _)⟩)
              dsimp only [Pt.U, Pt.locs, Pt.cells, Pt.slots] at X14 l14 y14 z14 st14 hQ14
              subst l14 y14 z14
              obtain ⟨rfl, Nq14, eh14⟩ := hQ14
              have N14 := Fr.app N0 Nq14
              refine own_tr (W1 := T14.setTop (mkF m 148 #[.val (.int sel), .val (.int b), .val (.int ((sel &&& (7 : Int32)) % (6 : Int32))), .val (.int bb), .val (.ref sHS512), .val (.int (0 : Int32))] [(.int (own_b2i (own_fit (1 : Int32) (64 : Int32) bb)))])) st14 ?_
              refine own_go (W1 := T14.setTop (mkF m 150 #[.val (.int sel), .val (.int b), .val (.int ((sel &&& (7 : Int32)) % (6 : Int32))), .val (.int bb), .val (.ref sHS512), .val (.int (0 : Int32))] [(.int (0 : Int32)), (.int (own_b2i (own_fit (1 : Int32) (64 : Int32) bb)))])) (fun t k => XS.iload X14.here hx rfl (hb hby at_148) rfl  k) ?_
              refine own_go (W1 := T14.setTop (mkF m 153 #[.val (.int sel), .val (.int b), .val (.int ((sel &&& (7 : Int32)) % (6 : Int32))), .val (.int bb), .val (.ref sHS512), .val (.int (0 : Int32))] [])) (fun t k => XS.icmpNo X14.here hx rfl (hb hby at_150) rfl (teq (show (own_b2i (own_fit (1 : Int32) (64 : Int32) bb)) = (0 : Int32) from (own_b0 (show ¬ own_fit 1 64 bb from by simp [own_fit, hc26_2, hc42_3, hc58_4, hc74_5, hc100_7, hc132_9])))).2 k) ?_
              refine own_go (W1 := T14.setTop (mkF m 154 #[.val (.int sel), .val (.int b), .val (.int ((sel &&& (7 : Int32)) % (6 : Int32))), .val (.int bb), .val (.ref sHS512), .val (.int (0 : Int32))] [(.int (1 : Int32))])) (fun t k => XS.iconst X14.here hx rfl (hb hby at_153) k) ?_
              refine own_go (W1 := T14.setTop (mkF m 158 #[.val (.int sel), .val (.int b), .val (.int ((sel &&& (7 : Int32)) % (6 : Int32))), .val (.int bb), .val (.ref sHS512), .val (.int (0 : Int32))] [(.int (1 : Int32))])) (fun t k => XS.goto X14.here hx rfl (pc0 := 154) (pc' := 158) rfl (hb hby at_154) (by decide) (by decide) k) ?_
              exact own_retN X14 hx (t := .boolean) Bd.returns (by simp) (hb hby at_158) hlk (by decide) (by decide) ⟨rfl, N14⟩
            · skip
              refine own_go (W1 := T13.setTop (mkF m 135 #[.val (.int sel), .val (.int b), .val (.int ((sel &&& (7 : Int32)) % (6 : Int32))), .val (.int bb), .val (.ref sHS512), .unset] [])) (fun t k => XS.icmpNo X13.here hx rfl (hb hby at_132) rfl (flt (show ¬ (bb < (64 : Int32)) from hc132_9)).1 k) ?_
              refine own_go (W1 := T13.setTop (mkF m 136 #[.val (.int sel), .val (.int b), .val (.int ((sel &&& (7 : Int32)) % (6 : Int32))), .val (.int bb), .val (.ref sHS512), .unset] [(.int (1 : Int32))])) (fun t k => XS.iconst X13.here hx rfl (hb hby at_135) k) ?_
              refine own_go (W1 := T13.setTop (mkF m 140 #[.val (.int sel), .val (.int b), .val (.int ((sel &&& (7 : Int32)) % (6 : Int32))), .val (.int bb), .val (.ref sHS512), .unset] [(.int (1 : Int32))])) (fun t k => XS.goto X13.here hx rfl (pc0 := 136) (pc' := 140) rfl (hb hby at_136) (by decide) (by decide) k) ?_
              refine own_go (W1 := T13.setTop (mkF m 142 #[.val (.int sel), .val (.int b), .val (.int ((sel &&& (7 : Int32)) % (6 : Int32))), .val (.int bb), .val (.ref sHS512), .val (.int (1 : Int32))] [])) (fun t k => XS.istore X13.here hx rfl (hb hby at_140) rfl (l' := #[.val (.int sel), .val (.int b), .val (.int ((sel &&& (7 : Int32)) % (6 : Int32))), .val (.int bb), .val (.ref sHS512), .val (.int (1 : Int32))]) rfl k) ?_
              refine own_go (W1 := T13.setTop (mkF m 144 #[.val (.int sel), .val (.int b), .val (.int ((sel &&& (7 : Int32)) % (6 : Int32))), .val (.int bb), .val (.ref sHS512), .val (.int (1 : Int32))] [(.ref sHS512)])) (fun t k => XS.aload X13.here hx rfl (hb hby at_142) rfl rfl  k) ?_
              refine own_go (W1 := T13.setTop (mkF m 145 #[.val (.int sel), .val (.int b), .val (.int ((sel &&& (7 : Int32)) % (6 : Int32))), .val (.int bb), .val (.ref sHS512), .val (.int (1 : Int32))] [(.int bb), (.ref sHS512)])) (fun t k => XS.iloadN X13.here hx rfl (hb hby at_144) rfl  k) ?_
              obtain ⟨cq15, kq15, q15a, q15b, q15c⟩ := isOf hZ e13 E_HS512
              obtain ⟨_, _, ⟨T15, L15, k15, n15⟩, -, X15, ⟨Lc15, hQ15, l15, y15, z15⟩, st15⟩ := X13.virtualBack hx (y := (⟨"com/example/tokenspan/tokenspan/tokens/JwsAlgorithm", "fitsSecret", "(I)Z"⟩ : MethodName)) (z := (⟨"com/example/tokenspan/tokenspan/tokens/JwsAlgorithm", "fitsSecret", "(I)Z"⟩ : MethodName)) hown (mvT hZ (hw _ (List.mem_of_getElem? (i := 3) rfl))) (mvT hZ (hw _ (List.mem_of_getElem? (i := 4) rfl))) (notFace_of_selects (args := #[]) (mvT hZ (hw _ (List.mem_of_getElem? (i := 6) rfl)))) (mvT hZ (hw _ (List.mem_of_getElem? (i := 6) rfl))) (mvT hZ (hw _ (List.mem_of_getElem? (i := 5) rfl))) (by decide) (backOf (W := 0) (rm1 l Z a0 hw [] sHS512 1 64 bb h0 n0 Z0 F_hmac_HS512 F_hash_HS512) hZ (hw _ (List.mem_of_getElem? (i := 7) rfl)) (hw _ (List.mem_of_getElem? (i := 1) rfl)) (by decide) (by decide)) q15a q15c (g := (mkF m 145 #[.val (.int sel), .val (.int b), .val (.int ((sel &&& (7 : Int32)) % (6 : Int32))), .val (.int bb), .val (.ref sHS512), .val (.int (1 : Int32))] [(.int bb), (.ref sHS512)])) rfl (by rw [hml]; rfl) (Steps.refl _) (argsL := [(.int bb)]) (rest := []) (lenOf own_pd0 rfl) rfl (by show 2 * 0 + _ ≤ _; exact Nat.le_of_eq rfl) (hb hby at_145) (fun _ _ => ⟨rfl, e13, (by decide : 0 + 0 ≤ _), (by decide : 0 + 0 ≤ _)⟩)
              dsimp only [Pt.U, Pt.locs, Pt.cells, Pt.slots] at X15 l15 y15 z15 st15 hQ15
              subst l15 y15 z15
              obtain ⟨rfl, Nq15, eh15⟩ := hQ15
              have N15 := Fr.app N0 Nq15
              refine own_tr (W1 := T15.setTop (mkF m 148 #[.val (.int sel), .val (.int b), .val (.int ((sel &&& (7 : Int32)) % (6 : Int32))), .val (.int bb), .val (.ref sHS512), .val (.int (1 : Int32))] [(.int (own_b2i (own_fit (1 : Int32) (64 : Int32) bb)))])) st15 ?_
              refine own_go (W1 := T15.setTop (mkF m 150 #[.val (.int sel), .val (.int b), .val (.int ((sel &&& (7 : Int32)) % (6 : Int32))), .val (.int bb), .val (.ref sHS512), .val (.int (1 : Int32))] [(.int (1 : Int32)), (.int (own_b2i (own_fit (1 : Int32) (64 : Int32) bb)))])) (fun t k => XS.iload X15.here hx rfl (hb hby at_148) rfl  k) ?_
              refine own_go (W1 := T15.setTop (mkF m 153 #[.val (.int sel), .val (.int b), .val (.int ((sel &&& (7 : Int32)) % (6 : Int32))), .val (.int bb), .val (.ref sHS512), .val (.int (1 : Int32))] [])) (fun t k => XS.icmpNo X15.here hx rfl (hb hby at_150) rfl (teq (show (own_b2i (own_fit (1 : Int32) (64 : Int32) bb)) = (1 : Int32) from (own_b1 (show own_fit 1 64 bb from by simp [own_fit, hc26_2, hc42_3, hc58_4, hc74_5, hc100_7, hc132_9])))).2 k) ?_
              refine own_go (W1 := T15.setTop (mkF m 154 #[.val (.int sel), .val (.int b), .val (.int ((sel &&& (7 : Int32)) % (6 : Int32))), .val (.int bb), .val (.ref sHS512), .val (.int (1 : Int32))] [(.int (1 : Int32))])) (fun t k => XS.iconst X15.here hx rfl (hb hby at_153) k) ?_
              refine own_go (W1 := T15.setTop (mkF m 158 #[.val (.int sel), .val (.int b), .val (.int ((sel &&& (7 : Int32)) % (6 : Int32))), .val (.int bb), .val (.ref sHS512), .val (.int (1 : Int32))] [(.int (1 : Int32))])) (fun t k => XS.goto X15.here hx rfl (pc0 := 154) (pc' := 158) rfl (hb hby at_154) (by decide) (by decide) k) ?_
              exact own_retN X15 hx (t := .boolean) Bd.returns (by simp) (hb hby at_158) hlk (by decide) (by decide) ⟨rfl, N15⟩
set_option maxRecDepth 65536 in
set_option maxHeartbeats 40000000 in
theorem comes_1 {Post : Tables → Env → Array Value → State → Outcome → State → Prop} (hpost : ∀ tb e args s v u, (limb_1_1.after args s (.returned v) u = true ∧ limb_1_2.after args s (.returned v) u = true ∧ True) → FrameEnd s (.returned v) u (Jvm.fieldLocs frame_1_writes args s ++ Jvm.arrayLocs frame_1_arrays args s ++ Jvm.staticLocs frame_1_statics s) 0 0 → Post tb e args s (.returned v) u) :
    ArmFor flags0 classFile x code maxLocals ret World_1 tables_1 room_1 Calls_1 rest_1 Pre_1 Post := by
  intro l hfl _ _ p e ha hc hk s m args below hf hA hF happ hP
  obtain ⟨hcalls, hrest, hpre⟩ := hP
  obtain ⟨-, -, -, hnamed, -, -, -, hat⟩ := (Spec.applies_iff hf).mp happ
  obtain ⟨hg, hn⟩ := and_e (Cond.before_iff.mp (show (Jvm.Cond.and given_1 narrow_1).before args s = true from hpre))
  obtain ⟨gc, hg⟩ := and_e hg
  obtain ⟨ga0, hg⟩ := and_e hg
  have ga1 := hg
  obtain ⟨w0, w1, rfl⟩ : ∃ w0 w1 : Value, args = #[w0, w1] := by
    have hs : args.size = 2 := by simpa [Cond.value, given_1] using gc
    obtain ⟨L⟩ := args
    match L, hs with
    | [w0, w1], _ => exact ⟨w0, w1, rfl⟩
  have hw := fun d (hd : d ∈ tables_1) => atoms_spec (ws := Jvm.Cond.code x code maxLocals ret :: tables_1) hat d (List.mem_cons_of_mem _ hd)
  have hfit : Fit s := fun {y c} hc i hi => by
    obtain ⟨ha, rfl⟩ := Array.getElem?_eq_some_iff.mp hc
    have q := List.all_eq_true.mp ((Array.all_eq_true_iff_forall_mem.mp hF) _ (Array.getElem_mem ha)) i (List.mem_range.mpr hi)
    simpa [Array.getElem?_eq_getElem hi] using q
  obtain ⟨i0, ei0⟩ := is_v ga0
  obtain rfl : w0 = (.int i0) := Option.some.inj ei0
  obtain ⟨i1, ei1⟩ := is_v ga1
  obtain rfl : w1 = (.int i1) := Option.some.inj ei1
  obtain ⟨nw0, hn⟩ := and_e hn
  obtain ⟨nw1, hn⟩ := and_e hn
  obtain ⟨nw2, hn⟩ := and_e hn
  obtain ⟨nw3, hn⟩ := and_e hn
  obtain ⟨nw4, hn⟩ := and_e hn
  obtain ⟨nw5, hn⟩ := and_e hn
  obtain ⟨nw6, hn⟩ := and_e hn
  obtain ⟨nw7, hn⟩ := and_e hn
  obtain ⟨nw8, hn⟩ := and_e hn
  obtain ⟨nw9, hn⟩ := and_e hn
  obtain ⟨nw10, hn⟩ := and_e hn
  obtain ⟨nw11, hn⟩ := and_e hn
  obtain ⟨nw12, hn⟩ := and_e hn
  obtain ⟨nw13, hn⟩ := and_e hn
  obtain ⟨nw14, hn⟩ := and_e hn
  obtain ⟨nw15, hn⟩ := and_e hn
  obtain ⟨nw16, hn⟩ := and_e hn
  have nw17 := hn
  obtain ⟨sRS256, ev_RS256⟩ := exa_v nw0
  have E_RS256 := Exa.start ev_RS256 nw0
  have S_RS256 := Sta.start ev_RS256 (Or.inr ⟨(hw _ (List.mem_of_getElem? (i := 1) rfl)), (hw _ (List.mem_of_getElem? (i := 2) rfl))⟩)
  obtain ⟨sHS384, ev_HS384⟩ := exa_v nw2
  have E_HS384 := Exa.start ev_HS384 nw2
  have S_HS384 := Sta.start ev_HS384 (Or.inr ⟨(hw _ (List.mem_of_getElem? (i := 1) rfl)), (hw _ (List.mem_of_getElem? (i := 11) rfl))⟩)
  obtain ⟨sHS512, ev_HS512⟩ := exa_v nw5
  have E_HS512 := Exa.start ev_HS512 nw5
  have S_HS512 := Sta.start ev_HS512 (Or.inr ⟨(hw _ (List.mem_of_getElem? (i := 1) rfl)), (hw _ (List.mem_of_getElem? (i := 15) rfl))⟩)
  obtain ⟨sRS384, ev_RS384⟩ := exa_v nw8
  have E_RS384 := Exa.start ev_RS384 nw8
  have S_RS384 := Sta.start ev_RS384 (Or.inr ⟨(hw _ (List.mem_of_getElem? (i := 1) rfl)), (hw _ (List.mem_of_getElem? (i := 17) rfl))⟩)
  obtain ⟨sHS256, ev_HS256⟩ := exa_v nw10
  have E_HS256 := Exa.start ev_HS256 nw10
  have S_HS256 := Sta.start ev_HS256 (Or.inr ⟨(hw _ (List.mem_of_getElem? (i := 1) rfl)), (hw _ (List.mem_of_getElem? (i := 19) rfl))⟩)
  obtain ⟨sRS512, ev_RS512⟩ := exa_v nw13
  have E_RS512 := Exa.start ev_RS512 nw13
  have S_RS512 := Sta.start ev_RS512 (Or.inr ⟨(hw _ (List.mem_of_getElem? (i := 1) rfl)), (hw _ (List.mem_of_getElem? (i := 21) rfl))⟩)
  have F_hmac_RS256 : Fld s s.heap sRS256 "com/example/tokenspan/tokenspan/tokens/JwsAlgorithm" "hmac" "Z" (.int 0) := Fld.start ((fld_at ev_RS256).symm.trans (Cond.eq_int (beq_iff_eq.mpr nw1) rfl))
  have F_hmac_HS384 : Fld s s.heap sHS384 "com/example/tokenspan/tokenspan/tokens/JwsAlgorithm" "hmac" "Z" (.int 1) := Fld.start ((fld_at ev_HS384).symm.trans (Cond.eq_int (beq_iff_eq.mpr nw3) rfl))
  have F_hash_HS384 : Fld s s.heap sHS384 "com/example/tokenspan/tokenspan/tokens/JwsAlgorithm" "hashBytes" "I" (.int 48) := Fld.start ((fld_at ev_HS384).symm.trans (Cond.eq_int (beq_iff_eq.mpr nw4) rfl))
  have F_hmac_HS512 : Fld s s.heap sHS512 "com/example/tokenspan/tokenspan/tokens/JwsAlgorithm" "hmac" "Z" (.int 1) := Fld.start ((fld_at ev_HS512).symm.trans (Cond.eq_int (beq_iff_eq.mpr nw6) rfl))
  have F_hash_HS512 : Fld s s.heap sHS512 "com/example/tokenspan/tokenspan/tokens/JwsAlgorithm" "hashBytes" "I" (.int 64) := Fld.start ((fld_at ev_HS512).symm.trans (Cond.eq_int (beq_iff_eq.mpr nw7) rfl))
  have F_hmac_RS384 : Fld s s.heap sRS384 "com/example/tokenspan/tokenspan/tokens/JwsAlgorithm" "hmac" "Z" (.int 0) := Fld.start ((fld_at ev_RS384).symm.trans (Cond.eq_int (beq_iff_eq.mpr nw9) rfl))
  have F_hmac_HS256 : Fld s s.heap sHS256 "com/example/tokenspan/tokenspan/tokens/JwsAlgorithm" "hmac" "Z" (.int 1) := Fld.start ((fld_at ev_HS256).symm.trans (Cond.eq_int (beq_iff_eq.mpr nw11) rfl))
  have F_hash_HS256 : Fld s s.heap sHS256 "com/example/tokenspan/tokenspan/tokens/JwsAlgorithm" "hashBytes" "I" (.int 32) := Fld.start ((fld_at ev_HS256).symm.trans (Cond.eq_int (beq_iff_eq.mpr nw12) rfl))
  have F_hmac_RS512 : Fld s s.heap sRS512 "com/example/tokenspan/tokenspan/tokens/JwsAlgorithm" "hmac" "Z" (.int 0) := Fld.start ((fld_at ev_RS512).symm.trans (Cond.eq_int (beq_iff_eq.mpr nw14) rfl))
  have F_hash_RS256 : Fld s s.heap sRS256 "com/example/tokenspan/tokenspan/tokens/JwsAlgorithm" "hashBytes" "I" (.int 32) := Fld.start ((fld_at ev_RS256).symm.trans (Cond.eq_int (beq_iff_eq.mpr nw15) rfl))
  have F_hash_RS384 : Fld s s.heap sRS384 "com/example/tokenspan/tokenspan/tokens/JwsAlgorithm" "hashBytes" "I" (.int 48) := Fld.start ((fld_at ev_RS384).symm.trans (Cond.eq_int (beq_iff_eq.mpr nw16) rfl))
  have F_hash_RS512 : Fld s s.heap sRS512 "com/example/tokenspan/tokenspan/tokens/JwsAlgorithm" "hashBytes" "I" (.int 64) := Fld.start ((fld_at ev_RS512).symm.trans (Cond.eq_int (beq_iff_eq.mpr nw17) rfl))
  obtain ⟨n, o, h1, h2, h3, _, L, rfl, ⟨rfl, N⟩, hq⟩ := rm0 l s _ hw tables_1 i0 i1 sRS256 sRS384 sRS512 sHS256 sHS384 sHS512 s.heap s.heap.size (Nat.le_refl _) S_RS256 E_RS256 F_hmac_RS256 F_hash_RS256 S_RS384 E_RS384 F_hmac_RS384 F_hash_RS384 S_RS512 E_RS512 F_hmac_RS512 F_hash_RS512 S_HS256 E_HS256 F_hmac_HS256 F_hash_HS256 S_HS384 E_HS384 F_hmac_HS384 F_hash_HS384 S_HS512 E_HS512 F_hmac_HS512 F_hash_HS512 p e ha hc hk s m _ below hf ((Spec.applies_iff_loose hf).mp happ).1 ⟨rfl, State.Warmed39.refl s, rfl⟩ trivial
  refine ⟨n, _, h1, h2, h3, hpost _ _ _ _ _ _ ⟨Cond.after_iff.mpr rfl, Cond.after_iff.mpr (eq_i res_at (Term.int_eval (1)) rfl), trivial⟩ ⟨hq.1, hq.2.1, (hq.2.2.sift fun y hy => Or.inr (N y hy)).mono (by decide) (by decide)⟩⟩
theorem main_1_1 : Claimed_1_1 := comes_1 fun _ _ _ _ _ _ h hF => ⟨h.1, hF⟩
theorem main_1_2 : Claimed_1_2 := comes_1 fun _ _ _ _ _ _ h hF => ⟨h.2.1, hF⟩
end Jvm.Pilot.@@N@@
namespace Jvm.Pilot.@@N@@
open Jvm Jvm.ClassFile Sem Op Lib Jvm.Free Jvm.Stand Jvm.Pilot.@@N@@.Jvm.D
/-! MADE BY PROGRAM (witnessworld.py) out of the Statement's table words and the real class files: 12 classes; the members and pool entries that the words name. The judged class is class 1, her method 1. -/
namespace start1
open Jvm.ClassFile
def u (s : String) : CpInfo := .utf8 (stringToUtf16 s)
/-- a pool by its gaps: so many unusable entries, then the entry; so many at the end -/
def gap : Nat → List CpInfo → List CpInfo
  | 0, r => r
  | n + 1, r => .unusable :: gap n r
def poolList (es : List (Nat × CpInfo)) (last : Nat) : List CpInfo := es.foldr (fun e r => gap e.1 (e.2 :: r)) (gap last [])
def pool (es : List (Nat × CpInfo)) (last : Nat) : Array CpInfo := ⟨poolList es last⟩
def fileOf (pool : Array CpInfo) (this : Nat) (attrs : Array Attribute := #[]) (ms : Array MethodInfo := #[]) (fl : Nat := 33) (sup : Nat := 0) (ifs : Array Nat := #[]) (fds : Array FieldInfo := #[]) : ClassFile where
  minorVersion := 0
  majorVersion := 65
  constantPool := pool
  accessFlags := fl
  thisClass := this
  superClass := sup
  interfaces := ifs
  fields := fds
  methods := ms
  attributes := attrs
def plain (name : String) (sup : Option ClassId) : Class where
  name := name
  kind := .ordinary
  loader := none
  accessFlags := 33
  super := sup
  interfaces := #[]
  cf := none
  fields := #[]
  methods := #[]
  instanceTypes := #[]
  staticTypes := #[]
  resolved := #[]
  callSites := []
  init := .initialized
  statics := none
  mirror := none

def pool0 : Array CpInfo := pool [(5, u "<init>"), (0, u "()V"), (1, .class_ 10), (1, u "java/lang/Object")] 113

def k0m0 : Method := { name := "<init>", desc := "()V", sig := { parameters := [], returnType := none }, accessFlags := 1, code := none }
/-- java/lang/Object -/
def k0 : Class := { plain "java/lang/Object" none with
  accessFlags := 33
  interfaces := #[]
  cf := some (fileOf pool0 8 #[] #[{ accessFlags := 1, nameIndex := 5, descriptorIndex := 6, attributes := #[] }] 33 0 #[] #[])
  fields := #[]
  methods := #[k0m0]
  instanceTypes := #[]
  staticTypes := #[]
  resolved := Array.replicate 124 none
  statics := none }

def pool1 : Array CpInfo := pool [(2, .class_ 4), (1, u "java/lang/Object"), (0, u "<init>"), (0, u "()V"), (0, .fieldref 8 9), (0, .class_ 10), (0, .nameAndType 11 12), (0, u "com/example/tokenspan/tokenspan/tokens/JwsAlgorithm"), (0, u "RS256"), (0, u "Lcom/example/tokenspan/tokenspan/tokens/JwsAlgorithm;"), (0, .fieldref 8 14), (0, .nameAndType 15 12), (0, u "RS384"), (0, .fieldref 8 17), (0, .nameAndType 18 12), (0, u "RS512"), (0, .fieldref 8 20), (0, .nameAndType 21 12), (0, u "HS256"), (0, .fieldref 8 23), (0, .nameAndType 24 12), (0, u "HS384"), (0, .fieldref 8 26), (0, .nameAndType 27 12), (0, u "HS512"), (0, .methodref 8 29), (0, .nameAndType 30 31), (0, u "fitsSecret"), (0, u "(I)Z"), (0, .class_ 33), (0, u "com/example/tokenspan/tokenspan/tokens/JwsAlgorithmFitsSecretPinLaw"), (2, u "law"), (0, u "(II)Z")] 3

def k1m0 : Method := { name := "<init>", desc := "()V", sig := { parameters := [], returnType := none }, accessFlags := 1, code := none }
def k1c1 : Code := { maxStack := 2, maxLocals := 6, code := code, exceptionTable := #[], attributes := #[] }
def k1m1 : Method := { name := "law", desc := "(II)Z", sig := { parameters := [.int, .int], returnType := some .boolean }, accessFlags := 9, code := some k1c1 }
/-- com/example/tokenspan/tokenspan/tokens/JwsAlgorithmFitsSecretPinLaw -/
def k1 : Class := { plain "com/example/tokenspan/tokenspan/tokens/JwsAlgorithmFitsSecretPinLaw" (some 0) with
  accessFlags := 49
  interfaces := #[]
  cf := some (fileOf pool1 32 #[] #[{ accessFlags := 1, nameIndex := 5, descriptorIndex := 6, attributes := #[] }, { accessFlags := 9, nameIndex := 36, descriptorIndex := 37, attributes := #[] }] 49 2 #[] #[])
  fields := #[]
  methods := #[k1m0, k1m1]
  instanceTypes := #[]
  staticTypes := #[]
  resolved := Array.replicate 41 none
  statics := none }

def pool2 : Array CpInfo := pool [(1, .class_ 2), (0, u "java/lang/constant/Constable"), (0, .class_ 4), (0, u "java/lang/Object")] 6

/-- java/lang/constant/Constable -/
def k2 : Class := { plain "java/lang/constant/Constable" (some 0) with
  accessFlags := 1537
  interfaces := #[]
  cf := some (fileOf pool2 1 #[] #[] 1537 3 #[] #[])
  fields := #[]
  methods := #[]
  instanceTypes := #[]
  staticTypes := #[]
  resolved := Array.replicate 11 none
  statics := none }

def pool3 : Array CpInfo := pool [(1, .class_ 2), (0, u "java/lang/Comparable"), (0, .class_ 4), (0, u "java/lang/Object")] 7

/-- java/lang/Comparable -/
def k3 : Class := { plain "java/lang/Comparable" (some 0) with
  accessFlags := 1537
  interfaces := #[]
  cf := some (fileOf pool3 1 #[] #[] 1537 3 #[] #[])
  fields := #[]
  methods := #[]
  instanceTypes := #[]
  staticTypes := #[]
  resolved := Array.replicate 12 none
  statics := none }

def pool4 : Array CpInfo := pool [(1, .class_ 2), (0, u "java/io/Serializable"), (0, .class_ 4), (0, u "java/lang/Object")] 2

/-- java/io/Serializable -/
def k4 : Class := { plain "java/io/Serializable" (some 0) with
  accessFlags := 1537
  interfaces := #[]
  cf := some (fileOf pool4 1 #[] #[] 1537 3 #[] #[])
  fields := #[]
  methods := #[]
  instanceTypes := #[]
  staticTypes := #[]
  resolved := Array.replicate 7 none
  statics := none }

def pool5 : Array CpInfo := pool [(2, .class_ 4), (1, u "java/lang/Enum"), (0, u "name"), (0, u "Ljava/lang/String;"), (2, u "ordinal"), (0, u "I"), (1, .class_ 14), (1, u "java/lang/Object"), (4, u "hash"), (86, .class_ 108), (1, u "java/lang/Enum$EnumDesc"), (2, .class_ 112), (0, u "java/lang/constant/Constable"), (0, .class_ 114), (0, u "java/lang/Comparable"), (0, .class_ 116), (0, u "java/io/Serializable")] 87

/-- java/lang/Enum -/
def k5 : Class := { plain "java/lang/Enum" (some 0) with
  accessFlags := 1057
  interfaces := #[2, 3, 4]
  cf := some (fileOf pool5 2 #[.nestMembers #[106]] #[] 1057 12 #[111, 113, 115] #[{ accessFlags := 18, nameIndex := 5, descriptorIndex := 6, attributes := #[] }, { accessFlags := 18, nameIndex := 9, descriptorIndex := 10, attributes := #[] }, { accessFlags := 2, nameIndex := 19, descriptorIndex := 10, attributes := #[] }])
  fields := #[{ name := "name", type := (.object "java/lang/String"), accessFlags := 18, slot := 0, constantValue := 0 }, { name := "ordinal", type := .int, accessFlags := 18, slot := 1, constantValue := 0 }, { name := "hash", type := .int, accessFlags := 2, slot := 2, constantValue := 0 }]
  methods := #[]
  instanceTypes := #[(.object "java/lang/String"), .int, .int]
  staticTypes := #[]
  resolved := Array.replicate 204 none
  statics := none }

def pool6 : Array CpInfo := pool [(1, .class_ 2), (0, u "com/example/tokenspan/tokenspan/tokens/JwsAlgorithm"), (2, u "RS256"), (0, u "Lcom/example/tokenspan/tokenspan/tokens/JwsAlgorithm;"), (2, u "RS384"), (2, u "RS512"), (2, u "HS256"), (2, u "HS384"), (2, u "HS512"), (2, u "$VALUES"), (0, u "[Lcom/example/tokenspan/tokenspan/tokens/JwsAlgorithm;"), (6, .class_ 34), (1, u "java/lang/Enum"), (6, .fieldref 1 42), (0, .nameAndType 43 44), (0, u "hmac"), (0, u "Z"), (0, .fieldref 1 46), (0, .nameAndType 47 48), (0, u "hashBytes"), (0, u "I"), (2, u "fitsSecret"), (0, u "(I)Z")] 71

def k6c0 : Code := { maxStack := 2, maxLocals := 2, code := prog_35_method_6_code, exceptionTable := #[], attributes := #[] }
def k6m0 : Method := { name := "fitsSecret", desc := "(I)Z", sig := { parameters := [.int], returnType := some .boolean }, accessFlags := 0, code := some k6c0 }
/-- com/example/tokenspan/tokenspan/tokens/JwsAlgorithm -/
def k6 : Class := { plain "com/example/tokenspan/tokenspan/tokens/JwsAlgorithm" (some 5) with
  accessFlags := 16433
  interfaces := #[]
  cf := some (fileOf pool6 1 #[] #[{ accessFlags := 0, nameIndex := 51, descriptorIndex := 52, attributes := #[] }] 16433 32 #[] #[{ accessFlags := 16409, nameIndex := 5, descriptorIndex := 6, attributes := #[] }, { accessFlags := 16409, nameIndex := 9, descriptorIndex := 6, attributes := #[] }, { accessFlags := 16409, nameIndex := 12, descriptorIndex := 6, attributes := #[] }, { accessFlags := 16409, nameIndex := 15, descriptorIndex := 6, attributes := #[] }, { accessFlags := 16409, nameIndex := 18, descriptorIndex := 6, attributes := #[] }, { accessFlags := 16409, nameIndex := 21, descriptorIndex := 6, attributes := #[] }, { accessFlags := 18, nameIndex := 43, descriptorIndex := 44, attributes := #[] }, { accessFlags := 18, nameIndex := 47, descriptorIndex := 48, attributes := #[] }, { accessFlags := 4122, nameIndex := 24, descriptorIndex := 25, attributes := #[] }])
  fields := #[{ name := "RS256", type := (.object "com/example/tokenspan/tokenspan/tokens/JwsAlgorithm"), accessFlags := 16409, slot := 0, constantValue := 0 }, { name := "RS384", type := (.object "com/example/tokenspan/tokenspan/tokens/JwsAlgorithm"), accessFlags := 16409, slot := 1, constantValue := 0 }, { name := "RS512", type := (.object "com/example/tokenspan/tokenspan/tokens/JwsAlgorithm"), accessFlags := 16409, slot := 2, constantValue := 0 }, { name := "HS256", type := (.object "com/example/tokenspan/tokenspan/tokens/JwsAlgorithm"), accessFlags := 16409, slot := 3, constantValue := 0 }, { name := "HS384", type := (.object "com/example/tokenspan/tokenspan/tokens/JwsAlgorithm"), accessFlags := 16409, slot := 4, constantValue := 0 }, { name := "HS512", type := (.object "com/example/tokenspan/tokenspan/tokens/JwsAlgorithm"), accessFlags := 16409, slot := 5, constantValue := 0 }, { name := "hmac", type := .boolean, accessFlags := 18, slot := 3, constantValue := 0 }, { name := "hashBytes", type := .int, accessFlags := 18, slot := 4, constantValue := 0 }, { name := "$VALUES", type := (.array (.object "com/example/tokenspan/tokenspan/tokens/JwsAlgorithm")), accessFlags := 4122, slot := 6, constantValue := 0 }]
  methods := #[k6m0]
  instanceTypes := #[(.object "java/lang/String"), .int, .int, .boolean, .int]
  staticTypes := #[(.object "com/example/tokenspan/tokenspan/tokens/JwsAlgorithm"), (.object "com/example/tokenspan/tokenspan/tokens/JwsAlgorithm"), (.object "com/example/tokenspan/tokenspan/tokens/JwsAlgorithm"), (.object "com/example/tokenspan/tokenspan/tokens/JwsAlgorithm"), (.object "com/example/tokenspan/tokenspan/tokens/JwsAlgorithm"), (.object "com/example/tokenspan/tokenspan/tokens/JwsAlgorithm"), (.array (.object "com/example/tokenspan/tokenspan/tokens/JwsAlgorithm"))]
  resolved := Array.replicate 124 none
  statics := some 0 }

def pool7 : Array CpInfo := pool [(1, u "java/lang/Cloneable"), (0, .class_ 1), (0, u "java/lang/Object"), (0, .class_ 3)] 3

/-- java/lang/Cloneable -/
def k7 : Class := { plain "java/lang/Cloneable" (some 0) with
  accessFlags := 1537
  interfaces := #[]
  cf := some (fileOf pool7 2 #[] #[] 1537 4 #[] #[])
  fields := #[]
  methods := #[]
  instanceTypes := #[]
  staticTypes := #[]
  resolved := Array.replicate 8 none
  statics := none }

/-- the primitive byte -/
def k8 : Class := { plain "byte" none with kind := .primitive 'B', accessFlags := 0x411 }
/-- [B -/
def k9 : Class := { plain "[B" (some 0) with kind := .array 8 .byte, interfaces := #[7, 4], accessFlags := 1041 }

/-- the primitive int -/
def k10 : Class := { plain "int" none with kind := .primitive 'I', accessFlags := 0x411 }
/-- [I -/
def k11 : Class := { plain "[I" (some 0) with kind := .array 10 .int, interfaces := #[7, 4], accessFlags := 1041 }

def heap : Heap := #[{ cls := 6, slots := #[.ref 1, .ref 2, .ref 3, .ref 4, .ref 5, .ref 6, .null], vm := .statics 6 },
  { cls := 6, slots := #[.null, .int 0, .int 0, .int 0, .int 32], vm := .none },
  { cls := 6, slots := #[.null, .int 1, .int 0, .int 0, .int 48], vm := .none },
  { cls := 6, slots := #[.null, .int 2, .int 0, .int 0, .int 64], vm := .none },
  { cls := 6, slots := #[.null, .int 3, .int 0, .int 1, .int 32], vm := .none },
  { cls := 6, slots := #[.null, .int 4, .int 0, .int 1, .int 48], vm := .none },
  { cls := 6, slots := #[.null, .int 5, .int 0, .int 1, .int 64], vm := .none }]
def classes : Array Class := #[k0, k1, k2, k3, k4, k5, k6, k7, k8, k9, k10, k11]
def interned : List (Array UInt16 × Addr) := []
def slotsUsed : Nat := 37
def theMethod : MethodId := ⟨1, 1⟩
def args0 : Array Value := #[.int 3, .int 40]
def aboutOver (below : List Frame) : State where
  vm := { classes := classes, interned := interned.toArray }
  heap := heap
  slotsUsed := slotsUsed
  threads := #[{ frames := .invoking theMethod args0 :: below }]
def below0 : List Frame := [.native { method := ⟨0, 0⟩, args := #[] }]
def about1 : State := aboutOver below0
def p0 : Program := .bare "" "" ""
def e0 : Env := launch0.env 0 0 0
theorem w_frames : about1.frames = Frame.invoking theMethod args0 :: below0 := rfl
set_option maxRecDepth 65536 in
theorem w_args : argsFit about1.vm theMethod args0 = true := by decide +kernel
set_option maxRecDepth 65536 in
theorem w_heap : heapFits about1 = true := by decide +kernel
set_option maxRecDepth 65536 in
theorem w_runnable : about1.curStatus? = some .runnable := by decide +kernel
set_option maxRecDepth 65536 in
theorem w_alone : about1.alone = true := by decide +kernel
set_option maxRecDepth 65536 in
theorem w_named : about1.methodNamed? x = some theMethod := by decide +kernel
set_option maxRecDepth 65536 in
theorem w_hears : about1.hears theMethod below0 = true := by decide +kernel
set_option maxRecDepth 65536 in
theorem w_ripe : about1.ripe theMethod args0 below0 = true := by decide +kernel
theorem w_running : about1.status = .running := rfl
set_option maxRecDepth 65536 in
theorem w_room : about1.hasRoom e0.platform room_1 = true :=
  launch0.hasRoom_least _ room_1 (by decide +kernel) (by decide +kernel) (by decide +kernel) (by decide +kernel) (by decide +kernel) (by decide +kernel)
theorem allAtoms_all (ts : List Jvm.Cond) (a : Array Jvm.Value) (st : Jvm.State) : (allAtoms ts).before a st = ts.all (fun c => c.before a st) := by
  induction ts with
  | nil => rfl
  | cons c t ih =>
    show (Jvm.Cond.and c (allAtoms t)).before a st = _
    rw [Jvm.Cond.before_and, ih, List.all_cons]
def words1 : List Jvm.Cond := Jvm.Cond.code x code maxLocals ret :: tables_1
/-- a 'code' word, met by the world's own term for the bytes: nothing is compared byte by byte -/
theorem code_word {y : MethodName} {bytes : ByteArray} {mx : Nat} {rt : Option FieldType} {a : Array Value} {s : State} {m : MethodId} {meth : Method} {c : Code} (h1 : s.methodNamed? y = some m) (h2 : s.vm.method? m = some meth) (h3 : meth.code = some c) (h4 : c.code = bytes)
    (h5 : (c.maxLocals == mx && c.exceptionTable.isEmpty && decide (c.maxStack ≤ mostOperands) && decide (meth.sig.returnType = rt) && !meth.locks && decide (parseMethodDescriptor y.desc = some meth.sig)) = true) : (Jvm.Cond.code y bytes mx rt).before a s = true := by
  simp only [Bool.and_eq_true, beq_iff_eq, Bool.not_eq_true', decide_eq_true_eq] at h5
  obtain ⟨⟨⟨⟨⟨g1, g2⟩, g3⟩, g4⟩, g5⟩, g6⟩ := h5
  simp [Cond.before, Cond.holds, Cond.value, h1, h2, h3, h4, g1, g2, g3, g4, g5, g6]
def isCode : Jvm.Cond → Bool
  | .code _ _ _ _ => true
  | _ => false
theorem all_split {L : List Jvm.Cond} {P : Jvm.Cond → Bool} (h1 : L.all (fun c => isCode c || P c) = true) (h2 : ∀ c ∈ L.filter isCode, P c = true) : L.all P = true := by
  refine List.all_eq_true.mpr fun c hc => ?_
  have h := List.all_eq_true.mp h1 c hc
  rcases Bool.eq_false_or_eq_true (isCode c) with hi | hi
  · exact h2 c (List.mem_filter.mpr ⟨hc, hi⟩)
  · simpa [hi] using h
set_option maxRecDepth 65536 in
theorem w_c0 : (Jvm.Cond.code x code maxLocals ret).before args0 about1 = true := code_word (m := ⟨1, 1⟩) (meth := k1m1) (c := k1c1) (by decide +kernel) rfl rfl rfl (by decide +kernel)
set_option maxRecDepth 65536 in
theorem w_c1 : (Jvm.Cond.code ({ cls := "com/example/tokenspan/tokenspan/tokens/JwsAlgorithm", name := "fitsSecret", desc := "(I)Z" } : Jvm.MethodName) prog_35_method_6_code (2 : Nat) (Option.some Jvm.ClassFile.FieldType.boolean)).before args0 about1 = true := code_word (m := ⟨6, 0⟩) (meth := k6m0) (c := k6c0) (by decide +kernel) rfl rfl rfl (by decide +kernel)
def codes1 : List Jvm.Cond := [Jvm.Cond.code x code maxLocals ret, Jvm.Cond.code ({ cls := "com/example/tokenspan/tokenspan/tokens/JwsAlgorithm", name := "fitsSecret", desc := "(I)Z" } : Jvm.MethodName) prog_35_method_6_code (2 : Nat) (Option.some Jvm.ClassFile.FieldType.boolean)]
set_option maxRecDepth 65536 in
theorem codes_eq : words1.filter isCode = codes1 := rfl
theorem w_codes : ∀ c ∈ words1.filter isCode, c.before args0 about1 = true := by
  rw [codes_eq]
  intro c hc
  simp only [codes1, List.mem_cons, List.not_mem_nil, or_false] at hc
  rcases hc with rfl | rfl
  · exact w_c0
  · exact w_c1
set_option maxRecDepth 65536 in
theorem w_t1 : words1.all (fun c => isCode c || c.before args0 about1) = true := by decide +kernel
theorem w_tables : (allAtoms (Jvm.Cond.code x code maxLocals ret :: tables_1)).before args0 about1 = true := by
  rw [allAtoms_all]
  show words1.all (fun c => c.before args0 about1) = true
  refine all_split ?_ w_codes
  rw [w_t1]
set_option maxRecDepth 65536 in
theorem w_case : (Jvm.Cond.and given_1 narrow_1).before args0 about1 = true := by decide +kernel
theorem w_applies : (headSpec (Jvm.Cond.code x code maxLocals ret :: tables_1) room_1).applies x e0.platform about1 = true :=
  (Spec.applies_iff w_frames).mpr ⟨w_running, w_runnable, w_alone, w_named, w_hears, w_ripe, w_room, w_tables⟩
theorem atStart : AtStart classFile x code maxLocals ret World_1 tables_1 room_1 Calls_1 rest_1 Pre_1 launch0 p0 e0 about1 theMethod args0 below0 :=
  ⟨lists_1, trivial, launch0.admits_env _ _ _, launch0.least_env, fairChoices_fair.cas, fairChoices_fair.clock, w_frames, w_args, w_heap, w_applies, trivial, trivial, w_case⟩
end start1
theorem witness_1 : WitnessClaimed_1 := ⟨start1.p0, start1.e0, start1.about1, start1.theMethod, start1.args0, start1.below0, start1.atStart⟩
end Jvm.Pilot.@@N@@
