import JvmDerived
import JvmDerived.Pilot.@@N@@Statement
import JvmDerived.Pilot.@@N@@Code
set_option linter.unusedVariables false
set_option linter.unusedSimpArgs false
namespace Jvm.Pilot.@@N@@
open Jvm Jvm.ClassFile Sem Op Lib Jvm.Free Jvm.Stand Jvm.LawKit Jvm.RoadKit Bundle Jvm.Pilot.@@N@@.Jvm.D
/-! own_Ends: from here the run comes to its return, and what it leaves is as Qf says -/
def own_Ends (p : Program) (e : Env) (below : List Frame) (s : State) (Qf : Option Value → Heap → List Loc → Prop) (ce sl : Nat) (W : State) : Prop :=
  ∃ U o, Steps p.tables e below W U ∧ U.status = .running ∧ Ended U below o ∧ ∃ v L, o = .returned v ∧ Qf v U.heap L ∧ FrameEnd s o U L ce sl
section Own
variable {p : Program} {l : Launch} {e : Env} {R : Room} {s : State} {m : MethodId} {args : Array Value} {below : List Frame} {meth : Method} {c : Code} {T : State} {locs : List Loc} {cells slots : Nat} {Qf : Option Value → Heap → List Loc → Prop} {ce sl : Nat} {W0 W1 : State}
theorem own_go (h : ∀ t, Steps p.tables e below W1 t → Steps p.tables e below W0 t) (k : own_Ends p e below s Qf ce sl W1) : own_Ends p e below s Qf ce sl W0 := by
  obtain ⟨U, o, h1, h2⟩ := k
  exact ⟨U, o, h _ h1, h2⟩
theorem own_tr (h : Steps p.tables e below W0 W1) (k : own_Ends p e below s Qf ce sl W1) : own_Ends p e below s Qf ce sl W0 := own_go (fun t k => h.trans k) k
theorem own_st {t : State} (h : ∀ t, Steps p.tables e below W1 t → Steps p.tables e below W0 t) (k : Steps p.tables e below W1 t) : Steps p.tables e below W0 t := h t k
theorem own_done (X : Stand p l e R s m args below meth c T locs cells slots) {v : Option Value} (hv : meth.sig.returnType = none → v = none) (hlk : meth.locks = false) (hc : cells ≤ ce) (hs : slots ≤ sl) (hQ : Qf v T.heap locs)
    (h : ∀ fs, (∀ (f : JFrame) (acts : List Action), f.method = m → f.locked = none → f.entered = [] → (doReturn e (T.setTop f) acts v).1 = T.setFrames fs) → Steps p.tables e below W0 (T.setFrames fs)) : own_Ends p e below s Qf ce sl W0 := by
  obtain ⟨fs, hr, hrun, hended, hW, hsame⟩ := X.leave (v := v) hv hlk
  exact ⟨_, _, h fs hr, hrun, hended, _, _, rfl, hQ, ⟨_, rfl⟩, hW, hsame.mono hc hs⟩
theorem own_some {t : FieldType} {v : Option Value} (hret : meth.sig.returnType = some t) : meth.sig.returnType = none → v = none := fun h => by rw [hret] at h; cases h
theorem own_retI (X : Stand p l e R s m args below meth c T locs cells slots) (hx : p.tables.exec = Jvm.exec) {pc : Nat} {Ls : Array Slot} {z : Int32} {rest : List Value} (hret : meth.sig.returnType = some .int) (hd : decode c.code pc = .ok (.ireturn, 1)) (hlk : meth.locks = false) (hc : cells ≤ ce) (hs : slots ≤ sl) (hQ : Qf (some (.int z)) T.heap locs) :
    own_Ends p e below s Qf ce sl (T.setTop (mkF m pc Ls (.int z :: rest))) :=
  own_done X (own_some hret) hlk hc hs hQ fun fs hr => retOut X hx hret rfl (Or.inl ⟨rfl, Or.inl rfl, _, rfl⟩) hd hr
theorem own_retN (X : Stand p l e R s m args below meth c T locs cells slots) (hx : p.tables.exec = Jvm.exec) {pc : Nat} {Ls : Array Slot} {z : Int32} {t : FieldType} {rest : List Value} (hret : meth.sig.returnType = some t) (ht : t = .boolean ∨ t = .byte ∨ t = .char ∨ t = .short) (hd : decode c.code pc = .ok (.ireturn, 1)) (hlk : meth.locks = false) (hc : cells ≤ ce) (hs : slots ≤ sl) (hQ : Qf (some (.int (nar t z))) T.heap locs) :
    own_Ends p e below s Qf ce sl (T.setTop (mkF m pc Ls (.int z :: rest))) :=
  own_done X (own_some hret) hlk hc hs hQ fun fs hr => retN X hx hret ht hd hr
theorem own_retJ (X : Stand p l e R s m args below meth c T locs cells slots) (hx : p.tables.exec = Jvm.exec) {pc : Nat} {Ls : Array Slot} {z : Int64} {rest : List Value} (hret : meth.sig.returnType = some .long) (hd : decode c.code pc = .ok (.lreturn, 1)) (hlk : meth.locks = false) (hc : cells ≤ ce) (hs : slots ≤ sl) (hQ : Qf (some (.long z)) T.heap locs) :
    own_Ends p e below s Qf ce sl (T.setTop (mkF m pc Ls (.long z :: rest))) :=
  own_done X (own_some hret) hlk hc hs hQ fun fs hr => retOut X hx hret rfl (Or.inr (Or.inl ⟨rfl, rfl, _, rfl⟩)) hd hr
theorem own_retD (X : Stand p l e R s m args below meth c T locs cells slots) (hx : p.tables.exec = Jvm.exec) {pc : Nat} {Ls : Array Slot} {z : UInt64} {rest : List Value} (hret : meth.sig.returnType = some .double) (hd : decode c.code pc = .ok (.dreturn, 1)) (hlk : meth.locks = false) (hc : cells ≤ ce) (hs : slots ≤ sl) (hQ : Qf (some (.double z)) T.heap locs) :
    own_Ends p e below s Qf ce sl (T.setTop (mkF m pc Ls (.double z :: rest))) :=
  own_done X (own_some hret) hlk hc hs hQ fun fs hr => retOut X hx hret rfl (Or.inr (Or.inr (Or.inl ⟨rfl, rfl, _, rfl⟩))) hd hr
theorem own_retR (X : Stand p l e R s m args below meth c T locs cells slots) (hx : p.tables.exec = Jvm.exec) {pc : Nat} {Ls : Array Slot} {w : Value} {t : FieldType} {rest : List Value} (hret : meth.sig.returnType = some t) (ht : t.isReference = true) (hw : w.isRef = true) (hd : decode c.code pc = .ok (.areturn, 1)) (hlk : meth.locks = false) (hc : cells ≤ ce) (hs : slots ≤ sl) (hQ : Qf (some w) T.heap locs) :
    own_Ends p e below s Qf ce sl (T.setTop (mkF m pc Ls (w :: rest))) :=
  own_done X (own_some hret) hlk hc hs hQ fun fs hr => retOut X hx hret (by cases t <;> first | rfl | (simp [FieldType.isReference] at ht)) (Or.inr (Or.inr (Or.inr (Or.inr ⟨rfl, ht, hw⟩)))) hd hr
theorem own_retV (X : Stand p l e R s m args below meth c T locs cells slots) (hx : p.tables.exec = Jvm.exec) {pc : Nat} {Ls : Array Slot} (hret : meth.sig.returnType = none) (hd : decode c.code pc = .ok (.return_, 1)) (hlk : meth.locks = false) (hc : cells ≤ ce) (hs : slots ≤ sl) (hQ : Qf none T.heap locs) :
    own_Ends p e below s Qf ce sl (T.setTop (mkF m pc Ls [])) :=
  own_done X (fun _ => rfl) hlk hc hs hQ fun fs hr => X.returnOut hx hret hd hr
def own_b2i (P : Prop) [Decidable P] : Int32 := if P then 1 else 0
theorem own_b1 {P : Prop} [Decidable P] (h : P) : own_b2i P = 1 := if_pos h
theorem own_b0 {P : Prop} [Decidable P] (h : ¬ P) : own_b2i P = 0 := if_neg h
end Own
/-! more than 14 days: the callee's own word; then the sums that don't wrap -/
abbrev own_gap (p s : Int64) : Prop := 1209600 < s - p
def own_Q1 (q1 q2 : Int64) (h0 : Heap) (n0 : Nat) (v : Option Value) (h : Heap) (L : List Loc) : Prop := v = some (.int (own_b2i (own_gap q1 q2))) ∧ Fr n0 L ∧ h = h0
def own_Q0 (n0 : Nat) (v : Option Value) (h : Heap) (L : List Loc) : Prop := v = some (.int 1) ∧ Fr n0 L
theorem own_half (x : Int64) : -4611686018427387904 ≤ (x >>> ((1 : Int32) &&& 0x3f).toInt64).toInt ∧ (x >>> ((1 : Int32) &&& 0x3f).toInt64).toInt < 4611686018427387904 := by
  rw [c_lshr x 1 1 rfl]
  have := rng64 x
  omega
theorem own_gen {p s : Int64} (hp : -4611686018427387904 ≤ p.toInt ∧ p.toInt < 4611686018427387904) (hs : -4611686018427387904 ≤ s.toInt ∧ s.toInt < 4611686018427387904) : own_gap p s ↔ p + 1209600 < s := by
  simp only [own_gap, Int64.lt_iff_toInt_lt]
  have e1 : (1209600 : Int64).toInt = 1209600 := rfl
  have a1 := c_lsub s p
  have a2 := c_ladd p 1209600
  have r1 := rng64 (s - p)
  have r2 := rng64 (p + 1209600)
  rw [e1] at *
  omega
theorem own_rem (e : Int32) : -2 ≤ (e % 3).toInt ∧ (e % 3).toInt ≤ 2 := by
  have h := c_irem e 3 3 rfl
  have r := rng32 e
  by_cases q : 0 ≤ e.toInt
  · rw [h.1 q]; omega
  · rw [h.2 (by omega)]; omega
theorem own_dd {d : Int64} (hd : d.toInt = 1209600 ∨ True) : True := trivial
theorem own_edge {p d : Int64} (hp : -4611686018427387904 ≤ p.toInt ∧ p.toInt < 4611686018427387904) (hd : 0 ≤ d.toInt ∧ d.toInt ≤ 1209602) : own_gap p (p + d) ↔ 1209600 < d := by
  have e : p + d - p = d := by
    rw [← Int64.toInt_inj]
    have a1 := c_lsub (p + d) p
    have a2 := c_ladd p d
    have r1 := rng64 (p + d - p)
    have r2 := rng64 (p + d)
    omega
  simp only [own_gap, e]
theorem own_d (e : Int32) : ((1209600 : Int64) + (e % (3 : Int32)).toInt64).toInt = 1209600 + (e % 3).toInt := by
  have a1 := c_ladd 1209600 (e % (3 : Int32)).toInt64
  rw [c_i2l] at a1
  have e1 : (1209600 : Int64).toInt = 1209600 := rfl
  have r := own_rem e
  have r2 := rng64 ((1209600 : Int64) + (e % (3 : Int32)).toInt64)
  rw [e1] at a1
  omega
theorem own_pn_com_example_bemesser_bemesser_io_IntervalGap : plainName "com/example/bemesser/bemesser/io/IntervalGap" = true := by first | (simp [plainName, overriddenIn]; done) | decide +kernel
theorem d1_0 : decode prog_52_method_2_code 0 = .ok (.lload_n 2, 1) := by decide +kernel
theorem d1_1 : decode prog_52_method_2_code 1 = .ok (.lload_n 0, 1) := by decide +kernel
theorem d1_2 : decode prog_52_method_2_code 2 = .ok (.lsub, 1) := by decide +kernel
theorem d1_3 : decode prog_52_method_2_code 3 = .ok (.ldc2_w 9, 3) := by decide +kernel
theorem d1_6 : decode prog_52_method_2_code 6 = .ok (.lcmp, 1) := by decide +kernel
theorem d1_7 : decode prog_52_method_2_code 7 = .ok (.ifCond .le 7, 3) := by decide +kernel
theorem d1_10 : decode prog_52_method_2_code 10 = .ok (.iconst 1, 1) := by decide +kernel
theorem d1_11 : decode prog_52_method_2_code 11 = .ok (.goto 4, 3) := by decide +kernel
theorem d1_15 : decode prog_52_method_2_code 15 = .ok (.ireturn, 1) := by decide +kernel
theorem d1_14 : decode prog_52_method_2_code 14 = .ok (.iconst 0, 1) := by decide +kernel
theorem ef_rm1 (m : MethodId) (x0 : Int64) (x1 : Int64)  : entryFrame m #[(.long x0), (.long x1)] 4 = mkF m 0 #[.val (.long x0), .second, .val (.long x1), .second] [] := by first | (simp [entryFrame, mkF, argsToLocals, Value.category]; done) | rfl
set_option maxRecDepth 65536 in
set_option maxHeartbeats 40000000 in
theorem rm1 (l : Launch) (Z : State) (a0 : Array Value) (hw : ∀ d ∈ tables_1, d.before a0 Z = true) (ws : List Jvm.Cond) (q1 q2 : Int64) (h0 : Heap) (n0 : Nat) (Z0 : n0 ≤ h0.size)  :
    MetFree l (⟨"com/example/bemesser/bemesser/io/IntervalGap", "exceeded", "(JJ)Z"⟩ : MethodName) (head1 (Jvm.Cond.code (⟨"com/example/bemesser/bemesser/io/IntervalGap", "exceeded", "(JJ)Z"⟩ : MethodName) prog_52_method_2_code 4 (some .boolean) :: ws) ({ frames := 0, cells := 0, slots := 0, locals := 0 } : Room)) (fun a U => a = #[(.long q1), (.long q2)] ∧ Z.Warmed39 U.vm ∧ U.heap = h0) (fun _ _ _ _ _ => True) (fun _ U o U' => ∃ v L, o = .returned v ∧ own_Q1 q1 q2 h0 n0 v U'.heap L ∧ FrameEnd U o U' L ({ frames := 0, cells := 0, slots := 0, locals := 0 } : Room).cells ({ frames := 0, cells := 0, slots := 0, locals := 0 } : Room).slots) := by
  refine MetFree.of_bodySF (plainFor_of_name own_pn_com_example_bemesser_bemesser_io_IntervalGap) hisR ?_
  intro p e s m args below meth c s₁ Bd hml0 hP hK
  obtain ⟨rfl, hZ, hh⟩ := hP
  have hx := Bd.exec
  have hby := Bd.bytes
  have hlk := BodyLoose.notSynchronized Bd
  have hml : c.maxLocals = 4 := hml0
  have hown : s.vm.findClass "com/example/bemesser/bemesser/io/IntervalGap" = some m.cls := findClass_of_methodNamed Bd.named
  have hnm := (name_of_methodNamed Bd.named Bd.method).1
  have X0 : Stand p l e ({ frames := 0, cells := 0, slots := 0, locals := 0 } : Room) s m #[(.long q1), (.long q2)] below meth c s₁ [] 0 0 := Stand.of_body Bd
  have e0 : s₁.heap = h0 := by rw [← hh, Bd.state]; rfl
  have N0 := Fr.nil n0
  show own_Ends p e below s (own_Q1 q1 q2 h0 n0) 0 0 (s₁.setTop (entryFrame m #[(.long q1), (.long q2)] 4))
  refine own_go (W1 := s₁.setTop (mkF m 0 #[.val (.long q1), .second, .val (.long q2), .second] [])) (fun t k => castTop (ef_rm1 m q1 q2 ) k) ?_
  refine own_go (W1 := s₁.setTop (mkF m 1 #[.val (.long q1), .second, .val (.long q2), .second] [(.long q2)])) (fun t k => XS.lloadN X0.here hx rfl (hb hby d1_0) rfl  k) ?_
  refine own_go (W1 := s₁.setTop (mkF m 2 #[.val (.long q1), .second, .val (.long q2), .second] [(.long q1), (.long q2)])) (fun t k => XS.lloadN X0.here hx rfl (hb hby d1_1) rfl  k) ?_
  refine own_go (W1 := s₁.setTop (mkF m 3 #[.val (.long q1), .second, .val (.long q2), .second] [(.long (q2 - q1))])) (fun t k => XS.lsub X0.here hx rfl (hb hby d1_2) rfl k) ?_
  refine own_go (W1 := s₁.setTop (mkF m 6 #[.val (.long q1), .second, .val (.long q2), .second] [(.long (1209600 : Int64)), (.long (q2 - q1))])) (X0.ldc2Long hx hown (mvT hZ (hw _ (List.mem_of_getElem? (i := 4) rfl))) (g := (mkF m 3 #[.val (.long q1), .second, .val (.long q2), .second] [(.long (q2 - q1))])) rfl (hb hby d1_3)) ?_
  refine own_go (W1 := s₁.setTop (mkF m 7 #[.val (.long q1), .second, .val (.long q2), .second] [(.int (lcmpW (q2 - q1) (1209600 : Int64)))])) (fun t k => XS.lcmp X0.here hx rfl (hb hby d1_6) rfl k) ?_
  by_cases hc7_1 : (0 : Int32) < (lcmpW (q2 - q1) (1209600 : Int64))
  · skip
    refine own_go (W1 := s₁.setTop (mkF m 10 #[.val (.long q1), .second, .val (.long q2), .second] [])) (fun t k => XS.ifNo X0.here hx rfl (hb hby d1_7) rfl ((if0 _ _).trans (tlt (show (0 : Int32) < (lcmpW (q2 - q1) (1209600 : Int64)) from hc7_1)).2.2.2) k) ?_
    refine own_go (W1 := s₁.setTop (mkF m 11 #[.val (.long q1), .second, .val (.long q2), .second] [(.int (1 : Int32))])) (fun t k => XS.iconst X0.here hx rfl (hb hby d1_10) k) ?_
    refine own_go (W1 := s₁.setTop (mkF m 15 #[.val (.long q1), .second, .val (.long q2), .second] [(.int (1 : Int32))])) (fun t k => XS.goto X0.here hx rfl (pc0 := 11) (pc' := 15) rfl (hb hby d1_11) (by decide) (by decide) k) ?_
    exact own_retN X0 hx (t := .boolean) Bd.returns (by simp) (hb hby d1_15) hlk (by decide) (by decide) ⟨by rw [own_b1 (show own_gap q1 q2 from (lw_gt _ _).mp hc7_1)]; rfl, N0, e0⟩
  · skip
    refine own_go (W1 := s₁.setTop (mkF m 14 #[.val (.long q1), .second, .val (.long q2), .second] [])) (fun t k => XS.ifYes X0.here hx rfl (pc0 := 7) (pc' := 14) rfl (hb hby d1_7) rfl ((if0 _ _).trans (flt (show ¬ ((0 : Int32) < (lcmpW (q2 - q1) (1209600 : Int64))) from hc7_1)).2.2.2) (by decide) (by decide) k) ?_
    refine own_go (W1 := s₁.setTop (mkF m 15 #[.val (.long q1), .second, .val (.long q2), .second] [(.int (0 : Int32))])) (fun t k => XS.iconst X0.here hx rfl (hb hby d1_14) k) ?_
    exact own_retN X0 hx (t := .boolean) Bd.returns (by simp) (hb hby d1_15) hlk (by decide) (by decide) ⟨by rw [own_b0 (show ¬ own_gap q1 q2 from fun q => hc7_1 ((lw_gt _ _).mpr q))]; rfl, N0, e0⟩
theorem own_pn_com_example_bemesser_bemesser_io_IntervalGapExceededPinLaw : plainName "com/example/bemesser/bemesser/io/IntervalGapExceededPinLaw" = true := by first | (simp [plainName, overriddenIn]; done) | decide +kernel
theorem own_pd0 : parseMethodDescriptor "(JJ)Z" = some ⟨[.long, .long], some .boolean⟩ := by decide +kernel
theorem ef_rm0 (m : MethodId) (x0 : Int64) (x1 : Int64) (x2 : Int32)  : entryFrame m #[(.long x0), (.long x1), (.int x2)] maxLocals = mkF m 0 #[.val (.long x0), .second, .val (.long x1), .second, .val (.int x2), .unset, .unset, .unset, .unset, .unset, .unset, .unset, .unset, .unset] [] := by first | (simp [entryFrame, mkF, argsToLocals, Value.category, maxLocals]; done) | rfl
set_option maxRecDepth 65536 in
set_option maxHeartbeats 40000000 in
theorem rm0 (l : Launch) (Z : State) (a0 : Array Value) (hw : ∀ d ∈ tables_1, d.before a0 Z = true) (ws : List Jvm.Cond) (x1 y1 : Int64) (e1 : Int32) (h0 : Heap) (n0 : Nat) (Z0 : n0 ≤ h0.size)  :
    MetFree l x (head1 (Jvm.Cond.code x code maxLocals ret :: ws) room_1) (fun a U => a = #[(.long x1), (.long y1), (.int e1)] ∧ Z.Warmed39 U.vm ∧ U.heap = h0) (fun _ _ _ _ _ => True) (fun _ U o U' => ∃ v L, o = .returned v ∧ own_Q0 n0 v U'.heap L ∧ FrameEnd U o U' L 0 0) := by
  refine MetFree.of_bodySF (plainFor_of_name own_pn_com_example_bemesser_bemesser_io_IntervalGapExceededPinLaw) hisR ?_
  intro p e s m args below meth c s₁ Bd hml0 hP hK
  obtain ⟨rfl, hZ, hh⟩ := hP
  have hx := Bd.exec
  have hby := Bd.bytes
  have hlk := BodyLoose.notSynchronized Bd
  have hml : c.maxLocals = 14 := hml0
  have hown : s.vm.findClass "com/example/bemesser/bemesser/io/IntervalGapExceededPinLaw" = some m.cls := findClass_of_methodNamed Bd.named
  have hnm := (name_of_methodNamed Bd.named Bd.method).1
  have X0 : Stand p l e room_1 s m #[(.long x1), (.long y1), (.int e1)] below meth c s₁ [] 0 0 := Stand.of_body Bd
  have e0 : s₁.heap = h0 := by rw [← hh, Bd.state]; rfl
  have N0 := Fr.nil n0
  show own_Ends p e below s (own_Q0 n0) 0 0 (s₁.setTop (entryFrame m #[(.long x1), (.long y1), (.int e1)] maxLocals))
  refine own_go (W1 := s₁.setTop (mkF m 0 #[.val (.long x1), .second, .val (.long y1), .second, .val (.int e1), .unset, .unset, .unset, .unset, .unset, .unset, .unset, .unset, .unset] [])) (fun t k => castTop (ef_rm0 m x1 y1 e1 ) k) ?_
  refine own_go (W1 := s₁.setTop (mkF m 1 #[.val (.long x1), .second, .val (.long y1), .second, .val (.int e1), .unset, .unset, .unset, .unset, .unset, .unset, .unset, .unset, .unset] [(.long x1)])) (fun t k => XS.lloadN X0.here hx rfl (hb hby at_0) rfl  k) ?_
  refine own_go (W1 := s₁.setTop (mkF m 2 #[.val (.long x1), .second, .val (.long y1), .second, .val (.int e1), .unset, .unset, .unset, .unset, .unset, .unset, .unset, .unset, .unset] [(.int (1 : Int32)), (.long x1)])) (fun t k => XS.iconst X0.here hx rfl (hb hby at_1) k) ?_
  refine own_go (W1 := s₁.setTop (mkF m 3 #[.val (.long x1), .second, .val (.long y1), .second, .val (.int e1), .unset, .unset, .unset, .unset, .unset, .unset, .unset, .unset, .unset] [(.long (x1 >>> ((1 : Int32) &&& 0x3f).toInt64))])) (fun t k => XS.lshr X0.here hx rfl (hb hby at_2) rfl k) ?_
  refine own_go (W1 := s₁.setTop (mkF m 5 #[.val (.long x1), .second, .val (.long y1), .second, .val (.int e1), .val (.long (x1 >>> ((1 : Int32) &&& 0x3f).toInt64)), .second, .unset, .unset, .unset, .unset, .unset, .unset, .unset] [])) (fun t k => XS.lstore X0.here hx rfl (hb hby at_3) rfl (l' := #[.val (.long x1), .second, .val (.long y1), .second, .val (.int e1), .val (.long (x1 >>> ((1 : Int32) &&& 0x3f).toInt64)), .second, .unset, .unset, .unset, .unset, .unset, .unset, .unset]) rfl k) ?_
  refine own_go (W1 := s₁.setTop (mkF m 6 #[.val (.long x1), .second, .val (.long y1), .second, .val (.int e1), .val (.long (x1 >>> ((1 : Int32) &&& 0x3f).toInt64)), .second, .unset, .unset, .unset, .unset, .unset, .unset, .unset] [(.long y1)])) (fun t k => XS.lloadN X0.here hx rfl (hb hby at_5) rfl  k) ?_
  refine own_go (W1 := s₁.setTop (mkF m 7 #[.val (.long x1), .second, .val (.long y1), .second, .val (.int e1), .val (.long (x1 >>> ((1 : Int32) &&& 0x3f).toInt64)), .second, .unset, .unset, .unset, .unset, .unset, .unset, .unset] [(.int (1 : Int32)), (.long y1)])) (fun t k => XS.iconst X0.here hx rfl (hb hby at_6) k) ?_
  refine own_go (W1 := s₁.setTop (mkF m 8 #[.val (.long x1), .second, .val (.long y1), .second, .val (.int e1), .val (.long (x1 >>> ((1 : Int32) &&& 0x3f).toInt64)), .second, .unset, .unset, .unset, .unset, .unset, .unset, .unset] [(.long (y1 >>> ((1 : Int32) &&& 0x3f).toInt64))])) (fun t k => XS.lshr X0.here hx rfl (hb hby at_7) rfl k) ?_
  refine own_go (W1 := s₁.setTop (mkF m 10 #[.val (.long x1), .second, .val (.long y1), .second, .val (.int e1), .val (.long (x1 >>> ((1 : Int32) &&& 0x3f).toInt64)), .second, .val (.long (y1 >>> ((1 : Int32) &&& 0x3f).toInt64)), .second, .unset, .unset, .unset, .unset, .unset] [])) (fun t k => XS.lstore X0.here hx rfl (hb hby at_8) rfl (l' := #[.val (.long x1), .second, .val (.long y1), .second, .val (.int e1), .val (.long (x1 >>> ((1 : Int32) &&& 0x3f).toInt64)), .second, .val (.long (y1 >>> ((1 : Int32) &&& 0x3f).toInt64)), .second, .unset, .unset, .unset, .unset, .unset]) rfl k) ?_
  have hp := own_half x1
  have hs := own_half y1
  generalize (x1 >>> ((1 : Int32) &&& 0x3f).toInt64) = pp at *
  generalize (y1 >>> ((1 : Int32) &&& 0x3f).toInt64) = ss at *
  have hG := own_gen hp hs
  refine own_go (W1 := s₁.setTop (mkF m 12 #[.val (.long x1), .second, .val (.long y1), .second, .val (.int e1), .val (.long pp), .second, .val (.long ss), .second, .unset, .unset, .unset, .unset, .unset] [(.long pp)])) (fun t k => XS.lload X0.here hx rfl (hb hby at_10) rfl  k) ?_
  refine own_go (W1 := s₁.setTop (mkF m 14 #[.val (.long x1), .second, .val (.long y1), .second, .val (.int e1), .val (.long pp), .second, .val (.long ss), .second, .unset, .unset, .unset, .unset, .unset] [(.long ss), (.long pp)])) (fun t k => XS.lload X0.here hx rfl (hb hby at_12) rfl  k) ?_
  obtain ⟨_, _, ⟨T1, L1, k1, n1⟩, -, X1, ⟨Lc1, hQ1, l1, y1, z1⟩, st1⟩ := Jvm.LawKit.callS X0 hx (y := (⟨"com/example/bemesser/bemesser/io/IntervalGap", "exceeded", "(JJ)Z"⟩ : MethodName)) hown (mvT hZ (hw _ (List.mem_of_getElem? (i := 0) rfl))) (mvT hZ (hw _ (List.mem_of_getElem? (i := 1) rfl))) (mvT hZ (hw _ (List.mem_of_getElem? (i := 2) rfl))) (mvT hZ (hw _ (List.mem_of_getElem? (i := 3) rfl))) (by decide) (backOf (W := 0) (rm1 l Z a0 hw [] pp ss h0 n0 Z0) hZ (hw _ (List.mem_of_getElem? (i := 3) rfl)) (hw _ (List.mem_of_getElem? (i := 2) rfl)) (by decide) (by decide)) (g := (mkF m 14 #[.val (.long x1), .second, .val (.long y1), .second, .val (.int e1), .val (.long pp), .second, .val (.long ss), .second, .unset, .unset, .unset, .unset, .unset] [(.long ss), (.long pp)])) rfl (by rw [hml]; rfl) (argsL := [(.long pp), (.long ss)]) (rest := []) (lenOf own_pd0 rfl) rfl (by show 2 * 0 + _ ≤ _; exact Nat.le_of_eq rfl) (hb hby at_14) (fun _ _ => ⟨rfl, e0, (by decide : 0 + 0 ≤ _), (by decide : 0 + 0 ≤ _)⟩)
  dsimp only [Pt.U, Pt.locs, Pt.cells, Pt.slots] at X1 l1 y1 z1 st1 hQ1
  subst l1 y1 z1
  obtain ⟨rfl, Nq1, eh1⟩ := hQ1
  have N1 := Fr.app N0 Nq1
  refine own_go (W1 := T1.setTop (mkF m 17 #[.val (.long x1), .second, .val (.long y1), .second, .val (.int e1), .val (.long pp), .second, .val (.long ss), .second, .unset, .unset, .unset, .unset, .unset] [(.int (own_b2i (own_gap pp ss)))])) st1 ?_
  have sg1 : ∀ t, Steps p.tables e below (T1.setTop (mkF m 44 #[.val (.long x1), .second, .val (.long y1), .second, .val (.int e1), .val (.long pp), .second, .val (.long ss), .second, .val (.int (1 : Int32)), .unset, .unset, .unset, .unset] [])) t → Steps p.tables e below (T1.setTop (mkF m 17 #[.val (.long x1), .second, .val (.long y1), .second, .val (.int e1), .val (.long pp), .second, .val (.long ss), .second, .unset, .unset, .unset, .unset, .unset] [(.int (own_b2i (own_gap pp ss)))])) t := by
    intro t k
    refine own_st (W1 := T1.setTop (mkF m 19 #[.val (.long x1), .second, .val (.long y1), .second, .val (.int e1), .val (.long pp), .second, .val (.long ss), .second, .unset, .unset, .unset, .unset, .unset] [(.long ss), (.int (own_b2i (own_gap pp ss)))])) (fun t k => XS.lload X1.here hx rfl (hb hby at_17) rfl  k) ?_
    refine own_st (W1 := T1.setTop (mkF m 21 #[.val (.long x1), .second, .val (.long y1), .second, .val (.int e1), .val (.long pp), .second, .val (.long ss), .second, .unset, .unset, .unset, .unset, .unset] [(.long pp), (.long ss), (.int (own_b2i (own_gap pp ss)))])) (fun t k => XS.lload X1.here hx rfl (hb hby at_19) rfl  k) ?_
    refine own_st (W1 := T1.setTop (mkF m 24 #[.val (.long x1), .second, .val (.long y1), .second, .val (.int e1), .val (.long pp), .second, .val (.long ss), .second, .unset, .unset, .unset, .unset, .unset] [(.long (1209600 : Int64)), (.long pp), (.long ss), (.int (own_b2i (own_gap pp ss)))])) (X1.ldc2Long hx hown (mvT hZ (hw _ (List.mem_of_getElem? (i := 5) rfl))) (g := (mkF m 21 #[.val (.long x1), .second, .val (.long y1), .second, .val (.int e1), .val (.long pp), .second, .val (.long ss), .second, .unset, .unset, .unset, .unset, .unset] [(.long pp), (.long ss), (.int (own_b2i (own_gap pp ss)))])) rfl (hb hby at_21)) ?_
    refine own_st (W1 := T1.setTop (mkF m 25 #[.val (.long x1), .second, .val (.long y1), .second, .val (.int e1), .val (.long pp), .second, .val (.long ss), .second, .unset, .unset, .unset, .unset, .unset] [(.long (pp + (1209600 : Int64))), (.long ss), (.int (own_b2i (own_gap pp ss)))])) (fun t k => XS.ladd X1.here hx rfl (hb hby at_24) rfl k) ?_
    refine own_st (W1 := T1.setTop (mkF m 26 #[.val (.long x1), .second, .val (.long y1), .second, .val (.int e1), .val (.long pp), .second, .val (.long ss), .second, .unset, .unset, .unset, .unset, .unset] [(.int (lcmpW ss (pp + (1209600 : Int64)))), (.int (own_b2i (own_gap pp ss)))])) (fun t k => XS.lcmp X1.here hx rfl (hb hby at_25) rfl k) ?_
    by_cases hc26_1 : (0 : Int32) < (lcmpW ss (pp + (1209600 : Int64)))
    · skip
      refine own_st (W1 := T1.setTop (mkF m 29 #[.val (.long x1), .second, .val (.long y1), .second, .val (.int e1), .val (.long pp), .second, .val (.long ss), .second, .unset, .unset, .unset, .unset, .unset] [(.int (own_b2i (own_gap pp ss)))])) (fun t k => XS.ifNo X1.here hx rfl (hb hby at_26) rfl ((if0 _ _).trans (tlt (show (0 : Int32) < (lcmpW ss (pp + (1209600 : Int64))) from hc26_1)).2.2.2) k) ?_
      refine own_st (W1 := T1.setTop (mkF m 30 #[.val (.long x1), .second, .val (.long y1), .second, .val (.int e1), .val (.long pp), .second, .val (.long ss), .second, .unset, .unset, .unset, .unset, .unset] [(.int (1 : Int32)), (.int (own_b2i (own_gap pp ss)))])) (fun t k => XS.iconst X1.here hx rfl (hb hby at_29) k) ?_
      refine own_st (W1 := T1.setTop (mkF m 34 #[.val (.long x1), .second, .val (.long y1), .second, .val (.int e1), .val (.long pp), .second, .val (.long ss), .second, .unset, .unset, .unset, .unset, .unset] [(.int (1 : Int32)), (.int (own_b2i (own_gap pp ss)))])) (fun t k => XS.goto X1.here hx rfl (pc0 := 30) (pc' := 34) rfl (hb hby at_30) (by decide) (by decide) k) ?_
      refine own_st (W1 := T1.setTop (mkF m 37 #[.val (.long x1), .second, .val (.long y1), .second, .val (.int e1), .val (.long pp), .second, .val (.long ss), .second, .unset, .unset, .unset, .unset, .unset] [])) (fun t k => XS.icmpNo X1.here hx rfl (hb hby at_34) rfl (teq (show (own_b2i (own_gap pp ss)) = (1 : Int32) from (by rw [own_b1 (show own_gap pp ss from hG.mpr ((lw_gt _ _).mp hc26_1))]))).2 k) ?_
      refine own_st (W1 := T1.setTop (mkF m 38 #[.val (.long x1), .second, .val (.long y1), .second, .val (.int e1), .val (.long pp), .second, .val (.long ss), .second, .unset, .unset, .unset, .unset, .unset] [(.int (1 : Int32))])) (fun t k => XS.iconst X1.here hx rfl (hb hby at_37) k) ?_
      refine own_st (W1 := T1.setTop (mkF m 42 #[.val (.long x1), .second, .val (.long y1), .second, .val (.int e1), .val (.long pp), .second, .val (.long ss), .second, .unset, .unset, .unset, .unset, .unset] [(.int (1 : Int32))])) (fun t k => XS.goto X1.here hx rfl (pc0 := 38) (pc' := 42) rfl (hb hby at_38) (by decide) (by decide) k) ?_
      refine own_st (W1 := T1.setTop (mkF m 44 #[.val (.long x1), .second, .val (.long y1), .second, .val (.int e1), .val (.long pp), .second, .val (.long ss), .second, .val (.int (1 : Int32)), .unset, .unset, .unset, .unset] [])) (fun t k => XS.istore X1.here hx rfl (hb hby at_42) rfl (l' := #[.val (.long x1), .second, .val (.long y1), .second, .val (.int e1), .val (.long pp), .second, .val (.long ss), .second, .val (.int (1 : Int32)), .unset, .unset, .unset, .unset]) rfl k) ?_
      exact k
    · skip
      refine own_st (W1 := T1.setTop (mkF m 33 #[.val (.long x1), .second, .val (.long y1), .second, .val (.int e1), .val (.long pp), .second, .val (.long ss), .second, .unset, .unset, .unset, .unset, .unset] [(.int (own_b2i (own_gap pp ss)))])) (fun t k => XS.ifYes X1.here hx rfl (pc0 := 26) (pc' := 33) rfl (hb hby at_26) rfl ((if0 _ _).trans (flt (show ¬ ((0 : Int32) < (lcmpW ss (pp + (1209600 : Int64)))) from hc26_1)).2.2.2) (by decide) (by decide) k) ?_
      refine own_st (W1 := T1.setTop (mkF m 34 #[.val (.long x1), .second, .val (.long y1), .second, .val (.int e1), .val (.long pp), .second, .val (.long ss), .second, .unset, .unset, .unset, .unset, .unset] [(.int (0 : Int32)), (.int (own_b2i (own_gap pp ss)))])) (fun t k => XS.iconst X1.here hx rfl (hb hby at_33) k) ?_
      refine own_st (W1 := T1.setTop (mkF m 37 #[.val (.long x1), .second, .val (.long y1), .second, .val (.int e1), .val (.long pp), .second, .val (.long ss), .second, .unset, .unset, .unset, .unset, .unset] [])) (fun t k => XS.icmpNo X1.here hx rfl (hb hby at_34) rfl (teq (show (own_b2i (own_gap pp ss)) = (0 : Int32) from (by rw [own_b0 (show ¬ own_gap pp ss from fun q => hc26_1 ((lw_gt _ _).mpr (hG.mp q)))]))).2 k) ?_
      refine own_st (W1 := T1.setTop (mkF m 38 #[.val (.long x1), .second, .val (.long y1), .second, .val (.int e1), .val (.long pp), .second, .val (.long ss), .second, .unset, .unset, .unset, .unset, .unset] [(.int (1 : Int32))])) (fun t k => XS.iconst X1.here hx rfl (hb hby at_37) k) ?_
      refine own_st (W1 := T1.setTop (mkF m 42 #[.val (.long x1), .second, .val (.long y1), .second, .val (.int e1), .val (.long pp), .second, .val (.long ss), .second, .unset, .unset, .unset, .unset, .unset] [(.int (1 : Int32))])) (fun t k => XS.goto X1.here hx rfl (pc0 := 38) (pc' := 42) rfl (hb hby at_38) (by decide) (by decide) k) ?_
      refine own_st (W1 := T1.setTop (mkF m 44 #[.val (.long x1), .second, .val (.long y1), .second, .val (.int e1), .val (.long pp), .second, .val (.long ss), .second, .val (.int (1 : Int32)), .unset, .unset, .unset, .unset] [])) (fun t k => XS.istore X1.here hx rfl (hb hby at_42) rfl (l' := #[.val (.long x1), .second, .val (.long y1), .second, .val (.int e1), .val (.long pp), .second, .val (.long ss), .second, .val (.int (1 : Int32)), .unset, .unset, .unset, .unset]) rfl k) ?_
      exact k
  refine own_go (W1 := T1.setTop (mkF m 44 #[.val (.long x1), .second, .val (.long y1), .second, .val (.int e1), .val (.long pp), .second, .val (.long ss), .second, .val (.int (1 : Int32)), .unset, .unset, .unset, .unset] [])) (sg1) ?_
  refine own_go (W1 := T1.setTop (mkF m 47 #[.val (.long x1), .second, .val (.long y1), .second, .val (.int e1), .val (.long pp), .second, .val (.long ss), .second, .val (.int (1 : Int32)), .unset, .unset, .unset, .unset] [(.long (1209600 : Int64))])) (X1.ldc2Long hx hown (mvT hZ (hw _ (List.mem_of_getElem? (i := 5) rfl))) (g := (mkF m 44 #[.val (.long x1), .second, .val (.long y1), .second, .val (.int e1), .val (.long pp), .second, .val (.long ss), .second, .val (.int (1 : Int32)), .unset, .unset, .unset, .unset] [])) rfl (hb hby at_44)) ?_
  refine own_go (W1 := T1.setTop (mkF m 49 #[.val (.long x1), .second, .val (.long y1), .second, .val (.int e1), .val (.long pp), .second, .val (.long ss), .second, .val (.int (1 : Int32)), .unset, .unset, .unset, .unset] [(.int e1), (.long (1209600 : Int64))])) (fun t k => XS.iload X1.here hx rfl (hb hby at_47) rfl  k) ?_
  refine own_go (W1 := T1.setTop (mkF m 50 #[.val (.long x1), .second, .val (.long y1), .second, .val (.int e1), .val (.long pp), .second, .val (.long ss), .second, .val (.int (1 : Int32)), .unset, .unset, .unset, .unset] [(.int (3 : Int32)), (.int e1), (.long (1209600 : Int64))])) (fun t k => XS.iconst X1.here hx rfl (hb hby at_49) k) ?_
  refine own_go (W1 := T1.setTop (mkF m 51 #[.val (.long x1), .second, .val (.long y1), .second, .val (.int e1), .val (.long pp), .second, .val (.long ss), .second, .val (.int (1 : Int32)), .unset, .unset, .unset, .unset] [(.int (e1 % (3 : Int32))), (.long (1209600 : Int64))])) (fun t k => iremM X1 hx rfl (hb hby at_50) rfl (by decide) k) ?_
  refine own_go (W1 := T1.setTop (mkF m 52 #[.val (.long x1), .second, .val (.long y1), .second, .val (.int e1), .val (.long pp), .second, .val (.long ss), .second, .val (.int (1 : Int32)), .unset, .unset, .unset, .unset] [(.long ((e1 % (3 : Int32)).toInt64)), (.long (1209600 : Int64))])) (fun t k => XS.i2l X1.here hx rfl (hb hby at_51) rfl k) ?_
  refine own_go (W1 := T1.setTop (mkF m 53 #[.val (.long x1), .second, .val (.long y1), .second, .val (.int e1), .val (.long pp), .second, .val (.long ss), .second, .val (.int (1 : Int32)), .unset, .unset, .unset, .unset] [(.long ((1209600 : Int64) + ((e1 % (3 : Int32)).toInt64)))])) (fun t k => XS.ladd X1.here hx rfl (hb hby at_52) rfl k) ?_
  refine own_go (W1 := T1.setTop (mkF m 55 #[.val (.long x1), .second, .val (.long y1), .second, .val (.int e1), .val (.long pp), .second, .val (.long ss), .second, .val (.int (1 : Int32)), .val (.long ((1209600 : Int64) + ((e1 % (3 : Int32)).toInt64))), .second, .unset, .unset] [])) (fun t k => XS.lstore X1.here hx rfl (hb hby at_53) rfl (l' := #[.val (.long x1), .second, .val (.long y1), .second, .val (.int e1), .val (.long pp), .second, .val (.long ss), .second, .val (.int (1 : Int32)), .val (.long ((1209600 : Int64) + ((e1 % (3 : Int32)).toInt64))), .second, .unset, .unset]) rfl k) ?_
  have hdd := own_d e1
  have hre := own_rem e1
  generalize ((1209600 : Int64) + (e1 % (3 : Int32)).toInt64) = dd at *
  have hE := own_edge (d := dd) hp (by omega)
  refine own_go (W1 := T1.setTop (mkF m 57 #[.val (.long x1), .second, .val (.long y1), .second, .val (.int e1), .val (.long pp), .second, .val (.long ss), .second, .val (.int (1 : Int32)), .val (.long dd), .second, .unset, .unset] [(.long pp)])) (fun t k => XS.lload X1.here hx rfl (hb hby at_55) rfl  k) ?_
  refine own_go (W1 := T1.setTop (mkF m 59 #[.val (.long x1), .second, .val (.long y1), .second, .val (.int e1), .val (.long pp), .second, .val (.long ss), .second, .val (.int (1 : Int32)), .val (.long dd), .second, .unset, .unset] [(.long pp), (.long pp)])) (fun t k => XS.lload X1.here hx rfl (hb hby at_57) rfl  k) ?_
  refine own_go (W1 := T1.setTop (mkF m 61 #[.val (.long x1), .second, .val (.long y1), .second, .val (.int e1), .val (.long pp), .second, .val (.long ss), .second, .val (.int (1 : Int32)), .val (.long dd), .second, .unset, .unset] [(.long dd), (.long pp), (.long pp)])) (fun t k => XS.lload X1.here hx rfl (hb hby at_59) rfl  k) ?_
  refine own_go (W1 := T1.setTop (mkF m 62 #[.val (.long x1), .second, .val (.long y1), .second, .val (.int e1), .val (.long pp), .second, .val (.long ss), .second, .val (.int (1 : Int32)), .val (.long dd), .second, .unset, .unset] [(.long (pp + dd)), (.long pp)])) (fun t k => XS.ladd X1.here hx rfl (hb hby at_61) rfl k) ?_
  obtain ⟨_, _, ⟨T2, L2, k2, n2⟩, -, X2, ⟨Lc2, hQ2, l2, y2, z2⟩, st2⟩ := Jvm.LawKit.callS X1 hx (y := (⟨"com/example/bemesser/bemesser/io/IntervalGap", "exceeded", "(JJ)Z"⟩ : MethodName)) hown (mvT hZ (hw _ (List.mem_of_getElem? (i := 0) rfl))) (mvT hZ (hw _ (List.mem_of_getElem? (i := 1) rfl))) (mvT hZ (hw _ (List.mem_of_getElem? (i := 2) rfl))) (mvT hZ (hw _ (List.mem_of_getElem? (i := 3) rfl))) (by decide) (backOf (W := 0) (rm1 l Z a0 hw [] pp (pp + dd) h0 n0 Z0) hZ (hw _ (List.mem_of_getElem? (i := 3) rfl)) (hw _ (List.mem_of_getElem? (i := 2) rfl)) (by decide) (by decide)) (g := (mkF m 62 #[.val (.long x1), .second, .val (.long y1), .second, .val (.int e1), .val (.long pp), .second, .val (.long ss), .second, .val (.int (1 : Int32)), .val (.long dd), .second, .unset, .unset] [(.long (pp + dd)), (.long pp)])) rfl (by rw [hml]; rfl) (argsL := [(.long pp), (.long (pp + dd))]) (rest := []) (lenOf own_pd0 rfl) rfl (by show 2 * 0 + _ ≤ _; exact Nat.le_of_eq rfl) (hb hby at_62) (fun _ _ => ⟨rfl, eh1, (by decide : 0 + 0 ≤ _), (by decide : 0 + 0 ≤ _)⟩)
  dsimp only [Pt.U, Pt.locs, Pt.cells, Pt.slots] at X2 l2 y2 z2 st2 hQ2
  subst l2 y2 z2
  obtain ⟨rfl, Nq2, eh2⟩ := hQ2
  have N2 := Fr.app N1 Nq2
  refine own_go (W1 := T2.setTop (mkF m 65 #[.val (.long x1), .second, .val (.long y1), .second, .val (.int e1), .val (.long pp), .second, .val (.long ss), .second, .val (.int (1 : Int32)), .val (.long dd), .second, .unset, .unset] [(.int (own_b2i (own_gap pp (pp + dd))))])) st2 ?_
  have sg2 : ∀ t, Steps p.tables e below (T2.setTop (mkF m 89 #[.val (.long x1), .second, .val (.long y1), .second, .val (.int e1), .val (.long pp), .second, .val (.long ss), .second, .val (.int (1 : Int32)), .val (.long dd), .second, .val (.int (1 : Int32)), .unset] [])) t → Steps p.tables e below (T2.setTop (mkF m 65 #[.val (.long x1), .second, .val (.long y1), .second, .val (.int e1), .val (.long pp), .second, .val (.long ss), .second, .val (.int (1 : Int32)), .val (.long dd), .second, .unset, .unset] [(.int (own_b2i (own_gap pp (pp + dd))))])) t := by
    intro t k
    refine own_st (W1 := T2.setTop (mkF m 67 #[.val (.long x1), .second, .val (.long y1), .second, .val (.int e1), .val (.long pp), .second, .val (.long ss), .second, .val (.int (1 : Int32)), .val (.long dd), .second, .unset, .unset] [(.long dd), (.int (own_b2i (own_gap pp (pp + dd))))])) (fun t k => XS.lload X2.here hx rfl (hb hby at_65) rfl  k) ?_
    refine own_st (W1 := T2.setTop (mkF m 70 #[.val (.long x1), .second, .val (.long y1), .second, .val (.int e1), .val (.long pp), .second, .val (.long ss), .second, .val (.int (1 : Int32)), .val (.long dd), .second, .unset, .unset] [(.long (1209600 : Int64)), (.long dd), (.int (own_b2i (own_gap pp (pp + dd))))])) (X2.ldc2Long hx hown (mvT hZ (hw _ (List.mem_of_getElem? (i := 5) rfl))) (g := (mkF m 67 #[.val (.long x1), .second, .val (.long y1), .second, .val (.int e1), .val (.long pp), .second, .val (.long ss), .second, .val (.int (1 : Int32)), .val (.long dd), .second, .unset, .unset] [(.long dd), (.int (own_b2i (own_gap pp (pp + dd))))])) rfl (hb hby at_67)) ?_
    refine own_st (W1 := T2.setTop (mkF m 71 #[.val (.long x1), .second, .val (.long y1), .second, .val (.int e1), .val (.long pp), .second, .val (.long ss), .second, .val (.int (1 : Int32)), .val (.long dd), .second, .unset, .unset] [(.int (lcmpW dd (1209600 : Int64))), (.int (own_b2i (own_gap pp (pp + dd))))])) (fun t k => XS.lcmp X2.here hx rfl (hb hby at_70) rfl k) ?_
    by_cases hc71_2 : (0 : Int32) < (lcmpW dd (1209600 : Int64))
    · skip
      refine own_st (W1 := T2.setTop (mkF m 74 #[.val (.long x1), .second, .val (.long y1), .second, .val (.int e1), .val (.long pp), .second, .val (.long ss), .second, .val (.int (1 : Int32)), .val (.long dd), .second, .unset, .unset] [(.int (own_b2i (own_gap pp (pp + dd))))])) (fun t k => XS.ifNo X2.here hx rfl (hb hby at_71) rfl ((if0 _ _).trans (tlt (show (0 : Int32) < (lcmpW dd (1209600 : Int64)) from hc71_2)).2.2.2) k) ?_
      refine own_st (W1 := T2.setTop (mkF m 75 #[.val (.long x1), .second, .val (.long y1), .second, .val (.int e1), .val (.long pp), .second, .val (.long ss), .second, .val (.int (1 : Int32)), .val (.long dd), .second, .unset, .unset] [(.int (1 : Int32)), (.int (own_b2i (own_gap pp (pp + dd))))])) (fun t k => XS.iconst X2.here hx rfl (hb hby at_74) k) ?_
      refine own_st (W1 := T2.setTop (mkF m 79 #[.val (.long x1), .second, .val (.long y1), .second, .val (.int e1), .val (.long pp), .second, .val (.long ss), .second, .val (.int (1 : Int32)), .val (.long dd), .second, .unset, .unset] [(.int (1 : Int32)), (.int (own_b2i (own_gap pp (pp + dd))))])) (fun t k => XS.goto X2.here hx rfl (pc0 := 75) (pc' := 79) rfl (hb hby at_75) (by decide) (by decide) k) ?_
      refine own_st (W1 := T2.setTop (mkF m 82 #[.val (.long x1), .second, .val (.long y1), .second, .val (.int e1), .val (.long pp), .second, .val (.long ss), .second, .val (.int (1 : Int32)), .val (.long dd), .second, .unset, .unset] [])) (fun t k => XS.icmpNo X2.here hx rfl (hb hby at_79) rfl (teq (show (own_b2i (own_gap pp (pp + dd))) = (1 : Int32) from (by rw [own_b1 (show own_gap pp (pp + dd) from hE.mpr ((lw_gt _ _).mp hc71_2))]))).2 k) ?_
      refine own_st (W1 := T2.setTop (mkF m 83 #[.val (.long x1), .second, .val (.long y1), .second, .val (.int e1), .val (.long pp), .second, .val (.long ss), .second, .val (.int (1 : Int32)), .val (.long dd), .second, .unset, .unset] [(.int (1 : Int32))])) (fun t k => XS.iconst X2.here hx rfl (hb hby at_82) k) ?_
      refine own_st (W1 := T2.setTop (mkF m 87 #[.val (.long x1), .second, .val (.long y1), .second, .val (.int e1), .val (.long pp), .second, .val (.long ss), .second, .val (.int (1 : Int32)), .val (.long dd), .second, .unset, .unset] [(.int (1 : Int32))])) (fun t k => XS.goto X2.here hx rfl (pc0 := 83) (pc' := 87) rfl (hb hby at_83) (by decide) (by decide) k) ?_
      refine own_st (W1 := T2.setTop (mkF m 89 #[.val (.long x1), .second, .val (.long y1), .second, .val (.int e1), .val (.long pp), .second, .val (.long ss), .second, .val (.int (1 : Int32)), .val (.long dd), .second, .val (.int (1 : Int32)), .unset] [])) (fun t k => XS.istore X2.here hx rfl (hb hby at_87) rfl (l' := #[.val (.long x1), .second, .val (.long y1), .second, .val (.int e1), .val (.long pp), .second, .val (.long ss), .second, .val (.int (1 : Int32)), .val (.long dd), .second, .val (.int (1 : Int32)), .unset]) rfl k) ?_
      exact k
    · skip
      refine own_st (W1 := T2.setTop (mkF m 78 #[.val (.long x1), .second, .val (.long y1), .second, .val (.int e1), .val (.long pp), .second, .val (.long ss), .second, .val (.int (1 : Int32)), .val (.long dd), .second, .unset, .unset] [(.int (own_b2i (own_gap pp (pp + dd))))])) (fun t k => XS.ifYes X2.here hx rfl (pc0 := 71) (pc' := 78) rfl (hb hby at_71) rfl ((if0 _ _).trans (flt (show ¬ ((0 : Int32) < (lcmpW dd (1209600 : Int64))) from hc71_2)).2.2.2) (by decide) (by decide) k) ?_
      refine own_st (W1 := T2.setTop (mkF m 79 #[.val (.long x1), .second, .val (.long y1), .second, .val (.int e1), .val (.long pp), .second, .val (.long ss), .second, .val (.int (1 : Int32)), .val (.long dd), .second, .unset, .unset] [(.int (0 : Int32)), (.int (own_b2i (own_gap pp (pp + dd))))])) (fun t k => XS.iconst X2.here hx rfl (hb hby at_78) k) ?_
      refine own_st (W1 := T2.setTop (mkF m 82 #[.val (.long x1), .second, .val (.long y1), .second, .val (.int e1), .val (.long pp), .second, .val (.long ss), .second, .val (.int (1 : Int32)), .val (.long dd), .second, .unset, .unset] [])) (fun t k => XS.icmpNo X2.here hx rfl (hb hby at_79) rfl (teq (show (own_b2i (own_gap pp (pp + dd))) = (0 : Int32) from (by rw [own_b0 (show ¬ own_gap pp (pp + dd) from fun q => hc71_2 ((lw_gt _ _).mpr (hE.mp q)))]))).2 k) ?_
      refine own_st (W1 := T2.setTop (mkF m 83 #[.val (.long x1), .second, .val (.long y1), .second, .val (.int e1), .val (.long pp), .second, .val (.long ss), .second, .val (.int (1 : Int32)), .val (.long dd), .second, .unset, .unset] [(.int (1 : Int32))])) (fun t k => XS.iconst X2.here hx rfl (hb hby at_82) k) ?_
      refine own_st (W1 := T2.setTop (mkF m 87 #[.val (.long x1), .second, .val (.long y1), .second, .val (.int e1), .val (.long pp), .second, .val (.long ss), .second, .val (.int (1 : Int32)), .val (.long dd), .second, .unset, .unset] [(.int (1 : Int32))])) (fun t k => XS.goto X2.here hx rfl (pc0 := 83) (pc' := 87) rfl (hb hby at_83) (by decide) (by decide) k) ?_
      refine own_st (W1 := T2.setTop (mkF m 89 #[.val (.long x1), .second, .val (.long y1), .second, .val (.int e1), .val (.long pp), .second, .val (.long ss), .second, .val (.int (1 : Int32)), .val (.long dd), .second, .val (.int (1 : Int32)), .unset] [])) (fun t k => XS.istore X2.here hx rfl (hb hby at_87) rfl (l' := #[.val (.long x1), .second, .val (.long y1), .second, .val (.int e1), .val (.long pp), .second, .val (.long ss), .second, .val (.int (1 : Int32)), .val (.long dd), .second, .val (.int (1 : Int32)), .unset]) rfl k) ?_
      exact k
  refine own_go (W1 := T2.setTop (mkF m 89 #[.val (.long x1), .second, .val (.long y1), .second, .val (.int e1), .val (.long pp), .second, .val (.long ss), .second, .val (.int (1 : Int32)), .val (.long dd), .second, .val (.int (1 : Int32)), .unset] [])) (sg2) ?_
  refine own_go (W1 := T2.setTop (mkF m 91 #[.val (.long x1), .second, .val (.long y1), .second, .val (.int e1), .val (.long pp), .second, .val (.long ss), .second, .val (.int (1 : Int32)), .val (.long dd), .second, .val (.int (1 : Int32)), .unset] [(.long pp)])) (fun t k => XS.lload X2.here hx rfl (hb hby at_89) rfl  k) ?_
  refine own_go (W1 := T2.setTop (mkF m 93 #[.val (.long x1), .second, .val (.long y1), .second, .val (.int e1), .val (.long pp), .second, .val (.long ss), .second, .val (.int (1 : Int32)), .val (.long dd), .second, .val (.int (1 : Int32)), .unset] [(.long pp), (.long pp)])) (fun t k => XS.lload X2.here hx rfl (hb hby at_91) rfl  k) ?_
  refine own_go (W1 := T2.setTop (mkF m 96 #[.val (.long x1), .second, .val (.long y1), .second, .val (.int e1), .val (.long pp), .second, .val (.long ss), .second, .val (.int (1 : Int32)), .val (.long dd), .second, .val (.int (1 : Int32)), .unset] [(.long (1209600 : Int64)), (.long pp), (.long pp)])) (X2.ldc2Long hx hown (mvT hZ (hw _ (List.mem_of_getElem? (i := 5) rfl))) (g := (mkF m 93 #[.val (.long x1), .second, .val (.long y1), .second, .val (.int e1), .val (.long pp), .second, .val (.long ss), .second, .val (.int (1 : Int32)), .val (.long dd), .second, .val (.int (1 : Int32)), .unset] [(.long pp), (.long pp)])) rfl (hb hby at_93)) ?_
  refine own_go (W1 := T2.setTop (mkF m 97 #[.val (.long x1), .second, .val (.long y1), .second, .val (.int e1), .val (.long pp), .second, .val (.long ss), .second, .val (.int (1 : Int32)), .val (.long dd), .second, .val (.int (1 : Int32)), .unset] [(.long (pp + (1209600 : Int64))), (.long pp)])) (fun t k => XS.ladd X2.here hx rfl (hb hby at_96) rfl k) ?_
  obtain ⟨_, _, ⟨T3, L3, k3, n3⟩, -, X3, ⟨Lc3, hQ3, l3, y3, z3⟩, st3⟩ := Jvm.LawKit.callS X2 hx (y := (⟨"com/example/bemesser/bemesser/io/IntervalGap", "exceeded", "(JJ)Z"⟩ : MethodName)) hown (mvT hZ (hw _ (List.mem_of_getElem? (i := 0) rfl))) (mvT hZ (hw _ (List.mem_of_getElem? (i := 1) rfl))) (mvT hZ (hw _ (List.mem_of_getElem? (i := 2) rfl))) (mvT hZ (hw _ (List.mem_of_getElem? (i := 3) rfl))) (by decide) (backOf (W := 0) (rm1 l Z a0 hw [] pp (pp + (1209600 : Int64)) h0 n0 Z0) hZ (hw _ (List.mem_of_getElem? (i := 3) rfl)) (hw _ (List.mem_of_getElem? (i := 2) rfl)) (by decide) (by decide)) (g := (mkF m 97 #[.val (.long x1), .second, .val (.long y1), .second, .val (.int e1), .val (.long pp), .second, .val (.long ss), .second, .val (.int (1 : Int32)), .val (.long dd), .second, .val (.int (1 : Int32)), .unset] [(.long (pp + (1209600 : Int64))), (.long pp)])) rfl (by rw [hml]; rfl) (argsL := [(.long pp), (.long (pp + (1209600 : Int64)))]) (rest := []) (lenOf own_pd0 rfl) rfl (by show 2 * 0 + _ ≤ _; exact Nat.le_of_eq rfl) (hb hby at_97) (fun _ _ => ⟨rfl, eh2, (by decide : 0 + 0 ≤ _), (by decide : 0 + 0 ≤ _)⟩)
  dsimp only [Pt.U, Pt.locs, Pt.cells, Pt.slots] at X3 l3 y3 z3 st3 hQ3
  subst l3 y3 z3
  obtain ⟨rfl, Nq3, eh3⟩ := hQ3
  have N3 := Fr.app N2 Nq3
  refine own_go (W1 := T3.setTop (mkF m 100 #[.val (.long x1), .second, .val (.long y1), .second, .val (.int e1), .val (.long pp), .second, .val (.long ss), .second, .val (.int (1 : Int32)), .val (.long dd), .second, .val (.int (1 : Int32)), .unset] [(.int (own_b2i (own_gap pp (pp + (1209600 : Int64)))))])) st3 ?_
  refine own_go (W1 := T3.setTop (mkF m 103 #[.val (.long x1), .second, .val (.long y1), .second, .val (.int e1), .val (.long pp), .second, .val (.long ss), .second, .val (.int (1 : Int32)), .val (.long dd), .second, .val (.int (1 : Int32)), .unset] [])) (fun t k => XS.ifNo X3.here hx rfl (hb hby at_100) rfl ((if0 _ _).trans (teq (show (own_b2i (own_gap pp (pp + (1209600 : Int64)))) = (0 : Int32) from (own_b0 (show ¬ own_gap pp (pp + 1209600) from by rw [own_edge hp (by decide)]; decide)))).2) k) ?_
  refine own_go (W1 := T3.setTop (mkF m 105 #[.val (.long x1), .second, .val (.long y1), .second, .val (.int e1), .val (.long pp), .second, .val (.long ss), .second, .val (.int (1 : Int32)), .val (.long dd), .second, .val (.int (1 : Int32)), .unset] [(.long pp)])) (fun t k => XS.lload X3.here hx rfl (hb hby at_103) rfl  k) ?_
  refine own_go (W1 := T3.setTop (mkF m 107 #[.val (.long x1), .second, .val (.long y1), .second, .val (.int e1), .val (.long pp), .second, .val (.long ss), .second, .val (.int (1 : Int32)), .val (.long dd), .second, .val (.int (1 : Int32)), .unset] [(.long pp), (.long pp)])) (fun t k => XS.lload X3.here hx rfl (hb hby at_105) rfl  k) ?_
  refine own_go (W1 := T3.setTop (mkF m 110 #[.val (.long x1), .second, .val (.long y1), .second, .val (.int e1), .val (.long pp), .second, .val (.long ss), .second, .val (.int (1 : Int32)), .val (.long dd), .second, .val (.int (1 : Int32)), .unset] [(.long (1209601 : Int64)), (.long pp), (.long pp)])) (X3.ldc2Long hx hown (mvT hZ (hw _ (List.mem_of_getElem? (i := 6) rfl))) (g := (mkF m 107 #[.val (.long x1), .second, .val (.long y1), .second, .val (.int e1), .val (.long pp), .second, .val (.long ss), .second, .val (.int (1 : Int32)), .val (.long dd), .second, .val (.int (1 : Int32)), .unset] [(.long pp), (.long pp)])) rfl (hb hby at_107)) ?_
  refine own_go (W1 := T3.setTop (mkF m 111 #[.val (.long x1), .second, .val (.long y1), .second, .val (.int e1), .val (.long pp), .second, .val (.long ss), .second, .val (.int (1 : Int32)), .val (.long dd), .second, .val (.int (1 : Int32)), .unset] [(.long (pp + (1209601 : Int64))), (.long pp)])) (fun t k => XS.ladd X3.here hx rfl (hb hby at_110) rfl k) ?_
  obtain ⟨_, _, ⟨T4, L4, k4, n4⟩, -, X4, ⟨Lc4, hQ4, l4, y4, z4⟩, st4⟩ := Jvm.LawKit.callS X3 hx (y := (⟨"com/example/bemesser/bemesser/io/IntervalGap", "exceeded", "(JJ)Z"⟩ : MethodName)) hown (mvT hZ (hw _ (List.mem_of_getElem? (i := 0) rfl))) (mvT hZ (hw _ (List.mem_of_getElem? (i := 1) rfl))) (mvT hZ (hw _ (List.mem_of_getElem? (i := 2) rfl))) (mvT hZ (hw _ (List.mem_of_getElem? (i := 3) rfl))) (by decide) (backOf (W := 0) (rm1 l Z a0 hw [] pp (pp + (1209601 : Int64)) h0 n0 Z0) hZ (hw _ (List.mem_of_getElem? (i := 3) rfl)) (hw _ (List.mem_of_getElem? (i := 2) rfl)) (by decide) (by decide)) (g := (mkF m 111 #[.val (.long x1), .second, .val (.long y1), .second, .val (.int e1), .val (.long pp), .second, .val (.long ss), .second, .val (.int (1 : Int32)), .val (.long dd), .second, .val (.int (1 : Int32)), .unset] [(.long (pp + (1209601 : Int64))), (.long pp)])) rfl (by rw [hml]; rfl) (argsL := [(.long pp), (.long (pp + (1209601 : Int64)))]) (rest := []) (lenOf own_pd0 rfl) rfl (by show 2 * 0 + _ ≤ _; exact Nat.le_of_eq rfl) (hb hby at_111) (fun _ _ => ⟨rfl, eh3, (by decide : 0 + 0 ≤ _), (by decide : 0 + 0 ≤ _)⟩)
  dsimp only [Pt.U, Pt.locs, Pt.cells, Pt.slots] at X4 l4 y4 z4 st4 hQ4
  subst l4 y4 z4
  obtain ⟨rfl, Nq4, eh4⟩ := hQ4
  have N4 := Fr.app N3 Nq4
  refine own_go (W1 := T4.setTop (mkF m 114 #[.val (.long x1), .second, .val (.long y1), .second, .val (.int e1), .val (.long pp), .second, .val (.long ss), .second, .val (.int (1 : Int32)), .val (.long dd), .second, .val (.int (1 : Int32)), .unset] [(.int (own_b2i (own_gap pp (pp + (1209601 : Int64)))))])) st4 ?_
  refine own_go (W1 := T4.setTop (mkF m 117 #[.val (.long x1), .second, .val (.long y1), .second, .val (.int e1), .val (.long pp), .second, .val (.long ss), .second, .val (.int (1 : Int32)), .val (.long dd), .second, .val (.int (1 : Int32)), .unset] [])) (fun t k => XS.ifNo X4.here hx rfl (hb hby at_114) rfl ((if0 _ _).trans (feq (show ¬ ((own_b2i (own_gap pp (pp + (1209601 : Int64)))) = (0 : Int32)) from (by rw [own_b1 (show own_gap pp (pp + 1209601) from by rw [own_edge hp (by decide)]; decide)]; decide))).1) k) ?_
  refine own_go (W1 := T4.setTop (mkF m 118 #[.val (.long x1), .second, .val (.long y1), .second, .val (.int e1), .val (.long pp), .second, .val (.long ss), .second, .val (.int (1 : Int32)), .val (.long dd), .second, .val (.int (1 : Int32)), .unset] [(.int (1 : Int32))])) (fun t k => XS.iconst X4.here hx rfl (hb hby at_117) k) ?_
  refine own_go (W1 := T4.setTop (mkF m 122 #[.val (.long x1), .second, .val (.long y1), .second, .val (.int e1), .val (.long pp), .second, .val (.long ss), .second, .val (.int (1 : Int32)), .val (.long dd), .second, .val (.int (1 : Int32)), .unset] [(.int (1 : Int32))])) (fun t k => XS.goto X4.here hx rfl (pc0 := 118) (pc' := 122) rfl (hb hby at_118) (by decide) (by decide) k) ?_
  refine own_go (W1 := T4.setTop (mkF m 124 #[.val (.long x1), .second, .val (.long y1), .second, .val (.int e1), .val (.long pp), .second, .val (.long ss), .second, .val (.int (1 : Int32)), .val (.long dd), .second, .val (.int (1 : Int32)), .val (.int (1 : Int32))] [])) (fun t k => XS.istore X4.here hx rfl (hb hby at_122) rfl (l' := #[.val (.long x1), .second, .val (.long y1), .second, .val (.int e1), .val (.long pp), .second, .val (.long ss), .second, .val (.int (1 : Int32)), .val (.long dd), .second, .val (.int (1 : Int32)), .val (.int (1 : Int32))]) rfl k) ?_
  refine own_go (W1 := T4.setTop (mkF m 126 #[.val (.long x1), .second, .val (.long y1), .second, .val (.int e1), .val (.long pp), .second, .val (.long ss), .second, .val (.int (1 : Int32)), .val (.long dd), .second, .val (.int (1 : Int32)), .val (.int (1 : Int32))] [(.int (1 : Int32))])) (fun t k => XS.iload X4.here hx rfl (hb hby at_124) rfl  k) ?_
  refine own_go (W1 := T4.setTop (mkF m 129 #[.val (.long x1), .second, .val (.long y1), .second, .val (.int e1), .val (.long pp), .second, .val (.long ss), .second, .val (.int (1 : Int32)), .val (.long dd), .second, .val (.int (1 : Int32)), .val (.int (1 : Int32))] [])) (fun t k => XS.ifNo X4.here hx rfl (hb hby at_126) rfl ((if0 _ _).trans (feq (show ¬ ((1 : Int32) = (0 : Int32)) from (by decide))).1) k) ?_
  refine own_go (W1 := T4.setTop (mkF m 131 #[.val (.long x1), .second, .val (.long y1), .second, .val (.int e1), .val (.long pp), .second, .val (.long ss), .second, .val (.int (1 : Int32)), .val (.long dd), .second, .val (.int (1 : Int32)), .val (.int (1 : Int32))] [(.int (1 : Int32))])) (fun t k => XS.iload X4.here hx rfl (hb hby at_129) rfl  k) ?_
  refine own_go (W1 := T4.setTop (mkF m 134 #[.val (.long x1), .second, .val (.long y1), .second, .val (.int e1), .val (.long pp), .second, .val (.long ss), .second, .val (.int (1 : Int32)), .val (.long dd), .second, .val (.int (1 : Int32)), .val (.int (1 : Int32))] [])) (fun t k => XS.ifNo X4.here hx rfl (hb hby at_131) rfl ((if0 _ _).trans (feq (show ¬ ((1 : Int32) = (0 : Int32)) from (by decide))).1) k) ?_
  refine own_go (W1 := T4.setTop (mkF m 136 #[.val (.long x1), .second, .val (.long y1), .second, .val (.int e1), .val (.long pp), .second, .val (.long ss), .second, .val (.int (1 : Int32)), .val (.long dd), .second, .val (.int (1 : Int32)), .val (.int (1 : Int32))] [(.int (1 : Int32))])) (fun t k => XS.iload X4.here hx rfl (hb hby at_134) rfl  k) ?_
  refine own_go (W1 := T4.setTop (mkF m 139 #[.val (.long x1), .second, .val (.long y1), .second, .val (.int e1), .val (.long pp), .second, .val (.long ss), .second, .val (.int (1 : Int32)), .val (.long dd), .second, .val (.int (1 : Int32)), .val (.int (1 : Int32))] [])) (fun t k => XS.ifNo X4.here hx rfl (hb hby at_136) rfl ((if0 _ _).trans (feq (show ¬ ((1 : Int32) = (0 : Int32)) from (by decide))).1) k) ?_
  refine own_go (W1 := T4.setTop (mkF m 140 #[.val (.long x1), .second, .val (.long y1), .second, .val (.int e1), .val (.long pp), .second, .val (.long ss), .second, .val (.int (1 : Int32)), .val (.long dd), .second, .val (.int (1 : Int32)), .val (.int (1 : Int32))] [(.int (1 : Int32))])) (fun t k => XS.iconst X4.here hx rfl (hb hby at_139) k) ?_
  refine own_go (W1 := T4.setTop (mkF m 144 #[.val (.long x1), .second, .val (.long y1), .second, .val (.int e1), .val (.long pp), .second, .val (.long ss), .second, .val (.int (1 : Int32)), .val (.long dd), .second, .val (.int (1 : Int32)), .val (.int (1 : Int32))] [(.int (1 : Int32))])) (fun t k => XS.goto X4.here hx rfl (pc0 := 140) (pc' := 144) rfl (hb hby at_140) (by decide) (by decide) k) ?_
  exact own_retN X4 hx (t := .boolean) Bd.returns (by simp) (hb hby at_144) hlk (by decide) (by decide) ⟨rfl, N4⟩
set_option maxRecDepth 65536 in
set_option maxHeartbeats 40000000 in
theorem comes_1 {Post : Tables → Env → Array Value → State → Outcome → State → Prop} (hpost : ∀ tb e args s v u, (limb_1_1.after args s (.returned v) u = true ∧ limb_1_2.after args s (.returned v) u = true ∧ True) → FrameEnd s (.returned v) u (Jvm.fieldLocs frame_1_writes args s ++ Jvm.arrayLocs frame_1_arrays args s ++ Jvm.staticLocs frame_1_statics s) 0 0 → Post tb e args s (.returned v) u) :
    ArmFor flags0 classFile x code maxLocals ret World_1 tables_1 room_1 Calls_1 rest_1 Pre_1 Post := by
  intro l hfl _ _ p e ha hc hk s m args below hf hA hF happ hP
  obtain ⟨hcalls, hrest, hpre⟩ := hP
  obtain ⟨-, -, -, hnamed, -, -, -, hat⟩ := (Spec.applies_iff hf).mp happ
  obtain ⟨hg, hn⟩ := and_e (Cond.before_iff.mp (show (Jvm.Cond.and given_1 narrow_1).before args s = true from hpre))
  obtain ⟨gc, hg⟩ := and_e hg
  obtain ⟨ga0, hg⟩ := and_e hg
  obtain ⟨ga1, hg⟩ := and_e hg
  have ga2 := hg
  obtain ⟨w0, w1, w2, rfl⟩ : ∃ w0 w1 w2 : Value, args = #[w0, w1, w2] := by
    have hs : args.size = 3 := by simpa [Cond.value, given_1] using gc
    obtain ⟨L⟩ := args
    match L, hs with
    | [w0, w1, w2], _ => exact ⟨w0, w1, w2, rfl⟩
  have hw := fun d (hd : d ∈ tables_1) => atoms_spec (ws := Jvm.Cond.code x code maxLocals ret :: tables_1) hat d (List.mem_cons_of_mem _ hd)
  have hfit : Fit s := fun {y c} hc i hi => by
    obtain ⟨ha, rfl⟩ := Array.getElem?_eq_some_iff.mp hc
    have q := List.all_eq_true.mp ((Array.all_eq_true_iff_forall_mem.mp hF) _ (Array.getElem_mem ha)) i (List.mem_range.mpr hi)
    simpa [Array.getElem?_eq_getElem hi] using q
  obtain ⟨i0, ei0⟩ := isL_v ga0
  obtain rfl : w0 = (.long i0) := Option.some.inj ei0
  obtain ⟨i1, ei1⟩ := isL_v ga1
  obtain rfl : w1 = (.long i1) := Option.some.inj ei1
  obtain ⟨i2, ei2⟩ := is_v ga2
  obtain rfl : w2 = (.int i2) := Option.some.inj ei2
  obtain ⟨n, o, h1, h2, h3, _, L, rfl, ⟨rfl, N⟩, hq⟩ := rm0 l s _ hw tables_1 i0 i1 i2 s.heap s.heap.size (Nat.le_refl _)  p e ha hc hk s m _ below hf ((Spec.applies_iff_loose hf).mp happ).1 ⟨rfl, State.Warmed39.refl s, rfl⟩ trivial
  refine ⟨n, _, h1, h2, h3, hpost _ _ _ _ _ _ ⟨Cond.after_iff.mpr rfl, Cond.after_iff.mpr (eq_i res_at (Term.int_eval (1)) rfl), trivial⟩ ⟨hq.1, hq.2.1, (hq.2.2.sift fun y hy => Or.inr (N y hy)).mono (by decide) (by decide)⟩⟩
theorem main_1_1 : Claimed_1_1 := comes_1 fun _ _ _ _ _ _ h hF => ⟨h.1, hF⟩
theorem main_1_2 : Claimed_1_2 := comes_1 fun _ _ _ _ _ _ h hF => ⟨h.2.1, hF⟩
end Jvm.Pilot.@@N@@
namespace Jvm.Pilot.@@N@@
open Jvm Jvm.ClassFile Sem Op Lib Jvm.Free Jvm.Stand Jvm.Pilot.@@N@@.Jvm.D
/-! MADE BY PROGRAM (witnessworld.py) out of the Statement's table words and the real class files: 9 classes; the members and pool entries that the words name. The judged class is class 1, her method 1. -/
namespace start1
open Jvm.ClassFile
def u (s : String) : CpInfo := .utf8 (stringToUtf16 s)
/-- a pool by its gaps: so many unusable entries, then the entry; so many at the end -/
def gap : Nat → List CpInfo → List CpInfo
  | 0, r => r
  | n + 1, r => .unusable :: gap n r
def poolList (es : List (Nat × CpInfo)) (last : Nat) : List CpInfo := es.foldr (fun e r => gap e.1 (e.2 :: r)) (gap last [])
def pool (es : List (Nat × CpInfo)) (last : Nat) : Array CpInfo := ⟨poolList es last⟩
def fileOf (pool : Array CpInfo) (this : Nat) (attrs : Array Attribute := #[]) (ms : Array MethodInfo := #[]) (fl : Nat := 33) (sup : Nat := 0) (ifs : Array Nat := #[]) (fds : Array FieldInfo := #[]) : ClassFile where
  minorVersion := 0
  majorVersion := 65
  constantPool := pool
  accessFlags := fl
  thisClass := this
  superClass := sup
  interfaces := ifs
  fields := fds
  methods := ms
  attributes := attrs
def plain (name : String) (sup : Option ClassId) : Class where
  name := name
  kind := .ordinary
  loader := none
  accessFlags := 33
  super := sup
  interfaces := #[]
  cf := none
  fields := #[]
  methods := #[]
  instanceTypes := #[]
  staticTypes := #[]
  resolved := #[]
  callSites := []
  init := .initialized
  statics := none
  mirror := none

def pool0 : Array CpInfo := pool [(5, u "<init>"), (0, u "()V"), (1, .class_ 10), (1, u "java/lang/Object")] 113

def k0m0 : Method := { name := "<init>", desc := "()V", sig := { parameters := [], returnType := none }, accessFlags := 1, code := none }
/-- java/lang/Object -/
def k0 : Class := { plain "java/lang/Object" none with
  accessFlags := 33
  interfaces := #[]
  cf := some (fileOf pool0 8 #[] #[{ accessFlags := 1, nameIndex := 5, descriptorIndex := 6, attributes := #[] }] 33 0 #[] #[])
  fields := #[]
  methods := #[k0m0]
  instanceTypes := #[]
  staticTypes := #[]
  resolved := Array.replicate 124 none
  statics := none }

def pool1 : Array CpInfo := pool [(2, .class_ 4), (1, u "java/lang/Object"), (0, u "<init>"), (0, u "()V"), (0, .methodref 8 9), (0, .class_ 10), (0, .nameAndType 11 12), (0, u "com/example/bemesser/bemesser/io/IntervalGap"), (0, u "exceeded"), (0, u "(JJ)Z"), (0, .long 1209600), (1, .long 1209601), (1, .class_ 18), (0, u "com/example/bemesser/bemesser/io/IntervalGapExceededPinLaw"), (2, u "law"), (0, u "(JJI)Z")] 3

def k1m0 : Method := { name := "<init>", desc := "()V", sig := { parameters := [], returnType := none }, accessFlags := 2, code := none }
def k1c1 : Code := { maxStack := 7, maxLocals := 14, code := code, exceptionTable := #[], attributes := #[] }
def k1m1 : Method := { name := "law", desc := "(JJI)Z", sig := { parameters := [.long, .long, .int], returnType := some .boolean }, accessFlags := 9, code := some k1c1 }
/-- com/example/bemesser/bemesser/io/IntervalGapExceededPinLaw -/
def k1 : Class := { plain "com/example/bemesser/bemesser/io/IntervalGapExceededPinLaw" (some 0) with
  accessFlags := 49
  interfaces := #[]
  cf := some (fileOf pool1 17 #[] #[{ accessFlags := 2, nameIndex := 5, descriptorIndex := 6, attributes := #[] }, { accessFlags := 9, nameIndex := 21, descriptorIndex := 22, attributes := #[] }] 49 2 #[] #[])
  fields := #[]
  methods := #[k1m0, k1m1]
  instanceTypes := #[]
  staticTypes := #[]
  resolved := Array.replicate 26 none
  statics := none }

def pool2 : Array CpInfo := pool [(1, .class_ 2), (0, u "com/example/bemesser/bemesser/io/IntervalGap"), (1, .class_ 6), (1, u "java/lang/Object"), (0, u "<init>"), (0, u "()V"), (0, .long 1209600), (1, u "MAX_DAYS"), (0, u "I"), (2, u "MORE_THAN_MAX"), (0, u "Ljava/lang/String;"), (2, u "MAX_SECONDS"), (0, u "J"), (2, u "exceeded"), (0, u "(JJ)Z")] 3

def k2m0 : Method := { name := "<init>", desc := "()V", sig := { parameters := [], returnType := none }, accessFlags := 2, code := none }
def k2c1 : Code := { maxStack := 4, maxLocals := 4, code := prog_52_method_2_code, exceptionTable := #[], attributes := #[] }
def k2m1 : Method := { name := "exceeded", desc := "(JJ)Z", sig := { parameters := [.long, .long], returnType := some .boolean }, accessFlags := 8, code := some k2c1 }
/-- com/example/bemesser/bemesser/io/IntervalGap -/
def k2 : Class := { plain "com/example/bemesser/bemesser/io/IntervalGap" (some 0) with
  accessFlags := 32
  interfaces := #[]
  cf := some (fileOf pool2 1 #[] #[{ accessFlags := 2, nameIndex := 7, descriptorIndex := 8, attributes := #[] }, { accessFlags := 8, nameIndex := 23, descriptorIndex := 24, attributes := #[] }] 32 4 #[] #[{ accessFlags := 24, nameIndex := 11, descriptorIndex := 12, attributes := #[] }, { accessFlags := 24, nameIndex := 15, descriptorIndex := 16, attributes := #[] }, { accessFlags := 26, nameIndex := 19, descriptorIndex := 20, attributes := #[] }])
  fields := #[{ name := "MAX_DAYS", type := .int, accessFlags := 24, slot := 0, constantValue := 0 }, { name := "MORE_THAN_MAX", type := (.object "java/lang/String"), accessFlags := 24, slot := 1, constantValue := 0 }, { name := "MAX_SECONDS", type := .long, accessFlags := 26, slot := 2, constantValue := 0 }]
  methods := #[k2m0, k2m1]
  instanceTypes := #[]
  staticTypes := #[.int, (.object "java/lang/String"), .long]
  resolved := Array.replicate 28 none
  statics := none }

def pool3 : Array CpInfo := pool [(1, u "java/lang/Cloneable"), (0, .class_ 1), (0, u "java/lang/Object"), (0, .class_ 3)] 3

/-- java/lang/Cloneable -/
def k3 : Class := { plain "java/lang/Cloneable" (some 0) with
  accessFlags := 1537
  interfaces := #[]
  cf := some (fileOf pool3 2 #[] #[] 1537 4 #[] #[])
  fields := #[]
  methods := #[]
  instanceTypes := #[]
  staticTypes := #[]
  resolved := Array.replicate 8 none
  statics := none }

def pool4 : Array CpInfo := pool [(1, u "java/io/Serializable"), (0, .class_ 1), (0, u "java/lang/Object"), (0, .class_ 3)] 3

/-- java/io/Serializable -/
def k4 : Class := { plain "java/io/Serializable" (some 0) with
  accessFlags := 1537
  interfaces := #[]
  cf := some (fileOf pool4 2 #[] #[] 1537 4 #[] #[])
  fields := #[]
  methods := #[]
  instanceTypes := #[]
  staticTypes := #[]
  resolved := Array.replicate 8 none
  statics := none }

/-- the primitive byte -/
def k5 : Class := { plain "byte" none with kind := .primitive 'B', accessFlags := 0x411 }
/-- [B -/
def k6 : Class := { plain "[B" (some 0) with kind := .array 5 .byte, interfaces := #[3, 4], accessFlags := 1041 }

/-- the primitive int -/
def k7 : Class := { plain "int" none with kind := .primitive 'I', accessFlags := 0x411 }
/-- [I -/
def k8 : Class := { plain "[I" (some 0) with kind := .array 7 .int, interfaces := #[3, 4], accessFlags := 1041 }

def heap : Heap := #[]
def classes : Array Class := #[k0, k1, k2, k3, k4, k5, k6, k7, k8]
def interned : List (Array UInt16 × Addr) := []
def slotsUsed : Nat := 0
def theMethod : MethodId := ⟨1, 1⟩
def args0 : Array Value := #[.long 7, .long 9, .int 5]
def aboutOver (below : List Frame) : State where
  vm := { classes := classes, interned := interned.toArray }
  heap := heap
  slotsUsed := slotsUsed
  threads := #[{ frames := .invoking theMethod args0 :: below }]
def below0 : List Frame := [.native { method := ⟨0, 0⟩, args := #[] }]
def about1 : State := aboutOver below0
def p0 : Program := .bare "" "" ""
def e0 : Env := launch0.env 0 0 0
theorem w_frames : about1.frames = Frame.invoking theMethod args0 :: below0 := rfl
set_option maxRecDepth 65536 in
theorem w_args : argsFit about1.vm theMethod args0 = true := by decide +kernel
set_option maxRecDepth 65536 in
theorem w_heap : heapFits about1 = true := by decide +kernel
set_option maxRecDepth 65536 in
theorem w_runnable : about1.curStatus? = some .runnable := by decide +kernel
set_option maxRecDepth 65536 in
theorem w_alone : about1.alone = true := by decide +kernel
set_option maxRecDepth 65536 in
theorem w_named : about1.methodNamed? x = some theMethod := by decide +kernel
set_option maxRecDepth 65536 in
theorem w_hears : about1.hears theMethod below0 = true := by decide +kernel
set_option maxRecDepth 65536 in
theorem w_ripe : about1.ripe theMethod args0 below0 = true := by decide +kernel
theorem w_running : about1.status = .running := rfl
set_option maxRecDepth 65536 in
theorem w_room : about1.hasRoom e0.platform room_1 = true :=
  launch0.hasRoom_least _ room_1 (by decide +kernel) (by decide +kernel) (by decide +kernel) (by decide +kernel) (by decide +kernel) (by decide +kernel)
theorem allAtoms_all (ts : List Jvm.Cond) (a : Array Jvm.Value) (st : Jvm.State) : (allAtoms ts).before a st = ts.all (fun c => c.before a st) := by
  induction ts with
  | nil => rfl
  | cons c t ih =>
    show (Jvm.Cond.and c (allAtoms t)).before a st = _
    rw [Jvm.Cond.before_and, ih, List.all_cons]
def words1 : List Jvm.Cond := Jvm.Cond.code x code maxLocals ret :: tables_1
/-- a 'code' word, met by the world's own term for the bytes: nothing is compared byte by byte -/
theorem code_word {y : MethodName} {bytes : ByteArray} {mx : Nat} {rt : Option FieldType} {a : Array Value} {s : State} {m : MethodId} {meth : Method} {c : Code} (h1 : s.methodNamed? y = some m) (h2 : s.vm.method? m = some meth) (h3 : meth.code = some c) (h4 : c.code = bytes)
    (h5 : (c.maxLocals == mx && c.exceptionTable.isEmpty && decide (c.maxStack ≤ mostOperands) && decide (meth.sig.returnType = rt) && !meth.locks && decide (parseMethodDescriptor y.desc = some meth.sig)) = true) : (Jvm.Cond.code y bytes mx rt).before a s = true := by
  simp only [Bool.and_eq_true, beq_iff_eq, Bool.not_eq_true', decide_eq_true_eq] at h5
  obtain ⟨⟨⟨⟨⟨g1, g2⟩, g3⟩, g4⟩, g5⟩, g6⟩ := h5
  simp [Cond.before, Cond.holds, Cond.value, h1, h2, h3, h4, g1, g2, g3, g4, g5, g6]
def isCode : Jvm.Cond → Bool
  | .code _ _ _ _ => true
  | _ => false
theorem all_split {L : List Jvm.Cond} {P : Jvm.Cond → Bool} (h1 : L.all (fun c => isCode c || P c) = true) (h2 : ∀ c ∈ L.filter isCode, P c = true) : L.all P = true := by
  refine List.all_eq_true.mpr fun c hc => ?_
  have h := List.all_eq_true.mp h1 c hc
  rcases Bool.eq_false_or_eq_true (isCode c) with hi | hi
  · exact h2 c (List.mem_filter.mpr ⟨hc, hi⟩)
  · simpa [hi] using h
set_option maxRecDepth 65536 in
theorem w_c0 : (Jvm.Cond.code x code maxLocals ret).before args0 about1 = true := code_word (m := ⟨1, 1⟩) (meth := k1m1) (c := k1c1) (by decide +kernel) rfl rfl rfl (by decide +kernel)
set_option maxRecDepth 65536 in
theorem w_c1 : (Jvm.Cond.code ({ cls := "com/example/bemesser/bemesser/io/IntervalGap", name := "exceeded", desc := "(JJ)Z" } : Jvm.MethodName) prog_52_method_2_code (4 : Nat) (Option.some Jvm.ClassFile.FieldType.boolean)).before args0 about1 = true := code_word (m := ⟨2, 1⟩) (meth := k2m1) (c := k2c1) (by decide +kernel) rfl rfl rfl (by decide +kernel)
def codes1 : List Jvm.Cond := [Jvm.Cond.code x code maxLocals ret, Jvm.Cond.code ({ cls := "com/example/bemesser/bemesser/io/IntervalGap", name := "exceeded", desc := "(JJ)Z" } : Jvm.MethodName) prog_52_method_2_code (4 : Nat) (Option.some Jvm.ClassFile.FieldType.boolean)]
set_option maxRecDepth 65536 in
theorem codes_eq : words1.filter isCode = codes1 := rfl
theorem w_codes : ∀ c ∈ words1.filter isCode, c.before args0 about1 = true := by
  rw [codes_eq]
  intro c hc
  simp only [codes1, List.mem_cons, List.not_mem_nil, or_false] at hc
  rcases hc with rfl | rfl
  · exact w_c0
  · exact w_c1
set_option maxRecDepth 65536 in
theorem w_t1 : words1.all (fun c => isCode c || c.before args0 about1) = true := by decide +kernel
theorem w_tables : (allAtoms (Jvm.Cond.code x code maxLocals ret :: tables_1)).before args0 about1 = true := by
  rw [allAtoms_all]
  show words1.all (fun c => c.before args0 about1) = true
  refine all_split ?_ w_codes
  rw [w_t1]
set_option maxRecDepth 65536 in
theorem w_case : (Jvm.Cond.and given_1 narrow_1).before args0 about1 = true := by decide +kernel
theorem w_applies : (headSpec (Jvm.Cond.code x code maxLocals ret :: tables_1) room_1).applies x e0.platform about1 = true :=
  (Spec.applies_iff w_frames).mpr ⟨w_running, w_runnable, w_alone, w_named, w_hears, w_ripe, w_room, w_tables⟩
theorem atStart : AtStart classFile x code maxLocals ret World_1 tables_1 room_1 Calls_1 rest_1 Pre_1 launch0 p0 e0 about1 theMethod args0 below0 :=
  ⟨lists_1, trivial, launch0.admits_env _ _ _, launch0.least_env, fairChoices_fair.cas, fairChoices_fair.clock, w_frames, w_args, w_heap, w_applies, trivial, trivial, w_case⟩
end start1
theorem witness_1 : WitnessClaimed_1 := ⟨start1.p0, start1.e0, start1.about1, start1.theMethod, start1.args0, start1.below0, start1.atStart⟩
end Jvm.Pilot.@@N@@
