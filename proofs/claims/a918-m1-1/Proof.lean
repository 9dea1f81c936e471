import JvmDerived
import JvmDerived.Pilot.@@N@@Statement
import JvmDerived.Pilot.@@N@@Code
set_option linter.unusedVariables false
set_option linter.unusedSimpArgs false
namespace Jvm.Pilot.@@N@@
open Jvm Jvm.ClassFile Sem Op Lib Jvm.Free Jvm.Stand Jvm.LawKit Jvm.RoadKit Bundle Jvm.Pilot.@@N@@.Jvm.D
/-! own_Ends: from here the run comes to its return, and what it leaves is as Qf says -/
def own_Ends (p : Program) (e : Env) (below : List Frame) (s : State) (Qf : Option Value → Heap → List Loc → Prop) (ce sl : Nat) (W : State) : Prop :=
  ∃ U o, Steps p.tables e below W U ∧ U.status = .running ∧ Ended U below o ∧ ∃ v L, o = .returned v ∧ Qf v U.heap L ∧ FrameEnd s o U L ce sl
section Own
variable {p : Program} {l : Launch} {e : Env} {R : Room} {s : State} {m : MethodId} {args : Array Value} {below : List Frame} {meth : Method} {c : Code} {T : State} {locs : List Loc} {cells slots : Nat} {Qf : Option Value → Heap → List Loc → Prop} {ce sl : Nat} {W0 W1 : State}
theorem own_go (h : ∀ t, Steps p.tables e below W1 t → Steps p.tables e below W0 t) (k : own_Ends p e below s Qf ce sl W1) : own_Ends p e below s Qf ce sl W0 := by
  obtain ⟨U, o, h1, h2⟩ := k
  exact ⟨U, o, h _ h1, h2⟩
theorem own_tr (h : Steps p.tables e below W0 W1) (k : own_Ends p e below s Qf ce sl W1) : own_Ends p e below s Qf ce sl W0 := own_go (fun t k => h.trans k) k
theorem own_st {t : State} (h : ∀ t, Steps p.tables e below W1 t → Steps p.tables e below W0 t) (k : Steps p.tables e below W1 t) : Steps p.tables e below W0 t := h t k
theorem own_done (X : Stand p l e R s m args below meth c T locs cells slots) {v : Option Value} (hv : meth.sig.returnType = none → v = none) (hlk : meth.locks = false) (hc : cells ≤ ce) (hs : slots ≤ sl) (hQ : Qf v T.heap locs)
    (h : ∀ fs, (∀ (f : JFrame) (acts : List Action), f.method = m → f.locked = none → f.entered = [] → (doReturn e (T.setTop f) acts v).1 = T.setFrames fs) → Steps p.tables e below W0 (T.setFrames fs)) : own_Ends p e below s Qf ce sl W0 := by
  obtain ⟨fs, hr, hrun, hended, hW, hsame⟩ := X.leave (v := v) hv hlk
  exact ⟨_, _, h fs hr, hrun, hended, _, _, rfl, hQ, ⟨_, rfl⟩, hW, hsame.mono hc hs⟩
theorem own_some {t : FieldType} {v : Option Value} (hret : meth.sig.returnType = some t) : meth.sig.returnType = none → v = none := fun h => by rw [hret] at h; cases h
theorem own_retI (X : Stand p l e R s m args below meth c T locs cells slots) (hx : p.tables.exec = Jvm.exec) {pc : Nat} {Ls : Array Slot} {z : Int32} {rest : List Value} (hret : meth.sig.returnType = some .int) (hd : decode c.code pc = .ok (.ireturn, 1)) (hlk : meth.locks = false) (hc : cells ≤ ce) (hs : slots ≤ sl) (hQ : Qf (some (.int z)) T.heap locs) :
    own_Ends p e below s Qf ce sl (T.setTop (mkF m pc Ls (.int z :: rest))) :=
  own_done X (own_some hret) hlk hc hs hQ fun fs hr => retOut X hx hret rfl (Or.inl ⟨rfl, Or.inl rfl, _, rfl⟩) hd hr
theorem own_retN (X : Stand p l e R s m args below meth c T locs cells slots) (hx : p.tables.exec = Jvm.exec) {pc : Nat} {Ls : Array Slot} {z : Int32} {t : FieldType} {rest : List Value} (hret : meth.sig.returnType = some t) (ht : t = .boolean ∨ t = .byte ∨ t = .char ∨ t = .short) (hd : decode c.code pc = .ok (.ireturn, 1)) (hlk : meth.locks = false) (hc : cells ≤ ce) (hs : slots ≤ sl) (hQ : Qf (some (.int (nar t z))) T.heap locs) :
    own_Ends p e below s Qf ce sl (T.setTop (mkF m pc Ls (.int z :: rest))) :=
  own_done X (own_some hret) hlk hc hs hQ fun fs hr => retN X hx hret ht hd hr
theorem own_retJ (X : Stand p l e R s m args below meth c T locs cells slots) (hx : p.tables.exec = Jvm.exec) {pc : Nat} {Ls : Array Slot} {z : Int64} {rest : List Value} (hret : meth.sig.returnType = some .long) (hd : decode c.code pc = .ok (.lreturn, 1)) (hlk : meth.locks = false) (hc : cells ≤ ce) (hs : slots ≤ sl) (hQ : Qf (some (.long z)) T.heap locs) :
    own_Ends p e below s Qf ce sl (T.setTop (mkF m pc Ls (.long z :: rest))) :=
  own_done X (own_some hret) hlk hc hs hQ fun fs hr => retOut X hx hret rfl (Or.inr (Or.inl ⟨rfl, rfl, _, rfl⟩)) hd hr
theorem own_retD (X : Stand p l e R s m args below meth c T locs cells slots) (hx : p.tables.exec = Jvm.exec) {pc : Nat} {Ls : Array Slot} {z : UInt64} {rest : List Value} (hret : meth.sig.returnType = some .double) (hd : decode c.code pc = .ok (.dreturn, 1)) (hlk : meth.locks = false) (hc : cells ≤ ce) (hs : slots ≤ sl) (hQ : Qf (some (.double z)) T.heap locs) :
    own_Ends p e below s Qf ce sl (T.setTop (mkF m pc Ls (.double z :: rest))) :=
  own_done X (own_some hret) hlk hc hs hQ fun fs hr => retOut X hx hret rfl (Or.inr (Or.inr (Or.inl ⟨rfl, rfl, _, rfl⟩))) hd hr
theorem own_retR (X : Stand p l e R s m args below meth c T locs cells slots) (hx : p.tables.exec = Jvm.exec) {pc : Nat} {Ls : Array Slot} {w : Value} {t : FieldType} {rest : List Value} (hret : meth.sig.returnType = some t) (ht : t.isReference = true) (hw : w.isRef = true) (hd : decode c.code pc = .ok (.areturn, 1)) (hlk : meth.locks = false) (hc : cells ≤ ce) (hs : slots ≤ sl) (hQ : Qf (some w) T.heap locs) :
    own_Ends p e below s Qf ce sl (T.setTop (mkF m pc Ls (w :: rest))) :=
  own_done X (own_some hret) hlk hc hs hQ fun fs hr => retOut X hx hret (by cases t <;> first | rfl | (simp [FieldType.isReference] at ht)) (Or.inr (Or.inr (Or.inr (Or.inr ⟨rfl, ht, hw⟩)))) hd hr
theorem own_retV (X : Stand p l e R s m args below meth c T locs cells slots) (hx : p.tables.exec = Jvm.exec) {pc : Nat} {Ls : Array Slot} (hret : meth.sig.returnType = none) (hd : decode c.code pc = .ok (.return_, 1)) (hlk : meth.locks = false) (hc : cells ≤ ce) (hs : slots ≤ sl) (hQ : Qf none T.heap locs) :
    own_Ends p e below s Qf ce sl (T.setTop (mkF m pc Ls [])) :=
  own_done X (fun _ => rfl) hlk hc hs hQ fun fs hr => X.returnOut hx hret hd hr
def own_b2i (P : Prop) [Decidable P] : Int32 := if P then 1 else 0
theorem own_b1 {P : Prop} [Decidable P] (h : P) : own_b2i P = 1 := if_pos h
theorem own_b0 {P : Prop} [Decidable P] (h : ¬ P) : own_b2i P = 0 := if_neg h
end Own
def own_Qd (z : UInt64) (h0 : Heap) (n0 : Nat) (v : Option Value) (h : Heap) (L : List Loc) : Prop := v = some (.double z) ∧ Fr n0 L ∧ h = h0
def own_Q0 (n0 : Nat) (v : Option Value) (h : Heap) (L : List Loc) : Prop := v = some (.int 1) ∧ Fr n0 L
theorem own_s20 (s : Int32) : 0 ≤ (s &&& (1048575 : Int32)).toInt ∧ (s &&& (1048575 : Int32)).toInt < 1048576 := by
  have h := c_mask s 1048575 20 (by decide) (by decide)
  omega
section Fl
open Jvm.FP.Core
/-- a whole number's datum, its exponent moved up by 1100 -/
theorem own_up {i : Int} {s : Bool} {c : Nat} {q : Int} (h : Whole i (.fin s c q)) (hq : -1100 ≤ q) : c * 2 ^ (q + 1100).toNat = i.natAbs * 2 ^ 1100 := by
  have hn := whole_natAbs h
  by_cases h0 : 0 ≤ q
  · rw [show (-q).toNat = 0 by omega] at hn
    rw [show (q + 1100).toNat = q.toNat + 1100 by omega, Nat.pow_add, ← Nat.mul_assoc, hn]; simp
  · rw [show q.toNat = 0 by omega] at hn
    have e : (1100 : Nat) = (-q).toNat + (q + 1100).toNat := by omega
    conv => rhs; rw [e, Nat.pow_add, ← Nat.mul_assoc]
    rw [← hn]; simp
/-- a number of 20 binary places of at most 53 digits is a double -/
theorem own_fit {N : Nat} (hN : 0 < N) (hN2 : N ≤ 2 ^ 53) : ∃ c q, Jvm.FP.Core.fits b64 (.fin false c q) ∧ -1100 ≤ q ∧ c * 2 ^ (q + 1100).toNat = N * 2 ^ 1080 ∧ zmag b64 (.fin false c q) = N * 2 ^ 1054 := by
  obtain ⟨c, q, ⟨f1, f2, f3, f4⟩, hv⟩ := natFit good_b64 wide_b64 false hN2
  have hw : Whole (N : Int) (.fin false c q) := by
    show signed false (c * 2 ^ q.toNat) = (N : Int) * ((2 ^ (-q).toNat : Nat) : Int)
    simp only [signed, Bool.false_eq_true, if_false]
    rw [show (0 - q) = -q by omega, show (q - 0) = q by omega, Nat.mul_one] at hv
    rw [← hv]; simp
  have e1 : b64.qmin = -1074 := by decide
  have e2 : b64.qmax = 971 := by decide
  have hq : -53 ≤ q := by
    rcases f4 with f4 | f4
    · exfalso
      rw [f4, e1] at hv
      have : c < 2 ^ 53 := f1
      rw [show (0 - (-1074 : Int)).toNat = 1074 by decide, show ((-1074 : Int) - 0).toNat = 0 by decide] at hv
      have h3 : 2 ^ 1074 ≤ N * 2 ^ 1074 := Nat.le_mul_of_pos_left _ hN
      have h4 : (2 : Nat) ^ 53 ≤ 2 ^ 1074 := Nat.pow_le_pow_right (by decide) (by decide)
      simp only [Nat.mul_one, Nat.pow_zero] at hv
      omega
    · refine Int.not_lt.mp fun hlt => ?_
      rw [show (q - 0).toNat = 0 by omega, Nat.pow_zero, Nat.mul_one, Nat.mul_one] at hv
      have h3 : 2 ^ 54 ≤ N * 2 ^ (0 - q).toNat := Nat.le_trans (Nat.pow_le_pow_right (by decide) (by omega)) (Nat.le_mul_of_pos_left _ hN)
      have : c < 2 ^ 53 := f1
      have h5 : (2 : Nat) ^ 53 < 2 ^ 54 := by decide
      omega
  have hup := own_up hw (by omega)
  rw [Int.natAbs_natCast] at hup
  have hd : c * 2 ^ (q - 20 + 1100).toNat = N * 2 ^ 1080 := by
    have e : c * 2 ^ (q + 1100).toNat = c * 2 ^ (q - 20 + 1100).toNat * 2 ^ 20 := by rw [Nat.mul_assoc, ← Nat.pow_add]; congr 2; omega
    have e' : N * 2 ^ 1100 = N * 2 ^ 1080 * 2 ^ 20 := by rw [Nat.mul_assoc, ← Nat.pow_add]
    rw [e, e'] at hup
    exact Nat.eq_of_mul_eq_mul_right (by decide) hup
  refine ⟨c, q - 20, ⟨f1, by rw [e1]; omega, by omega, ?_⟩, by omega, hd, ?_⟩
  · rcases f4 with f4 | f4
    · exfalso; rw [e1] at f4; omega
    · exact Or.inr f4
  · show c * 2 ^ (q - 20 - b64.qmin).toNat = N * 2 ^ 1054
    have e : c * 2 ^ (q - 20 + 1100).toNat = c * 2 ^ (q - 20 - b64.qmin).toNat * 2 ^ 26 := by rw [e1, Nat.mul_assoc, ← Nat.pow_add]; congr 2; omega
    have e' : N * 2 ^ 1080 = N * 2 ^ 1054 * 2 ^ 26 := by rw [Nat.mul_assoc, ← Nat.pow_add]
    rw [e, e'] at hd
    exact Nat.eq_of_mul_eq_mul_right (by decide) hd
set_option maxRecDepth 65536 in
/-- the quotient of two whole numbers: its sign; its magnitude between two numbers of 20 binary places -/
theorem own_quot {F S : Int64} (hF : Small53 F) (hS : Small53 S) (h1 : 1 ≤ S.toInt) :
    val64 (ddiv (l2d F) (l2d S)) ≠ .nan ∧ sgn (val64 (ddiv (l2d F) (l2d S))) = decide (F.toInt < 0) ∧
    (∀ N : Nat, 0 < N → N ≤ 2 ^ 53 → N * S.toInt.natAbs ≤ F.toInt.natAbs * 2 ^ 20 → N * 2 ^ 1054 ≤ zmag b64 (val64 (ddiv (l2d F) (l2d S)))) ∧
    (∀ N : Nat, 0 < N → N ≤ 2 ^ 53 → F.toInt.natAbs * 2 ^ 20 ≤ N * S.toInt.natAbs → zmag b64 (val64 (ddiv (l2d F) (l2d S))) ≤ N * 2 ^ 1054) ∧
    (F.toInt = 0 → zmag b64 (val64 (ddiv (l2d F) (l2d S))) = 0) := by
  have wF := l2d_whole hF
  have wS := l2d_whole hS
  have fF := val64_fits (l2d F)
  have fS := val64_fits (l2d S)
  obtain ⟨c, q, hx⟩ := l2d_shape F
  obtain ⟨d, r, hy⟩ := l2d_shape S
  rw [hx] at wF fF
  rw [hy] at wS fS
  have hsS : decide (S.toInt < 0) = false := by simp; omega
  rw [hsS] at hy wS fS
  have hd0 : d ≠ 0 := fun z => by have := (whole_zero wS).mp z; omega
  have e1 : b64.qmin = -1074 := by decide
  have e2 : b64.qmax = 971 := by decide
  have q1 := fF.2.1
  have q2 := fF.2.2.1
  have r1 := fS.2.1
  have r2 := fS.2.2.1
  rw [e1] at q1 r1
  rw [e2] at q2 r2
  have hv : val64 (ddiv (l2d F) (l2d S)) = roundRatio b64 (decide (F.toInt < 0)) c d (q - r) := by
    rw [val64_ddiv, hx, hy]
    show (if d = 0 then _ else roundRatio b64 (decide (F.toInt < 0) != false) c d (q - r)) = _
    rw [if_neg hd0]; simp
  have uF := own_up wF (by omega)
  have uS := own_up wS (by omega)
  have hdp : 0 < d := Nat.pos_of_ne_zero hd0
  have key : ∀ (N c' : Nat) (q' : Int), -1100 ≤ q' → c' * 2 ^ (q' + 1100).toNat = N * 2 ^ 1080 → zmag b64 (.fin false c' q') = N * 2 ^ 1054 →
      zmag b64 (.fin false c' q') * 2 ^ (b64.qmin - (-4000)).toNat * d * 2 ^ (r + 1100).toNat = N * S.toInt.natAbs * 2 ^ 5080 ∧ inUnits c (q - r) (-4000) * 2 ^ (r + 1100).toNat = F.toInt.natAbs * 2 ^ 20 * 2 ^ 5080 := by
    intro N c' q' _ _ hz
    refine ⟨?_, ?_⟩
    · rw [hz, Nat.mul_assoc _ d, uS, e1, show ((-1074 : Int) - (-4000)).toNat = 2926 by decide]
      rw [show N * 2 ^ 1054 * 2 ^ 2926 * (S.toInt.natAbs * 2 ^ 1100) = N * S.toInt.natAbs * (2 ^ 1054 * 2 ^ 2926 * 2 ^ 1100) by ac_rfl, ← Nat.pow_add, ← Nat.pow_add]
    · show c * 2 ^ (q - r - (-4000)).toNat * 2 ^ (r + 1100).toNat = _
      rw [Nat.mul_assoc, ← Nat.pow_add, show (q - r - (-4000)).toNat + (r + 1100).toNat = (q + 1100).toNat + 4000 by omega, Nat.pow_add, ← Nat.mul_assoc, uF, Nat.mul_assoc, Nat.mul_assoc, ← Nat.pow_add, ← Nat.pow_add]
  refine ⟨by rw [hv]; exact roundRatio_ne_nan _ _ _ _ _, by rw [hv]; exact sgn_roundRatio _ _ _ _ _, fun N hN hN2 hle => ?_, fun N hN hN2 hle => ?_, fun hz => ?_⟩
  · obtain ⟨c', q', f', g', k1, k2⟩ := own_fit hN hN2
    obtain ⟨a1, a2⟩ := key N c' q' g' k1 k2
    rw [hv, ← k2]
    refine zmag_roundRatio_ge good_b64 hdp f' (e0 := -4000) (by rw [e1]; decide) (by omega) ?_
    refine Nat.le_of_mul_le_mul_right (c := 2 ^ (r + 1100).toNat) ?_ (Nat.two_pow_pos _)
    rw [a1, a2]
    exact Nat.mul_le_mul_right _ hle
  · obtain ⟨c', q', f', g', k1, k2⟩ := own_fit hN hN2
    obtain ⟨a1, a2⟩ := key N c' q' g' k1 k2
    rw [hv, ← k2]
    refine zmag_roundRatio_le good_b64 hdp f' (by simp) (e0 := -4000) (by rw [e1]; decide) (by omega) ?_
    refine Nat.le_of_mul_le_mul_right (c := 2 ^ (r + 1100).toNat) ?_ (Nat.two_pow_pos _)
    rw [a1, a2]
    exact Nat.mul_le_mul_right _ hle
  · have hc0 : c = 0 := (whole_zero wF).mpr hz
    rw [hv, hc0]
    show zmag b64 (if (0 : Nat) = 0 then _ else _) = 0
    rw [if_pos rfl]
    show 0 * _ = 0
    simp
end Fl
/-! the law's own numbers: q, s1, r1 -/
section Nums
open Jvm.FP.Core
theorem own_one {s : Int32} (h : 0 < s) : 1 ≤ s.toInt := by
  rw [Int32.lt_iff_toInt_lt] at h
  have e : (0 : Int32).toInt = 0 := rfl
  omega
theorem own_nz {s : Int32} (h : 0 < s) : s ≠ 0 := fun z => by rw [z] at h; exact absurd h (by decide)
theorem own_rem (rr : Int32) {s : Int32} (h : 1 ≤ s.toInt) : 0 ≤ ((rr &&& (2147483647 : Int32)) % s).toInt ∧ ((rr &&& (2147483647 : Int32)) % s).toInt < s.toInt := by
  have m := c_mask rr 2147483647 31 (by decide) (by decide)
  have v := (c_iremV (rr &&& 2147483647) s).1 (by omega) (by omega)
  omega
theorem own_small {x : Int32} : Small53 x.toInt64 := by
  have r := rng32 x
  refine ⟨?_, ?_⟩ <;> rw [c_i2l] <;> omega
theorem own_flow {q s r : Int32} (hs : 0 ≤ s.toInt ∧ s.toInt < 1048576) (hr : 0 ≤ r.toInt ∧ r.toInt < s.toInt) : (q.toInt64 * s.toInt64 + r.toInt64).toInt = q.toInt * s.toInt + r.toInt ∧ Small53 (q.toInt64 * s.toInt64 + r.toInt64) := by
  have rq := rng32 q
  have m := c_lmul q.toInt64 s.toInt64
  have a := c_ladd (q.toInt64 * s.toInt64) r.toInt64
  have g1 := rng64 (q.toInt64 * s.toInt64)
  have g2 := rng64 (q.toInt64 * s.toInt64 + r.toInt64)
  rw [c_i2l, c_i2l] at m
  rw [c_i2l] at a
  have b1 : q.toInt * s.toInt ≤ 2147483648 * 1048576 := by
    by_cases h : 0 ≤ q.toInt
    · exact Int.mul_le_mul (by omega) (by omega) (by omega) (by omega)
    · have := Int.mul_nonneg (a := -q.toInt) (b := s.toInt) (by omega) (by omega)
      have e : -q.toInt * s.toInt = -(q.toInt * s.toInt) := Int.neg_mul _ _
      omega
  have b2 : -(2147483648 * 1048576) ≤ q.toInt * s.toInt := by
    by_cases h : 0 ≤ q.toInt
    · have := Int.mul_nonneg (a := q.toInt) (b := s.toInt) (by omega) (by omega)
      omega
    · have := Int.mul_le_mul (a := -q.toInt) (b := s.toInt) (c := 2147483648) (d := 1048576) (by omega) (by omega) (by omega) (by omega)
      have e : -q.toInt * s.toInt = -(q.toInt * s.toInt) := Int.neg_mul _ _
      omega
  generalize q.toInt * s.toInt = X at *
  have e : (q.toInt64 * s.toInt64 + r.toInt64).toInt = X + r.toInt := by omega
  exact ⟨e, by rw [Small53, e]; omega⟩
theorem own_n1 {Q s r : Nat} (hs : s < 1048576) (h : 1 ≤ r) : (Q * 1048576 + 1) * s ≤ (Q * s + r) * 2 ^ 20 := by
  rw [Nat.add_mul, Nat.mul_right_comm, show (2 : Nat) ^ 20 = 1048576 from rfl]
  generalize Q * s = X
  omega
theorem own_n2 {Q s r : Nat} (hs : s < 1048576) (h : r < s) : (Q * s + r) * 2 ^ 20 ≤ (Q * 1048576 + 1048575) * s := by
  have e : (Q * 1048576 + 1048575) * s = Q * s * 1048576 + 1048575 * s := by rw [Nat.add_mul, Nat.mul_right_comm]
  rw [e, show (2 : Nat) ^ 20 = 1048576 from rfl]
  generalize Q * s = X
  omega
theorem own_n3 {Q s : Nat} : Q * 1048576 * s = (Q * s) * 2 ^ 20 := by
  rw [Nat.mul_right_comm, show (2 : Nat) ^ 20 = 1048576 from rfl]
theorem own_n4 {Q s r : Nat} (hs : s < 1048576) (h : r < s) : (Q * 1048576 + 1) * s ≤ (Q * s + s - r) * 2 ^ 20 := by
  rw [Nat.add_mul, Nat.mul_right_comm, show (2 : Nat) ^ 20 = 1048576 from rfl]
  generalize Q * s = X
  omega
theorem own_n5 {Q s r : Nat} (hs : s < 1048576) (h1 : 1 ≤ r) (h : r < s) : (Q * s + s - r) * 2 ^ 20 ≤ (Q * 1048576 + 1048575) * s := by
  have e : (Q * 1048576 + 1048575) * s = Q * s * 1048576 + 1048575 * s := by rw [Nat.add_mul, Nat.mul_right_comm]
  rw [e, show (2 : Nat) ^ 20 = 1048576 from rfl]
  generalize Q * s = X
  omega
/-- in units: between Q and Q + 1 -/
theorem own_un {Q M P : Nat} (hP : 0 < P) (l1 : (Q * 1048576 + 1) * P ≤ M) (l2 : M ≤ (Q * 1048576 + 1048575) * P) : Q * (1048576 * P) < M ∧ M < (Q + 1) * (1048576 * P) := by
  rw [Nat.add_mul, Nat.mul_assoc] at l1 l2
  rw [Nat.add_mul]
  generalize Q * (1048576 * P) = Y at *
  omega
theorem own_mid {q s r : Int32} (hs : 0 ≤ s.toInt ∧ s.toInt < 1048576) (h1 : 1 ≤ s.toInt) (hr : 0 ≤ r.toInt ∧ r.toInt < s.toInt) :
    val64 (ddiv (l2d (q.toInt64 * s.toInt64 + r.toInt64)) (l2d s.toInt64)) ≠ .nan ∧
    (r.toInt = 0 → zval b64 (val64 (ddiv (l2d (q.toInt64 * s.toInt64 + r.toInt64)) (l2d s.toInt64))) = q.toInt * (one64 : Int)) ∧
    (r.toInt ≠ 0 → q.toInt * (one64 : Int) < zval b64 (val64 (ddiv (l2d (q.toInt64 * s.toInt64 + r.toInt64)) (l2d s.toInt64))) ∧ zval b64 (val64 (ddiv (l2d (q.toInt64 * s.toInt64 + r.toInt64)) (l2d s.toInt64))) < (q.toInt + 1) * (one64 : Int)) := by
  obtain ⟨eF, hF⟩ := own_flow (q := q) hs hr
  have eS : s.toInt64.toInt = s.toInt := c_i2l s
  have hS : Small53 s.toInt64 := own_small
  obtain ⟨n1, n2, lo, up, z0⟩ := own_quot hF hS (by rw [eS]; exact h1)
  have rq := rng32 q
  have eo : one64 = 1048576 * 2 ^ 1054 := by
    have e0 : one64 = 2 ^ (20 + 1054) := rfl
    rw [e0, Nat.pow_add]
  have hp : 0 < 2 ^ 1054 := Nat.two_pow_pos _
  rw [eF] at n2 lo up z0
  rw [eS] at lo up
  generalize val64 (ddiv (l2d (q.toInt64 * s.toInt64 + r.toInt64)) (l2d s.toInt64)) = D at *
  refine ⟨n1, ?_⟩
  unfold zval
  rw [n2, eo]
  generalize zmag b64 D = M at *
  generalize (2 : Nat) ^ 1054 = P at *
  clear n1 n2 eF eS hF hS eo
  generalize q.toInt = qi at *
  obtain ⟨s', es⟩ : ∃ s' : Nat, s.toInt = (s' : Int) := ⟨s.toInt.toNat, by omega⟩
  obtain ⟨r', er⟩ : ∃ r' : Nat, r.toInt = (r' : Int) := ⟨r.toInt.toNat, by omega⟩
  rw [es] at lo up z0 hs h1 hr ⊢
  rw [er] at lo up z0 hr ⊢
  have e3 : ((s' : Int)).natAbs = s' := by omega
  rw [e3] at lo up
  have h2 : s' < 1048576 := by omega
  have h3 : r' < s' := by omega
  by_cases hq : 0 ≤ qi
  · obtain ⟨Q, rfl⟩ : ∃ Q : Nat, qi = (Q : Int) := ⟨qi.toNat, by omega⟩
    have ef : (Q : Int) * (s' : Int) + (r' : Int) = ((Q * s' + r' : Nat) : Int) := by rw [Int.natCast_add, Int.natCast_mul]
    rw [ef] at lo up z0 ⊢
    have e4 : (((Q * s' + r' : Nat) : Int)).natAbs = Q * s' + r' := Int.natAbs_natCast _
    rw [e4] at lo up
    have e5 : decide (((Q * s' + r' : Nat) : Int) < 0) = false := decide_eq_false (by omega)
    rw [e5]
    show (_ → (M : Int) = _) ∧ (_ → _ < (M : Int) ∧ (M : Int) < _)
    have e6 : (Q : Int) * ((1048576 * P : Nat) : Int) = ((Q * (1048576 * P) : Nat) : Int) := (Int.natCast_mul _ _).symm
    have e7 : ((Q : Int) + 1) * ((1048576 * P : Nat) : Int) = (((Q + 1) * (1048576 * P) : Nat) : Int) := by rw [Int.natCast_mul]; rfl
    rw [e6, e7]
    have hQ : Q ≤ 2147483648 := by omega
    refine ⟨fun r0 => ?_, fun r0 => ?_⟩
    · have r00 : r' = 0 := by omega
      subst r00
      by_cases q0 : Q = 0
      · subst q0
        rw [z0 (by simp)]; simp
      · have l1 := lo (Q * 1048576) (by omega) (by omega) (by rw [own_n3]; exact Nat.le_refl _)
        have l2 := up (Q * 1048576) (by omega) (by omega) (by rw [own_n3]; exact Nat.le_refl _)
        rw [Nat.le_antisymm l2 l1, Nat.mul_assoc]
    · obtain ⟨u1, u2⟩ := own_un hp (lo (Q * 1048576 + 1) (by omega) (by omega) (own_n1 h2 (by omega))) (up (Q * 1048576 + 1048575) (by omega) (by omega) (own_n2 h2 h3))
      exact ⟨Int.ofNat_lt.mpr u1, Int.ofNat_lt.mpr u2⟩
  · obtain ⟨Q, rfl⟩ : ∃ Q : Nat, qi = -((Q : Int) + 1) := ⟨(-qi - 1).toNat, by omega⟩
    have hm : -((Q : Int) + 1) * (s' : Int) = -(((Q * s' : Nat) : Int) + (s' : Int)) := by rw [Int.neg_mul, Int.add_mul, Int.one_mul, Int.natCast_mul]
    have e4 : (-((Q : Int) + 1) * (s' : Int) + (r' : Int)).natAbs = Q * s' + s' - r' := by rw [hm]; generalize Q * s' = X; omega
    rw [e4] at lo up
    have e5 : decide (-((Q : Int) + 1) * (s' : Int) + (r' : Int) < 0) = true := decide_eq_true (by rw [hm]; generalize Q * s' = X; omega)
    rw [e5]
    show (_ → -(M : Int) = _) ∧ (_ → _ < -(M : Int) ∧ -(M : Int) < _)
    have e7 : ((Q : Int) + 1) * ((1048576 * P : Nat) : Int) = (((Q + 1) * (1048576 * P) : Nat) : Int) := by rw [Int.natCast_mul]; rfl
    have e6 : (-((Q : Int) + 1) + 1) * ((1048576 * P : Nat) : Int) = -((Q * (1048576 * P) : Nat) : Int) := by rw [show -((Q : Int) + 1) + 1 = -(Q : Int) by omega, Int.neg_mul, Int.natCast_mul Q]
    rw [e6, Int.neg_mul, e7]
    have hQ : Q ≤ 2147483648 := by omega
    refine ⟨fun r0 => ?_, fun r0 => ?_⟩
    · have r00 : r' = 0 := by omega
      subst r00
      have e8 : (Q + 1) * 1048576 * s' = (Q * s' + s' - 0) * 2 ^ 20 := by rw [own_n3, Nat.sub_zero, Nat.add_mul, Nat.one_mul]
      have l1 := lo ((Q + 1) * 1048576) (by omega) (by omega) (by rw [e8]; exact Nat.le_refl _)
      have l2 := up ((Q + 1) * 1048576) (by omega) (by omega) (by rw [e8]; exact Nat.le_refl _)
      rw [Nat.le_antisymm l2 l1, Nat.mul_assoc]
    · obtain ⟨u1, u2⟩ := own_un hp (lo (Q * 1048576 + 1) (by omega) (by omega) (own_n4 h2 h3)) (up (Q * 1048576 + 1048575) (by omega) (by omega) (own_n5 h2 (by omega) h3))
      exact ⟨Int.neg_lt_neg (Int.ofNat_lt.mpr u2), Int.neg_lt_neg (Int.ofNat_lt.mpr u1)⟩
end Nums
section Cmps
open Jvm.FP.Core
theorem own_cmp (a b : Int) (o : CmpOp) : cmpValue (some (compare a b)) o = if a < b then -1 else if a = b then 0 else 1 := by
  have e : compare a b = if a < b then .lt else if a = b then .eq else .gt := rfl
  rw [e]
  by_cases h : a < b
  · simp only [h, if_true]; cases o <;> rfl
  · simp only [h, if_false]
    by_cases h2 : a = b
    · simp only [h2, if_true]; cases o <;> rfl
    · simp only [h2, if_false]; cases o <;> rfl
theorem own_dc {x y : UInt64} (hx : val64 x ≠ .nan) (hy : val64 y ≠ .nan) (o : CmpOp) : cmpValue (FP.dcmp x y) o = if zval b64 (val64 x) < zval b64 (val64 y) then -1 else if zval b64 (val64 x) = zval b64 (val64 y) then 0 else 1 := by
  rw [← own_cmp, ← dcmp_zval hx hy]
theorem own_iz (x : Int32) : val64 (FP.i2d x) ≠ .nan ∧ zval b64 (val64 (FP.i2d x)) = x.toInt * (one64 : Int) := by
  have h := l2d_whole (own_small (x := x))
  rw [c_i2l] at h
  have e : FP.i2d x = l2d x.toInt64 := i2d_w x
  rw [e]
  exact ⟨h.ne_nan, DInt_zval h⟩
theorem own_z0 : val64 FP.dconst0 ≠ .nan ∧ zval b64 (val64 FP.dconst0) = 0 := by
  have e : val64 FP.dconst0 = .fin false 0 b64.qmin := val64_dconst0
  rw [e]
  exact ⟨by simp, by decide +kernel⟩
theorem own_vneg (x : UInt64) : val64 (FP.dneg x) = negate (val64 x) := by
  refine val64_neg_bits ?_
  have z : (0x8000000000000000 : UInt64).toNat = 2 ^ 63 := by decide
  have e : (FP.dneg x).toNat = x.toNat ^^^ 2 ^ 63 := by
    show (x ^^^ 0x8000000000000000).toNat = _
    rw [UInt64.toNat_xor, z]
  have m := Nat.xor_mod_two_pow (a := x.toNat) (b := 2 ^ 63) (n := 63)
  have d := Nat.xor_div_two_pow (a := x.toNat) (b := 2 ^ 63) (n := 63)
  have hx := x.toNat_lt
  rw [Nat.mod_self, Nat.xor_zero, ← e] at m
  rw [Nat.div_self (by decide), ← e] at d
  have hd : x.toNat / 2 ^ 63 = 0 ∨ x.toNat / 2 ^ 63 = 1 := by omega
  rcases hd with h | h
  · rw [h, show (0 : Nat) ^^^ 1 = 1 from rfl] at d; omega
  · rw [h, show (1 : Nat) ^^^ 1 = 0 from rfl] at d; omega
theorem own_negz {s : Int32} (hs : 0 ≤ s.toInt ∧ s.toInt < 1048576) : ¬ 0 < cmpValue (FP.dcmp (FP.dneg (FP.i2d s)) FP.dconst0) .l := by
  obtain ⟨a1, a2⟩ := own_iz s
  obtain ⟨b1, b2⟩ := own_z0
  have e : val64 (FP.dneg (FP.i2d s)) = negate (val64 (FP.i2d s)) := own_vneg _
  rw [own_dc (by rw [e]; exact negate_ne_nan a1) b1, e, zval_negate, a2, b2]
  have := Int.mul_nonneg (a := s.toInt) (b := (one64 : Int)) hs.1 (by omega)
  generalize s.toInt * (one64 : Int) = Y at *
  by_cases h : -Y < 0
  · rw [if_pos h]; decide
  · rw [if_neg h, if_pos (by omega)]; decide
theorem own_zero {s : Int32} (hs : 0 ≤ s.toInt ∧ s.toInt < 1048576) (h : ¬ 0 < s) : ¬ 0 < cmpValue (FP.dcmp (FP.i2d s) FP.dconst0) .l := by
  have e : s = 0 := by
    rw [Int32.lt_iff_toInt_lt] at h
    have e0 : (0 : Int32).toInt = 0 := rfl
    rw [← Int32.toInt_inj]; omega
  rw [e]; decide +kernel
theorem own_gt {s : Int32} (hs : 0 ≤ s.toInt ∧ s.toInt < 1048576) (h : 1 ≤ s.toInt) : 0 < cmpValue (FP.dcmp (FP.i2d s) FP.dconst0) .l := by
  obtain ⟨a1, a2⟩ := own_iz s
  obtain ⟨b1, b2⟩ := own_z0
  rw [own_dc a1 b1, a2, b2]
  have hp : 0 < one64 := one64_pos
  have := Int.mul_pos (a := s.toInt) (b := (one64 : Int)) (by omega) (by omega)
  rw [if_neg (by omega), if_neg (by omega)]; decide
theorem own_nn {s : Int32} {f : Int64} (h : 1 ≤ s.toInt) : Jvm.Free.Fl.NoNaN64 (FP.ddiv (FP.l2d f) (FP.i2d s)) := by
  rw [i2d_w]
  refine Jvm.Free.Fl.ddiv_out (nn_w rfl) (Jvm.Free.Fl.l2d_fin _) (Jvm.Free.Fl.l2d_nz fun z => ?_)
  have := congrArg Int64.toInt z
  rw [c_i2l] at this
  have e : (0 : Int64).toInt = 0 := rfl
  omega
theorem own_eq0 {q s r : Int32} (hs : 0 ≤ s.toInt ∧ s.toInt < 1048576) (h1 : 1 ≤ s.toInt) (hr : 0 ≤ r.toInt ∧ r.toInt < s.toInt) (h0 : r.toInt64 = 0) : cmpValue (FP.dcmp (FP.ddiv (FP.l2d (q.toInt64 * s.toInt64 + r.toInt64)) (FP.i2d s)) (FP.i2d q)) .l = 0 := by
  obtain ⟨n1, n2, -⟩ := own_mid (q := q) hs h1 hr
  obtain ⟨a1, a2⟩ := own_iz q
  have er : r.toInt = 0 := by rw [← c_i2l, h0]; rfl
  rw [i2d_w s] at *
  rw [own_dc n1 a1, n2 er, a2, if_neg (by omega), if_pos rfl]
theorem own_lt1 {q s r : Int32} (hs : 0 ≤ s.toInt ∧ s.toInt < 1048576) (h1 : 1 ≤ s.toInt) (hr : 0 ≤ r.toInt ∧ r.toInt < s.toInt) (h0 : ¬ r.toInt64 = 0) : cmpValue (FP.dcmp (FP.i2d q) (FP.ddiv (FP.l2d (q.toInt64 * s.toInt64 + r.toInt64)) (FP.i2d s))) .g < 0 := by
  obtain ⟨n1, -, n2⟩ := own_mid (q := q) hs h1 hr
  obtain ⟨a1, a2⟩ := own_iz q
  have er : r.toInt ≠ 0 := fun z => h0 (by rw [← Int64.toInt_inj, c_i2l, z]; rfl)
  rw [i2d_w s]
  rw [own_dc a1 n1, a2, if_pos (n2 er).1]; decide
theorem own_add1 (q : Int32) : FP.dadd (FP.i2d q) FP.dconst1 = FP.l2d (q.toInt64 + 1) := by
  have e : FP.dconst1 = FP.l2d 1 := by decide +kernel
  have r := rng32 q
  rw [i2d_w, e]
  exact dadd_w (a := q.toInt64) (b := 1) ⟨by rw [c_i2l]; omega, by rw [c_i2l]; omega⟩ ⟨by decide, by decide⟩
theorem own_nadd (q : Int32) : Jvm.Free.Fl.NoNaN64 (FP.dadd (FP.i2d q) FP.dconst1) := nn_w (own_add1 q)
theorem own_lt2 {q s r : Int32} (hs : 0 ≤ s.toInt ∧ s.toInt < 1048576) (h1 : 1 ≤ s.toInt) (hr : 0 ≤ r.toInt ∧ r.toInt < s.toInt) (h0 : ¬ r.toInt64 = 0) : cmpValue (FP.dcmp (FP.ddiv (FP.l2d (q.toInt64 * s.toInt64 + r.toInt64)) (FP.i2d s)) (FP.dadd (FP.i2d q) FP.dconst1)) .g < 0 := by
  obtain ⟨n1, -, n2⟩ := own_mid (q := q) hs h1 hr
  have er : r.toInt ≠ 0 := fun z => h0 (by rw [← Int64.toInt_inj, c_i2l, z]; rfl)
  have rq := rng32 q
  have e1 : (q.toInt64 + 1).toInt = q.toInt + 1 := by
    have a := c_ladd q.toInt64 1
    have g := rng64 (q.toInt64 + 1)
    have e : (1 : Int64).toInt = 1 := rfl
    rw [c_i2l] at a
    omega
  have h := l2d_whole (a := q.toInt64 + 1) (by rw [Small53, e1]; omega)
  rw [e1] at h
  rw [own_add1, i2d_w s]
  rw [own_dc n1 h.ne_nan, DInt_zval h, if_pos (n2 er).2]; decide
end Cmps
theorem own_pn_com_example_bemesser_bemesser_analysis_CrossSectionValues : plainName "com/example/bemesser/bemesser/analysis/CrossSectionValues" = true := by first | (simp [plainName, overriddenIn]; done) | decide +kernel
theorem d1_0 : decode prog_4_method_16_code 0 = .ok (.dload_n 2, 1) := by decide +kernel
theorem d1_1 : decode prog_4_method_16_code 1 = .ok (.dconst 0, 1) := by decide +kernel
theorem d1_2 : decode prog_4_method_16_code 2 = .ok (.dcmp .l, 1) := by decide +kernel
theorem d1_3 : decode prog_4_method_16_code 3 = .ok (.ifCond .le 9, 3) := by decide +kernel
theorem d1_6 : decode prog_4_method_16_code 6 = .ok (.dload_n 0, 1) := by decide +kernel
theorem d1_7 : decode prog_4_method_16_code 7 = .ok (.dload_n 2, 1) := by decide +kernel
theorem d1_8 : decode prog_4_method_16_code 8 = .ok (.ddiv, 1) := by decide +kernel
theorem d1_9 : decode prog_4_method_16_code 9 = .ok (.goto 6, 3) := by decide +kernel
theorem d1_15 : decode prog_4_method_16_code 15 = .ok (.dreturn, 1) := by decide +kernel
theorem ef_rmP (m : MethodId) (x0 : UInt64) (x1 : UInt64)  : entryFrame m #[(.double x0), (.double x1)] 4 = mkF m 0 #[.val (.double x0), .second, .val (.double x1), .second] [] := by first | (simp [entryFrame, mkF, argsToLocals, Value.category]; done) | rfl
set_option maxRecDepth 65536 in
set_option maxHeartbeats 40000000 in
theorem rmP (l : Launch) (Z : State) (a0 : Array Value) (hw : ∀ d ∈ tables_1, d.before a0 Z = true) (ws : List Jvm.Cond) (x y : UInt64) (h0 : Heap) (n0 : Nat) (Z0 : n0 ≤ h0.size) (hp : 0 < cmpValue (FP.dcmp y FP.dconst0) .l) (hn : Jvm.Free.Fl.NoNaN64 (FP.ddiv x y)) :
    MetFree l (⟨"com/example/bemesser/bemesser/analysis/CrossSectionValues", "density", "(DD)D"⟩ : MethodName) (head1 (Jvm.Cond.code (⟨"com/example/bemesser/bemesser/analysis/CrossSectionValues", "density", "(DD)D"⟩ : MethodName) prog_4_method_16_code 4 (some .double) :: ws) ({ frames := 0, cells := 0, slots := 0, locals := 0 } : Room)) (fun a U => a = #[(.double x), (.double y)] ∧ Z.Warmed39 U.vm ∧ U.heap = h0) (fun _ _ _ _ _ => True) (fun _ U o U' => ∃ v L, o = .returned v ∧ own_Qd (FP.ddiv x y) h0 n0 v U'.heap L ∧ FrameEnd U o U' L ({ frames := 0, cells := 0, slots := 0, locals := 0 } : Room).cells ({ frames := 0, cells := 0, slots := 0, locals := 0 } : Room).slots) := by
  refine MetFree.of_bodySF (plainFor_of_name own_pn_com_example_bemesser_bemesser_analysis_CrossSectionValues) hisR ?_
  intro p e s m args below meth c s₁ Bd hml0 hP hK
  obtain ⟨rfl, hZ, hh⟩ := hP
  have hx := Bd.exec
  have hby := Bd.bytes
  have hlk := BodyLoose.notSynchronized Bd
  have hml : c.maxLocals = 4 := hml0
  have hown : s.vm.findClass "com/example/bemesser/bemesser/analysis/CrossSectionValues" = some m.cls := findClass_of_methodNamed Bd.named
  have hnm := (name_of_methodNamed Bd.named Bd.method).1
  have X0 : Stand p l e ({ frames := 0, cells := 0, slots := 0, locals := 0 } : Room) s m #[(.double x), (.double y)] below meth c s₁ [] 0 0 := Stand.of_body Bd
  have e0 : s₁.heap = h0 := by rw [← hh, Bd.state]; rfl
  have N0 := Fr.nil n0
  show own_Ends p e below s (own_Qd (FP.ddiv x y) h0 n0) 0 0 (s₁.setTop (entryFrame m #[(.double x), (.double y)] 4))
  refine own_go (W1 := s₁.setTop (mkF m 0 #[.val (.double x), .second, .val (.double y), .second] [])) (fun tq kq => castTop (ef_rmP m x y ) kq) ?_
  refine own_go (W1 := s₁.setTop (mkF m 1 #[.val (.double x), .second, .val (.double y), .second] [(.double y)])) (fun tq kq => XS.dloadN X0.here hx rfl (hb hby d1_0) rfl  kq) ?_
  refine own_go (W1 := s₁.setTop (mkF m 2 #[.val (.double x), .second, .val (.double y), .second] [(.double FP.dconst0), (.double y)])) (fun tq kq => XS.dconst0 X0.here hx rfl (hb hby d1_1) rfl kq) ?_
  refine own_go (W1 := s₁.setTop (mkF m 3 #[.val (.double x), .second, .val (.double y), .second] [(.int (cmpValue (FP.dcmp y FP.dconst0) .l))])) (fun tq kq => XS.dcmpS X0.here hx rfl (hb hby d1_2) rfl rfl kq) ?_
  refine own_go (W1 := s₁.setTop (mkF m 6 #[.val (.double x), .second, .val (.double y), .second] [])) (fun tq kq => XS.ifNo X0.here hx rfl (hb hby d1_3) rfl ((if0 _ _).trans (tlt (show (0 : Int32) < (cmpValue (FP.dcmp y FP.dconst0) .l) from hp)).2.2.2) kq) ?_
  refine own_go (W1 := s₁.setTop (mkF m 7 #[.val (.double x), .second, .val (.double y), .second] [(.double x)])) (fun tq kq => XS.dloadN X0.here hx rfl (hb hby d1_6) rfl  kq) ?_
  refine own_go (W1 := s₁.setTop (mkF m 8 #[.val (.double x), .second, .val (.double y), .second] [(.double y), (.double x)])) (fun tq kq => XS.dloadN X0.here hx rfl (hb hby d1_7) rfl  kq) ?_
  refine own_go (W1 := s₁.setTop (mkF m 9 #[.val (.double x), .second, .val (.double y), .second] [(.double (FP.ddiv x y))])) (fun tq kq => XS.ddivS X0.here hx rfl (hb hby d1_8) rfl hn rfl kq) ?_
  refine own_go (W1 := s₁.setTop (mkF m 15 #[.val (.double x), .second, .val (.double y), .second] [(.double (FP.ddiv x y))])) (fun tq kq => XS.goto X0.here hx rfl (pc0 := 9) (pc' := 15) rfl (hb hby d1_9) (by decide) (by decide) kq) ?_
  exact own_retD X0 hx Bd.returns (hb hby d1_15) hlk (by decide) (by decide) ⟨rfl, N0, e0⟩
theorem d1_12 : decode prog_4_method_16_code 12 = .ok (.ldc2_w 44, 3) := by decide +kernel
theorem ef_rmN (m : MethodId) (x0 : UInt64) (x1 : UInt64)  : entryFrame m #[(.double x0), (.double x1)] 4 = mkF m 0 #[.val (.double x0), .second, .val (.double x1), .second] [] := by first | (simp [entryFrame, mkF, argsToLocals, Value.category]; done) | rfl
set_option maxRecDepth 65536 in
set_option maxHeartbeats 40000000 in
theorem rmN (l : Launch) (Z : State) (a0 : Array Value) (hw : ∀ d ∈ tables_1, d.before a0 Z = true) (ws : List Jvm.Cond) (x y : UInt64) (h0 : Heap) (n0 : Nat) (Z0 : n0 ≤ h0.size) (hp : ¬ 0 < cmpValue (FP.dcmp y FP.dconst0) .l) :
    MetFree l (⟨"com/example/bemesser/bemesser/analysis/CrossSectionValues", "density", "(DD)D"⟩ : MethodName) (head1 (Jvm.Cond.code (⟨"com/example/bemesser/bemesser/analysis/CrossSectionValues", "density", "(DD)D"⟩ : MethodName) prog_4_method_16_code 4 (some .double) :: ws) ({ frames := 0, cells := 0, slots := 0, locals := 0 } : Room)) (fun a U => a = #[(.double x), (.double y)] ∧ Z.Warmed39 U.vm ∧ U.heap = h0) (fun _ _ _ _ _ => True) (fun _ U o U' => ∃ v L, o = .returned v ∧ own_Qd (9221120237041090560 : UInt64) h0 n0 v U'.heap L ∧ FrameEnd U o U' L ({ frames := 0, cells := 0, slots := 0, locals := 0 } : Room).cells ({ frames := 0, cells := 0, slots := 0, locals := 0 } : Room).slots) := by
  refine MetFree.of_bodySF (plainFor_of_name own_pn_com_example_bemesser_bemesser_analysis_CrossSectionValues) hisR ?_
  intro p e s m args below meth c s₁ Bd hml0 hP hK
  obtain ⟨rfl, hZ, hh⟩ := hP
  have hx := Bd.exec
  have hby := Bd.bytes
  have hlk := BodyLoose.notSynchronized Bd
  have hml : c.maxLocals = 4 := hml0
  have hown : s.vm.findClass "com/example/bemesser/bemesser/analysis/CrossSectionValues" = some m.cls := findClass_of_methodNamed Bd.named
  have hnm := (name_of_methodNamed Bd.named Bd.method).1
  have X0 : Stand p l e ({ frames := 0, cells := 0, slots := 0, locals := 0 } : Room) s m #[(.double x), (.double y)] below meth c s₁ [] 0 0 := Stand.of_body Bd
  have e0 : s₁.heap = h0 := by rw [← hh, Bd.state]; rfl
  have N0 := Fr.nil n0
  show own_Ends p e below s (own_Qd (9221120237041090560 : UInt64) h0 n0) 0 0 (s₁.setTop (entryFrame m #[(.double x), (.double y)] 4))
  refine own_go (W1 := s₁.setTop (mkF m 0 #[.val (.double x), .second, .val (.double y), .second] [])) (fun tq kq => castTop (ef_rmN m x y ) kq) ?_
  refine own_go (W1 := s₁.setTop (mkF m 1 #[.val (.double x), .second, .val (.double y), .second] [(.double y)])) (fun tq kq => XS.dloadN X0.here hx rfl (hb hby d1_0) rfl  kq) ?_
  refine own_go (W1 := s₁.setTop (mkF m 2 #[.val (.double x), .second, .val (.double y), .second] [(.double FP.dconst0), (.double y)])) (fun tq kq => XS.dconst0 X0.here hx rfl (hb hby d1_1) rfl kq) ?_
  refine own_go (W1 := s₁.setTop (mkF m 3 #[.val (.double x), .second, .val (.double y), .second] [(.int (cmpValue (FP.dcmp y FP.dconst0) .l))])) (fun tq kq => XS.dcmpS X0.here hx rfl (hb hby d1_2) rfl rfl kq) ?_
  refine own_go (W1 := s₁.setTop (mkF m 12 #[.val (.double x), .second, .val (.double y), .second] [])) (fun tq kq => XS.ifYes X0.here hx rfl (pc0 := 3) (pc' := 12) rfl (hb hby d1_3) rfl ((if0 _ _).trans (flt (show ¬ ((0 : Int32) < (cmpValue (FP.dcmp y FP.dconst0) .l)) from hp)).2.2.2) (by decide) (by decide) kq) ?_
  refine own_go (W1 := s₁.setTop (mkF m 15 #[.val (.double x), .second, .val (.double y), .second] [(.double (9221120237041090560 : UInt64))])) (X0.ldc2DoubleC hx hown (mvT hZ (hw _ (List.mem_of_getElem? (i := 6) rfl))) (g := (mkF m 12 #[.val (.double x), .second, .val (.double y), .second] [])) rfl (hb hby d1_12)) ?_
  exact own_retD X0 hx Bd.returns (hb hby d1_15) hlk (by decide) (by decide) ⟨rfl, N0, e0⟩
theorem own_pn_com_example_bemesser_bemesser_analysis_CrossSectionValuesDensityPinLaw : plainName "com/example/bemesser/bemesser/analysis/CrossSectionValuesDensityPinLaw" = true := by first | (simp [plainName, overriddenIn]; done) | decide +kernel
theorem own_pd0 : parseMethodDescriptor "(DD)D" = some ⟨[.double, .double], some .double⟩ := by decide +kernel
theorem ef_rm0 (m : MethodId) (x0 : Int32) (x1 : Int32) (x2 : Int32) (x3 : Int32)  : entryFrame m #[(.int x0), (.int x1), (.int x2), (.int x3)] maxLocals = mkF m 0 #[.val (.int x0), .val (.int x1), .val (.int x2), .val (.int x3), .unset, .unset, .unset, .unset, .unset, .unset, .unset, .unset, .unset, .unset, .unset, .unset, .unset, .unset, .unset] [] := by first | (simp [entryFrame, mkF, argsToLocals, Value.category, maxLocals]; done) | rfl
set_option maxRecDepth 65536 in
set_option maxHeartbeats 40000000 in
theorem rm0 (l : Launch) (Z : State) (a0 : Array Value) (hw : ∀ d ∈ tables_1, d.before a0 Z = true) (ws : List Jvm.Cond) (q sr rr mode : Int32) (h0 : Heap) (n0 : Nat) (Z0 : n0 ≤ h0.size)  :
    MetFree l x (head1 (Jvm.Cond.code x code maxLocals ret :: ws) room_1) (fun a U => a = #[(.int q), (.int sr), (.int rr), (.int mode)] ∧ Z.Warmed39 U.vm ∧ U.heap = h0) (fun _ _ _ _ _ => True) (fun _ U o U' => ∃ v L, o = .returned v ∧ own_Q0 n0 v U'.heap L ∧ FrameEnd U o U' L 0 0) := by
  refine MetFree.of_bodySF (plainFor_of_name own_pn_com_example_bemesser_bemesser_analysis_CrossSectionValuesDensityPinLaw) hisR ?_
  intro p e s m args below meth c s₁ Bd hml0 hP hK
  obtain ⟨rfl, hZ, hh⟩ := hP
  have hx := Bd.exec
  have hby := Bd.bytes
  have hlk := BodyLoose.notSynchronized Bd
  have hml : c.maxLocals = 19 := hml0
  have hown : s.vm.findClass "com/example/bemesser/bemesser/analysis/CrossSectionValuesDensityPinLaw" = some m.cls := findClass_of_methodNamed Bd.named
  have hnm := (name_of_methodNamed Bd.named Bd.method).1
  have X0 : Stand p l e room_1 s m #[(.int q), (.int sr), (.int rr), (.int mode)] below meth c s₁ [] 0 0 := Stand.of_body Bd
  have e0 : s₁.heap = h0 := by rw [← hh, Bd.state]; rfl
  have N0 := Fr.nil n0
  show own_Ends p e below s (own_Q0 n0) 0 0 (s₁.setTop (entryFrame m #[(.int q), (.int sr), (.int rr), (.int mode)] maxLocals))
  refine own_go (W1 := s₁.setTop (mkF m 0 #[.val (.int q), .val (.int sr), .val (.int rr), .val (.int mode), .unset, .unset, .unset, .unset, .unset, .unset, .unset, .unset, .unset, .unset, .unset, .unset, .unset, .unset, .unset] [])) (fun tq kq => castTop (ef_rm0 m q sr rr mode ) kq) ?_
  refine own_go (W1 := s₁.setTop (mkF m 1 #[.val (.int q), .val (.int sr), .val (.int rr), .val (.int mode), .unset, .unset, .unset, .unset, .unset, .unset, .unset, .unset, .unset, .unset, .unset, .unset, .unset, .unset, .unset] [(.int sr)])) (fun tq kq => XS.iloadN X0.here hx rfl (hb hby at_0) rfl  kq) ?_
  refine own_go (W1 := s₁.setTop (mkF m 3 #[.val (.int q), .val (.int sr), .val (.int rr), .val (.int mode), .unset, .unset, .unset, .unset, .unset, .unset, .unset, .unset, .unset, .unset, .unset, .unset, .unset, .unset, .unset] [(.int (1048575 : Int32)), (.int sr)])) (X0.ldcInt hx hown (mvT hZ (hw _ (List.mem_of_getElem? (i := 0) rfl))) (g := (mkF m 1 #[.val (.int q), .val (.int sr), .val (.int rr), .val (.int mode), .unset, .unset, .unset, .unset, .unset, .unset, .unset, .unset, .unset, .unset, .unset, .unset, .unset, .unset, .unset] [(.int sr)])) rfl (hb hby at_1)) ?_
  refine own_go (W1 := s₁.setTop (mkF m 4 #[.val (.int q), .val (.int sr), .val (.int rr), .val (.int mode), .unset, .unset, .unset, .unset, .unset, .unset, .unset, .unset, .unset, .unset, .unset, .unset, .unset, .unset, .unset] [(.int (sr &&& (1048575 : Int32)))])) (fun tq kq => XS.iand X0.here hx rfl (hb hby at_3) rfl kq) ?_
  refine own_go (W1 := s₁.setTop (mkF m 6 #[.val (.int q), .val (.int sr), .val (.int rr), .val (.int mode), .val (.int (sr &&& (1048575 : Int32))), .unset, .unset, .unset, .unset, .unset, .unset, .unset, .unset, .unset, .unset, .unset, .unset, .unset, .unset] [])) (fun tq kq => XS.istore X0.here hx rfl (hb hby at_4) rfl (l' := #[.val (.int q), .val (.int sr), .val (.int rr), .val (.int mode), .val (.int (sr &&& (1048575 : Int32))), .unset, .unset, .unset, .unset, .unset, .unset, .unset, .unset, .unset, .unset, .unset, .unset, .unset, .unset]) rfl kq) ?_
  have hs := own_s20 sr
  generalize (sr &&& (1048575 : Int32)) = s1 at *
  refine own_go (W1 := s₁.setTop (mkF m 7 #[.val (.int q), .val (.int sr), .val (.int rr), .val (.int mode), .val (.int s1), .unset, .unset, .unset, .unset, .unset, .unset, .unset, .unset, .unset, .unset, .unset, .unset, .unset, .unset] [(.int mode)])) (fun tq kq => XS.iloadN X0.here hx rfl (hb hby at_6) rfl  kq) ?_
  refine own_go (W1 := s₁.setTop (mkF m 8 #[.val (.int q), .val (.int sr), .val (.int rr), .val (.int mode), .val (.int s1), .unset, .unset, .unset, .unset, .unset, .unset, .unset, .unset, .unset, .unset, .unset, .unset, .unset, .unset] [(.int (3 : Int32)), (.int mode)])) (fun tq kq => XS.iconst X0.here hx rfl (hb hby at_7) kq) ?_
  refine own_go (W1 := s₁.setTop (mkF m 9 #[.val (.int q), .val (.int sr), .val (.int rr), .val (.int mode), .val (.int s1), .unset, .unset, .unset, .unset, .unset, .unset, .unset, .unset, .unset, .unset, .unset, .unset, .unset, .unset] [(.int (mode &&& (3 : Int32)))])) (fun tq kq => XS.iand X0.here hx rfl (hb hby at_8) rfl kq) ?_
  refine own_go (W1 := s₁.setTop (mkF m 11 #[.val (.int q), .val (.int sr), .val (.int rr), .val (.int mode), .val (.int s1), .val (.int (mode &&& (3 : Int32))), .unset, .unset, .unset, .unset, .unset, .unset, .unset, .unset, .unset, .unset, .unset, .unset, .unset] [])) (fun tq kq => XS.istore X0.here hx rfl (hb hby at_9) rfl (l' := #[.val (.int q), .val (.int sr), .val (.int rr), .val (.int mode), .val (.int s1), .val (.int (mode &&& (3 : Int32))), .unset, .unset, .unset, .unset, .unset, .unset, .unset, .unset, .unset, .unset, .unset, .unset, .unset]) rfl kq) ?_
  refine own_go (W1 := s₁.setTop (mkF m 13 #[.val (.int q), .val (.int sr), .val (.int rr), .val (.int mode), .val (.int s1), .val (.int (mode &&& (3 : Int32))), .unset, .unset, .unset, .unset, .unset, .unset, .unset, .unset, .unset, .unset, .unset, .unset, .unset] [(.int (mode &&& (3 : Int32)))])) (fun tq kq => XS.iload X0.here hx rfl (hb hby at_11) rfl  kq) ?_
  refine own_go (W1 := s₁.setTop (mkF m 14 #[.val (.int q), .val (.int sr), .val (.int rr), .val (.int mode), .val (.int s1), .val (.int (mode &&& (3 : Int32))), .unset, .unset, .unset, .unset, .unset, .unset, .unset, .unset, .unset, .unset, .unset, .unset, .unset] [(.int (3 : Int32)), (.int (mode &&& (3 : Int32)))])) (fun tq kq => XS.iconst X0.here hx rfl (hb hby at_13) kq) ?_
  by_cases hc14_1 : (mode &&& (3 : Int32)) = (3 : Int32)
  · skip
    refine own_go (W1 := s₁.setTop (mkF m 17 #[.val (.int q), .val (.int sr), .val (.int rr), .val (.int mode), .val (.int s1), .val (.int (mode &&& (3 : Int32))), .unset, .unset, .unset, .unset, .unset, .unset, .unset, .unset, .unset, .unset, .unset, .unset, .unset] [])) (fun tq kq => XS.icmpNo X0.here hx rfl (hb hby at_14) rfl (teq (show (mode &&& (3 : Int32)) = (3 : Int32) from hc14_1)).2 kq) ?_
    refine own_go (W1 := s₁.setTop (mkF m 20 #[.val (.int q), .val (.int sr), .val (.int rr), .val (.int mode), .val (.int s1), .val (.int (mode &&& (3 : Int32))), .unset, .unset, .unset, .unset, .unset, .unset, .unset, .unset, .unset, .unset, .unset, .unset, .unset] [(.double (9223372036854775808 : UInt64))])) (X0.ldc2DoubleC hx hown (mvT hZ (hw _ (List.mem_of_getElem? (i := 7) rfl))) (g := (mkF m 17 #[.val (.int q), .val (.int sr), .val (.int rr), .val (.int mode), .val (.int s1), .val (.int (mode &&& (3 : Int32))), .unset, .unset, .unset, .unset, .unset, .unset, .unset, .unset, .unset, .unset, .unset, .unset, .unset] [])) rfl (hb hby at_17)) ?_
    refine own_go (W1 := s₁.setTop (mkF m 22 #[.val (.int q), .val (.int sr), .val (.int rr), .val (.int mode), .val (.int s1), .val (.int (mode &&& (3 : Int32))), .val (.double (9223372036854775808 : UInt64)), .second, .unset, .unset, .unset, .unset, .unset, .unset, .unset, .unset, .unset, .unset, .unset] [])) (fun tq kq => XS.dstore X0.here hx rfl (hb hby at_20) rfl (l' := #[.val (.int q), .val (.int sr), .val (.int rr), .val (.int mode), .val (.int s1), .val (.int (mode &&& (3 : Int32))), .val (.double (9223372036854775808 : UInt64)), .second, .unset, .unset, .unset, .unset, .unset, .unset, .unset, .unset, .unset, .unset, .unset]) rfl kq) ?_
    refine own_go (W1 := s₁.setTop (mkF m 23 #[.val (.int q), .val (.int sr), .val (.int rr), .val (.int mode), .val (.int s1), .val (.int (mode &&& (3 : Int32))), .val (.double (9223372036854775808 : UInt64)), .second, .unset, .unset, .unset, .unset, .unset, .unset, .unset, .unset, .unset, .unset, .unset] [(.int (0 : Int32))])) (fun tq kq => XS.iconst X0.here hx rfl (hb hby at_22) kq) ?_
    refine own_go (W1 := s₁.setTop (mkF m 25 #[.val (.int q), .val (.int sr), .val (.int rr), .val (.int mode), .val (.int s1), .val (.int (mode &&& (3 : Int32))), .val (.double (9223372036854775808 : UInt64)), .second, .val (.int (0 : Int32)), .unset, .unset, .unset, .unset, .unset, .unset, .unset, .unset, .unset, .unset] [])) (fun tq kq => XS.istore X0.here hx rfl (hb hby at_23) rfl (l' := #[.val (.int q), .val (.int sr), .val (.int rr), .val (.int mode), .val (.int s1), .val (.int (mode &&& (3 : Int32))), .val (.double (9223372036854775808 : UInt64)), .second, .val (.int (0 : Int32)), .unset, .unset, .unset, .unset, .unset, .unset, .unset, .unset, .unset, .unset]) rfl kq) ?_
    refine own_go (W1 := s₁.setTop (mkF m 63 #[.val (.int q), .val (.int sr), .val (.int rr), .val (.int mode), .val (.int s1), .val (.int (mode &&& (3 : Int32))), .val (.double (9223372036854775808 : UInt64)), .second, .val (.int (0 : Int32)), .unset, .unset, .unset, .unset, .unset, .unset, .unset, .unset, .unset, .unset] [])) (fun tq kq => XS.goto X0.here hx rfl (pc0 := 25) (pc' := 63) rfl (hb hby at_25) (by decide) (by decide) kq) ?_
    refine own_go (W1 := s₁.setTop (mkF m 65 #[.val (.int q), .val (.int sr), .val (.int rr), .val (.int mode), .val (.int s1), .val (.int (mode &&& (3 : Int32))), .val (.double (9223372036854775808 : UInt64)), .second, .val (.int (0 : Int32)), .unset, .unset, .unset, .unset, .unset, .unset, .unset, .unset, .unset, .unset] [(.int (0 : Int32))])) (fun tq kq => XS.iload X0.here hx rfl (hb hby at_63) rfl  kq) ?_
    refine own_go (W1 := s₁.setTop (mkF m 79 #[.val (.int q), .val (.int sr), .val (.int rr), .val (.int mode), .val (.int s1), .val (.int (mode &&& (3 : Int32))), .val (.double (9223372036854775808 : UInt64)), .second, .val (.int (0 : Int32)), .unset, .unset, .unset, .unset, .unset, .unset, .unset, .unset, .unset, .unset] [])) (fun tq kq => XS.ifYes X0.here hx rfl (pc0 := 65) (pc' := 79) rfl (hb hby at_65) rfl ((if0 _ _).trans (teq (show (0 : Int32) = (0 : Int32) from (by decide))).1) (by decide) (by decide) kq) ?_
    refine own_go (W1 := s₁.setTop (mkF m 80 #[.val (.int q), .val (.int sr), .val (.int rr), .val (.int mode), .val (.int s1), .val (.int (mode &&& (3 : Int32))), .val (.double (9223372036854775808 : UInt64)), .second, .val (.int (0 : Int32)), .unset, .unset, .unset, .unset, .unset, .unset, .unset, .unset, .unset, .unset] [(.int rr)])) (fun tq kq => XS.iloadN X0.here hx rfl (hb hby at_79) rfl  kq) ?_
    refine own_go (W1 := s₁.setTop (mkF m 81 #[.val (.int q), .val (.int sr), .val (.int rr), .val (.int mode), .val (.int s1), .val (.int (mode &&& (3 : Int32))), .val (.double (9223372036854775808 : UInt64)), .second, .val (.int (0 : Int32)), .unset, .unset, .unset, .unset, .unset, .unset, .unset, .unset, .unset, .unset] [(.long (rr.toInt64))])) (fun tq kq => XS.i2l X0.here hx rfl (hb hby at_80) rfl kq) ?_
    refine own_go (W1 := s₁.setTop (mkF m 83 #[.val (.int q), .val (.int sr), .val (.int rr), .val (.int mode), .val (.int s1), .val (.int (mode &&& (3 : Int32))), .val (.double (9223372036854775808 : UInt64)), .second, .val (.int (0 : Int32)), .val (.long (rr.toInt64)), .second, .unset, .unset, .unset, .unset, .unset, .unset, .unset, .unset] [])) (fun tq kq => XS.lstore X0.here hx rfl (hb hby at_81) rfl (l' := #[.val (.int q), .val (.int sr), .val (.int rr), .val (.int mode), .val (.int s1), .val (.int (mode &&& (3 : Int32))), .val (.double (9223372036854775808 : UInt64)), .second, .val (.int (0 : Int32)), .val (.long (rr.toInt64)), .second, .unset, .unset, .unset, .unset, .unset, .unset, .unset, .unset]) rfl kq) ?_
    refine own_go (W1 := s₁.setTop (mkF m 84 #[.val (.int q), .val (.int sr), .val (.int rr), .val (.int mode), .val (.int s1), .val (.int (mode &&& (3 : Int32))), .val (.double (9223372036854775808 : UInt64)), .second, .val (.int (0 : Int32)), .val (.long (rr.toInt64)), .second, .unset, .unset, .unset, .unset, .unset, .unset, .unset, .unset] [(.int q)])) (fun tq kq => XS.iloadN X0.here hx rfl (hb hby at_83) rfl  kq) ?_
    refine own_go (W1 := s₁.setTop (mkF m 85 #[.val (.int q), .val (.int sr), .val (.int rr), .val (.int mode), .val (.int s1), .val (.int (mode &&& (3 : Int32))), .val (.double (9223372036854775808 : UInt64)), .second, .val (.int (0 : Int32)), .val (.long (rr.toInt64)), .second, .unset, .unset, .unset, .unset, .unset, .unset, .unset, .unset] [(.long (q.toInt64))])) (fun tq kq => XS.i2l X0.here hx rfl (hb hby at_84) rfl kq) ?_
    refine own_go (W1 := s₁.setTop (mkF m 87 #[.val (.int q), .val (.int sr), .val (.int rr), .val (.int mode), .val (.int s1), .val (.int (mode &&& (3 : Int32))), .val (.double (9223372036854775808 : UInt64)), .second, .val (.int (0 : Int32)), .val (.long (rr.toInt64)), .second, .unset, .unset, .unset, .unset, .unset, .unset, .unset, .unset] [(.int s1), (.long (q.toInt64))])) (fun tq kq => XS.iload X0.here hx rfl (hb hby at_85) rfl  kq) ?_
    refine own_go (W1 := s₁.setTop (mkF m 88 #[.val (.int q), .val (.int sr), .val (.int rr), .val (.int mode), .val (.int s1), .val (.int (mode &&& (3 : Int32))), .val (.double (9223372036854775808 : UInt64)), .second, .val (.int (0 : Int32)), .val (.long (rr.toInt64)), .second, .unset, .unset, .unset, .unset, .unset, .unset, .unset, .unset] [(.long (s1.toInt64)), (.long (q.toInt64))])) (fun tq kq => XS.i2l X0.here hx rfl (hb hby at_87) rfl kq) ?_
    refine own_go (W1 := s₁.setTop (mkF m 89 #[.val (.int q), .val (.int sr), .val (.int rr), .val (.int mode), .val (.int s1), .val (.int (mode &&& (3 : Int32))), .val (.double (9223372036854775808 : UInt64)), .second, .val (.int (0 : Int32)), .val (.long (rr.toInt64)), .second, .unset, .unset, .unset, .unset, .unset, .unset, .unset, .unset] [(.long ((q.toInt64) * (s1.toInt64)))])) (fun tq kq => XS.lmul X0.here hx rfl (hb hby at_88) rfl kq) ?_
    refine own_go (W1 := s₁.setTop (mkF m 91 #[.val (.int q), .val (.int sr), .val (.int rr), .val (.int mode), .val (.int s1), .val (.int (mode &&& (3 : Int32))), .val (.double (9223372036854775808 : UInt64)), .second, .val (.int (0 : Int32)), .val (.long (rr.toInt64)), .second, .unset, .unset, .unset, .unset, .unset, .unset, .unset, .unset] [(.long (rr.toInt64)), (.long ((q.toInt64) * (s1.toInt64)))])) (fun tq kq => XS.lload X0.here hx rfl (hb hby at_89) rfl  kq) ?_
    refine own_go (W1 := s₁.setTop (mkF m 92 #[.val (.int q), .val (.int sr), .val (.int rr), .val (.int mode), .val (.int s1), .val (.int (mode &&& (3 : Int32))), .val (.double (9223372036854775808 : UInt64)), .second, .val (.int (0 : Int32)), .val (.long (rr.toInt64)), .second, .unset, .unset, .unset, .unset, .unset, .unset, .unset, .unset] [(.long (((q.toInt64) * (s1.toInt64)) + (rr.toInt64)))])) (fun tq kq => XS.ladd X0.here hx rfl (hb hby at_91) rfl kq) ?_
    refine own_go (W1 := s₁.setTop (mkF m 94 #[.val (.int q), .val (.int sr), .val (.int rr), .val (.int mode), .val (.int s1), .val (.int (mode &&& (3 : Int32))), .val (.double (9223372036854775808 : UInt64)), .second, .val (.int (0 : Int32)), .val (.long (rr.toInt64)), .second, .val (.long (((q.toInt64) * (s1.toInt64)) + (rr.toInt64))), .second, .unset, .unset, .unset, .unset, .unset, .unset] [])) (fun tq kq => XS.lstore X0.here hx rfl (hb hby at_92) rfl (l' := #[.val (.int q), .val (.int sr), .val (.int rr), .val (.int mode), .val (.int s1), .val (.int (mode &&& (3 : Int32))), .val (.double (9223372036854775808 : UInt64)), .second, .val (.int (0 : Int32)), .val (.long (rr.toInt64)), .second, .val (.long (((q.toInt64) * (s1.toInt64)) + (rr.toInt64))), .second, .unset, .unset, .unset, .unset, .unset, .unset]) rfl kq) ?_
    refine own_go (W1 := s₁.setTop (mkF m 96 #[.val (.int q), .val (.int sr), .val (.int rr), .val (.int mode), .val (.int s1), .val (.int (mode &&& (3 : Int32))), .val (.double (9223372036854775808 : UInt64)), .second, .val (.int (0 : Int32)), .val (.long (rr.toInt64)), .second, .val (.long (((q.toInt64) * (s1.toInt64)) + (rr.toInt64))), .second, .unset, .unset, .unset, .unset, .unset, .unset] [(.long (((q.toInt64) * (s1.toInt64)) + (rr.toInt64)))])) (fun tq kq => XS.lload X0.here hx rfl (hb hby at_94) rfl  kq) ?_
    refine own_go (W1 := s₁.setTop (mkF m 97 #[.val (.int q), .val (.int sr), .val (.int rr), .val (.int mode), .val (.int s1), .val (.int (mode &&& (3 : Int32))), .val (.double (9223372036854775808 : UInt64)), .second, .val (.int (0 : Int32)), .val (.long (rr.toInt64)), .second, .val (.long (((q.toInt64) * (s1.toInt64)) + (rr.toInt64))), .second, .unset, .unset, .unset, .unset, .unset, .unset] [(.double (FP.l2d (((q.toInt64) * (s1.toInt64)) + (rr.toInt64))))])) (fun tq kq => XS.l2dS X0.here hx rfl (hb hby at_96) rfl rfl kq) ?_
    refine own_go (W1 := s₁.setTop (mkF m 99 #[.val (.int q), .val (.int sr), .val (.int rr), .val (.int mode), .val (.int s1), .val (.int (mode &&& (3 : Int32))), .val (.double (9223372036854775808 : UInt64)), .second, .val (.int (0 : Int32)), .val (.long (rr.toInt64)), .second, .val (.long (((q.toInt64) * (s1.toInt64)) + (rr.toInt64))), .second, .val (.double (FP.l2d (((q.toInt64) * (s1.toInt64)) + (rr.toInt64)))), .second, .unset, .unset, .unset, .unset] [])) (fun tq kq => XS.dstore X0.here hx rfl (hb hby at_97) rfl (l' := #[.val (.int q), .val (.int sr), .val (.int rr), .val (.int mode), .val (.int s1), .val (.int (mode &&& (3 : Int32))), .val (.double (9223372036854775808 : UInt64)), .second, .val (.int (0 : Int32)), .val (.long (rr.toInt64)), .second, .val (.long (((q.toInt64) * (s1.toInt64)) + (rr.toInt64))), .second, .val (.double (FP.l2d (((q.toInt64) * (s1.toInt64)) + (rr.toInt64)))), .second, .unset, .unset, .unset, .unset]) rfl kq) ?_
    refine own_go (W1 := s₁.setTop (mkF m 101 #[.val (.int q), .val (.int sr), .val (.int rr), .val (.int mode), .val (.int s1), .val (.int (mode &&& (3 : Int32))), .val (.double (9223372036854775808 : UInt64)), .second, .val (.int (0 : Int32)), .val (.long (rr.toInt64)), .second, .val (.long (((q.toInt64) * (s1.toInt64)) + (rr.toInt64))), .second, .val (.double (FP.l2d (((q.toInt64) * (s1.toInt64)) + (rr.toInt64)))), .second, .unset, .unset, .unset, .unset] [(.double (FP.l2d (((q.toInt64) * (s1.toInt64)) + (rr.toInt64))))])) (fun tq kq => XS.dload X0.here hx rfl (hb hby at_99) rfl  kq) ?_
    refine own_go (W1 := s₁.setTop (mkF m 103 #[.val (.int q), .val (.int sr), .val (.int rr), .val (.int mode), .val (.int s1), .val (.int (mode &&& (3 : Int32))), .val (.double (9223372036854775808 : UInt64)), .second, .val (.int (0 : Int32)), .val (.long (rr.toInt64)), .second, .val (.long (((q.toInt64) * (s1.toInt64)) + (rr.toInt64))), .second, .val (.double (FP.l2d (((q.toInt64) * (s1.toInt64)) + (rr.toInt64)))), .second, .unset, .unset, .unset, .unset] [(.double (9223372036854775808 : UInt64)), (.double (FP.l2d (((q.toInt64) * (s1.toInt64)) + (rr.toInt64))))])) (fun tq kq => XS.dload X0.here hx rfl (hb hby at_101) rfl  kq) ?_
    obtain ⟨_, _, ⟨T1, L1, k1, n1⟩, -, X1, ⟨Lc1, hQ1, l1, y1, z1⟩, st1⟩ := Jvm.LawKit.callS X0 hx (y := (⟨"com/example/bemesser/bemesser/analysis/CrossSectionValues", "density", "(DD)D"⟩ : MethodName)) hown (mvT hZ (hw _ (List.mem_of_getElem? (i := 2) rfl))) (mvT hZ (hw _ (List.mem_of_getElem? (i := 3) rfl))) (mvT hZ (hw _ (List.mem_of_getElem? (i := 4) rfl))) (mvT hZ (hw _ (List.mem_of_getElem? (i := 5) rfl))) (by decide) (backOf (W := 0) (rmN l Z a0 hw [] (FP.l2d (((q.toInt64) * (s1.toInt64)) + (rr.toInt64))) (9223372036854775808 : UInt64) h0 n0 Z0 (by decide +kernel)) hZ (hw _ (List.mem_of_getElem? (i := 5) rfl)) (hw _ (List.mem_of_getElem? (i := 4) rfl)) (by decide) (by decide)) (g := (mkF m 103 #[.val (.int q), .val (.int sr), .val (.int rr), .val (.int mode), .val (.int s1), .val (.int (mode &&& (3 : Int32))), .val (.double (9223372036854775808 : UInt64)), .second, .val (.int (0 : Int32)), .val (.long (rr.toInt64)), .second, .val (.long (((q.toInt64) * (s1.toInt64)) + (rr.toInt64))), .second, .val (.double (FP.l2d (((q.toInt64) * (s1.toInt64)) + (rr.toInt64)))), .second, .unset, .unset, .unset, .unset] [(.double (9223372036854775808 : UInt64)), (.double (FP.l2d (((q.toInt64) * (s1.toInt64)) + (rr.toInt64))))])) rfl (by rw [hml]; rfl) (argsL := [(.double (FP.l2d (((q.toInt64) * (s1.toInt64)) + (rr.toInt64)))), (.double (9223372036854775808 : UInt64))]) (rest := []) (lenOf own_pd0 rfl) rfl (by show 2 * 0 + _ ≤ _; exact Nat.le_of_eq rfl) (hb hby at_103) (fun _ _ => ⟨rfl, e0, (by decide : 0 + 0 ≤ _), (by decide : 0 + 0 ≤ _)⟩)
    dsimp only [Pt.U, Pt.locs, Pt.cells, Pt.slots] at X1 l1 y1 z1 st1 hQ1
    subst l1 y1 z1
    obtain ⟨rfl, Nq1, eh1⟩ := hQ1
    have N1 := Fr.app N0 Nq1
    refine own_go (W1 := T1.setTop (mkF m 106 #[.val (.int q), .val (.int sr), .val (.int rr), .val (.int mode), .val (.int s1), .val (.int (mode &&& (3 : Int32))), .val (.double (9223372036854775808 : UInt64)), .second, .val (.int (0 : Int32)), .val (.long (rr.toInt64)), .second, .val (.long (((q.toInt64) * (s1.toInt64)) + (rr.toInt64))), .second, .val (.double (FP.l2d (((q.toInt64) * (s1.toInt64)) + (rr.toInt64)))), .second, .unset, .unset, .unset, .unset] [(.double (9221120237041090560 : UInt64))])) st1 ?_
    refine own_go (W1 := T1.setTop (mkF m 108 #[.val (.int q), .val (.int sr), .val (.int rr), .val (.int mode), .val (.int s1), .val (.int (mode &&& (3 : Int32))), .val (.double (9223372036854775808 : UInt64)), .second, .val (.int (0 : Int32)), .val (.long (rr.toInt64)), .second, .val (.long (((q.toInt64) * (s1.toInt64)) + (rr.toInt64))), .second, .val (.double (FP.l2d (((q.toInt64) * (s1.toInt64)) + (rr.toInt64)))), .second, .val (.double (9221120237041090560 : UInt64)), .second, .unset, .unset] [])) (fun tq kq => XS.dstore X1.here hx rfl (hb hby at_106) rfl (l' := #[.val (.int q), .val (.int sr), .val (.int rr), .val (.int mode), .val (.int s1), .val (.int (mode &&& (3 : Int32))), .val (.double (9223372036854775808 : UInt64)), .second, .val (.int (0 : Int32)), .val (.long (rr.toInt64)), .second, .val (.long (((q.toInt64) * (s1.toInt64)) + (rr.toInt64))), .second, .val (.double (FP.l2d (((q.toInt64) * (s1.toInt64)) + (rr.toInt64)))), .second, .val (.double (9221120237041090560 : UInt64)), .second, .unset, .unset]) rfl kq) ?_
    refine own_go (W1 := T1.setTop (mkF m 110 #[.val (.int q), .val (.int sr), .val (.int rr), .val (.int mode), .val (.int s1), .val (.int (mode &&& (3 : Int32))), .val (.double (9223372036854775808 : UInt64)), .second, .val (.int (0 : Int32)), .val (.long (rr.toInt64)), .second, .val (.long (((q.toInt64) * (s1.toInt64)) + (rr.toInt64))), .second, .val (.double (FP.l2d (((q.toInt64) * (s1.toInt64)) + (rr.toInt64)))), .second, .val (.double (9221120237041090560 : UInt64)), .second, .unset, .unset] [(.int (0 : Int32))])) (fun tq kq => XS.iload X1.here hx rfl (hb hby at_108) rfl  kq) ?_
    refine own_go (W1 := T1.setTop (mkF m 113 #[.val (.int q), .val (.int sr), .val (.int rr), .val (.int mode), .val (.int s1), .val (.int (mode &&& (3 : Int32))), .val (.double (9223372036854775808 : UInt64)), .second, .val (.int (0 : Int32)), .val (.long (rr.toInt64)), .second, .val (.long (((q.toInt64) * (s1.toInt64)) + (rr.toInt64))), .second, .val (.double (FP.l2d (((q.toInt64) * (s1.toInt64)) + (rr.toInt64)))), .second, .val (.double (9221120237041090560 : UInt64)), .second, .unset, .unset] [])) (fun tq kq => XS.ifNo X1.here hx rfl (hb hby at_110) rfl ((if0 _ _).trans (teq (show (0 : Int32) = (0 : Int32) from (by decide))).2) kq) ?_
    refine own_go (W1 := T1.setTop (mkF m 115 #[.val (.int q), .val (.int sr), .val (.int rr), .val (.int mode), .val (.int s1), .val (.int (mode &&& (3 : Int32))), .val (.double (9223372036854775808 : UInt64)), .second, .val (.int (0 : Int32)), .val (.long (rr.toInt64)), .second, .val (.long (((q.toInt64) * (s1.toInt64)) + (rr.toInt64))), .second, .val (.double (FP.l2d (((q.toInt64) * (s1.toInt64)) + (rr.toInt64)))), .second, .val (.double (9221120237041090560 : UInt64)), .second, .unset, .unset] [(.double (9221120237041090560 : UInt64))])) (fun tq kq => XS.dload X1.here hx rfl (hb hby at_113) rfl  kq) ?_
    refine own_go (W1 := T1.setTop (mkF m 117 #[.val (.int q), .val (.int sr), .val (.int rr), .val (.int mode), .val (.int s1), .val (.int (mode &&& (3 : Int32))), .val (.double (9223372036854775808 : UInt64)), .second, .val (.int (0 : Int32)), .val (.long (rr.toInt64)), .second, .val (.long (((q.toInt64) * (s1.toInt64)) + (rr.toInt64))), .second, .val (.double (FP.l2d (((q.toInt64) * (s1.toInt64)) + (rr.toInt64)))), .second, .val (.double (9221120237041090560 : UInt64)), .second, .unset, .unset] [(.double (9221120237041090560 : UInt64)), (.double (9221120237041090560 : UInt64))])) (fun tq kq => XS.dload X1.here hx rfl (hb hby at_115) rfl  kq) ?_
    refine own_go (W1 := T1.setTop (mkF m 118 #[.val (.int q), .val (.int sr), .val (.int rr), .val (.int mode), .val (.int s1), .val (.int (mode &&& (3 : Int32))), .val (.double (9223372036854775808 : UInt64)), .second, .val (.int (0 : Int32)), .val (.long (rr.toInt64)), .second, .val (.long (((q.toInt64) * (s1.toInt64)) + (rr.toInt64))), .second, .val (.double (FP.l2d (((q.toInt64) * (s1.toInt64)) + (rr.toInt64)))), .second, .val (.double (9221120237041090560 : UInt64)), .second, .unset, .unset] [(.int (cmpValue (FP.dcmp (9221120237041090560 : UInt64) (9221120237041090560 : UInt64)) .l))])) (fun tq kq => XS.dcmpS X1.here hx rfl (hb hby at_117) rfl rfl kq) ?_
    refine own_go (W1 := T1.setTop (mkF m 121 #[.val (.int q), .val (.int sr), .val (.int rr), .val (.int mode), .val (.int s1), .val (.int (mode &&& (3 : Int32))), .val (.double (9223372036854775808 : UInt64)), .second, .val (.int (0 : Int32)), .val (.long (rr.toInt64)), .second, .val (.long (((q.toInt64) * (s1.toInt64)) + (rr.toInt64))), .second, .val (.double (FP.l2d (((q.toInt64) * (s1.toInt64)) + (rr.toInt64)))), .second, .val (.double (9221120237041090560 : UInt64)), .second, .unset, .unset] [])) (fun tq kq => XS.ifNo X1.here hx rfl (hb hby at_118) rfl ((if0 _ _).trans (feq (show ¬ ((cmpValue (FP.dcmp (9221120237041090560 : UInt64) (9221120237041090560 : UInt64)) .l) = (0 : Int32)) from (by decide +kernel))).1) kq) ?_
    refine own_go (W1 := T1.setTop (mkF m 122 #[.val (.int q), .val (.int sr), .val (.int rr), .val (.int mode), .val (.int s1), .val (.int (mode &&& (3 : Int32))), .val (.double (9223372036854775808 : UInt64)), .second, .val (.int (0 : Int32)), .val (.long (rr.toInt64)), .second, .val (.long (((q.toInt64) * (s1.toInt64)) + (rr.toInt64))), .second, .val (.double (FP.l2d (((q.toInt64) * (s1.toInt64)) + (rr.toInt64)))), .second, .val (.double (9221120237041090560 : UInt64)), .second, .unset, .unset] [(.int (1 : Int32))])) (fun tq kq => XS.iconst X1.here hx rfl (hb hby at_121) kq) ?_
    refine own_go (W1 := T1.setTop (mkF m 126 #[.val (.int q), .val (.int sr), .val (.int rr), .val (.int mode), .val (.int s1), .val (.int (mode &&& (3 : Int32))), .val (.double (9223372036854775808 : UInt64)), .second, .val (.int (0 : Int32)), .val (.long (rr.toInt64)), .second, .val (.long (((q.toInt64) * (s1.toInt64)) + (rr.toInt64))), .second, .val (.double (FP.l2d (((q.toInt64) * (s1.toInt64)) + (rr.toInt64)))), .second, .val (.double (9221120237041090560 : UInt64)), .second, .unset, .unset] [(.int (1 : Int32))])) (fun tq kq => XS.goto X1.here hx rfl (pc0 := 122) (pc' := 126) rfl (hb hby at_122) (by decide) (by decide) kq) ?_
    exact own_retN X1 hx (t := .boolean) Bd.returns (by simp) (hb hby at_126) hlk (by decide) (by decide) ⟨rfl, N1⟩
  · skip
    refine own_go (W1 := s₁.setTop (mkF m 28 #[.val (.int q), .val (.int sr), .val (.int rr), .val (.int mode), .val (.int s1), .val (.int (mode &&& (3 : Int32))), .unset, .unset, .unset, .unset, .unset, .unset, .unset, .unset, .unset, .unset, .unset, .unset, .unset] [])) (fun tq kq => XS.icmpYes X0.here hx rfl (pc0 := 14) (pc' := 28) rfl (hb hby at_14) rfl (feq (show ¬ ((mode &&& (3 : Int32)) = (3 : Int32)) from hc14_1)).2 (by decide) (by decide) kq) ?_
    refine own_go (W1 := s₁.setTop (mkF m 30 #[.val (.int q), .val (.int sr), .val (.int rr), .val (.int mode), .val (.int s1), .val (.int (mode &&& (3 : Int32))), .unset, .unset, .unset, .unset, .unset, .unset, .unset, .unset, .unset, .unset, .unset, .unset, .unset] [(.int (mode &&& (3 : Int32)))])) (fun tq kq => XS.iload X0.here hx rfl (hb hby at_28) rfl  kq) ?_
    refine own_go (W1 := s₁.setTop (mkF m 31 #[.val (.int q), .val (.int sr), .val (.int rr), .val (.int mode), .val (.int s1), .val (.int (mode &&& (3 : Int32))), .unset, .unset, .unset, .unset, .unset, .unset, .unset, .unset, .unset, .unset, .unset, .unset, .unset] [(.int (2 : Int32)), (.int (mode &&& (3 : Int32)))])) (fun tq kq => XS.iconst X0.here hx rfl (hb hby at_30) kq) ?_
    by_cases hc31_2 : (mode &&& (3 : Int32)) = (2 : Int32)
    · skip
      refine own_go (W1 := s₁.setTop (mkF m 34 #[.val (.int q), .val (.int sr), .val (.int rr), .val (.int mode), .val (.int s1), .val (.int (mode &&& (3 : Int32))), .unset, .unset, .unset, .unset, .unset, .unset, .unset, .unset, .unset, .unset, .unset, .unset, .unset] [])) (fun tq kq => XS.icmpNo X0.here hx rfl (hb hby at_31) rfl (teq (show (mode &&& (3 : Int32)) = (2 : Int32) from hc31_2)).2 kq) ?_
      refine own_go (W1 := s₁.setTop (mkF m 36 #[.val (.int q), .val (.int sr), .val (.int rr), .val (.int mode), .val (.int s1), .val (.int (mode &&& (3 : Int32))), .unset, .unset, .unset, .unset, .unset, .unset, .unset, .unset, .unset, .unset, .unset, .unset, .unset] [(.int s1)])) (fun tq kq => XS.iload X0.here hx rfl (hb hby at_34) rfl  kq) ?_
      refine own_go (W1 := s₁.setTop (mkF m 37 #[.val (.int q), .val (.int sr), .val (.int rr), .val (.int mode), .val (.int s1), .val (.int (mode &&& (3 : Int32))), .unset, .unset, .unset, .unset, .unset, .unset, .unset, .unset, .unset, .unset, .unset, .unset, .unset] [(.double (FP.i2d s1))])) (fun tq kq => XS.i2dS X0.here hx rfl (hb hby at_36) rfl rfl kq) ?_
      refine own_go (W1 := s₁.setTop (mkF m 38 #[.val (.int q), .val (.int sr), .val (.int rr), .val (.int mode), .val (.int s1), .val (.int (mode &&& (3 : Int32))), .unset, .unset, .unset, .unset, .unset, .unset, .unset, .unset, .unset, .unset, .unset, .unset, .unset] [(.double (FP.dneg (FP.i2d s1)))])) (fun tq kq => XS.dnegS X0.here hx rfl (hb hby at_37) rfl rfl kq) ?_
      refine own_go (W1 := s₁.setTop (mkF m 40 #[.val (.int q), .val (.int sr), .val (.int rr), .val (.int mode), .val (.int s1), .val (.int (mode &&& (3 : Int32))), .val (.double (FP.dneg (FP.i2d s1))), .second, .unset, .unset, .unset, .unset, .unset, .unset, .unset, .unset, .unset, .unset, .unset] [])) (fun tq kq => XS.dstore X0.here hx rfl (hb hby at_38) rfl (l' := #[.val (.int q), .val (.int sr), .val (.int rr), .val (.int mode), .val (.int s1), .val (.int (mode &&& (3 : Int32))), .val (.double (FP.dneg (FP.i2d s1))), .second, .unset, .unset, .unset, .unset, .unset, .unset, .unset, .unset, .unset, .unset, .unset]) rfl kq) ?_
      refine own_go (W1 := s₁.setTop (mkF m 41 #[.val (.int q), .val (.int sr), .val (.int rr), .val (.int mode), .val (.int s1), .val (.int (mode &&& (3 : Int32))), .val (.double (FP.dneg (FP.i2d s1))), .second, .unset, .unset, .unset, .unset, .unset, .unset, .unset, .unset, .unset, .unset, .unset] [(.int (0 : Int32))])) (fun tq kq => XS.iconst X0.here hx rfl (hb hby at_40) kq) ?_
      refine own_go (W1 := s₁.setTop (mkF m 43 #[.val (.int q), .val (.int sr), .val (.int rr), .val (.int mode), .val (.int s1), .val (.int (mode &&& (3 : Int32))), .val (.double (FP.dneg (FP.i2d s1))), .second, .val (.int (0 : Int32)), .unset, .unset, .unset, .unset, .unset, .unset, .unset, .unset, .unset, .unset] [])) (fun tq kq => XS.istore X0.here hx rfl (hb hby at_41) rfl (l' := #[.val (.int q), .val (.int sr), .val (.int rr), .val (.int mode), .val (.int s1), .val (.int (mode &&& (3 : Int32))), .val (.double (FP.dneg (FP.i2d s1))), .second, .val (.int (0 : Int32)), .unset, .unset, .unset, .unset, .unset, .unset, .unset, .unset, .unset, .unset]) rfl kq) ?_
      refine own_go (W1 := s₁.setTop (mkF m 63 #[.val (.int q), .val (.int sr), .val (.int rr), .val (.int mode), .val (.int s1), .val (.int (mode &&& (3 : Int32))), .val (.double (FP.dneg (FP.i2d s1))), .second, .val (.int (0 : Int32)), .unset, .unset, .unset, .unset, .unset, .unset, .unset, .unset, .unset, .unset] [])) (fun tq kq => XS.goto X0.here hx rfl (pc0 := 43) (pc' := 63) rfl (hb hby at_43) (by decide) (by decide) kq) ?_
      refine own_go (W1 := s₁.setTop (mkF m 65 #[.val (.int q), .val (.int sr), .val (.int rr), .val (.int mode), .val (.int s1), .val (.int (mode &&& (3 : Int32))), .val (.double (FP.dneg (FP.i2d s1))), .second, .val (.int (0 : Int32)), .unset, .unset, .unset, .unset, .unset, .unset, .unset, .unset, .unset, .unset] [(.int (0 : Int32))])) (fun tq kq => XS.iload X0.here hx rfl (hb hby at_63) rfl  kq) ?_
      refine own_go (W1 := s₁.setTop (mkF m 79 #[.val (.int q), .val (.int sr), .val (.int rr), .val (.int mode), .val (.int s1), .val (.int (mode &&& (3 : Int32))), .val (.double (FP.dneg (FP.i2d s1))), .second, .val (.int (0 : Int32)), .unset, .unset, .unset, .unset, .unset, .unset, .unset, .unset, .unset, .unset] [])) (fun tq kq => XS.ifYes X0.here hx rfl (pc0 := 65) (pc' := 79) rfl (hb hby at_65) rfl ((if0 _ _).trans (teq (show (0 : Int32) = (0 : Int32) from (by decide))).1) (by decide) (by decide) kq) ?_
      refine own_go (W1 := s₁.setTop (mkF m 80 #[.val (.int q), .val (.int sr), .val (.int rr), .val (.int mode), .val (.int s1), .val (.int (mode &&& (3 : Int32))), .val (.double (FP.dneg (FP.i2d s1))), .second, .val (.int (0 : Int32)), .unset, .unset, .unset, .unset, .unset, .unset, .unset, .unset, .unset, .unset] [(.int rr)])) (fun tq kq => XS.iloadN X0.here hx rfl (hb hby at_79) rfl  kq) ?_
      refine own_go (W1 := s₁.setTop (mkF m 81 #[.val (.int q), .val (.int sr), .val (.int rr), .val (.int mode), .val (.int s1), .val (.int (mode &&& (3 : Int32))), .val (.double (FP.dneg (FP.i2d s1))), .second, .val (.int (0 : Int32)), .unset, .unset, .unset, .unset, .unset, .unset, .unset, .unset, .unset, .unset] [(.long (rr.toInt64))])) (fun tq kq => XS.i2l X0.here hx rfl (hb hby at_80) rfl kq) ?_
      refine own_go (W1 := s₁.setTop (mkF m 83 #[.val (.int q), .val (.int sr), .val (.int rr), .val (.int mode), .val (.int s1), .val (.int (mode &&& (3 : Int32))), .val (.double (FP.dneg (FP.i2d s1))), .second, .val (.int (0 : Int32)), .val (.long (rr.toInt64)), .second, .unset, .unset, .unset, .unset, .unset, .unset, .unset, .unset] [])) (fun tq kq => XS.lstore X0.here hx rfl (hb hby at_81) rfl (l' := #[.val (.int q), .val (.int sr), .val (.int rr), .val (.int mode), .val (.int s1), .val (.int (mode &&& (3 : Int32))), .val (.double (FP.dneg (FP.i2d s1))), .second, .val (.int (0 : Int32)), .val (.long (rr.toInt64)), .second, .unset, .unset, .unset, .unset, .unset, .unset, .unset, .unset]) rfl kq) ?_
      refine own_go (W1 := s₁.setTop (mkF m 84 #[.val (.int q), .val (.int sr), .val (.int rr), .val (.int mode), .val (.int s1), .val (.int (mode &&& (3 : Int32))), .val (.double (FP.dneg (FP.i2d s1))), .second, .val (.int (0 : Int32)), .val (.long (rr.toInt64)), .second, .unset, .unset, .unset, .unset, .unset, .unset, .unset, .unset] [(.int q)])) (fun tq kq => XS.iloadN X0.here hx rfl (hb hby at_83) rfl  kq) ?_
      refine own_go (W1 := s₁.setTop (mkF m 85 #[.val (.int q), .val (.int sr), .val (.int rr), .val (.int mode), .val (.int s1), .val (.int (mode &&& (3 : Int32))), .val (.double (FP.dneg (FP.i2d s1))), .second, .val (.int (0 : Int32)), .val (.long (rr.toInt64)), .second, .unset, .unset, .unset, .unset, .unset, .unset, .unset, .unset] [(.long (q.toInt64))])) (fun tq kq => XS.i2l X0.here hx rfl (hb hby at_84) rfl kq) ?_
      refine own_go (W1 := s₁.setTop (mkF m 87 #[.val (.int q), .val (.int sr), .val (.int rr), .val (.int mode), .val (.int s1), .val (.int (mode &&& (3 : Int32))), .val (.double (FP.dneg (FP.i2d s1))), .second, .val (.int (0 : Int32)), .val (.long (rr.toInt64)), .second, .unset, .unset, .unset, .unset, .unset, .unset, .unset, .unset] [(.int s1), (.long (q.toInt64))])) (fun tq kq => XS.iload X0.here hx rfl (hb hby at_85) rfl  kq) ?_
      refine own_go (W1 := s₁.setTop (mkF m 88 #[.val (.int q), .val (.int sr), .val (.int rr), .val (.int mode), .val (.int s1), .val (.int (mode &&& (3 : Int32))), .val (.double (FP.dneg (FP.i2d s1))), .second, .val (.int (0 : Int32)), .val (.long (rr.toInt64)), .second, .unset, .unset, .unset, .unset, .unset, .unset, .unset, .unset] [(.long (s1.toInt64)), (.long (q.toInt64))])) (fun tq kq => XS.i2l X0.here hx rfl (hb hby at_87) rfl kq) ?_
      refine own_go (W1 := s₁.setTop (mkF m 89 #[.val (.int q), .val (.int sr), .val (.int rr), .val (.int mode), .val (.int s1), .val (.int (mode &&& (3 : Int32))), .val (.double (FP.dneg (FP.i2d s1))), .second, .val (.int (0 : Int32)), .val (.long (rr.toInt64)), .second, .unset, .unset, .unset, .unset, .unset, .unset, .unset, .unset] [(.long ((q.toInt64) * (s1.toInt64)))])) (fun tq kq => XS.lmul X0.here hx rfl (hb hby at_88) rfl kq) ?_
      refine own_go (W1 := s₁.setTop (mkF m 91 #[.val (.int q), .val (.int sr), .val (.int rr), .val (.int mode), .val (.int s1), .val (.int (mode &&& (3 : Int32))), .val (.double (FP.dneg (FP.i2d s1))), .second, .val (.int (0 : Int32)), .val (.long (rr.toInt64)), .second, .unset, .unset, .unset, .unset, .unset, .unset, .unset, .unset] [(.long (rr.toInt64)), (.long ((q.toInt64) * (s1.toInt64)))])) (fun tq kq => XS.lload X0.here hx rfl (hb hby at_89) rfl  kq) ?_
      refine own_go (W1 := s₁.setTop (mkF m 92 #[.val (.int q), .val (.int sr), .val (.int rr), .val (.int mode), .val (.int s1), .val (.int (mode &&& (3 : Int32))), .val (.double (FP.dneg (FP.i2d s1))), .second, .val (.int (0 : Int32)), .val (.long (rr.toInt64)), .second, .unset, .unset, .unset, .unset, .unset, .unset, .unset, .unset] [(.long (((q.toInt64) * (s1.toInt64)) + (rr.toInt64)))])) (fun tq kq => XS.ladd X0.here hx rfl (hb hby at_91) rfl kq) ?_
      refine own_go (W1 := s₁.setTop (mkF m 94 #[.val (.int q), .val (.int sr), .val (.int rr), .val (.int mode), .val (.int s1), .val (.int (mode &&& (3 : Int32))), .val (.double (FP.dneg (FP.i2d s1))), .second, .val (.int (0 : Int32)), .val (.long (rr.toInt64)), .second, .val (.long (((q.toInt64) * (s1.toInt64)) + (rr.toInt64))), .second, .unset, .unset, .unset, .unset, .unset, .unset] [])) (fun tq kq => XS.lstore X0.here hx rfl (hb hby at_92) rfl (l' := #[.val (.int q), .val (.int sr), .val (.int rr), .val (.int mode), .val (.int s1), .val (.int (mode &&& (3 : Int32))), .val (.double (FP.dneg (FP.i2d s1))), .second, .val (.int (0 : Int32)), .val (.long (rr.toInt64)), .second, .val (.long (((q.toInt64) * (s1.toInt64)) + (rr.toInt64))), .second, .unset, .unset, .unset, .unset, .unset, .unset]) rfl kq) ?_
      refine own_go (W1 := s₁.setTop (mkF m 96 #[.val (.int q), .val (.int sr), .val (.int rr), .val (.int mode), .val (.int s1), .val (.int (mode &&& (3 : Int32))), .val (.double (FP.dneg (FP.i2d s1))), .second, .val (.int (0 : Int32)), .val (.long (rr.toInt64)), .second, .val (.long (((q.toInt64) * (s1.toInt64)) + (rr.toInt64))), .second, .unset, .unset, .unset, .unset, .unset, .unset] [(.long (((q.toInt64) * (s1.toInt64)) + (rr.toInt64)))])) (fun tq kq => XS.lload X0.here hx rfl (hb hby at_94) rfl  kq) ?_
      refine own_go (W1 := s₁.setTop (mkF m 97 #[.val (.int q), .val (.int sr), .val (.int rr), .val (.int mode), .val (.int s1), .val (.int (mode &&& (3 : Int32))), .val (.double (FP.dneg (FP.i2d s1))), .second, .val (.int (0 : Int32)), .val (.long (rr.toInt64)), .second, .val (.long (((q.toInt64) * (s1.toInt64)) + (rr.toInt64))), .second, .unset, .unset, .unset, .unset, .unset, .unset] [(.double (FP.l2d (((q.toInt64) * (s1.toInt64)) + (rr.toInt64))))])) (fun tq kq => XS.l2dS X0.here hx rfl (hb hby at_96) rfl rfl kq) ?_
      refine own_go (W1 := s₁.setTop (mkF m 99 #[.val (.int q), .val (.int sr), .val (.int rr), .val (.int mode), .val (.int s1), .val (.int (mode &&& (3 : Int32))), .val (.double (FP.dneg (FP.i2d s1))), .second, .val (.int (0 : Int32)), .val (.long (rr.toInt64)), .second, .val (.long (((q.toInt64) * (s1.toInt64)) + (rr.toInt64))), .second, .val (.double (FP.l2d (((q.toInt64) * (s1.toInt64)) + (rr.toInt64)))), .second, .unset, .unset, .unset, .unset] [])) (fun tq kq => XS.dstore X0.here hx rfl (hb hby at_97) rfl (l' := #[.val (.int q), .val (.int sr), .val (.int rr), .val (.int mode), .val (.int s1), .val (.int (mode &&& (3 : Int32))), .val (.double (FP.dneg (FP.i2d s1))), .second, .val (.int (0 : Int32)), .val (.long (rr.toInt64)), .second, .val (.long (((q.toInt64) * (s1.toInt64)) + (rr.toInt64))), .second, .val (.double (FP.l2d (((q.toInt64) * (s1.toInt64)) + (rr.toInt64)))), .second, .unset, .unset, .unset, .unset]) rfl kq) ?_
      refine own_go (W1 := s₁.setTop (mkF m 101 #[.val (.int q), .val (.int sr), .val (.int rr), .val (.int mode), .val (.int s1), .val (.int (mode &&& (3 : Int32))), .val (.double (FP.dneg (FP.i2d s1))), .second, .val (.int (0 : Int32)), .val (.long (rr.toInt64)), .second, .val (.long (((q.toInt64) * (s1.toInt64)) + (rr.toInt64))), .second, .val (.double (FP.l2d (((q.toInt64) * (s1.toInt64)) + (rr.toInt64)))), .second, .unset, .unset, .unset, .unset] [(.double (FP.l2d (((q.toInt64) * (s1.toInt64)) + (rr.toInt64))))])) (fun tq kq => XS.dload X0.here hx rfl (hb hby at_99) rfl  kq) ?_
      refine own_go (W1 := s₁.setTop (mkF m 103 #[.val (.int q), .val (.int sr), .val (.int rr), .val (.int mode), .val (.int s1), .val (.int (mode &&& (3 : Int32))), .val (.double (FP.dneg (FP.i2d s1))), .second, .val (.int (0 : Int32)), .val (.long (rr.toInt64)), .second, .val (.long (((q.toInt64) * (s1.toInt64)) + (rr.toInt64))), .second, .val (.double (FP.l2d (((q.toInt64) * (s1.toInt64)) + (rr.toInt64)))), .second, .unset, .unset, .unset, .unset] [(.double (FP.dneg (FP.i2d s1))), (.double (FP.l2d (((q.toInt64) * (s1.toInt64)) + (rr.toInt64))))])) (fun tq kq => XS.dload X0.here hx rfl (hb hby at_101) rfl  kq) ?_
      obtain ⟨_, _, ⟨T2, L2, k2, n2⟩, -, X2, ⟨Lc2, hQ2, l2, y2, z2⟩, st2⟩ := Jvm.LawKit.callS X0 hx (y := (⟨"com/example/bemesser/bemesser/analysis/CrossSectionValues", "density", "(DD)D"⟩ : MethodName)) hown (mvT hZ (hw _ (List.mem_of_getElem? (i := 2) rfl))) (mvT hZ (hw _ (List.mem_of_getElem? (i := 3) rfl))) (mvT hZ (hw _ (List.mem_of_getElem? (i := 4) rfl))) (mvT hZ (hw _ (List.mem_of_getElem? (i := 5) rfl))) (by decide) (backOf (W := 0) (rmN l Z a0 hw [] (FP.l2d (((q.toInt64) * (s1.toInt64)) + (rr.toInt64))) (FP.dneg (FP.i2d s1)) h0 n0 Z0 (own_negz hs)) hZ (hw _ (List.mem_of_getElem? (i := 5) rfl)) (hw _ (List.mem_of_getElem? (i := 4) rfl)) (by decide) (by decide)) (g := (mkF m 103 #[.val (.int q), .val (.int sr), .val (.int rr), .val (.int mode), .val (.int s1), .val (.int (mode &&& (3 : Int32))), .val (.double (FP.dneg (FP.i2d s1))), .second, .val (.int (0 : Int32)), .val (.long (rr.toInt64)), .second, .val (.long (((q.toInt64) * (s1.toInt64)) + (rr.toInt64))), .second, .val (.double (FP.l2d (((q.toInt64) * (s1.toInt64)) + (rr.toInt64)))), .second, .unset, .unset, .unset, .unset] [(.double (FP.dneg (FP.i2d s1))), (.double (FP.l2d (((q.toInt64) * (s1.toInt64)) + (rr.toInt64))))])) rfl (by rw [hml]; rfl) (argsL := [(.double (FP.l2d (((q.toInt64) * (s1.toInt64)) + (rr.toInt64)))), (.double (FP.dneg (FP.i2d s1)))]) (rest := []) (lenOf own_pd0 rfl) rfl (by show 2 * 0 + _ ≤ _; exact Nat.le_of_eq rfl) (hb hby at_103) (fun _ _ => ⟨rfl, e0, (by decide : 0 + 0 ≤ _), (by decide : 0 + 0 ≤ _)⟩)
      dsimp only [Pt.U, Pt.locs, Pt.cells, Pt.slots] at X2 l2 y2 z2 st2 hQ2
      subst l2 y2 z2
      obtain ⟨rfl, Nq2, eh2⟩ := hQ2
      have N2 := Fr.app N0 Nq2
      refine own_go (W1 := T2.setTop (mkF m 106 #[.val (.int q), .val (.int sr), .val (.int rr), .val (.int mode), .val (.int s1), .val (.int (mode &&& (3 : Int32))), .val (.double (FP.dneg (FP.i2d s1))), .second, .val (.int (0 : Int32)), .val (.long (rr.toInt64)), .second, .val (.long (((q.toInt64) * (s1.toInt64)) + (rr.toInt64))), .second, .val (.double (FP.l2d (((q.toInt64) * (s1.toInt64)) + (rr.toInt64)))), .second, .unset, .unset, .unset, .unset] [(.double (9221120237041090560 : UInt64))])) st2 ?_
      refine own_go (W1 := T2.setTop (mkF m 108 #[.val (.int q), .val (.int sr), .val (.int rr), .val (.int mode), .val (.int s1), .val (.int (mode &&& (3 : Int32))), .val (.double (FP.dneg (FP.i2d s1))), .second, .val (.int (0 : Int32)), .val (.long (rr.toInt64)), .second, .val (.long (((q.toInt64) * (s1.toInt64)) + (rr.toInt64))), .second, .val (.double (FP.l2d (((q.toInt64) * (s1.toInt64)) + (rr.toInt64)))), .second, .val (.double (9221120237041090560 : UInt64)), .second, .unset, .unset] [])) (fun tq kq => XS.dstore X2.here hx rfl (hb hby at_106) rfl (l' := #[.val (.int q), .val (.int sr), .val (.int rr), .val (.int mode), .val (.int s1), .val (.int (mode &&& (3 : Int32))), .val (.double (FP.dneg (FP.i2d s1))), .second, .val (.int (0 : Int32)), .val (.long (rr.toInt64)), .second, .val (.long (((q.toInt64) * (s1.toInt64)) + (rr.toInt64))), .second, .val (.double (FP.l2d (((q.toInt64) * (s1.toInt64)) + (rr.toInt64)))), .second, .val (.double (9221120237041090560 : UInt64)), .second, .unset, .unset]) rfl kq) ?_
      refine own_go (W1 := T2.setTop (mkF m 110 #[.val (.int q), .val (.int sr), .val (.int rr), .val (.int mode), .val (.int s1), .val (.int (mode &&& (3 : Int32))), .val (.double (FP.dneg (FP.i2d s1))), .second, .val (.int (0 : Int32)), .val (.long (rr.toInt64)), .second, .val (.long (((q.toInt64) * (s1.toInt64)) + (rr.toInt64))), .second, .val (.double (FP.l2d (((q.toInt64) * (s1.toInt64)) + (rr.toInt64)))), .second, .val (.double (9221120237041090560 : UInt64)), .second, .unset, .unset] [(.int (0 : Int32))])) (fun tq kq => XS.iload X2.here hx rfl (hb hby at_108) rfl  kq) ?_
      refine own_go (W1 := T2.setTop (mkF m 113 #[.val (.int q), .val (.int sr), .val (.int rr), .val (.int mode), .val (.int s1), .val (.int (mode &&& (3 : Int32))), .val (.double (FP.dneg (FP.i2d s1))), .second, .val (.int (0 : Int32)), .val (.long (rr.toInt64)), .second, .val (.long (((q.toInt64) * (s1.toInt64)) + (rr.toInt64))), .second, .val (.double (FP.l2d (((q.toInt64) * (s1.toInt64)) + (rr.toInt64)))), .second, .val (.double (9221120237041090560 : UInt64)), .second, .unset, .unset] [])) (fun tq kq => XS.ifNo X2.here hx rfl (hb hby at_110) rfl ((if0 _ _).trans (teq (show (0 : Int32) = (0 : Int32) from (by decide))).2) kq) ?_
      refine own_go (W1 := T2.setTop (mkF m 115 #[.val (.int q), .val (.int sr), .val (.int rr), .val (.int mode), .val (.int s1), .val (.int (mode &&& (3 : Int32))), .val (.double (FP.dneg (FP.i2d s1))), .second, .val (.int (0 : Int32)), .val (.long (rr.toInt64)), .second, .val (.long (((q.toInt64) * (s1.toInt64)) + (rr.toInt64))), .second, .val (.double (FP.l2d (((q.toInt64) * (s1.toInt64)) + (rr.toInt64)))), .second, .val (.double (9221120237041090560 : UInt64)), .second, .unset, .unset] [(.double (9221120237041090560 : UInt64))])) (fun tq kq => XS.dload X2.here hx rfl (hb hby at_113) rfl  kq) ?_
      refine own_go (W1 := T2.setTop (mkF m 117 #[.val (.int q), .val (.int sr), .val (.int rr), .val (.int mode), .val (.int s1), .val (.int (mode &&& (3 : Int32))), .val (.double (FP.dneg (FP.i2d s1))), .second, .val (.int (0 : Int32)), .val (.long (rr.toInt64)), .second, .val (.long (((q.toInt64) * (s1.toInt64)) + (rr.toInt64))), .second, .val (.double (FP.l2d (((q.toInt64) * (s1.toInt64)) + (rr.toInt64)))), .second, .val (.double (9221120237041090560 : UInt64)), .second, .unset, .unset] [(.double (9221120237041090560 : UInt64)), (.double (9221120237041090560 : UInt64))])) (fun tq kq => XS.dload X2.here hx rfl (hb hby at_115) rfl  kq) ?_
      refine own_go (W1 := T2.setTop (mkF m 118 #[.val (.int q), .val (.int sr), .val (.int rr), .val (.int mode), .val (.int s1), .val (.int (mode &&& (3 : Int32))), .val (.double (FP.dneg (FP.i2d s1))), .second, .val (.int (0 : Int32)), .val (.long (rr.toInt64)), .second, .val (.long (((q.toInt64) * (s1.toInt64)) + (rr.toInt64))), .second, .val (.double (FP.l2d (((q.toInt64) * (s1.toInt64)) + (rr.toInt64)))), .second, .val (.double (9221120237041090560 : UInt64)), .second, .unset, .unset] [(.int (cmpValue (FP.dcmp (9221120237041090560 : UInt64) (9221120237041090560 : UInt64)) .l))])) (fun tq kq => XS.dcmpS X2.here hx rfl (hb hby at_117) rfl rfl kq) ?_
      refine own_go (W1 := T2.setTop (mkF m 121 #[.val (.int q), .val (.int sr), .val (.int rr), .val (.int mode), .val (.int s1), .val (.int (mode &&& (3 : Int32))), .val (.double (FP.dneg (FP.i2d s1))), .second, .val (.int (0 : Int32)), .val (.long (rr.toInt64)), .second, .val (.long (((q.toInt64) * (s1.toInt64)) + (rr.toInt64))), .second, .val (.double (FP.l2d (((q.toInt64) * (s1.toInt64)) + (rr.toInt64)))), .second, .val (.double (9221120237041090560 : UInt64)), .second, .unset, .unset] [])) (fun tq kq => XS.ifNo X2.here hx rfl (hb hby at_118) rfl ((if0 _ _).trans (feq (show ¬ ((cmpValue (FP.dcmp (9221120237041090560 : UInt64) (9221120237041090560 : UInt64)) .l) = (0 : Int32)) from (by decide +kernel))).1) kq) ?_
      refine own_go (W1 := T2.setTop (mkF m 122 #[.val (.int q), .val (.int sr), .val (.int rr), .val (.int mode), .val (.int s1), .val (.int (mode &&& (3 : Int32))), .val (.double (FP.dneg (FP.i2d s1))), .second, .val (.int (0 : Int32)), .val (.long (rr.toInt64)), .second, .val (.long (((q.toInt64) * (s1.toInt64)) + (rr.toInt64))), .second, .val (.double (FP.l2d (((q.toInt64) * (s1.toInt64)) + (rr.toInt64)))), .second, .val (.double (9221120237041090560 : UInt64)), .second, .unset, .unset] [(.int (1 : Int32))])) (fun tq kq => XS.iconst X2.here hx rfl (hb hby at_121) kq) ?_
      refine own_go (W1 := T2.setTop (mkF m 126 #[.val (.int q), .val (.int sr), .val (.int rr), .val (.int mode), .val (.int s1), .val (.int (mode &&& (3 : Int32))), .val (.double (FP.dneg (FP.i2d s1))), .second, .val (.int (0 : Int32)), .val (.long (rr.toInt64)), .second, .val (.long (((q.toInt64) * (s1.toInt64)) + (rr.toInt64))), .second, .val (.double (FP.l2d (((q.toInt64) * (s1.toInt64)) + (rr.toInt64)))), .second, .val (.double (9221120237041090560 : UInt64)), .second, .unset, .unset] [(.int (1 : Int32))])) (fun tq kq => XS.goto X2.here hx rfl (pc0 := 122) (pc' := 126) rfl (hb hby at_122) (by decide) (by decide) kq) ?_
      exact own_retN X2 hx (t := .boolean) Bd.returns (by simp) (hb hby at_126) hlk (by decide) (by decide) ⟨rfl, N2⟩
    · skip
      refine own_go (W1 := s₁.setTop (mkF m 46 #[.val (.int q), .val (.int sr), .val (.int rr), .val (.int mode), .val (.int s1), .val (.int (mode &&& (3 : Int32))), .unset, .unset, .unset, .unset, .unset, .unset, .unset, .unset, .unset, .unset, .unset, .unset, .unset] [])) (fun tq kq => XS.icmpYes X0.here hx rfl (pc0 := 31) (pc' := 46) rfl (hb hby at_31) rfl (feq (show ¬ ((mode &&& (3 : Int32)) = (2 : Int32)) from hc31_2)).2 (by decide) (by decide) kq) ?_
      refine own_go (W1 := s₁.setTop (mkF m 48 #[.val (.int q), .val (.int sr), .val (.int rr), .val (.int mode), .val (.int s1), .val (.int (mode &&& (3 : Int32))), .unset, .unset, .unset, .unset, .unset, .unset, .unset, .unset, .unset, .unset, .unset, .unset, .unset] [(.int s1)])) (fun tq kq => XS.iload X0.here hx rfl (hb hby at_46) rfl  kq) ?_
      refine own_go (W1 := s₁.setTop (mkF m 49 #[.val (.int q), .val (.int sr), .val (.int rr), .val (.int mode), .val (.int s1), .val (.int (mode &&& (3 : Int32))), .unset, .unset, .unset, .unset, .unset, .unset, .unset, .unset, .unset, .unset, .unset, .unset, .unset] [(.double (FP.i2d s1))])) (fun tq kq => XS.i2dS X0.here hx rfl (hb hby at_48) rfl rfl kq) ?_
      refine own_go (W1 := s₁.setTop (mkF m 51 #[.val (.int q), .val (.int sr), .val (.int rr), .val (.int mode), .val (.int s1), .val (.int (mode &&& (3 : Int32))), .val (.double (FP.i2d s1)), .second, .unset, .unset, .unset, .unset, .unset, .unset, .unset, .unset, .unset, .unset, .unset] [])) (fun tq kq => XS.dstore X0.here hx rfl (hb hby at_49) rfl (l' := #[.val (.int q), .val (.int sr), .val (.int rr), .val (.int mode), .val (.int s1), .val (.int (mode &&& (3 : Int32))), .val (.double (FP.i2d s1)), .second, .unset, .unset, .unset, .unset, .unset, .unset, .unset, .unset, .unset, .unset, .unset]) rfl kq) ?_
      refine own_go (W1 := s₁.setTop (mkF m 53 #[.val (.int q), .val (.int sr), .val (.int rr), .val (.int mode), .val (.int s1), .val (.int (mode &&& (3 : Int32))), .val (.double (FP.i2d s1)), .second, .unset, .unset, .unset, .unset, .unset, .unset, .unset, .unset, .unset, .unset, .unset] [(.int s1)])) (fun tq kq => XS.iload X0.here hx rfl (hb hby at_51) rfl  kq) ?_
      by_cases hc53_3 : (0 : Int32) < s1
      · skip
        refine own_go (W1 := s₁.setTop (mkF m 56 #[.val (.int q), .val (.int sr), .val (.int rr), .val (.int mode), .val (.int s1), .val (.int (mode &&& (3 : Int32))), .val (.double (FP.i2d s1)), .second, .unset, .unset, .unset, .unset, .unset, .unset, .unset, .unset, .unset, .unset, .unset] [])) (fun tq kq => XS.ifNo X0.here hx rfl (hb hby at_53) rfl ((if0 _ _).trans (tlt (show (0 : Int32) < s1 from hc53_3)).2.2.2) kq) ?_
        refine own_go (W1 := s₁.setTop (mkF m 57 #[.val (.int q), .val (.int sr), .val (.int rr), .val (.int mode), .val (.int s1), .val (.int (mode &&& (3 : Int32))), .val (.double (FP.i2d s1)), .second, .unset, .unset, .unset, .unset, .unset, .unset, .unset, .unset, .unset, .unset, .unset] [(.int (1 : Int32))])) (fun tq kq => XS.iconst X0.here hx rfl (hb hby at_56) kq) ?_
        refine own_go (W1 := s₁.setTop (mkF m 61 #[.val (.int q), .val (.int sr), .val (.int rr), .val (.int mode), .val (.int s1), .val (.int (mode &&& (3 : Int32))), .val (.double (FP.i2d s1)), .second, .unset, .unset, .unset, .unset, .unset, .unset, .unset, .unset, .unset, .unset, .unset] [(.int (1 : Int32))])) (fun tq kq => XS.goto X0.here hx rfl (pc0 := 57) (pc' := 61) rfl (hb hby at_57) (by decide) (by decide) kq) ?_
        refine own_go (W1 := s₁.setTop (mkF m 63 #[.val (.int q), .val (.int sr), .val (.int rr), .val (.int mode), .val (.int s1), .val (.int (mode &&& (3 : Int32))), .val (.double (FP.i2d s1)), .second, .val (.int (1 : Int32)), .unset, .unset, .unset, .unset, .unset, .unset, .unset, .unset, .unset, .unset] [])) (fun tq kq => XS.istore X0.here hx rfl (hb hby at_61) rfl (l' := #[.val (.int q), .val (.int sr), .val (.int rr), .val (.int mode), .val (.int s1), .val (.int (mode &&& (3 : Int32))), .val (.double (FP.i2d s1)), .second, .val (.int (1 : Int32)), .unset, .unset, .unset, .unset, .unset, .unset, .unset, .unset, .unset, .unset]) rfl kq) ?_
        refine own_go (W1 := s₁.setTop (mkF m 65 #[.val (.int q), .val (.int sr), .val (.int rr), .val (.int mode), .val (.int s1), .val (.int (mode &&& (3 : Int32))), .val (.double (FP.i2d s1)), .second, .val (.int (1 : Int32)), .unset, .unset, .unset, .unset, .unset, .unset, .unset, .unset, .unset, .unset] [(.int (1 : Int32))])) (fun tq kq => XS.iload X0.here hx rfl (hb hby at_63) rfl  kq) ?_
        refine own_go (W1 := s₁.setTop (mkF m 68 #[.val (.int q), .val (.int sr), .val (.int rr), .val (.int mode), .val (.int s1), .val (.int (mode &&& (3 : Int32))), .val (.double (FP.i2d s1)), .second, .val (.int (1 : Int32)), .unset, .unset, .unset, .unset, .unset, .unset, .unset, .unset, .unset, .unset] [])) (fun tq kq => XS.ifNo X0.here hx rfl (hb hby at_65) rfl ((if0 _ _).trans (feq (show ¬ ((1 : Int32) = (0 : Int32)) from (by decide))).1) kq) ?_
        refine own_go (W1 := s₁.setTop (mkF m 69 #[.val (.int q), .val (.int sr), .val (.int rr), .val (.int mode), .val (.int s1), .val (.int (mode &&& (3 : Int32))), .val (.double (FP.i2d s1)), .second, .val (.int (1 : Int32)), .unset, .unset, .unset, .unset, .unset, .unset, .unset, .unset, .unset, .unset] [(.int rr)])) (fun tq kq => XS.iloadN X0.here hx rfl (hb hby at_68) rfl  kq) ?_
        refine own_go (W1 := s₁.setTop (mkF m 71 #[.val (.int q), .val (.int sr), .val (.int rr), .val (.int mode), .val (.int s1), .val (.int (mode &&& (3 : Int32))), .val (.double (FP.i2d s1)), .second, .val (.int (1 : Int32)), .unset, .unset, .unset, .unset, .unset, .unset, .unset, .unset, .unset, .unset] [(.int (2147483647 : Int32)), (.int rr)])) (X0.ldcInt hx hown (mvT hZ (hw _ (List.mem_of_getElem? (i := 1) rfl))) (g := (mkF m 69 #[.val (.int q), .val (.int sr), .val (.int rr), .val (.int mode), .val (.int s1), .val (.int (mode &&& (3 : Int32))), .val (.double (FP.i2d s1)), .second, .val (.int (1 : Int32)), .unset, .unset, .unset, .unset, .unset, .unset, .unset, .unset, .unset, .unset] [(.int rr)])) rfl (hb hby at_69)) ?_
        refine own_go (W1 := s₁.setTop (mkF m 72 #[.val (.int q), .val (.int sr), .val (.int rr), .val (.int mode), .val (.int s1), .val (.int (mode &&& (3 : Int32))), .val (.double (FP.i2d s1)), .second, .val (.int (1 : Int32)), .unset, .unset, .unset, .unset, .unset, .unset, .unset, .unset, .unset, .unset] [(.int (rr &&& (2147483647 : Int32)))])) (fun tq kq => XS.iand X0.here hx rfl (hb hby at_71) rfl kq) ?_
        refine own_go (W1 := s₁.setTop (mkF m 74 #[.val (.int q), .val (.int sr), .val (.int rr), .val (.int mode), .val (.int s1), .val (.int (mode &&& (3 : Int32))), .val (.double (FP.i2d s1)), .second, .val (.int (1 : Int32)), .unset, .unset, .unset, .unset, .unset, .unset, .unset, .unset, .unset, .unset] [(.int s1), (.int (rr &&& (2147483647 : Int32)))])) (fun tq kq => XS.iload X0.here hx rfl (hb hby at_72) rfl  kq) ?_
        refine own_go (W1 := s₁.setTop (mkF m 75 #[.val (.int q), .val (.int sr), .val (.int rr), .val (.int mode), .val (.int s1), .val (.int (mode &&& (3 : Int32))), .val (.double (FP.i2d s1)), .second, .val (.int (1 : Int32)), .unset, .unset, .unset, .unset, .unset, .unset, .unset, .unset, .unset, .unset] [(.int ((rr &&& (2147483647 : Int32)) % s1))])) (fun tq kq => iremM X0 hx rfl (hb hby at_74) rfl (own_nz hc53_3) kq) ?_
        refine own_go (W1 := s₁.setTop (mkF m 76 #[.val (.int q), .val (.int sr), .val (.int rr), .val (.int mode), .val (.int s1), .val (.int (mode &&& (3 : Int32))), .val (.double (FP.i2d s1)), .second, .val (.int (1 : Int32)), .unset, .unset, .unset, .unset, .unset, .unset, .unset, .unset, .unset, .unset] [(.long (((rr &&& (2147483647 : Int32)) % s1).toInt64))])) (fun tq kq => XS.i2l X0.here hx rfl (hb hby at_75) rfl kq) ?_
        refine own_go (W1 := s₁.setTop (mkF m 81 #[.val (.int q), .val (.int sr), .val (.int rr), .val (.int mode), .val (.int s1), .val (.int (mode &&& (3 : Int32))), .val (.double (FP.i2d s1)), .second, .val (.int (1 : Int32)), .unset, .unset, .unset, .unset, .unset, .unset, .unset, .unset, .unset, .unset] [(.long (((rr &&& (2147483647 : Int32)) % s1).toInt64))])) (fun tq kq => XS.goto X0.here hx rfl (pc0 := 76) (pc' := 81) rfl (hb hby at_76) (by decide) (by decide) kq) ?_
        have h1s : 1 ≤ s1.toInt := own_one hc53_3
        have hr := own_rem rr h1s
        generalize ((rr &&& (2147483647 : Int32)) % s1) = r1 at *
        have hpos := own_gt hs h1s
        have hnn := own_nn (f := q.toInt64 * s1.toInt64 + r1.toInt64) h1s
        refine own_go (W1 := s₁.setTop (mkF m 83 #[.val (.int q), .val (.int sr), .val (.int rr), .val (.int mode), .val (.int s1), .val (.int (mode &&& (3 : Int32))), .val (.double (FP.i2d s1)), .second, .val (.int (1 : Int32)), .val (.long (r1.toInt64)), .second, .unset, .unset, .unset, .unset, .unset, .unset, .unset, .unset] [])) (fun tq kq => XS.lstore X0.here hx rfl (hb hby at_81) rfl (l' := #[.val (.int q), .val (.int sr), .val (.int rr), .val (.int mode), .val (.int s1), .val (.int (mode &&& (3 : Int32))), .val (.double (FP.i2d s1)), .second, .val (.int (1 : Int32)), .val (.long (r1.toInt64)), .second, .unset, .unset, .unset, .unset, .unset, .unset, .unset, .unset]) rfl kq) ?_
        refine own_go (W1 := s₁.setTop (mkF m 84 #[.val (.int q), .val (.int sr), .val (.int rr), .val (.int mode), .val (.int s1), .val (.int (mode &&& (3 : Int32))), .val (.double (FP.i2d s1)), .second, .val (.int (1 : Int32)), .val (.long (r1.toInt64)), .second, .unset, .unset, .unset, .unset, .unset, .unset, .unset, .unset] [(.int q)])) (fun tq kq => XS.iloadN X0.here hx rfl (hb hby at_83) rfl  kq) ?_
        refine own_go (W1 := s₁.setTop (mkF m 85 #[.val (.int q), .val (.int sr), .val (.int rr), .val (.int mode), .val (.int s1), .val (.int (mode &&& (3 : Int32))), .val (.double (FP.i2d s1)), .second, .val (.int (1 : Int32)), .val (.long (r1.toInt64)), .second, .unset, .unset, .unset, .unset, .unset, .unset, .unset, .unset] [(.long (q.toInt64))])) (fun tq kq => XS.i2l X0.here hx rfl (hb hby at_84) rfl kq) ?_
        refine own_go (W1 := s₁.setTop (mkF m 87 #[.val (.int q), .val (.int sr), .val (.int rr), .val (.int mode), .val (.int s1), .val (.int (mode &&& (3 : Int32))), .val (.double (FP.i2d s1)), .second, .val (.int (1 : Int32)), .val (.long (r1.toInt64)), .second, .unset, .unset, .unset, .unset, .unset, .unset, .unset, .unset] [(.int s1), (.long (q.toInt64))])) (fun tq kq => XS.iload X0.here hx rfl (hb hby at_85) rfl  kq) ?_
        refine own_go (W1 := s₁.setTop (mkF m 88 #[.val (.int q), .val (.int sr), .val (.int rr), .val (.int mode), .val (.int s1), .val (.int (mode &&& (3 : Int32))), .val (.double (FP.i2d s1)), .second, .val (.int (1 : Int32)), .val (.long (r1.toInt64)), .second, .unset, .unset, .unset, .unset, .unset, .unset, .unset, .unset] [(.long (s1.toInt64)), (.long (q.toInt64))])) (fun tq kq => XS.i2l X0.here hx rfl (hb hby at_87) rfl kq) ?_
        refine own_go (W1 := s₁.setTop (mkF m 89 #[.val (.int q), .val (.int sr), .val (.int rr), .val (.int mode), .val (.int s1), .val (.int (mode &&& (3 : Int32))), .val (.double (FP.i2d s1)), .second, .val (.int (1 : Int32)), .val (.long (r1.toInt64)), .second, .unset, .unset, .unset, .unset, .unset, .unset, .unset, .unset] [(.long ((q.toInt64) * (s1.toInt64)))])) (fun tq kq => XS.lmul X0.here hx rfl (hb hby at_88) rfl kq) ?_
        refine own_go (W1 := s₁.setTop (mkF m 91 #[.val (.int q), .val (.int sr), .val (.int rr), .val (.int mode), .val (.int s1), .val (.int (mode &&& (3 : Int32))), .val (.double (FP.i2d s1)), .second, .val (.int (1 : Int32)), .val (.long (r1.toInt64)), .second, .unset, .unset, .unset, .unset, .unset, .unset, .unset, .unset] [(.long (r1.toInt64)), (.long ((q.toInt64) * (s1.toInt64)))])) (fun tq kq => XS.lload X0.here hx rfl (hb hby at_89) rfl  kq) ?_
        refine own_go (W1 := s₁.setTop (mkF m 92 #[.val (.int q), .val (.int sr), .val (.int rr), .val (.int mode), .val (.int s1), .val (.int (mode &&& (3 : Int32))), .val (.double (FP.i2d s1)), .second, .val (.int (1 : Int32)), .val (.long (r1.toInt64)), .second, .unset, .unset, .unset, .unset, .unset, .unset, .unset, .unset] [(.long (((q.toInt64) * (s1.toInt64)) + (r1.toInt64)))])) (fun tq kq => XS.ladd X0.here hx rfl (hb hby at_91) rfl kq) ?_
        refine own_go (W1 := s₁.setTop (mkF m 94 #[.val (.int q), .val (.int sr), .val (.int rr), .val (.int mode), .val (.int s1), .val (.int (mode &&& (3 : Int32))), .val (.double (FP.i2d s1)), .second, .val (.int (1 : Int32)), .val (.long (r1.toInt64)), .second, .val (.long (((q.toInt64) * (s1.toInt64)) + (r1.toInt64))), .second, .unset, .unset, .unset, .unset, .unset, .unset] [])) (fun tq kq => XS.lstore X0.here hx rfl (hb hby at_92) rfl (l' := #[.val (.int q), .val (.int sr), .val (.int rr), .val (.int mode), .val (.int s1), .val (.int (mode &&& (3 : Int32))), .val (.double (FP.i2d s1)), .second, .val (.int (1 : Int32)), .val (.long (r1.toInt64)), .second, .val (.long (((q.toInt64) * (s1.toInt64)) + (r1.toInt64))), .second, .unset, .unset, .unset, .unset, .unset, .unset]) rfl kq) ?_
        refine own_go (W1 := s₁.setTop (mkF m 96 #[.val (.int q), .val (.int sr), .val (.int rr), .val (.int mode), .val (.int s1), .val (.int (mode &&& (3 : Int32))), .val (.double (FP.i2d s1)), .second, .val (.int (1 : Int32)), .val (.long (r1.toInt64)), .second, .val (.long (((q.toInt64) * (s1.toInt64)) + (r1.toInt64))), .second, .unset, .unset, .unset, .unset, .unset, .unset] [(.long (((q.toInt64) * (s1.toInt64)) + (r1.toInt64)))])) (fun tq kq => XS.lload X0.here hx rfl (hb hby at_94) rfl  kq) ?_
        refine own_go (W1 := s₁.setTop (mkF m 97 #[.val (.int q), .val (.int sr), .val (.int rr), .val (.int mode), .val (.int s1), .val (.int (mode &&& (3 : Int32))), .val (.double (FP.i2d s1)), .second, .val (.int (1 : Int32)), .val (.long (r1.toInt64)), .second, .val (.long (((q.toInt64) * (s1.toInt64)) + (r1.toInt64))), .second, .unset, .unset, .unset, .unset, .unset, .unset] [(.double (FP.l2d (((q.toInt64) * (s1.toInt64)) + (r1.toInt64))))])) (fun tq kq => XS.l2dS X0.here hx rfl (hb hby at_96) rfl rfl kq) ?_
        refine own_go (W1 := s₁.setTop (mkF m 99 #[.val (.int q), .val (.int sr), .val (.int rr), .val (.int mode), .val (.int s1), .val (.int (mode &&& (3 : Int32))), .val (.double (FP.i2d s1)), .second, .val (.int (1 : Int32)), .val (.long (r1.toInt64)), .second, .val (.long (((q.toInt64) * (s1.toInt64)) + (r1.toInt64))), .second, .val (.double (FP.l2d (((q.toInt64) * (s1.toInt64)) + (r1.toInt64)))), .second, .unset, .unset, .unset, .unset] [])) (fun tq kq => XS.dstore X0.here hx rfl (hb hby at_97) rfl (l' := #[.val (.int q), .val (.int sr), .val (.int rr), .val (.int mode), .val (.int s1), .val (.int (mode &&& (3 : Int32))), .val (.double (FP.i2d s1)), .second, .val (.int (1 : Int32)), .val (.long (r1.toInt64)), .second, .val (.long (((q.toInt64) * (s1.toInt64)) + (r1.toInt64))), .second, .val (.double (FP.l2d (((q.toInt64) * (s1.toInt64)) + (r1.toInt64)))), .second, .unset, .unset, .unset, .unset]) rfl kq) ?_
        refine own_go (W1 := s₁.setTop (mkF m 101 #[.val (.int q), .val (.int sr), .val (.int rr), .val (.int mode), .val (.int s1), .val (.int (mode &&& (3 : Int32))), .val (.double (FP.i2d s1)), .second, .val (.int (1 : Int32)), .val (.long (r1.toInt64)), .second, .val (.long (((q.toInt64) * (s1.toInt64)) + (r1.toInt64))), .second, .val (.double (FP.l2d (((q.toInt64) * (s1.toInt64)) + (r1.toInt64)))), .second, .unset, .unset, .unset, .unset] [(.double (FP.l2d (((q.toInt64) * (s1.toInt64)) + (r1.toInt64))))])) (fun tq kq => XS.dload X0.here hx rfl (hb hby at_99) rfl  kq) ?_
        refine own_go (W1 := s₁.setTop (mkF m 103 #[.val (.int q), .val (.int sr), .val (.int rr), .val (.int mode), .val (.int s1), .val (.int (mode &&& (3 : Int32))), .val (.double (FP.i2d s1)), .second, .val (.int (1 : Int32)), .val (.long (r1.toInt64)), .second, .val (.long (((q.toInt64) * (s1.toInt64)) + (r1.toInt64))), .second, .val (.double (FP.l2d (((q.toInt64) * (s1.toInt64)) + (r1.toInt64)))), .second, .unset, .unset, .unset, .unset] [(.double (FP.i2d s1)), (.double (FP.l2d (((q.toInt64) * (s1.toInt64)) + (r1.toInt64))))])) (fun tq kq => XS.dload X0.here hx rfl (hb hby at_101) rfl  kq) ?_
        obtain ⟨_, _, ⟨T3, L3, k3, n3⟩, -, X3, ⟨Lc3, hQ3, l3, y3, z3⟩, st3⟩ := Jvm.LawKit.callS X0 hx (y := (⟨"com/example/bemesser/bemesser/analysis/CrossSectionValues", "density", "(DD)D"⟩ : MethodName)) hown (mvT hZ (hw _ (List.mem_of_getElem? (i := 2) rfl))) (mvT hZ (hw _ (List.mem_of_getElem? (i := 3) rfl))) (mvT hZ (hw _ (List.mem_of_getElem? (i := 4) rfl))) (mvT hZ (hw _ (List.mem_of_getElem? (i := 5) rfl))) (by decide) (backOf (W := 0) (rmP l Z a0 hw [] (FP.l2d (((q.toInt64) * (s1.toInt64)) + (r1.toInt64))) (FP.i2d s1) h0 n0 Z0 hpos hnn) hZ (hw _ (List.mem_of_getElem? (i := 5) rfl)) (hw _ (List.mem_of_getElem? (i := 4) rfl)) (by decide) (by decide)) (g := (mkF m 103 #[.val (.int q), .val (.int sr), .val (.int rr), .val (.int mode), .val (.int s1), .val (.int (mode &&& (3 : Int32))), .val (.double (FP.i2d s1)), .second, .val (.int (1 : Int32)), .val (.long (r1.toInt64)), .second, .val (.long (((q.toInt64) * (s1.toInt64)) + (r1.toInt64))), .second, .val (.double (FP.l2d (((q.toInt64) * (s1.toInt64)) + (r1.toInt64)))), .second, .unset, .unset, .unset, .unset] [(.double (FP.i2d s1)), (.double (FP.l2d (((q.toInt64) * (s1.toInt64)) + (r1.toInt64))))])) rfl (by rw [hml]; rfl) (argsL := [(.double (FP.l2d (((q.toInt64) * (s1.toInt64)) + (r1.toInt64)))), (.double (FP.i2d s1))]) (rest := []) (lenOf own_pd0 rfl) rfl (by show 2 * 0 + _ ≤ _; exact Nat.le_of_eq rfl) (hb hby at_103) (fun _ _ => ⟨rfl, e0, (by decide : 0 + 0 ≤ _), (by decide : 0 + 0 ≤ _)⟩)
        dsimp only [Pt.U, Pt.locs, Pt.cells, Pt.slots] at X3 l3 y3 z3 st3 hQ3
        subst l3 y3 z3
        obtain ⟨rfl, Nq3, eh3⟩ := hQ3
        have N3 := Fr.app N0 Nq3
        refine own_go (W1 := T3.setTop (mkF m 106 #[.val (.int q), .val (.int sr), .val (.int rr), .val (.int mode), .val (.int s1), .val (.int (mode &&& (3 : Int32))), .val (.double (FP.i2d s1)), .second, .val (.int (1 : Int32)), .val (.long (r1.toInt64)), .second, .val (.long (((q.toInt64) * (s1.toInt64)) + (r1.toInt64))), .second, .val (.double (FP.l2d (((q.toInt64) * (s1.toInt64)) + (r1.toInt64)))), .second, .unset, .unset, .unset, .unset] [(.double (FP.ddiv (FP.l2d (((q.toInt64) * (s1.toInt64)) + (r1.toInt64))) (FP.i2d s1)))])) st3 ?_
        refine own_go (W1 := T3.setTop (mkF m 108 #[.val (.int q), .val (.int sr), .val (.int rr), .val (.int mode), .val (.int s1), .val (.int (mode &&& (3 : Int32))), .val (.double (FP.i2d s1)), .second, .val (.int (1 : Int32)), .val (.long (r1.toInt64)), .second, .val (.long (((q.toInt64) * (s1.toInt64)) + (r1.toInt64))), .second, .val (.double (FP.l2d (((q.toInt64) * (s1.toInt64)) + (r1.toInt64)))), .second, .val (.double (FP.ddiv (FP.l2d (((q.toInt64) * (s1.toInt64)) + (r1.toInt64))) (FP.i2d s1))), .second, .unset, .unset] [])) (fun tq kq => XS.dstore X3.here hx rfl (hb hby at_106) rfl (l' := #[.val (.int q), .val (.int sr), .val (.int rr), .val (.int mode), .val (.int s1), .val (.int (mode &&& (3 : Int32))), .val (.double (FP.i2d s1)), .second, .val (.int (1 : Int32)), .val (.long (r1.toInt64)), .second, .val (.long (((q.toInt64) * (s1.toInt64)) + (r1.toInt64))), .second, .val (.double (FP.l2d (((q.toInt64) * (s1.toInt64)) + (r1.toInt64)))), .second, .val (.double (FP.ddiv (FP.l2d (((q.toInt64) * (s1.toInt64)) + (r1.toInt64))) (FP.i2d s1))), .second, .unset, .unset]) rfl kq) ?_
        refine own_go (W1 := T3.setTop (mkF m 110 #[.val (.int q), .val (.int sr), .val (.int rr), .val (.int mode), .val (.int s1), .val (.int (mode &&& (3 : Int32))), .val (.double (FP.i2d s1)), .second, .val (.int (1 : Int32)), .val (.long (r1.toInt64)), .second, .val (.long (((q.toInt64) * (s1.toInt64)) + (r1.toInt64))), .second, .val (.double (FP.l2d (((q.toInt64) * (s1.toInt64)) + (r1.toInt64)))), .second, .val (.double (FP.ddiv (FP.l2d (((q.toInt64) * (s1.toInt64)) + (r1.toInt64))) (FP.i2d s1))), .second, .unset, .unset] [(.int (1 : Int32))])) (fun tq kq => XS.iload X3.here hx rfl (hb hby at_108) rfl  kq) ?_
        refine own_go (W1 := T3.setTop (mkF m 127 #[.val (.int q), .val (.int sr), .val (.int rr), .val (.int mode), .val (.int s1), .val (.int (mode &&& (3 : Int32))), .val (.double (FP.i2d s1)), .second, .val (.int (1 : Int32)), .val (.long (r1.toInt64)), .second, .val (.long (((q.toInt64) * (s1.toInt64)) + (r1.toInt64))), .second, .val (.double (FP.l2d (((q.toInt64) * (s1.toInt64)) + (r1.toInt64)))), .second, .val (.double (FP.ddiv (FP.l2d (((q.toInt64) * (s1.toInt64)) + (r1.toInt64))) (FP.i2d s1))), .second, .unset, .unset] [])) (fun tq kq => XS.ifYes X3.here hx rfl (pc0 := 110) (pc' := 127) rfl (hb hby at_110) rfl ((if0 _ _).trans (feq (show ¬ ((1 : Int32) = (0 : Int32)) from (by decide))).2) (by decide) (by decide) kq) ?_
        refine own_go (W1 := T3.setTop (mkF m 128 #[.val (.int q), .val (.int sr), .val (.int rr), .val (.int mode), .val (.int s1), .val (.int (mode &&& (3 : Int32))), .val (.double (FP.i2d s1)), .second, .val (.int (1 : Int32)), .val (.long (r1.toInt64)), .second, .val (.long (((q.toInt64) * (s1.toInt64)) + (r1.toInt64))), .second, .val (.double (FP.l2d (((q.toInt64) * (s1.toInt64)) + (r1.toInt64)))), .second, .val (.double (FP.ddiv (FP.l2d (((q.toInt64) * (s1.toInt64)) + (r1.toInt64))) (FP.i2d s1))), .second, .unset, .unset] [(.int q)])) (fun tq kq => XS.iloadN X3.here hx rfl (hb hby at_127) rfl  kq) ?_
        refine own_go (W1 := T3.setTop (mkF m 129 #[.val (.int q), .val (.int sr), .val (.int rr), .val (.int mode), .val (.int s1), .val (.int (mode &&& (3 : Int32))), .val (.double (FP.i2d s1)), .second, .val (.int (1 : Int32)), .val (.long (r1.toInt64)), .second, .val (.long (((q.toInt64) * (s1.toInt64)) + (r1.toInt64))), .second, .val (.double (FP.l2d (((q.toInt64) * (s1.toInt64)) + (r1.toInt64)))), .second, .val (.double (FP.ddiv (FP.l2d (((q.toInt64) * (s1.toInt64)) + (r1.toInt64))) (FP.i2d s1))), .second, .unset, .unset] [(.double (FP.i2d q))])) (fun tq kq => XS.i2dS X3.here hx rfl (hb hby at_128) rfl rfl kq) ?_
        refine own_go (W1 := T3.setTop (mkF m 131 #[.val (.int q), .val (.int sr), .val (.int rr), .val (.int mode), .val (.int s1), .val (.int (mode &&& (3 : Int32))), .val (.double (FP.i2d s1)), .second, .val (.int (1 : Int32)), .val (.long (r1.toInt64)), .second, .val (.long (((q.toInt64) * (s1.toInt64)) + (r1.toInt64))), .second, .val (.double (FP.l2d (((q.toInt64) * (s1.toInt64)) + (r1.toInt64)))), .second, .val (.double (FP.ddiv (FP.l2d (((q.toInt64) * (s1.toInt64)) + (r1.toInt64))) (FP.i2d s1))), .second, .val (.double (FP.i2d q)), .second] [])) (fun tq kq => XS.dstore X3.here hx rfl (hb hby at_129) rfl (l' := #[.val (.int q), .val (.int sr), .val (.int rr), .val (.int mode), .val (.int s1), .val (.int (mode &&& (3 : Int32))), .val (.double (FP.i2d s1)), .second, .val (.int (1 : Int32)), .val (.long (r1.toInt64)), .second, .val (.long (((q.toInt64) * (s1.toInt64)) + (r1.toInt64))), .second, .val (.double (FP.l2d (((q.toInt64) * (s1.toInt64)) + (r1.toInt64)))), .second, .val (.double (FP.ddiv (FP.l2d (((q.toInt64) * (s1.toInt64)) + (r1.toInt64))) (FP.i2d s1))), .second, .val (.double (FP.i2d q)), .second]) rfl kq) ?_
        refine own_go (W1 := T3.setTop (mkF m 133 #[.val (.int q), .val (.int sr), .val (.int rr), .val (.int mode), .val (.int s1), .val (.int (mode &&& (3 : Int32))), .val (.double (FP.i2d s1)), .second, .val (.int (1 : Int32)), .val (.long (r1.toInt64)), .second, .val (.long (((q.toInt64) * (s1.toInt64)) + (r1.toInt64))), .second, .val (.double (FP.l2d (((q.toInt64) * (s1.toInt64)) + (r1.toInt64)))), .second, .val (.double (FP.ddiv (FP.l2d (((q.toInt64) * (s1.toInt64)) + (r1.toInt64))) (FP.i2d s1))), .second, .val (.double (FP.i2d q)), .second] [(.long (r1.toInt64))])) (fun tq kq => XS.lload X3.here hx rfl (hb hby at_131) rfl  kq) ?_
        refine own_go (W1 := T3.setTop (mkF m 134 #[.val (.int q), .val (.int sr), .val (.int rr), .val (.int mode), .val (.int s1), .val (.int (mode &&& (3 : Int32))), .val (.double (FP.i2d s1)), .second, .val (.int (1 : Int32)), .val (.long (r1.toInt64)), .second, .val (.long (((q.toInt64) * (s1.toInt64)) + (r1.toInt64))), .second, .val (.double (FP.l2d (((q.toInt64) * (s1.toInt64)) + (r1.toInt64)))), .second, .val (.double (FP.ddiv (FP.l2d (((q.toInt64) * (s1.toInt64)) + (r1.toInt64))) (FP.i2d s1))), .second, .val (.double (FP.i2d q)), .second] [(.long (0 : Int64)), (.long (r1.toInt64))])) (fun tq kq => XS.lconst X3.here hx rfl (hb hby at_133) kq) ?_
        refine own_go (W1 := T3.setTop (mkF m 135 #[.val (.int q), .val (.int sr), .val (.int rr), .val (.int mode), .val (.int s1), .val (.int (mode &&& (3 : Int32))), .val (.double (FP.i2d s1)), .second, .val (.int (1 : Int32)), .val (.long (r1.toInt64)), .second, .val (.long (((q.toInt64) * (s1.toInt64)) + (r1.toInt64))), .second, .val (.double (FP.l2d (((q.toInt64) * (s1.toInt64)) + (r1.toInt64)))), .second, .val (.double (FP.ddiv (FP.l2d (((q.toInt64) * (s1.toInt64)) + (r1.toInt64))) (FP.i2d s1))), .second, .val (.double (FP.i2d q)), .second] [(.int (lcmpW (r1.toInt64) (0 : Int64)))])) (fun tq kq => XS.lcmp X3.here hx rfl (hb hby at_134) rfl kq) ?_
        by_cases hc135_4 : (lcmpW (r1.toInt64) (0 : Int64)) = (0 : Int32)
        · skip
          refine own_go (W1 := T3.setTop (mkF m 138 #[.val (.int q), .val (.int sr), .val (.int rr), .val (.int mode), .val (.int s1), .val (.int (mode &&& (3 : Int32))), .val (.double (FP.i2d s1)), .second, .val (.int (1 : Int32)), .val (.long (r1.toInt64)), .second, .val (.long (((q.toInt64) * (s1.toInt64)) + (r1.toInt64))), .second, .val (.double (FP.l2d (((q.toInt64) * (s1.toInt64)) + (r1.toInt64)))), .second, .val (.double (FP.ddiv (FP.l2d (((q.toInt64) * (s1.toInt64)) + (r1.toInt64))) (FP.i2d s1))), .second, .val (.double (FP.i2d q)), .second] [])) (fun tq kq => XS.ifNo X3.here hx rfl (hb hby at_135) rfl ((if0 _ _).trans (teq (show (lcmpW (r1.toInt64) (0 : Int64)) = (0 : Int32) from hc135_4)).2) kq) ?_
          refine own_go (W1 := T3.setTop (mkF m 140 #[.val (.int q), .val (.int sr), .val (.int rr), .val (.int mode), .val (.int s1), .val (.int (mode &&& (3 : Int32))), .val (.double (FP.i2d s1)), .second, .val (.int (1 : Int32)), .val (.long (r1.toInt64)), .second, .val (.long (((q.toInt64) * (s1.toInt64)) + (r1.toInt64))), .second, .val (.double (FP.l2d (((q.toInt64) * (s1.toInt64)) + (r1.toInt64)))), .second, .val (.double (FP.ddiv (FP.l2d (((q.toInt64) * (s1.toInt64)) + (r1.toInt64))) (FP.i2d s1))), .second, .val (.double (FP.i2d q)), .second] [(.double (FP.ddiv (FP.l2d (((q.toInt64) * (s1.toInt64)) + (r1.toInt64))) (FP.i2d s1)))])) (fun tq kq => XS.dload X3.here hx rfl (hb hby at_138) rfl  kq) ?_
          refine own_go (W1 := T3.setTop (mkF m 142 #[.val (.int q), .val (.int sr), .val (.int rr), .val (.int mode), .val (.int s1), .val (.int (mode &&& (3 : Int32))), .val (.double (FP.i2d s1)), .second, .val (.int (1 : Int32)), .val (.long (r1.toInt64)), .second, .val (.long (((q.toInt64) * (s1.toInt64)) + (r1.toInt64))), .second, .val (.double (FP.l2d (((q.toInt64) * (s1.toInt64)) + (r1.toInt64)))), .second, .val (.double (FP.ddiv (FP.l2d (((q.toInt64) * (s1.toInt64)) + (r1.toInt64))) (FP.i2d s1))), .second, .val (.double (FP.i2d q)), .second] [(.double (FP.i2d q)), (.double (FP.ddiv (FP.l2d (((q.toInt64) * (s1.toInt64)) + (r1.toInt64))) (FP.i2d s1)))])) (fun tq kq => XS.dload X3.here hx rfl (hb hby at_140) rfl  kq) ?_
          refine own_go (W1 := T3.setTop (mkF m 143 #[.val (.int q), .val (.int sr), .val (.int rr), .val (.int mode), .val (.int s1), .val (.int (mode &&& (3 : Int32))), .val (.double (FP.i2d s1)), .second, .val (.int (1 : Int32)), .val (.long (r1.toInt64)), .second, .val (.long (((q.toInt64) * (s1.toInt64)) + (r1.toInt64))), .second, .val (.double (FP.l2d (((q.toInt64) * (s1.toInt64)) + (r1.toInt64)))), .second, .val (.double (FP.ddiv (FP.l2d (((q.toInt64) * (s1.toInt64)) + (r1.toInt64))) (FP.i2d s1))), .second, .val (.double (FP.i2d q)), .second] [(.int (cmpValue (FP.dcmp (FP.ddiv (FP.l2d (((q.toInt64) * (s1.toInt64)) + (r1.toInt64))) (FP.i2d s1)) (FP.i2d q)) .l))])) (fun tq kq => XS.dcmpS X3.here hx rfl (hb hby at_142) rfl rfl kq) ?_
          refine own_go (W1 := T3.setTop (mkF m 146 #[.val (.int q), .val (.int sr), .val (.int rr), .val (.int mode), .val (.int s1), .val (.int (mode &&& (3 : Int32))), .val (.double (FP.i2d s1)), .second, .val (.int (1 : Int32)), .val (.long (r1.toInt64)), .second, .val (.long (((q.toInt64) * (s1.toInt64)) + (r1.toInt64))), .second, .val (.double (FP.l2d (((q.toInt64) * (s1.toInt64)) + (r1.toInt64)))), .second, .val (.double (FP.ddiv (FP.l2d (((q.toInt64) * (s1.toInt64)) + (r1.toInt64))) (FP.i2d s1))), .second, .val (.double (FP.i2d q)), .second] [])) (fun tq kq => XS.ifNo X3.here hx rfl (hb hby at_143) rfl ((if0 _ _).trans (teq (show (cmpValue (FP.dcmp (FP.ddiv (FP.l2d (((q.toInt64) * (s1.toInt64)) + (r1.toInt64))) (FP.i2d s1)) (FP.i2d q)) .l) = (0 : Int32) from (own_eq0 hs h1s hr ((lw_eq _ _).mp hc135_4)))).2) kq) ?_
          refine own_go (W1 := T3.setTop (mkF m 147 #[.val (.int q), .val (.int sr), .val (.int rr), .val (.int mode), .val (.int s1), .val (.int (mode &&& (3 : Int32))), .val (.double (FP.i2d s1)), .second, .val (.int (1 : Int32)), .val (.long (r1.toInt64)), .second, .val (.long (((q.toInt64) * (s1.toInt64)) + (r1.toInt64))), .second, .val (.double (FP.l2d (((q.toInt64) * (s1.toInt64)) + (r1.toInt64)))), .second, .val (.double (FP.ddiv (FP.l2d (((q.toInt64) * (s1.toInt64)) + (r1.toInt64))) (FP.i2d s1))), .second, .val (.double (FP.i2d q)), .second] [(.int (1 : Int32))])) (fun tq kq => XS.iconst X3.here hx rfl (hb hby at_146) kq) ?_
          refine own_go (W1 := T3.setTop (mkF m 151 #[.val (.int q), .val (.int sr), .val (.int rr), .val (.int mode), .val (.int s1), .val (.int (mode &&& (3 : Int32))), .val (.double (FP.i2d s1)), .second, .val (.int (1 : Int32)), .val (.long (r1.toInt64)), .second, .val (.long (((q.toInt64) * (s1.toInt64)) + (r1.toInt64))), .second, .val (.double (FP.l2d (((q.toInt64) * (s1.toInt64)) + (r1.toInt64)))), .second, .val (.double (FP.ddiv (FP.l2d (((q.toInt64) * (s1.toInt64)) + (r1.toInt64))) (FP.i2d s1))), .second, .val (.double (FP.i2d q)), .second] [(.int (1 : Int32))])) (fun tq kq => XS.goto X3.here hx rfl (pc0 := 147) (pc' := 151) rfl (hb hby at_147) (by decide) (by decide) kq) ?_
          exact own_retN X3 hx (t := .boolean) Bd.returns (by simp) (hb hby at_151) hlk (by decide) (by decide) ⟨rfl, N3⟩
        · skip
          refine own_go (W1 := T3.setTop (mkF m 152 #[.val (.int q), .val (.int sr), .val (.int rr), .val (.int mode), .val (.int s1), .val (.int (mode &&& (3 : Int32))), .val (.double (FP.i2d s1)), .second, .val (.int (1 : Int32)), .val (.long (r1.toInt64)), .second, .val (.long (((q.toInt64) * (s1.toInt64)) + (r1.toInt64))), .second, .val (.double (FP.l2d (((q.toInt64) * (s1.toInt64)) + (r1.toInt64)))), .second, .val (.double (FP.ddiv (FP.l2d (((q.toInt64) * (s1.toInt64)) + (r1.toInt64))) (FP.i2d s1))), .second, .val (.double (FP.i2d q)), .second] [])) (fun tq kq => XS.ifYes X3.here hx rfl (pc0 := 135) (pc' := 152) rfl (hb hby at_135) rfl ((if0 _ _).trans (feq (show ¬ ((lcmpW (r1.toInt64) (0 : Int64)) = (0 : Int32)) from hc135_4)).2) (by decide) (by decide) kq) ?_
          have hr0 : ¬ r1.toInt64 = 0 := fun z => hc135_4 ((lw_eq _ _).mpr z)
          refine own_go (W1 := T3.setTop (mkF m 154 #[.val (.int q), .val (.int sr), .val (.int rr), .val (.int mode), .val (.int s1), .val (.int (mode &&& (3 : Int32))), .val (.double (FP.i2d s1)), .second, .val (.int (1 : Int32)), .val (.long (r1.toInt64)), .second, .val (.long (((q.toInt64) * (s1.toInt64)) + (r1.toInt64))), .second, .val (.double (FP.l2d (((q.toInt64) * (s1.toInt64)) + (r1.toInt64)))), .second, .val (.double (FP.ddiv (FP.l2d (((q.toInt64) * (s1.toInt64)) + (r1.toInt64))) (FP.i2d s1))), .second, .val (.double (FP.i2d q)), .second] [(.double (FP.i2d q))])) (fun tq kq => XS.dload X3.here hx rfl (hb hby at_152) rfl  kq) ?_
          refine own_go (W1 := T3.setTop (mkF m 156 #[.val (.int q), .val (.int sr), .val (.int rr), .val (.int mode), .val (.int s1), .val (.int (mode &&& (3 : Int32))), .val (.double (FP.i2d s1)), .second, .val (.int (1 : Int32)), .val (.long (r1.toInt64)), .second, .val (.long (((q.toInt64) * (s1.toInt64)) + (r1.toInt64))), .second, .val (.double (FP.l2d (((q.toInt64) * (s1.toInt64)) + (r1.toInt64)))), .second, .val (.double (FP.ddiv (FP.l2d (((q.toInt64) * (s1.toInt64)) + (r1.toInt64))) (FP.i2d s1))), .second, .val (.double (FP.i2d q)), .second] [(.double (FP.ddiv (FP.l2d (((q.toInt64) * (s1.toInt64)) + (r1.toInt64))) (FP.i2d s1))), (.double (FP.i2d q))])) (fun tq kq => XS.dload X3.here hx rfl (hb hby at_154) rfl  kq) ?_
          refine own_go (W1 := T3.setTop (mkF m 157 #[.val (.int q), .val (.int sr), .val (.int rr), .val (.int mode), .val (.int s1), .val (.int (mode &&& (3 : Int32))), .val (.double (FP.i2d s1)), .second, .val (.int (1 : Int32)), .val (.long (r1.toInt64)), .second, .val (.long (((q.toInt64) * (s1.toInt64)) + (r1.toInt64))), .second, .val (.double (FP.l2d (((q.toInt64) * (s1.toInt64)) + (r1.toInt64)))), .second, .val (.double (FP.ddiv (FP.l2d (((q.toInt64) * (s1.toInt64)) + (r1.toInt64))) (FP.i2d s1))), .second, .val (.double (FP.i2d q)), .second] [(.int (cmpValue (FP.dcmp (FP.i2d q) (FP.ddiv (FP.l2d (((q.toInt64) * (s1.toInt64)) + (r1.toInt64))) (FP.i2d s1))) .g))])) (fun tq kq => XS.dcmpS X3.here hx rfl (hb hby at_156) rfl rfl kq) ?_
          refine own_go (W1 := T3.setTop (mkF m 160 #[.val (.int q), .val (.int sr), .val (.int rr), .val (.int mode), .val (.int s1), .val (.int (mode &&& (3 : Int32))), .val (.double (FP.i2d s1)), .second, .val (.int (1 : Int32)), .val (.long (r1.toInt64)), .second, .val (.long (((q.toInt64) * (s1.toInt64)) + (r1.toInt64))), .second, .val (.double (FP.l2d (((q.toInt64) * (s1.toInt64)) + (r1.toInt64)))), .second, .val (.double (FP.ddiv (FP.l2d (((q.toInt64) * (s1.toInt64)) + (r1.toInt64))) (FP.i2d s1))), .second, .val (.double (FP.i2d q)), .second] [])) (fun tq kq => XS.ifNo X3.here hx rfl (hb hby at_157) rfl ((if0 _ _).trans (tlt (show (cmpValue (FP.dcmp (FP.i2d q) (FP.ddiv (FP.l2d (((q.toInt64) * (s1.toInt64)) + (r1.toInt64))) (FP.i2d s1))) .g) < (0 : Int32) from (own_lt1 hs h1s hr hr0))).2.1) kq) ?_
          refine own_go (W1 := T3.setTop (mkF m 162 #[.val (.int q), .val (.int sr), .val (.int rr), .val (.int mode), .val (.int s1), .val (.int (mode &&& (3 : Int32))), .val (.double (FP.i2d s1)), .second, .val (.int (1 : Int32)), .val (.long (r1.toInt64)), .second, .val (.long (((q.toInt64) * (s1.toInt64)) + (r1.toInt64))), .second, .val (.double (FP.l2d (((q.toInt64) * (s1.toInt64)) + (r1.toInt64)))), .second, .val (.double (FP.ddiv (FP.l2d (((q.toInt64) * (s1.toInt64)) + (r1.toInt64))) (FP.i2d s1))), .second, .val (.double (FP.i2d q)), .second] [(.double (FP.ddiv (FP.l2d (((q.toInt64) * (s1.toInt64)) + (r1.toInt64))) (FP.i2d s1)))])) (fun tq kq => XS.dload X3.here hx rfl (hb hby at_160) rfl  kq) ?_
          refine own_go (W1 := T3.setTop (mkF m 164 #[.val (.int q), .val (.int sr), .val (.int rr), .val (.int mode), .val (.int s1), .val (.int (mode &&& (3 : Int32))), .val (.double (FP.i2d s1)), .second, .val (.int (1 : Int32)), .val (.long (r1.toInt64)), .second, .val (.long (((q.toInt64) * (s1.toInt64)) + (r1.toInt64))), .second, .val (.double (FP.l2d (((q.toInt64) * (s1.toInt64)) + (r1.toInt64)))), .second, .val (.double (FP.ddiv (FP.l2d (((q.toInt64) * (s1.toInt64)) + (r1.toInt64))) (FP.i2d s1))), .second, .val (.double (FP.i2d q)), .second] [(.double (FP.i2d q)), (.double (FP.ddiv (FP.l2d (((q.toInt64) * (s1.toInt64)) + (r1.toInt64))) (FP.i2d s1)))])) (fun tq kq => XS.dload X3.here hx rfl (hb hby at_162) rfl  kq) ?_
          refine own_go (W1 := T3.setTop (mkF m 165 #[.val (.int q), .val (.int sr), .val (.int rr), .val (.int mode), .val (.int s1), .val (.int (mode &&& (3 : Int32))), .val (.double (FP.i2d s1)), .second, .val (.int (1 : Int32)), .val (.long (r1.toInt64)), .second, .val (.long (((q.toInt64) * (s1.toInt64)) + (r1.toInt64))), .second, .val (.double (FP.l2d (((q.toInt64) * (s1.toInt64)) + (r1.toInt64)))), .second, .val (.double (FP.ddiv (FP.l2d (((q.toInt64) * (s1.toInt64)) + (r1.toInt64))) (FP.i2d s1))), .second, .val (.double (FP.i2d q)), .second] [(.double FP.dconst1), (.double (FP.i2d q)), (.double (FP.ddiv (FP.l2d (((q.toInt64) * (s1.toInt64)) + (r1.toInt64))) (FP.i2d s1)))])) (fun tq kq => XS.dconst1 X3.here hx rfl (hb hby at_164) rfl kq) ?_
          refine own_go (W1 := T3.setTop (mkF m 166 #[.val (.int q), .val (.int sr), .val (.int rr), .val (.int mode), .val (.int s1), .val (.int (mode &&& (3 : Int32))), .val (.double (FP.i2d s1)), .second, .val (.int (1 : Int32)), .val (.long (r1.toInt64)), .second, .val (.long (((q.toInt64) * (s1.toInt64)) + (r1.toInt64))), .second, .val (.double (FP.l2d (((q.toInt64) * (s1.toInt64)) + (r1.toInt64)))), .second, .val (.double (FP.ddiv (FP.l2d (((q.toInt64) * (s1.toInt64)) + (r1.toInt64))) (FP.i2d s1))), .second, .val (.double (FP.i2d q)), .second] [(.double (FP.dadd (FP.i2d q) FP.dconst1)), (.double (FP.ddiv (FP.l2d (((q.toInt64) * (s1.toInt64)) + (r1.toInt64))) (FP.i2d s1)))])) (fun tq kq => XS.daddS X3.here hx rfl (hb hby at_165) rfl (own_nadd q) rfl kq) ?_
          refine own_go (W1 := T3.setTop (mkF m 167 #[.val (.int q), .val (.int sr), .val (.int rr), .val (.int mode), .val (.int s1), .val (.int (mode &&& (3 : Int32))), .val (.double (FP.i2d s1)), .second, .val (.int (1 : Int32)), .val (.long (r1.toInt64)), .second, .val (.long (((q.toInt64) * (s1.toInt64)) + (r1.toInt64))), .second, .val (.double (FP.l2d (((q.toInt64) * (s1.toInt64)) + (r1.toInt64)))), .second, .val (.double (FP.ddiv (FP.l2d (((q.toInt64) * (s1.toInt64)) + (r1.toInt64))) (FP.i2d s1))), .second, .val (.double (FP.i2d q)), .second] [(.int (cmpValue (FP.dcmp (FP.ddiv (FP.l2d (((q.toInt64) * (s1.toInt64)) + (r1.toInt64))) (FP.i2d s1)) (FP.dadd (FP.i2d q) FP.dconst1)) .g))])) (fun tq kq => XS.dcmpS X3.here hx rfl (hb hby at_166) rfl rfl kq) ?_
          refine own_go (W1 := T3.setTop (mkF m 170 #[.val (.int q), .val (.int sr), .val (.int rr), .val (.int mode), .val (.int s1), .val (.int (mode &&& (3 : Int32))), .val (.double (FP.i2d s1)), .second, .val (.int (1 : Int32)), .val (.long (r1.toInt64)), .second, .val (.long (((q.toInt64) * (s1.toInt64)) + (r1.toInt64))), .second, .val (.double (FP.l2d (((q.toInt64) * (s1.toInt64)) + (r1.toInt64)))), .second, .val (.double (FP.ddiv (FP.l2d (((q.toInt64) * (s1.toInt64)) + (r1.toInt64))) (FP.i2d s1))), .second, .val (.double (FP.i2d q)), .second] [])) (fun tq kq => XS.ifNo X3.here hx rfl (hb hby at_167) rfl ((if0 _ _).trans (tlt (show (cmpValue (FP.dcmp (FP.ddiv (FP.l2d (((q.toInt64) * (s1.toInt64)) + (r1.toInt64))) (FP.i2d s1)) (FP.dadd (FP.i2d q) FP.dconst1)) .g) < (0 : Int32) from (own_lt2 hs h1s hr hr0))).2.1) kq) ?_
          refine own_go (W1 := T3.setTop (mkF m 171 #[.val (.int q), .val (.int sr), .val (.int rr), .val (.int mode), .val (.int s1), .val (.int (mode &&& (3 : Int32))), .val (.double (FP.i2d s1)), .second, .val (.int (1 : Int32)), .val (.long (r1.toInt64)), .second, .val (.long (((q.toInt64) * (s1.toInt64)) + (r1.toInt64))), .second, .val (.double (FP.l2d (((q.toInt64) * (s1.toInt64)) + (r1.toInt64)))), .second, .val (.double (FP.ddiv (FP.l2d (((q.toInt64) * (s1.toInt64)) + (r1.toInt64))) (FP.i2d s1))), .second, .val (.double (FP.i2d q)), .second] [(.int (1 : Int32))])) (fun tq kq => XS.iconst X3.here hx rfl (hb hby at_170) kq) ?_
          refine own_go (W1 := T3.setTop (mkF m 175 #[.val (.int q), .val (.int sr), .val (.int rr), .val (.int mode), .val (.int s1), .val (.int (mode &&& (3 : Int32))), .val (.double (FP.i2d s1)), .second, .val (.int (1 : Int32)), .val (.long (r1.toInt64)), .second, .val (.long (((q.toInt64) * (s1.toInt64)) + (r1.toInt64))), .second, .val (.double (FP.l2d (((q.toInt64) * (s1.toInt64)) + (r1.toInt64)))), .second, .val (.double (FP.ddiv (FP.l2d (((q.toInt64) * (s1.toInt64)) + (r1.toInt64))) (FP.i2d s1))), .second, .val (.double (FP.i2d q)), .second] [(.int (1 : Int32))])) (fun tq kq => XS.goto X3.here hx rfl (pc0 := 171) (pc' := 175) rfl (hb hby at_171) (by decide) (by decide) kq) ?_
          exact own_retN X3 hx (t := .boolean) Bd.returns (by simp) (hb hby at_175) hlk (by decide) (by decide) ⟨rfl, N3⟩
      · skip
        refine own_go (W1 := s₁.setTop (mkF m 60 #[.val (.int q), .val (.int sr), .val (.int rr), .val (.int mode), .val (.int s1), .val (.int (mode &&& (3 : Int32))), .val (.double (FP.i2d s1)), .second, .unset, .unset, .unset, .unset, .unset, .unset, .unset, .unset, .unset, .unset, .unset] [])) (fun tq kq => XS.ifYes X0.here hx rfl (pc0 := 53) (pc' := 60) rfl (hb hby at_53) rfl ((if0 _ _).trans (flt (show ¬ ((0 : Int32) < s1) from hc53_3)).2.2.2) (by decide) (by decide) kq) ?_
        refine own_go (W1 := s₁.setTop (mkF m 61 #[.val (.int q), .val (.int sr), .val (.int rr), .val (.int mode), .val (.int s1), .val (.int (mode &&& (3 : Int32))), .val (.double (FP.i2d s1)), .second, .unset, .unset, .unset, .unset, .unset, .unset, .unset, .unset, .unset, .unset, .unset] [(.int (0 : Int32))])) (fun tq kq => XS.iconst X0.here hx rfl (hb hby at_60) kq) ?_
        refine own_go (W1 := s₁.setTop (mkF m 63 #[.val (.int q), .val (.int sr), .val (.int rr), .val (.int mode), .val (.int s1), .val (.int (mode &&& (3 : Int32))), .val (.double (FP.i2d s1)), .second, .val (.int (0 : Int32)), .unset, .unset, .unset, .unset, .unset, .unset, .unset, .unset, .unset, .unset] [])) (fun tq kq => XS.istore X0.here hx rfl (hb hby at_61) rfl (l' := #[.val (.int q), .val (.int sr), .val (.int rr), .val (.int mode), .val (.int s1), .val (.int (mode &&& (3 : Int32))), .val (.double (FP.i2d s1)), .second, .val (.int (0 : Int32)), .unset, .unset, .unset, .unset, .unset, .unset, .unset, .unset, .unset, .unset]) rfl kq) ?_
        refine own_go (W1 := s₁.setTop (mkF m 65 #[.val (.int q), .val (.int sr), .val (.int rr), .val (.int mode), .val (.int s1), .val (.int (mode &&& (3 : Int32))), .val (.double (FP.i2d s1)), .second, .val (.int (0 : Int32)), .unset, .unset, .unset, .unset, .unset, .unset, .unset, .unset, .unset, .unset] [(.int (0 : Int32))])) (fun tq kq => XS.iload X0.here hx rfl (hb hby at_63) rfl  kq) ?_
        refine own_go (W1 := s₁.setTop (mkF m 79 #[.val (.int q), .val (.int sr), .val (.int rr), .val (.int mode), .val (.int s1), .val (.int (mode &&& (3 : Int32))), .val (.double (FP.i2d s1)), .second, .val (.int (0 : Int32)), .unset, .unset, .unset, .unset, .unset, .unset, .unset, .unset, .unset, .unset] [])) (fun tq kq => XS.ifYes X0.here hx rfl (pc0 := 65) (pc' := 79) rfl (hb hby at_65) rfl ((if0 _ _).trans (teq (show (0 : Int32) = (0 : Int32) from (by decide))).1) (by decide) (by decide) kq) ?_
        refine own_go (W1 := s₁.setTop (mkF m 80 #[.val (.int q), .val (.int sr), .val (.int rr), .val (.int mode), .val (.int s1), .val (.int (mode &&& (3 : Int32))), .val (.double (FP.i2d s1)), .second, .val (.int (0 : Int32)), .unset, .unset, .unset, .unset, .unset, .unset, .unset, .unset, .unset, .unset] [(.int rr)])) (fun tq kq => XS.iloadN X0.here hx rfl (hb hby at_79) rfl  kq) ?_
        refine own_go (W1 := s₁.setTop (mkF m 81 #[.val (.int q), .val (.int sr), .val (.int rr), .val (.int mode), .val (.int s1), .val (.int (mode &&& (3 : Int32))), .val (.double (FP.i2d s1)), .second, .val (.int (0 : Int32)), .unset, .unset, .unset, .unset, .unset, .unset, .unset, .unset, .unset, .unset] [(.long (rr.toInt64))])) (fun tq kq => XS.i2l X0.here hx rfl (hb hby at_80) rfl kq) ?_
        refine own_go (W1 := s₁.setTop (mkF m 83 #[.val (.int q), .val (.int sr), .val (.int rr), .val (.int mode), .val (.int s1), .val (.int (mode &&& (3 : Int32))), .val (.double (FP.i2d s1)), .second, .val (.int (0 : Int32)), .val (.long (rr.toInt64)), .second, .unset, .unset, .unset, .unset, .unset, .unset, .unset, .unset] [])) (fun tq kq => XS.lstore X0.here hx rfl (hb hby at_81) rfl (l' := #[.val (.int q), .val (.int sr), .val (.int rr), .val (.int mode), .val (.int s1), .val (.int (mode &&& (3 : Int32))), .val (.double (FP.i2d s1)), .second, .val (.int (0 : Int32)), .val (.long (rr.toInt64)), .second, .unset, .unset, .unset, .unset, .unset, .unset, .unset, .unset]) rfl kq) ?_
        refine own_go (W1 := s₁.setTop (mkF m 84 #[.val (.int q), .val (.int sr), .val (.int rr), .val (.int mode), .val (.int s1), .val (.int (mode &&& (3 : Int32))), .val (.double (FP.i2d s1)), .second, .val (.int (0 : Int32)), .val (.long (rr.toInt64)), .second, .unset, .unset, .unset, .unset, .unset, .unset, .unset, .unset] [(.int q)])) (fun tq kq => XS.iloadN X0.here hx rfl (hb hby at_83) rfl  kq) ?_
        refine own_go (W1 := s₁.setTop (mkF m 85 #[.val (.int q), .val (.int sr), .val (.int rr), .val (.int mode), .val (.int s1), .val (.int (mode &&& (3 : Int32))), .val (.double (FP.i2d s1)), .second, .val (.int (0 : Int32)), .val (.long (rr.toInt64)), .second, .unset, .unset, .unset, .unset, .unset, .unset, .unset, .unset] [(.long (q.toInt64))])) (fun tq kq => XS.i2l X0.here hx rfl (hb hby at_84) rfl kq) ?_
        refine own_go (W1 := s₁.setTop (mkF m 87 #[.val (.int q), .val (.int sr), .val (.int rr), .val (.int mode), .val (.int s1), .val (.int (mode &&& (3 : Int32))), .val (.double (FP.i2d s1)), .second, .val (.int (0 : Int32)), .val (.long (rr.toInt64)), .second, .unset, .unset, .unset, .unset, .unset, .unset, .unset, .unset] [(.int s1), (.long (q.toInt64))])) (fun tq kq => XS.iload X0.here hx rfl (hb hby at_85) rfl  kq) ?_
        refine own_go (W1 := s₁.setTop (mkF m 88 #[.val (.int q), .val (.int sr), .val (.int rr), .val (.int mode), .val (.int s1), .val (.int (mode &&& (3 : Int32))), .val (.double (FP.i2d s1)), .second, .val (.int (0 : Int32)), .val (.long (rr.toInt64)), .second, .unset, .unset, .unset, .unset, .unset, .unset, .unset, .unset] [(.long (s1.toInt64)), (.long (q.toInt64))])) (fun tq kq => XS.i2l X0.here hx rfl (hb hby at_87) rfl kq) ?_
        refine own_go (W1 := s₁.setTop (mkF m 89 #[.val (.int q), .val (.int sr), .val (.int rr), .val (.int mode), .val (.int s1), .val (.int (mode &&& (3 : Int32))), .val (.double (FP.i2d s1)), .second, .val (.int (0 : Int32)), .val (.long (rr.toInt64)), .second, .unset, .unset, .unset, .unset, .unset, .unset, .unset, .unset] [(.long ((q.toInt64) * (s1.toInt64)))])) (fun tq kq => XS.lmul X0.here hx rfl (hb hby at_88) rfl kq) ?_
        refine own_go (W1 := s₁.setTop (mkF m 91 #[.val (.int q), .val (.int sr), .val (.int rr), .val (.int mode), .val (.int s1), .val (.int (mode &&& (3 : Int32))), .val (.double (FP.i2d s1)), .second, .val (.int (0 : Int32)), .val (.long (rr.toInt64)), .second, .unset, .unset, .unset, .unset, .unset, .unset, .unset, .unset] [(.long (rr.toInt64)), (.long ((q.toInt64) * (s1.toInt64)))])) (fun tq kq => XS.lload X0.here hx rfl (hb hby at_89) rfl  kq) ?_
        refine own_go (W1 := s₁.setTop (mkF m 92 #[.val (.int q), .val (.int sr), .val (.int rr), .val (.int mode), .val (.int s1), .val (.int (mode &&& (3 : Int32))), .val (.double (FP.i2d s1)), .second, .val (.int (0 : Int32)), .val (.long (rr.toInt64)), .second, .unset, .unset, .unset, .unset, .unset, .unset, .unset, .unset] [(.long (((q.toInt64) * (s1.toInt64)) + (rr.toInt64)))])) (fun tq kq => XS.ladd X0.here hx rfl (hb hby at_91) rfl kq) ?_
        refine own_go (W1 := s₁.setTop (mkF m 94 #[.val (.int q), .val (.int sr), .val (.int rr), .val (.int mode), .val (.int s1), .val (.int (mode &&& (3 : Int32))), .val (.double (FP.i2d s1)), .second, .val (.int (0 : Int32)), .val (.long (rr.toInt64)), .second, .val (.long (((q.toInt64) * (s1.toInt64)) + (rr.toInt64))), .second, .unset, .unset, .unset, .unset, .unset, .unset] [])) (fun tq kq => XS.lstore X0.here hx rfl (hb hby at_92) rfl (l' := #[.val (.int q), .val (.int sr), .val (.int rr), .val (.int mode), .val (.int s1), .val (.int (mode &&& (3 : Int32))), .val (.double (FP.i2d s1)), .second, .val (.int (0 : Int32)), .val (.long (rr.toInt64)), .second, .val (.long (((q.toInt64) * (s1.toInt64)) + (rr.toInt64))), .second, .unset, .unset, .unset, .unset, .unset, .unset]) rfl kq) ?_
        refine own_go (W1 := s₁.setTop (mkF m 96 #[.val (.int q), .val (.int sr), .val (.int rr), .val (.int mode), .val (.int s1), .val (.int (mode &&& (3 : Int32))), .val (.double (FP.i2d s1)), .second, .val (.int (0 : Int32)), .val (.long (rr.toInt64)), .second, .val (.long (((q.toInt64) * (s1.toInt64)) + (rr.toInt64))), .second, .unset, .unset, .unset, .unset, .unset, .unset] [(.long (((q.toInt64) * (s1.toInt64)) + (rr.toInt64)))])) (fun tq kq => XS.lload X0.here hx rfl (hb hby at_94) rfl  kq) ?_
        refine own_go (W1 := s₁.setTop (mkF m 97 #[.val (.int q), .val (.int sr), .val (.int rr), .val (.int mode), .val (.int s1), .val (.int (mode &&& (3 : Int32))), .val (.double (FP.i2d s1)), .second, .val (.int (0 : Int32)), .val (.long (rr.toInt64)), .second, .val (.long (((q.toInt64) * (s1.toInt64)) + (rr.toInt64))), .second, .unset, .unset, .unset, .unset, .unset, .unset] [(.double (FP.l2d (((q.toInt64) * (s1.toInt64)) + (rr.toInt64))))])) (fun tq kq => XS.l2dS X0.here hx rfl (hb hby at_96) rfl rfl kq) ?_
        refine own_go (W1 := s₁.setTop (mkF m 99 #[.val (.int q), .val (.int sr), .val (.int rr), .val (.int mode), .val (.int s1), .val (.int (mode &&& (3 : Int32))), .val (.double (FP.i2d s1)), .second, .val (.int (0 : Int32)), .val (.long (rr.toInt64)), .second, .val (.long (((q.toInt64) * (s1.toInt64)) + (rr.toInt64))), .second, .val (.double (FP.l2d (((q.toInt64) * (s1.toInt64)) + (rr.toInt64)))), .second, .unset, .unset, .unset, .unset] [])) (fun tq kq => XS.dstore X0.here hx rfl (hb hby at_97) rfl (l' := #[.val (.int q), .val (.int sr), .val (.int rr), .val (.int mode), .val (.int s1), .val (.int (mode &&& (3 : Int32))), .val (.double (FP.i2d s1)), .second, .val (.int (0 : Int32)), .val (.long (rr.toInt64)), .second, .val (.long (((q.toInt64) * (s1.toInt64)) + (rr.toInt64))), .second, .val (.double (FP.l2d (((q.toInt64) * (s1.toInt64)) + (rr.toInt64)))), .second, .unset, .unset, .unset, .unset]) rfl kq) ?_
        refine own_go (W1 := s₁.setTop (mkF m 101 #[.val (.int q), .val (.int sr), .val (.int rr), .val (.int mode), .val (.int s1), .val (.int (mode &&& (3 : Int32))), .val (.double (FP.i2d s1)), .second, .val (.int (0 : Int32)), .val (.long (rr.toInt64)), .second, .val (.long (((q.toInt64) * (s1.toInt64)) + (rr.toInt64))), .second, .val (.double (FP.l2d (((q.toInt64) * (s1.toInt64)) + (rr.toInt64)))), .second, .unset, .unset, .unset, .unset] [(.double (FP.l2d (((q.toInt64) * (s1.toInt64)) + (rr.toInt64))))])) (fun tq kq => XS.dload X0.here hx rfl (hb hby at_99) rfl  kq) ?_
        refine own_go (W1 := s₁.setTop (mkF m 103 #[.val (.int q), .val (.int sr), .val (.int rr), .val (.int mode), .val (.int s1), .val (.int (mode &&& (3 : Int32))), .val (.double (FP.i2d s1)), .second, .val (.int (0 : Int32)), .val (.long (rr.toInt64)), .second, .val (.long (((q.toInt64) * (s1.toInt64)) + (rr.toInt64))), .second, .val (.double (FP.l2d (((q.toInt64) * (s1.toInt64)) + (rr.toInt64)))), .second, .unset, .unset, .unset, .unset] [(.double (FP.i2d s1)), (.double (FP.l2d (((q.toInt64) * (s1.toInt64)) + (rr.toInt64))))])) (fun tq kq => XS.dload X0.here hx rfl (hb hby at_101) rfl  kq) ?_
        obtain ⟨_, _, ⟨T4, L4, k4, n4⟩, -, X4, ⟨Lc4, hQ4, l4, y4, z4⟩, st4⟩ := Jvm.LawKit.callS X0 hx (y := (⟨"com/example/bemesser/bemesser/analysis/CrossSectionValues", "density", "(DD)D"⟩ : MethodName)) hown (mvT hZ (hw _ (List.mem_of_getElem? (i := 2) rfl))) (mvT hZ (hw _ (List.mem_of_getElem? (i := 3) rfl))) (mvT hZ (hw _ (List.mem_of_getElem? (i := 4) rfl))) (mvT hZ (hw _ (List.mem_of_getElem? (i := 5) rfl))) (by decide) (backOf (W := 0) (rmN l Z a0 hw [] (FP.l2d (((q.toInt64) * (s1.toInt64)) + (rr.toInt64))) (FP.i2d s1) h0 n0 Z0 (own_zero hs hc53_3)) hZ (hw _ (List.mem_of_getElem? (i := 5) rfl)) (hw _ (List.mem_of_getElem? (i := 4) rfl)) (by decide) (by decide)) (g := (mkF m 103 #[.val (.int q), .val (.int sr), .val (.int rr), .val (.int mode), .val (.int s1), .val (.int (mode &&& (3 : Int32))), .val (.double (FP.i2d s1)), .second, .val (.int (0 : Int32)), .val (.long (rr.toInt64)), .second, .val (.long (((q.toInt64) * (s1.toInt64)) + (rr.toInt64))), .second, .val (.double (FP.l2d (((q.toInt64) * (s1.toInt64)) + (rr.toInt64)))), .second, .unset, .unset, .unset, .unset] [(.double (FP.i2d s1)), (.double (FP.l2d (((q.toInt64) * (s1.toInt64)) + (rr.toInt64))))])) rfl (by rw [hml]; rfl) (argsL := [(.double (FP.l2d (((q.toInt64) * (s1.toInt64)) + (rr.toInt64)))), (.double (FP.i2d s1))]) (rest := []) (lenOf own_pd0 rfl) rfl (by show 2 * 0 + _ ≤ _; exact Nat.le_of_eq rfl) (hb hby at_103) (fun _ _ => ⟨rfl, e0, (by decide : 0 + 0 ≤ _), (by decide : 0 + 0 ≤ _)⟩)
        dsimp only [Pt.U, Pt.locs, Pt.cells, Pt.slots] at X4 l4 y4 z4 st4 hQ4
        subst l4 y4 z4
        obtain ⟨rfl, Nq4, eh4⟩ := hQ4
        have N4 := Fr.app N0 Nq4
        refine own_go (W1 := T4.setTop (mkF m 106 #[.val (.int q), .val (.int sr), .val (.int rr), .val (.int mode), .val (.int s1), .val (.int (mode &&& (3 : Int32))), .val (.double (FP.i2d s1)), .second, .val (.int (0 : Int32)), .val (.long (rr.toInt64)), .second, .val (.long (((q.toInt64) * (s1.toInt64)) + (rr.toInt64))), .second, .val (.double (FP.l2d (((q.toInt64) * (s1.toInt64)) + (rr.toInt64)))), .second, .unset, .unset, .unset, .unset] [(.double (9221120237041090560 : UInt64))])) st4 ?_
        refine own_go (W1 := T4.setTop (mkF m 108 #[.val (.int q), .val (.int sr), .val (.int rr), .val (.int mode), .val (.int s1), .val (.int (mode &&& (3 : Int32))), .val (.double (FP.i2d s1)), .second, .val (.int (0 : Int32)), .val (.long (rr.toInt64)), .second, .val (.long (((q.toInt64) * (s1.toInt64)) + (rr.toInt64))), .second, .val (.double (FP.l2d (((q.toInt64) * (s1.toInt64)) + (rr.toInt64)))), .second, .val (.double (9221120237041090560 : UInt64)), .second, .unset, .unset] [])) (fun tq kq => XS.dstore X4.here hx rfl (hb hby at_106) rfl (l' := #[.val (.int q), .val (.int sr), .val (.int rr), .val (.int mode), .val (.int s1), .val (.int (mode &&& (3 : Int32))), .val (.double (FP.i2d s1)), .second, .val (.int (0 : Int32)), .val (.long (rr.toInt64)), .second, .val (.long (((q.toInt64) * (s1.toInt64)) + (rr.toInt64))), .second, .val (.double (FP.l2d (((q.toInt64) * (s1.toInt64)) + (rr.toInt64)))), .second, .val (.double (9221120237041090560 : UInt64)), .second, .unset, .unset]) rfl kq) ?_
        refine own_go (W1 := T4.setTop (mkF m 110 #[.val (.int q), .val (.int sr), .val (.int rr), .val (.int mode), .val (.int s1), .val (.int (mode &&& (3 : Int32))), .val (.double (FP.i2d s1)), .second, .val (.int (0 : Int32)), .val (.long (rr.toInt64)), .second, .val (.long (((q.toInt64) * (s1.toInt64)) + (rr.toInt64))), .second, .val (.double (FP.l2d (((q.toInt64) * (s1.toInt64)) + (rr.toInt64)))), .second, .val (.double (9221120237041090560 : UInt64)), .second, .unset, .unset] [(.int (0 : Int32))])) (fun tq kq => XS.iload X4.here hx rfl (hb hby at_108) rfl  kq) ?_
        refine own_go (W1 := T4.setTop (mkF m 113 #[.val (.int q), .val (.int sr), .val (.int rr), .val (.int mode), .val (.int s1), .val (.int (mode &&& (3 : Int32))), .val (.double (FP.i2d s1)), .second, .val (.int (0 : Int32)), .val (.long (rr.toInt64)), .second, .val (.long (((q.toInt64) * (s1.toInt64)) + (rr.toInt64))), .second, .val (.double (FP.l2d (((q.toInt64) * (s1.toInt64)) + (rr.toInt64)))), .second, .val (.double (9221120237041090560 : UInt64)), .second, .unset, .unset] [])) (fun tq kq => XS.ifNo X4.here hx rfl (hb hby at_110) rfl ((if0 _ _).trans (teq (show (0 : Int32) = (0 : Int32) from (by decide))).2) kq) ?_
        refine own_go (W1 := T4.setTop (mkF m 115 #[.val (.int q), .val (.int sr), .val (.int rr), .val (.int mode), .val (.int s1), .val (.int (mode &&& (3 : Int32))), .val (.double (FP.i2d s1)), .second, .val (.int (0 : Int32)), .val (.long (rr.toInt64)), .second, .val (.long (((q.toInt64) * (s1.toInt64)) + (rr.toInt64))), .second, .val (.double (FP.l2d (((q.toInt64) * (s1.toInt64)) + (rr.toInt64)))), .second, .val (.double (9221120237041090560 : UInt64)), .second, .unset, .unset] [(.double (9221120237041090560 : UInt64))])) (fun tq kq => XS.dload X4.here hx rfl (hb hby at_113) rfl  kq) ?_
        refine own_go (W1 := T4.setTop (mkF m 117 #[.val (.int q), .val (.int sr), .val (.int rr), .val (.int mode), .val (.int s1), .val (.int (mode &&& (3 : Int32))), .val (.double (FP.i2d s1)), .second, .val (.int (0 : Int32)), .val (.long (rr.toInt64)), .second, .val (.long (((q.toInt64) * (s1.toInt64)) + (rr.toInt64))), .second, .val (.double (FP.l2d (((q.toInt64) * (s1.toInt64)) + (rr.toInt64)))), .second, .val (.double (9221120237041090560 : UInt64)), .second, .unset, .unset] [(.double (9221120237041090560 : UInt64)), (.double (9221120237041090560 : UInt64))])) (fun tq kq => XS.dload X4.here hx rfl (hb hby at_115) rfl  kq) ?_
        refine own_go (W1 := T4.setTop (mkF m 118 #[.val (.int q), .val (.int sr), .val (.int rr), .val (.int mode), .val (.int s1), .val (.int (mode &&& (3 : Int32))), .val (.double (FP.i2d s1)), .second, .val (.int (0 : Int32)), .val (.long (rr.toInt64)), .second, .val (.long (((q.toInt64) * (s1.toInt64)) + (rr.toInt64))), .second, .val (.double (FP.l2d (((q.toInt64) * (s1.toInt64)) + (rr.toInt64)))), .second, .val (.double (9221120237041090560 : UInt64)), .second, .unset, .unset] [(.int (cmpValue (FP.dcmp (9221120237041090560 : UInt64) (9221120237041090560 : UInt64)) .l))])) (fun tq kq => XS.dcmpS X4.here hx rfl (hb hby at_117) rfl rfl kq) ?_
        refine own_go (W1 := T4.setTop (mkF m 121 #[.val (.int q), .val (.int sr), .val (.int rr), .val (.int mode), .val (.int s1), .val (.int (mode &&& (3 : Int32))), .val (.double (FP.i2d s1)), .second, .val (.int (0 : Int32)), .val (.long (rr.toInt64)), .second, .val (.long (((q.toInt64) * (s1.toInt64)) + (rr.toInt64))), .second, .val (.double (FP.l2d (((q.toInt64) * (s1.toInt64)) + (rr.toInt64)))), .second, .val (.double (9221120237041090560 : UInt64)), .second, .unset, .unset] [])) (fun tq kq => XS.ifNo X4.here hx rfl (hb hby at_118) rfl ((if0 _ _).trans (feq (show ¬ ((cmpValue (FP.dcmp (9221120237041090560 : UInt64) (9221120237041090560 : UInt64)) .l) = (0 : Int32)) from (by decide +kernel))).1) kq) ?_
        refine own_go (W1 := T4.setTop (mkF m 122 #[.val (.int q), .val (.int sr), .val (.int rr), .val (.int mode), .val (.int s1), .val (.int (mode &&& (3 : Int32))), .val (.double (FP.i2d s1)), .second, .val (.int (0 : Int32)), .val (.long (rr.toInt64)), .second, .val (.long (((q.toInt64) * (s1.toInt64)) + (rr.toInt64))), .second, .val (.double (FP.l2d (((q.toInt64) * (s1.toInt64)) + (rr.toInt64)))), .second, .val (.double (9221120237041090560 : UInt64)), .second, .unset, .unset] [(.int (1 : Int32))])) (fun tq kq => XS.iconst X4.here hx rfl (hb hby at_121) kq) ?_
        refine own_go (W1 := T4.setTop (mkF m 126 #[.val (.int q), .val (.int sr), .val (.int rr), .val (.int mode), .val (.int s1), .val (.int (mode &&& (3 : Int32))), .val (.double (FP.i2d s1)), .second, .val (.int (0 : Int32)), .val (.long (rr.toInt64)), .second, .val (.long (((q.toInt64) * (s1.toInt64)) + (rr.toInt64))), .second, .val (.double (FP.l2d (((q.toInt64) * (s1.toInt64)) + (rr.toInt64)))), .second, .val (.double (9221120237041090560 : UInt64)), .second, .unset, .unset] [(.int (1 : Int32))])) (fun tq kq => XS.goto X4.here hx rfl (pc0 := 122) (pc' := 126) rfl (hb hby at_122) (by decide) (by decide) kq) ?_
        exact own_retN X4 hx (t := .boolean) Bd.returns (by simp) (hb hby at_126) hlk (by decide) (by decide) ⟨rfl, N4⟩
set_option maxRecDepth 65536 in
set_option maxHeartbeats 40000000 in
theorem comes_1 {Post : Tables → Env → Array Value → State → Outcome → State → Prop} (hpost : ∀ tb e args s v u, (limb_1_1.after args s (.returned v) u = true ∧ limb_1_2.after args s (.returned v) u = true ∧ True) → FrameEnd s (.returned v) u (Jvm.fieldLocs frame_1_writes args s ++ Jvm.arrayLocs frame_1_arrays args s ++ Jvm.staticLocs frame_1_statics s) 0 0 → Post tb e args s (.returned v) u) :
    ArmFor flags0 classFile x code maxLocals ret World_1 tables_1 room_1 Calls_1 rest_1 Pre_1 Post := by
  intro l hfl _ _ p e ha hc hk s m args below hf hA hF happ hP
  obtain ⟨hcalls, hrest, hpre⟩ := hP
  obtain ⟨-, -, -, hnamed, -, -, -, hat⟩ := (Spec.applies_iff hf).mp happ
  obtain ⟨hg, hn⟩ := and_e (Cond.before_iff.mp (show (Jvm.Cond.and given_1 narrow_1).before args s = true from hpre))
  obtain ⟨gc, hg⟩ := and_e hg
  obtain ⟨ga0, hg⟩ := and_e hg
  obtain ⟨ga1, hg⟩ := and_e hg
  obtain ⟨ga2, hg⟩ := and_e hg
  have ga3 := hg
  obtain ⟨w0, w1, w2, w3, rfl⟩ : ∃ w0 w1 w2 w3 : Value, args = #[w0, w1, w2, w3] := by
    have hs : args.size = 4 := by simpa [Cond.value, given_1] using gc
    obtain ⟨L⟩ := args
    match L, hs with
    | [w0, w1, w2, w3], _ => exact ⟨w0, w1, w2, w3, rfl⟩
  have hw := fun d (hd : d ∈ tables_1) => atoms_spec (ws := Jvm.Cond.code x code maxLocals ret :: tables_1) hat d (List.mem_cons_of_mem _ hd)
  have hfit : Fit s := fun {y c} hc i hi => by
    obtain ⟨ha, rfl⟩ := Array.getElem?_eq_some_iff.mp hc
    have q := List.all_eq_true.mp ((Array.all_eq_true_iff_forall_mem.mp hF) _ (Array.getElem_mem ha)) i (List.mem_range.mpr hi)
    simpa [Array.getElem?_eq_getElem hi] using q
  obtain ⟨i0, ei0⟩ := is_v ga0
  obtain rfl : w0 = (.int i0) := Option.some.inj ei0
  obtain ⟨i1, ei1⟩ := is_v ga1
  obtain rfl : w1 = (.int i1) := Option.some.inj ei1
  obtain ⟨i2, ei2⟩ := is_v ga2
  obtain rfl : w2 = (.int i2) := Option.some.inj ei2
  obtain ⟨i3, ei3⟩ := is_v ga3
  obtain rfl : w3 = (.int i3) := Option.some.inj ei3
  obtain ⟨n, o, h1, h2, h3, _, L, rfl, ⟨rfl, N⟩, hq⟩ := rm0 l s _ hw tables_1 i0 i1 i2 i3 s.heap s.heap.size (Nat.le_refl _)  p e ha hc hk s m _ below hf ((Spec.applies_iff_loose hf).mp happ).1 ⟨rfl, State.Warmed39.refl s, rfl⟩ trivial
  refine ⟨n, _, h1, h2, h3, hpost _ _ _ _ _ _ ⟨Cond.after_iff.mpr rfl, Cond.after_iff.mpr (eq_i res_at (Term.int_eval (1)) rfl), trivial⟩ ⟨hq.1, hq.2.1, (hq.2.2.sift fun y hy => Or.inr (N y hy)).mono (by decide) (by decide)⟩⟩
theorem main_1_1 : Claimed_1_1 := comes_1 fun _ _ _ _ _ _ h hF => ⟨h.1, hF⟩
theorem main_1_2 : Claimed_1_2 := comes_1 fun _ _ _ _ _ _ h hF => ⟨h.2.1, hF⟩
end Jvm.Pilot.@@N@@
namespace Jvm.Pilot.@@N@@
open Jvm Jvm.ClassFile Sem Op Lib Jvm.Free Jvm.Stand Jvm.Pilot.@@N@@.Jvm.D
/-! MADE BY PROGRAM (witnessworld.py) out of the Statement's table words and the real class files: 9 classes; the members and pool entries that the words name. The judged class is class 1, her method 1. -/
namespace start1
open Jvm.ClassFile
def u (s : String) : CpInfo := .utf8 (stringToUtf16 s)
/-- a pool by its gaps: so many unusable entries, then the entry; so many at the end -/
def gap : Nat → List CpInfo → List CpInfo
  | 0, r => r
  | n + 1, r => .unusable :: gap n r
def poolList (es : List (Nat × CpInfo)) (last : Nat) : List CpInfo := es.foldr (fun e r => gap e.1 (e.2 :: r)) (gap last [])
def pool (es : List (Nat × CpInfo)) (last : Nat) : Array CpInfo := ⟨poolList es last⟩
def fileOf (pool : Array CpInfo) (this : Nat) (attrs : Array Attribute := #[]) (ms : Array MethodInfo := #[]) (fl : Nat := 33) (sup : Nat := 0) (ifs : Array Nat := #[]) (fds : Array FieldInfo := #[]) : ClassFile where
  minorVersion := 0
  majorVersion := 65
  constantPool := pool
  accessFlags := fl
  thisClass := this
  superClass := sup
  interfaces := ifs
  fields := fds
  methods := ms
  attributes := attrs
def plain (name : String) (sup : Option ClassId) : Class where
  name := name
  kind := .ordinary
  loader := none
  accessFlags := 33
  super := sup
  interfaces := #[]
  cf := none
  fields := #[]
  methods := #[]
  instanceTypes := #[]
  staticTypes := #[]
  resolved := #[]
  callSites := []
  init := .initialized
  statics := none
  mirror := none

def pool0 : Array CpInfo := pool [(5, u "<init>"), (0, u "()V"), (1, .class_ 10), (1, u "java/lang/Object")] 113

def k0m0 : Method := { name := "<init>", desc := "()V", sig := { parameters := [], returnType := none }, accessFlags := 1, code := none }
/-- java/lang/Object -/
def k0 : Class := { plain "java/lang/Object" none with
  accessFlags := 33
  interfaces := #[]
  cf := some (fileOf pool0 8 #[] #[{ accessFlags := 1, nameIndex := 5, descriptorIndex := 6, attributes := #[] }] 33 0 #[] #[])
  fields := #[]
  methods := #[k0m0]
  instanceTypes := #[]
  staticTypes := #[]
  resolved := Array.replicate 124 none
  statics := none }

def pool1 : Array CpInfo := pool [(2, .class_ 4), (1, u "java/lang/Object"), (0, u "<init>"), (0, u "()V"), (0, .integer 1048575), (0, .double 9223372036854775808), (1, .integer 2147483647), (0, .methodref 12 13), (0, .class_ 14), (0, .nameAndType 15 16), (0, u "com/example/bemesser/bemesser/analysis/CrossSectionValues"), (0, u "density"), (0, u "(DD)D"), (0, .class_ 18), (0, u "com/example/bemesser/bemesser/analysis/CrossSectionValuesDensityPinLaw"), (2, u "law"), (0, u "(IIII)Z")] 3

def k1m0 : Method := { name := "<init>", desc := "()V", sig := { parameters := [], returnType := none }, accessFlags := 1, code := none }
def k1c1 : Code := { maxStack := 6, maxLocals := 19, code := code, exceptionTable := #[], attributes := #[] }
def k1m1 : Method := { name := "law", desc := "(IIII)Z", sig := { parameters := [.int, .int, .int, .int], returnType := some .boolean }, accessFlags := 9, code := some k1c1 }
/-- com/example/bemesser/bemesser/analysis/CrossSectionValuesDensityPinLaw -/
def k1 : Class := { plain "com/example/bemesser/bemesser/analysis/CrossSectionValuesDensityPinLaw" (some 0) with
  accessFlags := 49
  interfaces := #[]
  cf := some (fileOf pool1 17 #[] #[{ accessFlags := 1, nameIndex := 5, descriptorIndex := 6, attributes := #[] }, { accessFlags := 9, nameIndex := 21, descriptorIndex := 22, attributes := #[] }] 49 2 #[] #[])
  fields := #[]
  methods := #[k1m0, k1m1]
  instanceTypes := #[]
  staticTypes := #[]
  resolved := Array.replicate 26 none
  statics := none }

def pool2 : Array CpInfo := pool [(2, .class_ 4), (1, u "java/lang/Object"), (3, .class_ 10), (1, u "com/example/bemesser/bemesser/analysis/CrossSectionValues"), (0, u "qKfz"), (0, u "D"), (2, u "qPkw"), (2, u "qLkw"), (2, u "vKfz"), (2, u "vPkw"), (2, u "vLkw"), (2, u "b"), (2, u "qb"), (2, u "fehler"), (0, u "Ljava/lang/String;"), (2, u "ABSENT_VALUES"), (0, u "Lcom/example/bemesser/bemesser/analysis/CrossSectionValues;"), (2, .double 9221120237041090560), (6, u "density"), (0, u "(DD)D"), (12, u "ABSENT")] 13

def k2c0 : Code := { maxStack := 4, maxLocals := 4, code := prog_4_method_16_code, exceptionTable := #[], attributes := #[] }
def k2m0 : Method := { name := "density", desc := "(DD)D", sig := { parameters := [.double, .double], returnType := some .double }, accessFlags := 8, code := some k2c0 }
/-- com/example/bemesser/bemesser/analysis/CrossSectionValues -/
def k2 : Class := { plain "com/example/bemesser/bemesser/analysis/CrossSectionValues" (some 0) with
  accessFlags := 33
  interfaces := #[]
  cf := some (fileOf pool2 8 #[] #[{ accessFlags := 8, nameIndex := 51, descriptorIndex := 52, attributes := #[] }] 33 2 #[] #[{ accessFlags := 26, nameIndex := 65, descriptorIndex := 37, attributes := #[] }, { accessFlags := 26, nameIndex := 40, descriptorIndex := 41, attributes := #[] }, { accessFlags := 18, nameIndex := 11, descriptorIndex := 12, attributes := #[] }, { accessFlags := 18, nameIndex := 15, descriptorIndex := 12, attributes := #[] }, { accessFlags := 18, nameIndex := 18, descriptorIndex := 12, attributes := #[] }, { accessFlags := 18, nameIndex := 21, descriptorIndex := 12, attributes := #[] }, { accessFlags := 18, nameIndex := 24, descriptorIndex := 12, attributes := #[] }, { accessFlags := 18, nameIndex := 27, descriptorIndex := 12, attributes := #[] }, { accessFlags := 18, nameIndex := 30, descriptorIndex := 12, attributes := #[] }, { accessFlags := 18, nameIndex := 33, descriptorIndex := 12, attributes := #[] }, { accessFlags := 18, nameIndex := 36, descriptorIndex := 37, attributes := #[] }])
  fields := #[{ name := "ABSENT", type := (.object "java/lang/String"), accessFlags := 26, slot := 0, constantValue := 0 }, { name := "ABSENT_VALUES", type := (.object "com/example/bemesser/bemesser/analysis/CrossSectionValues"), accessFlags := 26, slot := 1, constantValue := 0 }, { name := "qKfz", type := .double, accessFlags := 18, slot := 0, constantValue := 0 }, { name := "qPkw", type := .double, accessFlags := 18, slot := 1, constantValue := 0 }, { name := "qLkw", type := .double, accessFlags := 18, slot := 2, constantValue := 0 }, { name := "vKfz", type := .double, accessFlags := 18, slot := 3, constantValue := 0 }, { name := "vPkw", type := .double, accessFlags := 18, slot := 4, constantValue := 0 }, { name := "vLkw", type := .double, accessFlags := 18, slot := 5, constantValue := 0 }, { name := "b", type := .double, accessFlags := 18, slot := 6, constantValue := 0 }, { name := "qb", type := .double, accessFlags := 18, slot := 7, constantValue := 0 }, { name := "fehler", type := (.object "java/lang/String"), accessFlags := 18, slot := 8, constantValue := 0 }]
  methods := #[k2m0]
  instanceTypes := #[.double, .double, .double, .double, .double, .double, .double, .double, (.object "java/lang/String")]
  staticTypes := #[(.object "java/lang/String"), (.object "com/example/bemesser/bemesser/analysis/CrossSectionValues")]
  resolved := Array.replicate 79 none
  statics := none }

def pool3 : Array CpInfo := pool [(1, u "java/lang/Cloneable"), (0, .class_ 1), (0, u "java/lang/Object"), (0, .class_ 3)] 3

/-- java/lang/Cloneable -/
def k3 : Class := { plain "java/lang/Cloneable" (some 0) with
  accessFlags := 1537
  interfaces := #[]
  cf := some (fileOf pool3 2 #[] #[] 1537 4 #[] #[])
  fields := #[]
  methods := #[]
  instanceTypes := #[]
  staticTypes := #[]
  resolved := Array.replicate 8 none
  statics := none }

def pool4 : Array CpInfo := pool [(1, u "java/io/Serializable"), (0, .class_ 1), (0, u "java/lang/Object"), (0, .class_ 3)] 3

/-- java/io/Serializable -/
def k4 : Class := { plain "java/io/Serializable" (some 0) with
  accessFlags := 1537
  interfaces := #[]
  cf := some (fileOf pool4 2 #[] #[] 1537 4 #[] #[])
  fields := #[]
  methods := #[]
  instanceTypes := #[]
  staticTypes := #[]
  resolved := Array.replicate 8 none
  statics := none }

/-- the primitive byte -/
def k5 : Class := { plain "byte" none with kind := .primitive 'B', accessFlags := 0x411 }
/-- [B -/
def k6 : Class := { plain "[B" (some 0) with kind := .array 5 .byte, interfaces := #[3, 4], accessFlags := 1041 }

/-- the primitive int -/
def k7 : Class := { plain "int" none with kind := .primitive 'I', accessFlags := 0x411 }
/-- [I -/
def k8 : Class := { plain "[I" (some 0) with kind := .array 7 .int, interfaces := #[3, 4], accessFlags := 1041 }

def heap : Heap := #[]
def classes : Array Class := #[k0, k1, k2, k3, k4, k5, k6, k7, k8]
def interned : List (Array UInt16 × Addr) := []
def slotsUsed : Nat := 0
def theMethod : MethodId := ⟨1, 1⟩
def args0 : Array Value := #[.int 3, .int 40, .int 7, .int 0]
def aboutOver (below : List Frame) : State where
  vm := { classes := classes, interned := interned.toArray }
  heap := heap
  slotsUsed := slotsUsed
  threads := #[{ frames := .invoking theMethod args0 :: below }]
def below0 : List Frame := [.native { method := ⟨0, 0⟩, args := #[] }]
def about1 : State := aboutOver below0
def p0 : Program := .bare "" "" ""
def e0 : Env := launch0.env 0 0 0
theorem w_frames : about1.frames = Frame.invoking theMethod args0 :: below0 := rfl
set_option maxRecDepth 65536 in
theorem w_args : argsFit about1.vm theMethod args0 = true := by decide +kernel
set_option maxRecDepth 65536 in
theorem w_heap : heapFits about1 = true := by decide +kernel
set_option maxRecDepth 65536 in
theorem w_runnable : about1.curStatus? = some .runnable := by decide +kernel
set_option maxRecDepth 65536 in
theorem w_alone : about1.alone = true := by decide +kernel
set_option maxRecDepth 65536 in
theorem w_named : about1.methodNamed? x = some theMethod := by decide +kernel
set_option maxRecDepth 65536 in
theorem w_hears : about1.hears theMethod below0 = true := by decide +kernel
set_option maxRecDepth 65536 in
theorem w_ripe : about1.ripe theMethod args0 below0 = true := by decide +kernel
theorem w_running : about1.status = .running := rfl
set_option maxRecDepth 65536 in
theorem w_room : about1.hasRoom e0.platform room_1 = true :=
  launch0.hasRoom_least _ room_1 (by decide +kernel) (by decide +kernel) (by decide +kernel) (by decide +kernel) (by decide +kernel) (by decide +kernel)
theorem allAtoms_all (ts : List Jvm.Cond) (a : Array Jvm.Value) (st : Jvm.State) : (allAtoms ts).before a st = ts.all (fun c => c.before a st) := by
  induction ts with
  | nil => rfl
  | cons c t ih =>
    show (Jvm.Cond.and c (allAtoms t)).before a st = _
    rw [Jvm.Cond.before_and, ih, List.all_cons]
def words1 : List Jvm.Cond := Jvm.Cond.code x code maxLocals ret :: tables_1
/-- a 'code' word, met by the world's own term for the bytes: nothing is compared byte by byte -/
theorem code_word {y : MethodName} {bytes : ByteArray} {mx : Nat} {rt : Option FieldType} {a : Array Value} {s : State} {m : MethodId} {meth : Method} {c : Code} (h1 : s.methodNamed? y = some m) (h2 : s.vm.method? m = some meth) (h3 : meth.code = some c) (h4 : c.code = bytes)
    (h5 : (c.maxLocals == mx && c.exceptionTable.isEmpty && decide (c.maxStack ≤ mostOperands) && decide (meth.sig.returnType = rt) && !meth.locks && decide (parseMethodDescriptor y.desc = some meth.sig)) = true) : (Jvm.Cond.code y bytes mx rt).before a s = true := by
  simp only [Bool.and_eq_true, beq_iff_eq, Bool.not_eq_true', decide_eq_true_eq] at h5
  obtain ⟨⟨⟨⟨⟨g1, g2⟩, g3⟩, g4⟩, g5⟩, g6⟩ := h5
  simp [Cond.before, Cond.holds, Cond.value, h1, h2, h3, h4, g1, g2, g3, g4, g5, g6]
def isCode : Jvm.Cond → Bool
  | .code _ _ _ _ => true
  | _ => false
theorem all_split {L : List Jvm.Cond} {P : Jvm.Cond → Bool} (h1 : L.all (fun c => isCode c || P c) = true) (h2 : ∀ c ∈ L.filter isCode, P c = true) : L.all P = true := by
  refine List.all_eq_true.mpr fun c hc => ?_
  have h := List.all_eq_true.mp h1 c hc
  rcases Bool.eq_false_or_eq_true (isCode c) with hi | hi
  · exact h2 c (List.mem_filter.mpr ⟨hc, hi⟩)
  · simpa [hi] using h
set_option maxRecDepth 65536 in
theorem w_c0 : (Jvm.Cond.code x code maxLocals ret).before args0 about1 = true := code_word (m := ⟨1, 1⟩) (meth := k1m1) (c := k1c1) (by decide +kernel) rfl rfl rfl (by decide +kernel)
set_option maxRecDepth 65536 in
theorem w_c1 : (Jvm.Cond.code ({ cls := "com/example/bemesser/bemesser/analysis/CrossSectionValues", name := "density", desc := "(DD)D" } : Jvm.MethodName) prog_4_method_16_code (4 : Nat) (Option.some Jvm.ClassFile.FieldType.double)).before args0 about1 = true := code_word (m := ⟨2, 0⟩) (meth := k2m0) (c := k2c0) (by decide +kernel) rfl rfl rfl (by decide +kernel)
def codes1 : List Jvm.Cond := [Jvm.Cond.code x code maxLocals ret, Jvm.Cond.code ({ cls := "com/example/bemesser/bemesser/analysis/CrossSectionValues", name := "density", desc := "(DD)D" } : Jvm.MethodName) prog_4_method_16_code (4 : Nat) (Option.some Jvm.ClassFile.FieldType.double)]
set_option maxRecDepth 65536 in
theorem codes_eq : words1.filter isCode = codes1 := rfl
theorem w_codes : ∀ c ∈ words1.filter isCode, c.before args0 about1 = true := by
  rw [codes_eq]
  intro c hc
  simp only [codes1, List.mem_cons, List.not_mem_nil, or_false] at hc
  rcases hc with rfl | rfl
  · exact w_c0
  · exact w_c1
set_option maxRecDepth 65536 in
theorem w_t1 : words1.all (fun c => isCode c || c.before args0 about1) = true := by decide +kernel
theorem w_tables : (allAtoms (Jvm.Cond.code x code maxLocals ret :: tables_1)).before args0 about1 = true := by
  rw [allAtoms_all]
  show words1.all (fun c => c.before args0 about1) = true
  refine all_split ?_ w_codes
  rw [w_t1]
set_option maxRecDepth 65536 in
theorem w_case : (Jvm.Cond.and given_1 narrow_1).before args0 about1 = true := by decide +kernel
theorem w_applies : (headSpec (Jvm.Cond.code x code maxLocals ret :: tables_1) room_1).applies x e0.platform about1 = true :=
  (Spec.applies_iff w_frames).mpr ⟨w_running, w_runnable, w_alone, w_named, w_hears, w_ripe, w_room, w_tables⟩
theorem atStart : AtStart classFile x code maxLocals ret World_1 tables_1 room_1 Calls_1 rest_1 Pre_1 launch0 p0 e0 about1 theMethod args0 below0 :=
  ⟨lists_1, trivial, launch0.admits_env _ _ _, launch0.least_env, fairChoices_fair.cas, fairChoices_fair.clock, w_frames, w_args, w_heap, w_applies, trivial, trivial, w_case⟩
end start1
theorem witness_1 : WitnessClaimed_1 := ⟨start1.p0, start1.e0, start1.about1, start1.theMethod, start1.args0, start1.below0, start1.atStart⟩
end Jvm.Pilot.@@N@@
