import JvmDerived
import JvmDerived.Pilot.@@N@@Statement
import JvmDerived.Pilot.@@N@@Code
set_option linter.unusedVariables false
set_option linter.unusedSimpArgs false
namespace Jvm.Pilot.@@N@@
open Jvm Jvm.ClassFile Sem Op Lib Jvm.Free Jvm.Stand Jvm.LawKit Jvm.RoadKit Bundle Jvm.Pilot.@@N@@.Jvm.D
def own_usr (x y : Int32) : Int32 := (x.toUInt32 >>> (y &&& 31).toUInt32).toInt32
def own_usrL (x : Int64) (y : Int32) : Int64 := (x.toUInt64 >>> (y &&& 0x3f).toInt64.toUInt64).toInt64
/-- where the run came from, where it stands -/
def Go (p : Program) (e : Env) (below : List Frame) (A B : State) : Prop := ∀ t, Steps p.tables e below B t → Steps p.tables e below A t
theorem Go.step {p : Program} {e : Env} {below : List Frame} {A B C : State} (g : Go p e below A B) (h : ∀ t, Steps p.tables e below C t → Steps p.tables e below B t) : Go p e below A C := fun t k => g t (h t k)
theorem Go.tr {p : Program} {e : Env} {below : List Frame} {A B C : State} (g : Go p e below A B) (h : Steps p.tables e below B C) : Go p e below A C := fun t k => g t (h.trans k)
section Rets
variable {p : Program} {l : Launch} {e : Env} {R : Room} {s : State} {m : MethodId} {args : Array Value} {below : List Frame} {meth : Method} {c : Code} {T : State} {locs : List Loc} {cells slots : Nat}
theorem own_retI (X : Stand p l e R s m args below meth c T locs cells slots) (hx : p.tables.exec = Jvm.exec) {pc : Nat} {Ls : Array Slot} {z : Int32} {rest : List Value} (hret : meth.sig.returnType = some .int) (hd : decode c.code pc = .ok (.ireturn, 1)) {fs : List Frame}
    (hl : ∀ (f : JFrame) (acts : List Action), f.method = m → f.locked = none → f.entered = [] → (doReturn e (T.setTop f) acts (some (.int z))).1 = T.setFrames fs) : Steps p.tables e below (T.setTop (mkF m pc Ls (.int z :: rest))) (T.setFrames fs) :=
  retOut X hx (t := .int) hret rfl (Or.inl ⟨rfl, Or.inl rfl, z, rfl⟩) hd hl
theorem own_retL (X : Stand p l e R s m args below meth c T locs cells slots) (hx : p.tables.exec = Jvm.exec) {pc : Nat} {Ls : Array Slot} {z : Int64} {rest : List Value} (hret : meth.sig.returnType = some .long) (hd : decode c.code pc = .ok (.lreturn, 1)) {fs : List Frame}
    (hl : ∀ (f : JFrame) (acts : List Action), f.method = m → f.locked = none → f.entered = [] → (doReturn e (T.setTop f) acts (some (.long z))).1 = T.setFrames fs) : Steps p.tables e below (T.setTop (mkF m pc Ls (.long z :: rest))) (T.setFrames fs) :=
  retOut X hx (t := .long) hret rfl (Or.inr (Or.inl ⟨rfl, rfl, z, rfl⟩)) hd hl
theorem own_retA (X : Stand p l e R s m args below meth c T locs cells slots) (hx : p.tables.exec = Jvm.exec) {t : FieldType} {pc : Nat} {Ls : Array Slot} {z : Addr} {rest : List Value} (hret : meth.sig.returnType = some t) (ht : t.isReference = true) (hn : narrow t (.ref z) = .ref z) (hd : decode c.code pc = .ok (.areturn, 1)) {fs : List Frame}
    (hl : ∀ (f : JFrame) (acts : List Action), f.method = m → f.locked = none → f.entered = [] → (doReturn e (T.setTop f) acts (some (.ref z))).1 = T.setFrames fs) : Steps p.tables e below (T.setTop (mkF m pc Ls (.ref z :: rest))) (T.setFrames fs) :=
  retOut X hx hret hn (Or.inr (Or.inr (Or.inr (Or.inr ⟨rfl, ht, rfl⟩)))) hd hl
end Rets
def own_xs (z : Int64) (k : Int32) : Int64 := z ^^^ own_usrL z k
def own_mix (x : Int64) : Int64 := own_xs (own_xs (own_xs x (30 : Int32) * (-4658895280553007687 : Int64)) (27 : Int32) * (-7723592293110705685 : Int64)) (31 : Int32)
theorem own_h (m : Int64) : 0 ≤ (own_usrL m (11 : Int32)).toInt ∧ (own_usrL m (11 : Int32)).toInt < 9007199254740992 := by
  have h : (own_usrL m (11 : Int32)).toInt = (m.toInt % 18446744073709551616) / (2 ^ 11 : Nat) := c_lushr m 11 11 (by decide) (by decide)
  rw [h]; omega
theorem own_cancel {c X E : Nat} {q t : Int} (hq : -1074 ≤ q) (hE : (E : Int) + 52 + t = 1074) (h : c * 2 ^ (q - (-1074)).toNat = X * 2 ^ E) : c * 2 ^ 52 * 2 ^ (q + t).toNat = X * 2 ^ (-(q + t)).toNat := by
  by_cases hc : 0 ≤ q + t
  · have e1 : (q - (-1074)).toNat = (q + t).toNat + (52 + E) := by omega
    have e2 : (-(q + t)).toNat = 0 := by omega
    rw [e1, Nat.pow_add, Nat.pow_add, ← Nat.mul_assoc, ← Nat.mul_assoc] at h
    rw [e2, Nat.pow_zero, Nat.mul_one, Nat.mul_right_comm]
    exact Nat.eq_of_mul_eq_mul_right (Nat.two_pow_pos E) h
  · obtain ⟨j, hj⟩ : ∃ j : Nat, (-(q + t)).toNat = j := ⟨_, rfl⟩
    have e1 : (q - (-1074)).toNat + j = 52 + E := by omega
    have e2 : (q + t).toNat = 0 := by omega
    rw [hj, e2, Nat.pow_zero, Nat.mul_one]
    have h2 : c * 2 ^ (q - (-1074)).toNat * 2 ^ j = X * 2 ^ E * 2 ^ j := by rw [h]
    rw [Nat.mul_assoc, ← Nat.pow_add, e1, Nat.pow_add, ← Nat.mul_assoc, Nat.mul_right_comm X] at h2
    exact Nat.eq_of_mul_eq_mul_right (Nat.two_pow_pos E) h2
open Jvm.FP in
theorem own_l2d {a : Int64} (h : 0 ≤ a.toInt ∧ a.toInt < 9007199254740992) : ∃ c q, Core.val64 (FP.l2d a) = .fin false c q ∧ -1074 ≤ q ∧ c * 2 ^ (q - (-1074)).toNat = a.toInt.toNat * 2 ^ 1074 := by
  have e : Core.val64 (FP.l2d a) = Core.round Core.b64 (Core.ofInt a.toInt) := Core.val64_l2d a
  obtain ⟨c, q, h1, h2⟩ := Core.round_exact Core.good_b64 (decide (a.toInt < 0)) (c := a.toInt.natAbs) (q := 0) (Nat.lt_of_lt_of_le (m := 9007199254740992) (by omega) (by decide)) (by decide) (by decide)
  have hd : decide (a.toInt < 0) = false := by simp; omega
  have h3 : Core.val64 (FP.l2d a) = .fin false c q := by rw [e]; exact h1.trans (by rw [hd])
  have hf := Core.val64_fits (FP.l2d a)
  rw [h3] at hf
  refine ⟨c, q, h3, hf.2.1, ?_⟩
  have e4 : a.toInt.natAbs = a.toInt.toNat := by omega
  rw [← e4]
  exact h2
open Jvm.FP in
theorem own_k1 : Core.val64 (4368491638549381120 : UInt64) = .fin false (2 ^ 52) (-105) := by decide +kernel
open Jvm.FP in
theorem own_k2 : Core.val64 (4845873199050653696 : UInt64) = .fin false (2 ^ 52) 1 := by decide +kernel
open Jvm.FP in
theorem own_d {a : Int64} (h : 0 ≤ a.toInt ∧ a.toInt < 9007199254740992) : ∃ c q, Core.val64 (FP.dmul (FP.l2d a) (4368491638549381120 : UInt64)) = .fin false c q ∧ -1074 ≤ q ∧ c * 2 ^ (q - (-1074)).toNat = a.toInt.toNat * 2 ^ 1021 := by
  obtain ⟨c, q, h1, hq, h2⟩ := own_l2d h
  have e : Core.val64 (FP.dmul (FP.l2d a) (4368491638549381120 : UInt64)) = Core.round Core.b64 (Core.exactProduct (Core.val64 (FP.l2d a)) (Core.val64 (4368491638549381120 : UInt64))) := Core.val64_dmul _ _
  rw [h1, own_k1] at e
  have e2 : Core.round Core.b64 (Core.exactProduct (.fin false c q) (.fin false (2 ^ 52) (-105))) = Core.roundRatio Core.b64 false (c * 2 ^ 52) 1 (q + (-105)) := rfl
  have e3 : Core.roundRatio Core.b64 false (c * 2 ^ 52) 1 (q + (-105)) = Core.roundRatio Core.b64 false a.toInt.toNat 1 (-53) := by
    refine Core.roundRatio_congr (by decide) (by decide) ?_
    have h3 := own_cancel (t := -52) (E := 1074) hq (by decide) h2
    have e4 : q + (-105) - (-53) = q + (-52) := by omega
    have e5 : (-53 : Int) - (q + (-105)) = -(q + (-52)) := by omega
    rw [e4, e5, Nat.mul_one, Nat.mul_one]; exact h3
  obtain ⟨c2, q2, h4, h5⟩ := Core.round_exact Core.good_b64 false (c := a.toInt.toNat) (q := -53) (Nat.lt_of_lt_of_le (m := 9007199254740992) (by omega) (by decide)) (by decide) (by decide)
  have h6 : Core.val64 (FP.dmul (FP.l2d a) (4368491638549381120 : UInt64)) = .fin false c2 q2 := by rw [e, e2, e3]; exact h4
  have hf := Core.val64_fits (FP.dmul (FP.l2d a) (4368491638549381120 : UInt64))
  rw [h6] at hf
  exact ⟨c2, q2, h6, hf.2.1, h5⟩
open Jvm.FP in
theorem own_sc {a : Int64} (h : 0 ≤ a.toInt ∧ a.toInt < 9007199254740992) : FP.dmul (FP.dmul (FP.l2d a) (4368491638549381120 : UInt64)) (4845873199050653696 : UInt64) = FP.l2d a := by
  obtain ⟨c, q, h1, hq, h2⟩ := own_d h
  obtain ⟨c0, q0, h0, -, -⟩ := own_l2d h
  have e : Core.val64 (FP.dmul (FP.dmul (FP.l2d a) (4368491638549381120 : UInt64)) (4845873199050653696 : UInt64)) = Core.round Core.b64 (Core.exactProduct (Core.val64 (FP.dmul (FP.l2d a) (4368491638549381120 : UInt64))) (Core.val64 (4845873199050653696 : UInt64))) := Core.val64_dmul _ _
  rw [h1, own_k2] at e
  have e2 : Core.round Core.b64 (Core.exactProduct (.fin false c q) (.fin false (2 ^ 52) 1)) = Core.roundRatio Core.b64 false (c * 2 ^ 52) 1 (q + 1) := rfl
  have e3 : Core.roundRatio Core.b64 false (c * 2 ^ 52) 1 (q + 1) = Core.roundRatio Core.b64 false a.toInt.toNat 1 0 := by
    refine Core.roundRatio_congr (by decide) (by decide) ?_
    have h3 := own_cancel (t := 1) (E := 1021) hq (by decide) h2
    have e4 : q + 1 - 0 = q + 1 := by omega
    have e5 : (0 : Int) - (q + 1) = -(q + 1) := by omega
    rw [e4, e5, Nat.mul_one, Nat.mul_one]; exact h3
  have e6 : Core.val64 (FP.l2d a) = Core.round Core.b64 (Core.ofInt a.toInt) := Core.val64_l2d a
  have hd : decide (a.toInt < 0) = false := by simp; omega
  have e7 : Core.round Core.b64 (Core.ofInt a.toInt) = Core.roundRatio Core.b64 false a.toInt.toNat 1 0 := by
    show Core.roundRatio Core.b64 (decide (a.toInt < 0)) a.toInt.natAbs 1 0 = _
    rw [hd, show a.toInt.natAbs = a.toInt.toNat by omega]
  have e8 : Core.val64 (FP.dmul (FP.dmul (FP.l2d a) (4368491638549381120 : UInt64)) (4845873199050653696 : UInt64)) = Core.val64 (FP.l2d a) := by rw [e, e2, e3, e6, e7]
  exact Core.val64_inj (by rw [e8, h0]; exact fun z => Core.Datum.noConfusion z) e8
open Jvm.FP in
theorem own_zd {a : Int64} (h : 0 ≤ a.toInt ∧ a.toInt < 9007199254740992) : Core.val64 (FP.dmul (FP.l2d a) (4368491638549381120 : UInt64)) ≠ .nan ∧ Core.zval Core.b64 (Core.val64 (FP.dmul (FP.l2d a) (4368491638549381120 : UInt64))) = a.toInt * ((2 ^ 1021 : Nat) : Int) := by
  obtain ⟨c, q, h1, hq, h2⟩ := own_d h
  rw [h1]
  refine And.intro (fun z => Core.Datum.noConfusion z) ?_
  show ((Core.inUnits c q Core.b64.qmin : Nat) : Int) = _
  have e : Core.inUnits c q Core.b64.qmin = a.toInt.toNat * 2 ^ 1021 := h2
  rw [e, Int.natCast_mul]
  congr 1; omega
open Jvm.FP in
theorem own_z0 : Core.val64 FP.dconst0 ≠ .nan ∧ Core.zval Core.b64 (Core.val64 FP.dconst0) = 0 := by decide +kernel
open Jvm.FP in
theorem own_z1 : Core.val64 FP.dconst1 ≠ .nan ∧ Core.zval Core.b64 (Core.val64 FP.dconst1) = 9007199254740992 * ((2 ^ 1021 : Nat) : Int) := by decide +kernel
theorem own_nnv {x : UInt64} (h : FP.Core.val64 x ≠ .nan) : Jvm.Free.Fl.NoNaN64 x := by
  have q2 : FP.dcmp x x = some .eq := FP.Core.dcmp_self h
  exact (Jvm.Free.Fl.dcmp_some q2).1
theorem own_cmp (a b : Int) : compare a b = if a < b then Ordering.lt else if a = b then Ordering.eq else Ordering.gt := rfl
theorem own_cl {a b : Int} (o : CmpOp) : cmpValue (some (compare a b)) o < (0 : Int32) ↔ a < b := by
  rw [own_cmp]
  by_cases h : a < b
  · rw [if_pos h]; exact iff_of_true (by cases o <;> decide) h
  · rw [if_neg h]
    by_cases h2 : a = b
    · rw [if_pos h2]; exact iff_of_false (by cases o <;> decide) h
    · rw [if_neg h2]; exact iff_of_false (by cases o <;> decide) h
theorem own_cg {a b : Int} (o : CmpOp) : (0 : Int32) < cmpValue (some (compare a b)) o ↔ b < a := by
  rw [own_cmp]
  by_cases h : a < b
  · rw [if_pos h]; exact iff_of_false (by cases o <;> decide) (by omega)
  · rw [if_neg h]
    by_cases h2 : a = b
    · rw [if_pos h2]; exact iff_of_false (by cases o <;> decide) (by omega)
    · rw [if_neg h2]; exact iff_of_true (by cases o <;> decide) (by omega)
theorem own_ge0 {a : Int64} (h : 0 ≤ a.toInt ∧ a.toInt < 9007199254740992) : ¬ (0 : Int32) < cmpValue (FP.dcmp FP.dconst0 (FP.dmul (FP.l2d a) (4368491638549381120 : UInt64))) .g := by
  obtain ⟨q1, q2⟩ := own_zd h
  have d : FP.dcmp FP.dconst0 (FP.dmul (FP.l2d a) (4368491638549381120 : UInt64)) = some (compare 0 (a.toInt * ((2 ^ 1021 : Nat) : Int))) := by
    rw [← q2, ← own_z0.2]; exact FP.Core.dcmp_zval own_z0.1 q1
  rw [d, own_cg]
  have := Int.mul_nonneg h.1 (Int.natCast_nonneg (2 ^ 1021))
  omega
theorem own_lt1 {a : Int64} (h : 0 ≤ a.toInt ∧ a.toInt < 9007199254740992) : cmpValue (FP.dcmp (FP.dmul (FP.l2d a) (4368491638549381120 : UInt64)) FP.dconst1) .g < (0 : Int32) := by
  obtain ⟨q1, q2⟩ := own_zd h
  have d : FP.dcmp (FP.dmul (FP.l2d a) (4368491638549381120 : UInt64)) FP.dconst1 = some (compare (a.toInt * ((2 ^ 1021 : Nat) : Int)) (9007199254740992 * ((2 ^ 1021 : Nat) : Int))) := by
    rw [← q2, ← own_z1.2]; exact FP.Core.dcmp_zval q1 own_z1.1
  rw [d, own_cl]
  exact Int.mul_lt_mul_of_pos_right h.2 (by have := Nat.two_pow_pos 1021; omega)
theorem own_d2l {a : Int64} (h : 0 ≤ a.toInt ∧ a.toInt < 9007199254740992) : FP.d2l (FP.dmul (FP.dmul (FP.l2d a) (4368491638549381120 : UInt64)) (4845873199050653696 : UInt64)) = a := by
  rw [own_sc h]
  exact FP.Core.d2l_l2d (Nat.le_of_lt (Nat.lt_of_lt_of_le (m := 9007199254740992) (by omega) (by decide)))
theorem own_eq {a : Int64} (h : 0 ≤ a.toInt ∧ a.toInt < 9007199254740992) : cmpValue (FP.dcmp (FP.l2d (FP.d2l (FP.dmul (FP.dmul (FP.l2d a) (4368491638549381120 : UInt64)) (4845873199050653696 : UInt64)))) (FP.dmul (FP.dmul (FP.l2d a) (4368491638549381120 : UInt64)) (4845873199050653696 : UInt64))) .l = (0 : Int32) := by
  rw [own_d2l h, own_sc h]
  obtain ⟨c, q, h1, -, -⟩ := own_l2d h
  exact dcmpV_self (own_nnv (by rw [h1]; exact fun z => FP.Core.Datum.noConfusion z)) _
theorem own_n1 {a : Int64} (h : 0 ≤ a.toInt ∧ a.toInt < 9007199254740992) : Jvm.Free.Fl.NoNaN64 (FP.dmul (FP.l2d a) (4368491638549381120 : UInt64)) := own_nnv (own_zd h).1
theorem own_n2 {a : Int64} (h : 0 ≤ a.toInt ∧ a.toInt < 9007199254740992) : Jvm.Free.Fl.NoNaN64 (FP.dmul (FP.dmul (FP.l2d a) (4368491638549381120 : UInt64)) (4845873199050653696 : UInt64)) := by
  obtain ⟨c, q, h1, -, -⟩ := own_l2d h
  rw [own_sc h]
  exact own_nnv (by rw [h1]; exact fun z => FP.Core.Datum.noConfusion z)
theorem d1_0 : decode prog_27_method_1_code 0 = .ok (.aload_n 0, 1) := by decide +kernel
theorem d1_1 : decode prog_27_method_1_code 1 = .ok (.invokespecial 1, 3) := by decide +kernel
theorem d1_4 : decode prog_27_method_1_code 4 = .ok (.aload_n 0, 1) := by decide +kernel
theorem d1_5 : decode prog_27_method_1_code 5 = .ok (.lload_n 1, 1) := by decide +kernel
theorem d1_6 : decode prog_27_method_1_code 6 = .ok (.putfield 7, 3) := by decide +kernel
theorem d1_9 : decode prog_27_method_1_code 9 = .ok (.return_, 1) := by decide +kernel
theorem pn_rm1 : plainName "com/example/roundhaul/roundhaul/solver/SeededRandom" = true := by first | (simp [plainName, overriddenIn]; done) | decide +kernel
theorem ef_rm1 (m : MethodId) (o0 : Addr) (q1 : Int64) : entryFrame m #[(.ref o0), (.long q1)] 3 = mkF m 0 #[.val (.ref o0), .val (.long q1), .second] [] := by first | (simp [entryFrame, mkF, argsToLocals, Value.category]; done) | rfl
def Q_rm1 (Z : State) (o0 : Addr) (q1 : Int64) (h0 : Heap) (n0 : Nat) (v : Option Value) (h : Heap) (L : List Loc) : Prop := v = none ∧ Fr n0 L ∧ Keep h0 h [o0] ∧ Exa Z h o0 "com/example/roundhaul/roundhaul/solver/SeededRandom" ∧ Fld Z h o0 "com/example/roundhaul/roundhaul/solver/SeededRandom" "state" "J" (.long q1)
set_option maxRecDepth 65536 in
set_option maxHeartbeats 40000000 in
theorem rm1 (l : Launch) (Z : State) (a0 : Array Value) (hw : ∀ d ∈ tables_1, d.before a0 Z = true) (ws : List Jvm.Cond) (o0 : Addr) (q1 : Int64) (h0 : Heap) (n0 : Nat) (Z0 : n0 ≤ h0.size) (E_o0 : Exa Z h0 o0 "com/example/roundhaul/roundhaul/solver/SeededRandom") (g_o0 : n0 ≤ o0) (F_state : Fld Z h0 o0 "com/example/roundhaul/roundhaul/solver/SeededRandom" "state" "J" (.long (0 : Int64))) :
    MetFree l (⟨"com/example/roundhaul/roundhaul/solver/SeededRandom", "<init>", "(J)V"⟩ : MethodName) (head1 (Jvm.Cond.code (⟨"com/example/roundhaul/roundhaul/solver/SeededRandom", "<init>", "(J)V"⟩ : MethodName) prog_27_method_1_code 3 none :: ws) ({ frames := 1, cells := 0, slots := 0, locals := 12 } : Room)) (fun a U => a = #[(.ref o0), (.long q1)] ∧ Z.Warmed39 U.vm ∧ U.heap = h0) (fun _ _ _ _ _ => True) (fun _ U o U' => ∃ v L, o = .returned v ∧ Q_rm1 Z o0 q1 h0 n0 v U'.heap L ∧ FrameEnd U o U' L ({ frames := 1, cells := 0, slots := 0, locals := 12 } : Room).cells ({ frames := 1, cells := 0, slots := 0, locals := 12 } : Room).slots) := by
  refine MetFree.of_bodySF (plainFor_of_name pn_rm1) hisR ?_
  intro p e s m args below meth c s₁ Bd hml0 hP hK
  obtain ⟨rfl, hZ, hh⟩ := hP
  have hx := Bd.exec
  have hby := Bd.bytes
  have hml : c.maxLocals = 3 := hml0
  have hown : s.vm.findClass "com/example/roundhaul/roundhaul/solver/SeededRandom" = some m.cls := findClass_of_methodNamed Bd.named
  have hnm := (name_of_methodNamed Bd.named Bd.method).1
  have X0 : Stand p l e ({ frames := 1, cells := 0, slots := 0, locals := 12 } : Room) s m #[(.ref o0), (.long q1)] below meth c s₁ [] 0 0 := Stand.of_body Bd
  have e0 : s₁.heap = h0 := by rw [← hh, Bd.state]; rfl
  have N0 := Fr.nil n0
  have K0 := Keep.refl h0 [o0]
  have go0 : Go p e below (s₁.setTop (entryFrame m #[(.ref o0), (.long q1)] 3)) (s₁.setTop (mkF m 0 #[.val (.ref o0), .val (.long q1), .second] [])) := fun t k => castTop (ef_rm1 m o0 q1) k
  have go1 := go0.step (C := s₁.setTop (mkF m 1 #[.val (.ref o0), .val (.long q1), .second] [(.ref o0)])) (fun t k => by
    show Steps p.tables e below (s₁.setTop (mkF m 0 #[.val (.ref o0), .val (.long q1), .second] [])) _
    refine XS.aloadN X0.here hx rfl (hb hby d1_0) rfl rfl ?_
    exact k)
  obtain ⟨T2, X2, e2, st2⟩ := initO X0 hx hZ hown (hw _ (List.mem_of_getElem? (i := 6) rfl)) (hw _ (List.mem_of_getElem? (i := 7) rfl)) (hw _ (List.mem_of_getElem? (i := 8) rfl)) e0 (g := (mkF m 1 #[.val (.ref o0), .val (.long q1), .second] [(.ref o0)])) rfl (by rw [hml]; rfl) rfl (hb hby d1_1) (by decide) (W := 0) (by show 2 * 0 + _ ≤ _; exact Nat.le_of_eq rfl) (by decide)
  have go2 := go1.step (C := T2.setTop (mkF m 4 #[.val (.ref o0), .val (.long q1), .second] [])) (fun t k => st2 t k)
  have go3 := go2.step (C := T2.setTop (mkF m 6 #[.val (.ref o0), .val (.long q1), .second] [(.long q1), (.ref o0)])) (fun t k => by
    show Steps p.tables e below (T2.setTop (mkF m 4 #[.val (.ref o0), .val (.long q1), .second] [])) _
    refine XS.aloadN X2.here hx rfl (hb hby d1_4) rfl rfl ?_
    show Steps p.tables e below (T2.setTop (mkF m 5 #[.val (.ref o0), .val (.long q1), .second] [(.ref o0)])) _
    refine XS.lloadN X2.here hx rfl (hb hby d1_5) rfl ?_
    exact k)
  obtain ⟨T4, h4, X4, e4, W4, st4⟩ := putF X2 hx hZ hown (host := "") (Or.inl (hw _ (List.mem_of_getElem? (i := 9) rfl))) Via.refl e2 F_state E_o0 (Or.inl (hw _ (List.mem_of_getElem? (i := 10) rfl))) (hw _ (List.mem_of_getElem? (i := 1) rfl)) (ty := .long) (by decide) rfl rfl (g := (mkF m 6 #[.val (.ref o0), .val (.long q1), .second] [(.long q1), (.ref o0)])) rfl rfl (hb hby d1_6)
  have f5 := E_o0.wr W4
  have f6 := Fld.same W4 F_state
  have Z4 : n0 ≤ h4.size := Nat.le_trans Z0 (Nat.le_of_eq W4.size.symm)
  have K4 := K0.wr W4 (Or.inl (List.mem_of_getElem? (i := 0) rfl))
  have N4 := Fr.snoc X4 N0 g_o0
  have go4 := go3.step (C := T4.setTop (mkF m 9 #[.val (.ref o0), .val (.long q1), .second] [])) (fun t k => st4 t k)
  obtain ⟨fs, hr, hrun, hended, hW, hsame⟩ := X4.leave (v := none) (fun _ => rfl)
  refine ⟨_, _, go4 _ ?_, hrun, hended, _, _, rfl, ?_, ⟨_, rfl⟩, hW, hsame.mono (by decide) (by decide)⟩
  · exact X4.returnOut hx Bd.returns (hb hby d1_9) hr
  · show Q_rm1 Z o0 q1 h0 n0 _ T4.heap _
    rw [e4]
    exact ⟨rfl, N4, K4, f5, f6⟩
theorem d4_0 : decode prog_27_method_2_code 0 = .ok (.aload_n 0, 1) := by decide +kernel
theorem d4_1 : decode prog_27_method_2_code 1 = .ok (.dup, 1) := by decide +kernel
theorem d4_2 : decode prog_27_method_2_code 2 = .ok (.getfield 7, 3) := by decide +kernel
theorem d4_5 : decode prog_27_method_2_code 5 = .ok (.ldc2_w 13, 3) := by decide +kernel
theorem d4_8 : decode prog_27_method_2_code 8 = .ok (.ladd, 1) := by decide +kernel
theorem d4_9 : decode prog_27_method_2_code 9 = .ok (.putfield 7, 3) := by decide +kernel
theorem d4_12 : decode prog_27_method_2_code 12 = .ok (.aload_n 0, 1) := by decide +kernel
theorem d4_13 : decode prog_27_method_2_code 13 = .ok (.getfield 7, 3) := by decide +kernel
theorem d4_16 : decode prog_27_method_2_code 16 = .ok (.lstore_n 1, 1) := by decide +kernel
theorem d4_17 : decode prog_27_method_2_code 17 = .ok (.lload_n 1, 1) := by decide +kernel
theorem d4_18 : decode prog_27_method_2_code 18 = .ok (.lload_n 1, 1) := by decide +kernel
theorem d4_19 : decode prog_27_method_2_code 19 = .ok (.bipush 30, 2) := by decide +kernel
theorem d4_21 : decode prog_27_method_2_code 21 = .ok (.lushr, 1) := by decide +kernel
theorem d4_22 : decode prog_27_method_2_code 22 = .ok (.lxor, 1) := by decide +kernel
theorem d4_23 : decode prog_27_method_2_code 23 = .ok (.ldc2_w 15, 3) := by decide +kernel
theorem d4_26 : decode prog_27_method_2_code 26 = .ok (.lmul, 1) := by decide +kernel
theorem d4_27 : decode prog_27_method_2_code 27 = .ok (.lstore_n 1, 1) := by decide +kernel
theorem d4_28 : decode prog_27_method_2_code 28 = .ok (.lload_n 1, 1) := by decide +kernel
theorem d4_29 : decode prog_27_method_2_code 29 = .ok (.lload_n 1, 1) := by decide +kernel
theorem d4_30 : decode prog_27_method_2_code 30 = .ok (.bipush 27, 2) := by decide +kernel
theorem d4_32 : decode prog_27_method_2_code 32 = .ok (.lushr, 1) := by decide +kernel
theorem d4_33 : decode prog_27_method_2_code 33 = .ok (.lxor, 1) := by decide +kernel
theorem d4_34 : decode prog_27_method_2_code 34 = .ok (.ldc2_w 17, 3) := by decide +kernel
theorem d4_37 : decode prog_27_method_2_code 37 = .ok (.lmul, 1) := by decide +kernel
theorem d4_38 : decode prog_27_method_2_code 38 = .ok (.lstore_n 1, 1) := by decide +kernel
theorem d4_39 : decode prog_27_method_2_code 39 = .ok (.lload_n 1, 1) := by decide +kernel
theorem d4_40 : decode prog_27_method_2_code 40 = .ok (.lload_n 1, 1) := by decide +kernel
theorem d4_41 : decode prog_27_method_2_code 41 = .ok (.bipush 31, 2) := by decide +kernel
theorem d4_43 : decode prog_27_method_2_code 43 = .ok (.lushr, 1) := by decide +kernel
theorem d4_44 : decode prog_27_method_2_code 44 = .ok (.lxor, 1) := by decide +kernel
theorem d4_45 : decode prog_27_method_2_code 45 = .ok (.lreturn, 1) := by decide +kernel
theorem pn_rm4 : plainName "com/example/roundhaul/roundhaul/solver/SeededRandom" = true := by first | (simp [plainName, overriddenIn]; done) | decide +kernel
theorem ef_rm4 (m : MethodId) (o0 : Addr) : entryFrame m #[(.ref o0)] 3 = mkF m 0 #[.val (.ref o0), .unset, .unset] [] := by first | (simp [entryFrame, mkF, argsToLocals, Value.category]; done) | rfl
def Q_rm4 (Z : State) (o0 : Addr) (w : Int64) (h0 : Heap) (n0 : Nat) (v : Option Value) (h : Heap) (L : List Loc) : Prop := v = some (.long (own_mix (w + (-7046029254386353131 : Int64)))) ∧ Fr n0 L ∧ Keep h0 h [o0] ∧ Exa Z h o0 "com/example/roundhaul/roundhaul/solver/SeededRandom" ∧ Fld Z h o0 "com/example/roundhaul/roundhaul/solver/SeededRandom" "state" "J" (.long (w + (-7046029254386353131 : Int64)))
set_option maxRecDepth 65536 in
set_option maxHeartbeats 40000000 in
theorem rm4 (l : Launch) (Z : State) (a0 : Array Value) (hw : ∀ d ∈ tables_1, d.before a0 Z = true) (ws : List Jvm.Cond) (o0 : Addr) (w : Int64) (h0 : Heap) (n0 : Nat) (Z0 : n0 ≤ h0.size) (E_o0 : Exa Z h0 o0 "com/example/roundhaul/roundhaul/solver/SeededRandom") (F_state_o0 : Fld Z h0 o0 "com/example/roundhaul/roundhaul/solver/SeededRandom" "state" "J" (.long w)) (g_o0 : n0 ≤ o0) :
    MetFree l (⟨"com/example/roundhaul/roundhaul/solver/SeededRandom", "nextLong", "()J"⟩ : MethodName) (head1 (Jvm.Cond.code (⟨"com/example/roundhaul/roundhaul/solver/SeededRandom", "nextLong", "()J"⟩ : MethodName) prog_27_method_2_code 3 (some .long) :: ws) ({ frames := 0, cells := 0, slots := 0, locals := 0 } : Room)) (fun a U => a = #[(.ref o0)] ∧ Z.Warmed39 U.vm ∧ U.heap = h0) (fun _ _ _ _ _ => True) (fun _ U o U' => ∃ v L, o = .returned v ∧ Q_rm4 Z o0 w h0 n0 v U'.heap L ∧ FrameEnd U o U' L ({ frames := 0, cells := 0, slots := 0, locals := 0 } : Room).cells ({ frames := 0, cells := 0, slots := 0, locals := 0 } : Room).slots) := by
  refine MetFree.of_bodySF (plainFor_of_name pn_rm4) hisR ?_
  intro p e s m args below meth c s₁ Bd hml0 hP hK
  obtain ⟨rfl, hZ, hh⟩ := hP
  have hx := Bd.exec
  have hby := Bd.bytes
  have hml : c.maxLocals = 3 := hml0
  have hown : s.vm.findClass "com/example/roundhaul/roundhaul/solver/SeededRandom" = some m.cls := findClass_of_methodNamed Bd.named
  have hnm := (name_of_methodNamed Bd.named Bd.method).1
  have X0 : Stand p l e ({ frames := 0, cells := 0, slots := 0, locals := 0 } : Room) s m #[(.ref o0)] below meth c s₁ [] 0 0 := Stand.of_body Bd
  have e0 : s₁.heap = h0 := by rw [← hh, Bd.state]; rfl
  have N0 := Fr.nil n0
  have K0 := Keep.refl h0 [o0]
  have go0 : Go p e below (s₁.setTop (entryFrame m #[(.ref o0)] 3)) (s₁.setTop (mkF m 0 #[.val (.ref o0), .unset, .unset] [])) := fun t k => castTop (ef_rm4 m o0) k
  have go1 := go0.step (C := s₁.setTop (mkF m 2 #[.val (.ref o0), .unset, .unset] [(.ref o0), (.ref o0)])) (fun t k => by
    show Steps p.tables e below (s₁.setTop (mkF m 0 #[.val (.ref o0), .unset, .unset] [])) _
    refine XS.aloadN X0.here hx rfl (hb hby d4_0) rfl rfl ?_
    show Steps p.tables e below (s₁.setTop (mkF m 1 #[.val (.ref o0), .unset, .unset] [(.ref o0)])) _
    refine XS.dup X0.here hx rfl (hb hby d4_1) rfl rfl ?_
    exact k)
  obtain ⟨T2, X2, e2, st2⟩ := getF X0 hx hZ hown (host := "") (Or.inl (hw _ (List.mem_of_getElem? (i := 9) rfl))) Via.refl e0 F_state_o0 (g := (mkF m 2 #[.val (.ref o0), .unset, .unset] [(.ref o0), (.ref o0)])) rfl rfl (hb hby d4_2)
  have go2 := go1.step (C := T2.setTop (mkF m 5 #[.val (.ref o0), .unset, .unset] [(.long w), (.ref o0)])) (fun t k => st2 t k)
  have go3 := go2.step (C := T2.setTop (mkF m 9 #[.val (.ref o0), .unset, .unset] [(.long (w + (-7046029254386353131 : Int64))), (.ref o0)])) (fun t k => by
    show Steps p.tables e below (T2.setTop (mkF m 5 #[.val (.ref o0), .unset, .unset] [(.long w), (.ref o0)])) _
    refine X2.ldc2Long hx hown (mvT hZ (hw _ (List.mem_of_getElem? (i := 21) rfl))) (g := (mkF m 5 #[.val (.ref o0), .unset, .unset] [(.long w), (.ref o0)])) rfl (hb hby d4_5) _ ?_
    show Steps p.tables e below (T2.setTop (mkF m 8 #[.val (.ref o0), .unset, .unset] [(.long (-7046029254386353131 : Int64)), (.long w), (.ref o0)])) _
    refine XS.ladd X2.here hx rfl (hb hby d4_8) rfl ?_
    exact k)
  obtain ⟨T4, h4, X4, e4, W4, st4⟩ := putF X2 hx hZ hown (host := "") (Or.inl (hw _ (List.mem_of_getElem? (i := 9) rfl))) Via.refl e2 F_state_o0 E_o0 (Or.inl (hw _ (List.mem_of_getElem? (i := 10) rfl))) (hw _ (List.mem_of_getElem? (i := 1) rfl)) (ty := .long) (by decide) rfl rfl (g := (mkF m 9 #[.val (.ref o0), .unset, .unset] [(.long (w + (-7046029254386353131 : Int64))), (.ref o0)])) rfl rfl (hb hby d4_9)
  have f5 := E_o0.wr W4
  have f6 := Fld.same W4 F_state_o0
  have Z4 : n0 ≤ h4.size := Nat.le_trans Z0 (Nat.le_of_eq W4.size.symm)
  have K4 := K0.wr W4 (Or.inl (List.mem_of_getElem? (i := 0) rfl))
  have N4 := Fr.snoc X4 N0 g_o0
  have go4 := go3.step (C := T4.setTop (mkF m 12 #[.val (.ref o0), .unset, .unset] [])) (fun t k => st4 t k)
  have go7 := go4.step (C := T4.setTop (mkF m 13 #[.val (.ref o0), .unset, .unset] [(.ref o0)])) (fun t k => by
    show Steps p.tables e below (T4.setTop (mkF m 12 #[.val (.ref o0), .unset, .unset] [])) _
    refine XS.aloadN X4.here hx rfl (hb hby d4_12) rfl rfl ?_
    exact k)
  obtain ⟨T8, X8, e8, st8⟩ := getF X4 hx hZ hown (host := "") (Or.inl (hw _ (List.mem_of_getElem? (i := 9) rfl))) Via.refl e4 f6 (g := (mkF m 13 #[.val (.ref o0), .unset, .unset] [(.ref o0)])) rfl rfl (hb hby d4_13)
  have go8 := go7.step (C := T8.setTop (mkF m 16 #[.val (.ref o0), .unset, .unset] [(.long (w + (-7046029254386353131 : Int64)))])) (fun t k => st8 t k)
  have go9 := go8.step (C := T8.setTop (mkF m 27 #[.val (.ref o0), .val (.long (w + (-7046029254386353131 : Int64))), .second] [(.long (((w + (-7046029254386353131 : Int64)) ^^^ (own_usrL (w + (-7046029254386353131 : Int64)) (30 : Int32))) * (-4658895280553007687 : Int64)))])) (fun t k => by
    show Steps p.tables e below (T8.setTop (mkF m 16 #[.val (.ref o0), .unset, .unset] [(.long (w + (-7046029254386353131 : Int64)))])) _
    refine XS.lstoreN X8.here hx rfl (hb hby d4_16) rfl (l' := #[.val (.ref o0), .val (.long (w + (-7046029254386353131 : Int64))), .second]) rfl ?_
    show Steps p.tables e below (T8.setTop (mkF m 17 #[.val (.ref o0), .val (.long (w + (-7046029254386353131 : Int64))), .second] [])) _
    refine XS.lloadN X8.here hx rfl (hb hby d4_17) rfl ?_
    show Steps p.tables e below (T8.setTop (mkF m 18 #[.val (.ref o0), .val (.long (w + (-7046029254386353131 : Int64))), .second] [(.long (w + (-7046029254386353131 : Int64)))])) _
    refine XS.lloadN X8.here hx rfl (hb hby d4_18) rfl ?_
    show Steps p.tables e below (T8.setTop (mkF m 19 #[.val (.ref o0), .val (.long (w + (-7046029254386353131 : Int64))), .second] [(.long (w + (-7046029254386353131 : Int64))), (.long (w + (-7046029254386353131 : Int64)))])) _
    refine XS.bipush X8.here hx rfl (hb hby d4_19) ?_
    show Steps p.tables e below (T8.setTop (mkF m 21 #[.val (.ref o0), .val (.long (w + (-7046029254386353131 : Int64))), .second] [(.int (30 : Int32)), (.long (w + (-7046029254386353131 : Int64))), (.long (w + (-7046029254386353131 : Int64)))])) _
    refine XS.lushr X8.here hx rfl (hb hby d4_21) rfl ?_
    show Steps p.tables e below (T8.setTop (mkF m 22 #[.val (.ref o0), .val (.long (w + (-7046029254386353131 : Int64))), .second] [(.long (own_usrL (w + (-7046029254386353131 : Int64)) (30 : Int32))), (.long (w + (-7046029254386353131 : Int64)))])) _
    refine XS.lxor X8.here hx rfl (hb hby d4_22) rfl ?_
    show Steps p.tables e below (T8.setTop (mkF m 23 #[.val (.ref o0), .val (.long (w + (-7046029254386353131 : Int64))), .second] [(.long ((w + (-7046029254386353131 : Int64)) ^^^ (own_usrL (w + (-7046029254386353131 : Int64)) (30 : Int32))))])) _
    refine X8.ldc2Long hx hown (mvT hZ (hw _ (List.mem_of_getElem? (i := 22) rfl))) (g := (mkF m 23 #[.val (.ref o0), .val (.long (w + (-7046029254386353131 : Int64))), .second] [(.long ((w + (-7046029254386353131 : Int64)) ^^^ (own_usrL (w + (-7046029254386353131 : Int64)) (30 : Int32))))])) rfl (hb hby d4_23) _ ?_
    show Steps p.tables e below (T8.setTop (mkF m 26 #[.val (.ref o0), .val (.long (w + (-7046029254386353131 : Int64))), .second] [(.long (-4658895280553007687 : Int64)), (.long ((w + (-7046029254386353131 : Int64)) ^^^ (own_usrL (w + (-7046029254386353131 : Int64)) (30 : Int32))))])) _
    refine XS.lmul X8.here hx rfl (hb hby d4_26) rfl ?_
    exact k)
  obtain ⟨z1, hz1⟩ : ∃ z : Int64, z = (((w + (-7046029254386353131 : Int64)) ^^^ (own_usrL (w + (-7046029254386353131 : Int64)) (30 : Int32))) * (-4658895280553007687 : Int64)) := ⟨_, rfl⟩
  rw [← hz1] at go9
  have go10 := go9.step (C := T8.setTop (mkF m 38 #[.val (.ref o0), .val (.long z1), .second] [(.long ((z1 ^^^ (own_usrL z1 (27 : Int32))) * (-7723592293110705685 : Int64)))])) (fun t k => by
    show Steps p.tables e below (T8.setTop (mkF m 27 #[.val (.ref o0), .val (.long (w + (-7046029254386353131 : Int64))), .second] [(.long z1)])) _
    refine XS.lstoreN X8.here hx rfl (hb hby d4_27) rfl (l' := #[.val (.ref o0), .val (.long z1), .second]) rfl ?_
    show Steps p.tables e below (T8.setTop (mkF m 28 #[.val (.ref o0), .val (.long z1), .second] [])) _
    refine XS.lloadN X8.here hx rfl (hb hby d4_28) rfl ?_
    show Steps p.tables e below (T8.setTop (mkF m 29 #[.val (.ref o0), .val (.long z1), .second] [(.long z1)])) _
    refine XS.lloadN X8.here hx rfl (hb hby d4_29) rfl ?_
    show Steps p.tables e below (T8.setTop (mkF m 30 #[.val (.ref o0), .val (.long z1), .second] [(.long z1), (.long z1)])) _
    refine XS.bipush X8.here hx rfl (hb hby d4_30) ?_
    show Steps p.tables e below (T8.setTop (mkF m 32 #[.val (.ref o0), .val (.long z1), .second] [(.int (27 : Int32)), (.long z1), (.long z1)])) _
    refine XS.lushr X8.here hx rfl (hb hby d4_32) rfl ?_
    show Steps p.tables e below (T8.setTop (mkF m 33 #[.val (.ref o0), .val (.long z1), .second] [(.long (own_usrL z1 (27 : Int32))), (.long z1)])) _
    refine XS.lxor X8.here hx rfl (hb hby d4_33) rfl ?_
    show Steps p.tables e below (T8.setTop (mkF m 34 #[.val (.ref o0), .val (.long z1), .second] [(.long (z1 ^^^ (own_usrL z1 (27 : Int32))))])) _
    refine X8.ldc2Long hx hown (mvT hZ (hw _ (List.mem_of_getElem? (i := 23) rfl))) (g := (mkF m 34 #[.val (.ref o0), .val (.long z1), .second] [(.long (z1 ^^^ (own_usrL z1 (27 : Int32))))])) rfl (hb hby d4_34) _ ?_
    show Steps p.tables e below (T8.setTop (mkF m 37 #[.val (.ref o0), .val (.long z1), .second] [(.long (-7723592293110705685 : Int64)), (.long (z1 ^^^ (own_usrL z1 (27 : Int32))))])) _
    refine XS.lmul X8.here hx rfl (hb hby d4_37) rfl ?_
    exact k)
  obtain ⟨z2, hz2⟩ : ∃ z : Int64, z = ((z1 ^^^ (own_usrL z1 (27 : Int32))) * (-7723592293110705685 : Int64)) := ⟨_, rfl⟩
  rw [← hz2] at go10
  have go11 := go10.step (C := T8.setTop (mkF m 45 #[.val (.ref o0), .val (.long z2), .second] [(.long (z2 ^^^ (own_usrL z2 (31 : Int32))))])) (fun t k => by
    show Steps p.tables e below (T8.setTop (mkF m 38 #[.val (.ref o0), .val (.long z1), .second] [(.long z2)])) _
    refine XS.lstoreN X8.here hx rfl (hb hby d4_38) rfl (l' := #[.val (.ref o0), .val (.long z2), .second]) rfl ?_
    show Steps p.tables e below (T8.setTop (mkF m 39 #[.val (.ref o0), .val (.long z2), .second] [])) _
    refine XS.lloadN X8.here hx rfl (hb hby d4_39) rfl ?_
    show Steps p.tables e below (T8.setTop (mkF m 40 #[.val (.ref o0), .val (.long z2), .second] [(.long z2)])) _
    refine XS.lloadN X8.here hx rfl (hb hby d4_40) rfl ?_
    show Steps p.tables e below (T8.setTop (mkF m 41 #[.val (.ref o0), .val (.long z2), .second] [(.long z2), (.long z2)])) _
    refine XS.bipush X8.here hx rfl (hb hby d4_41) ?_
    show Steps p.tables e below (T8.setTop (mkF m 43 #[.val (.ref o0), .val (.long z2), .second] [(.int (31 : Int32)), (.long z2), (.long z2)])) _
    refine XS.lushr X8.here hx rfl (hb hby d4_43) rfl ?_
    show Steps p.tables e below (T8.setTop (mkF m 44 #[.val (.ref o0), .val (.long z2), .second] [(.long (own_usrL z2 (31 : Int32))), (.long z2)])) _
    refine XS.lxor X8.here hx rfl (hb hby d4_44) rfl ?_
    exact k)
  obtain ⟨fs, hr, hrun, hended, hW, hsame⟩ := X8.leave (v := some (.long (z2 ^^^ (own_usrL z2 (31 : Int32))))) (fun h => by rw [Bd.returns] at h; cases h)
  refine ⟨_, _, go11 _ ?_, hrun, hended, _, _, rfl, ?_, ⟨_, rfl⟩, hW, hsame.mono (by decide) (by decide)⟩
  · exact own_retL X8 hx Bd.returns (hb hby d4_45) hr
  · show Q_rm4 Z o0 w h0 n0 _ T8.heap _
    rw [e8]
    exact ⟨by subst hz2 hz1; rfl, N4, K4, f5, f6⟩
theorem d3_0 : decode prog_27_method_4_code 0 = .ok (.aload_n 0, 1) := by decide +kernel
theorem d3_1 : decode prog_27_method_4_code 1 = .ok (.invokevirtual 28, 3) := by decide +kernel
theorem d3_4 : decode prog_27_method_4_code 4 = .ok (.bipush 11, 2) := by decide +kernel
theorem d3_6 : decode prog_27_method_4_code 6 = .ok (.lushr, 1) := by decide +kernel
theorem d3_7 : decode prog_27_method_4_code 7 = .ok (.l2d, 1) := by decide +kernel
theorem d3_8 : decode prog_27_method_4_code 8 = .ok (.ldc2_w 36, 3) := by decide +kernel
theorem d3_11 : decode prog_27_method_4_code 11 = .ok (.dmul, 1) := by decide +kernel
theorem d3_12 : decode prog_27_method_4_code 12 = .ok (.dreturn, 1) := by decide +kernel
theorem pn_rm3 : plainName "com/example/roundhaul/roundhaul/solver/SeededRandom" = true := by first | (simp [plainName, overriddenIn]; done) | decide +kernel
theorem pd_rm3_0 : parseMethodDescriptor "()J" = some ⟨[], some .long⟩ := by decide +kernel
theorem ef_rm3 (m : MethodId) (o0 : Addr) : entryFrame m #[(.ref o0)] 1 = mkF m 0 #[.val (.ref o0)] [] := by first | (simp [entryFrame, mkF, argsToLocals, Value.category]; done) | rfl
def Q_rm3 (Z : State) (o0 : Addr) (w : Int64) (h0 : Heap) (n0 : Nat) (v : Option Value) (h : Heap) (L : List Loc) : Prop := v = some (.double (FP.dmul (FP.l2d (own_usrL (own_mix (w + (-7046029254386353131 : Int64))) (11 : Int32))) (4368491638549381120 : UInt64))) ∧ Fr n0 L ∧ Keep h0 h [o0] ∧ Exa Z h o0 "com/example/roundhaul/roundhaul/solver/SeededRandom" ∧ Fld Z h o0 "com/example/roundhaul/roundhaul/solver/SeededRandom" "state" "J" (.long (w + (-7046029254386353131 : Int64)))
set_option maxRecDepth 65536 in
set_option maxHeartbeats 40000000 in
theorem rm3 (l : Launch) (Z : State) (a0 : Array Value) (hw : ∀ d ∈ tables_1, d.before a0 Z = true) (ws : List Jvm.Cond) (o0 : Addr) (w : Int64) (h0 : Heap) (n0 : Nat) (Z0 : n0 ≤ h0.size) (E_o0 : Exa Z h0 o0 "com/example/roundhaul/roundhaul/solver/SeededRandom") (F_state_o0 : Fld Z h0 o0 "com/example/roundhaul/roundhaul/solver/SeededRandom" "state" "J" (.long w)) (g_o0 : n0 ≤ o0) :
    MetFree l (⟨"com/example/roundhaul/roundhaul/solver/SeededRandom", "nextDouble", "()D"⟩ : MethodName) (head1 (Jvm.Cond.code (⟨"com/example/roundhaul/roundhaul/solver/SeededRandom", "nextDouble", "()D"⟩ : MethodName) prog_27_method_4_code 1 (some .double) :: ws) ({ frames := 1, cells := 0, slots := 0, locals := 14 } : Room)) (fun a U => a = #[(.ref o0)] ∧ Z.Warmed39 U.vm ∧ U.heap = h0) (fun _ _ _ _ _ => True) (fun _ U o U' => ∃ v L, o = .returned v ∧ Q_rm3 Z o0 w h0 n0 v U'.heap L ∧ FrameEnd U o U' L ({ frames := 1, cells := 0, slots := 0, locals := 14 } : Room).cells ({ frames := 1, cells := 0, slots := 0, locals := 14 } : Room).slots) := by
  refine MetFree.of_bodySF (plainFor_of_name pn_rm3) hisR ?_
  intro p e s m args below meth c s₁ Bd hml0 hP hK
  obtain ⟨rfl, hZ, hh⟩ := hP
  have hx := Bd.exec
  have hby := Bd.bytes
  have hml : c.maxLocals = 1 := hml0
  have hown : s.vm.findClass "com/example/roundhaul/roundhaul/solver/SeededRandom" = some m.cls := findClass_of_methodNamed Bd.named
  have hnm := (name_of_methodNamed Bd.named Bd.method).1
  have X0 : Stand p l e ({ frames := 1, cells := 0, slots := 0, locals := 14 } : Room) s m #[(.ref o0)] below meth c s₁ [] 0 0 := Stand.of_body Bd
  have e0 : s₁.heap = h0 := by rw [← hh, Bd.state]; rfl
  have N0 := Fr.nil n0
  have K0 := Keep.refl h0 [o0]
  have go0 : Go p e below (s₁.setTop (entryFrame m #[(.ref o0)] 1)) (s₁.setTop (mkF m 0 #[.val (.ref o0)] [])) := fun t k => castTop (ef_rm3 m o0) k
  have go1 := go0.step (C := s₁.setTop (mkF m 1 #[.val (.ref o0)] [(.ref o0)])) (fun t k => by
    show Steps p.tables e below (s₁.setTop (mkF m 0 #[.val (.ref o0)] [])) _
    refine XS.aloadN X0.here hx rfl (hb hby d3_0) rfl rfl ?_
    exact k)
  obtain ⟨cq2, kq2, q2a, q2b, q2c⟩ := isOf hZ e0 E_o0
  obtain ⟨_, _, ⟨T2, L2, k2, n2⟩, -, X2, ⟨Lc2, hQ2, l2, y2, z2⟩, st2⟩ := X0.virtualBack hx (y := (⟨"com/example/roundhaul/roundhaul/solver/SeededRandom", "nextLong", "()J"⟩ : MethodName)) (z := (⟨"com/example/roundhaul/roundhaul/solver/SeededRandom", "nextLong", "()J"⟩ : MethodName)) hown (mvT hZ (hw _ (List.mem_of_getElem? (i := 16) rfl))) (mvT hZ (hw _ (List.mem_of_getElem? (i := 17) rfl))) (notFace_of_selects (args := #[]) (mvT hZ (hw _ (List.mem_of_getElem? (i := 19) rfl)))) (mvT hZ (hw _ (List.mem_of_getElem? (i := 19) rfl))) (mvT hZ (hw _ (List.mem_of_getElem? (i := 18) rfl))) (by decide) (backOf (W := 0) (rm4 l Z a0 hw [] o0 w h0 n0 Z0 E_o0 F_state_o0 g_o0) hZ (hw _ (List.mem_of_getElem? (i := 20) rfl)) (hw _ (List.mem_of_getElem? (i := 2) rfl)) (by decide) (by decide)) q2a q2c (g := (mkF m 1 #[.val (.ref o0)] [(.ref o0)])) rfl (by rw [hml]; rfl) (Steps.refl _) (argsL := []) (rest := []) (lenOf pd_rm3_0 rfl) rfl (by show 2 * 0 + _ ≤ _; exact Nat.le_of_eq rfl) (hb hby d3_1) (fun _ _ => ⟨rfl, e0, (by decide : 0 + 0 ≤ _), (by decide : 0 + 0 ≤ _)⟩)
  dsimp only [Pt.U, Pt.locs, Pt.cells, Pt.slots] at X2 l2 y2 z2 st2 hQ2
  rw [l2, y2, z2] at X2
  obtain ⟨rfl, N2q, K2, qp2_0, qp2_1⟩ := hQ2
  have N2 := Fr.app N0 N2q
  have f3 := E_o0.keep K2
  have Z2 : n0 ≤ T2.heap.size := Nat.le_trans Z0 K2.1
  have KK2 := K0.trans K2 (allS (Or.inl (List.mem_of_getElem? (i := 0) rfl)) all0)
  have go2 := go1.tr (C := T2.setTop (mkF m 4 #[.val (.ref o0)] [(.long (own_mix (w + (-7046029254386353131 : Int64))))])) st2
  have go5 := go2.step (C := T2.setTop (mkF m 12 #[.val (.ref o0)] [(.double (FP.dmul (FP.l2d (own_usrL (own_mix (w + (-7046029254386353131 : Int64))) (11 : Int32))) (4368491638549381120 : UInt64)))])) (fun t k => by
    show Steps p.tables e below (T2.setTop (mkF m 4 #[.val (.ref o0)] [(.long (own_mix (w + (-7046029254386353131 : Int64))))])) _
    refine XS.bipush X2.here hx rfl (hb hby d3_4) ?_
    show Steps p.tables e below (T2.setTop (mkF m 6 #[.val (.ref o0)] [(.int (11 : Int32)), (.long (own_mix (w + (-7046029254386353131 : Int64))))])) _
    refine XS.lushr X2.here hx rfl (hb hby d3_6) rfl ?_
    show Steps p.tables e below (T2.setTop (mkF m 7 #[.val (.ref o0)] [(.long (own_usrL (own_mix (w + (-7046029254386353131 : Int64))) (11 : Int32)))])) _
    refine XS.l2dS X2.here hx rfl (hb hby d3_7) rfl rfl ?_
    show Steps p.tables e below (T2.setTop (mkF m 8 #[.val (.ref o0)] [(.double (FP.l2d (own_usrL (own_mix (w + (-7046029254386353131 : Int64))) (11 : Int32))))])) _
    refine X2.ldc2DoubleC hx hown (mvT hZ (hw _ (List.mem_of_getElem? (i := 24) rfl))) (g := (mkF m 8 #[.val (.ref o0)] [(.double (FP.l2d (own_usrL (own_mix (w + (-7046029254386353131 : Int64))) (11 : Int32))))])) rfl (hb hby d3_8) _ ?_
    show Steps p.tables e below (T2.setTop (mkF m 11 #[.val (.ref o0)] [(.double (4368491638549381120 : UInt64)), (.double (FP.l2d (own_usrL (own_mix (w + (-7046029254386353131 : Int64))) (11 : Int32))))])) _
    refine XS.dmulS X2.here hx rfl (hb hby d3_11) rfl (own_n1 (own_h _)) rfl ?_
    exact k)
  obtain ⟨fs, hr, hrun, hended, hW, hsame⟩ := X2.leave (v := some (.double (FP.dmul (FP.l2d (own_usrL (own_mix (w + (-7046029254386353131 : Int64))) (11 : Int32))) (4368491638549381120 : UInt64)))) (fun h => by rw [Bd.returns] at h; cases h)
  refine ⟨_, _, go5 _ ?_, hrun, hended, _, _, rfl, ?_, ⟨_, rfl⟩, hW, hsame.mono (by decide) (by decide)⟩
  · exact retOut X2 hx (t := .double) Bd.returns rfl (Or.inr (Or.inr (Or.inl ⟨rfl, rfl, _, rfl⟩))) (hb hby d3_12) hr
  · show Q_rm3 Z o0 w h0 n0 _ T2.heap _
    exact ⟨rfl, N2, KK2, qp2_0, qp2_1⟩
theorem pn_rm0 : plainName "com/example/roundhaul/roundhaul/solver/SeededRandomNextDoublePinLaw" = true := by first | (simp [plainName, overriddenIn]; done) | decide +kernel
theorem pd_rm0_0 : parseMethodDescriptor "(J)V" = some ⟨[.long], none⟩ := by decide +kernel
theorem pd_rm0_1 : parseMethodDescriptor "()D" = some ⟨[], some .double⟩ := by decide +kernel
theorem pd_rm0_2 : parseMethodDescriptor "()J" = some ⟨[], some .long⟩ := by decide +kernel
theorem ef_rm0 (m : MethodId) (q0 : Int64) : entryFrame m #[(.long q0)] maxLocals = mkF m 0 #[.val (.long q0), .second, .unset, .unset, .unset, .unset, .unset, .unset, .unset, .unset, .unset, .unset, .unset, .unset, .unset] [] := by first | (simp [entryFrame, mkF, argsToLocals, Value.category, maxLocals]; done) | rfl
def Q_rm0 (Z : State) (q0 : Int64) (h0 : Heap) (n0 : Nat) (v : Option Value) (h : Heap) (L : List Loc) : Prop := v = some (.int (1 : Int32)) ∧ Fr n0 L
set_option maxRecDepth 65536 in
set_option maxHeartbeats 40000000 in
theorem rm0 (l : Launch) (Z : State) (a0 : Array Value) (hw : ∀ d ∈ tables_1, d.before a0 Z = true) (ws : List Jvm.Cond) (q0 : Int64) (h0 : Heap) (n0 : Nat) (Z0 : n0 ≤ h0.size) :
    MetFree l x (head1 (Jvm.Cond.code x code maxLocals ret :: ws) room_1) (fun a U => a = #[(.long q0)] ∧ Z.Warmed39 U.vm ∧ U.heap = h0) (fun _ _ _ _ _ => True) (fun _ U o U' => ∃ v L, o = .returned v ∧ Q_rm0 Z q0 h0 n0 v U'.heap L ∧ FrameEnd U o U' L room_1.cells room_1.slots) := by
  refine MetFree.of_bodySF (plainFor_of_name pn_rm0) hisR ?_
  intro p e s m args below meth c s₁ Bd hml0 hP hK
  obtain ⟨rfl, hZ, hh⟩ := hP
  have hx := Bd.exec
  have hby := Bd.bytes
  have hml : c.maxLocals = 15 := hml0
  have hown : s.vm.findClass "com/example/roundhaul/roundhaul/solver/SeededRandomNextDoublePinLaw" = some m.cls := findClass_of_methodNamed Bd.named
  have hnm := (name_of_methodNamed Bd.named Bd.method).1
  have X0 : Stand p l e room_1 s m #[(.long q0)] below meth c s₁ [] 0 0 := Stand.of_body Bd
  have e0 : s₁.heap = h0 := by rw [← hh, Bd.state]; rfl
  have N0 := Fr.nil n0
  have K0 := Keep.refl h0 []
  have go0 : Go p e below (s₁.setTop (entryFrame m #[(.long q0)] maxLocals)) (s₁.setTop (mkF m 0 #[.val (.long q0), .second, .unset, .unset, .unset, .unset, .unset, .unset, .unset, .unset, .unset, .unset, .unset, .unset, .unset] [])) := fun t k => castTop (ef_rm0 m q0) k
  obtain ⟨T1, h1, X1, e1, E1, A1, D1, -, st1⟩ := newO X0 hx hZ hown (hw _ (List.mem_of_getElem? (i := 0) rfl)) (hw _ (List.mem_of_getElem? (i := 1) rfl)) (hw _ (List.mem_of_getElem? (i := 2) rfl)) e0 (g := (mkF m 0 #[.val (.long q0), .second, .unset, .unset, .unset, .unset, .unset, .unset, .unset, .unset, .unset, .unset, .unset, .unset, .unset] [])) rfl (hb hby at_0) (by decide) (by decide)
  obtain ⟨b1, g1⟩ : ∃ z, z = h0.size := ⟨_, rfl⟩
  rw [← g1] at A1 D1 st1
  have g_b1 : n0 ≤ b1 := Nat.le_trans Z0 (Nat.le_of_eq g1.symm)
  have sz_b1 : h0.size ≤ b1 := Nat.le_trans K0.1 (Nat.le_of_eq g1.symm)
  have F1_state : Fld Z h1 b1 "com/example/roundhaul/roundhaul/solver/SeededRandom" "state" "J" (.long (0 : Int64)) := D1 (Or.inl (hw _ (List.mem_of_getElem? (i := 10) rfl))) (ty := .long) (by decide)
  have Z1 : n0 ≤ h1.size := Nat.le_trans Z0 E1.1
  have K1 := K0.ext E1
  have go1 := go0.step (C := T1.setTop (mkF m 3 #[.val (.long q0), .second, .unset, .unset, .unset, .unset, .unset, .unset, .unset, .unset, .unset, .unset, .unset, .unset, .unset] [(.ref b1)])) (fun t k => st1 t k)
  have go2 := go1.step (C := T1.setTop (mkF m 5 #[.val (.long q0), .second, .unset, .unset, .unset, .unset, .unset, .unset, .unset, .unset, .unset, .unset, .unset, .unset, .unset] [(.long q0), (.ref b1), (.ref b1)])) (fun t k => by
    show Steps p.tables e below (T1.setTop (mkF m 3 #[.val (.long q0), .second, .unset, .unset, .unset, .unset, .unset, .unset, .unset, .unset, .unset, .unset, .unset, .unset, .unset] [(.ref b1)])) _
    refine XS.dup X1.here hx rfl (hb hby at_3) rfl rfl ?_
    show Steps p.tables e below (T1.setTop (mkF m 4 #[.val (.long q0), .second, .unset, .unset, .unset, .unset, .unset, .unset, .unset, .unset, .unset, .unset, .unset, .unset, .unset] [(.ref b1), (.ref b1)])) _
    refine XS.lloadN X1.here hx rfl (hb hby at_4) rfl ?_
    exact k)
  obtain ⟨_, _, ⟨T3, L3, k3, n3⟩, -, X3, ⟨Lc3, hQ3, l3, y3, z3⟩, st3⟩ := X1.specialBack hx (y := (⟨"com/example/roundhaul/roundhaul/solver/SeededRandom", "<init>", "(J)V"⟩ : MethodName)) rfl hown (mvT hZ (hw _ (List.mem_of_getElem? (i := 3) rfl))) (mvT hZ (hw _ (List.mem_of_getElem? (i := 4) rfl))) (mvT hZ (hw _ (List.mem_of_getElem? (i := 5) rfl))) (by decide) (backOf (W := 1) (rm1 l Z a0 hw [] b1 q0 h1 n0 Z1 A1 g_b1 F1_state) hZ (hw _ (List.mem_of_getElem? (i := 5) rfl)) (hw _ (List.mem_of_getElem? (i := 2) rfl)) (by decide) (by decide)) (g := (mkF m 5 #[.val (.long q0), .second, .unset, .unset, .unset, .unset, .unset, .unset, .unset, .unset, .unset, .unset, .unset, .unset, .unset] [(.long q0), (.ref b1), (.ref b1)])) rfl (by rw [hml]; rfl) (Steps.refl _) (a := b1) (argsL := [(.long q0)]) (rest := [(.ref b1)]) (lenOf pd_rm0_0 rfl) rfl (by show 2 * 0 + _ ≤ _; exact Nat.le_of_eq rfl) (hb hby at_5) (fun _ _ => ⟨rfl, e1, (by decide : 1 + 0 ≤ _), (by decide : 1 + 0 ≤ _)⟩)
  dsimp only [Pt.U, Pt.locs, Pt.cells, Pt.slots] at X3 l3 y3 z3 st3 hQ3
  rw [l3, y3, z3] at X3
  obtain ⟨rfl, N3q, K3, qp3_0, qp3_1⟩ := hQ3
  have N3 := Fr.app N0 N3q
  have f4 := A1.keep K3
  have Z3 : n0 ≤ T3.heap.size := Nat.le_trans Z1 K3.1
  have KK3 := K1.trans K3 (allS (Or.inr sz_b1) all0)
  have go3 := go2.tr (C := T3.setTop (mkF m 8 #[.val (.long q0), .second, .unset, .unset, .unset, .unset, .unset, .unset, .unset, .unset, .unset, .unset, .unset, .unset, .unset] [(.ref b1)])) st3
  have go6 := go3.step (C := T3.setTop (mkF m 9 #[.val (.long q0), .second, .val (.ref b1), .unset, .unset, .unset, .unset, .unset, .unset, .unset, .unset, .unset, .unset, .unset, .unset] [])) (fun t k => by
    show Steps p.tables e below (T3.setTop (mkF m 8 #[.val (.long q0), .second, .unset, .unset, .unset, .unset, .unset, .unset, .unset, .unset, .unset, .unset, .unset, .unset, .unset] [(.ref b1)])) _
    refine XS.astoreN X3.here hx rfl (hb hby at_8) rfl rfl (l' := #[.val (.long q0), .second, .val (.ref b1), .unset, .unset, .unset, .unset, .unset, .unset, .unset, .unset, .unset, .unset, .unset, .unset]) rfl ?_
    exact k)
  obtain ⟨T7, h7, X7, e7, E7, A7, D7, -, st7⟩ := newO X3 hx hZ hown (hw _ (List.mem_of_getElem? (i := 0) rfl)) (hw _ (List.mem_of_getElem? (i := 1) rfl)) (hw _ (List.mem_of_getElem? (i := 2) rfl)) rfl (g := (mkF m 9 #[.val (.long q0), .second, .val (.ref b1), .unset, .unset, .unset, .unset, .unset, .unset, .unset, .unset, .unset, .unset, .unset, .unset] [])) rfl (hb hby at_9) (by decide) (by decide)
  obtain ⟨b7, g7⟩ : ∃ z, z = T3.heap.size := ⟨_, rfl⟩
  rw [← g7] at A7 D7 st7
  have ne_b1_b7 : b1 ≠ b7 := Nat.ne_of_lt (Nat.lt_of_lt_of_le qp3_0.lt (Nat.le_of_eq g7.symm))
  have g_b7 : n0 ≤ b7 := Nat.le_trans Z3 (Nat.le_of_eq g7.symm)
  have sz_b7 : h0.size ≤ b7 := Nat.le_trans KK3.1 (Nat.le_of_eq g7.symm)
  have f8 := qp3_0.ext E7
  have f9 := qp3_1.ext E7
  have F7_state : Fld Z h7 b7 "com/example/roundhaul/roundhaul/solver/SeededRandom" "state" "J" (.long (0 : Int64)) := D7 (Or.inl (hw _ (List.mem_of_getElem? (i := 10) rfl))) (ty := .long) (by decide)
  have Z7 : n0 ≤ h7.size := Nat.le_trans Z3 E7.1
  have K7 := KK3.ext E7
  have go7 := go6.step (C := T7.setTop (mkF m 12 #[.val (.long q0), .second, .val (.ref b1), .unset, .unset, .unset, .unset, .unset, .unset, .unset, .unset, .unset, .unset, .unset, .unset] [(.ref b7)])) (fun t k => st7 t k)
  have go10 := go7.step (C := T7.setTop (mkF m 14 #[.val (.long q0), .second, .val (.ref b1), .unset, .unset, .unset, .unset, .unset, .unset, .unset, .unset, .unset, .unset, .unset, .unset] [(.long q0), (.ref b7), (.ref b7)])) (fun t k => by
    show Steps p.tables e below (T7.setTop (mkF m 12 #[.val (.long q0), .second, .val (.ref b1), .unset, .unset, .unset, .unset, .unset, .unset, .unset, .unset, .unset, .unset, .unset, .unset] [(.ref b7)])) _
    refine XS.dup X7.here hx rfl (hb hby at_12) rfl rfl ?_
    show Steps p.tables e below (T7.setTop (mkF m 13 #[.val (.long q0), .second, .val (.ref b1), .unset, .unset, .unset, .unset, .unset, .unset, .unset, .unset, .unset, .unset, .unset, .unset] [(.ref b7), (.ref b7)])) _
    refine XS.lloadN X7.here hx rfl (hb hby at_13) rfl ?_
    exact k)
  obtain ⟨_, _, ⟨T11, L11, k11, n11⟩, -, X11, ⟨Lc11, hQ11, l11, y11, z11⟩, st11⟩ := X7.specialBack hx (y := (⟨"com/example/roundhaul/roundhaul/solver/SeededRandom", "<init>", "(J)V"⟩ : MethodName)) rfl hown (mvT hZ (hw _ (List.mem_of_getElem? (i := 3) rfl))) (mvT hZ (hw _ (List.mem_of_getElem? (i := 4) rfl))) (mvT hZ (hw _ (List.mem_of_getElem? (i := 5) rfl))) (by decide) (backOf (W := 1) (rm1 l Z a0 hw [] b7 q0 h7 n0 Z7 A7 g_b7 F7_state) hZ (hw _ (List.mem_of_getElem? (i := 5) rfl)) (hw _ (List.mem_of_getElem? (i := 2) rfl)) (by decide) (by decide)) (g := (mkF m 14 #[.val (.long q0), .second, .val (.ref b1), .unset, .unset, .unset, .unset, .unset, .unset, .unset, .unset, .unset, .unset, .unset, .unset] [(.long q0), (.ref b7), (.ref b7)])) rfl (by rw [hml]; rfl) (Steps.refl _) (a := b7) (argsL := [(.long q0)]) (rest := [(.ref b7)]) (lenOf pd_rm0_0 rfl) rfl (by show 2 * 0 + _ ≤ _; exact Nat.le_of_eq rfl) (hb hby at_14) (fun _ _ => ⟨rfl, e7, (by decide : 2 + 0 ≤ _), (by decide : 2 + 0 ≤ _)⟩)
  dsimp only [Pt.U, Pt.locs, Pt.cells, Pt.slots] at X11 l11 y11 z11 st11 hQ11
  rw [l11, y11, z11] at X11
  obtain ⟨rfl, N11q, K11, qp11_0, qp11_1⟩ := hQ11
  have N11 := Fr.app N3 N11q
  have f12 := f8.keep K11
  have f13 := f9.keep K11 (ninS ne_b1_b7 nin0)
  have f14 := A7.keep K11
  have Z11 : n0 ≤ T11.heap.size := Nat.le_trans Z7 K11.1
  have KK11 := K7.trans K11 (allS (Or.inr sz_b7) all0)
  have go11 := go10.tr (C := T11.setTop (mkF m 17 #[.val (.long q0), .second, .val (.ref b1), .unset, .unset, .unset, .unset, .unset, .unset, .unset, .unset, .unset, .unset, .unset, .unset] [(.ref b7)])) st11
  have go16 := go11.step (C := T11.setTop (mkF m 19 #[.val (.long q0), .second, .val (.ref b1), .val (.ref b7), .unset, .unset, .unset, .unset, .unset, .unset, .unset, .unset, .unset, .unset, .unset] [(.ref b1)])) (fun t k => by
    show Steps p.tables e below (T11.setTop (mkF m 17 #[.val (.long q0), .second, .val (.ref b1), .unset, .unset, .unset, .unset, .unset, .unset, .unset, .unset, .unset, .unset, .unset, .unset] [(.ref b7)])) _
    refine XS.astoreN X11.here hx rfl (hb hby at_17) rfl rfl (l' := #[.val (.long q0), .second, .val (.ref b1), .val (.ref b7), .unset, .unset, .unset, .unset, .unset, .unset, .unset, .unset, .unset, .unset, .unset]) rfl ?_
    show Steps p.tables e below (T11.setTop (mkF m 18 #[.val (.long q0), .second, .val (.ref b1), .val (.ref b7), .unset, .unset, .unset, .unset, .unset, .unset, .unset, .unset, .unset, .unset, .unset] [])) _
    refine XS.aloadN X11.here hx rfl (hb hby at_18) rfl rfl ?_
    exact k)
  obtain ⟨cq17, kq17, q17a, q17b, q17c⟩ := isOf hZ rfl f12
  obtain ⟨_, _, ⟨T17, L17, k17, n17⟩, -, X17, ⟨Lc17, hQ17, l17, y17, z17⟩, st17⟩ := X11.virtualBack hx (y := (⟨"com/example/roundhaul/roundhaul/solver/SeededRandom", "nextDouble", "()D"⟩ : MethodName)) (z := (⟨"com/example/roundhaul/roundhaul/solver/SeededRandom", "nextDouble", "()D"⟩ : MethodName)) hown (mvT hZ (hw _ (List.mem_of_getElem? (i := 11) rfl))) (mvT hZ (hw _ (List.mem_of_getElem? (i := 12) rfl))) (notFace_of_selects (args := #[]) (mvT hZ (hw _ (List.mem_of_getElem? (i := 14) rfl)))) (mvT hZ (hw _ (List.mem_of_getElem? (i := 14) rfl))) (mvT hZ (hw _ (List.mem_of_getElem? (i := 13) rfl))) (by decide) (backOf (W := 0) (rm3 l Z a0 hw [] b1 q0 T11.heap n0 Z11 f12 f13 g_b1) hZ (hw _ (List.mem_of_getElem? (i := 15) rfl)) (hw _ (List.mem_of_getElem? (i := 2) rfl)) (by decide) (by decide)) q17a q17c (g := (mkF m 19 #[.val (.long q0), .second, .val (.ref b1), .val (.ref b7), .unset, .unset, .unset, .unset, .unset, .unset, .unset, .unset, .unset, .unset, .unset] [(.ref b1)])) rfl (by rw [hml]; rfl) (Steps.refl _) (argsL := []) (rest := []) (lenOf pd_rm0_1 rfl) rfl (by show 2 * 0 + _ ≤ _; exact Nat.le_of_eq rfl) (hb hby at_19) (fun _ _ => ⟨rfl, rfl, (by decide : 2 + 0 ≤ _), (by decide : 2 + 0 ≤ _)⟩)
  dsimp only [Pt.U, Pt.locs, Pt.cells, Pt.slots] at X17 l17 y17 z17 st17 hQ17
  rw [l17, y17, z17] at X17
  obtain ⟨rfl, N17q, K17, qp17_0, qp17_1⟩ := hQ17
  have N17 := Fr.app N11 N17q
  have f18 := f12.keep K17
  have f20 := qp11_0.keep K17
  have f21 := qp11_1.keep K17 (ninS (Ne.symm ne_b1_b7) nin0)
  have Z17 : n0 ≤ T17.heap.size := Nat.le_trans Z11 K17.1
  have KK17 := KK11.trans K17 (allS (Or.inr sz_b1) all0)
  have go17 := go16.tr (C := T17.setTop (mkF m 22 #[.val (.long q0), .second, .val (.ref b1), .val (.ref b7), .unset, .unset, .unset, .unset, .unset, .unset, .unset, .unset, .unset, .unset, .unset] [(.double (FP.dmul (FP.l2d (own_usrL (own_mix (q0 + (-7046029254386353131 : Int64))) (11 : Int32))) (4368491638549381120 : UInt64)))])) st17
  have go22 := go17.step (C := T17.setTop (mkF m 25 #[.val (.long q0), .second, .val (.ref b1), .val (.ref b7), .val (.double (FP.dmul (FP.l2d (own_usrL (own_mix (q0 + (-7046029254386353131 : Int64))) (11 : Int32))) (4368491638549381120 : UInt64))), .second, .unset, .unset, .unset, .unset, .unset, .unset, .unset, .unset, .unset] [(.ref b7)])) (fun t k => by
    show Steps p.tables e below (T17.setTop (mkF m 22 #[.val (.long q0), .second, .val (.ref b1), .val (.ref b7), .unset, .unset, .unset, .unset, .unset, .unset, .unset, .unset, .unset, .unset, .unset] [(.double (FP.dmul (FP.l2d (own_usrL (own_mix (q0 + (-7046029254386353131 : Int64))) (11 : Int32))) (4368491638549381120 : UInt64)))])) _
    refine XS.dstore X17.here hx rfl (hb hby at_22) rfl (l' := #[.val (.long q0), .second, .val (.ref b1), .val (.ref b7), .val (.double (FP.dmul (FP.l2d (own_usrL (own_mix (q0 + (-7046029254386353131 : Int64))) (11 : Int32))) (4368491638549381120 : UInt64))), .second, .unset, .unset, .unset, .unset, .unset, .unset, .unset, .unset, .unset]) rfl ?_
    show Steps p.tables e below (T17.setTop (mkF m 24 #[.val (.long q0), .second, .val (.ref b1), .val (.ref b7), .val (.double (FP.dmul (FP.l2d (own_usrL (own_mix (q0 + (-7046029254386353131 : Int64))) (11 : Int32))) (4368491638549381120 : UInt64))), .second, .unset, .unset, .unset, .unset, .unset, .unset, .unset, .unset, .unset] [])) _
    refine XS.aloadN X17.here hx rfl (hb hby at_24) rfl rfl ?_
    exact k)
  obtain ⟨cq23, kq23, q23a, q23b, q23c⟩ := isOf hZ rfl f20
  obtain ⟨_, _, ⟨T23, L23, k23, n23⟩, -, X23, ⟨Lc23, hQ23, l23, y23, z23⟩, st23⟩ := X17.virtualBack hx (y := (⟨"com/example/roundhaul/roundhaul/solver/SeededRandom", "nextLong", "()J"⟩ : MethodName)) (z := (⟨"com/example/roundhaul/roundhaul/solver/SeededRandom", "nextLong", "()J"⟩ : MethodName)) hown (mvT hZ (hw _ (List.mem_of_getElem? (i := 25) rfl))) (mvT hZ (hw _ (List.mem_of_getElem? (i := 17) rfl))) (notFace_of_selects (args := #[]) (mvT hZ (hw _ (List.mem_of_getElem? (i := 19) rfl)))) (mvT hZ (hw _ (List.mem_of_getElem? (i := 19) rfl))) (mvT hZ (hw _ (List.mem_of_getElem? (i := 18) rfl))) (by decide) (backOf (W := 0) (rm4 l Z a0 hw [] b7 q0 T17.heap n0 Z17 f20 f21 g_b7) hZ (hw _ (List.mem_of_getElem? (i := 20) rfl)) (hw _ (List.mem_of_getElem? (i := 2) rfl)) (by decide) (by decide)) q23a q23c (g := (mkF m 25 #[.val (.long q0), .second, .val (.ref b1), .val (.ref b7), .val (.double (FP.dmul (FP.l2d (own_usrL (own_mix (q0 + (-7046029254386353131 : Int64))) (11 : Int32))) (4368491638549381120 : UInt64))), .second, .unset, .unset, .unset, .unset, .unset, .unset, .unset, .unset, .unset] [(.ref b7)])) rfl (by rw [hml]; rfl) (Steps.refl _) (argsL := []) (rest := []) (lenOf pd_rm0_2 rfl) rfl (by show 2 * 0 + _ ≤ _; exact Nat.le_of_eq rfl) (hb hby at_25) (fun _ _ => ⟨rfl, rfl, (by decide : 2 + 0 ≤ _), (by decide : 2 + 0 ≤ _)⟩)
  dsimp only [Pt.U, Pt.locs, Pt.cells, Pt.slots] at X23 l23 y23 z23 st23 hQ23
  rw [l23, y23, z23] at X23
  obtain ⟨rfl, N23q, K23, qp23_0, qp23_1⟩ := hQ23
  have N23 := Fr.app N17 N23q
  have f24 := qp17_0.keep K23
  have f25 := f20.keep K23
  have f27 := qp17_1.keep K23 (ninS ne_b1_b7 nin0)
  have Z23 : n0 ≤ T23.heap.size := Nat.le_trans Z17 K23.1
  have KK23 := KK17.trans K23 (allS (Or.inr sz_b7) all0)
  have go23 := go22.tr (C := T23.setTop (mkF m 28 #[.val (.long q0), .second, .val (.ref b1), .val (.ref b7), .val (.double (FP.dmul (FP.l2d (own_usrL (own_mix (q0 + (-7046029254386353131 : Int64))) (11 : Int32))) (4368491638549381120 : UInt64))), .second, .unset, .unset, .unset, .unset, .unset, .unset, .unset, .unset, .unset] [(.long (own_mix (q0 + (-7046029254386353131 : Int64))))])) st23
  have go32 := go23.step (C := T23.setTop (mkF m 92 #[.val (.long q0), .second, .val (.ref b1), .val (.ref b7), .val (.double (FP.dmul (FP.l2d (own_usrL (own_mix (q0 + (-7046029254386353131 : Int64))) (11 : Int32))) (4368491638549381120 : UInt64))), .second, .val (.long (own_usrL (own_mix (q0 + (-7046029254386353131 : Int64))) (11 : Int32))), .second, .val (.int (1 : Int32)), .val (.double (FP.dmul (FP.dmul (FP.l2d (own_usrL (own_mix (q0 + (-7046029254386353131 : Int64))) (11 : Int32))) (4368491638549381120 : UInt64)) (4845873199050653696 : UInt64))), .second, .val (.long (FP.d2l (FP.dmul (FP.dmul (FP.l2d (own_usrL (own_mix (q0 + (-7046029254386353131 : Int64))) (11 : Int32))) (4368491638549381120 : UInt64)) (4845873199050653696 : UInt64)))), .second, .val (.int (1 : Int32)), .unset] [(.ref b1)])) (fun t k => by
    show Steps p.tables e below (T23.setTop (mkF m 28 #[.val (.long q0), .second, .val (.ref b1), .val (.ref b7), .val (.double (FP.dmul (FP.l2d (own_usrL (own_mix (q0 + (-7046029254386353131 : Int64))) (11 : Int32))) (4368491638549381120 : UInt64))), .second, .unset, .unset, .unset, .unset, .unset, .unset, .unset, .unset, .unset] [(.long (own_mix (q0 + (-7046029254386353131 : Int64))))])) _
    refine XS.bipush X23.here hx rfl (hb hby at_28) ?_
    show Steps p.tables e below (T23.setTop (mkF m 30 #[.val (.long q0), .second, .val (.ref b1), .val (.ref b7), .val (.double (FP.dmul (FP.l2d (own_usrL (own_mix (q0 + (-7046029254386353131 : Int64))) (11 : Int32))) (4368491638549381120 : UInt64))), .second, .unset, .unset, .unset, .unset, .unset, .unset, .unset, .unset, .unset] [(.int (11 : Int32)), (.long (own_mix (q0 + (-7046029254386353131 : Int64))))])) _
    refine XS.lushr X23.here hx rfl (hb hby at_30) rfl ?_
    show Steps p.tables e below (T23.setTop (mkF m 31 #[.val (.long q0), .second, .val (.ref b1), .val (.ref b7), .val (.double (FP.dmul (FP.l2d (own_usrL (own_mix (q0 + (-7046029254386353131 : Int64))) (11 : Int32))) (4368491638549381120 : UInt64))), .second, .unset, .unset, .unset, .unset, .unset, .unset, .unset, .unset, .unset] [(.long (own_usrL (own_mix (q0 + (-7046029254386353131 : Int64))) (11 : Int32)))])) _
    refine XS.lstore X23.here hx rfl (hb hby at_31) rfl (l' := #[.val (.long q0), .second, .val (.ref b1), .val (.ref b7), .val (.double (FP.dmul (FP.l2d (own_usrL (own_mix (q0 + (-7046029254386353131 : Int64))) (11 : Int32))) (4368491638549381120 : UInt64))), .second, .val (.long (own_usrL (own_mix (q0 + (-7046029254386353131 : Int64))) (11 : Int32))), .second, .unset, .unset, .unset, .unset, .unset, .unset, .unset]) rfl ?_
    show Steps p.tables e below (T23.setTop (mkF m 33 #[.val (.long q0), .second, .val (.ref b1), .val (.ref b7), .val (.double (FP.dmul (FP.l2d (own_usrL (own_mix (q0 + (-7046029254386353131 : Int64))) (11 : Int32))) (4368491638549381120 : UInt64))), .second, .val (.long (own_usrL (own_mix (q0 + (-7046029254386353131 : Int64))) (11 : Int32))), .second, .unset, .unset, .unset, .unset, .unset, .unset, .unset] [])) _
    refine XS.dconst0 X23.here hx rfl (hb hby at_33) rfl ?_
    show Steps p.tables e below (T23.setTop (mkF m 34 #[.val (.long q0), .second, .val (.ref b1), .val (.ref b7), .val (.double (FP.dmul (FP.l2d (own_usrL (own_mix (q0 + (-7046029254386353131 : Int64))) (11 : Int32))) (4368491638549381120 : UInt64))), .second, .val (.long (own_usrL (own_mix (q0 + (-7046029254386353131 : Int64))) (11 : Int32))), .second, .unset, .unset, .unset, .unset, .unset, .unset, .unset] [(.double FP.dconst0)])) _
    refine XS.dload X23.here hx rfl (hb hby at_34) rfl ?_
    show Steps p.tables e below (T23.setTop (mkF m 36 #[.val (.long q0), .second, .val (.ref b1), .val (.ref b7), .val (.double (FP.dmul (FP.l2d (own_usrL (own_mix (q0 + (-7046029254386353131 : Int64))) (11 : Int32))) (4368491638549381120 : UInt64))), .second, .val (.long (own_usrL (own_mix (q0 + (-7046029254386353131 : Int64))) (11 : Int32))), .second, .unset, .unset, .unset, .unset, .unset, .unset, .unset] [(.double (FP.dmul (FP.l2d (own_usrL (own_mix (q0 + (-7046029254386353131 : Int64))) (11 : Int32))) (4368491638549381120 : UInt64))), (.double FP.dconst0)])) _
    refine XS.dcmpS X23.here hx rfl (hb hby at_36) rfl rfl ?_
    show Steps p.tables e below (T23.setTop (mkF m 37 #[.val (.long q0), .second, .val (.ref b1), .val (.ref b7), .val (.double (FP.dmul (FP.l2d (own_usrL (own_mix (q0 + (-7046029254386353131 : Int64))) (11 : Int32))) (4368491638549381120 : UInt64))), .second, .val (.long (own_usrL (own_mix (q0 + (-7046029254386353131 : Int64))) (11 : Int32))), .second, .unset, .unset, .unset, .unset, .unset, .unset, .unset] [(.int (cmpValue (FP.dcmp FP.dconst0 (FP.dmul (FP.l2d (own_usrL (own_mix (q0 + (-7046029254386353131 : Int64))) (11 : Int32))) (4368491638549381120 : UInt64))) .g))])) _
    refine XS.ifNo X23.here hx rfl (hb hby at_37) rfl ((if0 _ _).trans (flt (own_ge0 (own_h _) : ¬ ((0 : Int32) < (cmpValue (FP.dcmp FP.dconst0 (FP.dmul (FP.l2d (own_usrL (own_mix (q0 + (-7046029254386353131 : Int64))) (11 : Int32))) (4368491638549381120 : UInt64))) .g)))).2.2.1) ?_
    show Steps p.tables e below (T23.setTop (mkF m 40 #[.val (.long q0), .second, .val (.ref b1), .val (.ref b7), .val (.double (FP.dmul (FP.l2d (own_usrL (own_mix (q0 + (-7046029254386353131 : Int64))) (11 : Int32))) (4368491638549381120 : UInt64))), .second, .val (.long (own_usrL (own_mix (q0 + (-7046029254386353131 : Int64))) (11 : Int32))), .second, .unset, .unset, .unset, .unset, .unset, .unset, .unset] [])) _
    refine XS.dload X23.here hx rfl (hb hby at_40) rfl ?_
    show Steps p.tables e below (T23.setTop (mkF m 42 #[.val (.long q0), .second, .val (.ref b1), .val (.ref b7), .val (.double (FP.dmul (FP.l2d (own_usrL (own_mix (q0 + (-7046029254386353131 : Int64))) (11 : Int32))) (4368491638549381120 : UInt64))), .second, .val (.long (own_usrL (own_mix (q0 + (-7046029254386353131 : Int64))) (11 : Int32))), .second, .unset, .unset, .unset, .unset, .unset, .unset, .unset] [(.double (FP.dmul (FP.l2d (own_usrL (own_mix (q0 + (-7046029254386353131 : Int64))) (11 : Int32))) (4368491638549381120 : UInt64)))])) _
    refine XS.dconst1 X23.here hx rfl (hb hby at_42) rfl ?_
    show Steps p.tables e below (T23.setTop (mkF m 43 #[.val (.long q0), .second, .val (.ref b1), .val (.ref b7), .val (.double (FP.dmul (FP.l2d (own_usrL (own_mix (q0 + (-7046029254386353131 : Int64))) (11 : Int32))) (4368491638549381120 : UInt64))), .second, .val (.long (own_usrL (own_mix (q0 + (-7046029254386353131 : Int64))) (11 : Int32))), .second, .unset, .unset, .unset, .unset, .unset, .unset, .unset] [(.double FP.dconst1), (.double (FP.dmul (FP.l2d (own_usrL (own_mix (q0 + (-7046029254386353131 : Int64))) (11 : Int32))) (4368491638549381120 : UInt64)))])) _
    refine XS.dcmpS X23.here hx rfl (hb hby at_43) rfl rfl ?_
    show Steps p.tables e below (T23.setTop (mkF m 44 #[.val (.long q0), .second, .val (.ref b1), .val (.ref b7), .val (.double (FP.dmul (FP.l2d (own_usrL (own_mix (q0 + (-7046029254386353131 : Int64))) (11 : Int32))) (4368491638549381120 : UInt64))), .second, .val (.long (own_usrL (own_mix (q0 + (-7046029254386353131 : Int64))) (11 : Int32))), .second, .unset, .unset, .unset, .unset, .unset, .unset, .unset] [(.int (cmpValue (FP.dcmp (FP.dmul (FP.l2d (own_usrL (own_mix (q0 + (-7046029254386353131 : Int64))) (11 : Int32))) (4368491638549381120 : UInt64)) FP.dconst1) .g))])) _
    refine XS.ifNo X23.here hx rfl (hb hby at_44) rfl ((if0 _ _).trans (tlt (own_lt1 (own_h _) : (cmpValue (FP.dcmp (FP.dmul (FP.l2d (own_usrL (own_mix (q0 + (-7046029254386353131 : Int64))) (11 : Int32))) (4368491638549381120 : UInt64)) FP.dconst1) .g) < (0 : Int32))).2.1) ?_
    show Steps p.tables e below (T23.setTop (mkF m 47 #[.val (.long q0), .second, .val (.ref b1), .val (.ref b7), .val (.double (FP.dmul (FP.l2d (own_usrL (own_mix (q0 + (-7046029254386353131 : Int64))) (11 : Int32))) (4368491638549381120 : UInt64))), .second, .val (.long (own_usrL (own_mix (q0 + (-7046029254386353131 : Int64))) (11 : Int32))), .second, .unset, .unset, .unset, .unset, .unset, .unset, .unset] [])) _
    refine XS.iconst X23.here hx rfl (hb hby at_47) ?_
    show Steps p.tables e below (T23.setTop (mkF m 48 #[.val (.long q0), .second, .val (.ref b1), .val (.ref b7), .val (.double (FP.dmul (FP.l2d (own_usrL (own_mix (q0 + (-7046029254386353131 : Int64))) (11 : Int32))) (4368491638549381120 : UInt64))), .second, .val (.long (own_usrL (own_mix (q0 + (-7046029254386353131 : Int64))) (11 : Int32))), .second, .unset, .unset, .unset, .unset, .unset, .unset, .unset] [(.int (1 : Int32))])) _
    refine XS.goto X23.here hx rfl (pc0 := 48) (pc' := 52) rfl (hb hby at_48) (by decide) (by decide) ?_
    show Steps p.tables e below (T23.setTop (mkF m 52 #[.val (.long q0), .second, .val (.ref b1), .val (.ref b7), .val (.double (FP.dmul (FP.l2d (own_usrL (own_mix (q0 + (-7046029254386353131 : Int64))) (11 : Int32))) (4368491638549381120 : UInt64))), .second, .val (.long (own_usrL (own_mix (q0 + (-7046029254386353131 : Int64))) (11 : Int32))), .second, .unset, .unset, .unset, .unset, .unset, .unset, .unset] [(.int (1 : Int32))])) _
    refine XS.istore X23.here hx rfl (hb hby at_52) rfl (l' := #[.val (.long q0), .second, .val (.ref b1), .val (.ref b7), .val (.double (FP.dmul (FP.l2d (own_usrL (own_mix (q0 + (-7046029254386353131 : Int64))) (11 : Int32))) (4368491638549381120 : UInt64))), .second, .val (.long (own_usrL (own_mix (q0 + (-7046029254386353131 : Int64))) (11 : Int32))), .second, .val (.int (1 : Int32)), .unset, .unset, .unset, .unset, .unset, .unset]) rfl ?_
    show Steps p.tables e below (T23.setTop (mkF m 54 #[.val (.long q0), .second, .val (.ref b1), .val (.ref b7), .val (.double (FP.dmul (FP.l2d (own_usrL (own_mix (q0 + (-7046029254386353131 : Int64))) (11 : Int32))) (4368491638549381120 : UInt64))), .second, .val (.long (own_usrL (own_mix (q0 + (-7046029254386353131 : Int64))) (11 : Int32))), .second, .val (.int (1 : Int32)), .unset, .unset, .unset, .unset, .unset, .unset] [])) _
    refine XS.dload X23.here hx rfl (hb hby at_54) rfl ?_
    show Steps p.tables e below (T23.setTop (mkF m 56 #[.val (.long q0), .second, .val (.ref b1), .val (.ref b7), .val (.double (FP.dmul (FP.l2d (own_usrL (own_mix (q0 + (-7046029254386353131 : Int64))) (11 : Int32))) (4368491638549381120 : UInt64))), .second, .val (.long (own_usrL (own_mix (q0 + (-7046029254386353131 : Int64))) (11 : Int32))), .second, .val (.int (1 : Int32)), .unset, .unset, .unset, .unset, .unset, .unset] [(.double (FP.dmul (FP.l2d (own_usrL (own_mix (q0 + (-7046029254386353131 : Int64))) (11 : Int32))) (4368491638549381120 : UInt64)))])) _
    refine X23.ldc2DoubleC hx hown (mvT hZ (hw _ (List.mem_of_getElem? (i := 26) rfl))) (g := (mkF m 56 #[.val (.long q0), .second, .val (.ref b1), .val (.ref b7), .val (.double (FP.dmul (FP.l2d (own_usrL (own_mix (q0 + (-7046029254386353131 : Int64))) (11 : Int32))) (4368491638549381120 : UInt64))), .second, .val (.long (own_usrL (own_mix (q0 + (-7046029254386353131 : Int64))) (11 : Int32))), .second, .val (.int (1 : Int32)), .unset, .unset, .unset, .unset, .unset, .unset] [(.double (FP.dmul (FP.l2d (own_usrL (own_mix (q0 + (-7046029254386353131 : Int64))) (11 : Int32))) (4368491638549381120 : UInt64)))])) rfl (hb hby at_56) _ ?_
    show Steps p.tables e below (T23.setTop (mkF m 59 #[.val (.long q0), .second, .val (.ref b1), .val (.ref b7), .val (.double (FP.dmul (FP.l2d (own_usrL (own_mix (q0 + (-7046029254386353131 : Int64))) (11 : Int32))) (4368491638549381120 : UInt64))), .second, .val (.long (own_usrL (own_mix (q0 + (-7046029254386353131 : Int64))) (11 : Int32))), .second, .val (.int (1 : Int32)), .unset, .unset, .unset, .unset, .unset, .unset] [(.double (4845873199050653696 : UInt64)), (.double (FP.dmul (FP.l2d (own_usrL (own_mix (q0 + (-7046029254386353131 : Int64))) (11 : Int32))) (4368491638549381120 : UInt64)))])) _
    refine XS.dmulS X23.here hx rfl (hb hby at_59) rfl (own_n2 (own_h _)) rfl ?_
    show Steps p.tables e below (T23.setTop (mkF m 60 #[.val (.long q0), .second, .val (.ref b1), .val (.ref b7), .val (.double (FP.dmul (FP.l2d (own_usrL (own_mix (q0 + (-7046029254386353131 : Int64))) (11 : Int32))) (4368491638549381120 : UInt64))), .second, .val (.long (own_usrL (own_mix (q0 + (-7046029254386353131 : Int64))) (11 : Int32))), .second, .val (.int (1 : Int32)), .unset, .unset, .unset, .unset, .unset, .unset] [(.double (FP.dmul (FP.dmul (FP.l2d (own_usrL (own_mix (q0 + (-7046029254386353131 : Int64))) (11 : Int32))) (4368491638549381120 : UInt64)) (4845873199050653696 : UInt64)))])) _
    refine XS.dstore X23.here hx rfl (hb hby at_60) rfl (l' := #[.val (.long q0), .second, .val (.ref b1), .val (.ref b7), .val (.double (FP.dmul (FP.l2d (own_usrL (own_mix (q0 + (-7046029254386353131 : Int64))) (11 : Int32))) (4368491638549381120 : UInt64))), .second, .val (.long (own_usrL (own_mix (q0 + (-7046029254386353131 : Int64))) (11 : Int32))), .second, .val (.int (1 : Int32)), .val (.double (FP.dmul (FP.dmul (FP.l2d (own_usrL (own_mix (q0 + (-7046029254386353131 : Int64))) (11 : Int32))) (4368491638549381120 : UInt64)) (4845873199050653696 : UInt64))), .second, .unset, .unset, .unset, .unset]) rfl ?_
    show Steps p.tables e below (T23.setTop (mkF m 62 #[.val (.long q0), .second, .val (.ref b1), .val (.ref b7), .val (.double (FP.dmul (FP.l2d (own_usrL (own_mix (q0 + (-7046029254386353131 : Int64))) (11 : Int32))) (4368491638549381120 : UInt64))), .second, .val (.long (own_usrL (own_mix (q0 + (-7046029254386353131 : Int64))) (11 : Int32))), .second, .val (.int (1 : Int32)), .val (.double (FP.dmul (FP.dmul (FP.l2d (own_usrL (own_mix (q0 + (-7046029254386353131 : Int64))) (11 : Int32))) (4368491638549381120 : UInt64)) (4845873199050653696 : UInt64))), .second, .unset, .unset, .unset, .unset] [])) _
    refine XS.dload X23.here hx rfl (hb hby at_62) rfl ?_
    show Steps p.tables e below (T23.setTop (mkF m 64 #[.val (.long q0), .second, .val (.ref b1), .val (.ref b7), .val (.double (FP.dmul (FP.l2d (own_usrL (own_mix (q0 + (-7046029254386353131 : Int64))) (11 : Int32))) (4368491638549381120 : UInt64))), .second, .val (.long (own_usrL (own_mix (q0 + (-7046029254386353131 : Int64))) (11 : Int32))), .second, .val (.int (1 : Int32)), .val (.double (FP.dmul (FP.dmul (FP.l2d (own_usrL (own_mix (q0 + (-7046029254386353131 : Int64))) (11 : Int32))) (4368491638549381120 : UInt64)) (4845873199050653696 : UInt64))), .second, .unset, .unset, .unset, .unset] [(.double (FP.dmul (FP.dmul (FP.l2d (own_usrL (own_mix (q0 + (-7046029254386353131 : Int64))) (11 : Int32))) (4368491638549381120 : UInt64)) (4845873199050653696 : UInt64)))])) _
    refine XS.d2lS X23.here hx rfl (hb hby at_64) rfl rfl ?_
    show Steps p.tables e below (T23.setTop (mkF m 65 #[.val (.long q0), .second, .val (.ref b1), .val (.ref b7), .val (.double (FP.dmul (FP.l2d (own_usrL (own_mix (q0 + (-7046029254386353131 : Int64))) (11 : Int32))) (4368491638549381120 : UInt64))), .second, .val (.long (own_usrL (own_mix (q0 + (-7046029254386353131 : Int64))) (11 : Int32))), .second, .val (.int (1 : Int32)), .val (.double (FP.dmul (FP.dmul (FP.l2d (own_usrL (own_mix (q0 + (-7046029254386353131 : Int64))) (11 : Int32))) (4368491638549381120 : UInt64)) (4845873199050653696 : UInt64))), .second, .unset, .unset, .unset, .unset] [(.long (FP.d2l (FP.dmul (FP.dmul (FP.l2d (own_usrL (own_mix (q0 + (-7046029254386353131 : Int64))) (11 : Int32))) (4368491638549381120 : UInt64)) (4845873199050653696 : UInt64))))])) _
    refine XS.lstore X23.here hx rfl (hb hby at_65) rfl (l' := #[.val (.long q0), .second, .val (.ref b1), .val (.ref b7), .val (.double (FP.dmul (FP.l2d (own_usrL (own_mix (q0 + (-7046029254386353131 : Int64))) (11 : Int32))) (4368491638549381120 : UInt64))), .second, .val (.long (own_usrL (own_mix (q0 + (-7046029254386353131 : Int64))) (11 : Int32))), .second, .val (.int (1 : Int32)), .val (.double (FP.dmul (FP.dmul (FP.l2d (own_usrL (own_mix (q0 + (-7046029254386353131 : Int64))) (11 : Int32))) (4368491638549381120 : UInt64)) (4845873199050653696 : UInt64))), .second, .val (.long (FP.d2l (FP.dmul (FP.dmul (FP.l2d (own_usrL (own_mix (q0 + (-7046029254386353131 : Int64))) (11 : Int32))) (4368491638549381120 : UInt64)) (4845873199050653696 : UInt64)))), .second, .unset, .unset]) rfl ?_
    show Steps p.tables e below (T23.setTop (mkF m 67 #[.val (.long q0), .second, .val (.ref b1), .val (.ref b7), .val (.double (FP.dmul (FP.l2d (own_usrL (own_mix (q0 + (-7046029254386353131 : Int64))) (11 : Int32))) (4368491638549381120 : UInt64))), .second, .val (.long (own_usrL (own_mix (q0 + (-7046029254386353131 : Int64))) (11 : Int32))), .second, .val (.int (1 : Int32)), .val (.double (FP.dmul (FP.dmul (FP.l2d (own_usrL (own_mix (q0 + (-7046029254386353131 : Int64))) (11 : Int32))) (4368491638549381120 : UInt64)) (4845873199050653696 : UInt64))), .second, .val (.long (FP.d2l (FP.dmul (FP.dmul (FP.l2d (own_usrL (own_mix (q0 + (-7046029254386353131 : Int64))) (11 : Int32))) (4368491638549381120 : UInt64)) (4845873199050653696 : UInt64)))), .second, .unset, .unset] [])) _
    refine XS.lload X23.here hx rfl (hb hby at_67) rfl ?_
    show Steps p.tables e below (T23.setTop (mkF m 69 #[.val (.long q0), .second, .val (.ref b1), .val (.ref b7), .val (.double (FP.dmul (FP.l2d (own_usrL (own_mix (q0 + (-7046029254386353131 : Int64))) (11 : Int32))) (4368491638549381120 : UInt64))), .second, .val (.long (own_usrL (own_mix (q0 + (-7046029254386353131 : Int64))) (11 : Int32))), .second, .val (.int (1 : Int32)), .val (.double (FP.dmul (FP.dmul (FP.l2d (own_usrL (own_mix (q0 + (-7046029254386353131 : Int64))) (11 : Int32))) (4368491638549381120 : UInt64)) (4845873199050653696 : UInt64))), .second, .val (.long (FP.d2l (FP.dmul (FP.dmul (FP.l2d (own_usrL (own_mix (q0 + (-7046029254386353131 : Int64))) (11 : Int32))) (4368491638549381120 : UInt64)) (4845873199050653696 : UInt64)))), .second, .unset, .unset] [(.long (FP.d2l (FP.dmul (FP.dmul (FP.l2d (own_usrL (own_mix (q0 + (-7046029254386353131 : Int64))) (11 : Int32))) (4368491638549381120 : UInt64)) (4845873199050653696 : UInt64))))])) _
    refine XS.l2dS X23.here hx rfl (hb hby at_69) rfl rfl ?_
    show Steps p.tables e below (T23.setTop (mkF m 70 #[.val (.long q0), .second, .val (.ref b1), .val (.ref b7), .val (.double (FP.dmul (FP.l2d (own_usrL (own_mix (q0 + (-7046029254386353131 : Int64))) (11 : Int32))) (4368491638549381120 : UInt64))), .second, .val (.long (own_usrL (own_mix (q0 + (-7046029254386353131 : Int64))) (11 : Int32))), .second, .val (.int (1 : Int32)), .val (.double (FP.dmul (FP.dmul (FP.l2d (own_usrL (own_mix (q0 + (-7046029254386353131 : Int64))) (11 : Int32))) (4368491638549381120 : UInt64)) (4845873199050653696 : UInt64))), .second, .val (.long (FP.d2l (FP.dmul (FP.dmul (FP.l2d (own_usrL (own_mix (q0 + (-7046029254386353131 : Int64))) (11 : Int32))) (4368491638549381120 : UInt64)) (4845873199050653696 : UInt64)))), .second, .unset, .unset] [(.double (FP.l2d (FP.d2l (FP.dmul (FP.dmul (FP.l2d (own_usrL (own_mix (q0 + (-7046029254386353131 : Int64))) (11 : Int32))) (4368491638549381120 : UInt64)) (4845873199050653696 : UInt64)))))])) _
    refine XS.dload X23.here hx rfl (hb hby at_70) rfl ?_
    show Steps p.tables e below (T23.setTop (mkF m 72 #[.val (.long q0), .second, .val (.ref b1), .val (.ref b7), .val (.double (FP.dmul (FP.l2d (own_usrL (own_mix (q0 + (-7046029254386353131 : Int64))) (11 : Int32))) (4368491638549381120 : UInt64))), .second, .val (.long (own_usrL (own_mix (q0 + (-7046029254386353131 : Int64))) (11 : Int32))), .second, .val (.int (1 : Int32)), .val (.double (FP.dmul (FP.dmul (FP.l2d (own_usrL (own_mix (q0 + (-7046029254386353131 : Int64))) (11 : Int32))) (4368491638549381120 : UInt64)) (4845873199050653696 : UInt64))), .second, .val (.long (FP.d2l (FP.dmul (FP.dmul (FP.l2d (own_usrL (own_mix (q0 + (-7046029254386353131 : Int64))) (11 : Int32))) (4368491638549381120 : UInt64)) (4845873199050653696 : UInt64)))), .second, .unset, .unset] [(.double (FP.dmul (FP.dmul (FP.l2d (own_usrL (own_mix (q0 + (-7046029254386353131 : Int64))) (11 : Int32))) (4368491638549381120 : UInt64)) (4845873199050653696 : UInt64))), (.double (FP.l2d (FP.d2l (FP.dmul (FP.dmul (FP.l2d (own_usrL (own_mix (q0 + (-7046029254386353131 : Int64))) (11 : Int32))) (4368491638549381120 : UInt64)) (4845873199050653696 : UInt64)))))])) _
    refine XS.dcmpS X23.here hx rfl (hb hby at_72) rfl rfl ?_
    show Steps p.tables e below (T23.setTop (mkF m 73 #[.val (.long q0), .second, .val (.ref b1), .val (.ref b7), .val (.double (FP.dmul (FP.l2d (own_usrL (own_mix (q0 + (-7046029254386353131 : Int64))) (11 : Int32))) (4368491638549381120 : UInt64))), .second, .val (.long (own_usrL (own_mix (q0 + (-7046029254386353131 : Int64))) (11 : Int32))), .second, .val (.int (1 : Int32)), .val (.double (FP.dmul (FP.dmul (FP.l2d (own_usrL (own_mix (q0 + (-7046029254386353131 : Int64))) (11 : Int32))) (4368491638549381120 : UInt64)) (4845873199050653696 : UInt64))), .second, .val (.long (FP.d2l (FP.dmul (FP.dmul (FP.l2d (own_usrL (own_mix (q0 + (-7046029254386353131 : Int64))) (11 : Int32))) (4368491638549381120 : UInt64)) (4845873199050653696 : UInt64)))), .second, .unset, .unset] [(.int (cmpValue (FP.dcmp (FP.l2d (FP.d2l (FP.dmul (FP.dmul (FP.l2d (own_usrL (own_mix (q0 + (-7046029254386353131 : Int64))) (11 : Int32))) (4368491638549381120 : UInt64)) (4845873199050653696 : UInt64)))) (FP.dmul (FP.dmul (FP.l2d (own_usrL (own_mix (q0 + (-7046029254386353131 : Int64))) (11 : Int32))) (4368491638549381120 : UInt64)) (4845873199050653696 : UInt64))) .l))])) _
    refine XS.ifNo X23.here hx rfl (hb hby at_73) rfl ((if0 _ _).trans (teq (own_eq (own_h _) : (cmpValue (FP.dcmp (FP.l2d (FP.d2l (FP.dmul (FP.dmul (FP.l2d (own_usrL (own_mix (q0 + (-7046029254386353131 : Int64))) (11 : Int32))) (4368491638549381120 : UInt64)) (4845873199050653696 : UInt64)))) (FP.dmul (FP.dmul (FP.l2d (own_usrL (own_mix (q0 + (-7046029254386353131 : Int64))) (11 : Int32))) (4368491638549381120 : UInt64)) (4845873199050653696 : UInt64))) .l) = (0 : Int32))).2) ?_
    show Steps p.tables e below (T23.setTop (mkF m 76 #[.val (.long q0), .second, .val (.ref b1), .val (.ref b7), .val (.double (FP.dmul (FP.l2d (own_usrL (own_mix (q0 + (-7046029254386353131 : Int64))) (11 : Int32))) (4368491638549381120 : UInt64))), .second, .val (.long (own_usrL (own_mix (q0 + (-7046029254386353131 : Int64))) (11 : Int32))), .second, .val (.int (1 : Int32)), .val (.double (FP.dmul (FP.dmul (FP.l2d (own_usrL (own_mix (q0 + (-7046029254386353131 : Int64))) (11 : Int32))) (4368491638549381120 : UInt64)) (4845873199050653696 : UInt64))), .second, .val (.long (FP.d2l (FP.dmul (FP.dmul (FP.l2d (own_usrL (own_mix (q0 + (-7046029254386353131 : Int64))) (11 : Int32))) (4368491638549381120 : UInt64)) (4845873199050653696 : UInt64)))), .second, .unset, .unset] [])) _
    refine XS.lload X23.here hx rfl (hb hby at_76) rfl ?_
    show Steps p.tables e below (T23.setTop (mkF m 78 #[.val (.long q0), .second, .val (.ref b1), .val (.ref b7), .val (.double (FP.dmul (FP.l2d (own_usrL (own_mix (q0 + (-7046029254386353131 : Int64))) (11 : Int32))) (4368491638549381120 : UInt64))), .second, .val (.long (own_usrL (own_mix (q0 + (-7046029254386353131 : Int64))) (11 : Int32))), .second, .val (.int (1 : Int32)), .val (.double (FP.dmul (FP.dmul (FP.l2d (own_usrL (own_mix (q0 + (-7046029254386353131 : Int64))) (11 : Int32))) (4368491638549381120 : UInt64)) (4845873199050653696 : UInt64))), .second, .val (.long (FP.d2l (FP.dmul (FP.dmul (FP.l2d (own_usrL (own_mix (q0 + (-7046029254386353131 : Int64))) (11 : Int32))) (4368491638549381120 : UInt64)) (4845873199050653696 : UInt64)))), .second, .unset, .unset] [(.long (FP.d2l (FP.dmul (FP.dmul (FP.l2d (own_usrL (own_mix (q0 + (-7046029254386353131 : Int64))) (11 : Int32))) (4368491638549381120 : UInt64)) (4845873199050653696 : UInt64))))])) _
    refine XS.lload X23.here hx rfl (hb hby at_78) rfl ?_
    show Steps p.tables e below (T23.setTop (mkF m 80 #[.val (.long q0), .second, .val (.ref b1), .val (.ref b7), .val (.double (FP.dmul (FP.l2d (own_usrL (own_mix (q0 + (-7046029254386353131 : Int64))) (11 : Int32))) (4368491638549381120 : UInt64))), .second, .val (.long (own_usrL (own_mix (q0 + (-7046029254386353131 : Int64))) (11 : Int32))), .second, .val (.int (1 : Int32)), .val (.double (FP.dmul (FP.dmul (FP.l2d (own_usrL (own_mix (q0 + (-7046029254386353131 : Int64))) (11 : Int32))) (4368491638549381120 : UInt64)) (4845873199050653696 : UInt64))), .second, .val (.long (FP.d2l (FP.dmul (FP.dmul (FP.l2d (own_usrL (own_mix (q0 + (-7046029254386353131 : Int64))) (11 : Int32))) (4368491638549381120 : UInt64)) (4845873199050653696 : UInt64)))), .second, .unset, .unset] [(.long (own_usrL (own_mix (q0 + (-7046029254386353131 : Int64))) (11 : Int32))), (.long (FP.d2l (FP.dmul (FP.dmul (FP.l2d (own_usrL (own_mix (q0 + (-7046029254386353131 : Int64))) (11 : Int32))) (4368491638549381120 : UInt64)) (4845873199050653696 : UInt64))))])) _
    refine XS.lcmp X23.here hx rfl (hb hby at_80) rfl ?_
    show Steps p.tables e below (T23.setTop (mkF m 81 #[.val (.long q0), .second, .val (.ref b1), .val (.ref b7), .val (.double (FP.dmul (FP.l2d (own_usrL (own_mix (q0 + (-7046029254386353131 : Int64))) (11 : Int32))) (4368491638549381120 : UInt64))), .second, .val (.long (own_usrL (own_mix (q0 + (-7046029254386353131 : Int64))) (11 : Int32))), .second, .val (.int (1 : Int32)), .val (.double (FP.dmul (FP.dmul (FP.l2d (own_usrL (own_mix (q0 + (-7046029254386353131 : Int64))) (11 : Int32))) (4368491638549381120 : UInt64)) (4845873199050653696 : UInt64))), .second, .val (.long (FP.d2l (FP.dmul (FP.dmul (FP.l2d (own_usrL (own_mix (q0 + (-7046029254386353131 : Int64))) (11 : Int32))) (4368491638549381120 : UInt64)) (4845873199050653696 : UInt64)))), .second, .unset, .unset] [(.int (lcmpW (FP.d2l (FP.dmul (FP.dmul (FP.l2d (own_usrL (own_mix (q0 + (-7046029254386353131 : Int64))) (11 : Int32))) (4368491638549381120 : UInt64)) (4845873199050653696 : UInt64))) (own_usrL (own_mix (q0 + (-7046029254386353131 : Int64))) (11 : Int32))))])) _
    refine XS.ifNo X23.here hx rfl (hb hby at_81) rfl ((if0 _ _).trans (teq ((lw_eq _ _).mpr (own_d2l (own_h _) : (FP.d2l (FP.dmul (FP.dmul (FP.l2d (own_usrL (own_mix (q0 + (-7046029254386353131 : Int64))) (11 : Int32))) (4368491638549381120 : UInt64)) (4845873199050653696 : UInt64))) = (own_usrL (own_mix (q0 + (-7046029254386353131 : Int64))) (11 : Int32))))).2) ?_
    show Steps p.tables e below (T23.setTop (mkF m 84 #[.val (.long q0), .second, .val (.ref b1), .val (.ref b7), .val (.double (FP.dmul (FP.l2d (own_usrL (own_mix (q0 + (-7046029254386353131 : Int64))) (11 : Int32))) (4368491638549381120 : UInt64))), .second, .val (.long (own_usrL (own_mix (q0 + (-7046029254386353131 : Int64))) (11 : Int32))), .second, .val (.int (1 : Int32)), .val (.double (FP.dmul (FP.dmul (FP.l2d (own_usrL (own_mix (q0 + (-7046029254386353131 : Int64))) (11 : Int32))) (4368491638549381120 : UInt64)) (4845873199050653696 : UInt64))), .second, .val (.long (FP.d2l (FP.dmul (FP.dmul (FP.l2d (own_usrL (own_mix (q0 + (-7046029254386353131 : Int64))) (11 : Int32))) (4368491638549381120 : UInt64)) (4845873199050653696 : UInt64)))), .second, .unset, .unset] [])) _
    refine XS.iconst X23.here hx rfl (hb hby at_84) ?_
    show Steps p.tables e below (T23.setTop (mkF m 85 #[.val (.long q0), .second, .val (.ref b1), .val (.ref b7), .val (.double (FP.dmul (FP.l2d (own_usrL (own_mix (q0 + (-7046029254386353131 : Int64))) (11 : Int32))) (4368491638549381120 : UInt64))), .second, .val (.long (own_usrL (own_mix (q0 + (-7046029254386353131 : Int64))) (11 : Int32))), .second, .val (.int (1 : Int32)), .val (.double (FP.dmul (FP.dmul (FP.l2d (own_usrL (own_mix (q0 + (-7046029254386353131 : Int64))) (11 : Int32))) (4368491638549381120 : UInt64)) (4845873199050653696 : UInt64))), .second, .val (.long (FP.d2l (FP.dmul (FP.dmul (FP.l2d (own_usrL (own_mix (q0 + (-7046029254386353131 : Int64))) (11 : Int32))) (4368491638549381120 : UInt64)) (4845873199050653696 : UInt64)))), .second, .unset, .unset] [(.int (1 : Int32))])) _
    refine XS.goto X23.here hx rfl (pc0 := 85) (pc' := 89) rfl (hb hby at_85) (by decide) (by decide) ?_
    show Steps p.tables e below (T23.setTop (mkF m 89 #[.val (.long q0), .second, .val (.ref b1), .val (.ref b7), .val (.double (FP.dmul (FP.l2d (own_usrL (own_mix (q0 + (-7046029254386353131 : Int64))) (11 : Int32))) (4368491638549381120 : UInt64))), .second, .val (.long (own_usrL (own_mix (q0 + (-7046029254386353131 : Int64))) (11 : Int32))), .second, .val (.int (1 : Int32)), .val (.double (FP.dmul (FP.dmul (FP.l2d (own_usrL (own_mix (q0 + (-7046029254386353131 : Int64))) (11 : Int32))) (4368491638549381120 : UInt64)) (4845873199050653696 : UInt64))), .second, .val (.long (FP.d2l (FP.dmul (FP.dmul (FP.l2d (own_usrL (own_mix (q0 + (-7046029254386353131 : Int64))) (11 : Int32))) (4368491638549381120 : UInt64)) (4845873199050653696 : UInt64)))), .second, .unset, .unset] [(.int (1 : Int32))])) _
    refine XS.istore X23.here hx rfl (hb hby at_89) rfl (l' := #[.val (.long q0), .second, .val (.ref b1), .val (.ref b7), .val (.double (FP.dmul (FP.l2d (own_usrL (own_mix (q0 + (-7046029254386353131 : Int64))) (11 : Int32))) (4368491638549381120 : UInt64))), .second, .val (.long (own_usrL (own_mix (q0 + (-7046029254386353131 : Int64))) (11 : Int32))), .second, .val (.int (1 : Int32)), .val (.double (FP.dmul (FP.dmul (FP.l2d (own_usrL (own_mix (q0 + (-7046029254386353131 : Int64))) (11 : Int32))) (4368491638549381120 : UInt64)) (4845873199050653696 : UInt64))), .second, .val (.long (FP.d2l (FP.dmul (FP.dmul (FP.l2d (own_usrL (own_mix (q0 + (-7046029254386353131 : Int64))) (11 : Int32))) (4368491638549381120 : UInt64)) (4845873199050653696 : UInt64)))), .second, .val (.int (1 : Int32)), .unset]) rfl ?_
    show Steps p.tables e below (T23.setTop (mkF m 91 #[.val (.long q0), .second, .val (.ref b1), .val (.ref b7), .val (.double (FP.dmul (FP.l2d (own_usrL (own_mix (q0 + (-7046029254386353131 : Int64))) (11 : Int32))) (4368491638549381120 : UInt64))), .second, .val (.long (own_usrL (own_mix (q0 + (-7046029254386353131 : Int64))) (11 : Int32))), .second, .val (.int (1 : Int32)), .val (.double (FP.dmul (FP.dmul (FP.l2d (own_usrL (own_mix (q0 + (-7046029254386353131 : Int64))) (11 : Int32))) (4368491638549381120 : UInt64)) (4845873199050653696 : UInt64))), .second, .val (.long (FP.d2l (FP.dmul (FP.dmul (FP.l2d (own_usrL (own_mix (q0 + (-7046029254386353131 : Int64))) (11 : Int32))) (4368491638549381120 : UInt64)) (4845873199050653696 : UInt64)))), .second, .val (.int (1 : Int32)), .unset] [])) _
    refine XS.aloadN X23.here hx rfl (hb hby at_91) rfl rfl ?_
    exact k)
  obtain ⟨cq33, kq33, q33a, q33b, q33c⟩ := isOf hZ rfl f24
  obtain ⟨_, _, ⟨T33, L33, k33, n33⟩, -, X33, ⟨Lc33, hQ33, l33, y33, z33⟩, st33⟩ := X23.virtualBack hx (y := (⟨"com/example/roundhaul/roundhaul/solver/SeededRandom", "nextLong", "()J"⟩ : MethodName)) (z := (⟨"com/example/roundhaul/roundhaul/solver/SeededRandom", "nextLong", "()J"⟩ : MethodName)) hown (mvT hZ (hw _ (List.mem_of_getElem? (i := 25) rfl))) (mvT hZ (hw _ (List.mem_of_getElem? (i := 17) rfl))) (notFace_of_selects (args := #[]) (mvT hZ (hw _ (List.mem_of_getElem? (i := 19) rfl)))) (mvT hZ (hw _ (List.mem_of_getElem? (i := 19) rfl))) (mvT hZ (hw _ (List.mem_of_getElem? (i := 18) rfl))) (by decide) (backOf (W := 0) (rm4 l Z a0 hw [] b1 (q0 + (-7046029254386353131 : Int64)) T23.heap n0 Z23 f24 f27 g_b1) hZ (hw _ (List.mem_of_getElem? (i := 20) rfl)) (hw _ (List.mem_of_getElem? (i := 2) rfl)) (by decide) (by decide)) q33a q33c (g := (mkF m 92 #[.val (.long q0), .second, .val (.ref b1), .val (.ref b7), .val (.double (FP.dmul (FP.l2d (own_usrL (own_mix (q0 + (-7046029254386353131 : Int64))) (11 : Int32))) (4368491638549381120 : UInt64))), .second, .val (.long (own_usrL (own_mix (q0 + (-7046029254386353131 : Int64))) (11 : Int32))), .second, .val (.int (1 : Int32)), .val (.double (FP.dmul (FP.dmul (FP.l2d (own_usrL (own_mix (q0 + (-7046029254386353131 : Int64))) (11 : Int32))) (4368491638549381120 : UInt64)) (4845873199050653696 : UInt64))), .second, .val (.long (FP.d2l (FP.dmul (FP.dmul (FP.l2d (own_usrL (own_mix (q0 + (-7046029254386353131 : Int64))) (11 : Int32))) (4368491638549381120 : UInt64)) (4845873199050653696 : UInt64)))), .second, .val (.int (1 : Int32)), .unset] [(.ref b1)])) rfl (by rw [hml]; rfl) (Steps.refl _) (argsL := []) (rest := []) (lenOf pd_rm0_2 rfl) rfl (by show 2 * 0 + _ ≤ _; exact Nat.le_of_eq rfl) (hb hby at_92) (fun _ _ => ⟨rfl, rfl, (by decide : 2 + 0 ≤ _), (by decide : 2 + 0 ≤ _)⟩)
  dsimp only [Pt.U, Pt.locs, Pt.cells, Pt.slots] at X33 l33 y33 z33 st33 hQ33
  rw [l33, y33, z33] at X33
  obtain ⟨rfl, N33q, K33, qp33_0, qp33_1⟩ := hQ33
  have N33 := Fr.app N23 N33q
  have f34 := f24.keep K33
  have f35 := qp23_0.keep K33
  have f37 := qp23_1.keep K33 (ninS (Ne.symm ne_b1_b7) nin0)
  have Z33 : n0 ≤ T33.heap.size := Nat.le_trans Z23 K33.1
  have KK33 := KK23.trans K33 (allS (Or.inr sz_b1) all0)
  have go33 := go32.tr (C := T33.setTop (mkF m 95 #[.val (.long q0), .second, .val (.ref b1), .val (.ref b7), .val (.double (FP.dmul (FP.l2d (own_usrL (own_mix (q0 + (-7046029254386353131 : Int64))) (11 : Int32))) (4368491638549381120 : UInt64))), .second, .val (.long (own_usrL (own_mix (q0 + (-7046029254386353131 : Int64))) (11 : Int32))), .second, .val (.int (1 : Int32)), .val (.double (FP.dmul (FP.dmul (FP.l2d (own_usrL (own_mix (q0 + (-7046029254386353131 : Int64))) (11 : Int32))) (4368491638549381120 : UInt64)) (4845873199050653696 : UInt64))), .second, .val (.long (FP.d2l (FP.dmul (FP.dmul (FP.l2d (own_usrL (own_mix (q0 + (-7046029254386353131 : Int64))) (11 : Int32))) (4368491638549381120 : UInt64)) (4845873199050653696 : UInt64)))), .second, .val (.int (1 : Int32)), .unset] [(.long (own_mix ((q0 + (-7046029254386353131 : Int64)) + (-7046029254386353131 : Int64))))])) st33
  have go38 := go33.step (C := T33.setTop (mkF m 96 #[.val (.long q0), .second, .val (.ref b1), .val (.ref b7), .val (.double (FP.dmul (FP.l2d (own_usrL (own_mix (q0 + (-7046029254386353131 : Int64))) (11 : Int32))) (4368491638549381120 : UInt64))), .second, .val (.long (own_usrL (own_mix (q0 + (-7046029254386353131 : Int64))) (11 : Int32))), .second, .val (.int (1 : Int32)), .val (.double (FP.dmul (FP.dmul (FP.l2d (own_usrL (own_mix (q0 + (-7046029254386353131 : Int64))) (11 : Int32))) (4368491638549381120 : UInt64)) (4845873199050653696 : UInt64))), .second, .val (.long (FP.d2l (FP.dmul (FP.dmul (FP.l2d (own_usrL (own_mix (q0 + (-7046029254386353131 : Int64))) (11 : Int32))) (4368491638549381120 : UInt64)) (4845873199050653696 : UInt64)))), .second, .val (.int (1 : Int32)), .unset] [(.ref b7), (.long (own_mix ((q0 + (-7046029254386353131 : Int64)) + (-7046029254386353131 : Int64))))])) (fun t k => by
    show Steps p.tables e below (T33.setTop (mkF m 95 #[.val (.long q0), .second, .val (.ref b1), .val (.ref b7), .val (.double (FP.dmul (FP.l2d (own_usrL (own_mix (q0 + (-7046029254386353131 : Int64))) (11 : Int32))) (4368491638549381120 : UInt64))), .second, .val (.long (own_usrL (own_mix (q0 + (-7046029254386353131 : Int64))) (11 : Int32))), .second, .val (.int (1 : Int32)), .val (.double (FP.dmul (FP.dmul (FP.l2d (own_usrL (own_mix (q0 + (-7046029254386353131 : Int64))) (11 : Int32))) (4368491638549381120 : UInt64)) (4845873199050653696 : UInt64))), .second, .val (.long (FP.d2l (FP.dmul (FP.dmul (FP.l2d (own_usrL (own_mix (q0 + (-7046029254386353131 : Int64))) (11 : Int32))) (4368491638549381120 : UInt64)) (4845873199050653696 : UInt64)))), .second, .val (.int (1 : Int32)), .unset] [(.long (own_mix ((q0 + (-7046029254386353131 : Int64)) + (-7046029254386353131 : Int64))))])) _
    refine XS.aloadN X33.here hx rfl (hb hby at_95) rfl rfl ?_
    exact k)
  obtain ⟨cq39, kq39, q39a, q39b, q39c⟩ := isOf hZ rfl f35
  obtain ⟨_, _, ⟨T39, L39, k39, n39⟩, -, X39, ⟨Lc39, hQ39, l39, y39, z39⟩, st39⟩ := X33.virtualBack hx (y := (⟨"com/example/roundhaul/roundhaul/solver/SeededRandom", "nextLong", "()J"⟩ : MethodName)) (z := (⟨"com/example/roundhaul/roundhaul/solver/SeededRandom", "nextLong", "()J"⟩ : MethodName)) hown (mvT hZ (hw _ (List.mem_of_getElem? (i := 25) rfl))) (mvT hZ (hw _ (List.mem_of_getElem? (i := 17) rfl))) (notFace_of_selects (args := #[]) (mvT hZ (hw _ (List.mem_of_getElem? (i := 19) rfl)))) (mvT hZ (hw _ (List.mem_of_getElem? (i := 19) rfl))) (mvT hZ (hw _ (List.mem_of_getElem? (i := 18) rfl))) (by decide) (backOf (W := 2) (rm4 l Z a0 hw [] b7 (q0 + (-7046029254386353131 : Int64)) T33.heap n0 Z33 f35 f37 g_b7) hZ (hw _ (List.mem_of_getElem? (i := 20) rfl)) (hw _ (List.mem_of_getElem? (i := 2) rfl)) (by decide) (by decide)) q39a q39c (g := (mkF m 96 #[.val (.long q0), .second, .val (.ref b1), .val (.ref b7), .val (.double (FP.dmul (FP.l2d (own_usrL (own_mix (q0 + (-7046029254386353131 : Int64))) (11 : Int32))) (4368491638549381120 : UInt64))), .second, .val (.long (own_usrL (own_mix (q0 + (-7046029254386353131 : Int64))) (11 : Int32))), .second, .val (.int (1 : Int32)), .val (.double (FP.dmul (FP.dmul (FP.l2d (own_usrL (own_mix (q0 + (-7046029254386353131 : Int64))) (11 : Int32))) (4368491638549381120 : UInt64)) (4845873199050653696 : UInt64))), .second, .val (.long (FP.d2l (FP.dmul (FP.dmul (FP.l2d (own_usrL (own_mix (q0 + (-7046029254386353131 : Int64))) (11 : Int32))) (4368491638549381120 : UInt64)) (4845873199050653696 : UInt64)))), .second, .val (.int (1 : Int32)), .unset] [(.ref b7), (.long (own_mix ((q0 + (-7046029254386353131 : Int64)) + (-7046029254386353131 : Int64))))])) rfl (by rw [hml]; rfl) (Steps.refl _) (argsL := []) (rest := [(.long (own_mix ((q0 + (-7046029254386353131 : Int64)) + (-7046029254386353131 : Int64))))]) (lenOf pd_rm0_2 rfl) rfl (by show 2 * 0 + _ ≤ _; exact Nat.le_of_eq rfl) (hb hby at_96) (fun _ _ => ⟨rfl, rfl, (by decide : 2 + 0 ≤ _), (by decide : 2 + 0 ≤ _)⟩)
  dsimp only [Pt.U, Pt.locs, Pt.cells, Pt.slots] at X39 l39 y39 z39 st39 hQ39
  rw [l39, y39, z39] at X39
  obtain ⟨rfl, N39q, K39, qp39_0, qp39_1⟩ := hQ39
  have N39 := Fr.app N33 N39q
  have f40 := qp33_0.keep K39
  have f41 := f35.keep K39
  have f43 := qp33_1.keep K39 (ninS ne_b1_b7 nin0)
  have Z39 : n0 ≤ T39.heap.size := Nat.le_trans Z33 K39.1
  have KK39 := KK33.trans K39 (allS (Or.inr sz_b7) all0)
  have go39 := go38.tr (C := T39.setTop (mkF m 99 #[.val (.long q0), .second, .val (.ref b1), .val (.ref b7), .val (.double (FP.dmul (FP.l2d (own_usrL (own_mix (q0 + (-7046029254386353131 : Int64))) (11 : Int32))) (4368491638549381120 : UInt64))), .second, .val (.long (own_usrL (own_mix (q0 + (-7046029254386353131 : Int64))) (11 : Int32))), .second, .val (.int (1 : Int32)), .val (.double (FP.dmul (FP.dmul (FP.l2d (own_usrL (own_mix (q0 + (-7046029254386353131 : Int64))) (11 : Int32))) (4368491638549381120 : UInt64)) (4845873199050653696 : UInt64))), .second, .val (.long (FP.d2l (FP.dmul (FP.dmul (FP.l2d (own_usrL (own_mix (q0 + (-7046029254386353131 : Int64))) (11 : Int32))) (4368491638549381120 : UInt64)) (4845873199050653696 : UInt64)))), .second, .val (.int (1 : Int32)), .unset] [(.long (own_mix ((q0 + (-7046029254386353131 : Int64)) + (-7046029254386353131 : Int64)))), (.long (own_mix ((q0 + (-7046029254386353131 : Int64)) + (-7046029254386353131 : Int64))))])) st39
  have go48 := go39.step (C := T39.setTop (mkF m 130 #[.val (.long q0), .second, .val (.ref b1), .val (.ref b7), .val (.double (FP.dmul (FP.l2d (own_usrL (own_mix (q0 + (-7046029254386353131 : Int64))) (11 : Int32))) (4368491638549381120 : UInt64))), .second, .val (.long (own_usrL (own_mix (q0 + (-7046029254386353131 : Int64))) (11 : Int32))), .second, .val (.int (1 : Int32)), .val (.double (FP.dmul (FP.dmul (FP.l2d (own_usrL (own_mix (q0 + (-7046029254386353131 : Int64))) (11 : Int32))) (4368491638549381120 : UInt64)) (4845873199050653696 : UInt64))), .second, .val (.long (FP.d2l (FP.dmul (FP.dmul (FP.l2d (own_usrL (own_mix (q0 + (-7046029254386353131 : Int64))) (11 : Int32))) (4368491638549381120 : UInt64)) (4845873199050653696 : UInt64)))), .second, .val (.int (1 : Int32)), .val (.int (1 : Int32))] [(.int (1 : Int32))])) (fun t k => by
    show Steps p.tables e below (T39.setTop (mkF m 99 #[.val (.long q0), .second, .val (.ref b1), .val (.ref b7), .val (.double (FP.dmul (FP.l2d (own_usrL (own_mix (q0 + (-7046029254386353131 : Int64))) (11 : Int32))) (4368491638549381120 : UInt64))), .second, .val (.long (own_usrL (own_mix (q0 + (-7046029254386353131 : Int64))) (11 : Int32))), .second, .val (.int (1 : Int32)), .val (.double (FP.dmul (FP.dmul (FP.l2d (own_usrL (own_mix (q0 + (-7046029254386353131 : Int64))) (11 : Int32))) (4368491638549381120 : UInt64)) (4845873199050653696 : UInt64))), .second, .val (.long (FP.d2l (FP.dmul (FP.dmul (FP.l2d (own_usrL (own_mix (q0 + (-7046029254386353131 : Int64))) (11 : Int32))) (4368491638549381120 : UInt64)) (4845873199050653696 : UInt64)))), .second, .val (.int (1 : Int32)), .unset] [(.long (own_mix ((q0 + (-7046029254386353131 : Int64)) + (-7046029254386353131 : Int64)))), (.long (own_mix ((q0 + (-7046029254386353131 : Int64)) + (-7046029254386353131 : Int64))))])) _
    refine XS.lcmp X39.here hx rfl (hb hby at_99) rfl ?_
    show Steps p.tables e below (T39.setTop (mkF m 100 #[.val (.long q0), .second, .val (.ref b1), .val (.ref b7), .val (.double (FP.dmul (FP.l2d (own_usrL (own_mix (q0 + (-7046029254386353131 : Int64))) (11 : Int32))) (4368491638549381120 : UInt64))), .second, .val (.long (own_usrL (own_mix (q0 + (-7046029254386353131 : Int64))) (11 : Int32))), .second, .val (.int (1 : Int32)), .val (.double (FP.dmul (FP.dmul (FP.l2d (own_usrL (own_mix (q0 + (-7046029254386353131 : Int64))) (11 : Int32))) (4368491638549381120 : UInt64)) (4845873199050653696 : UInt64))), .second, .val (.long (FP.d2l (FP.dmul (FP.dmul (FP.l2d (own_usrL (own_mix (q0 + (-7046029254386353131 : Int64))) (11 : Int32))) (4368491638549381120 : UInt64)) (4845873199050653696 : UInt64)))), .second, .val (.int (1 : Int32)), .unset] [(.int (lcmpW (own_mix ((q0 + (-7046029254386353131 : Int64)) + (-7046029254386353131 : Int64))) (own_mix ((q0 + (-7046029254386353131 : Int64)) + (-7046029254386353131 : Int64)))))])) _
    refine XS.ifNo X39.here hx rfl (hb hby at_100) rfl ((if0 _ _).trans (teq ((lw_eq _ _).mpr (rfl : (own_mix ((q0 + (-7046029254386353131 : Int64)) + (-7046029254386353131 : Int64))) = (own_mix ((q0 + (-7046029254386353131 : Int64)) + (-7046029254386353131 : Int64)))))).2) ?_
    show Steps p.tables e below (T39.setTop (mkF m 103 #[.val (.long q0), .second, .val (.ref b1), .val (.ref b7), .val (.double (FP.dmul (FP.l2d (own_usrL (own_mix (q0 + (-7046029254386353131 : Int64))) (11 : Int32))) (4368491638549381120 : UInt64))), .second, .val (.long (own_usrL (own_mix (q0 + (-7046029254386353131 : Int64))) (11 : Int32))), .second, .val (.int (1 : Int32)), .val (.double (FP.dmul (FP.dmul (FP.l2d (own_usrL (own_mix (q0 + (-7046029254386353131 : Int64))) (11 : Int32))) (4368491638549381120 : UInt64)) (4845873199050653696 : UInt64))), .second, .val (.long (FP.d2l (FP.dmul (FP.dmul (FP.l2d (own_usrL (own_mix (q0 + (-7046029254386353131 : Int64))) (11 : Int32))) (4368491638549381120 : UInt64)) (4845873199050653696 : UInt64)))), .second, .val (.int (1 : Int32)), .unset] [])) _
    refine XS.iconst X39.here hx rfl (hb hby at_103) ?_
    show Steps p.tables e below (T39.setTop (mkF m 104 #[.val (.long q0), .second, .val (.ref b1), .val (.ref b7), .val (.double (FP.dmul (FP.l2d (own_usrL (own_mix (q0 + (-7046029254386353131 : Int64))) (11 : Int32))) (4368491638549381120 : UInt64))), .second, .val (.long (own_usrL (own_mix (q0 + (-7046029254386353131 : Int64))) (11 : Int32))), .second, .val (.int (1 : Int32)), .val (.double (FP.dmul (FP.dmul (FP.l2d (own_usrL (own_mix (q0 + (-7046029254386353131 : Int64))) (11 : Int32))) (4368491638549381120 : UInt64)) (4845873199050653696 : UInt64))), .second, .val (.long (FP.d2l (FP.dmul (FP.dmul (FP.l2d (own_usrL (own_mix (q0 + (-7046029254386353131 : Int64))) (11 : Int32))) (4368491638549381120 : UInt64)) (4845873199050653696 : UInt64)))), .second, .val (.int (1 : Int32)), .unset] [(.int (1 : Int32))])) _
    refine XS.goto X39.here hx rfl (pc0 := 104) (pc' := 108) rfl (hb hby at_104) (by decide) (by decide) ?_
    show Steps p.tables e below (T39.setTop (mkF m 108 #[.val (.long q0), .second, .val (.ref b1), .val (.ref b7), .val (.double (FP.dmul (FP.l2d (own_usrL (own_mix (q0 + (-7046029254386353131 : Int64))) (11 : Int32))) (4368491638549381120 : UInt64))), .second, .val (.long (own_usrL (own_mix (q0 + (-7046029254386353131 : Int64))) (11 : Int32))), .second, .val (.int (1 : Int32)), .val (.double (FP.dmul (FP.dmul (FP.l2d (own_usrL (own_mix (q0 + (-7046029254386353131 : Int64))) (11 : Int32))) (4368491638549381120 : UInt64)) (4845873199050653696 : UInt64))), .second, .val (.long (FP.d2l (FP.dmul (FP.dmul (FP.l2d (own_usrL (own_mix (q0 + (-7046029254386353131 : Int64))) (11 : Int32))) (4368491638549381120 : UInt64)) (4845873199050653696 : UInt64)))), .second, .val (.int (1 : Int32)), .unset] [(.int (1 : Int32))])) _
    refine XS.istore X39.here hx rfl (hb hby at_108) rfl (l' := #[.val (.long q0), .second, .val (.ref b1), .val (.ref b7), .val (.double (FP.dmul (FP.l2d (own_usrL (own_mix (q0 + (-7046029254386353131 : Int64))) (11 : Int32))) (4368491638549381120 : UInt64))), .second, .val (.long (own_usrL (own_mix (q0 + (-7046029254386353131 : Int64))) (11 : Int32))), .second, .val (.int (1 : Int32)), .val (.double (FP.dmul (FP.dmul (FP.l2d (own_usrL (own_mix (q0 + (-7046029254386353131 : Int64))) (11 : Int32))) (4368491638549381120 : UInt64)) (4845873199050653696 : UInt64))), .second, .val (.long (FP.d2l (FP.dmul (FP.dmul (FP.l2d (own_usrL (own_mix (q0 + (-7046029254386353131 : Int64))) (11 : Int32))) (4368491638549381120 : UInt64)) (4845873199050653696 : UInt64)))), .second, .val (.int (1 : Int32)), .val (.int (1 : Int32))]) rfl ?_
    show Steps p.tables e below (T39.setTop (mkF m 110 #[.val (.long q0), .second, .val (.ref b1), .val (.ref b7), .val (.double (FP.dmul (FP.l2d (own_usrL (own_mix (q0 + (-7046029254386353131 : Int64))) (11 : Int32))) (4368491638549381120 : UInt64))), .second, .val (.long (own_usrL (own_mix (q0 + (-7046029254386353131 : Int64))) (11 : Int32))), .second, .val (.int (1 : Int32)), .val (.double (FP.dmul (FP.dmul (FP.l2d (own_usrL (own_mix (q0 + (-7046029254386353131 : Int64))) (11 : Int32))) (4368491638549381120 : UInt64)) (4845873199050653696 : UInt64))), .second, .val (.long (FP.d2l (FP.dmul (FP.dmul (FP.l2d (own_usrL (own_mix (q0 + (-7046029254386353131 : Int64))) (11 : Int32))) (4368491638549381120 : UInt64)) (4845873199050653696 : UInt64)))), .second, .val (.int (1 : Int32)), .val (.int (1 : Int32))] [])) _
    refine XS.iload X39.here hx rfl (hb hby at_110) rfl ?_
    show Steps p.tables e below (T39.setTop (mkF m 112 #[.val (.long q0), .second, .val (.ref b1), .val (.ref b7), .val (.double (FP.dmul (FP.l2d (own_usrL (own_mix (q0 + (-7046029254386353131 : Int64))) (11 : Int32))) (4368491638549381120 : UInt64))), .second, .val (.long (own_usrL (own_mix (q0 + (-7046029254386353131 : Int64))) (11 : Int32))), .second, .val (.int (1 : Int32)), .val (.double (FP.dmul (FP.dmul (FP.l2d (own_usrL (own_mix (q0 + (-7046029254386353131 : Int64))) (11 : Int32))) (4368491638549381120 : UInt64)) (4845873199050653696 : UInt64))), .second, .val (.long (FP.d2l (FP.dmul (FP.dmul (FP.l2d (own_usrL (own_mix (q0 + (-7046029254386353131 : Int64))) (11 : Int32))) (4368491638549381120 : UInt64)) (4845873199050653696 : UInt64)))), .second, .val (.int (1 : Int32)), .val (.int (1 : Int32))] [(.int (1 : Int32))])) _
    refine XS.ifNo X39.here hx rfl (hb hby at_112) rfl ((if0 _ _).trans (feq ((by decide) : ¬ ((1 : Int32) = (0 : Int32)))).1) ?_
    show Steps p.tables e below (T39.setTop (mkF m 115 #[.val (.long q0), .second, .val (.ref b1), .val (.ref b7), .val (.double (FP.dmul (FP.l2d (own_usrL (own_mix (q0 + (-7046029254386353131 : Int64))) (11 : Int32))) (4368491638549381120 : UInt64))), .second, .val (.long (own_usrL (own_mix (q0 + (-7046029254386353131 : Int64))) (11 : Int32))), .second, .val (.int (1 : Int32)), .val (.double (FP.dmul (FP.dmul (FP.l2d (own_usrL (own_mix (q0 + (-7046029254386353131 : Int64))) (11 : Int32))) (4368491638549381120 : UInt64)) (4845873199050653696 : UInt64))), .second, .val (.long (FP.d2l (FP.dmul (FP.dmul (FP.l2d (own_usrL (own_mix (q0 + (-7046029254386353131 : Int64))) (11 : Int32))) (4368491638549381120 : UInt64)) (4845873199050653696 : UInt64)))), .second, .val (.int (1 : Int32)), .val (.int (1 : Int32))] [])) _
    refine XS.iload X39.here hx rfl (hb hby at_115) rfl ?_
    show Steps p.tables e below (T39.setTop (mkF m 117 #[.val (.long q0), .second, .val (.ref b1), .val (.ref b7), .val (.double (FP.dmul (FP.l2d (own_usrL (own_mix (q0 + (-7046029254386353131 : Int64))) (11 : Int32))) (4368491638549381120 : UInt64))), .second, .val (.long (own_usrL (own_mix (q0 + (-7046029254386353131 : Int64))) (11 : Int32))), .second, .val (.int (1 : Int32)), .val (.double (FP.dmul (FP.dmul (FP.l2d (own_usrL (own_mix (q0 + (-7046029254386353131 : Int64))) (11 : Int32))) (4368491638549381120 : UInt64)) (4845873199050653696 : UInt64))), .second, .val (.long (FP.d2l (FP.dmul (FP.dmul (FP.l2d (own_usrL (own_mix (q0 + (-7046029254386353131 : Int64))) (11 : Int32))) (4368491638549381120 : UInt64)) (4845873199050653696 : UInt64)))), .second, .val (.int (1 : Int32)), .val (.int (1 : Int32))] [(.int (1 : Int32))])) _
    refine XS.ifNo X39.here hx rfl (hb hby at_117) rfl ((if0 _ _).trans (feq ((by decide) : ¬ ((1 : Int32) = (0 : Int32)))).1) ?_
    show Steps p.tables e below (T39.setTop (mkF m 120 #[.val (.long q0), .second, .val (.ref b1), .val (.ref b7), .val (.double (FP.dmul (FP.l2d (own_usrL (own_mix (q0 + (-7046029254386353131 : Int64))) (11 : Int32))) (4368491638549381120 : UInt64))), .second, .val (.long (own_usrL (own_mix (q0 + (-7046029254386353131 : Int64))) (11 : Int32))), .second, .val (.int (1 : Int32)), .val (.double (FP.dmul (FP.dmul (FP.l2d (own_usrL (own_mix (q0 + (-7046029254386353131 : Int64))) (11 : Int32))) (4368491638549381120 : UInt64)) (4845873199050653696 : UInt64))), .second, .val (.long (FP.d2l (FP.dmul (FP.dmul (FP.l2d (own_usrL (own_mix (q0 + (-7046029254386353131 : Int64))) (11 : Int32))) (4368491638549381120 : UInt64)) (4845873199050653696 : UInt64)))), .second, .val (.int (1 : Int32)), .val (.int (1 : Int32))] [])) _
    refine XS.iload X39.here hx rfl (hb hby at_120) rfl ?_
    show Steps p.tables e below (T39.setTop (mkF m 122 #[.val (.long q0), .second, .val (.ref b1), .val (.ref b7), .val (.double (FP.dmul (FP.l2d (own_usrL (own_mix (q0 + (-7046029254386353131 : Int64))) (11 : Int32))) (4368491638549381120 : UInt64))), .second, .val (.long (own_usrL (own_mix (q0 + (-7046029254386353131 : Int64))) (11 : Int32))), .second, .val (.int (1 : Int32)), .val (.double (FP.dmul (FP.dmul (FP.l2d (own_usrL (own_mix (q0 + (-7046029254386353131 : Int64))) (11 : Int32))) (4368491638549381120 : UInt64)) (4845873199050653696 : UInt64))), .second, .val (.long (FP.d2l (FP.dmul (FP.dmul (FP.l2d (own_usrL (own_mix (q0 + (-7046029254386353131 : Int64))) (11 : Int32))) (4368491638549381120 : UInt64)) (4845873199050653696 : UInt64)))), .second, .val (.int (1 : Int32)), .val (.int (1 : Int32))] [(.int (1 : Int32))])) _
    refine XS.ifNo X39.here hx rfl (hb hby at_122) rfl ((if0 _ _).trans (feq ((by decide) : ¬ ((1 : Int32) = (0 : Int32)))).1) ?_
    show Steps p.tables e below (T39.setTop (mkF m 125 #[.val (.long q0), .second, .val (.ref b1), .val (.ref b7), .val (.double (FP.dmul (FP.l2d (own_usrL (own_mix (q0 + (-7046029254386353131 : Int64))) (11 : Int32))) (4368491638549381120 : UInt64))), .second, .val (.long (own_usrL (own_mix (q0 + (-7046029254386353131 : Int64))) (11 : Int32))), .second, .val (.int (1 : Int32)), .val (.double (FP.dmul (FP.dmul (FP.l2d (own_usrL (own_mix (q0 + (-7046029254386353131 : Int64))) (11 : Int32))) (4368491638549381120 : UInt64)) (4845873199050653696 : UInt64))), .second, .val (.long (FP.d2l (FP.dmul (FP.dmul (FP.l2d (own_usrL (own_mix (q0 + (-7046029254386353131 : Int64))) (11 : Int32))) (4368491638549381120 : UInt64)) (4845873199050653696 : UInt64)))), .second, .val (.int (1 : Int32)), .val (.int (1 : Int32))] [])) _
    refine XS.iconst X39.here hx rfl (hb hby at_125) ?_
    show Steps p.tables e below (T39.setTop (mkF m 126 #[.val (.long q0), .second, .val (.ref b1), .val (.ref b7), .val (.double (FP.dmul (FP.l2d (own_usrL (own_mix (q0 + (-7046029254386353131 : Int64))) (11 : Int32))) (4368491638549381120 : UInt64))), .second, .val (.long (own_usrL (own_mix (q0 + (-7046029254386353131 : Int64))) (11 : Int32))), .second, .val (.int (1 : Int32)), .val (.double (FP.dmul (FP.dmul (FP.l2d (own_usrL (own_mix (q0 + (-7046029254386353131 : Int64))) (11 : Int32))) (4368491638549381120 : UInt64)) (4845873199050653696 : UInt64))), .second, .val (.long (FP.d2l (FP.dmul (FP.dmul (FP.l2d (own_usrL (own_mix (q0 + (-7046029254386353131 : Int64))) (11 : Int32))) (4368491638549381120 : UInt64)) (4845873199050653696 : UInt64)))), .second, .val (.int (1 : Int32)), .val (.int (1 : Int32))] [(.int (1 : Int32))])) _
    refine XS.goto X39.here hx rfl (pc0 := 126) (pc' := 130) rfl (hb hby at_126) (by decide) (by decide) ?_
    exact k)
  obtain ⟨fs, hr, hrun, hended, hW, hsame⟩ := X39.leave (v := some (.int (1 : Int32))) (fun h => by rw [Bd.returns] at h; cases h)
  refine ⟨_, _, go48 _ ?_, hrun, hended, _, _, rfl, ?_, ⟨_, rfl⟩, hW, hsame.mono (by decide) (by decide)⟩
  · exact retN X39 hx (t := .boolean) Bd.returns (by simp) (hb hby at_130) hr
  · show Q_rm0 Z q0 h0 n0 _ T39.heap _
    exact ⟨rfl, N39⟩
set_option maxRecDepth 65536 in
set_option maxHeartbeats 40000000 in
theorem comes_1 {Post : Tables → Env → Array Value → State → Outcome → State → Prop} (hpost : ∀ tb e args s v u, (limb_1_1.after args s (.returned v) u = true ∧ limb_1_2.after args s (.returned v) u = true ∧ True) → FrameEnd s (.returned v) u (Jvm.fieldLocs frame_1_writes args s ++ Jvm.arrayLocs frame_1_arrays args s ++ Jvm.staticLocs frame_1_statics s) 16 128 → Post tb e args s (.returned v) u) :
    ArmFor flags0 classFile x code maxLocals ret World_1 tables_1 room_1 Calls_1 rest_1 Pre_1 Post := by
  intro l hfl _ _ p e ha hc hk s m args below hf hA hF happ hP
  obtain ⟨hcalls, hrest, hpre⟩ := hP
  obtain ⟨-, -, -, hnamed, -, -, -, hat⟩ := (Spec.applies_iff hf).mp happ
  obtain ⟨hg, hn⟩ := and_e (Cond.before_iff.mp (show (Jvm.Cond.and given_1 narrow_1).before args s = true from hpre))
  obtain ⟨gg0, gr0⟩ := and_e hg
  obtain ⟨w0, rfl⟩ : ∃ w0 : Value, args = #[w0] := by
    have hs : args.size = 1 := by simpa [Cond.value, given_1] using gg0
    obtain ⟨L⟩ := args
    match L, hs with
    | [w0], _ => exact ⟨w0, rfl⟩
  have hw := fun d (hd : d ∈ tables_1) => atoms_spec (ws := Jvm.Cond.code x code maxLocals ret :: tables_1) hat d (List.mem_cons_of_mem _ hd)
  have hfit : Fit s := fun {y c} hc i hi => by
    obtain ⟨ha, rfl⟩ := Array.getElem?_eq_some_iff.mp hc
    have q := List.all_eq_true.mp ((Array.all_eq_true_iff_forall_mem.mp hF) _ (Array.getElem_mem ha)) i (List.mem_range.mpr hi)
    simpa [Array.getElem?_eq_getElem hi] using q
  obtain ⟨i0, ei0⟩ := isL_v gr0
  obtain rfl : w0 = (.long i0) := Option.some.inj ei0
  obtain ⟨n, o, h1, h2, h3, _, L, rfl, ⟨rfl, N⟩, hq⟩ := rm0 l s _ hw tables_1 i0  s.heap s.heap.size (Nat.le_refl _)  p e ha hc hk s m _ below hf ((Spec.applies_iff_loose hf).mp happ).1 ⟨rfl, State.Warmed39.refl s, rfl⟩ trivial
  refine ⟨n, _, h1, h2, h3, hpost _ _ _ _ _ _ ⟨Cond.after_iff.mpr rfl, Cond.after_iff.mpr (eq_i res_at (Term.int_eval (1)) rfl), trivial⟩ ⟨hq.1, hq.2.1, (hq.2.2.sift fun y hy => Or.inr (N y hy)).mono (by decide) (by decide)⟩⟩
theorem main_1_1 : Claimed_1_1 := comes_1 fun _ _ _ _ _ _ h hF => ⟨h.1, hF⟩
theorem main_1_2 : Claimed_1_2 := comes_1 fun _ _ _ _ _ _ h hF => ⟨h.2.1, hF⟩
end Jvm.Pilot.@@N@@
namespace Jvm.Pilot.@@N@@
open Jvm Jvm.ClassFile Sem Op Lib Jvm.Free Jvm.Stand Jvm.Pilot.@@N@@.Jvm.D
/-! MADE BY PROGRAM (witnessworld.py) out of the Statement's table words and the real class files: 9 classes; the members and pool entries that the words name. The judged class is class 1, her method 1. -/
namespace start1
open Jvm.ClassFile
def u (s : String) : CpInfo := .utf8 (stringToUtf16 s)
/-- a pool by its gaps: so many unusable entries, then the entry; so many at the end -/
def gap : Nat → List CpInfo → List CpInfo
  | 0, r => r
  | n + 1, r => .unusable :: gap n r
def poolList (es : List (Nat × CpInfo)) (last : Nat) : List CpInfo := es.foldr (fun e r => gap e.1 (e.2 :: r)) (gap last [])
def pool (es : List (Nat × CpInfo)) (last : Nat) : Array CpInfo := ⟨poolList es last⟩
def fileOf (pool : Array CpInfo) (this : Nat) (attrs : Array Attribute := #[]) (ms : Array MethodInfo := #[]) (fl : Nat := 33) (sup : Nat := 0) (ifs : Array Nat := #[]) (fds : Array FieldInfo := #[]) : ClassFile where
  minorVersion := 0
  majorVersion := 65
  constantPool := pool
  accessFlags := fl
  thisClass := this
  superClass := sup
  interfaces := ifs
  fields := fds
  methods := ms
  attributes := attrs
def plain (name : String) (sup : Option ClassId) : Class where
  name := name
  kind := .ordinary
  loader := none
  accessFlags := 33
  super := sup
  interfaces := #[]
  cf := none
  fields := #[]
  methods := #[]
  instanceTypes := #[]
  staticTypes := #[]
  resolved := #[]
  callSites := []
  init := .initialized
  statics := none
  mirror := none

def pool0 : Array CpInfo := pool [(5, u "<init>"), (0, u "()V"), (1, .class_ 10), (1, u "java/lang/Object")] 113

def k0c0 : Code := { maxStack := 0, maxLocals := 1, code := object_method_1_code, exceptionTable := #[], attributes := #[] }
def k0m0 : Method := { name := "<init>", desc := "()V", sig := { parameters := [], returnType := none }, accessFlags := 1, code := some k0c0 }
/-- java/lang/Object -/
def k0 : Class := { plain "java/lang/Object" none with
  accessFlags := 33
  interfaces := #[]
  cf := some (fileOf pool0 8 #[] #[{ accessFlags := 1, nameIndex := 5, descriptorIndex := 6, attributes := #[] }] 33 0 #[] #[])
  fields := #[]
  methods := #[k0m0]
  instanceTypes := #[]
  staticTypes := #[]
  resolved := Array.replicate 124 none
  statics := none }

def pool1 : Array CpInfo := pool [(2, .class_ 4), (1, u "java/lang/Object"), (0, u "<init>"), (0, u "()V"), (0, .class_ 8), (0, u "com/example/roundhaul/roundhaul/solver/SeededRandom"), (0, .methodref 7 10), (0, .nameAndType 5 11), (0, u "(J)V"), (0, .methodref 7 13), (0, .nameAndType 14 15), (0, u "nextDouble"), (0, u "()D"), (0, .methodref 7 17), (0, .nameAndType 18 19), (0, u "nextLong"), (0, u "()J"), (0, .double 4845873199050653696), (1, .class_ 23), (0, u "com/example/roundhaul/roundhaul/solver/SeededRandomNextDoublePinLaw"), (2, u "law"), (0, u "(J)Z")] 3

def k1m0 : Method := { name := "<init>", desc := "()V", sig := { parameters := [], returnType := none }, accessFlags := 1, code := none }
def k1c1 : Code := { maxStack := 4, maxLocals := 15, code := code, exceptionTable := #[], attributes := #[] }
def k1m1 : Method := { name := "law", desc := "(J)Z", sig := { parameters := [.long], returnType := some .boolean }, accessFlags := 9, code := some k1c1 }
/-- com/example/roundhaul/roundhaul/solver/SeededRandomNextDoublePinLaw -/
def k1 : Class := { plain "com/example/roundhaul/roundhaul/solver/SeededRandomNextDoublePinLaw" (some 0) with
  accessFlags := 49
  interfaces := #[]
  cf := some (fileOf pool1 22 #[] #[{ accessFlags := 1, nameIndex := 5, descriptorIndex := 6, attributes := #[] }, { accessFlags := 9, nameIndex := 26, descriptorIndex := 27, attributes := #[] }] 49 2 #[] #[])
  fields := #[]
  methods := #[k1m0, k1m1]
  instanceTypes := #[]
  staticTypes := #[]
  resolved := Array.replicate 31 none
  statics := none }

def pool2 : Array CpInfo := pool [(1, .methodref 2 3), (0, .class_ 4), (0, .nameAndType 5 6), (0, u "java/lang/Object"), (0, u "<init>"), (0, u "()V"), (0, .fieldref 8 9), (0, .class_ 10), (0, .nameAndType 11 12), (0, u "com/example/roundhaul/roundhaul/solver/SeededRandom"), (0, u "state"), (0, u "J"), (0, .long 11400714819323198485), (1, .long 13787848793156543929), (1, .long 10723151780598845931), (10, .methodref 8 29), (0, .nameAndType 30 31), (0, u "nextLong"), (0, u "()J"), (4, .double 4368491638549381120), (1, u "GAMMA"), (1, u "LOW_32_BITS"), (0, u "TWO_TO_32"), (0, u "(J)V"), (5, u "nextDouble"), (0, u "()D")] 17

def k2c0 : Code := { maxStack := 3, maxLocals := 3, code := prog_27_method_1_code, exceptionTable := #[], attributes := #[] }
def k2m0 : Method := { name := "<init>", desc := "(J)V", sig := { parameters := [.long], returnType := none }, accessFlags := 1, code := some k2c0 }
def k2c1 : Code := { maxStack := 5, maxLocals := 3, code := prog_27_method_2_code, exceptionTable := #[], attributes := #[] }
def k2m1 : Method := { name := "nextLong", desc := "()J", sig := { parameters := [], returnType := some .long }, accessFlags := 1, code := some k2c1 }
def k2c2 : Code := { maxStack := 4, maxLocals := 1, code := prog_27_method_4_code, exceptionTable := #[], attributes := #[] }
def k2m2 : Method := { name := "nextDouble", desc := "()D", sig := { parameters := [], returnType := some .double }, accessFlags := 1, code := some k2c2 }
/-- com/example/roundhaul/roundhaul/solver/SeededRandom -/
def k2 : Class := { plain "com/example/roundhaul/roundhaul/solver/SeededRandom" (some 0) with
  accessFlags := 49
  interfaces := #[]
  cf := some (fileOf pool2 8 #[] #[{ accessFlags := 1, nameIndex := 5, descriptorIndex := 42, attributes := #[] }, { accessFlags := 1, nameIndex := 30, descriptorIndex := 31, attributes := #[] }, { accessFlags := 1, nameIndex := 48, descriptorIndex := 49, attributes := #[] }] 49 2 #[] #[{ accessFlags := 26, nameIndex := 38, descriptorIndex := 12, attributes := #[] }, { accessFlags := 26, nameIndex := 40, descriptorIndex := 12, attributes := #[] }, { accessFlags := 26, nameIndex := 41, descriptorIndex := 12, attributes := #[] }, { accessFlags := 2, nameIndex := 11, descriptorIndex := 12, attributes := #[] }])
  fields := #[{ name := "GAMMA", type := .long, accessFlags := 26, slot := 0, constantValue := 0 }, { name := "LOW_32_BITS", type := .long, accessFlags := 26, slot := 1, constantValue := 0 }, { name := "TWO_TO_32", type := .long, accessFlags := 26, slot := 2, constantValue := 0 }, { name := "state", type := .long, accessFlags := 2, slot := 0, constantValue := 0 }]
  methods := #[k2m0, k2m1, k2m2]
  instanceTypes := #[.long]
  staticTypes := #[.long, .long, .long]
  resolved := Array.replicate 67 none
  statics := none }

def pool3 : Array CpInfo := pool [(1, u "java/lang/Cloneable"), (0, .class_ 1), (0, u "java/lang/Object"), (0, .class_ 3)] 3

/-- java/lang/Cloneable -/
def k3 : Class := { plain "java/lang/Cloneable" (some 0) with
  accessFlags := 1537
  interfaces := #[]
  cf := some (fileOf pool3 2 #[] #[] 1537 4 #[] #[])
  fields := #[]
  methods := #[]
  instanceTypes := #[]
  staticTypes := #[]
  resolved := Array.replicate 8 none
  statics := none }

def pool4 : Array CpInfo := pool [(1, u "java/io/Serializable"), (0, .class_ 1), (0, u "java/lang/Object"), (0, .class_ 3)] 3

/-- java/io/Serializable -/
def k4 : Class := { plain "java/io/Serializable" (some 0) with
  accessFlags := 1537
  interfaces := #[]
  cf := some (fileOf pool4 2 #[] #[] 1537 4 #[] #[])
  fields := #[]
  methods := #[]
  instanceTypes := #[]
  staticTypes := #[]
  resolved := Array.replicate 8 none
  statics := none }

/-- the primitive byte -/
def k5 : Class := { plain "byte" none with kind := .primitive 'B', accessFlags := 0x411 }
/-- [B -/
def k6 : Class := { plain "[B" (some 0) with kind := .array 5 .byte, interfaces := #[3, 4], accessFlags := 1041 }

/-- the primitive int -/
def k7 : Class := { plain "int" none with kind := .primitive 'I', accessFlags := 0x411 }
/-- [I -/
def k8 : Class := { plain "[I" (some 0) with kind := .array 7 .int, interfaces := #[3, 4], accessFlags := 1041 }

def heap : Heap := #[]
def classes : Array Class := #[k0, k1, k2, k3, k4, k5, k6, k7, k8]
def interned : List (Array UInt16 × Addr) := []
def slotsUsed : Nat := 0
def theMethod : MethodId := ⟨1, 1⟩
def args0 : Array Value := #[.long 5]
def aboutOver (below : List Frame) : State where
  vm := { classes := classes, interned := interned.toArray }
  heap := heap
  slotsUsed := slotsUsed
  threads := #[{ frames := .invoking theMethod args0 :: below }]
def below0 : List Frame := [.native { method := ⟨0, 0⟩, args := #[] }]
def about1 : State := aboutOver below0
def p0 : Program := .bare "" "" ""
def e0 : Env := launch0.env 0 0 0
theorem w_frames : about1.frames = Frame.invoking theMethod args0 :: below0 := rfl
set_option maxRecDepth 65536 in
theorem w_args : argsFit about1.vm theMethod args0 = true := by decide +kernel
set_option maxRecDepth 65536 in
theorem w_heap : heapFits about1 = true := by decide +kernel
set_option maxRecDepth 65536 in
theorem w_runnable : about1.curStatus? = some .runnable := by decide +kernel
set_option maxRecDepth 65536 in
theorem w_alone : about1.alone = true := by decide +kernel
set_option maxRecDepth 65536 in
theorem w_named : about1.methodNamed? x = some theMethod := by decide +kernel
set_option maxRecDepth 65536 in
theorem w_hears : about1.hears theMethod below0 = true := by decide +kernel
set_option maxRecDepth 65536 in
theorem w_ripe : about1.ripe theMethod args0 below0 = true := by decide +kernel
theorem w_running : about1.status = .running := rfl
set_option maxRecDepth 65536 in
theorem w_room : about1.hasRoom e0.platform room_1 = true :=
  launch0.hasRoom_least _ room_1 (by decide +kernel) (by decide +kernel) (by decide +kernel) (by decide +kernel) (by decide +kernel) (by decide +kernel)
theorem allAtoms_all (ts : List Jvm.Cond) (a : Array Jvm.Value) (st : Jvm.State) : (allAtoms ts).before a st = ts.all (fun c => c.before a st) := by
  induction ts with
  | nil => rfl
  | cons c t ih =>
    show (Jvm.Cond.and c (allAtoms t)).before a st = _
    rw [Jvm.Cond.before_and, ih, List.all_cons]
def words1 : List Jvm.Cond := Jvm.Cond.code x code maxLocals ret :: tables_1
/-- a 'code' word, met by the world's own term for the bytes: nothing is compared byte by byte -/
theorem code_word {y : MethodName} {bytes : ByteArray} {mx : Nat} {rt : Option FieldType} {a : Array Value} {s : State} {m : MethodId} {meth : Method} {c : Code} (h1 : s.methodNamed? y = some m) (h2 : s.vm.method? m = some meth) (h3 : meth.code = some c) (h4 : c.code = bytes)
    (h5 : (c.maxLocals == mx && c.exceptionTable.isEmpty && decide (c.maxStack ≤ mostOperands) && decide (meth.sig.returnType = rt) && !meth.locks && decide (parseMethodDescriptor y.desc = some meth.sig)) = true) : (Jvm.Cond.code y bytes mx rt).before a s = true := by
  simp only [Bool.and_eq_true, beq_iff_eq, Bool.not_eq_true', decide_eq_true_eq] at h5
  obtain ⟨⟨⟨⟨⟨g1, g2⟩, g3⟩, g4⟩, g5⟩, g6⟩ := h5
  simp [Cond.before, Cond.holds, Cond.value, h1, h2, h3, h4, g1, g2, g3, g4, g5, g6]
def isCode : Jvm.Cond → Bool
  | .code _ _ _ _ => true
  | _ => false
theorem all_split {L : List Jvm.Cond} {P : Jvm.Cond → Bool} (h1 : L.all (fun c => isCode c || P c) = true) (h2 : ∀ c ∈ L.filter isCode, P c = true) : L.all P = true := by
  refine List.all_eq_true.mpr fun c hc => ?_
  have h := List.all_eq_true.mp h1 c hc
  rcases Bool.eq_false_or_eq_true (isCode c) with hi | hi
  · exact h2 c (List.mem_filter.mpr ⟨hc, hi⟩)
  · simpa [hi] using h
set_option maxRecDepth 65536 in
theorem w_c0 : (Jvm.Cond.code x code maxLocals ret).before args0 about1 = true := code_word (m := ⟨1, 1⟩) (meth := k1m1) (c := k1c1) (by decide +kernel) rfl rfl rfl (by decide +kernel)
set_option maxRecDepth 65536 in
theorem w_c1 : (Jvm.Cond.code ({ cls := "com/example/roundhaul/roundhaul/solver/SeededRandom", name := "<init>", desc := "(J)V" } : Jvm.MethodName) prog_27_method_1_code (3 : Nat) (Option.none : Option Jvm.ClassFile.FieldType)).before args0 about1 = true := code_word (m := ⟨2, 0⟩) (meth := k2m0) (c := k2c0) (by decide +kernel) rfl rfl rfl (by decide +kernel)
set_option maxRecDepth 65536 in
theorem w_c2 : (Jvm.Cond.code ({ cls := "java/lang/Object", name := "<init>", desc := "()V" } : Jvm.MethodName) object_method_1_code (1 : Nat) (Option.none : Option Jvm.ClassFile.FieldType)).before args0 about1 = true := code_word (m := ⟨0, 0⟩) (meth := k0m0) (c := k0c0) (by decide +kernel) rfl rfl rfl (by decide +kernel)
set_option maxRecDepth 65536 in
theorem w_c3 : (Jvm.Cond.code ({ cls := "com/example/roundhaul/roundhaul/solver/SeededRandom", name := "nextDouble", desc := "()D" } : Jvm.MethodName) prog_27_method_4_code (1 : Nat) (Option.some Jvm.ClassFile.FieldType.double)).before args0 about1 = true := code_word (m := ⟨2, 2⟩) (meth := k2m2) (c := k2c2) (by decide +kernel) rfl rfl rfl (by decide +kernel)
set_option maxRecDepth 65536 in
theorem w_c4 : (Jvm.Cond.code ({ cls := "com/example/roundhaul/roundhaul/solver/SeededRandom", name := "nextLong", desc := "()J" } : Jvm.MethodName) prog_27_method_2_code (3 : Nat) (Option.some Jvm.ClassFile.FieldType.long)).before args0 about1 = true := code_word (m := ⟨2, 1⟩) (meth := k2m1) (c := k2c1) (by decide +kernel) rfl rfl rfl (by decide +kernel)
def codes1 : List Jvm.Cond := [Jvm.Cond.code x code maxLocals ret, Jvm.Cond.code ({ cls := "com/example/roundhaul/roundhaul/solver/SeededRandom", name := "<init>", desc := "(J)V" } : Jvm.MethodName) prog_27_method_1_code (3 : Nat) (Option.none : Option Jvm.ClassFile.FieldType), Jvm.Cond.code ({ cls := "java/lang/Object", name := "<init>", desc := "()V" } : Jvm.MethodName) object_method_1_code (1 : Nat) (Option.none : Option Jvm.ClassFile.FieldType), Jvm.Cond.code ({ cls := "com/example/roundhaul/roundhaul/solver/SeededRandom", name := "nextDouble", desc := "()D" } : Jvm.MethodName) prog_27_method_4_code (1 : Nat) (Option.some Jvm.ClassFile.FieldType.double), Jvm.Cond.code ({ cls := "com/example/roundhaul/roundhaul/solver/SeededRandom", name := "nextLong", desc := "()J" } : Jvm.MethodName) prog_27_method_2_code (3 : Nat) (Option.some Jvm.ClassFile.FieldType.long)]
set_option maxRecDepth 65536 in
theorem codes_eq : words1.filter isCode = codes1 := rfl
theorem w_codes : ∀ c ∈ words1.filter isCode, c.before args0 about1 = true := by
  rw [codes_eq]
  intro c hc
  simp only [codes1, List.mem_cons, List.not_mem_nil, or_false] at hc
  rcases hc with rfl | rfl | rfl | rfl | rfl
  · exact w_c0
  · exact w_c1
  · exact w_c2
  · exact w_c3
  · exact w_c4
set_option maxRecDepth 65536 in
theorem w_t1 : (words1.take 24).all (fun c => isCode c || c.before args0 about1) = true := by decide +kernel
set_option maxRecDepth 65536 in
theorem w_t2 : (words1.drop 24).all (fun c => isCode c || c.before args0 about1) = true := by decide +kernel
theorem w_tables : (allAtoms (Jvm.Cond.code x code maxLocals ret :: tables_1)).before args0 about1 = true := by
  rw [allAtoms_all]
  show words1.all (fun c => c.before args0 about1) = true
  refine all_split ?_ w_codes
  rw [← List.take_append_drop 24 words1, List.all_append, w_t1, w_t2]
  rfl
set_option maxRecDepth 65536 in
theorem w_case : (Jvm.Cond.and given_1 narrow_1).before args0 about1 = true := by decide +kernel
theorem w_applies : (headSpec (Jvm.Cond.code x code maxLocals ret :: tables_1) room_1).applies x e0.platform about1 = true :=
  (Spec.applies_iff w_frames).mpr ⟨w_running, w_runnable, w_alone, w_named, w_hears, w_ripe, w_room, w_tables⟩
theorem atStart : AtStart classFile x code maxLocals ret World_1 tables_1 room_1 Calls_1 rest_1 Pre_1 launch0 p0 e0 about1 theMethod args0 below0 :=
  ⟨lists_1, trivial, launch0.admits_env _ _ _, launch0.least_env, fairChoices_fair.cas, fairChoices_fair.clock, w_frames, w_args, w_heap, w_applies, trivial, trivial, w_case⟩
end start1
theorem witness_1 : WitnessClaimed_1 := ⟨start1.p0, start1.e0, start1.about1, start1.theMethod, start1.args0, start1.below0, start1.atStart⟩
end Jvm.Pilot.@@N@@
