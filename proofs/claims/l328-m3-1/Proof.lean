import JvmDerived
import JvmDerived.Pilot.@@N@@Statement
import JvmDerived.Pilot.@@N@@Code
set_option linter.unusedVariables false
set_option linter.unusedSimpArgs false
namespace Jvm.Pilot.@@N@@
open Jvm Jvm.ClassFile Sem Op Lib Jvm.Free Jvm.Stand Jvm.LawKit Jvm.RoadKit Bundle Jvm.Pilot.@@N@@.Jvm.D
def own_usr (x y : Int32) : Int32 := (x.toUInt32 >>> (y &&& 31).toUInt32).toInt32
def own_usrL (x : Int64) (y : Int32) : Int64 := (x.toUInt64 >>> (y &&& 0x3f).toInt64.toUInt64).toInt64
/-- where the run came from, where it stands -/
def Go (p : Program) (e : Env) (below : List Frame) (A B : State) : Prop := ∀ t, Steps p.tables e below B t → Steps p.tables e below A t
theorem Go.step {p : Program} {e : Env} {below : List Frame} {A B C : State} (g : Go p e below A B) (h : ∀ t, Steps p.tables e below C t → Steps p.tables e below B t) : Go p e below A C := fun t k => g t (h t k)
theorem Go.tr {p : Program} {e : Env} {below : List Frame} {A B C : State} (g : Go p e below A B) (h : Steps p.tables e below B C) : Go p e below A C := fun t k => g t (h.trans k)
section Rets
variable {p : Program} {l : Launch} {e : Env} {R : Room} {s : State} {m : MethodId} {args : Array Value} {below : List Frame} {meth : Method} {c : Code} {T : State} {locs : List Loc} {cells slots : Nat}
theorem own_retI (X : Stand p l e R s m args below meth c T locs cells slots) (hx : p.tables.exec = Jvm.exec) {pc : Nat} {Ls : Array Slot} {z : Int32} {rest : List Value} (hret : meth.sig.returnType = some .int) (hd : decode c.code pc = .ok (.ireturn, 1)) {fs : List Frame}
    (hl : ∀ (f : JFrame) (acts : List Action), f.method = m → f.locked = none → f.entered = [] → (doReturn e (T.setTop f) acts (some (.int z))).1 = T.setFrames fs) : Steps p.tables e below (T.setTop (mkF m pc Ls (.int z :: rest))) (T.setFrames fs) :=
  retOut X hx (t := .int) hret rfl (Or.inl ⟨rfl, Or.inl rfl, z, rfl⟩) hd hl
theorem own_retL (X : Stand p l e R s m args below meth c T locs cells slots) (hx : p.tables.exec = Jvm.exec) {pc : Nat} {Ls : Array Slot} {z : Int64} {rest : List Value} (hret : meth.sig.returnType = some .long) (hd : decode c.code pc = .ok (.lreturn, 1)) {fs : List Frame}
    (hl : ∀ (f : JFrame) (acts : List Action), f.method = m → f.locked = none → f.entered = [] → (doReturn e (T.setTop f) acts (some (.long z))).1 = T.setFrames fs) : Steps p.tables e below (T.setTop (mkF m pc Ls (.long z :: rest))) (T.setFrames fs) :=
  retOut X hx (t := .long) hret rfl (Or.inr (Or.inl ⟨rfl, rfl, z, rfl⟩)) hd hl
theorem own_retA (X : Stand p l e R s m args below meth c T locs cells slots) (hx : p.tables.exec = Jvm.exec) {t : FieldType} {pc : Nat} {Ls : Array Slot} {z : Addr} {rest : List Value} (hret : meth.sig.returnType = some t) (ht : t.isReference = true) (hn : narrow t (.ref z) = .ref z) (hd : decode c.code pc = .ok (.areturn, 1)) {fs : List Frame}
    (hl : ∀ (f : JFrame) (acts : List Action), f.method = m → f.locked = none → f.entered = [] → (doReturn e (T.setTop f) acts (some (.ref z))).1 = T.setFrames fs) : Steps p.tables e below (T.setTop (mkF m pc Ls (.ref z :: rest))) (T.setFrames fs) :=
  retOut X hx hret hn (Or.inr (Or.inr (Or.inr (Or.inr ⟨rfl, ht, rfl⟩)))) hd hl
end Rets
open Jvm.FP in
theorem own_i2d (X : Int32) : ∃ c q, Core.val64 (FP.i2d X) = .fin (decide (X.toInt < 0)) c q ∧ Core.inUnits c q Core.b64.qmin = Core.inUnits X.toInt.natAbs 0 Core.b64.qmin := by
  have r := rng32 X
  have e : Core.val64 (FP.i2d X) = Core.round Core.b64 (Core.ofInt X.toInt) := Core.val64_i2d X
  rw [e]
  exact Core.round_exact Core.good_b64 _ (Nat.lt_of_le_of_lt (m := 2147483648) (by omega) (by decide)) (by decide) (by decide)
theorem own_cancel {c X : Nat} {q : Int} (hq : -1074 ≤ q) (h : c * 2 ^ (q - (-1074)).toNat = X * 2 ^ ((0 : Int) - (-1074)).toNat) : c * 2 ^ (q + 52).toNat = X * 2 ^ 52 * 2 ^ (-(q + 52)).toNat := by
  have e0 : ((0 : Int) - (-1074)).toNat = 52 + 1022 := by decide
  rw [e0, Nat.pow_add, ← Nat.mul_assoc] at h
  by_cases hc : 0 ≤ q + 52
  · have e1 : (q - (-1074)).toNat = (q + 52).toNat + 1022 := by omega
    have e2 : (-(q + 52)).toNat = 0 := by omega
    rw [e1, Nat.pow_add, ← Nat.mul_assoc] at h
    rw [e2, Nat.pow_zero, Nat.mul_one]
    exact Nat.eq_of_mul_eq_mul_right (Nat.two_pow_pos 1022) h
  · obtain ⟨j, hj⟩ : ∃ j : Nat, (-(q + 52)).toNat = j := ⟨_, rfl⟩
    have e1 : (q - (-1074)).toNat = 1022 - j := by omega
    have e2 : (q + 52).toNat = 0 := by omega
    have hj2 : j ≤ 1022 := by omega
    rw [e1] at h
    rw [hj, e2, Nat.pow_zero, Nat.mul_one]
    have e3 : (2 : Nat) ^ 1022 = 2 ^ j * 2 ^ (1022 - j) := by rw [← Nat.pow_add]; congr 1; omega
    rw [e3, ← Nat.mul_assoc] at h
    exact Nat.eq_of_mul_eq_mul_right (Nat.two_pow_pos _) h
open Jvm.FP in
theorem own_div (X : Int32) {S : Int64} {k : Nat} (hk : k ≤ 15) (hS : Core.val64 (FP.l2d S) = .fin false (2 ^ 52) ((k : Int) - 52)) :
    ∃ c q, Core.val64 (FP.ddiv (FP.i2d X) (FP.l2d S)) = .fin (decide (X.toInt < 0)) c q ∧ Core.inUnits c q Core.b64.qmin = Core.inUnits X.toInt.natAbs (-(k : Int)) Core.b64.qmin := by
  have r := rng32 X
  obtain ⟨c, q, h1, h2⟩ := own_i2d X
  have hf := Core.val64_fits (FP.i2d X)
  rw [h1] at hf
  have hq : -1074 ≤ q := hf.2.1
  have e : Core.val64 (FP.ddiv (FP.i2d X) (FP.l2d S)) = Core.quotient Core.b64 (Core.val64 (FP.i2d X)) (Core.val64 (FP.l2d S)) := Core.val64_ddiv _ _
  rw [e, h1, hS]
  have e2 : Core.quotient Core.b64 (.fin (decide (X.toInt < 0)) c q) (.fin false (2 ^ 52) ((k : Int) - 52)) = Core.roundRatio Core.b64 (decide (X.toInt < 0)) c (2 ^ 52) (q - ((k : Int) - 52)) := by
    simp only [Core.quotient]
    rw [if_neg (by decide), Bool.bne_false]
  rw [e2, Core.roundRatio_congr (A' := X.toInt.natAbs) (B' := 1) (e' := -(k : Int)) (by decide) (by decide) ?_]
  · exact Core.round_exact (q := -(k : Int)) Core.good_b64 _ (Nat.lt_of_le_of_lt (m := 2147483648) (by omega) (by decide)) (by show (-1074 : Int) ≤ _; omega) (by show _ ≤ (971 : Int); omega)
  · have h3 := own_cancel (X := X.toInt.natAbs) hq h2
    have e4 : q - ((k : Int) - 52) - -(k : Int) = q + 52 := by omega
    have e5 : -(k : Int) - (q - ((k : Int) - 52)) = -(q + 52) := by omega
    rw [e4, e5, Nat.mul_one]; exact h3
open Jvm.FP in
theorem own_zv (X : Int32) {S : Int64} {k : Nat} (hk : k ≤ 15) (hS : Core.val64 (FP.l2d S) = .fin false (2 ^ 52) ((k : Int) - 52)) :
    Core.val64 (FP.ddiv (FP.i2d X) (FP.l2d S)) ≠ .nan ∧ Core.zval Core.b64 (Core.val64 (FP.ddiv (FP.i2d X) (FP.l2d S))) = X.toInt * ((2 ^ (1074 - k) : Nat) : Int) := by
  obtain ⟨c, q, h1, h2⟩ := own_div X hk hS
  rw [h1]
  refine And.intro (fun z => Core.Datum.noConfusion z) ?_
  show Core.signed (decide (X.toInt < 0)) (Core.inUnits c q Core.b64.qmin) = _
  rw [h2]
  unfold Core.inUnits
  have e : (-(k : Int) - Core.b64.qmin).toNat = 1074 - k := by show (-(k : Int) - (-1074)).toNat = _; omega
  rw [e, Core.signed_mul]
  congr 1
  unfold Core.signed
  by_cases hx : X.toInt < 0
  · simp only [hx, decide_true, if_true]; omega
  · simp only [hx, decide_false]; simp only [Bool.false_eq_true, if_false]; omega
theorem own_cmp (a b : Int) : compare a b = if a < b then Ordering.lt else if a = b then Ordering.eq else Ordering.gt := rfl
theorem own_cl {a b : Int} (o : CmpOp) : cmpValue (some (compare a b)) o < (0 : Int32) ↔ a < b := by
  rw [own_cmp]
  by_cases h : a < b
  · rw [if_pos h]; exact iff_of_true (by cases o <;> decide) h
  · rw [if_neg h]
    by_cases h2 : a = b
    · rw [if_pos h2]; exact iff_of_false (by cases o <;> decide) h
    · rw [if_neg h2]; exact iff_of_false (by cases o <;> decide) h
theorem own_cg {a b : Int} (o : CmpOp) : (0 : Int32) < cmpValue (some (compare a b)) o ↔ b < a := by
  rw [own_cmp]
  by_cases h : a < b
  · rw [if_pos h]; exact iff_of_false (by cases o <;> decide) (by omega)
  · rw [if_neg h]
    by_cases h2 : a = b
    · rw [if_pos h2]; exact iff_of_false (by cases o <;> decide) (by omega)
    · rw [if_neg h2]; exact iff_of_true (by cases o <;> decide) (by omega)
open Jvm.FP in
theorem own_c90 : Core.val64 (4636033603912859648 : UInt64) ≠ .nan ∧ Core.zval Core.b64 (Core.val64 (4636033603912859648 : UInt64)) = 90 * ((2 ^ 1074 : Nat) : Int) := by decide +kernel
open Jvm.FP in
theorem own_m90 : Core.val64 (13859405640767635456 : UInt64) ≠ .nan ∧ Core.zval Core.b64 (Core.val64 (13859405640767635456 : UInt64)) = -90 * ((2 ^ 1074 : Nat) : Int) := by decide +kernel
open Jvm.FP in
theorem own_sc : ∀ k : Fin 16, Core.val64 (FP.l2d ((1 : Int64) <<< (Int32.ofNat k.val &&& 0x3f).toInt64)) = .fin false (2 ^ 52) ((k.val : Int) - 52) := by decide +kernel
theorem own_sv : ∀ k : Fin 16, ((1 : Int64) <<< (Int32.ofNat k.val &&& 0x3f).toInt64).toInt = ((2 ^ k.val : Nat) : Int) := by decide +kernel
theorem own_k {z s : Int32} (h : z = s &&& (15 : Int32)) : ∃ k : Fin 16, z = Int32.ofNat k.val := by
  have q := c_mask s 15 4 (by decide) (by decide)
  rw [← h] at q
  exact ⟨⟨z.toInt.toNat, by omega⟩, Int32.toInt_inj.mp (by rw [Int32.toInt_ofNat_small (by show z.toInt.toNat < _; omega)]; show _ = ((z.toInt.toNat : Nat) : Int); omega)⟩
theorem own_nn (X z s : Int32) (h : z = s &&& (15 : Int32)) : Jvm.Free.Fl.NoNaN64 (FP.ddiv (FP.i2d X) (FP.l2d ((1 : Int64) <<< (z &&& 0x3f).toInt64))) := by
  obtain ⟨k, rfl⟩ := own_k h
  have q := (own_zv X (k := k.val) (by omega) (own_sc k)).1
  have q2 : FP.dcmp (FP.ddiv (FP.i2d X) (FP.l2d ((1 : Int64) <<< (Int32.ofNat k.val &&& 0x3f).toInt64))) (FP.ddiv (FP.i2d X) (FP.l2d ((1 : Int64) <<< (Int32.ofNat k.val &&& 0x3f).toInt64))) = some .eq := FP.Core.dcmp_self q
  exact (Jvm.Free.Fl.dcmp_some q2).1
def own_lat (dd0 : UInt64) : Int32 := (if (cmpValue (FP.dcmp dd0 (13859405640767635456 : UInt64)) .l) < (0 : Int32) then (0 : Int32) else (if (0 : Int32) < (cmpValue (FP.dcmp dd0 (4636033603912859648 : UInt64)) .g) then (0 : Int32) else (1 : Int32)))
theorem d1_0 : decode prog_26_method_3_code 0 = .ok (.dload_n 0, 1) := by decide +kernel
theorem d1_1 : decode prog_26_method_3_code 1 = .ok (.ldc2_w 36, 3) := by decide +kernel
theorem d1_4 : decode prog_26_method_3_code 4 = .ok (.dcmp .l, 1) := by decide +kernel
theorem d1_5 : decode prog_26_method_3_code 5 = .ok (.ifCond .lt 15, 3) := by decide +kernel
theorem d1_8 : decode prog_26_method_3_code 8 = .ok (.dload_n 0, 1) := by decide +kernel
theorem d1_9 : decode prog_26_method_3_code 9 = .ok (.ldc2_w 38, 3) := by decide +kernel
theorem d1_12 : decode prog_26_method_3_code 12 = .ok (.dcmp .g, 1) := by decide +kernel
theorem d1_13 : decode prog_26_method_3_code 13 = .ok (.ifCond .gt 7, 3) := by decide +kernel
theorem d1_16 : decode prog_26_method_3_code 16 = .ok (.iconst 1, 1) := by decide +kernel
theorem d1_17 : decode prog_26_method_3_code 17 = .ok (.goto 4, 3) := by decide +kernel
theorem d1_20 : decode prog_26_method_3_code 20 = .ok (.iconst 0, 1) := by decide +kernel
theorem d1_21 : decode prog_26_method_3_code 21 = .ok (.ireturn, 1) := by decide +kernel
theorem pn_rm1 : plainName "com/example/packetsieve/packetsieve/packet/Position" = true := by first | (simp [plainName, overriddenIn]; done) | decide +kernel
theorem ef_rm1 (m : MethodId) (dd0 : UInt64) : entryFrame m #[(.double dd0)] 2 = mkF m 0 #[.val (.double dd0), .second] [] := by first | (simp [entryFrame, mkF, argsToLocals, Value.category]; done) | rfl
def Q_rm1 (Z : State) (dd0 : UInt64) (h0 : Heap) (n0 : Nat) (v : Option Value) (h : Heap) (L : List Loc) : Prop := v = some (.int (own_lat dd0)) ∧ Fr n0 L ∧ h = h0
set_option maxRecDepth 65536 in
set_option maxHeartbeats 40000000 in
theorem rm1 (l : Launch) (Z : State) (a0 : Array Value) (hw : ∀ d ∈ tables_1, d.before a0 Z = true) (ws : List Jvm.Cond) (dd0 : UInt64) (h0 : Heap) (n0 : Nat) (Z0 : n0 ≤ h0.size) :
    MetFree l (⟨"com/example/packetsieve/packetsieve/packet/Position", "isLatitude", "(D)Z"⟩ : MethodName) (head1 (Jvm.Cond.code (⟨"com/example/packetsieve/packetsieve/packet/Position", "isLatitude", "(D)Z"⟩ : MethodName) prog_26_method_3_code 2 (some .boolean) :: ws) ({ frames := 0, cells := 0, slots := 0, locals := 0 } : Room)) (fun a U => a = #[(.double dd0)] ∧ Z.Warmed39 U.vm ∧ U.heap = h0) (fun _ _ _ _ _ => True) (fun _ U o U' => ∃ v L, o = .returned v ∧ Q_rm1 Z dd0 h0 n0 v U'.heap L ∧ FrameEnd U o U' L ({ frames := 0, cells := 0, slots := 0, locals := 0 } : Room).cells ({ frames := 0, cells := 0, slots := 0, locals := 0 } : Room).slots) := by
  refine MetFree.of_bodySF (plainFor_of_name pn_rm1) hisR ?_
  intro p e s m args below meth c s₁ Bd hml0 hP hK
  obtain ⟨rfl, hZ, hh⟩ := hP
  have hx := Bd.exec
  have hby := Bd.bytes
  have hml : c.maxLocals = 2 := hml0
  have hown : s.vm.findClass "com/example/packetsieve/packetsieve/packet/Position" = some m.cls := findClass_of_methodNamed Bd.named
  have hnm := (name_of_methodNamed Bd.named Bd.method).1
  have X0 : Stand p l e ({ frames := 0, cells := 0, slots := 0, locals := 0 } : Room) s m #[(.double dd0)] below meth c s₁ [] 0 0 := Stand.of_body Bd
  have e0 : s₁.heap = h0 := by rw [← hh, Bd.state]; rfl
  have N0 := Fr.nil n0
  have K0 := Keep.refl h0 []
  have go0 : Go p e below (s₁.setTop (entryFrame m #[(.double dd0)] 2)) (s₁.setTop (mkF m 0 #[.val (.double dd0), .second] [])) := fun t k => castTop (ef_rm1 m dd0) k
  have go2 := go0.step (C := s₁.setTop (mkF m 5 #[.val (.double dd0), .second] [(.int (cmpValue (FP.dcmp dd0 (13859405640767635456 : UInt64)) .l))])) (fun t k => by
    show Steps p.tables e below (s₁.setTop (mkF m 0 #[.val (.double dd0), .second] [])) _
    refine XS.dloadN X0.here hx rfl (hb hby d1_0) rfl ?_
    show Steps p.tables e below (s₁.setTop (mkF m 1 #[.val (.double dd0), .second] [(.double dd0)])) _
    refine X0.ldc2DoubleC hx hown (mvT hZ (hw _ (List.mem_of_getElem? (i := 6) rfl))) (g := (mkF m 1 #[.val (.double dd0), .second] [(.double dd0)])) rfl (hb hby d1_1) _ ?_
    show Steps p.tables e below (s₁.setTop (mkF m 4 #[.val (.double dd0), .second] [(.double (13859405640767635456 : UInt64)), (.double dd0)])) _
    refine XS.dcmpS X0.here hx rfl (hb hby d1_4) rfl rfl ?_
    exact k)
  by_cases hc1 : (cmpValue (FP.dcmp dd0 (13859405640767635456 : UInt64)) .l) < (0 : Int32)
  · skip
    have go3 := go2.step (C := s₁.setTop (mkF m 21 #[.val (.double dd0), .second] [(.int (0 : Int32))])) (fun t k => by
      show Steps p.tables e below (s₁.setTop (mkF m 5 #[.val (.double dd0), .second] [(.int (cmpValue (FP.dcmp dd0 (13859405640767635456 : UInt64)) .l))])) _
      refine XS.ifYes X0.here hx rfl (pc0 := 5) (pc' := 20) rfl (hb hby d1_5) rfl ((if0 _ _).trans (tlt hc1).1) (by decide) (by decide) ?_
      show Steps p.tables e below (s₁.setTop (mkF m 20 #[.val (.double dd0), .second] [])) _
      refine XS.iconst X0.here hx rfl (hb hby d1_20) ?_
      exact k)
    obtain ⟨fs, hr, hrun, hended, hW, hsame⟩ := X0.leave (v := some (.int (0 : Int32))) (fun h => by rw [Bd.returns] at h; cases h)
    refine ⟨_, _, go3 _ ?_, hrun, hended, _, _, rfl, ?_, ⟨_, rfl⟩, hW, hsame.mono (by decide) (by decide)⟩
    · exact retN X0 hx (t := .boolean) Bd.returns (by simp) (hb hby d1_21) hr
    · show Q_rm1 Z dd0 h0 n0 _ s₁.heap _
      rw [e0]
      exact ⟨by unfold own_lat; simp only [if_pos hc1], N0, rfl⟩
  · skip
    have go5 := go2.step (C := s₁.setTop (mkF m 13 #[.val (.double dd0), .second] [(.int (cmpValue (FP.dcmp dd0 (4636033603912859648 : UInt64)) .g))])) (fun t k => by
      show Steps p.tables e below (s₁.setTop (mkF m 5 #[.val (.double dd0), .second] [(.int (cmpValue (FP.dcmp dd0 (13859405640767635456 : UInt64)) .l))])) _
      refine XS.ifNo X0.here hx rfl (hb hby d1_5) rfl ((if0 _ _).trans (flt hc1).1) ?_
      show Steps p.tables e below (s₁.setTop (mkF m 8 #[.val (.double dd0), .second] [])) _
      refine XS.dloadN X0.here hx rfl (hb hby d1_8) rfl ?_
      show Steps p.tables e below (s₁.setTop (mkF m 9 #[.val (.double dd0), .second] [(.double dd0)])) _
      refine X0.ldc2DoubleC hx hown (mvT hZ (hw _ (List.mem_of_getElem? (i := 7) rfl))) (g := (mkF m 9 #[.val (.double dd0), .second] [(.double dd0)])) rfl (hb hby d1_9) _ ?_
      show Steps p.tables e below (s₁.setTop (mkF m 12 #[.val (.double dd0), .second] [(.double (4636033603912859648 : UInt64)), (.double dd0)])) _
      refine XS.dcmpS X0.here hx rfl (hb hby d1_12) rfl rfl ?_
      exact k)
    by_cases hc4 : (0 : Int32) < (cmpValue (FP.dcmp dd0 (4636033603912859648 : UInt64)) .g)
    · skip
      have go6 := go5.step (C := s₁.setTop (mkF m 21 #[.val (.double dd0), .second] [(.int (0 : Int32))])) (fun t k => by
        show Steps p.tables e below (s₁.setTop (mkF m 13 #[.val (.double dd0), .second] [(.int (cmpValue (FP.dcmp dd0 (4636033603912859648 : UInt64)) .g))])) _
        refine XS.ifYes X0.here hx rfl (pc0 := 13) (pc' := 20) rfl (hb hby d1_13) rfl ((if0 _ _).trans (tlt hc4).2.2.1) (by decide) (by decide) ?_
        show Steps p.tables e below (s₁.setTop (mkF m 20 #[.val (.double dd0), .second] [])) _
        refine XS.iconst X0.here hx rfl (hb hby d1_20) ?_
        exact k)
      obtain ⟨fs, hr, hrun, hended, hW, hsame⟩ := X0.leave (v := some (.int (0 : Int32))) (fun h => by rw [Bd.returns] at h; cases h)
      refine ⟨_, _, go6 _ ?_, hrun, hended, _, _, rfl, ?_, ⟨_, rfl⟩, hW, hsame.mono (by decide) (by decide)⟩
      · exact retN X0 hx (t := .boolean) Bd.returns (by simp) (hb hby d1_21) hr
      · show Q_rm1 Z dd0 h0 n0 _ s₁.heap _
        rw [e0]
        exact ⟨by unfold own_lat; simp only [if_neg hc1, if_pos hc4], N0, rfl⟩
    · skip
      have go7 := go5.step (C := s₁.setTop (mkF m 21 #[.val (.double dd0), .second] [(.int (1 : Int32))])) (fun t k => by
        show Steps p.tables e below (s₁.setTop (mkF m 13 #[.val (.double dd0), .second] [(.int (cmpValue (FP.dcmp dd0 (4636033603912859648 : UInt64)) .g))])) _
        refine XS.ifNo X0.here hx rfl (hb hby d1_13) rfl ((if0 _ _).trans (flt hc4).2.2.1) ?_
        show Steps p.tables e below (s₁.setTop (mkF m 16 #[.val (.double dd0), .second] [])) _
        refine XS.iconst X0.here hx rfl (hb hby d1_16) ?_
        show Steps p.tables e below (s₁.setTop (mkF m 17 #[.val (.double dd0), .second] [(.int (1 : Int32))])) _
        refine XS.goto X0.here hx rfl (pc0 := 17) (pc' := 21) rfl (hb hby d1_17) (by decide) (by decide) ?_
        exact k)
      obtain ⟨fs, hr, hrun, hended, hW, hsame⟩ := X0.leave (v := some (.int (1 : Int32))) (fun h => by rw [Bd.returns] at h; cases h)
      refine ⟨_, _, go7 _ ?_, hrun, hended, _, _, rfl, ?_, ⟨_, rfl⟩, hW, hsame.mono (by decide) (by decide)⟩
      · exact retN X0 hx (t := .boolean) Bd.returns (by simp) (hb hby d1_21) hr
      · show Q_rm1 Z dd0 h0 n0 _ s₁.heap _
        rw [e0]
        exact ⟨by unfold own_lat; simp only [if_neg hc1, if_neg hc4], N0, rfl⟩
theorem own_fin {X z s : Int32} (h : z = s &&& (15 : Int32)) :
    own_lat (FP.ddiv (FP.i2d X) (FP.l2d ((1 : Int64) <<< (z &&& 0x3f).toInt64))) = (if X.toInt64 < ((-90 : Int64) * ((1 : Int64) <<< (z &&& 0x3f).toInt64)) then (0 : Int32) else (if ((90 : Int64) * ((1 : Int64) <<< (z &&& 0x3f).toInt64)) < X.toInt64 then (0 : Int32) else (1 : Int32))) := by
  obtain ⟨k, rfl⟩ := own_k h
  obtain ⟨q1, q2⟩ := own_zv X (k := k.val) (by omega) (own_sc k)
  have sv := own_sv k
  unfold own_lat
  generalize (1 : Int64) <<< (Int32.ofNat k.val &&& 0x3f).toInt64 = S at *
  have d1 : FP.dcmp (FP.ddiv (FP.i2d X) (FP.l2d S)) (13859405640767635456 : UInt64) = some (compare (X.toInt * ((2 ^ (1074 - k.val) : Nat) : Int)) (-90 * ((2 ^ 1074 : Nat) : Int))) := by
    rw [← q2, ← own_m90.2]; exact FP.Core.dcmp_zval q1 own_m90.1
  have d2 : FP.dcmp (FP.ddiv (FP.i2d X) (FP.l2d S)) (4636033603912859648 : UInt64) = some (compare (X.toInt * ((2 ^ (1074 - k.val) : Nat) : Int)) (90 * ((2 ^ 1074 : Nat) : Int))) := by
    rw [← q2, ← own_c90.2]; exact FP.Core.dcmp_zval q1 own_c90.1
  rw [d1, d2]
  have hk : k.val < 16 := k.isLt
  have ep : ((2 ^ 1074 : Nat) : Int) = ((2 ^ k.val : Nat) : Int) * ((2 ^ (1074 - k.val) : Nat) : Int) := by
    rw [← Int.natCast_mul, ← Nat.pow_add]; congr 2; omega
  have pp : (0 : Int) < ((2 ^ (1074 - k.val) : Nat) : Int) := by have := Nat.two_pow_pos (1074 - k.val); omega
  have pk : (0 : Int) < ((2 ^ k.val : Nat) : Int) ∧ ((2 ^ k.val : Nat) : Int) ≤ 32768 := by
    have h1 := Nat.two_pow_pos k.val
    have h2 : 2 ^ k.val ≤ 2 ^ 15 := Nat.pow_le_pow_right (by decide) (by omega)
    omega
  have e64 : X.toInt64.toInt = X.toInt := Int32.toInt_toInt64 X
  have m1 := c_lmul (-90 : Int64) S
  have m2 := c_lmul (90 : Int64) S
  have r1 := rng64 ((-90 : Int64) * S)
  have r2 := rng64 ((90 : Int64) * S)
  have em : (-90 : Int64).toInt = -90 := rfl
  have e9 : (90 : Int64).toInt = 90 := rfl
  rw [em, sv] at m1
  rw [e9, sv] at m2
  have i1 : X.toInt * ((2 ^ (1074 - k.val) : Nat) : Int) < -90 * ((2 ^ 1074 : Nat) : Int) ↔ X.toInt64 < (-90 : Int64) * S := by
    rw [ep, ← Int.mul_assoc, Int.mul_lt_mul_right pp, Int64.lt_iff_toInt_lt, e64]
    generalize ((2 ^ k.val : Nat) : Int) = K at *
    omega
  have i2 : 90 * ((2 ^ 1074 : Nat) : Int) < X.toInt * ((2 ^ (1074 - k.val) : Nat) : Int) ↔ (90 : Int64) * S < X.toInt64 := by
    rw [ep, ← Int.mul_assoc, Int.mul_lt_mul_right pp, Int64.lt_iff_toInt_lt, e64]
    generalize ((2 ^ k.val : Nat) : Int) = K at *
    omega
  simp only [own_cl, own_cg, i1, i2]
theorem pn_rm0 : plainName "com/example/packetsieve/packetsieve/packet/PositionIsLatitudePinLaw" = true := by first | (simp [plainName, overriddenIn]; done) | decide +kernel
theorem pd_rm0_0 : parseMethodDescriptor "(D)Z" = some ⟨[.double], some .boolean⟩ := by decide +kernel
theorem ef_rm0 (m : MethodId) (p0 : Int32) (p1 : Int32) : entryFrame m #[(.int p0), (.int p1)] maxLocals = mkF m 0 #[.val (.int p0), .val (.int p1), .unset, .unset, .unset, .unset, .unset, .unset, .unset, .unset] [] := by first | (simp [entryFrame, mkF, argsToLocals, Value.category, maxLocals]; done) | rfl
def Q_rm0 (Z : State) (p0 : Int32) (p1 : Int32) (h0 : Heap) (n0 : Nat) (v : Option Value) (h : Heap) (L : List Loc) : Prop := v = some (.int (1 : Int32)) ∧ Fr n0 L
set_option maxRecDepth 65536 in
set_option maxHeartbeats 40000000 in
theorem rm0 (l : Launch) (Z : State) (a0 : Array Value) (hw : ∀ d ∈ tables_1, d.before a0 Z = true) (ws : List Jvm.Cond) (p0 : Int32) (p1 : Int32) (h0 : Heap) (n0 : Nat) (Z0 : n0 ≤ h0.size) :
    MetFree l x (head1 (Jvm.Cond.code x code maxLocals ret :: ws) room_1) (fun a U => a = #[(.int p0), (.int p1)] ∧ Z.Warmed39 U.vm ∧ U.heap = h0) (fun _ _ _ _ _ => True) (fun _ U o U' => ∃ v L, o = .returned v ∧ Q_rm0 Z p0 p1 h0 n0 v U'.heap L ∧ FrameEnd U o U' L room_1.cells room_1.slots) := by
  refine MetFree.of_bodySF (plainFor_of_name pn_rm0) hisR ?_
  intro p e s m args below meth c s₁ Bd hml0 hP hK
  obtain ⟨rfl, hZ, hh⟩ := hP
  have hx := Bd.exec
  have hby := Bd.bytes
  have hml : c.maxLocals = 10 := hml0
  have hown : s.vm.findClass "com/example/packetsieve/packetsieve/packet/PositionIsLatitudePinLaw" = some m.cls := findClass_of_methodNamed Bd.named
  have hnm := (name_of_methodNamed Bd.named Bd.method).1
  have X0 : Stand p l e room_1 s m #[(.int p0), (.int p1)] below meth c s₁ [] 0 0 := Stand.of_body Bd
  have e0 : s₁.heap = h0 := by rw [← hh, Bd.state]; rfl
  have N0 := Fr.nil n0
  have K0 := Keep.refl h0 []
  have go0 : Go p e below (s₁.setTop (entryFrame m #[(.int p0), (.int p1)] maxLocals)) (s₁.setTop (mkF m 0 #[.val (.int p0), .val (.int p1), .unset, .unset, .unset, .unset, .unset, .unset, .unset, .unset] [])) := fun t k => castTop (ef_rm0 m p0 p1) k
  have go1 := go0.step (C := s₁.setTop (mkF m 4 #[.val (.int p0), .val (.int p1), .unset, .unset, .unset, .unset, .unset, .unset, .unset, .unset] [(.int (p1 &&& (15 : Int32)))])) (fun t k => by
    show Steps p.tables e below (s₁.setTop (mkF m 0 #[.val (.int p0), .val (.int p1), .unset, .unset, .unset, .unset, .unset, .unset, .unset, .unset] [])) _
    refine XS.iloadN X0.here hx rfl (hb hby at_0) rfl ?_
    show Steps p.tables e below (s₁.setTop (mkF m 1 #[.val (.int p0), .val (.int p1), .unset, .unset, .unset, .unset, .unset, .unset, .unset, .unset] [(.int p1)])) _
    refine XS.bipush X0.here hx rfl (hb hby at_1) ?_
    show Steps p.tables e below (s₁.setTop (mkF m 3 #[.val (.int p0), .val (.int p1), .unset, .unset, .unset, .unset, .unset, .unset, .unset, .unset] [(.int (15 : Int32)), (.int p1)])) _
    refine XS.iand X0.here hx rfl (hb hby at_3) rfl ?_
    exact k)
  obtain ⟨zk, hzk⟩ : ∃ z : Int32, z = (p1 &&& (15 : Int32)) := ⟨_, rfl⟩
  rw [← hzk] at go1
  have go2 := go1.step (C := s₁.setTop (mkF m 28 #[.val (.int p0), .val (.int p1), .val (.int zk), .val (.long ((1 : Int64) <<< (zk &&& 0x3f).toInt64)), .second, .val (.double (FP.ddiv (FP.i2d p0) (FP.l2d ((1 : Int64) <<< (zk &&& 0x3f).toInt64)))), .second, .val (.long (p0.toInt64)), .second, .unset] [(.int (lcmpW (p0.toInt64) ((-90 : Int64) * ((1 : Int64) <<< (zk &&& 0x3f).toInt64))))])) (fun t k => by
    show Steps p.tables e below (s₁.setTop (mkF m 4 #[.val (.int p0), .val (.int p1), .unset, .unset, .unset, .unset, .unset, .unset, .unset, .unset] [(.int zk)])) _
    refine XS.istoreN X0.here hx rfl (hb hby at_4) rfl (l' := #[.val (.int p0), .val (.int p1), .val (.int zk), .unset, .unset, .unset, .unset, .unset, .unset, .unset]) rfl ?_
    show Steps p.tables e below (s₁.setTop (mkF m 5 #[.val (.int p0), .val (.int p1), .val (.int zk), .unset, .unset, .unset, .unset, .unset, .unset, .unset] [])) _
    refine XS.lconst X0.here hx rfl (hb hby at_5) ?_
    show Steps p.tables e below (s₁.setTop (mkF m 6 #[.val (.int p0), .val (.int p1), .val (.int zk), .unset, .unset, .unset, .unset, .unset, .unset, .unset] [(.long (1 : Int64))])) _
    refine XS.iloadN X0.here hx rfl (hb hby at_6) rfl ?_
    show Steps p.tables e below (s₁.setTop (mkF m 7 #[.val (.int p0), .val (.int p1), .val (.int zk), .unset, .unset, .unset, .unset, .unset, .unset, .unset] [(.int zk), (.long (1 : Int64))])) _
    refine XS.lshl X0.here hx rfl (hb hby at_7) rfl ?_
    show Steps p.tables e below (s₁.setTop (mkF m 8 #[.val (.int p0), .val (.int p1), .val (.int zk), .unset, .unset, .unset, .unset, .unset, .unset, .unset] [(.long ((1 : Int64) <<< (zk &&& 0x3f).toInt64))])) _
    refine XS.lstoreN X0.here hx rfl (hb hby at_8) rfl (l' := #[.val (.int p0), .val (.int p1), .val (.int zk), .val (.long ((1 : Int64) <<< (zk &&& 0x3f).toInt64)), .second, .unset, .unset, .unset, .unset, .unset]) rfl ?_
    show Steps p.tables e below (s₁.setTop (mkF m 9 #[.val (.int p0), .val (.int p1), .val (.int zk), .val (.long ((1 : Int64) <<< (zk &&& 0x3f).toInt64)), .second, .unset, .unset, .unset, .unset, .unset] [])) _
    refine XS.iloadN X0.here hx rfl (hb hby at_9) rfl ?_
    show Steps p.tables e below (s₁.setTop (mkF m 10 #[.val (.int p0), .val (.int p1), .val (.int zk), .val (.long ((1 : Int64) <<< (zk &&& 0x3f).toInt64)), .second, .unset, .unset, .unset, .unset, .unset] [(.int p0)])) _
    refine XS.i2dS X0.here hx rfl (hb hby at_10) rfl rfl ?_
    show Steps p.tables e below (s₁.setTop (mkF m 11 #[.val (.int p0), .val (.int p1), .val (.int zk), .val (.long ((1 : Int64) <<< (zk &&& 0x3f).toInt64)), .second, .unset, .unset, .unset, .unset, .unset] [(.double (FP.i2d p0))])) _
    refine XS.lloadN X0.here hx rfl (hb hby at_11) rfl ?_
    show Steps p.tables e below (s₁.setTop (mkF m 12 #[.val (.int p0), .val (.int p1), .val (.int zk), .val (.long ((1 : Int64) <<< (zk &&& 0x3f).toInt64)), .second, .unset, .unset, .unset, .unset, .unset] [(.long ((1 : Int64) <<< (zk &&& 0x3f).toInt64)), (.double (FP.i2d p0))])) _
    refine XS.l2dS X0.here hx rfl (hb hby at_12) rfl rfl ?_
    show Steps p.tables e below (s₁.setTop (mkF m 13 #[.val (.int p0), .val (.int p1), .val (.int zk), .val (.long ((1 : Int64) <<< (zk &&& 0x3f).toInt64)), .second, .unset, .unset, .unset, .unset, .unset] [(.double (FP.l2d ((1 : Int64) <<< (zk &&& 0x3f).toInt64))), (.double (FP.i2d p0))])) _
    refine XS.ddivS X0.here hx rfl (hb hby at_13) rfl (own_nn _ _ _ hzk) rfl ?_
    show Steps p.tables e below (s₁.setTop (mkF m 14 #[.val (.int p0), .val (.int p1), .val (.int zk), .val (.long ((1 : Int64) <<< (zk &&& 0x3f).toInt64)), .second, .unset, .unset, .unset, .unset, .unset] [(.double (FP.ddiv (FP.i2d p0) (FP.l2d ((1 : Int64) <<< (zk &&& 0x3f).toInt64))))])) _
    refine XS.dstore X0.here hx rfl (hb hby at_14) rfl (l' := #[.val (.int p0), .val (.int p1), .val (.int zk), .val (.long ((1 : Int64) <<< (zk &&& 0x3f).toInt64)), .second, .val (.double (FP.ddiv (FP.i2d p0) (FP.l2d ((1 : Int64) <<< (zk &&& 0x3f).toInt64)))), .second, .unset, .unset, .unset]) rfl ?_
    show Steps p.tables e below (s₁.setTop (mkF m 16 #[.val (.int p0), .val (.int p1), .val (.int zk), .val (.long ((1 : Int64) <<< (zk &&& 0x3f).toInt64)), .second, .val (.double (FP.ddiv (FP.i2d p0) (FP.l2d ((1 : Int64) <<< (zk &&& 0x3f).toInt64)))), .second, .unset, .unset, .unset] [])) _
    refine XS.iloadN X0.here hx rfl (hb hby at_16) rfl ?_
    show Steps p.tables e below (s₁.setTop (mkF m 17 #[.val (.int p0), .val (.int p1), .val (.int zk), .val (.long ((1 : Int64) <<< (zk &&& 0x3f).toInt64)), .second, .val (.double (FP.ddiv (FP.i2d p0) (FP.l2d ((1 : Int64) <<< (zk &&& 0x3f).toInt64)))), .second, .unset, .unset, .unset] [(.int p0)])) _
    refine XS.i2l X0.here hx rfl (hb hby at_17) rfl ?_
    show Steps p.tables e below (s₁.setTop (mkF m 18 #[.val (.int p0), .val (.int p1), .val (.int zk), .val (.long ((1 : Int64) <<< (zk &&& 0x3f).toInt64)), .second, .val (.double (FP.ddiv (FP.i2d p0) (FP.l2d ((1 : Int64) <<< (zk &&& 0x3f).toInt64)))), .second, .unset, .unset, .unset] [(.long (p0.toInt64))])) _
    refine XS.lstore X0.here hx rfl (hb hby at_18) rfl (l' := #[.val (.int p0), .val (.int p1), .val (.int zk), .val (.long ((1 : Int64) <<< (zk &&& 0x3f).toInt64)), .second, .val (.double (FP.ddiv (FP.i2d p0) (FP.l2d ((1 : Int64) <<< (zk &&& 0x3f).toInt64)))), .second, .val (.long (p0.toInt64)), .second, .unset]) rfl ?_
    show Steps p.tables e below (s₁.setTop (mkF m 20 #[.val (.int p0), .val (.int p1), .val (.int zk), .val (.long ((1 : Int64) <<< (zk &&& 0x3f).toInt64)), .second, .val (.double (FP.ddiv (FP.i2d p0) (FP.l2d ((1 : Int64) <<< (zk &&& 0x3f).toInt64)))), .second, .val (.long (p0.toInt64)), .second, .unset] [])) _
    refine XS.lload X0.here hx rfl (hb hby at_20) rfl ?_
    show Steps p.tables e below (s₁.setTop (mkF m 22 #[.val (.int p0), .val (.int p1), .val (.int zk), .val (.long ((1 : Int64) <<< (zk &&& 0x3f).toInt64)), .second, .val (.double (FP.ddiv (FP.i2d p0) (FP.l2d ((1 : Int64) <<< (zk &&& 0x3f).toInt64)))), .second, .val (.long (p0.toInt64)), .second, .unset] [(.long (p0.toInt64))])) _
    refine X0.ldc2Long hx hown (mvT hZ (hw _ (List.mem_of_getElem? (i := 0) rfl))) (g := (mkF m 22 #[.val (.int p0), .val (.int p1), .val (.int zk), .val (.long ((1 : Int64) <<< (zk &&& 0x3f).toInt64)), .second, .val (.double (FP.ddiv (FP.i2d p0) (FP.l2d ((1 : Int64) <<< (zk &&& 0x3f).toInt64)))), .second, .val (.long (p0.toInt64)), .second, .unset] [(.long (p0.toInt64))])) rfl (hb hby at_22) _ ?_
    show Steps p.tables e below (s₁.setTop (mkF m 25 #[.val (.int p0), .val (.int p1), .val (.int zk), .val (.long ((1 : Int64) <<< (zk &&& 0x3f).toInt64)), .second, .val (.double (FP.ddiv (FP.i2d p0) (FP.l2d ((1 : Int64) <<< (zk &&& 0x3f).toInt64)))), .second, .val (.long (p0.toInt64)), .second, .unset] [(.long (-90 : Int64)), (.long (p0.toInt64))])) _
    refine XS.lloadN X0.here hx rfl (hb hby at_25) rfl ?_
    show Steps p.tables e below (s₁.setTop (mkF m 26 #[.val (.int p0), .val (.int p1), .val (.int zk), .val (.long ((1 : Int64) <<< (zk &&& 0x3f).toInt64)), .second, .val (.double (FP.ddiv (FP.i2d p0) (FP.l2d ((1 : Int64) <<< (zk &&& 0x3f).toInt64)))), .second, .val (.long (p0.toInt64)), .second, .unset] [(.long ((1 : Int64) <<< (zk &&& 0x3f).toInt64)), (.long (-90 : Int64)), (.long (p0.toInt64))])) _
    refine XS.lmul X0.here hx rfl (hb hby at_26) rfl ?_
    show Steps p.tables e below (s₁.setTop (mkF m 27 #[.val (.int p0), .val (.int p1), .val (.int zk), .val (.long ((1 : Int64) <<< (zk &&& 0x3f).toInt64)), .second, .val (.double (FP.ddiv (FP.i2d p0) (FP.l2d ((1 : Int64) <<< (zk &&& 0x3f).toInt64)))), .second, .val (.long (p0.toInt64)), .second, .unset] [(.long ((-90 : Int64) * ((1 : Int64) <<< (zk &&& 0x3f).toInt64))), (.long (p0.toInt64))])) _
    refine XS.lcmp X0.here hx rfl (hb hby at_27) rfl ?_
    exact k)
  have go5 := go2.step (C := s₁.setTop (mkF m 47 #[.val (.int p0), .val (.int p1), .val (.int zk), .val (.long ((1 : Int64) <<< (zk &&& 0x3f).toInt64)), .second, .val (.double (FP.ddiv (FP.i2d p0) (FP.l2d ((1 : Int64) <<< (zk &&& 0x3f).toInt64)))), .second, .val (.long (p0.toInt64)), .second, .unset] [(.int (if (p0.toInt64) < ((-90 : Int64) * ((1 : Int64) <<< (zk &&& 0x3f).toInt64)) then (0 : Int32) else (if ((90 : Int64) * ((1 : Int64) <<< (zk &&& 0x3f).toInt64)) < (p0.toInt64) then (0 : Int32) else (1 : Int32))))])) (fun t k => by
    by_cases hc3 : (p0.toInt64) < ((-90 : Int64) * ((1 : Int64) <<< (zk &&& 0x3f).toInt64))
    · skip
      try simp only [if_pos hc3] at k
      show Steps p.tables e below (s₁.setTop (mkF m 28 #[.val (.int p0), .val (.int p1), .val (.int zk), .val (.long ((1 : Int64) <<< (zk &&& 0x3f).toInt64)), .second, .val (.double (FP.ddiv (FP.i2d p0) (FP.l2d ((1 : Int64) <<< (zk &&& 0x3f).toInt64)))), .second, .val (.long (p0.toInt64)), .second, .unset] [(.int (lcmpW (p0.toInt64) ((-90 : Int64) * ((1 : Int64) <<< (zk &&& 0x3f).toInt64))))])) _
      refine XS.ifYes X0.here hx rfl (pc0 := 28) (pc' := 46) rfl (hb hby at_28) rfl ((if0 _ _).trans (tlt ((lw_lt _ _).mpr hc3)).1) (by decide) (by decide) ?_
      show Steps p.tables e below (s₁.setTop (mkF m 46 #[.val (.int p0), .val (.int p1), .val (.int zk), .val (.long ((1 : Int64) <<< (zk &&& 0x3f).toInt64)), .second, .val (.double (FP.ddiv (FP.i2d p0) (FP.l2d ((1 : Int64) <<< (zk &&& 0x3f).toInt64)))), .second, .val (.long (p0.toInt64)), .second, .unset] [])) _
      refine XS.iconst X0.here hx rfl (hb hby at_46) ?_
      exact k
    · skip
      by_cases hc4 : ((90 : Int64) * ((1 : Int64) <<< (zk &&& 0x3f).toInt64)) < (p0.toInt64)
      · skip
        try simp only [if_neg hc3, if_pos hc4] at k
        show Steps p.tables e below (s₁.setTop (mkF m 28 #[.val (.int p0), .val (.int p1), .val (.int zk), .val (.long ((1 : Int64) <<< (zk &&& 0x3f).toInt64)), .second, .val (.double (FP.ddiv (FP.i2d p0) (FP.l2d ((1 : Int64) <<< (zk &&& 0x3f).toInt64)))), .second, .val (.long (p0.toInt64)), .second, .unset] [(.int (lcmpW (p0.toInt64) ((-90 : Int64) * ((1 : Int64) <<< (zk &&& 0x3f).toInt64))))])) _
        refine XS.ifNo X0.here hx rfl (hb hby at_28) rfl ((if0 _ _).trans (flt (fun q => hc3 ((lw_lt _ _).mp q))).1) ?_
        show Steps p.tables e below (s₁.setTop (mkF m 31 #[.val (.int p0), .val (.int p1), .val (.int zk), .val (.long ((1 : Int64) <<< (zk &&& 0x3f).toInt64)), .second, .val (.double (FP.ddiv (FP.i2d p0) (FP.l2d ((1 : Int64) <<< (zk &&& 0x3f).toInt64)))), .second, .val (.long (p0.toInt64)), .second, .unset] [])) _
        refine XS.lload X0.here hx rfl (hb hby at_31) rfl ?_
        show Steps p.tables e below (s₁.setTop (mkF m 33 #[.val (.int p0), .val (.int p1), .val (.int zk), .val (.long ((1 : Int64) <<< (zk &&& 0x3f).toInt64)), .second, .val (.double (FP.ddiv (FP.i2d p0) (FP.l2d ((1 : Int64) <<< (zk &&& 0x3f).toInt64)))), .second, .val (.long (p0.toInt64)), .second, .unset] [(.long (p0.toInt64))])) _
        refine X0.ldc2Long hx hown (mvT hZ (hw _ (List.mem_of_getElem? (i := 1) rfl))) (g := (mkF m 33 #[.val (.int p0), .val (.int p1), .val (.int zk), .val (.long ((1 : Int64) <<< (zk &&& 0x3f).toInt64)), .second, .val (.double (FP.ddiv (FP.i2d p0) (FP.l2d ((1 : Int64) <<< (zk &&& 0x3f).toInt64)))), .second, .val (.long (p0.toInt64)), .second, .unset] [(.long (p0.toInt64))])) rfl (hb hby at_33) _ ?_
        show Steps p.tables e below (s₁.setTop (mkF m 36 #[.val (.int p0), .val (.int p1), .val (.int zk), .val (.long ((1 : Int64) <<< (zk &&& 0x3f).toInt64)), .second, .val (.double (FP.ddiv (FP.i2d p0) (FP.l2d ((1 : Int64) <<< (zk &&& 0x3f).toInt64)))), .second, .val (.long (p0.toInt64)), .second, .unset] [(.long (90 : Int64)), (.long (p0.toInt64))])) _
        refine XS.lloadN X0.here hx rfl (hb hby at_36) rfl ?_
        show Steps p.tables e below (s₁.setTop (mkF m 37 #[.val (.int p0), .val (.int p1), .val (.int zk), .val (.long ((1 : Int64) <<< (zk &&& 0x3f).toInt64)), .second, .val (.double (FP.ddiv (FP.i2d p0) (FP.l2d ((1 : Int64) <<< (zk &&& 0x3f).toInt64)))), .second, .val (.long (p0.toInt64)), .second, .unset] [(.long ((1 : Int64) <<< (zk &&& 0x3f).toInt64)), (.long (90 : Int64)), (.long (p0.toInt64))])) _
        refine XS.lmul X0.here hx rfl (hb hby at_37) rfl ?_
        show Steps p.tables e below (s₁.setTop (mkF m 38 #[.val (.int p0), .val (.int p1), .val (.int zk), .val (.long ((1 : Int64) <<< (zk &&& 0x3f).toInt64)), .second, .val (.double (FP.ddiv (FP.i2d p0) (FP.l2d ((1 : Int64) <<< (zk &&& 0x3f).toInt64)))), .second, .val (.long (p0.toInt64)), .second, .unset] [(.long ((90 : Int64) * ((1 : Int64) <<< (zk &&& 0x3f).toInt64))), (.long (p0.toInt64))])) _
        refine XS.lcmp X0.here hx rfl (hb hby at_38) rfl ?_
        show Steps p.tables e below (s₁.setTop (mkF m 39 #[.val (.int p0), .val (.int p1), .val (.int zk), .val (.long ((1 : Int64) <<< (zk &&& 0x3f).toInt64)), .second, .val (.double (FP.ddiv (FP.i2d p0) (FP.l2d ((1 : Int64) <<< (zk &&& 0x3f).toInt64)))), .second, .val (.long (p0.toInt64)), .second, .unset] [(.int (lcmpW (p0.toInt64) ((90 : Int64) * ((1 : Int64) <<< (zk &&& 0x3f).toInt64))))])) _
        refine XS.ifYes X0.here hx rfl (pc0 := 39) (pc' := 46) rfl (hb hby at_39) rfl ((if0 _ _).trans (tlt ((lw_gt _ _).mpr hc4)).2.2.1) (by decide) (by decide) ?_
        show Steps p.tables e below (s₁.setTop (mkF m 46 #[.val (.int p0), .val (.int p1), .val (.int zk), .val (.long ((1 : Int64) <<< (zk &&& 0x3f).toInt64)), .second, .val (.double (FP.ddiv (FP.i2d p0) (FP.l2d ((1 : Int64) <<< (zk &&& 0x3f).toInt64)))), .second, .val (.long (p0.toInt64)), .second, .unset] [])) _
        refine XS.iconst X0.here hx rfl (hb hby at_46) ?_
        exact k
      · skip
        try simp only [if_neg hc3, if_neg hc4] at k
        show Steps p.tables e below (s₁.setTop (mkF m 28 #[.val (.int p0), .val (.int p1), .val (.int zk), .val (.long ((1 : Int64) <<< (zk &&& 0x3f).toInt64)), .second, .val (.double (FP.ddiv (FP.i2d p0) (FP.l2d ((1 : Int64) <<< (zk &&& 0x3f).toInt64)))), .second, .val (.long (p0.toInt64)), .second, .unset] [(.int (lcmpW (p0.toInt64) ((-90 : Int64) * ((1 : Int64) <<< (zk &&& 0x3f).toInt64))))])) _
        refine XS.ifNo X0.here hx rfl (hb hby at_28) rfl ((if0 _ _).trans (flt (fun q => hc3 ((lw_lt _ _).mp q))).1) ?_
        show Steps p.tables e below (s₁.setTop (mkF m 31 #[.val (.int p0), .val (.int p1), .val (.int zk), .val (.long ((1 : Int64) <<< (zk &&& 0x3f).toInt64)), .second, .val (.double (FP.ddiv (FP.i2d p0) (FP.l2d ((1 : Int64) <<< (zk &&& 0x3f).toInt64)))), .second, .val (.long (p0.toInt64)), .second, .unset] [])) _
        refine XS.lload X0.here hx rfl (hb hby at_31) rfl ?_
        show Steps p.tables e below (s₁.setTop (mkF m 33 #[.val (.int p0), .val (.int p1), .val (.int zk), .val (.long ((1 : Int64) <<< (zk &&& 0x3f).toInt64)), .second, .val (.double (FP.ddiv (FP.i2d p0) (FP.l2d ((1 : Int64) <<< (zk &&& 0x3f).toInt64)))), .second, .val (.long (p0.toInt64)), .second, .unset] [(.long (p0.toInt64))])) _
        refine X0.ldc2Long hx hown (mvT hZ (hw _ (List.mem_of_getElem? (i := 1) rfl))) (g := (mkF m 33 #[.val (.int p0), .val (.int p1), .val (.int zk), .val (.long ((1 : Int64) <<< (zk &&& 0x3f).toInt64)), .second, .val (.double (FP.ddiv (FP.i2d p0) (FP.l2d ((1 : Int64) <<< (zk &&& 0x3f).toInt64)))), .second, .val (.long (p0.toInt64)), .second, .unset] [(.long (p0.toInt64))])) rfl (hb hby at_33) _ ?_
        show Steps p.tables e below (s₁.setTop (mkF m 36 #[.val (.int p0), .val (.int p1), .val (.int zk), .val (.long ((1 : Int64) <<< (zk &&& 0x3f).toInt64)), .second, .val (.double (FP.ddiv (FP.i2d p0) (FP.l2d ((1 : Int64) <<< (zk &&& 0x3f).toInt64)))), .second, .val (.long (p0.toInt64)), .second, .unset] [(.long (90 : Int64)), (.long (p0.toInt64))])) _
        refine XS.lloadN X0.here hx rfl (hb hby at_36) rfl ?_
        show Steps p.tables e below (s₁.setTop (mkF m 37 #[.val (.int p0), .val (.int p1), .val (.int zk), .val (.long ((1 : Int64) <<< (zk &&& 0x3f).toInt64)), .second, .val (.double (FP.ddiv (FP.i2d p0) (FP.l2d ((1 : Int64) <<< (zk &&& 0x3f).toInt64)))), .second, .val (.long (p0.toInt64)), .second, .unset] [(.long ((1 : Int64) <<< (zk &&& 0x3f).toInt64)), (.long (90 : Int64)), (.long (p0.toInt64))])) _
        refine XS.lmul X0.here hx rfl (hb hby at_37) rfl ?_
        show Steps p.tables e below (s₁.setTop (mkF m 38 #[.val (.int p0), .val (.int p1), .val (.int zk), .val (.long ((1 : Int64) <<< (zk &&& 0x3f).toInt64)), .second, .val (.double (FP.ddiv (FP.i2d p0) (FP.l2d ((1 : Int64) <<< (zk &&& 0x3f).toInt64)))), .second, .val (.long (p0.toInt64)), .second, .unset] [(.long ((90 : Int64) * ((1 : Int64) <<< (zk &&& 0x3f).toInt64))), (.long (p0.toInt64))])) _
        refine XS.lcmp X0.here hx rfl (hb hby at_38) rfl ?_
        show Steps p.tables e below (s₁.setTop (mkF m 39 #[.val (.int p0), .val (.int p1), .val (.int zk), .val (.long ((1 : Int64) <<< (zk &&& 0x3f).toInt64)), .second, .val (.double (FP.ddiv (FP.i2d p0) (FP.l2d ((1 : Int64) <<< (zk &&& 0x3f).toInt64)))), .second, .val (.long (p0.toInt64)), .second, .unset] [(.int (lcmpW (p0.toInt64) ((90 : Int64) * ((1 : Int64) <<< (zk &&& 0x3f).toInt64))))])) _
        refine XS.ifNo X0.here hx rfl (hb hby at_39) rfl ((if0 _ _).trans (flt (fun q => hc4 ((lw_gt _ _).mp q))).2.2.1) ?_
        show Steps p.tables e below (s₁.setTop (mkF m 42 #[.val (.int p0), .val (.int p1), .val (.int zk), .val (.long ((1 : Int64) <<< (zk &&& 0x3f).toInt64)), .second, .val (.double (FP.ddiv (FP.i2d p0) (FP.l2d ((1 : Int64) <<< (zk &&& 0x3f).toInt64)))), .second, .val (.long (p0.toInt64)), .second, .unset] [])) _
        refine XS.iconst X0.here hx rfl (hb hby at_42) ?_
        show Steps p.tables e below (s₁.setTop (mkF m 43 #[.val (.int p0), .val (.int p1), .val (.int zk), .val (.long ((1 : Int64) <<< (zk &&& 0x3f).toInt64)), .second, .val (.double (FP.ddiv (FP.i2d p0) (FP.l2d ((1 : Int64) <<< (zk &&& 0x3f).toInt64)))), .second, .val (.long (p0.toInt64)), .second, .unset] [(.int (1 : Int32))])) _
        refine XS.goto X0.here hx rfl (pc0 := 43) (pc' := 47) rfl (hb hby at_43) (by decide) (by decide) ?_
        exact k
    )
  have go6 := go5.step (C := s₁.setTop (mkF m 51 #[.val (.int p0), .val (.int p1), .val (.int zk), .val (.long ((1 : Int64) <<< (zk &&& 0x3f).toInt64)), .second, .val (.double (FP.ddiv (FP.i2d p0) (FP.l2d ((1 : Int64) <<< (zk &&& 0x3f).toInt64)))), .second, .val (.long (p0.toInt64)), .second, .val (.int (if (p0.toInt64) < ((-90 : Int64) * ((1 : Int64) <<< (zk &&& 0x3f).toInt64)) then (0 : Int32) else (if ((90 : Int64) * ((1 : Int64) <<< (zk &&& 0x3f).toInt64)) < (p0.toInt64) then (0 : Int32) else (1 : Int32))))] [(.double (FP.ddiv (FP.i2d p0) (FP.l2d ((1 : Int64) <<< (zk &&& 0x3f).toInt64))))])) (fun t k => by
    show Steps p.tables e below (s₁.setTop (mkF m 47 #[.val (.int p0), .val (.int p1), .val (.int zk), .val (.long ((1 : Int64) <<< (zk &&& 0x3f).toInt64)), .second, .val (.double (FP.ddiv (FP.i2d p0) (FP.l2d ((1 : Int64) <<< (zk &&& 0x3f).toInt64)))), .second, .val (.long (p0.toInt64)), .second, .unset] [(.int (if (p0.toInt64) < ((-90 : Int64) * ((1 : Int64) <<< (zk &&& 0x3f).toInt64)) then (0 : Int32) else (if ((90 : Int64) * ((1 : Int64) <<< (zk &&& 0x3f).toInt64)) < (p0.toInt64) then (0 : Int32) else (1 : Int32))))])) _
    refine XS.istore X0.here hx rfl (hb hby at_47) rfl (l' := #[.val (.int p0), .val (.int p1), .val (.int zk), .val (.long ((1 : Int64) <<< (zk &&& 0x3f).toInt64)), .second, .val (.double (FP.ddiv (FP.i2d p0) (FP.l2d ((1 : Int64) <<< (zk &&& 0x3f).toInt64)))), .second, .val (.long (p0.toInt64)), .second, .val (.int (if (p0.toInt64) < ((-90 : Int64) * ((1 : Int64) <<< (zk &&& 0x3f).toInt64)) then (0 : Int32) else (if ((90 : Int64) * ((1 : Int64) <<< (zk &&& 0x3f).toInt64)) < (p0.toInt64) then (0 : Int32) else (1 : Int32))))]) rfl ?_
    show Steps p.tables e below (s₁.setTop (mkF m 49 #[.val (.int p0), .val (.int p1), .val (.int zk), .val (.long ((1 : Int64) <<< (zk &&& 0x3f).toInt64)), .second, .val (.double (FP.ddiv (FP.i2d p0) (FP.l2d ((1 : Int64) <<< (zk &&& 0x3f).toInt64)))), .second, .val (.long (p0.toInt64)), .second, .val (.int (if (p0.toInt64) < ((-90 : Int64) * ((1 : Int64) <<< (zk &&& 0x3f).toInt64)) then (0 : Int32) else (if ((90 : Int64) * ((1 : Int64) <<< (zk &&& 0x3f).toInt64)) < (p0.toInt64) then (0 : Int32) else (1 : Int32))))] [])) _
    refine XS.dload X0.here hx rfl (hb hby at_49) rfl ?_
    exact k)
  obtain ⟨_, _, ⟨T7, L7, k7, n7⟩, -, X7, ⟨Lc7, hQ7, l7, y7, z7⟩, st7⟩ := Jvm.LawKit.callS X0 hx (y := (⟨"com/example/packetsieve/packetsieve/packet/Position", "isLatitude", "(D)Z"⟩ : MethodName)) hown (mvT hZ (hw _ (List.mem_of_getElem? (i := 2) rfl))) (mvT hZ (hw _ (List.mem_of_getElem? (i := 3) rfl))) (mvT hZ (hw _ (List.mem_of_getElem? (i := 4) rfl))) (mvT hZ (hw _ (List.mem_of_getElem? (i := 5) rfl))) (by decide) (backOf (W := 0) (rm1 l Z a0 hw [] (FP.ddiv (FP.i2d p0) (FP.l2d ((1 : Int64) <<< (zk &&& 0x3f).toInt64))) h0 n0 Z0 ) hZ (hw _ (List.mem_of_getElem? (i := 5) rfl)) (hw _ (List.mem_of_getElem? (i := 4) rfl)) (by decide) (by decide)) (g := (mkF m 51 #[.val (.int p0), .val (.int p1), .val (.int zk), .val (.long ((1 : Int64) <<< (zk &&& 0x3f).toInt64)), .second, .val (.double (FP.ddiv (FP.i2d p0) (FP.l2d ((1 : Int64) <<< (zk &&& 0x3f).toInt64)))), .second, .val (.long (p0.toInt64)), .second, .val (.int (if (p0.toInt64) < ((-90 : Int64) * ((1 : Int64) <<< (zk &&& 0x3f).toInt64)) then (0 : Int32) else (if ((90 : Int64) * ((1 : Int64) <<< (zk &&& 0x3f).toInt64)) < (p0.toInt64) then (0 : Int32) else (1 : Int32))))] [(.double (FP.ddiv (FP.i2d p0) (FP.l2d ((1 : Int64) <<< (zk &&& 0x3f).toInt64))))])) rfl (by rw [hml]; rfl) (argsL := [(.double (FP.ddiv (FP.i2d p0) (FP.l2d ((1 : Int64) <<< (zk &&& 0x3f).toInt64))))]) (rest := []) (lenOf pd_rm0_0 rfl) rfl (by show 2 * 0 + _ ≤ _; exact Nat.le_of_eq rfl) (hb hby at_51) (fun _ _ => ⟨rfl, e0, (by decide : 0 + 0 ≤ _), (by decide : 0 + 0 ≤ _)⟩)
  dsimp only [Pt.U, Pt.locs, Pt.cells, Pt.slots] at X7 l7 y7 z7 st7 hQ7
  rw [l7, y7, z7] at X7
  obtain ⟨rfl, N7q, e7⟩ := hQ7
  have N7 := Fr.app N0 N7q
  have go7 := go6.step (C := T7.setTop (mkF m 54 #[.val (.int p0), .val (.int p1), .val (.int zk), .val (.long ((1 : Int64) <<< (zk &&& 0x3f).toInt64)), .second, .val (.double (FP.ddiv (FP.i2d p0) (FP.l2d ((1 : Int64) <<< (zk &&& 0x3f).toInt64)))), .second, .val (.long (p0.toInt64)), .second, .val (.int (if (p0.toInt64) < ((-90 : Int64) * ((1 : Int64) <<< (zk &&& 0x3f).toInt64)) then (0 : Int32) else (if ((90 : Int64) * ((1 : Int64) <<< (zk &&& 0x3f).toInt64)) < (p0.toInt64) then (0 : Int32) else (1 : Int32))))] [(.int (own_lat (FP.ddiv (FP.i2d p0) (FP.l2d ((1 : Int64) <<< (zk &&& 0x3f).toInt64)))))])) (fun t k => st7 t k)
  have go9 := go7.step (C := T7.setTop (mkF m 64 #[.val (.int p0), .val (.int p1), .val (.int zk), .val (.long ((1 : Int64) <<< (zk &&& 0x3f).toInt64)), .second, .val (.double (FP.ddiv (FP.i2d p0) (FP.l2d ((1 : Int64) <<< (zk &&& 0x3f).toInt64)))), .second, .val (.long (p0.toInt64)), .second, .val (.int (if (p0.toInt64) < ((-90 : Int64) * ((1 : Int64) <<< (zk &&& 0x3f).toInt64)) then (0 : Int32) else (if ((90 : Int64) * ((1 : Int64) <<< (zk &&& 0x3f).toInt64)) < (p0.toInt64) then (0 : Int32) else (1 : Int32))))] [(.int (1 : Int32))])) (fun t k => by
    show Steps p.tables e below (T7.setTop (mkF m 54 #[.val (.int p0), .val (.int p1), .val (.int zk), .val (.long ((1 : Int64) <<< (zk &&& 0x3f).toInt64)), .second, .val (.double (FP.ddiv (FP.i2d p0) (FP.l2d ((1 : Int64) <<< (zk &&& 0x3f).toInt64)))), .second, .val (.long (p0.toInt64)), .second, .val (.int (if (p0.toInt64) < ((-90 : Int64) * ((1 : Int64) <<< (zk &&& 0x3f).toInt64)) then (0 : Int32) else (if ((90 : Int64) * ((1 : Int64) <<< (zk &&& 0x3f).toInt64)) < (p0.toInt64) then (0 : Int32) else (1 : Int32))))] [(.int (own_lat (FP.ddiv (FP.i2d p0) (FP.l2d ((1 : Int64) <<< (zk &&& 0x3f).toInt64)))))])) _
    refine XS.iload X7.here hx rfl (hb hby at_54) rfl ?_
    show Steps p.tables e below (T7.setTop (mkF m 56 #[.val (.int p0), .val (.int p1), .val (.int zk), .val (.long ((1 : Int64) <<< (zk &&& 0x3f).toInt64)), .second, .val (.double (FP.ddiv (FP.i2d p0) (FP.l2d ((1 : Int64) <<< (zk &&& 0x3f).toInt64)))), .second, .val (.long (p0.toInt64)), .second, .val (.int (if (p0.toInt64) < ((-90 : Int64) * ((1 : Int64) <<< (zk &&& 0x3f).toInt64)) then (0 : Int32) else (if ((90 : Int64) * ((1 : Int64) <<< (zk &&& 0x3f).toInt64)) < (p0.toInt64) then (0 : Int32) else (1 : Int32))))] [(.int (if (p0.toInt64) < ((-90 : Int64) * ((1 : Int64) <<< (zk &&& 0x3f).toInt64)) then (0 : Int32) else (if ((90 : Int64) * ((1 : Int64) <<< (zk &&& 0x3f).toInt64)) < (p0.toInt64) then (0 : Int32) else (1 : Int32)))), (.int (own_lat (FP.ddiv (FP.i2d p0) (FP.l2d ((1 : Int64) <<< (zk &&& 0x3f).toInt64)))))])) _
    refine XS.icmpNo X7.here hx rfl (hb hby at_56) rfl (teq (own_fin hzk : (own_lat (FP.ddiv (FP.i2d p0) (FP.l2d ((1 : Int64) <<< (zk &&& 0x3f).toInt64)))) = (if (p0.toInt64) < ((-90 : Int64) * ((1 : Int64) <<< (zk &&& 0x3f).toInt64)) then (0 : Int32) else (if ((90 : Int64) * ((1 : Int64) <<< (zk &&& 0x3f).toInt64)) < (p0.toInt64) then (0 : Int32) else (1 : Int32))))).2 ?_
    show Steps p.tables e below (T7.setTop (mkF m 59 #[.val (.int p0), .val (.int p1), .val (.int zk), .val (.long ((1 : Int64) <<< (zk &&& 0x3f).toInt64)), .second, .val (.double (FP.ddiv (FP.i2d p0) (FP.l2d ((1 : Int64) <<< (zk &&& 0x3f).toInt64)))), .second, .val (.long (p0.toInt64)), .second, .val (.int (if (p0.toInt64) < ((-90 : Int64) * ((1 : Int64) <<< (zk &&& 0x3f).toInt64)) then (0 : Int32) else (if ((90 : Int64) * ((1 : Int64) <<< (zk &&& 0x3f).toInt64)) < (p0.toInt64) then (0 : Int32) else (1 : Int32))))] [])) _
    refine XS.iconst X7.here hx rfl (hb hby at_59) ?_
    show Steps p.tables e below (T7.setTop (mkF m 60 #[.val (.int p0), .val (.int p1), .val (.int zk), .val (.long ((1 : Int64) <<< (zk &&& 0x3f).toInt64)), .second, .val (.double (FP.ddiv (FP.i2d p0) (FP.l2d ((1 : Int64) <<< (zk &&& 0x3f).toInt64)))), .second, .val (.long (p0.toInt64)), .second, .val (.int (if (p0.toInt64) < ((-90 : Int64) * ((1 : Int64) <<< (zk &&& 0x3f).toInt64)) then (0 : Int32) else (if ((90 : Int64) * ((1 : Int64) <<< (zk &&& 0x3f).toInt64)) < (p0.toInt64) then (0 : Int32) else (1 : Int32))))] [(.int (1 : Int32))])) _
    refine XS.goto X7.here hx rfl (pc0 := 60) (pc' := 64) rfl (hb hby at_60) (by decide) (by decide) ?_
    exact k)
  obtain ⟨fs, hr, hrun, hended, hW, hsame⟩ := X7.leave (v := some (.int (1 : Int32))) (fun h => by rw [Bd.returns] at h; cases h)
  refine ⟨_, _, go9 _ ?_, hrun, hended, _, _, rfl, ?_, ⟨_, rfl⟩, hW, hsame.mono (by decide) (by decide)⟩
  · exact retN X7 hx (t := .boolean) Bd.returns (by simp) (hb hby at_64) hr
  · show Q_rm0 Z p0 p1 h0 n0 _ T7.heap _
    rw [e7]
    exact ⟨rfl, N7⟩
set_option maxRecDepth 65536 in
set_option maxHeartbeats 40000000 in
theorem comes_1 {Post : Tables → Env → Array Value → State → Outcome → State → Prop} (hpost : ∀ tb e args s v u, (limb_1_1.after args s (.returned v) u = true ∧ limb_1_2.after args s (.returned v) u = true ∧ True) → FrameEnd s (.returned v) u (Jvm.fieldLocs frame_1_writes args s ++ Jvm.arrayLocs frame_1_arrays args s ++ Jvm.staticLocs frame_1_statics s) 0 0 → Post tb e args s (.returned v) u) :
    ArmFor flags0 classFile x code maxLocals ret World_1 tables_1 room_1 Calls_1 rest_1 Pre_1 Post := by
  intro l hfl _ _ p e ha hc hk s m args below hf hA hF happ hP
  obtain ⟨hcalls, hrest, hpre⟩ := hP
  obtain ⟨-, -, -, hnamed, -, -, -, hat⟩ := (Spec.applies_iff hf).mp happ
  obtain ⟨hg, hn⟩ := and_e (Cond.before_iff.mp (show (Jvm.Cond.and given_1 narrow_1).before args s = true from hpre))
  obtain ⟨gg0, gr0⟩ := and_e hg
  obtain ⟨gg1, gr1⟩ := and_e gr0
  obtain ⟨w0, w1, rfl⟩ : ∃ w0 w1 : Value, args = #[w0, w1] := by
    have hs : args.size = 2 := by simpa [Cond.value, given_1] using gg0
    obtain ⟨L⟩ := args
    match L, hs with
    | [w0, w1], _ => exact ⟨w0, w1, rfl⟩
  have hw := fun d (hd : d ∈ tables_1) => atoms_spec (ws := Jvm.Cond.code x code maxLocals ret :: tables_1) hat d (List.mem_cons_of_mem _ hd)
  have hfit : Fit s := fun {y c} hc i hi => by
    obtain ⟨ha, rfl⟩ := Array.getElem?_eq_some_iff.mp hc
    have q := List.all_eq_true.mp ((Array.all_eq_true_iff_forall_mem.mp hF) _ (Array.getElem_mem ha)) i (List.mem_range.mpr hi)
    simpa [Array.getElem?_eq_getElem hi] using q
  obtain ⟨i0, ei0⟩ := is_v gg1
  obtain rfl : w0 = (.int i0) := Option.some.inj ei0
  obtain ⟨i1, ei1⟩ := is_v gr1
  obtain rfl : w1 = (.int i1) := Option.some.inj ei1
  obtain ⟨n, o, h1, h2, h3, _, L, rfl, ⟨rfl, N⟩, hq⟩ := rm0 l s _ hw tables_1 i0 i1  s.heap s.heap.size (Nat.le_refl _)  p e ha hc hk s m _ below hf ((Spec.applies_iff_loose hf).mp happ).1 ⟨rfl, State.Warmed39.refl s, rfl⟩ trivial
  refine ⟨n, _, h1, h2, h3, hpost _ _ _ _ _ _ ⟨Cond.after_iff.mpr rfl, Cond.after_iff.mpr (eq_i res_at (Term.int_eval (1)) rfl), trivial⟩ ⟨hq.1, hq.2.1, (hq.2.2.sift fun y hy => Or.inr (N y hy)).mono (by decide) (by decide)⟩⟩
theorem main_1_1 : Claimed_1_1 := comes_1 fun _ _ _ _ _ _ h hF => ⟨h.1, hF⟩
theorem main_1_2 : Claimed_1_2 := comes_1 fun _ _ _ _ _ _ h hF => ⟨h.2.1, hF⟩
end Jvm.Pilot.@@N@@
namespace Jvm.Pilot.@@N@@
open Jvm Jvm.ClassFile Sem Op Lib Jvm.Free Jvm.Stand Jvm.Pilot.@@N@@.Jvm.D
/-! MADE BY PROGRAM (witnessworld.py) out of the Statement's table words and the real class files: 10 classes; the members and pool entries that the words name. The judged class is class 1, her method 1. -/
namespace start1
open Jvm.ClassFile
def u (s : String) : CpInfo := .utf8 (stringToUtf16 s)
/-- a pool by its gaps: so many unusable entries, then the entry; so many at the end -/
def gap : Nat → List CpInfo → List CpInfo
  | 0, r => r
  | n + 1, r => .unusable :: gap n r
def poolList (es : List (Nat × CpInfo)) (last : Nat) : List CpInfo := es.foldr (fun e r => gap e.1 (e.2 :: r)) (gap last [])
def pool (es : List (Nat × CpInfo)) (last : Nat) : Array CpInfo := ⟨poolList es last⟩
def fileOf (pool : Array CpInfo) (this : Nat) (attrs : Array Attribute := #[]) (ms : Array MethodInfo := #[]) (fl : Nat := 33) (sup : Nat := 0) (ifs : Array Nat := #[]) (fds : Array FieldInfo := #[]) : ClassFile where
  minorVersion := 0
  majorVersion := 65
  constantPool := pool
  accessFlags := fl
  thisClass := this
  superClass := sup
  interfaces := ifs
  fields := fds
  methods := ms
  attributes := attrs
def plain (name : String) (sup : Option ClassId) : Class where
  name := name
  kind := .ordinary
  loader := none
  accessFlags := 33
  super := sup
  interfaces := #[]
  cf := none
  fields := #[]
  methods := #[]
  instanceTypes := #[]
  staticTypes := #[]
  resolved := #[]
  callSites := []
  init := .initialized
  statics := none
  mirror := none

def pool0 : Array CpInfo := pool [(5, u "<init>"), (0, u "()V"), (1, .class_ 10), (1, u "java/lang/Object")] 113

def k0m0 : Method := { name := "<init>", desc := "()V", sig := { parameters := [], returnType := none }, accessFlags := 1, code := none }
/-- java/lang/Object -/
def k0 : Class := { plain "java/lang/Object" none with
  accessFlags := 33
  interfaces := #[]
  cf := some (fileOf pool0 8 #[] #[{ accessFlags := 1, nameIndex := 5, descriptorIndex := 6, attributes := #[] }] 33 0 #[] #[])
  fields := #[]
  methods := #[k0m0]
  instanceTypes := #[]
  staticTypes := #[]
  resolved := Array.replicate 124 none
  statics := none }

def pool1 : Array CpInfo := pool [(2, .class_ 4), (1, u "java/lang/Object"), (0, u "<init>"), (0, u "()V"), (0, .long 18446744073709551526), (1, .long 90), (1, .methodref 12 13), (0, .class_ 14), (0, .nameAndType 15 16), (0, u "com/example/packetsieve/packetsieve/packet/Position"), (0, u "isLatitude"), (0, u "(D)Z"), (0, .class_ 18), (0, u "com/example/packetsieve/packetsieve/packet/PositionIsLatitudePinLaw"), (2, u "law"), (0, u "(II)Z")] 3

def k1m0 : Method := { name := "<init>", desc := "()V", sig := { parameters := [], returnType := none }, accessFlags := 1, code := none }
def k1c1 : Code := { maxStack := 6, maxLocals := 10, code := code, exceptionTable := #[], attributes := #[] }
def k1m1 : Method := { name := "law", desc := "(II)Z", sig := { parameters := [.int, .int], returnType := some .boolean }, accessFlags := 9, code := some k1c1 }
/-- com/example/packetsieve/packetsieve/packet/PositionIsLatitudePinLaw -/
def k1 : Class := { plain "com/example/packetsieve/packetsieve/packet/PositionIsLatitudePinLaw" (some 0) with
  accessFlags := 49
  interfaces := #[]
  cf := some (fileOf pool1 17 #[] #[{ accessFlags := 1, nameIndex := 5, descriptorIndex := 6, attributes := #[] }, { accessFlags := 9, nameIndex := 21, descriptorIndex := 22, attributes := #[] }] 49 2 #[] #[])
  fields := #[]
  methods := #[k1m0, k1m1]
  instanceTypes := #[]
  staticTypes := #[]
  resolved := Array.replicate 26 none
  statics := none }

def pool2 : Array CpInfo := pool [(2, .class_ 4), (1, u "java/lang/Object"), (0, u "<init>"), (0, u "()V"), (0, .class_ 8), (0, u "java/lang/Record")] 13

def k2m0 : Method := { name := "<init>", desc := "()V", sig := { parameters := [], returnType := none }, accessFlags := 4, code := none }
/-- java/lang/Record -/
def k2 : Class := { plain "java/lang/Record" (some 0) with
  accessFlags := 1057
  interfaces := #[]
  cf := some (fileOf pool2 7 #[] #[{ accessFlags := 4, nameIndex := 5, descriptorIndex := 6, attributes := #[] }] 1057 2 #[] #[])
  fields := #[]
  methods := #[k2m0]
  instanceTypes := #[]
  staticTypes := #[]
  resolved := Array.replicate 22 none
  statics := none }

def pool3 : Array CpInfo := pool [(2, .class_ 4), (1, u "java/lang/Record"), (3, .class_ 10), (1, u "com/example/packetsieve/packetsieve/packet/Position"), (13, u "latitude"), (0, u "D"), (2, u "longitude"), (2, u "isLatitude"), (0, u "(D)Z"), (3, .double 13859405640767635456), (1, .double 4636033603912859648), (73, u "KM_PER_DEGREE"), (1, u "LATITUDE_MARGIN")] 43

def k3c0 : Code := { maxStack := 4, maxLocals := 2, code := prog_26_method_3_code, exceptionTable := #[], attributes := #[] }
def k3m0 : Method := { name := "isLatitude", desc := "(D)Z", sig := { parameters := [.double], returnType := some .boolean }, accessFlags := 9, code := some k3c0 }
/-- com/example/packetsieve/packetsieve/packet/Position -/
def k3 : Class := { plain "com/example/packetsieve/packetsieve/packet/Position" (some 2) with
  accessFlags := 49
  interfaces := #[]
  cf := some (fileOf pool3 8 #[] #[{ accessFlags := 9, nameIndex := 31, descriptorIndex := 32, attributes := #[] }] 49 2 #[] #[{ accessFlags := 18, nameIndex := 24, descriptorIndex := 25, attributes := #[] }, { accessFlags := 18, nameIndex := 28, descriptorIndex := 25, attributes := #[] }, { accessFlags := 25, nameIndex := 112, descriptorIndex := 25, attributes := #[] }, { accessFlags := 26, nameIndex := 114, descriptorIndex := 25, attributes := #[] }])
  fields := #[{ name := "latitude", type := .double, accessFlags := 18, slot := 0, constantValue := 0 }, { name := "longitude", type := .double, accessFlags := 18, slot := 1, constantValue := 0 }, { name := "KM_PER_DEGREE", type := .double, accessFlags := 25, slot := 0, constantValue := 0 }, { name := "LATITUDE_MARGIN", type := .double, accessFlags := 26, slot := 1, constantValue := 0 }]
  methods := #[k3m0]
  instanceTypes := #[.double, .double]
  staticTypes := #[.double, .double]
  resolved := Array.replicate 158 none
  statics := none }

def pool4 : Array CpInfo := pool [(1, u "java/lang/Cloneable"), (0, .class_ 1), (0, u "java/lang/Object"), (0, .class_ 3)] 3

/-- java/lang/Cloneable -/
def k4 : Class := { plain "java/lang/Cloneable" (some 0) with
  accessFlags := 1537
  interfaces := #[]
  cf := some (fileOf pool4 2 #[] #[] 1537 4 #[] #[])
  fields := #[]
  methods := #[]
  instanceTypes := #[]
  staticTypes := #[]
  resolved := Array.replicate 8 none
  statics := none }

def pool5 : Array CpInfo := pool [(1, u "java/io/Serializable"), (0, .class_ 1), (0, u "java/lang/Object"), (0, .class_ 3)] 3

/-- java/io/Serializable -/
def k5 : Class := { plain "java/io/Serializable" (some 0) with
  accessFlags := 1537
  interfaces := #[]
  cf := some (fileOf pool5 2 #[] #[] 1537 4 #[] #[])
  fields := #[]
  methods := #[]
  instanceTypes := #[]
  staticTypes := #[]
  resolved := Array.replicate 8 none
  statics := none }

/-- the primitive byte -/
def k6 : Class := { plain "byte" none with kind := .primitive 'B', accessFlags := 0x411 }
/-- [B -/
def k7 : Class := { plain "[B" (some 0) with kind := .array 6 .byte, interfaces := #[4, 5], accessFlags := 1041 }

/-- the primitive int -/
def k8 : Class := { plain "int" none with kind := .primitive 'I', accessFlags := 0x411 }
/-- [I -/
def k9 : Class := { plain "[I" (some 0) with kind := .array 8 .int, interfaces := #[4, 5], accessFlags := 1041 }

def heap : Heap := #[]
def classes : Array Class := #[k0, k1, k2, k3, k4, k5, k6, k7, k8, k9]
def interned : List (Array UInt16 × Addr) := []
def slotsUsed : Nat := 0
def theMethod : MethodId := ⟨1, 1⟩
def args0 : Array Value := #[.int 5, .int 7]
def aboutOver (below : List Frame) : State where
  vm := { classes := classes, interned := interned.toArray }
  heap := heap
  slotsUsed := slotsUsed
  threads := #[{ frames := .invoking theMethod args0 :: below }]
def below0 : List Frame := [.native { method := ⟨0, 0⟩, args := #[] }]
def about1 : State := aboutOver below0
def p0 : Program := .bare "" "" ""
def e0 : Env := launch0.env 0 0 0
theorem w_frames : about1.frames = Frame.invoking theMethod args0 :: below0 := rfl
set_option maxRecDepth 65536 in
theorem w_args : argsFit about1.vm theMethod args0 = true := by decide +kernel
set_option maxRecDepth 65536 in
theorem w_heap : heapFits about1 = true := by decide +kernel
set_option maxRecDepth 65536 in
theorem w_runnable : about1.curStatus? = some .runnable := by decide +kernel
set_option maxRecDepth 65536 in
theorem w_alone : about1.alone = true := by decide +kernel
set_option maxRecDepth 65536 in
theorem w_named : about1.methodNamed? x = some theMethod := by decide +kernel
set_option maxRecDepth 65536 in
theorem w_hears : about1.hears theMethod below0 = true := by decide +kernel
set_option maxRecDepth 65536 in
theorem w_ripe : about1.ripe theMethod args0 below0 = true := by decide +kernel
theorem w_running : about1.status = .running := rfl
set_option maxRecDepth 65536 in
theorem w_room : about1.hasRoom e0.platform room_1 = true :=
  launch0.hasRoom_least _ room_1 (by decide +kernel) (by decide +kernel) (by decide +kernel) (by decide +kernel) (by decide +kernel) (by decide +kernel)
theorem allAtoms_all (ts : List Jvm.Cond) (a : Array Jvm.Value) (st : Jvm.State) : (allAtoms ts).before a st = ts.all (fun c => c.before a st) := by
  induction ts with
  | nil => rfl
  | cons c t ih =>
    show (Jvm.Cond.and c (allAtoms t)).before a st = _
    rw [Jvm.Cond.before_and, ih, List.all_cons]
def words1 : List Jvm.Cond := Jvm.Cond.code x code maxLocals ret :: tables_1
/-- a 'code' word, met by the world's own term for the bytes: nothing is compared byte by byte -/
theorem code_word {y : MethodName} {bytes : ByteArray} {mx : Nat} {rt : Option FieldType} {a : Array Value} {s : State} {m : MethodId} {meth : Method} {c : Code} (h1 : s.methodNamed? y = some m) (h2 : s.vm.method? m = some meth) (h3 : meth.code = some c) (h4 : c.code = bytes)
    (h5 : (c.maxLocals == mx && c.exceptionTable.isEmpty && decide (c.maxStack ≤ mostOperands) && decide (meth.sig.returnType = rt) && !meth.locks && decide (parseMethodDescriptor y.desc = some meth.sig)) = true) : (Jvm.Cond.code y bytes mx rt).before a s = true := by
  simp only [Bool.and_eq_true, beq_iff_eq, Bool.not_eq_true', decide_eq_true_eq] at h5
  obtain ⟨⟨⟨⟨⟨g1, g2⟩, g3⟩, g4⟩, g5⟩, g6⟩ := h5
  simp [Cond.before, Cond.holds, Cond.value, h1, h2, h3, h4, g1, g2, g3, g4, g5, g6]
def isCode : Jvm.Cond → Bool
  | .code _ _ _ _ => true
  | _ => false
theorem all_split {L : List Jvm.Cond} {P : Jvm.Cond → Bool} (h1 : L.all (fun c => isCode c || P c) = true) (h2 : ∀ c ∈ L.filter isCode, P c = true) : L.all P = true := by
  refine List.all_eq_true.mpr fun c hc => ?_
  have h := List.all_eq_true.mp h1 c hc
  rcases Bool.eq_false_or_eq_true (isCode c) with hi | hi
  · exact h2 c (List.mem_filter.mpr ⟨hc, hi⟩)
  · simpa [hi] using h
set_option maxRecDepth 65536 in
theorem w_c0 : (Jvm.Cond.code x code maxLocals ret).before args0 about1 = true := code_word (m := ⟨1, 1⟩) (meth := k1m1) (c := k1c1) (by decide +kernel) rfl rfl rfl (by decide +kernel)
set_option maxRecDepth 65536 in
theorem w_c1 : (Jvm.Cond.code ({ cls := "com/example/packetsieve/packetsieve/packet/Position", name := "isLatitude", desc := "(D)Z" } : Jvm.MethodName) prog_26_method_3_code (2 : Nat) (Option.some Jvm.ClassFile.FieldType.boolean)).before args0 about1 = true := code_word (m := ⟨3, 0⟩) (meth := k3m0) (c := k3c0) (by decide +kernel) rfl rfl rfl (by decide +kernel)
def codes1 : List Jvm.Cond := [Jvm.Cond.code x code maxLocals ret, Jvm.Cond.code ({ cls := "com/example/packetsieve/packetsieve/packet/Position", name := "isLatitude", desc := "(D)Z" } : Jvm.MethodName) prog_26_method_3_code (2 : Nat) (Option.some Jvm.ClassFile.FieldType.boolean)]
set_option maxRecDepth 65536 in
theorem codes_eq : words1.filter isCode = codes1 := rfl
theorem w_codes : ∀ c ∈ words1.filter isCode, c.before args0 about1 = true := by
  rw [codes_eq]
  intro c hc
  simp only [codes1, List.mem_cons, List.not_mem_nil, or_false] at hc
  rcases hc with rfl | rfl
  · exact w_c0
  · exact w_c1
set_option maxRecDepth 65536 in
theorem w_t1 : words1.all (fun c => isCode c || c.before args0 about1) = true := by decide +kernel
theorem w_tables : (allAtoms (Jvm.Cond.code x code maxLocals ret :: tables_1)).before args0 about1 = true := by
  rw [allAtoms_all]
  show words1.all (fun c => c.before args0 about1) = true
  refine all_split ?_ w_codes
  rw [w_t1]
set_option maxRecDepth 65536 in
theorem w_case : (Jvm.Cond.and given_1 narrow_1).before args0 about1 = true := by decide +kernel
theorem w_applies : (headSpec (Jvm.Cond.code x code maxLocals ret :: tables_1) room_1).applies x e0.platform about1 = true :=
  (Spec.applies_iff w_frames).mpr ⟨w_running, w_runnable, w_alone, w_named, w_hears, w_ripe, w_room, w_tables⟩
theorem atStart : AtStart classFile x code maxLocals ret World_1 tables_1 room_1 Calls_1 rest_1 Pre_1 launch0 p0 e0 about1 theMethod args0 below0 :=
  ⟨lists_1, trivial, launch0.admits_env _ _ _, launch0.least_env, fairChoices_fair.cas, fairChoices_fair.clock, w_frames, w_args, w_heap, w_applies, trivial, trivial, w_case⟩
end start1
theorem witness_1 : WitnessClaimed_1 := ⟨start1.p0, start1.e0, start1.about1, start1.theMethod, start1.args0, start1.below0, start1.atStart⟩
end Jvm.Pilot.@@N@@
