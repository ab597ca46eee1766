import JvmDerived
import JvmDerived.Pilot.@@N@@Statement
import JvmDerived.Pilot.@@N@@Code
set_option linter.unusedVariables false
set_option linter.unusedSimpArgs false
namespace Jvm.Pilot.@@N@@
open Jvm Jvm.ClassFile Sem Op Lib Jvm.Free Jvm.Stand Jvm.LawKit Jvm.RoadKit Bundle Jvm.Pilot.@@N@@.Jvm.D
def own_usr (x y : Int32) : Int32 := (x.toUInt32 >>> (y &&& 31).toUInt32).toInt32
def own_usrL (x : Int64) (y : Int32) : Int64 := (x.toUInt64 >>> (y &&& 0x3f).toInt64.toUInt64).toInt64
/-- where the run came from, where it stands -/
def Go (p : Program) (e : Env) (below : List Frame) (A B : State) : Prop := ∀ t, Steps p.tables e below B t → Steps p.tables e below A t
theorem Go.step {p : Program} {e : Env} {below : List Frame} {A B C : State} (g : Go p e below A B) (h : ∀ t, Steps p.tables e below C t → Steps p.tables e below B t) : Go p e below A C := fun t k => g t (h t k)
theorem Go.tr {p : Program} {e : Env} {below : List Frame} {A B C : State} (g : Go p e below A B) (h : Steps p.tables e below B C) : Go p e below A C := fun t k => g t (h.trans k)
section Rets
variable {p : Program} {l : Launch} {e : Env} {R : Room} {s : State} {m : MethodId} {args : Array Value} {below : List Frame} {meth : Method} {c : Code} {T : State} {locs : List Loc} {cells slots : Nat}
theorem own_retI (X : Stand p l e R s m args below meth c T locs cells slots) (hx : p.tables.exec = Jvm.exec) {pc : Nat} {Ls : Array Slot} {z : Int32} {rest : List Value} (hret : meth.sig.returnType = some .int) (hd : decode c.code pc = .ok (.ireturn, 1)) {fs : List Frame}
    (hl : ∀ (f : JFrame) (acts : List Action), f.method = m → f.locked = none → f.entered = [] → (doReturn e (T.setTop f) acts (some (.int z))).1 = T.setFrames fs) : Steps p.tables e below (T.setTop (mkF m pc Ls (.int z :: rest))) (T.setFrames fs) :=
  retOut X hx (t := .int) hret rfl (Or.inl ⟨rfl, Or.inl rfl, z, rfl⟩) hd hl
theorem own_retL (X : Stand p l e R s m args below meth c T locs cells slots) (hx : p.tables.exec = Jvm.exec) {pc : Nat} {Ls : Array Slot} {z : Int64} {rest : List Value} (hret : meth.sig.returnType = some .long) (hd : decode c.code pc = .ok (.lreturn, 1)) {fs : List Frame}
    (hl : ∀ (f : JFrame) (acts : List Action), f.method = m → f.locked = none → f.entered = [] → (doReturn e (T.setTop f) acts (some (.long z))).1 = T.setFrames fs) : Steps p.tables e below (T.setTop (mkF m pc Ls (.long z :: rest))) (T.setFrames fs) :=
  retOut X hx (t := .long) hret rfl (Or.inr (Or.inl ⟨rfl, rfl, z, rfl⟩)) hd hl
theorem own_retA (X : Stand p l e R s m args below meth c T locs cells slots) (hx : p.tables.exec = Jvm.exec) {t : FieldType} {pc : Nat} {Ls : Array Slot} {z : Addr} {rest : List Value} (hret : meth.sig.returnType = some t) (ht : t.isReference = true) (hn : narrow t (.ref z) = .ref z) (hd : decode c.code pc = .ok (.areturn, 1)) {fs : List Frame}
    (hl : ∀ (f : JFrame) (acts : List Action), f.method = m → f.locked = none → f.entered = [] → (doReturn e (T.setTop f) acts (some (.ref z))).1 = T.setFrames fs) : Steps p.tables e below (T.setTop (mkF m pc Ls (.ref z :: rest))) (T.setFrames fs) :=
  retOut X hx hret hn (Or.inr (Or.inr (Or.inr (Or.inr ⟨rfl, ht, rfl⟩)))) hd hl
end Rets
theorem own_mask (x m : Int32) (h : 0 ≤ m.toInt) : 0 ≤ (x &&& m).toInt ∧ (x &&& m).toInt ≤ m.toInt := by
  have h1 : m.toBitVec.toNat < 2 ^ 31 := by
    have := m.toBitVec.isLt
    have e : m.toInt = m.toBitVec.toInt := rfl
    rw [e, BitVec.toInt_eq_toNat_cond] at h
    split at h <;> omega
  have h2 : (x &&& m).toBitVec.toNat ≤ m.toBitVec.toNat := by
    show (x.toBitVec &&& m.toBitVec).toNat ≤ _
    rw [BitVec.toNat_and]; exact Nat.and_le_right
  have e1 : (x &&& m).toInt = (x &&& m).toBitVec.toInt := rfl
  have e2 : m.toInt = m.toBitVec.toInt := rfl
  rw [e1, e2, BitVec.toInt_eq_toNat_cond, BitVec.toInt_eq_toNat_cond, if_pos (by omega), if_pos (by omega)]
  omega
theorem own_len {x z : Int32} (hz : z = (20 : Int32) + (4 : Int32) * ((x &&& (2147483647 : Int32)) % (4194299 : Int32))) : ¬ z < (20 : Int32) ∧ ¬ (16777215 : Int32) < z ∧ z % (4 : Int32) = (0 : Int32) := by
  have h1 := own_mask x 2147483647 (by decide)
  generalize x &&& (2147483647 : Int32) = y at *
  have h2 : (y % (4194299 : Int32)).toInt = y.toInt.tmod 4194299 := Int32.toInt_mod _ _
  rw [Int.tmod_eq_emod_of_nonneg h1.1] at h2
  generalize y % (4194299 : Int32) = k at *
  have h3 := c_imul 4 k
  have h4 := c_iadd 20 (4 * k)
  have r3 := rng32 (4 * k); have r4 := rng32 ((20 : Int32) + 4 * k)
  have e4 : (4 : Int32).toInt = 4 := rfl
  have e20 : (20 : Int32).toInt = 20 := rfl
  have em : (16777215 : Int32).toInt = 16777215 := rfl
  rw [← hz] at h4 r4
  rw [e4] at h3; rw [e20] at h4
  have hz' : z.toInt = 20 + 4 * k.toInt := by omega
  refine ⟨?_, ?_, ?_⟩
  · rw [Int32.lt_iff_toInt_lt, e20]; omega
  · rw [Int32.lt_iff_toInt_lt, em]; omega
  · apply Int32.toInt_inj.mp
    rw [Int32.toInt_mod, Int.tmod_eq_emod_of_nonneg (by omega), e4]
    show _ = (0 : Int)
    omega
theorem own_cmd (x : Int32) : ¬ (x &&& (16777215 : Int32)) < (0 : Int32) ∧ ¬ (16777215 : Int32) < (x &&& (16777215 : Int32)) := by
  have h1 := own_mask x 16777215 (by decide)
  have em : (16777215 : Int32).toInt = 16777215 := rfl
  have e0 : (0 : Int32).toInt = 0 := rfl
  rw [Int32.lt_iff_toInt_lt, Int32.lt_iff_toInt_lt, em, e0]; omega
theorem own_b {c : Prop} [Decidable c] {z : Int32} (h : z = if c then (0 : Int32) else (1 : Int32)) : z = 0 ∨ z = 1 := by rw [h]; split <;> simp
theorem own_fl {r p e t f1 f2 f3 f4 : Int32} (hr : r = 0 ∨ r = 1) (hp : p = 0 ∨ p = 1) (he : e = 0 ∨ e = 1) (ht : t = 0 ∨ t = 1) (h1 : f1 = if r = (0 : Int32) then (0 : Int32) else ((0 : Int32) ||| (128 : Int32))) (h2 : f2 = if p = (0 : Int32) then f1 else (f1 ||| (64 : Int32))) (h3 : f3 = if e = (0 : Int32) then f2 else (f2 ||| (32 : Int32))) (h4 : f4 = if t = (0 : Int32) then f3 else (f3 ||| (16 : Int32))) :
    f4 &&& (-241 : Int32) = (0 : Int32) ∧ (if f4 &&& (128 : Int32) = (0 : Int32) then (0 : Int32) else (1 : Int32)) = r := by
  rcases hr with rfl | rfl <;> rcases hp with rfl | rfl <;> rcases he with rfl | rfl <;> rcases ht with rfl | rfl <;> (subst h1; subst h2; subst h3; subst h4; decide)
theorem d1_0 : decode prog_38_method_1_code 0 = .ok (.aload_n 0, 1) := by decide +kernel
theorem d1_1 : decode prog_38_method_1_code 1 = .ok (.invokespecial 3, 3) := by decide +kernel
theorem d1_4 : decode prog_38_method_1_code 4 = .ok (.iload_n 1, 1) := by decide +kernel
theorem d1_5 : decode prog_38_method_1_code 5 = .ok (.bipush 20, 2) := by decide +kernel
theorem d1_7 : decode prog_38_method_1_code 7 = .ok (.if_icmp .lt 15, 3) := by decide +kernel
theorem d1_10 : decode prog_38_method_1_code 10 = .ok (.iload_n 1, 1) := by decide +kernel
theorem d1_11 : decode prog_38_method_1_code 11 = .ok (.ldc 9, 2) := by decide +kernel
theorem d1_13 : decode prog_38_method_1_code 13 = .ok (.if_icmp .gt 9, 3) := by decide +kernel
theorem d1_16 : decode prog_38_method_1_code 16 = .ok (.iload_n 1, 1) := by decide +kernel
theorem d1_17 : decode prog_38_method_1_code 17 = .ok (.iconst 4, 1) := by decide +kernel
theorem d1_18 : decode prog_38_method_1_code 18 = .ok (.irem, 1) := by decide +kernel
theorem d1_19 : decode prog_38_method_1_code 19 = .ok (.ifCond .eq 43, 3) := by decide +kernel
theorem d1_62 : decode prog_38_method_1_code 62 = .ok (.iload_n 2, 1) := by decide +kernel
theorem d1_63 : decode prog_38_method_1_code 63 = .ok (.sipush (-241), 3) := by decide +kernel
theorem d1_66 : decode prog_38_method_1_code 66 = .ok (.iand, 1) := by decide +kernel
theorem d1_67 : decode prog_38_method_1_code 67 = .ok (.ifCond .eq 27, 3) := by decide +kernel
theorem d1_94 : decode prog_38_method_1_code 94 = .ok (.iload_n 3, 1) := by decide +kernel
theorem d1_95 : decode prog_38_method_1_code 95 = .ok (.ifCond .lt 9, 3) := by decide +kernel
theorem d1_98 : decode prog_38_method_1_code 98 = .ok (.iload_n 3, 1) := by decide +kernel
theorem d1_99 : decode prog_38_method_1_code 99 = .ok (.ldc 9, 2) := by decide +kernel
theorem d1_101 : decode prog_38_method_1_code 101 = .ok (.if_icmp .le 27, 3) := by decide +kernel
theorem d1_128 : decode prog_38_method_1_code 128 = .ok (.aload_n 0, 1) := by decide +kernel
theorem d1_129 : decode prog_38_method_1_code 129 = .ok (.iload_n 1, 1) := by decide +kernel
theorem d1_130 : decode prog_38_method_1_code 130 = .ok (.putfield 33, 3) := by decide +kernel
theorem d1_133 : decode prog_38_method_1_code 133 = .ok (.aload_n 0, 1) := by decide +kernel
theorem d1_134 : decode prog_38_method_1_code 134 = .ok (.iload_n 2, 1) := by decide +kernel
theorem d1_135 : decode prog_38_method_1_code 135 = .ok (.putfield 37, 3) := by decide +kernel
theorem d1_138 : decode prog_38_method_1_code 138 = .ok (.aload_n 0, 1) := by decide +kernel
theorem d1_139 : decode prog_38_method_1_code 139 = .ok (.iload_n 3, 1) := by decide +kernel
theorem d1_140 : decode prog_38_method_1_code 140 = .ok (.putfield 40, 3) := by decide +kernel
theorem d1_143 : decode prog_38_method_1_code 143 = .ok (.aload_n 0, 1) := by decide +kernel
theorem d1_144 : decode prog_38_method_1_code 144 = .ok (.iload 4, 2) := by decide +kernel
theorem d1_146 : decode prog_38_method_1_code 146 = .ok (.putfield 43, 3) := by decide +kernel
theorem d1_149 : decode prog_38_method_1_code 149 = .ok (.aload_n 0, 1) := by decide +kernel
theorem d1_150 : decode prog_38_method_1_code 150 = .ok (.iload 5, 2) := by decide +kernel
theorem d1_152 : decode prog_38_method_1_code 152 = .ok (.putfield 46, 3) := by decide +kernel
theorem d1_155 : decode prog_38_method_1_code 155 = .ok (.aload_n 0, 1) := by decide +kernel
theorem d1_156 : decode prog_38_method_1_code 156 = .ok (.iload 6, 2) := by decide +kernel
theorem d1_158 : decode prog_38_method_1_code 158 = .ok (.putfield 49, 3) := by decide +kernel
theorem d1_161 : decode prog_38_method_1_code 161 = .ok (.return_, 1) := by decide +kernel
theorem pn_rm1 : plainName "com/example/gatewarden/gatewarden/diameter/MessageHeader" = true := by first | (simp [plainName, overriddenIn]; done) | decide +kernel
theorem ef_rm1 (m : MethodId) (o0 : Addr) (p1 : Int32) (p2 : Int32) (p3 : Int32) (p4 : Int32) (p5 : Int32) (p6 : Int32) : entryFrame m #[(.ref o0), (.int p1), (.int p2), (.int p3), (.int p4), (.int p5), (.int p6)] 7 = mkF m 0 #[.val (.ref o0), .val (.int p1), .val (.int p2), .val (.int p3), .val (.int p4), .val (.int p5), .val (.int p6)] [] := by first | (simp [entryFrame, mkF, argsToLocals, Value.category]; done) | rfl
def Q_rm1 (Z : State) (o0 : Addr) (p1 : Int32) (p2 : Int32) (p3 : Int32) (p4 : Int32) (p5 : Int32) (p6 : Int32) (h0 : Heap) (n0 : Nat) (v : Option Value) (h : Heap) (L : List Loc) : Prop := v = none ∧ Fr n0 L ∧ Keep h0 h [o0] ∧ Exa Z h o0 "com/example/gatewarden/gatewarden/diameter/MessageHeader" ∧ Fld Z h o0 "com/example/gatewarden/gatewarden/diameter/MessageHeader" "messageLength" "I" (.int p1) ∧ Fld Z h o0 "com/example/gatewarden/gatewarden/diameter/MessageHeader" "flags" "I" (.int p2) ∧ Fld Z h o0 "com/example/gatewarden/gatewarden/diameter/MessageHeader" "commandCode" "I" (.int p3) ∧ Fld Z h o0 "com/example/gatewarden/gatewarden/diameter/MessageHeader" "applicationId" "I" (.int p4) ∧ Fld Z h o0 "com/example/gatewarden/gatewarden/diameter/MessageHeader" "hopByHopId" "I" (.int p5) ∧ Fld Z h o0 "com/example/gatewarden/gatewarden/diameter/MessageHeader" "endToEndId" "I" (.int p6)
set_option maxRecDepth 65536 in
set_option maxHeartbeats 40000000 in
theorem rm1 (l : Launch) (Z : State) (a0 : Array Value) (hw : ∀ d ∈ tables_1, d.before a0 Z = true) (ws : List Jvm.Cond) (o0 : Addr) (p1 : Int32) (p2 : Int32) (p3 : Int32) (p4 : Int32) (p5 : Int32) (p6 : Int32) (h0 : Heap) (n0 : Nat) (Z0 : n0 ≤ h0.size) (E_o0 : Exa Z h0 o0 "com/example/gatewarden/gatewarden/diameter/MessageHeader") (g_o0 : n0 ≤ o0) (F_messageLength : Fld Z h0 o0 "com/example/gatewarden/gatewarden/diameter/MessageHeader" "messageLength" "I" (.int (0 : Int32))) (F_flags : Fld Z h0 o0 "com/example/gatewarden/gatewarden/diameter/MessageHeader" "flags" "I" (.int (0 : Int32))) (F_commandCode : Fld Z h0 o0 "com/example/gatewarden/gatewarden/diameter/MessageHeader" "commandCode" "I" (.int (0 : Int32))) (F_applicationId : Fld Z h0 o0 "com/example/gatewarden/gatewarden/diameter/MessageHeader" "applicationId" "I" (.int (0 : Int32))) (F_hopByHopId : Fld Z h0 o0 "com/example/gatewarden/gatewarden/diameter/MessageHeader" "hopByHopId" "I" (.int (0 : Int32))) (F_endToEndId : Fld Z h0 o0 "com/example/gatewarden/gatewarden/diameter/MessageHeader" "endToEndId" "I" (.int (0 : Int32))) (hl1 : ¬ p1 < (20 : Int32)) (hl2 : ¬ (16777215 : Int32) < p1) (hl3 : p1 % (4 : Int32) = (0 : Int32)) (hfl : p2 &&& (-241 : Int32) = (0 : Int32)) (hm1 : ¬ p3 < (0 : Int32)) (hm2 : ¬ (16777215 : Int32) < p3) :
    MetFree l (⟨"com/example/gatewarden/gatewarden/diameter/MessageHeader", "<init>", "(IIIIII)V"⟩ : MethodName) (head1 (Jvm.Cond.code (⟨"com/example/gatewarden/gatewarden/diameter/MessageHeader", "<init>", "(IIIIII)V"⟩ : MethodName) prog_38_method_1_code 7 none :: ws) ({ frames := 1, cells := 0, slots := 0, locals := 12 } : Room)) (fun a U => a = #[(.ref o0), (.int p1), (.int p2), (.int p3), (.int p4), (.int p5), (.int p6)] ∧ Z.Warmed39 U.vm ∧ U.heap = h0) (fun _ _ _ _ _ => True) (fun _ U o U' => ∃ v L, o = .returned v ∧ Q_rm1 Z o0 p1 p2 p3 p4 p5 p6 h0 n0 v U'.heap L ∧ FrameEnd U o U' L ({ frames := 1, cells := 0, slots := 0, locals := 12 } : Room).cells ({ frames := 1, cells := 0, slots := 0, locals := 12 } : Room).slots) := by
  refine MetFree.of_bodySF (plainFor_of_name pn_rm1) hisR ?_
  intro p e s m args below meth c s₁ Bd hml0 hP hK
  obtain ⟨rfl, hZ, hh⟩ := hP
  have hx := Bd.exec
  have hby := Bd.bytes
  have hml : c.maxLocals = 7 := hml0
  have hown : s.vm.findClass "com/example/gatewarden/gatewarden/diameter/MessageHeader" = some m.cls := findClass_of_methodNamed Bd.named
  have hnm := (name_of_methodNamed Bd.named Bd.method).1
  have X0 : Stand p l e ({ frames := 1, cells := 0, slots := 0, locals := 12 } : Room) s m #[(.ref o0), (.int p1), (.int p2), (.int p3), (.int p4), (.int p5), (.int p6)] below meth c s₁ [] 0 0 := Stand.of_body Bd
  have e0 : s₁.heap = h0 := by rw [← hh, Bd.state]; rfl
  have N0 := Fr.nil n0
  have K0 := Keep.refl h0 [o0]
  have go0 : Go p e below (s₁.setTop (entryFrame m #[(.ref o0), (.int p1), (.int p2), (.int p3), (.int p4), (.int p5), (.int p6)] 7)) (s₁.setTop (mkF m 0 #[.val (.ref o0), .val (.int p1), .val (.int p2), .val (.int p3), .val (.int p4), .val (.int p5), .val (.int p6)] [])) := fun t k => castTop (ef_rm1 m o0 p1 p2 p3 p4 p5 p6) k
  have go1 := go0.step (C := s₁.setTop (mkF m 1 #[.val (.ref o0), .val (.int p1), .val (.int p2), .val (.int p3), .val (.int p4), .val (.int p5), .val (.int p6)] [(.ref o0)])) (fun t k => by
    show Steps p.tables e below (s₁.setTop (mkF m 0 #[.val (.ref o0), .val (.int p1), .val (.int p2), .val (.int p3), .val (.int p4), .val (.int p5), .val (.int p6)] [])) _
    refine XS.aloadN X0.here hx rfl (hb hby d1_0) rfl rfl ?_
    exact k)
  obtain ⟨T2, X2, e2, st2⟩ := initO X0 hx hZ hown (hw _ (List.mem_of_getElem? (i := 9) rfl)) (hw _ (List.mem_of_getElem? (i := 10) rfl)) (hw _ (List.mem_of_getElem? (i := 11) rfl)) e0 (g := (mkF m 1 #[.val (.ref o0), .val (.int p1), .val (.int p2), .val (.int p3), .val (.int p4), .val (.int p5), .val (.int p6)] [(.ref o0)])) rfl (by rw [hml]; rfl) rfl (hb hby d1_1) (by decide) (W := 0) (by show 2 * 0 + _ ≤ _; exact Nat.le_of_eq rfl) (by decide)
  have go2 := go1.step (C := T2.setTop (mkF m 4 #[.val (.ref o0), .val (.int p1), .val (.int p2), .val (.int p3), .val (.int p4), .val (.int p5), .val (.int p6)] [])) (fun t k => st2 t k)
  have go9 := go2.step (C := T2.setTop (mkF m 130 #[.val (.ref o0), .val (.int p1), .val (.int p2), .val (.int p3), .val (.int p4), .val (.int p5), .val (.int p6)] [(.int p1), (.ref o0)])) (fun t k => by
    show Steps p.tables e below (T2.setTop (mkF m 4 #[.val (.ref o0), .val (.int p1), .val (.int p2), .val (.int p3), .val (.int p4), .val (.int p5), .val (.int p6)] [])) _
    refine XS.iloadN X2.here hx rfl (hb hby d1_4) rfl ?_
    show Steps p.tables e below (T2.setTop (mkF m 5 #[.val (.ref o0), .val (.int p1), .val (.int p2), .val (.int p3), .val (.int p4), .val (.int p5), .val (.int p6)] [(.int p1)])) _
    refine XS.bipush X2.here hx rfl (hb hby d1_5) ?_
    show Steps p.tables e below (T2.setTop (mkF m 7 #[.val (.ref o0), .val (.int p1), .val (.int p2), .val (.int p3), .val (.int p4), .val (.int p5), .val (.int p6)] [(.int (20 : Int32)), (.int p1)])) _
    refine XS.icmpNo X2.here hx rfl (hb hby d1_7) rfl (flt (hl1 : ¬ (p1 < (20 : Int32)))).1 ?_
    show Steps p.tables e below (T2.setTop (mkF m 10 #[.val (.ref o0), .val (.int p1), .val (.int p2), .val (.int p3), .val (.int p4), .val (.int p5), .val (.int p6)] [])) _
    refine XS.iloadN X2.here hx rfl (hb hby d1_10) rfl ?_
    show Steps p.tables e below (T2.setTop (mkF m 11 #[.val (.ref o0), .val (.int p1), .val (.int p2), .val (.int p3), .val (.int p4), .val (.int p5), .val (.int p6)] [(.int p1)])) _
    refine X2.ldcInt hx hown (mvT hZ (hw _ (List.mem_of_getElem? (i := 12) rfl))) (g := (mkF m 11 #[.val (.ref o0), .val (.int p1), .val (.int p2), .val (.int p3), .val (.int p4), .val (.int p5), .val (.int p6)] [(.int p1)])) rfl (hb hby d1_11) _ ?_
    show Steps p.tables e below (T2.setTop (mkF m 13 #[.val (.ref o0), .val (.int p1), .val (.int p2), .val (.int p3), .val (.int p4), .val (.int p5), .val (.int p6)] [(.int (16777215 : Int32)), (.int p1)])) _
    refine XS.icmpNo X2.here hx rfl (hb hby d1_13) rfl (flt (hl2 : ¬ ((16777215 : Int32) < p1))).2.2.1 ?_
    show Steps p.tables e below (T2.setTop (mkF m 16 #[.val (.ref o0), .val (.int p1), .val (.int p2), .val (.int p3), .val (.int p4), .val (.int p5), .val (.int p6)] [])) _
    refine XS.iloadN X2.here hx rfl (hb hby d1_16) rfl ?_
    show Steps p.tables e below (T2.setTop (mkF m 17 #[.val (.ref o0), .val (.int p1), .val (.int p2), .val (.int p3), .val (.int p4), .val (.int p5), .val (.int p6)] [(.int p1)])) _
    refine XS.iconst X2.here hx rfl (hb hby d1_17) ?_
    show Steps p.tables e below (T2.setTop (mkF m 18 #[.val (.ref o0), .val (.int p1), .val (.int p2), .val (.int p3), .val (.int p4), .val (.int p5), .val (.int p6)] [(.int (4 : Int32)), (.int p1)])) _
    refine iremM X2 hx rfl (hb hby d1_18) rfl (by decide) ?_
    show Steps p.tables e below (T2.setTop (mkF m 19 #[.val (.ref o0), .val (.int p1), .val (.int p2), .val (.int p3), .val (.int p4), .val (.int p5), .val (.int p6)] [(.int (p1 % (4 : Int32)))])) _
    refine XS.ifYes X2.here hx rfl (pc0 := 19) (pc' := 62) rfl (hb hby d1_19) rfl ((if0 _ _).trans (teq (hl3 : (p1 % (4 : Int32)) = (0 : Int32))).1) (by decide) (by decide) ?_
    show Steps p.tables e below (T2.setTop (mkF m 62 #[.val (.ref o0), .val (.int p1), .val (.int p2), .val (.int p3), .val (.int p4), .val (.int p5), .val (.int p6)] [])) _
    refine XS.iloadN X2.here hx rfl (hb hby d1_62) rfl ?_
    show Steps p.tables e below (T2.setTop (mkF m 63 #[.val (.ref o0), .val (.int p1), .val (.int p2), .val (.int p3), .val (.int p4), .val (.int p5), .val (.int p6)] [(.int p2)])) _
    refine XS.sipush X2.here hx rfl (hb hby d1_63) ?_
    show Steps p.tables e below (T2.setTop (mkF m 66 #[.val (.ref o0), .val (.int p1), .val (.int p2), .val (.int p3), .val (.int p4), .val (.int p5), .val (.int p6)] [(.int (-241 : Int32)), (.int p2)])) _
    refine XS.iand X2.here hx rfl (hb hby d1_66) rfl ?_
    show Steps p.tables e below (T2.setTop (mkF m 67 #[.val (.ref o0), .val (.int p1), .val (.int p2), .val (.int p3), .val (.int p4), .val (.int p5), .val (.int p6)] [(.int (p2 &&& (-241 : Int32)))])) _
    refine XS.ifYes X2.here hx rfl (pc0 := 67) (pc' := 94) rfl (hb hby d1_67) rfl ((if0 _ _).trans (teq (hfl : (p2 &&& (-241 : Int32)) = (0 : Int32))).1) (by decide) (by decide) ?_
    show Steps p.tables e below (T2.setTop (mkF m 94 #[.val (.ref o0), .val (.int p1), .val (.int p2), .val (.int p3), .val (.int p4), .val (.int p5), .val (.int p6)] [])) _
    refine XS.iloadN X2.here hx rfl (hb hby d1_94) rfl ?_
    show Steps p.tables e below (T2.setTop (mkF m 95 #[.val (.ref o0), .val (.int p1), .val (.int p2), .val (.int p3), .val (.int p4), .val (.int p5), .val (.int p6)] [(.int p3)])) _
    refine XS.ifNo X2.here hx rfl (hb hby d1_95) rfl ((if0 _ _).trans (flt (hm1 : ¬ (p3 < (0 : Int32)))).1) ?_
    show Steps p.tables e below (T2.setTop (mkF m 98 #[.val (.ref o0), .val (.int p1), .val (.int p2), .val (.int p3), .val (.int p4), .val (.int p5), .val (.int p6)] [])) _
    refine XS.iloadN X2.here hx rfl (hb hby d1_98) rfl ?_
    show Steps p.tables e below (T2.setTop (mkF m 99 #[.val (.ref o0), .val (.int p1), .val (.int p2), .val (.int p3), .val (.int p4), .val (.int p5), .val (.int p6)] [(.int p3)])) _
    refine X2.ldcInt hx hown (mvT hZ (hw _ (List.mem_of_getElem? (i := 12) rfl))) (g := (mkF m 99 #[.val (.ref o0), .val (.int p1), .val (.int p2), .val (.int p3), .val (.int p4), .val (.int p5), .val (.int p6)] [(.int p3)])) rfl (hb hby d1_99) _ ?_
    show Steps p.tables e below (T2.setTop (mkF m 101 #[.val (.ref o0), .val (.int p1), .val (.int p2), .val (.int p3), .val (.int p4), .val (.int p5), .val (.int p6)] [(.int (16777215 : Int32)), (.int p3)])) _
    refine XS.icmpYes X2.here hx rfl (pc0 := 101) (pc' := 128) rfl (hb hby d1_101) rfl (flt (hm2 : ¬ ((16777215 : Int32) < p3))).2.2.2 (by decide) (by decide) ?_
    show Steps p.tables e below (T2.setTop (mkF m 128 #[.val (.ref o0), .val (.int p1), .val (.int p2), .val (.int p3), .val (.int p4), .val (.int p5), .val (.int p6)] [])) _
    refine XS.aloadN X2.here hx rfl (hb hby d1_128) rfl rfl ?_
    show Steps p.tables e below (T2.setTop (mkF m 129 #[.val (.ref o0), .val (.int p1), .val (.int p2), .val (.int p3), .val (.int p4), .val (.int p5), .val (.int p6)] [(.ref o0)])) _
    refine XS.iloadN X2.here hx rfl (hb hby d1_129) rfl ?_
    exact k)
  obtain ⟨T10, h10, X10, e10, W10, st10⟩ := putF X2 hx hZ hown (host := "") (Or.inl (hw _ (List.mem_of_getElem? (i := 13) rfl))) Via.refl e2 F_messageLength E_o0 (Or.inr ⟨(hw _ (List.mem_of_getElem? (i := 14) rfl)), rfl, hnm⟩) (hw _ (List.mem_of_getElem? (i := 4) rfl)) (ty := .int) (by decide) rfl rfl (g := (mkF m 130 #[.val (.ref o0), .val (.int p1), .val (.int p2), .val (.int p3), .val (.int p4), .val (.int p5), .val (.int p6)] [(.int p1), (.ref o0)])) rfl rfl (hb hby d1_130)
  have f11 := E_o0.wr W10
  have f12 := Fld.same W10 F_messageLength
  have f13 := Fld.other W10 F_flags (Or.inr (slot_ne (Or.inr (hw _ (List.mem_of_getElem? (i := 16) rfl))) (Or.inr (hw _ (List.mem_of_getElem? (i := 14) rfl))) (by decide) (t := .int) (t' := .int) (by decide) (by decide)))
  have f14 := Fld.other W10 F_commandCode (Or.inr (slot_ne (Or.inr (hw _ (List.mem_of_getElem? (i := 18) rfl))) (Or.inr (hw _ (List.mem_of_getElem? (i := 14) rfl))) (by decide) (t := .int) (t' := .int) (by decide) (by decide)))
  have f15 := Fld.other W10 F_applicationId (Or.inr (slot_ne (Or.inr (hw _ (List.mem_of_getElem? (i := 20) rfl))) (Or.inr (hw _ (List.mem_of_getElem? (i := 14) rfl))) (by decide) (t := .int) (t' := .int) (by decide) (by decide)))
  have f16 := Fld.other W10 F_hopByHopId (Or.inr (slot_ne (Or.inr (hw _ (List.mem_of_getElem? (i := 22) rfl))) (Or.inr (hw _ (List.mem_of_getElem? (i := 14) rfl))) (by decide) (t := .int) (t' := .int) (by decide) (by decide)))
  have f17 := Fld.other W10 F_endToEndId (Or.inr (slot_ne (Or.inr (hw _ (List.mem_of_getElem? (i := 24) rfl))) (Or.inr (hw _ (List.mem_of_getElem? (i := 14) rfl))) (by decide) (t := .int) (t' := .int) (by decide) (by decide)))
  have Z10 : n0 ≤ h10.size := Nat.le_trans Z0 (Nat.le_of_eq W10.size.symm)
  have K10 := K0.wr W10 (Or.inl (List.mem_of_getElem? (i := 0) rfl))
  have N10 := Fr.snoc X10 N0 g_o0
  have go10 := go9.step (C := T10.setTop (mkF m 133 #[.val (.ref o0), .val (.int p1), .val (.int p2), .val (.int p3), .val (.int p4), .val (.int p5), .val (.int p6)] [])) (fun t k => st10 t k)
  have go18 := go10.step (C := T10.setTop (mkF m 135 #[.val (.ref o0), .val (.int p1), .val (.int p2), .val (.int p3), .val (.int p4), .val (.int p5), .val (.int p6)] [(.int p2), (.ref o0)])) (fun t k => by
    show Steps p.tables e below (T10.setTop (mkF m 133 #[.val (.ref o0), .val (.int p1), .val (.int p2), .val (.int p3), .val (.int p4), .val (.int p5), .val (.int p6)] [])) _
    refine XS.aloadN X10.here hx rfl (hb hby d1_133) rfl rfl ?_
    show Steps p.tables e below (T10.setTop (mkF m 134 #[.val (.ref o0), .val (.int p1), .val (.int p2), .val (.int p3), .val (.int p4), .val (.int p5), .val (.int p6)] [(.ref o0)])) _
    refine XS.iloadN X10.here hx rfl (hb hby d1_134) rfl ?_
    exact k)
  obtain ⟨T19, h19, X19, e19, W19, st19⟩ := putF X10 hx hZ hown (host := "") (Or.inl (hw _ (List.mem_of_getElem? (i := 15) rfl))) Via.refl e10 f13 f11 (Or.inr ⟨(hw _ (List.mem_of_getElem? (i := 16) rfl)), rfl, hnm⟩) (hw _ (List.mem_of_getElem? (i := 4) rfl)) (ty := .int) (by decide) rfl rfl (g := (mkF m 135 #[.val (.ref o0), .val (.int p1), .val (.int p2), .val (.int p3), .val (.int p4), .val (.int p5), .val (.int p6)] [(.int p2), (.ref o0)])) rfl rfl (hb hby d1_135)
  have f20 := f11.wr W19
  have f21 := Fld.other W19 f12 (Or.inr (slot_ne (Or.inr (hw _ (List.mem_of_getElem? (i := 14) rfl))) (Or.inr (hw _ (List.mem_of_getElem? (i := 16) rfl))) (by decide) (t := .int) (t' := .int) (by decide) (by decide)))
  have f22 := Fld.same W19 f13
  have f23 := Fld.other W19 f14 (Or.inr (slot_ne (Or.inr (hw _ (List.mem_of_getElem? (i := 18) rfl))) (Or.inr (hw _ (List.mem_of_getElem? (i := 16) rfl))) (by decide) (t := .int) (t' := .int) (by decide) (by decide)))
  have f24 := Fld.other W19 f15 (Or.inr (slot_ne (Or.inr (hw _ (List.mem_of_getElem? (i := 20) rfl))) (Or.inr (hw _ (List.mem_of_getElem? (i := 16) rfl))) (by decide) (t := .int) (t' := .int) (by decide) (by decide)))
  have f25 := Fld.other W19 f16 (Or.inr (slot_ne (Or.inr (hw _ (List.mem_of_getElem? (i := 22) rfl))) (Or.inr (hw _ (List.mem_of_getElem? (i := 16) rfl))) (by decide) (t := .int) (t' := .int) (by decide) (by decide)))
  have f26 := Fld.other W19 f17 (Or.inr (slot_ne (Or.inr (hw _ (List.mem_of_getElem? (i := 24) rfl))) (Or.inr (hw _ (List.mem_of_getElem? (i := 16) rfl))) (by decide) (t := .int) (t' := .int) (by decide) (by decide)))
  have Z19 : n0 ≤ h19.size := Nat.le_trans Z10 (Nat.le_of_eq W19.size.symm)
  have K19 := K10.wr W19 (Or.inl (List.mem_of_getElem? (i := 0) rfl))
  have N19 := Fr.snoc X19 N10 g_o0
  have go19 := go18.step (C := T19.setTop (mkF m 138 #[.val (.ref o0), .val (.int p1), .val (.int p2), .val (.int p3), .val (.int p4), .val (.int p5), .val (.int p6)] [])) (fun t k => st19 t k)
  have go27 := go19.step (C := T19.setTop (mkF m 140 #[.val (.ref o0), .val (.int p1), .val (.int p2), .val (.int p3), .val (.int p4), .val (.int p5), .val (.int p6)] [(.int p3), (.ref o0)])) (fun t k => by
    show Steps p.tables e below (T19.setTop (mkF m 138 #[.val (.ref o0), .val (.int p1), .val (.int p2), .val (.int p3), .val (.int p4), .val (.int p5), .val (.int p6)] [])) _
    refine XS.aloadN X19.here hx rfl (hb hby d1_138) rfl rfl ?_
    show Steps p.tables e below (T19.setTop (mkF m 139 #[.val (.ref o0), .val (.int p1), .val (.int p2), .val (.int p3), .val (.int p4), .val (.int p5), .val (.int p6)] [(.ref o0)])) _
    refine XS.iloadN X19.here hx rfl (hb hby d1_139) rfl ?_
    exact k)
  obtain ⟨T28, h28, X28, e28, W28, st28⟩ := putF X19 hx hZ hown (host := "") (Or.inl (hw _ (List.mem_of_getElem? (i := 17) rfl))) Via.refl e19 f23 f20 (Or.inr ⟨(hw _ (List.mem_of_getElem? (i := 18) rfl)), rfl, hnm⟩) (hw _ (List.mem_of_getElem? (i := 4) rfl)) (ty := .int) (by decide) rfl rfl (g := (mkF m 140 #[.val (.ref o0), .val (.int p1), .val (.int p2), .val (.int p3), .val (.int p4), .val (.int p5), .val (.int p6)] [(.int p3), (.ref o0)])) rfl rfl (hb hby d1_140)
  have f29 := f20.wr W28
  have f30 := Fld.other W28 f21 (Or.inr (slot_ne (Or.inr (hw _ (List.mem_of_getElem? (i := 14) rfl))) (Or.inr (hw _ (List.mem_of_getElem? (i := 18) rfl))) (by decide) (t := .int) (t' := .int) (by decide) (by decide)))
  have f31 := Fld.other W28 f22 (Or.inr (slot_ne (Or.inr (hw _ (List.mem_of_getElem? (i := 16) rfl))) (Or.inr (hw _ (List.mem_of_getElem? (i := 18) rfl))) (by decide) (t := .int) (t' := .int) (by decide) (by decide)))
  have f32 := Fld.same W28 f23
  have f33 := Fld.other W28 f24 (Or.inr (slot_ne (Or.inr (hw _ (List.mem_of_getElem? (i := 20) rfl))) (Or.inr (hw _ (List.mem_of_getElem? (i := 18) rfl))) (by decide) (t := .int) (t' := .int) (by decide) (by decide)))
  have f34 := Fld.other W28 f25 (Or.inr (slot_ne (Or.inr (hw _ (List.mem_of_getElem? (i := 22) rfl))) (Or.inr (hw _ (List.mem_of_getElem? (i := 18) rfl))) (by decide) (t := .int) (t' := .int) (by decide) (by decide)))
  have f35 := Fld.other W28 f26 (Or.inr (slot_ne (Or.inr (hw _ (List.mem_of_getElem? (i := 24) rfl))) (Or.inr (hw _ (List.mem_of_getElem? (i := 18) rfl))) (by decide) (t := .int) (t' := .int) (by decide) (by decide)))
  have Z28 : n0 ≤ h28.size := Nat.le_trans Z19 (Nat.le_of_eq W28.size.symm)
  have K28 := K19.wr W28 (Or.inl (List.mem_of_getElem? (i := 0) rfl))
  have N28 := Fr.snoc X28 N19 g_o0
  have go28 := go27.step (C := T28.setTop (mkF m 143 #[.val (.ref o0), .val (.int p1), .val (.int p2), .val (.int p3), .val (.int p4), .val (.int p5), .val (.int p6)] [])) (fun t k => st28 t k)
  have go36 := go28.step (C := T28.setTop (mkF m 146 #[.val (.ref o0), .val (.int p1), .val (.int p2), .val (.int p3), .val (.int p4), .val (.int p5), .val (.int p6)] [(.int p4), (.ref o0)])) (fun t k => by
    show Steps p.tables e below (T28.setTop (mkF m 143 #[.val (.ref o0), .val (.int p1), .val (.int p2), .val (.int p3), .val (.int p4), .val (.int p5), .val (.int p6)] [])) _
    refine XS.aloadN X28.here hx rfl (hb hby d1_143) rfl rfl ?_
    show Steps p.tables e below (T28.setTop (mkF m 144 #[.val (.ref o0), .val (.int p1), .val (.int p2), .val (.int p3), .val (.int p4), .val (.int p5), .val (.int p6)] [(.ref o0)])) _
    refine XS.iload X28.here hx rfl (hb hby d1_144) rfl ?_
    exact k)
  obtain ⟨T37, h37, X37, e37, W37, st37⟩ := putF X28 hx hZ hown (host := "") (Or.inl (hw _ (List.mem_of_getElem? (i := 19) rfl))) Via.refl e28 f33 f29 (Or.inr ⟨(hw _ (List.mem_of_getElem? (i := 20) rfl)), rfl, hnm⟩) (hw _ (List.mem_of_getElem? (i := 4) rfl)) (ty := .int) (by decide) rfl rfl (g := (mkF m 146 #[.val (.ref o0), .val (.int p1), .val (.int p2), .val (.int p3), .val (.int p4), .val (.int p5), .val (.int p6)] [(.int p4), (.ref o0)])) rfl rfl (hb hby d1_146)
  have f38 := f29.wr W37
  have f39 := Fld.other W37 f30 (Or.inr (slot_ne (Or.inr (hw _ (List.mem_of_getElem? (i := 14) rfl))) (Or.inr (hw _ (List.mem_of_getElem? (i := 20) rfl))) (by decide) (t := .int) (t' := .int) (by decide) (by decide)))
  have f40 := Fld.other W37 f31 (Or.inr (slot_ne (Or.inr (hw _ (List.mem_of_getElem? (i := 16) rfl))) (Or.inr (hw _ (List.mem_of_getElem? (i := 20) rfl))) (by decide) (t := .int) (t' := .int) (by decide) (by decide)))
  have f41 := Fld.other W37 f32 (Or.inr (slot_ne (Or.inr (hw _ (List.mem_of_getElem? (i := 18) rfl))) (Or.inr (hw _ (List.mem_of_getElem? (i := 20) rfl))) (by decide) (t := .int) (t' := .int) (by decide) (by decide)))
  have f42 := Fld.same W37 f33
  have f43 := Fld.other W37 f34 (Or.inr (slot_ne (Or.inr (hw _ (List.mem_of_getElem? (i := 22) rfl))) (Or.inr (hw _ (List.mem_of_getElem? (i := 20) rfl))) (by decide) (t := .int) (t' := .int) (by decide) (by decide)))
  have f44 := Fld.other W37 f35 (Or.inr (slot_ne (Or.inr (hw _ (List.mem_of_getElem? (i := 24) rfl))) (Or.inr (hw _ (List.mem_of_getElem? (i := 20) rfl))) (by decide) (t := .int) (t' := .int) (by decide) (by decide)))
  have Z37 : n0 ≤ h37.size := Nat.le_trans Z28 (Nat.le_of_eq W37.size.symm)
  have K37 := K28.wr W37 (Or.inl (List.mem_of_getElem? (i := 0) rfl))
  have N37 := Fr.snoc X37 N28 g_o0
  have go37 := go36.step (C := T37.setTop (mkF m 149 #[.val (.ref o0), .val (.int p1), .val (.int p2), .val (.int p3), .val (.int p4), .val (.int p5), .val (.int p6)] [])) (fun t k => st37 t k)
  have go45 := go37.step (C := T37.setTop (mkF m 152 #[.val (.ref o0), .val (.int p1), .val (.int p2), .val (.int p3), .val (.int p4), .val (.int p5), .val (.int p6)] [(.int p5), (.ref o0)])) (fun t k => by
    show Steps p.tables e below (T37.setTop (mkF m 149 #[.val (.ref o0), .val (.int p1), .val (.int p2), .val (.int p3), .val (.int p4), .val (.int p5), .val (.int p6)] [])) _
    refine XS.aloadN X37.here hx rfl (hb hby d1_149) rfl rfl ?_
    show Steps p.tables e below (T37.setTop (mkF m 150 #[.val (.ref o0), .val (.int p1), .val (.int p2), .val (.int p3), .val (.int p4), .val (.int p5), .val (.int p6)] [(.ref o0)])) _
    refine XS.iload X37.here hx rfl (hb hby d1_150) rfl ?_
    exact k)
  obtain ⟨T46, h46, X46, e46, W46, st46⟩ := putF X37 hx hZ hown (host := "") (Or.inl (hw _ (List.mem_of_getElem? (i := 21) rfl))) Via.refl e37 f43 f38 (Or.inr ⟨(hw _ (List.mem_of_getElem? (i := 22) rfl)), rfl, hnm⟩) (hw _ (List.mem_of_getElem? (i := 4) rfl)) (ty := .int) (by decide) rfl rfl (g := (mkF m 152 #[.val (.ref o0), .val (.int p1), .val (.int p2), .val (.int p3), .val (.int p4), .val (.int p5), .val (.int p6)] [(.int p5), (.ref o0)])) rfl rfl (hb hby d1_152)
  have f47 := f38.wr W46
  have f48 := Fld.other W46 f39 (Or.inr (slot_ne (Or.inr (hw _ (List.mem_of_getElem? (i := 14) rfl))) (Or.inr (hw _ (List.mem_of_getElem? (i := 22) rfl))) (by decide) (t := .int) (t' := .int) (by decide) (by decide)))
  have f49 := Fld.other W46 f40 (Or.inr (slot_ne (Or.inr (hw _ (List.mem_of_getElem? (i := 16) rfl))) (Or.inr (hw _ (List.mem_of_getElem? (i := 22) rfl))) (by decide) (t := .int) (t' := .int) (by decide) (by decide)))
  have f50 := Fld.other W46 f41 (Or.inr (slot_ne (Or.inr (hw _ (List.mem_of_getElem? (i := 18) rfl))) (Or.inr (hw _ (List.mem_of_getElem? (i := 22) rfl))) (by decide) (t := .int) (t' := .int) (by decide) (by decide)))
  have f51 := Fld.other W46 f42 (Or.inr (slot_ne (Or.inr (hw _ (List.mem_of_getElem? (i := 20) rfl))) (Or.inr (hw _ (List.mem_of_getElem? (i := 22) rfl))) (by decide) (t := .int) (t' := .int) (by decide) (by decide)))
  have f52 := Fld.same W46 f43
  have f53 := Fld.other W46 f44 (Or.inr (slot_ne (Or.inr (hw _ (List.mem_of_getElem? (i := 24) rfl))) (Or.inr (hw _ (List.mem_of_getElem? (i := 22) rfl))) (by decide) (t := .int) (t' := .int) (by decide) (by decide)))
  have Z46 : n0 ≤ h46.size := Nat.le_trans Z37 (Nat.le_of_eq W46.size.symm)
  have K46 := K37.wr W46 (Or.inl (List.mem_of_getElem? (i := 0) rfl))
  have N46 := Fr.snoc X46 N37 g_o0
  have go46 := go45.step (C := T46.setTop (mkF m 155 #[.val (.ref o0), .val (.int p1), .val (.int p2), .val (.int p3), .val (.int p4), .val (.int p5), .val (.int p6)] [])) (fun t k => st46 t k)
  have go54 := go46.step (C := T46.setTop (mkF m 158 #[.val (.ref o0), .val (.int p1), .val (.int p2), .val (.int p3), .val (.int p4), .val (.int p5), .val (.int p6)] [(.int p6), (.ref o0)])) (fun t k => by
    show Steps p.tables e below (T46.setTop (mkF m 155 #[.val (.ref o0), .val (.int p1), .val (.int p2), .val (.int p3), .val (.int p4), .val (.int p5), .val (.int p6)] [])) _
    refine XS.aloadN X46.here hx rfl (hb hby d1_155) rfl rfl ?_
    show Steps p.tables e below (T46.setTop (mkF m 156 #[.val (.ref o0), .val (.int p1), .val (.int p2), .val (.int p3), .val (.int p4), .val (.int p5), .val (.int p6)] [(.ref o0)])) _
    refine XS.iload X46.here hx rfl (hb hby d1_156) rfl ?_
    exact k)
  obtain ⟨T55, h55, X55, e55, W55, st55⟩ := putF X46 hx hZ hown (host := "") (Or.inl (hw _ (List.mem_of_getElem? (i := 23) rfl))) Via.refl e46 f53 f47 (Or.inr ⟨(hw _ (List.mem_of_getElem? (i := 24) rfl)), rfl, hnm⟩) (hw _ (List.mem_of_getElem? (i := 4) rfl)) (ty := .int) (by decide) rfl rfl (g := (mkF m 158 #[.val (.ref o0), .val (.int p1), .val (.int p2), .val (.int p3), .val (.int p4), .val (.int p5), .val (.int p6)] [(.int p6), (.ref o0)])) rfl rfl (hb hby d1_158)
  have f56 := f47.wr W55
  have f57 := Fld.other W55 f48 (Or.inr (slot_ne (Or.inr (hw _ (List.mem_of_getElem? (i := 14) rfl))) (Or.inr (hw _ (List.mem_of_getElem? (i := 24) rfl))) (by decide) (t := .int) (t' := .int) (by decide) (by decide)))
  have f58 := Fld.other W55 f49 (Or.inr (slot_ne (Or.inr (hw _ (List.mem_of_getElem? (i := 16) rfl))) (Or.inr (hw _ (List.mem_of_getElem? (i := 24) rfl))) (by decide) (t := .int) (t' := .int) (by decide) (by decide)))
  have f59 := Fld.other W55 f50 (Or.inr (slot_ne (Or.inr (hw _ (List.mem_of_getElem? (i := 18) rfl))) (Or.inr (hw _ (List.mem_of_getElem? (i := 24) rfl))) (by decide) (t := .int) (t' := .int) (by decide) (by decide)))
  have f60 := Fld.other W55 f51 (Or.inr (slot_ne (Or.inr (hw _ (List.mem_of_getElem? (i := 20) rfl))) (Or.inr (hw _ (List.mem_of_getElem? (i := 24) rfl))) (by decide) (t := .int) (t' := .int) (by decide) (by decide)))
  have f61 := Fld.other W55 f52 (Or.inr (slot_ne (Or.inr (hw _ (List.mem_of_getElem? (i := 22) rfl))) (Or.inr (hw _ (List.mem_of_getElem? (i := 24) rfl))) (by decide) (t := .int) (t' := .int) (by decide) (by decide)))
  have f62 := Fld.same W55 f53
  have Z55 : n0 ≤ h55.size := Nat.le_trans Z46 (Nat.le_of_eq W55.size.symm)
  have K55 := K46.wr W55 (Or.inl (List.mem_of_getElem? (i := 0) rfl))
  have N55 := Fr.snoc X55 N46 g_o0
  have go55 := go54.step (C := T55.setTop (mkF m 161 #[.val (.ref o0), .val (.int p1), .val (.int p2), .val (.int p3), .val (.int p4), .val (.int p5), .val (.int p6)] [])) (fun t k => st55 t k)
  obtain ⟨fs, hr, hrun, hended, hW, hsame⟩ := X55.leave (v := none) (fun _ => rfl)
  refine ⟨_, _, go55 _ ?_, hrun, hended, _, _, rfl, ?_, ⟨_, rfl⟩, hW, hsame.mono (by decide) (by decide)⟩
  · exact X55.returnOut hx Bd.returns (hb hby d1_161) hr
  · show Q_rm1 Z o0 p1 p2 p3 p4 p5 p6 h0 n0 _ T55.heap _
    rw [e55]
    exact ⟨rfl, N55, K55, f56, f57, f58, f59, f60, f61, f62⟩
theorem d3_0 : decode prog_38_method_6_code 0 = .ok (.aload_n 0, 1) := by decide +kernel
theorem d3_1 : decode prog_38_method_6_code 1 = .ok (.getfield 37, 3) := by decide +kernel
theorem d3_4 : decode prog_38_method_6_code 4 = .ok (.sipush 128, 3) := by decide +kernel
theorem d3_7 : decode prog_38_method_6_code 7 = .ok (.iand, 1) := by decide +kernel
theorem d3_8 : decode prog_38_method_6_code 8 = .ok (.ifCond .eq 7, 3) := by decide +kernel
theorem d3_11 : decode prog_38_method_6_code 11 = .ok (.iconst 1, 1) := by decide +kernel
theorem d3_12 : decode prog_38_method_6_code 12 = .ok (.goto 4, 3) := by decide +kernel
theorem d3_15 : decode prog_38_method_6_code 15 = .ok (.iconst 0, 1) := by decide +kernel
theorem d3_16 : decode prog_38_method_6_code 16 = .ok (.ireturn, 1) := by decide +kernel
theorem pn_rm3 : plainName "com/example/gatewarden/gatewarden/diameter/MessageHeader" = true := by first | (simp [plainName, overriddenIn]; done) | decide +kernel
theorem ef_rm3 (m : MethodId) (o0 : Addr) : entryFrame m #[(.ref o0)] 1 = mkF m 0 #[.val (.ref o0)] [] := by first | (simp [entryFrame, mkF, argsToLocals, Value.category]; done) | rfl
def Q_rm3 (Z : State) (o0 : Addr) (w : Int32) (h0 : Heap) (n0 : Nat) (v : Option Value) (h : Heap) (L : List Loc) : Prop := v = some (.int (if (w &&& (128 : Int32)) = (0 : Int32) then (0 : Int32) else (1 : Int32))) ∧ Fr n0 L ∧ h = h0
set_option maxRecDepth 65536 in
set_option maxHeartbeats 40000000 in
theorem rm3 (l : Launch) (Z : State) (a0 : Array Value) (hw : ∀ d ∈ tables_1, d.before a0 Z = true) (ws : List Jvm.Cond) (o0 : Addr) (w : Int32) (h0 : Heap) (n0 : Nat) (Z0 : n0 ≤ h0.size) (F_flags_o0 : Fld Z h0 o0 "com/example/gatewarden/gatewarden/diameter/MessageHeader" "flags" "I" (.int w)) :
    MetFree l (⟨"com/example/gatewarden/gatewarden/diameter/MessageHeader", "isRequest", "()Z"⟩ : MethodName) (head1 (Jvm.Cond.code (⟨"com/example/gatewarden/gatewarden/diameter/MessageHeader", "isRequest", "()Z"⟩ : MethodName) prog_38_method_6_code 1 (some .boolean) :: ws) ({ frames := 0, cells := 0, slots := 0, locals := 0 } : Room)) (fun a U => a = #[(.ref o0)] ∧ Z.Warmed39 U.vm ∧ U.heap = h0) (fun _ _ _ _ _ => True) (fun _ U o U' => ∃ v L, o = .returned v ∧ Q_rm3 Z o0 w h0 n0 v U'.heap L ∧ FrameEnd U o U' L ({ frames := 0, cells := 0, slots := 0, locals := 0 } : Room).cells ({ frames := 0, cells := 0, slots := 0, locals := 0 } : Room).slots) := by
  refine MetFree.of_bodySF (plainFor_of_name pn_rm3) hisR ?_
  intro p e s m args below meth c s₁ Bd hml0 hP hK
  obtain ⟨rfl, hZ, hh⟩ := hP
  have hx := Bd.exec
  have hby := Bd.bytes
  have hml : c.maxLocals = 1 := hml0
  have hown : s.vm.findClass "com/example/gatewarden/gatewarden/diameter/MessageHeader" = some m.cls := findClass_of_methodNamed Bd.named
  have hnm := (name_of_methodNamed Bd.named Bd.method).1
  have X0 : Stand p l e ({ frames := 0, cells := 0, slots := 0, locals := 0 } : Room) s m #[(.ref o0)] below meth c s₁ [] 0 0 := Stand.of_body Bd
  have e0 : s₁.heap = h0 := by rw [← hh, Bd.state]; rfl
  have N0 := Fr.nil n0
  have K0 := Keep.refl h0 []
  have go0 : Go p e below (s₁.setTop (entryFrame m #[(.ref o0)] 1)) (s₁.setTop (mkF m 0 #[.val (.ref o0)] [])) := fun t k => castTop (ef_rm3 m o0) k
  have go1 := go0.step (C := s₁.setTop (mkF m 1 #[.val (.ref o0)] [(.ref o0)])) (fun t k => by
    show Steps p.tables e below (s₁.setTop (mkF m 0 #[.val (.ref o0)] [])) _
    refine XS.aloadN X0.here hx rfl (hb hby d3_0) rfl rfl ?_
    exact k)
  obtain ⟨T2, X2, e2, st2⟩ := getF X0 hx hZ hown (host := "") (Or.inl (hw _ (List.mem_of_getElem? (i := 15) rfl))) Via.refl e0 F_flags_o0 (g := (mkF m 1 #[.val (.ref o0)] [(.ref o0)])) rfl rfl (hb hby d3_1)
  have go2 := go1.step (C := T2.setTop (mkF m 4 #[.val (.ref o0)] [(.int w)])) (fun t k => st2 t k)
  have go4 := go2.step (C := T2.setTop (mkF m 8 #[.val (.ref o0)] [(.int (w &&& (128 : Int32)))])) (fun t k => by
    show Steps p.tables e below (T2.setTop (mkF m 4 #[.val (.ref o0)] [(.int w)])) _
    refine XS.sipush X2.here hx rfl (hb hby d3_4) ?_
    show Steps p.tables e below (T2.setTop (mkF m 7 #[.val (.ref o0)] [(.int (128 : Int32)), (.int w)])) _
    refine XS.iand X2.here hx rfl (hb hby d3_7) rfl ?_
    exact k)
  by_cases hc3 : (w &&& (128 : Int32)) = (0 : Int32)
  · skip
    have go5 := go4.step (C := T2.setTop (mkF m 16 #[.val (.ref o0)] [(.int (0 : Int32))])) (fun t k => by
      show Steps p.tables e below (T2.setTop (mkF m 8 #[.val (.ref o0)] [(.int (w &&& (128 : Int32)))])) _
      refine XS.ifYes X2.here hx rfl (pc0 := 8) (pc' := 15) rfl (hb hby d3_8) rfl ((if0 _ _).trans (teq hc3).1) (by decide) (by decide) ?_
      show Steps p.tables e below (T2.setTop (mkF m 15 #[.val (.ref o0)] [])) _
      refine XS.iconst X2.here hx rfl (hb hby d3_15) ?_
      exact k)
    obtain ⟨fs, hr, hrun, hended, hW, hsame⟩ := X2.leave (v := some (.int (0 : Int32))) (fun h => by rw [Bd.returns] at h; cases h)
    refine ⟨_, _, go5 _ ?_, hrun, hended, _, _, rfl, ?_, ⟨_, rfl⟩, hW, hsame.mono (by decide) (by decide)⟩
    · exact retN X2 hx (t := .boolean) Bd.returns (by simp) (hb hby d3_16) hr
    · show Q_rm3 Z o0 w h0 n0 _ T2.heap _
      rw [e2]
      exact ⟨by simp only [if_pos hc3], N0, rfl⟩
  · skip
    have go6 := go4.step (C := T2.setTop (mkF m 16 #[.val (.ref o0)] [(.int (1 : Int32))])) (fun t k => by
      show Steps p.tables e below (T2.setTop (mkF m 8 #[.val (.ref o0)] [(.int (w &&& (128 : Int32)))])) _
      refine XS.ifNo X2.here hx rfl (hb hby d3_8) rfl ((if0 _ _).trans (feq hc3).1) ?_
      show Steps p.tables e below (T2.setTop (mkF m 11 #[.val (.ref o0)] [])) _
      refine XS.iconst X2.here hx rfl (hb hby d3_11) ?_
      show Steps p.tables e below (T2.setTop (mkF m 12 #[.val (.ref o0)] [(.int (1 : Int32))])) _
      refine XS.goto X2.here hx rfl (pc0 := 12) (pc' := 16) rfl (hb hby d3_12) (by decide) (by decide) ?_
      exact k)
    obtain ⟨fs, hr, hrun, hended, hW, hsame⟩ := X2.leave (v := some (.int (1 : Int32))) (fun h => by rw [Bd.returns] at h; cases h)
    refine ⟨_, _, go6 _ ?_, hrun, hended, _, _, rfl, ?_, ⟨_, rfl⟩, hW, hsame.mono (by decide) (by decide)⟩
    · exact retN X2 hx (t := .boolean) Bd.returns (by simp) (hb hby d3_16) hr
    · show Q_rm3 Z o0 w h0 n0 _ T2.heap _
      rw [e2]
      exact ⟨by simp only [if_neg hc3], N0, rfl⟩
theorem pn_rm0 : plainName "com/example/gatewarden/gatewarden/diameter/MessageHeaderIsRequestPinLaw" = true := by first | (simp [plainName, overriddenIn]; done) | decide +kernel
theorem pd0_0 : parseMethodDescriptor "(IIIIII)V" = some ⟨[.int, .int, .int, .int, .int, .int], none⟩ := by decide +kernel
theorem pd0_1 : parseMethodDescriptor "()Z" = some ⟨[], some .boolean⟩ := by decide +kernel
theorem ef_rm0 (m : MethodId) (p0 : Int32) (p1 : Int32) (p2 : Int32) (p3 : Int32) (p4 : Int32) (p5 : Int32) : entryFrame m #[(.int p0), (.int p1), (.int p2), (.int p3), (.int p4), (.int p5)] maxLocals = mkF m 0 #[.val (.int p0), .val (.int p1), .val (.int p2), .val (.int p3), .val (.int p4), .val (.int p5), .unset, .unset, .unset, .unset, .unset, .unset, .unset, .unset, .unset] [] := by first | (simp [entryFrame, mkF, argsToLocals, Value.category, maxLocals]; done) | rfl
def Q_rm0 (Z : State) (p0 : Int32) (p1 : Int32) (p2 : Int32) (p3 : Int32) (p4 : Int32) (p5 : Int32) (h0 : Heap) (n0 : Nat) (v : Option Value) (h : Heap) (L : List Loc) : Prop := v = some (.int (1 : Int32)) ∧ Fr n0 L
set_option maxRecDepth 65536 in
set_option maxHeartbeats 40000000 in
theorem rm0 (l : Launch) (Z : State) (a0 : Array Value) (hw : ∀ d ∈ tables_1, d.before a0 Z = true) (ws : List Jvm.Cond) (p0 : Int32) (p1 : Int32) (p2 : Int32) (p3 : Int32) (p4 : Int32) (p5 : Int32) (h0 : Heap) (n0 : Nat) (Z0 : n0 ≤ h0.size) :
    MetFree l x (head1 (Jvm.Cond.code x code maxLocals ret :: ws) room_1) (fun a U => a = #[(.int p0), (.int p1), (.int p2), (.int p3), (.int p4), (.int p5)] ∧ Z.Warmed39 U.vm ∧ U.heap = h0) (fun _ _ _ _ _ => True) (fun _ U o U' => ∃ v L, o = .returned v ∧ Q_rm0 Z p0 p1 p2 p3 p4 p5 h0 n0 v U'.heap L ∧ FrameEnd U o U' L room_1.cells room_1.slots) := by
  refine MetFree.of_bodySF (plainFor_of_name pn_rm0) hisR ?_
  intro p e s m args below meth c s₁ Bd hml0 hP hK
  obtain ⟨rfl, hZ, hh⟩ := hP
  have hx := Bd.exec
  have hby := Bd.bytes
  have hml : c.maxLocals = 15 := hml0
  have hown : s.vm.findClass "com/example/gatewarden/gatewarden/diameter/MessageHeaderIsRequestPinLaw" = some m.cls := findClass_of_methodNamed Bd.named
  have hnm := (name_of_methodNamed Bd.named Bd.method).1
  have X0 : Stand p l e room_1 s m #[(.int p0), (.int p1), (.int p2), (.int p3), (.int p4), (.int p5)] below meth c s₁ [] 0 0 := Stand.of_body Bd
  have e0 : s₁.heap = h0 := by rw [← hh, Bd.state]; rfl
  have N0 := Fr.nil n0
  have K0 := Keep.refl h0 []
  have go0 : Go p e below (s₁.setTop (entryFrame m #[(.int p0), (.int p1), (.int p2), (.int p3), (.int p4), (.int p5)] maxLocals)) (s₁.setTop (mkF m 0 #[.val (.int p0), .val (.int p1), .val (.int p2), .val (.int p3), .val (.int p4), .val (.int p5), .unset, .unset, .unset, .unset, .unset, .unset, .unset, .unset, .unset] [])) := fun t k => castTop (ef_rm0 m p0 p1 p2 p3 p4 p5) k
  have go1 := go0.step (C := s₁.setTop (mkF m 3 #[.val (.int p0), .val (.int p1), .val (.int p2), .val (.int p3), .val (.int p4), .val (.int p5), .unset, .unset, .unset, .unset, .unset, .unset, .unset, .unset, .unset] [(.int (p1 &&& (1 : Int32)))])) (fun t k => by
    show Steps p.tables e below (s₁.setTop (mkF m 0 #[.val (.int p0), .val (.int p1), .val (.int p2), .val (.int p3), .val (.int p4), .val (.int p5), .unset, .unset, .unset, .unset, .unset, .unset, .unset, .unset, .unset] [])) _
    refine XS.iloadN X0.here hx rfl (hb hby at_0) rfl ?_
    show Steps p.tables e below (s₁.setTop (mkF m 1 #[.val (.int p0), .val (.int p1), .val (.int p2), .val (.int p3), .val (.int p4), .val (.int p5), .unset, .unset, .unset, .unset, .unset, .unset, .unset, .unset, .unset] [(.int p1)])) _
    refine XS.iconst X0.here hx rfl (hb hby at_1) ?_
    show Steps p.tables e below (s₁.setTop (mkF m 2 #[.val (.int p0), .val (.int p1), .val (.int p2), .val (.int p3), .val (.int p4), .val (.int p5), .unset, .unset, .unset, .unset, .unset, .unset, .unset, .unset, .unset] [(.int (1 : Int32)), (.int p1)])) _
    refine XS.iand X0.here hx rfl (hb hby at_2) rfl ?_
    exact k)
  have go3 := go1.step (C := s₁.setTop (mkF m 11 #[.val (.int p0), .val (.int p1), .val (.int p2), .val (.int p3), .val (.int p4), .val (.int p5), .unset, .unset, .unset, .unset, .unset, .unset, .unset, .unset, .unset] [(.int (if (p1 &&& (1 : Int32)) = (0 : Int32) then (0 : Int32) else (1 : Int32)))])) (fun t k => by
    by_cases hc2 : (p1 &&& (1 : Int32)) = (0 : Int32)
    · skip
      try simp only [if_pos hc2] at k
      show Steps p.tables e below (s₁.setTop (mkF m 3 #[.val (.int p0), .val (.int p1), .val (.int p2), .val (.int p3), .val (.int p4), .val (.int p5), .unset, .unset, .unset, .unset, .unset, .unset, .unset, .unset, .unset] [(.int (p1 &&& (1 : Int32)))])) _
      refine XS.ifYes X0.here hx rfl (pc0 := 3) (pc' := 10) rfl (hb hby at_3) rfl ((if0 _ _).trans (teq hc2).1) (by decide) (by decide) ?_
      show Steps p.tables e below (s₁.setTop (mkF m 10 #[.val (.int p0), .val (.int p1), .val (.int p2), .val (.int p3), .val (.int p4), .val (.int p5), .unset, .unset, .unset, .unset, .unset, .unset, .unset, .unset, .unset] [])) _
      refine XS.iconst X0.here hx rfl (hb hby at_10) ?_
      exact k
    · skip
      try simp only [if_neg hc2] at k
      show Steps p.tables e below (s₁.setTop (mkF m 3 #[.val (.int p0), .val (.int p1), .val (.int p2), .val (.int p3), .val (.int p4), .val (.int p5), .unset, .unset, .unset, .unset, .unset, .unset, .unset, .unset, .unset] [(.int (p1 &&& (1 : Int32)))])) _
      refine XS.ifNo X0.here hx rfl (hb hby at_3) rfl ((if0 _ _).trans (feq hc2).1) ?_
      show Steps p.tables e below (s₁.setTop (mkF m 6 #[.val (.int p0), .val (.int p1), .val (.int p2), .val (.int p3), .val (.int p4), .val (.int p5), .unset, .unset, .unset, .unset, .unset, .unset, .unset, .unset, .unset] [])) _
      refine XS.iconst X0.here hx rfl (hb hby at_6) ?_
      show Steps p.tables e below (s₁.setTop (mkF m 7 #[.val (.int p0), .val (.int p1), .val (.int p2), .val (.int p3), .val (.int p4), .val (.int p5), .unset, .unset, .unset, .unset, .unset, .unset, .unset, .unset, .unset] [(.int (1 : Int32))])) _
      refine XS.goto X0.here hx rfl (pc0 := 7) (pc' := 11) rfl (hb hby at_7) (by decide) (by decide) ?_
      exact k
    )
  obtain ⟨r, hr⟩ : ∃ z : Int32, z = (if (p1 &&& (1 : Int32)) = (0 : Int32) then (0 : Int32) else (1 : Int32)) := ⟨_, rfl⟩
  rw [← hr] at go3
  have go4 := go3.step (C := s₁.setTop (mkF m 16 #[.val (.int p0), .val (.int p1), .val (.int p2), .val (.int p3), .val (.int p4), .val (.int p5), .val (.int r), .unset, .unset, .unset, .unset, .unset, .unset, .unset, .unset] [(.int (p1 &&& (2 : Int32)))])) (fun t k => by
    show Steps p.tables e below (s₁.setTop (mkF m 11 #[.val (.int p0), .val (.int p1), .val (.int p2), .val (.int p3), .val (.int p4), .val (.int p5), .unset, .unset, .unset, .unset, .unset, .unset, .unset, .unset, .unset] [(.int r)])) _
    refine XS.istore X0.here hx rfl (hb hby at_11) rfl (l' := #[.val (.int p0), .val (.int p1), .val (.int p2), .val (.int p3), .val (.int p4), .val (.int p5), .val (.int r), .unset, .unset, .unset, .unset, .unset, .unset, .unset, .unset]) rfl ?_
    show Steps p.tables e below (s₁.setTop (mkF m 13 #[.val (.int p0), .val (.int p1), .val (.int p2), .val (.int p3), .val (.int p4), .val (.int p5), .val (.int r), .unset, .unset, .unset, .unset, .unset, .unset, .unset, .unset] [])) _
    refine XS.iloadN X0.here hx rfl (hb hby at_13) rfl ?_
    show Steps p.tables e below (s₁.setTop (mkF m 14 #[.val (.int p0), .val (.int p1), .val (.int p2), .val (.int p3), .val (.int p4), .val (.int p5), .val (.int r), .unset, .unset, .unset, .unset, .unset, .unset, .unset, .unset] [(.int p1)])) _
    refine XS.iconst X0.here hx rfl (hb hby at_14) ?_
    show Steps p.tables e below (s₁.setTop (mkF m 15 #[.val (.int p0), .val (.int p1), .val (.int p2), .val (.int p3), .val (.int p4), .val (.int p5), .val (.int r), .unset, .unset, .unset, .unset, .unset, .unset, .unset, .unset] [(.int (2 : Int32)), (.int p1)])) _
    refine XS.iand X0.here hx rfl (hb hby at_15) rfl ?_
    exact k)
  have go6 := go4.step (C := s₁.setTop (mkF m 24 #[.val (.int p0), .val (.int p1), .val (.int p2), .val (.int p3), .val (.int p4), .val (.int p5), .val (.int r), .unset, .unset, .unset, .unset, .unset, .unset, .unset, .unset] [(.int (if (p1 &&& (2 : Int32)) = (0 : Int32) then (0 : Int32) else (1 : Int32)))])) (fun t k => by
    by_cases hc5 : (p1 &&& (2 : Int32)) = (0 : Int32)
    · skip
      try simp only [if_pos hc5] at k
      show Steps p.tables e below (s₁.setTop (mkF m 16 #[.val (.int p0), .val (.int p1), .val (.int p2), .val (.int p3), .val (.int p4), .val (.int p5), .val (.int r), .unset, .unset, .unset, .unset, .unset, .unset, .unset, .unset] [(.int (p1 &&& (2 : Int32)))])) _
      refine XS.ifYes X0.here hx rfl (pc0 := 16) (pc' := 23) rfl (hb hby at_16) rfl ((if0 _ _).trans (teq hc5).1) (by decide) (by decide) ?_
      show Steps p.tables e below (s₁.setTop (mkF m 23 #[.val (.int p0), .val (.int p1), .val (.int p2), .val (.int p3), .val (.int p4), .val (.int p5), .val (.int r), .unset, .unset, .unset, .unset, .unset, .unset, .unset, .unset] [])) _
      refine XS.iconst X0.here hx rfl (hb hby at_23) ?_
      exact k
    · skip
      try simp only [if_neg hc5] at k
      show Steps p.tables e below (s₁.setTop (mkF m 16 #[.val (.int p0), .val (.int p1), .val (.int p2), .val (.int p3), .val (.int p4), .val (.int p5), .val (.int r), .unset, .unset, .unset, .unset, .unset, .unset, .unset, .unset] [(.int (p1 &&& (2 : Int32)))])) _
      refine XS.ifNo X0.here hx rfl (hb hby at_16) rfl ((if0 _ _).trans (feq hc5).1) ?_
      show Steps p.tables e below (s₁.setTop (mkF m 19 #[.val (.int p0), .val (.int p1), .val (.int p2), .val (.int p3), .val (.int p4), .val (.int p5), .val (.int r), .unset, .unset, .unset, .unset, .unset, .unset, .unset, .unset] [])) _
      refine XS.iconst X0.here hx rfl (hb hby at_19) ?_
      show Steps p.tables e below (s₁.setTop (mkF m 20 #[.val (.int p0), .val (.int p1), .val (.int p2), .val (.int p3), .val (.int p4), .val (.int p5), .val (.int r), .unset, .unset, .unset, .unset, .unset, .unset, .unset, .unset] [(.int (1 : Int32))])) _
      refine XS.goto X0.here hx rfl (pc0 := 20) (pc' := 24) rfl (hb hby at_20) (by decide) (by decide) ?_
      exact k
    )
  obtain ⟨p_, hp_⟩ : ∃ z : Int32, z = (if (p1 &&& (2 : Int32)) = (0 : Int32) then (0 : Int32) else (1 : Int32)) := ⟨_, rfl⟩
  rw [← hp_] at go6
  have go7 := go6.step (C := s₁.setTop (mkF m 29 #[.val (.int p0), .val (.int p1), .val (.int p2), .val (.int p3), .val (.int p4), .val (.int p5), .val (.int r), .val (.int p_), .unset, .unset, .unset, .unset, .unset, .unset, .unset] [(.int (p1 &&& (4 : Int32)))])) (fun t k => by
    show Steps p.tables e below (s₁.setTop (mkF m 24 #[.val (.int p0), .val (.int p1), .val (.int p2), .val (.int p3), .val (.int p4), .val (.int p5), .val (.int r), .unset, .unset, .unset, .unset, .unset, .unset, .unset, .unset] [(.int p_)])) _
    refine XS.istore X0.here hx rfl (hb hby at_24) rfl (l' := #[.val (.int p0), .val (.int p1), .val (.int p2), .val (.int p3), .val (.int p4), .val (.int p5), .val (.int r), .val (.int p_), .unset, .unset, .unset, .unset, .unset, .unset, .unset]) rfl ?_
    show Steps p.tables e below (s₁.setTop (mkF m 26 #[.val (.int p0), .val (.int p1), .val (.int p2), .val (.int p3), .val (.int p4), .val (.int p5), .val (.int r), .val (.int p_), .unset, .unset, .unset, .unset, .unset, .unset, .unset] [])) _
    refine XS.iloadN X0.here hx rfl (hb hby at_26) rfl ?_
    show Steps p.tables e below (s₁.setTop (mkF m 27 #[.val (.int p0), .val (.int p1), .val (.int p2), .val (.int p3), .val (.int p4), .val (.int p5), .val (.int r), .val (.int p_), .unset, .unset, .unset, .unset, .unset, .unset, .unset] [(.int p1)])) _
    refine XS.iconst X0.here hx rfl (hb hby at_27) ?_
    show Steps p.tables e below (s₁.setTop (mkF m 28 #[.val (.int p0), .val (.int p1), .val (.int p2), .val (.int p3), .val (.int p4), .val (.int p5), .val (.int r), .val (.int p_), .unset, .unset, .unset, .unset, .unset, .unset, .unset] [(.int (4 : Int32)), (.int p1)])) _
    refine XS.iand X0.here hx rfl (hb hby at_28) rfl ?_
    exact k)
  have go9 := go7.step (C := s₁.setTop (mkF m 37 #[.val (.int p0), .val (.int p1), .val (.int p2), .val (.int p3), .val (.int p4), .val (.int p5), .val (.int r), .val (.int p_), .unset, .unset, .unset, .unset, .unset, .unset, .unset] [(.int (if (p1 &&& (4 : Int32)) = (0 : Int32) then (0 : Int32) else (1 : Int32)))])) (fun t k => by
    by_cases hc8 : (p1 &&& (4 : Int32)) = (0 : Int32)
    · skip
      try simp only [if_pos hc8] at k
      show Steps p.tables e below (s₁.setTop (mkF m 29 #[.val (.int p0), .val (.int p1), .val (.int p2), .val (.int p3), .val (.int p4), .val (.int p5), .val (.int r), .val (.int p_), .unset, .unset, .unset, .unset, .unset, .unset, .unset] [(.int (p1 &&& (4 : Int32)))])) _
      refine XS.ifYes X0.here hx rfl (pc0 := 29) (pc' := 36) rfl (hb hby at_29) rfl ((if0 _ _).trans (teq hc8).1) (by decide) (by decide) ?_
      show Steps p.tables e below (s₁.setTop (mkF m 36 #[.val (.int p0), .val (.int p1), .val (.int p2), .val (.int p3), .val (.int p4), .val (.int p5), .val (.int r), .val (.int p_), .unset, .unset, .unset, .unset, .unset, .unset, .unset] [])) _
      refine XS.iconst X0.here hx rfl (hb hby at_36) ?_
      exact k
    · skip
      try simp only [if_neg hc8] at k
      show Steps p.tables e below (s₁.setTop (mkF m 29 #[.val (.int p0), .val (.int p1), .val (.int p2), .val (.int p3), .val (.int p4), .val (.int p5), .val (.int r), .val (.int p_), .unset, .unset, .unset, .unset, .unset, .unset, .unset] [(.int (p1 &&& (4 : Int32)))])) _
      refine XS.ifNo X0.here hx rfl (hb hby at_29) rfl ((if0 _ _).trans (feq hc8).1) ?_
      show Steps p.tables e below (s₁.setTop (mkF m 32 #[.val (.int p0), .val (.int p1), .val (.int p2), .val (.int p3), .val (.int p4), .val (.int p5), .val (.int r), .val (.int p_), .unset, .unset, .unset, .unset, .unset, .unset, .unset] [])) _
      refine XS.iconst X0.here hx rfl (hb hby at_32) ?_
      show Steps p.tables e below (s₁.setTop (mkF m 33 #[.val (.int p0), .val (.int p1), .val (.int p2), .val (.int p3), .val (.int p4), .val (.int p5), .val (.int r), .val (.int p_), .unset, .unset, .unset, .unset, .unset, .unset, .unset] [(.int (1 : Int32))])) _
      refine XS.goto X0.here hx rfl (pc0 := 33) (pc' := 37) rfl (hb hby at_33) (by decide) (by decide) ?_
      exact k
    )
  obtain ⟨e_, he_⟩ : ∃ z : Int32, z = (if (p1 &&& (4 : Int32)) = (0 : Int32) then (0 : Int32) else (1 : Int32)) := ⟨_, rfl⟩
  rw [← he_] at go9
  have go10 := go9.step (C := s₁.setTop (mkF m 43 #[.val (.int p0), .val (.int p1), .val (.int p2), .val (.int p3), .val (.int p4), .val (.int p5), .val (.int r), .val (.int p_), .val (.int e_), .unset, .unset, .unset, .unset, .unset, .unset] [(.int (p1 &&& (8 : Int32)))])) (fun t k => by
    show Steps p.tables e below (s₁.setTop (mkF m 37 #[.val (.int p0), .val (.int p1), .val (.int p2), .val (.int p3), .val (.int p4), .val (.int p5), .val (.int r), .val (.int p_), .unset, .unset, .unset, .unset, .unset, .unset, .unset] [(.int e_)])) _
    refine XS.istore X0.here hx rfl (hb hby at_37) rfl (l' := #[.val (.int p0), .val (.int p1), .val (.int p2), .val (.int p3), .val (.int p4), .val (.int p5), .val (.int r), .val (.int p_), .val (.int e_), .unset, .unset, .unset, .unset, .unset, .unset]) rfl ?_
    show Steps p.tables e below (s₁.setTop (mkF m 39 #[.val (.int p0), .val (.int p1), .val (.int p2), .val (.int p3), .val (.int p4), .val (.int p5), .val (.int r), .val (.int p_), .val (.int e_), .unset, .unset, .unset, .unset, .unset, .unset] [])) _
    refine XS.iloadN X0.here hx rfl (hb hby at_39) rfl ?_
    show Steps p.tables e below (s₁.setTop (mkF m 40 #[.val (.int p0), .val (.int p1), .val (.int p2), .val (.int p3), .val (.int p4), .val (.int p5), .val (.int r), .val (.int p_), .val (.int e_), .unset, .unset, .unset, .unset, .unset, .unset] [(.int p1)])) _
    refine XS.bipush X0.here hx rfl (hb hby at_40) ?_
    show Steps p.tables e below (s₁.setTop (mkF m 42 #[.val (.int p0), .val (.int p1), .val (.int p2), .val (.int p3), .val (.int p4), .val (.int p5), .val (.int r), .val (.int p_), .val (.int e_), .unset, .unset, .unset, .unset, .unset, .unset] [(.int (8 : Int32)), (.int p1)])) _
    refine XS.iand X0.here hx rfl (hb hby at_42) rfl ?_
    exact k)
  have go12 := go10.step (C := s₁.setTop (mkF m 51 #[.val (.int p0), .val (.int p1), .val (.int p2), .val (.int p3), .val (.int p4), .val (.int p5), .val (.int r), .val (.int p_), .val (.int e_), .unset, .unset, .unset, .unset, .unset, .unset] [(.int (if (p1 &&& (8 : Int32)) = (0 : Int32) then (0 : Int32) else (1 : Int32)))])) (fun t k => by
    by_cases hc11 : (p1 &&& (8 : Int32)) = (0 : Int32)
    · skip
      try simp only [if_pos hc11] at k
      show Steps p.tables e below (s₁.setTop (mkF m 43 #[.val (.int p0), .val (.int p1), .val (.int p2), .val (.int p3), .val (.int p4), .val (.int p5), .val (.int r), .val (.int p_), .val (.int e_), .unset, .unset, .unset, .unset, .unset, .unset] [(.int (p1 &&& (8 : Int32)))])) _
      refine XS.ifYes X0.here hx rfl (pc0 := 43) (pc' := 50) rfl (hb hby at_43) rfl ((if0 _ _).trans (teq hc11).1) (by decide) (by decide) ?_
      show Steps p.tables e below (s₁.setTop (mkF m 50 #[.val (.int p0), .val (.int p1), .val (.int p2), .val (.int p3), .val (.int p4), .val (.int p5), .val (.int r), .val (.int p_), .val (.int e_), .unset, .unset, .unset, .unset, .unset, .unset] [])) _
      refine XS.iconst X0.here hx rfl (hb hby at_50) ?_
      exact k
    · skip
      try simp only [if_neg hc11] at k
      show Steps p.tables e below (s₁.setTop (mkF m 43 #[.val (.int p0), .val (.int p1), .val (.int p2), .val (.int p3), .val (.int p4), .val (.int p5), .val (.int r), .val (.int p_), .val (.int e_), .unset, .unset, .unset, .unset, .unset, .unset] [(.int (p1 &&& (8 : Int32)))])) _
      refine XS.ifNo X0.here hx rfl (hb hby at_43) rfl ((if0 _ _).trans (feq hc11).1) ?_
      show Steps p.tables e below (s₁.setTop (mkF m 46 #[.val (.int p0), .val (.int p1), .val (.int p2), .val (.int p3), .val (.int p4), .val (.int p5), .val (.int r), .val (.int p_), .val (.int e_), .unset, .unset, .unset, .unset, .unset, .unset] [])) _
      refine XS.iconst X0.here hx rfl (hb hby at_46) ?_
      show Steps p.tables e below (s₁.setTop (mkF m 47 #[.val (.int p0), .val (.int p1), .val (.int p2), .val (.int p3), .val (.int p4), .val (.int p5), .val (.int r), .val (.int p_), .val (.int e_), .unset, .unset, .unset, .unset, .unset, .unset] [(.int (1 : Int32))])) _
      refine XS.goto X0.here hx rfl (pc0 := 47) (pc' := 51) rfl (hb hby at_47) (by decide) (by decide) ?_
      exact k
    )
  obtain ⟨t_, ht_⟩ : ∃ z : Int32, z = (if (p1 &&& (8 : Int32)) = (0 : Int32) then (0 : Int32) else (1 : Int32)) := ⟨_, rfl⟩
  rw [← ht_] at go12
  have go13 := go12.step (C := s₁.setTop (mkF m 58 #[.val (.int p0), .val (.int p1), .val (.int p2), .val (.int p3), .val (.int p4), .val (.int p5), .val (.int r), .val (.int p_), .val (.int e_), .val (.int t_), .val (.int (0 : Int32)), .unset, .unset, .unset, .unset] [(.int r)])) (fun t k => by
    show Steps p.tables e below (s₁.setTop (mkF m 51 #[.val (.int p0), .val (.int p1), .val (.int p2), .val (.int p3), .val (.int p4), .val (.int p5), .val (.int r), .val (.int p_), .val (.int e_), .unset, .unset, .unset, .unset, .unset, .unset] [(.int t_)])) _
    refine XS.istore X0.here hx rfl (hb hby at_51) rfl (l' := #[.val (.int p0), .val (.int p1), .val (.int p2), .val (.int p3), .val (.int p4), .val (.int p5), .val (.int r), .val (.int p_), .val (.int e_), .val (.int t_), .unset, .unset, .unset, .unset, .unset]) rfl ?_
    show Steps p.tables e below (s₁.setTop (mkF m 53 #[.val (.int p0), .val (.int p1), .val (.int p2), .val (.int p3), .val (.int p4), .val (.int p5), .val (.int r), .val (.int p_), .val (.int e_), .val (.int t_), .unset, .unset, .unset, .unset, .unset] [])) _
    refine XS.iconst X0.here hx rfl (hb hby at_53) ?_
    show Steps p.tables e below (s₁.setTop (mkF m 54 #[.val (.int p0), .val (.int p1), .val (.int p2), .val (.int p3), .val (.int p4), .val (.int p5), .val (.int r), .val (.int p_), .val (.int e_), .val (.int t_), .unset, .unset, .unset, .unset, .unset] [(.int (0 : Int32))])) _
    refine XS.istore X0.here hx rfl (hb hby at_54) rfl (l' := #[.val (.int p0), .val (.int p1), .val (.int p2), .val (.int p3), .val (.int p4), .val (.int p5), .val (.int r), .val (.int p_), .val (.int e_), .val (.int t_), .val (.int (0 : Int32)), .unset, .unset, .unset, .unset]) rfl ?_
    show Steps p.tables e below (s₁.setTop (mkF m 56 #[.val (.int p0), .val (.int p1), .val (.int p2), .val (.int p3), .val (.int p4), .val (.int p5), .val (.int r), .val (.int p_), .val (.int e_), .val (.int t_), .val (.int (0 : Int32)), .unset, .unset, .unset, .unset] [])) _
    refine XS.iload X0.here hx rfl (hb hby at_56) rfl ?_
    exact k)
  have go15 := go13.step (C := s₁.setTop (mkF m 69 #[.val (.int p0), .val (.int p1), .val (.int p2), .val (.int p3), .val (.int p4), .val (.int p5), .val (.int r), .val (.int p_), .val (.int e_), .val (.int t_), .val (.int (if r = (0 : Int32) then (0 : Int32) else ((0 : Int32) ||| (128 : Int32)))), .unset, .unset, .unset, .unset] [])) (fun t k => by
    by_cases hc14 : r = (0 : Int32)
    · skip
      try simp only [if_pos hc14] at k
      show Steps p.tables e below (s₁.setTop (mkF m 58 #[.val (.int p0), .val (.int p1), .val (.int p2), .val (.int p3), .val (.int p4), .val (.int p5), .val (.int r), .val (.int p_), .val (.int e_), .val (.int t_), .val (.int (0 : Int32)), .unset, .unset, .unset, .unset] [(.int r)])) _
      refine XS.ifYes X0.here hx rfl (pc0 := 58) (pc' := 69) rfl (hb hby at_58) rfl ((if0 _ _).trans (teq hc14).1) (by decide) (by decide) ?_
      exact k
    · skip
      try simp only [if_neg hc14] at k
      show Steps p.tables e below (s₁.setTop (mkF m 58 #[.val (.int p0), .val (.int p1), .val (.int p2), .val (.int p3), .val (.int p4), .val (.int p5), .val (.int r), .val (.int p_), .val (.int e_), .val (.int t_), .val (.int (0 : Int32)), .unset, .unset, .unset, .unset] [(.int r)])) _
      refine XS.ifNo X0.here hx rfl (hb hby at_58) rfl ((if0 _ _).trans (feq hc14).1) ?_
      show Steps p.tables e below (s₁.setTop (mkF m 61 #[.val (.int p0), .val (.int p1), .val (.int p2), .val (.int p3), .val (.int p4), .val (.int p5), .val (.int r), .val (.int p_), .val (.int e_), .val (.int t_), .val (.int (0 : Int32)), .unset, .unset, .unset, .unset] [])) _
      refine XS.iload X0.here hx rfl (hb hby at_61) rfl ?_
      show Steps p.tables e below (s₁.setTop (mkF m 63 #[.val (.int p0), .val (.int p1), .val (.int p2), .val (.int p3), .val (.int p4), .val (.int p5), .val (.int r), .val (.int p_), .val (.int e_), .val (.int t_), .val (.int (0 : Int32)), .unset, .unset, .unset, .unset] [(.int (0 : Int32))])) _
      refine XS.sipush X0.here hx rfl (hb hby at_63) ?_
      show Steps p.tables e below (s₁.setTop (mkF m 66 #[.val (.int p0), .val (.int p1), .val (.int p2), .val (.int p3), .val (.int p4), .val (.int p5), .val (.int r), .val (.int p_), .val (.int e_), .val (.int t_), .val (.int (0 : Int32)), .unset, .unset, .unset, .unset] [(.int (128 : Int32)), (.int (0 : Int32))])) _
      refine XS.ior X0.here hx rfl (hb hby at_66) rfl ?_
      show Steps p.tables e below (s₁.setTop (mkF m 67 #[.val (.int p0), .val (.int p1), .val (.int p2), .val (.int p3), .val (.int p4), .val (.int p5), .val (.int r), .val (.int p_), .val (.int e_), .val (.int t_), .val (.int (0 : Int32)), .unset, .unset, .unset, .unset] [(.int ((0 : Int32) ||| (128 : Int32)))])) _
      refine XS.istore X0.here hx rfl (hb hby at_67) rfl (l' := #[.val (.int p0), .val (.int p1), .val (.int p2), .val (.int p3), .val (.int p4), .val (.int p5), .val (.int r), .val (.int p_), .val (.int e_), .val (.int t_), .val (.int ((0 : Int32) ||| (128 : Int32))), .unset, .unset, .unset, .unset]) rfl ?_
      exact k
    )
  obtain ⟨f1, hf1⟩ : ∃ z : Int32, z = (if r = (0 : Int32) then (0 : Int32) else ((0 : Int32) ||| (128 : Int32))) := ⟨_, rfl⟩
  rw [← hf1] at go15
  have go16 := go15.step (C := s₁.setTop (mkF m 71 #[.val (.int p0), .val (.int p1), .val (.int p2), .val (.int p3), .val (.int p4), .val (.int p5), .val (.int r), .val (.int p_), .val (.int e_), .val (.int t_), .val (.int f1), .unset, .unset, .unset, .unset] [(.int p_)])) (fun t k => by
    show Steps p.tables e below (s₁.setTop (mkF m 69 #[.val (.int p0), .val (.int p1), .val (.int p2), .val (.int p3), .val (.int p4), .val (.int p5), .val (.int r), .val (.int p_), .val (.int e_), .val (.int t_), .val (.int f1), .unset, .unset, .unset, .unset] [])) _
    refine XS.iload X0.here hx rfl (hb hby at_69) rfl ?_
    exact k)
  have go18 := go16.step (C := s₁.setTop (mkF m 81 #[.val (.int p0), .val (.int p1), .val (.int p2), .val (.int p3), .val (.int p4), .val (.int p5), .val (.int r), .val (.int p_), .val (.int e_), .val (.int t_), .val (.int (if p_ = (0 : Int32) then f1 else (f1 ||| (64 : Int32)))), .unset, .unset, .unset, .unset] [])) (fun t k => by
    by_cases hc17 : p_ = (0 : Int32)
    · skip
      try simp only [if_pos hc17] at k
      show Steps p.tables e below (s₁.setTop (mkF m 71 #[.val (.int p0), .val (.int p1), .val (.int p2), .val (.int p3), .val (.int p4), .val (.int p5), .val (.int r), .val (.int p_), .val (.int e_), .val (.int t_), .val (.int f1), .unset, .unset, .unset, .unset] [(.int p_)])) _
      refine XS.ifYes X0.here hx rfl (pc0 := 71) (pc' := 81) rfl (hb hby at_71) rfl ((if0 _ _).trans (teq hc17).1) (by decide) (by decide) ?_
      exact k
    · skip
      try simp only [if_neg hc17] at k
      show Steps p.tables e below (s₁.setTop (mkF m 71 #[.val (.int p0), .val (.int p1), .val (.int p2), .val (.int p3), .val (.int p4), .val (.int p5), .val (.int r), .val (.int p_), .val (.int e_), .val (.int t_), .val (.int f1), .unset, .unset, .unset, .unset] [(.int p_)])) _
      refine XS.ifNo X0.here hx rfl (hb hby at_71) rfl ((if0 _ _).trans (feq hc17).1) ?_
      show Steps p.tables e below (s₁.setTop (mkF m 74 #[.val (.int p0), .val (.int p1), .val (.int p2), .val (.int p3), .val (.int p4), .val (.int p5), .val (.int r), .val (.int p_), .val (.int e_), .val (.int t_), .val (.int f1), .unset, .unset, .unset, .unset] [])) _
      refine XS.iload X0.here hx rfl (hb hby at_74) rfl ?_
      show Steps p.tables e below (s₁.setTop (mkF m 76 #[.val (.int p0), .val (.int p1), .val (.int p2), .val (.int p3), .val (.int p4), .val (.int p5), .val (.int r), .val (.int p_), .val (.int e_), .val (.int t_), .val (.int f1), .unset, .unset, .unset, .unset] [(.int f1)])) _
      refine XS.bipush X0.here hx rfl (hb hby at_76) ?_
      show Steps p.tables e below (s₁.setTop (mkF m 78 #[.val (.int p0), .val (.int p1), .val (.int p2), .val (.int p3), .val (.int p4), .val (.int p5), .val (.int r), .val (.int p_), .val (.int e_), .val (.int t_), .val (.int f1), .unset, .unset, .unset, .unset] [(.int (64 : Int32)), (.int f1)])) _
      refine XS.ior X0.here hx rfl (hb hby at_78) rfl ?_
      show Steps p.tables e below (s₁.setTop (mkF m 79 #[.val (.int p0), .val (.int p1), .val (.int p2), .val (.int p3), .val (.int p4), .val (.int p5), .val (.int r), .val (.int p_), .val (.int e_), .val (.int t_), .val (.int f1), .unset, .unset, .unset, .unset] [(.int (f1 ||| (64 : Int32)))])) _
      refine XS.istore X0.here hx rfl (hb hby at_79) rfl (l' := #[.val (.int p0), .val (.int p1), .val (.int p2), .val (.int p3), .val (.int p4), .val (.int p5), .val (.int r), .val (.int p_), .val (.int e_), .val (.int t_), .val (.int (f1 ||| (64 : Int32))), .unset, .unset, .unset, .unset]) rfl ?_
      exact k
    )
  obtain ⟨f2, hf2⟩ : ∃ z : Int32, z = (if p_ = (0 : Int32) then f1 else (f1 ||| (64 : Int32))) := ⟨_, rfl⟩
  rw [← hf2] at go18
  have go19 := go18.step (C := s₁.setTop (mkF m 83 #[.val (.int p0), .val (.int p1), .val (.int p2), .val (.int p3), .val (.int p4), .val (.int p5), .val (.int r), .val (.int p_), .val (.int e_), .val (.int t_), .val (.int f2), .unset, .unset, .unset, .unset] [(.int e_)])) (fun t k => by
    show Steps p.tables e below (s₁.setTop (mkF m 81 #[.val (.int p0), .val (.int p1), .val (.int p2), .val (.int p3), .val (.int p4), .val (.int p5), .val (.int r), .val (.int p_), .val (.int e_), .val (.int t_), .val (.int f2), .unset, .unset, .unset, .unset] [])) _
    refine XS.iload X0.here hx rfl (hb hby at_81) rfl ?_
    exact k)
  have go21 := go19.step (C := s₁.setTop (mkF m 93 #[.val (.int p0), .val (.int p1), .val (.int p2), .val (.int p3), .val (.int p4), .val (.int p5), .val (.int r), .val (.int p_), .val (.int e_), .val (.int t_), .val (.int (if e_ = (0 : Int32) then f2 else (f2 ||| (32 : Int32)))), .unset, .unset, .unset, .unset] [])) (fun t k => by
    by_cases hc20 : e_ = (0 : Int32)
    · skip
      try simp only [if_pos hc20] at k
      show Steps p.tables e below (s₁.setTop (mkF m 83 #[.val (.int p0), .val (.int p1), .val (.int p2), .val (.int p3), .val (.int p4), .val (.int p5), .val (.int r), .val (.int p_), .val (.int e_), .val (.int t_), .val (.int f2), .unset, .unset, .unset, .unset] [(.int e_)])) _
      refine XS.ifYes X0.here hx rfl (pc0 := 83) (pc' := 93) rfl (hb hby at_83) rfl ((if0 _ _).trans (teq hc20).1) (by decide) (by decide) ?_
      exact k
    · skip
      try simp only [if_neg hc20] at k
      show Steps p.tables e below (s₁.setTop (mkF m 83 #[.val (.int p0), .val (.int p1), .val (.int p2), .val (.int p3), .val (.int p4), .val (.int p5), .val (.int r), .val (.int p_), .val (.int e_), .val (.int t_), .val (.int f2), .unset, .unset, .unset, .unset] [(.int e_)])) _
      refine XS.ifNo X0.here hx rfl (hb hby at_83) rfl ((if0 _ _).trans (feq hc20).1) ?_
      show Steps p.tables e below (s₁.setTop (mkF m 86 #[.val (.int p0), .val (.int p1), .val (.int p2), .val (.int p3), .val (.int p4), .val (.int p5), .val (.int r), .val (.int p_), .val (.int e_), .val (.int t_), .val (.int f2), .unset, .unset, .unset, .unset] [])) _
      refine XS.iload X0.here hx rfl (hb hby at_86) rfl ?_
      show Steps p.tables e below (s₁.setTop (mkF m 88 #[.val (.int p0), .val (.int p1), .val (.int p2), .val (.int p3), .val (.int p4), .val (.int p5), .val (.int r), .val (.int p_), .val (.int e_), .val (.int t_), .val (.int f2), .unset, .unset, .unset, .unset] [(.int f2)])) _
      refine XS.bipush X0.here hx rfl (hb hby at_88) ?_
      show Steps p.tables e below (s₁.setTop (mkF m 90 #[.val (.int p0), .val (.int p1), .val (.int p2), .val (.int p3), .val (.int p4), .val (.int p5), .val (.int r), .val (.int p_), .val (.int e_), .val (.int t_), .val (.int f2), .unset, .unset, .unset, .unset] [(.int (32 : Int32)), (.int f2)])) _
      refine XS.ior X0.here hx rfl (hb hby at_90) rfl ?_
      show Steps p.tables e below (s₁.setTop (mkF m 91 #[.val (.int p0), .val (.int p1), .val (.int p2), .val (.int p3), .val (.int p4), .val (.int p5), .val (.int r), .val (.int p_), .val (.int e_), .val (.int t_), .val (.int f2), .unset, .unset, .unset, .unset] [(.int (f2 ||| (32 : Int32)))])) _
      refine XS.istore X0.here hx rfl (hb hby at_91) rfl (l' := #[.val (.int p0), .val (.int p1), .val (.int p2), .val (.int p3), .val (.int p4), .val (.int p5), .val (.int r), .val (.int p_), .val (.int e_), .val (.int t_), .val (.int (f2 ||| (32 : Int32))), .unset, .unset, .unset, .unset]) rfl ?_
      exact k
    )
  obtain ⟨f3, hf3⟩ : ∃ z : Int32, z = (if e_ = (0 : Int32) then f2 else (f2 ||| (32 : Int32))) := ⟨_, rfl⟩
  rw [← hf3] at go21
  have go22 := go21.step (C := s₁.setTop (mkF m 95 #[.val (.int p0), .val (.int p1), .val (.int p2), .val (.int p3), .val (.int p4), .val (.int p5), .val (.int r), .val (.int p_), .val (.int e_), .val (.int t_), .val (.int f3), .unset, .unset, .unset, .unset] [(.int t_)])) (fun t k => by
    show Steps p.tables e below (s₁.setTop (mkF m 93 #[.val (.int p0), .val (.int p1), .val (.int p2), .val (.int p3), .val (.int p4), .val (.int p5), .val (.int r), .val (.int p_), .val (.int e_), .val (.int t_), .val (.int f3), .unset, .unset, .unset, .unset] [])) _
    refine XS.iload X0.here hx rfl (hb hby at_93) rfl ?_
    exact k)
  have go24 := go22.step (C := s₁.setTop (mkF m 105 #[.val (.int p0), .val (.int p1), .val (.int p2), .val (.int p3), .val (.int p4), .val (.int p5), .val (.int r), .val (.int p_), .val (.int e_), .val (.int t_), .val (.int (if t_ = (0 : Int32) then f3 else (f3 ||| (16 : Int32)))), .unset, .unset, .unset, .unset] [])) (fun t k => by
    by_cases hc23 : t_ = (0 : Int32)
    · skip
      try simp only [if_pos hc23] at k
      show Steps p.tables e below (s₁.setTop (mkF m 95 #[.val (.int p0), .val (.int p1), .val (.int p2), .val (.int p3), .val (.int p4), .val (.int p5), .val (.int r), .val (.int p_), .val (.int e_), .val (.int t_), .val (.int f3), .unset, .unset, .unset, .unset] [(.int t_)])) _
      refine XS.ifYes X0.here hx rfl (pc0 := 95) (pc' := 105) rfl (hb hby at_95) rfl ((if0 _ _).trans (teq hc23).1) (by decide) (by decide) ?_
      exact k
    · skip
      try simp only [if_neg hc23] at k
      show Steps p.tables e below (s₁.setTop (mkF m 95 #[.val (.int p0), .val (.int p1), .val (.int p2), .val (.int p3), .val (.int p4), .val (.int p5), .val (.int r), .val (.int p_), .val (.int e_), .val (.int t_), .val (.int f3), .unset, .unset, .unset, .unset] [(.int t_)])) _
      refine XS.ifNo X0.here hx rfl (hb hby at_95) rfl ((if0 _ _).trans (feq hc23).1) ?_
      show Steps p.tables e below (s₁.setTop (mkF m 98 #[.val (.int p0), .val (.int p1), .val (.int p2), .val (.int p3), .val (.int p4), .val (.int p5), .val (.int r), .val (.int p_), .val (.int e_), .val (.int t_), .val (.int f3), .unset, .unset, .unset, .unset] [])) _
      refine XS.iload X0.here hx rfl (hb hby at_98) rfl ?_
      show Steps p.tables e below (s₁.setTop (mkF m 100 #[.val (.int p0), .val (.int p1), .val (.int p2), .val (.int p3), .val (.int p4), .val (.int p5), .val (.int r), .val (.int p_), .val (.int e_), .val (.int t_), .val (.int f3), .unset, .unset, .unset, .unset] [(.int f3)])) _
      refine XS.bipush X0.here hx rfl (hb hby at_100) ?_
      show Steps p.tables e below (s₁.setTop (mkF m 102 #[.val (.int p0), .val (.int p1), .val (.int p2), .val (.int p3), .val (.int p4), .val (.int p5), .val (.int r), .val (.int p_), .val (.int e_), .val (.int t_), .val (.int f3), .unset, .unset, .unset, .unset] [(.int (16 : Int32)), (.int f3)])) _
      refine XS.ior X0.here hx rfl (hb hby at_102) rfl ?_
      show Steps p.tables e below (s₁.setTop (mkF m 103 #[.val (.int p0), .val (.int p1), .val (.int p2), .val (.int p3), .val (.int p4), .val (.int p5), .val (.int r), .val (.int p_), .val (.int e_), .val (.int t_), .val (.int f3), .unset, .unset, .unset, .unset] [(.int (f3 ||| (16 : Int32)))])) _
      refine XS.istore X0.here hx rfl (hb hby at_103) rfl (l' := #[.val (.int p0), .val (.int p1), .val (.int p2), .val (.int p3), .val (.int p4), .val (.int p5), .val (.int r), .val (.int p_), .val (.int e_), .val (.int t_), .val (.int (f3 ||| (16 : Int32))), .unset, .unset, .unset, .unset]) rfl ?_
      exact k
    )
  obtain ⟨f4, hf4⟩ : ∃ z : Int32, z = (if t_ = (0 : Int32) then f3 else (f3 ||| (16 : Int32))) := ⟨_, rfl⟩
  rw [← hf4] at go24
  have go25 := go24.step (C := s₁.setTop (mkF m 121 #[.val (.int p0), .val (.int p1), .val (.int p2), .val (.int p3), .val (.int p4), .val (.int p5), .val (.int r), .val (.int p_), .val (.int e_), .val (.int t_), .val (.int f4), .val (.int ((p0 &&& (2147483647 : Int32)) % (4194299 : Int32))), .unset, .unset, .unset] [(.int ((20 : Int32) + ((4 : Int32) * ((p0 &&& (2147483647 : Int32)) % (4194299 : Int32)))))])) (fun t k => by
    show Steps p.tables e below (s₁.setTop (mkF m 105 #[.val (.int p0), .val (.int p1), .val (.int p2), .val (.int p3), .val (.int p4), .val (.int p5), .val (.int r), .val (.int p_), .val (.int e_), .val (.int t_), .val (.int f4), .unset, .unset, .unset, .unset] [])) _
    refine XS.iloadN X0.here hx rfl (hb hby at_105) rfl ?_
    show Steps p.tables e below (s₁.setTop (mkF m 106 #[.val (.int p0), .val (.int p1), .val (.int p2), .val (.int p3), .val (.int p4), .val (.int p5), .val (.int r), .val (.int p_), .val (.int e_), .val (.int t_), .val (.int f4), .unset, .unset, .unset, .unset] [(.int p0)])) _
    refine X0.ldcInt hx hown (mvT hZ (hw _ (List.mem_of_getElem? (i := 0) rfl))) (g := (mkF m 106 #[.val (.int p0), .val (.int p1), .val (.int p2), .val (.int p3), .val (.int p4), .val (.int p5), .val (.int r), .val (.int p_), .val (.int e_), .val (.int t_), .val (.int f4), .unset, .unset, .unset, .unset] [(.int p0)])) rfl (hb hby at_106) _ ?_
    show Steps p.tables e below (s₁.setTop (mkF m 108 #[.val (.int p0), .val (.int p1), .val (.int p2), .val (.int p3), .val (.int p4), .val (.int p5), .val (.int r), .val (.int p_), .val (.int e_), .val (.int t_), .val (.int f4), .unset, .unset, .unset, .unset] [(.int (2147483647 : Int32)), (.int p0)])) _
    refine XS.iand X0.here hx rfl (hb hby at_108) rfl ?_
    show Steps p.tables e below (s₁.setTop (mkF m 109 #[.val (.int p0), .val (.int p1), .val (.int p2), .val (.int p3), .val (.int p4), .val (.int p5), .val (.int r), .val (.int p_), .val (.int e_), .val (.int t_), .val (.int f4), .unset, .unset, .unset, .unset] [(.int (p0 &&& (2147483647 : Int32)))])) _
    refine X0.ldcInt hx hown (mvT hZ (hw _ (List.mem_of_getElem? (i := 1) rfl))) (g := (mkF m 109 #[.val (.int p0), .val (.int p1), .val (.int p2), .val (.int p3), .val (.int p4), .val (.int p5), .val (.int r), .val (.int p_), .val (.int e_), .val (.int t_), .val (.int f4), .unset, .unset, .unset, .unset] [(.int (p0 &&& (2147483647 : Int32)))])) rfl (hb hby at_109) _ ?_
    show Steps p.tables e below (s₁.setTop (mkF m 111 #[.val (.int p0), .val (.int p1), .val (.int p2), .val (.int p3), .val (.int p4), .val (.int p5), .val (.int r), .val (.int p_), .val (.int e_), .val (.int t_), .val (.int f4), .unset, .unset, .unset, .unset] [(.int (4194299 : Int32)), (.int (p0 &&& (2147483647 : Int32)))])) _
    refine iremM X0 hx rfl (hb hby at_111) rfl (by decide) ?_
    show Steps p.tables e below (s₁.setTop (mkF m 112 #[.val (.int p0), .val (.int p1), .val (.int p2), .val (.int p3), .val (.int p4), .val (.int p5), .val (.int r), .val (.int p_), .val (.int e_), .val (.int t_), .val (.int f4), .unset, .unset, .unset, .unset] [(.int ((p0 &&& (2147483647 : Int32)) % (4194299 : Int32)))])) _
    refine XS.istore X0.here hx rfl (hb hby at_112) rfl (l' := #[.val (.int p0), .val (.int p1), .val (.int p2), .val (.int p3), .val (.int p4), .val (.int p5), .val (.int r), .val (.int p_), .val (.int e_), .val (.int t_), .val (.int f4), .val (.int ((p0 &&& (2147483647 : Int32)) % (4194299 : Int32))), .unset, .unset, .unset]) rfl ?_
    show Steps p.tables e below (s₁.setTop (mkF m 114 #[.val (.int p0), .val (.int p1), .val (.int p2), .val (.int p3), .val (.int p4), .val (.int p5), .val (.int r), .val (.int p_), .val (.int e_), .val (.int t_), .val (.int f4), .val (.int ((p0 &&& (2147483647 : Int32)) % (4194299 : Int32))), .unset, .unset, .unset] [])) _
    refine XS.bipush X0.here hx rfl (hb hby at_114) ?_
    show Steps p.tables e below (s₁.setTop (mkF m 116 #[.val (.int p0), .val (.int p1), .val (.int p2), .val (.int p3), .val (.int p4), .val (.int p5), .val (.int r), .val (.int p_), .val (.int e_), .val (.int t_), .val (.int f4), .val (.int ((p0 &&& (2147483647 : Int32)) % (4194299 : Int32))), .unset, .unset, .unset] [(.int (20 : Int32))])) _
    refine XS.iconst X0.here hx rfl (hb hby at_116) ?_
    show Steps p.tables e below (s₁.setTop (mkF m 117 #[.val (.int p0), .val (.int p1), .val (.int p2), .val (.int p3), .val (.int p4), .val (.int p5), .val (.int r), .val (.int p_), .val (.int e_), .val (.int t_), .val (.int f4), .val (.int ((p0 &&& (2147483647 : Int32)) % (4194299 : Int32))), .unset, .unset, .unset] [(.int (4 : Int32)), (.int (20 : Int32))])) _
    refine XS.iload X0.here hx rfl (hb hby at_117) rfl ?_
    show Steps p.tables e below (s₁.setTop (mkF m 119 #[.val (.int p0), .val (.int p1), .val (.int p2), .val (.int p3), .val (.int p4), .val (.int p5), .val (.int r), .val (.int p_), .val (.int e_), .val (.int t_), .val (.int f4), .val (.int ((p0 &&& (2147483647 : Int32)) % (4194299 : Int32))), .unset, .unset, .unset] [(.int ((p0 &&& (2147483647 : Int32)) % (4194299 : Int32))), (.int (4 : Int32)), (.int (20 : Int32))])) _
    refine XS.imul X0.here hx rfl (hb hby at_119) rfl ?_
    show Steps p.tables e below (s₁.setTop (mkF m 120 #[.val (.int p0), .val (.int p1), .val (.int p2), .val (.int p3), .val (.int p4), .val (.int p5), .val (.int r), .val (.int p_), .val (.int e_), .val (.int t_), .val (.int f4), .val (.int ((p0 &&& (2147483647 : Int32)) % (4194299 : Int32))), .unset, .unset, .unset] [(.int ((4 : Int32) * ((p0 &&& (2147483647 : Int32)) % (4194299 : Int32)))), (.int (20 : Int32))])) _
    refine XS.iadd X0.here hx rfl (hb hby at_120) rfl ?_
    exact k)
  obtain ⟨zl, hzl⟩ : ∃ z : Int32, z = ((20 : Int32) + ((4 : Int32) * ((p0 &&& (2147483647 : Int32)) % (4194299 : Int32)))) := ⟨_, rfl⟩
  rw [← hzl] at go25
  have go26 := go25.step (C := s₁.setTop (mkF m 129 #[.val (.int p0), .val (.int p1), .val (.int p2), .val (.int p3), .val (.int p4), .val (.int p5), .val (.int r), .val (.int p_), .val (.int e_), .val (.int t_), .val (.int f4), .val (.int ((p0 &&& (2147483647 : Int32)) % (4194299 : Int32))), .val (.int zl), .val (.int (p2 &&& (16777215 : Int32))), .unset] [])) (fun t k => by
    show Steps p.tables e below (s₁.setTop (mkF m 121 #[.val (.int p0), .val (.int p1), .val (.int p2), .val (.int p3), .val (.int p4), .val (.int p5), .val (.int r), .val (.int p_), .val (.int e_), .val (.int t_), .val (.int f4), .val (.int ((p0 &&& (2147483647 : Int32)) % (4194299 : Int32))), .unset, .unset, .unset] [(.int zl)])) _
    refine XS.istore X0.here hx rfl (hb hby at_121) rfl (l' := #[.val (.int p0), .val (.int p1), .val (.int p2), .val (.int p3), .val (.int p4), .val (.int p5), .val (.int r), .val (.int p_), .val (.int e_), .val (.int t_), .val (.int f4), .val (.int ((p0 &&& (2147483647 : Int32)) % (4194299 : Int32))), .val (.int zl), .unset, .unset]) rfl ?_
    show Steps p.tables e below (s₁.setTop (mkF m 123 #[.val (.int p0), .val (.int p1), .val (.int p2), .val (.int p3), .val (.int p4), .val (.int p5), .val (.int r), .val (.int p_), .val (.int e_), .val (.int t_), .val (.int f4), .val (.int ((p0 &&& (2147483647 : Int32)) % (4194299 : Int32))), .val (.int zl), .unset, .unset] [])) _
    refine XS.iloadN X0.here hx rfl (hb hby at_123) rfl ?_
    show Steps p.tables e below (s₁.setTop (mkF m 124 #[.val (.int p0), .val (.int p1), .val (.int p2), .val (.int p3), .val (.int p4), .val (.int p5), .val (.int r), .val (.int p_), .val (.int e_), .val (.int t_), .val (.int f4), .val (.int ((p0 &&& (2147483647 : Int32)) % (4194299 : Int32))), .val (.int zl), .unset, .unset] [(.int p2)])) _
    refine X0.ldcInt hx hown (mvT hZ (hw _ (List.mem_of_getElem? (i := 2) rfl))) (g := (mkF m 124 #[.val (.int p0), .val (.int p1), .val (.int p2), .val (.int p3), .val (.int p4), .val (.int p5), .val (.int r), .val (.int p_), .val (.int e_), .val (.int t_), .val (.int f4), .val (.int ((p0 &&& (2147483647 : Int32)) % (4194299 : Int32))), .val (.int zl), .unset, .unset] [(.int p2)])) rfl (hb hby at_124) _ ?_
    show Steps p.tables e below (s₁.setTop (mkF m 126 #[.val (.int p0), .val (.int p1), .val (.int p2), .val (.int p3), .val (.int p4), .val (.int p5), .val (.int r), .val (.int p_), .val (.int e_), .val (.int t_), .val (.int f4), .val (.int ((p0 &&& (2147483647 : Int32)) % (4194299 : Int32))), .val (.int zl), .unset, .unset] [(.int (16777215 : Int32)), (.int p2)])) _
    refine XS.iand X0.here hx rfl (hb hby at_126) rfl ?_
    show Steps p.tables e below (s₁.setTop (mkF m 127 #[.val (.int p0), .val (.int p1), .val (.int p2), .val (.int p3), .val (.int p4), .val (.int p5), .val (.int r), .val (.int p_), .val (.int e_), .val (.int t_), .val (.int f4), .val (.int ((p0 &&& (2147483647 : Int32)) % (4194299 : Int32))), .val (.int zl), .unset, .unset] [(.int (p2 &&& (16777215 : Int32)))])) _
    refine XS.istore X0.here hx rfl (hb hby at_127) rfl (l' := #[.val (.int p0), .val (.int p1), .val (.int p2), .val (.int p3), .val (.int p4), .val (.int p5), .val (.int r), .val (.int p_), .val (.int e_), .val (.int t_), .val (.int f4), .val (.int ((p0 &&& (2147483647 : Int32)) % (4194299 : Int32))), .val (.int zl), .val (.int (p2 &&& (16777215 : Int32))), .unset]) rfl ?_
    exact k)
  obtain ⟨T27, h27, X27, e27, E27, A27, D27, -, st27⟩ := newO X0 hx hZ hown (hw _ (List.mem_of_getElem? (i := 3) rfl)) (hw _ (List.mem_of_getElem? (i := 4) rfl)) (hw _ (List.mem_of_getElem? (i := 5) rfl)) e0 (g := (mkF m 129 #[.val (.int p0), .val (.int p1), .val (.int p2), .val (.int p3), .val (.int p4), .val (.int p5), .val (.int r), .val (.int p_), .val (.int e_), .val (.int t_), .val (.int f4), .val (.int ((p0 &&& (2147483647 : Int32)) % (4194299 : Int32))), .val (.int zl), .val (.int (p2 &&& (16777215 : Int32))), .unset] [])) rfl (hb hby at_129) (by decide) (by decide)
  obtain ⟨b27, g27⟩ : ∃ z, z = h0.size := ⟨_, rfl⟩
  rw [← g27] at A27 D27 st27
  have g_b27 : n0 ≤ b27 := Nat.le_trans Z0 (Nat.le_of_eq g27.symm)
  have sz_b27 : h0.size ≤ b27 := Nat.le_trans K0.1 (Nat.le_of_eq g27.symm)
  have F27_messageLength : Fld Z h27 b27 "com/example/gatewarden/gatewarden/diameter/MessageHeader" "messageLength" "I" (.int (0 : Int32)) := D27 (Or.inr (hw _ (List.mem_of_getElem? (i := 14) rfl))) (ty := .int) (by decide)
  have F27_flags : Fld Z h27 b27 "com/example/gatewarden/gatewarden/diameter/MessageHeader" "flags" "I" (.int (0 : Int32)) := D27 (Or.inr (hw _ (List.mem_of_getElem? (i := 16) rfl))) (ty := .int) (by decide)
  have F27_commandCode : Fld Z h27 b27 "com/example/gatewarden/gatewarden/diameter/MessageHeader" "commandCode" "I" (.int (0 : Int32)) := D27 (Or.inr (hw _ (List.mem_of_getElem? (i := 18) rfl))) (ty := .int) (by decide)
  have F27_applicationId : Fld Z h27 b27 "com/example/gatewarden/gatewarden/diameter/MessageHeader" "applicationId" "I" (.int (0 : Int32)) := D27 (Or.inr (hw _ (List.mem_of_getElem? (i := 20) rfl))) (ty := .int) (by decide)
  have F27_hopByHopId : Fld Z h27 b27 "com/example/gatewarden/gatewarden/diameter/MessageHeader" "hopByHopId" "I" (.int (0 : Int32)) := D27 (Or.inr (hw _ (List.mem_of_getElem? (i := 22) rfl))) (ty := .int) (by decide)
  have F27_endToEndId : Fld Z h27 b27 "com/example/gatewarden/gatewarden/diameter/MessageHeader" "endToEndId" "I" (.int (0 : Int32)) := D27 (Or.inr (hw _ (List.mem_of_getElem? (i := 24) rfl))) (ty := .int) (by decide)
  have Z27 : n0 ≤ h27.size := Nat.le_trans Z0 E27.1
  have K27 := K0.ext E27
  have go27 := go26.step (C := T27.setTop (mkF m 132 #[.val (.int p0), .val (.int p1), .val (.int p2), .val (.int p3), .val (.int p4), .val (.int p5), .val (.int r), .val (.int p_), .val (.int e_), .val (.int t_), .val (.int f4), .val (.int ((p0 &&& (2147483647 : Int32)) % (4194299 : Int32))), .val (.int zl), .val (.int (p2 &&& (16777215 : Int32))), .unset] [(.ref b27)])) (fun t k => st27 t k)
  have go28 := go27.step (C := T27.setTop (mkF m 144 #[.val (.int p0), .val (.int p1), .val (.int p2), .val (.int p3), .val (.int p4), .val (.int p5), .val (.int r), .val (.int p_), .val (.int e_), .val (.int t_), .val (.int f4), .val (.int ((p0 &&& (2147483647 : Int32)) % (4194299 : Int32))), .val (.int zl), .val (.int (p2 &&& (16777215 : Int32))), .unset] [(.int p5), (.int p4), (.int p3), (.int (p2 &&& (16777215 : Int32))), (.int f4), (.int zl), (.ref b27), (.ref b27)])) (fun t k => by
    show Steps p.tables e below (T27.setTop (mkF m 132 #[.val (.int p0), .val (.int p1), .val (.int p2), .val (.int p3), .val (.int p4), .val (.int p5), .val (.int r), .val (.int p_), .val (.int e_), .val (.int t_), .val (.int f4), .val (.int ((p0 &&& (2147483647 : Int32)) % (4194299 : Int32))), .val (.int zl), .val (.int (p2 &&& (16777215 : Int32))), .unset] [(.ref b27)])) _
    refine XS.dup X27.here hx rfl (hb hby at_132) rfl rfl ?_
    show Steps p.tables e below (T27.setTop (mkF m 133 #[.val (.int p0), .val (.int p1), .val (.int p2), .val (.int p3), .val (.int p4), .val (.int p5), .val (.int r), .val (.int p_), .val (.int e_), .val (.int t_), .val (.int f4), .val (.int ((p0 &&& (2147483647 : Int32)) % (4194299 : Int32))), .val (.int zl), .val (.int (p2 &&& (16777215 : Int32))), .unset] [(.ref b27), (.ref b27)])) _
    refine XS.iload X27.here hx rfl (hb hby at_133) rfl ?_
    show Steps p.tables e below (T27.setTop (mkF m 135 #[.val (.int p0), .val (.int p1), .val (.int p2), .val (.int p3), .val (.int p4), .val (.int p5), .val (.int r), .val (.int p_), .val (.int e_), .val (.int t_), .val (.int f4), .val (.int ((p0 &&& (2147483647 : Int32)) % (4194299 : Int32))), .val (.int zl), .val (.int (p2 &&& (16777215 : Int32))), .unset] [(.int zl), (.ref b27), (.ref b27)])) _
    refine XS.iload X27.here hx rfl (hb hby at_135) rfl ?_
    show Steps p.tables e below (T27.setTop (mkF m 137 #[.val (.int p0), .val (.int p1), .val (.int p2), .val (.int p3), .val (.int p4), .val (.int p5), .val (.int r), .val (.int p_), .val (.int e_), .val (.int t_), .val (.int f4), .val (.int ((p0 &&& (2147483647 : Int32)) % (4194299 : Int32))), .val (.int zl), .val (.int (p2 &&& (16777215 : Int32))), .unset] [(.int f4), (.int zl), (.ref b27), (.ref b27)])) _
    refine XS.iload X27.here hx rfl (hb hby at_137) rfl ?_
    show Steps p.tables e below (T27.setTop (mkF m 139 #[.val (.int p0), .val (.int p1), .val (.int p2), .val (.int p3), .val (.int p4), .val (.int p5), .val (.int r), .val (.int p_), .val (.int e_), .val (.int t_), .val (.int f4), .val (.int ((p0 &&& (2147483647 : Int32)) % (4194299 : Int32))), .val (.int zl), .val (.int (p2 &&& (16777215 : Int32))), .unset] [(.int (p2 &&& (16777215 : Int32))), (.int f4), (.int zl), (.ref b27), (.ref b27)])) _
    refine XS.iloadN X27.here hx rfl (hb hby at_139) rfl ?_
    show Steps p.tables e below (T27.setTop (mkF m 140 #[.val (.int p0), .val (.int p1), .val (.int p2), .val (.int p3), .val (.int p4), .val (.int p5), .val (.int r), .val (.int p_), .val (.int e_), .val (.int t_), .val (.int f4), .val (.int ((p0 &&& (2147483647 : Int32)) % (4194299 : Int32))), .val (.int zl), .val (.int (p2 &&& (16777215 : Int32))), .unset] [(.int p3), (.int (p2 &&& (16777215 : Int32))), (.int f4), (.int zl), (.ref b27), (.ref b27)])) _
    refine XS.iload X27.here hx rfl (hb hby at_140) rfl ?_
    show Steps p.tables e below (T27.setTop (mkF m 142 #[.val (.int p0), .val (.int p1), .val (.int p2), .val (.int p3), .val (.int p4), .val (.int p5), .val (.int r), .val (.int p_), .val (.int e_), .val (.int t_), .val (.int f4), .val (.int ((p0 &&& (2147483647 : Int32)) % (4194299 : Int32))), .val (.int zl), .val (.int (p2 &&& (16777215 : Int32))), .unset] [(.int p4), (.int p3), (.int (p2 &&& (16777215 : Int32))), (.int f4), (.int zl), (.ref b27), (.ref b27)])) _
    refine XS.iload X27.here hx rfl (hb hby at_142) rfl ?_
    exact k)
  obtain ⟨_, _, ⟨T29, L29, k29, n29⟩, -, X29, ⟨Lc29, hQ29, l29, y29, z29⟩, st29⟩ := X27.specialBack hx (y := (⟨"com/example/gatewarden/gatewarden/diameter/MessageHeader", "<init>", "(IIIIII)V"⟩ : MethodName)) rfl hown (mvT hZ (hw _ (List.mem_of_getElem? (i := 6) rfl))) (mvT hZ (hw _ (List.mem_of_getElem? (i := 7) rfl))) (mvT hZ (hw _ (List.mem_of_getElem? (i := 8) rfl))) (by decide) (backOf (W := 1) (rm1 l Z a0 hw [] b27 zl f4 (p2 &&& (16777215 : Int32)) p3 p4 p5 h27 n0 Z27 A27 g_b27 F27_messageLength F27_flags F27_commandCode F27_applicationId F27_hopByHopId F27_endToEndId (own_len hzl).1 (own_len hzl).2.1 (own_len hzl).2.2 (own_fl (own_b hr) (own_b hp_) (own_b he_) (own_b ht_) hf1 hf2 hf3 hf4).1 (own_cmd _).1 (own_cmd _).2) hZ (hw _ (List.mem_of_getElem? (i := 8) rfl)) (hw _ (List.mem_of_getElem? (i := 5) rfl)) (by decide) (by decide)) (g := (mkF m 144 #[.val (.int p0), .val (.int p1), .val (.int p2), .val (.int p3), .val (.int p4), .val (.int p5), .val (.int r), .val (.int p_), .val (.int e_), .val (.int t_), .val (.int f4), .val (.int ((p0 &&& (2147483647 : Int32)) % (4194299 : Int32))), .val (.int zl), .val (.int (p2 &&& (16777215 : Int32))), .unset] [(.int p5), (.int p4), (.int p3), (.int (p2 &&& (16777215 : Int32))), (.int f4), (.int zl), (.ref b27), (.ref b27)])) rfl (by rw [hml]; rfl) (Steps.refl _) (a := b27) (argsL := [(.int zl), (.int f4), (.int (p2 &&& (16777215 : Int32))), (.int p3), (.int p4), (.int p5)]) (rest := [(.ref b27)]) (lenOf pd0_0 rfl) rfl (by show 2 * 0 + _ ≤ _; exact Nat.le_of_eq rfl) (hb hby at_144) (fun _ _ => ⟨rfl, e27, (by decide : 1 + 0 ≤ _), (by decide : 6 + 0 ≤ _)⟩)
  dsimp only [Pt.U, Pt.locs, Pt.cells, Pt.slots] at X29 l29 y29 z29 st29 hQ29
  subst l29 y29 z29
  obtain ⟨rfl, N29q, K29, qp29_0, qp29_1, qp29_2, qp29_3, qp29_4, qp29_5, qp29_6⟩ := hQ29
  have N29 := Fr.app N0 N29q
  have f30 := A27.keep K29
  have Z29 : n0 ≤ T29.heap.size := Nat.le_trans Z27 K29.1
  have KK29 := K27.trans K29 (allS (Or.inr sz_b27) all0)
  have go29 := go28.tr (C := T29.setTop (mkF m 147 #[.val (.int p0), .val (.int p1), .val (.int p2), .val (.int p3), .val (.int p4), .val (.int p5), .val (.int r), .val (.int p_), .val (.int e_), .val (.int t_), .val (.int f4), .val (.int ((p0 &&& (2147483647 : Int32)) % (4194299 : Int32))), .val (.int zl), .val (.int (p2 &&& (16777215 : Int32))), .unset] [(.ref b27)])) st29
  have go37 := go29.step (C := T29.setTop (mkF m 151 #[.val (.int p0), .val (.int p1), .val (.int p2), .val (.int p3), .val (.int p4), .val (.int p5), .val (.int r), .val (.int p_), .val (.int e_), .val (.int t_), .val (.int f4), .val (.int ((p0 &&& (2147483647 : Int32)) % (4194299 : Int32))), .val (.int zl), .val (.int (p2 &&& (16777215 : Int32))), .val (.ref b27)] [(.ref b27)])) (fun t k => by
    show Steps p.tables e below (T29.setTop (mkF m 147 #[.val (.int p0), .val (.int p1), .val (.int p2), .val (.int p3), .val (.int p4), .val (.int p5), .val (.int r), .val (.int p_), .val (.int e_), .val (.int t_), .val (.int f4), .val (.int ((p0 &&& (2147483647 : Int32)) % (4194299 : Int32))), .val (.int zl), .val (.int (p2 &&& (16777215 : Int32))), .unset] [(.ref b27)])) _
    refine XS.astore X29.here hx rfl (hb hby at_147) rfl rfl (l' := #[.val (.int p0), .val (.int p1), .val (.int p2), .val (.int p3), .val (.int p4), .val (.int p5), .val (.int r), .val (.int p_), .val (.int e_), .val (.int t_), .val (.int f4), .val (.int ((p0 &&& (2147483647 : Int32)) % (4194299 : Int32))), .val (.int zl), .val (.int (p2 &&& (16777215 : Int32))), .val (.ref b27)]) rfl ?_
    show Steps p.tables e below (T29.setTop (mkF m 149 #[.val (.int p0), .val (.int p1), .val (.int p2), .val (.int p3), .val (.int p4), .val (.int p5), .val (.int r), .val (.int p_), .val (.int e_), .val (.int t_), .val (.int f4), .val (.int ((p0 &&& (2147483647 : Int32)) % (4194299 : Int32))), .val (.int zl), .val (.int (p2 &&& (16777215 : Int32))), .val (.ref b27)] [])) _
    refine XS.aload X29.here hx rfl (hb hby at_149) rfl rfl ?_
    exact k)
  obtain ⟨cq38, kq38, q38a, q38b, q38c⟩ := isOf hZ rfl qp29_0
  obtain ⟨_, _, ⟨T38, L38, k38, n38⟩, -, X38, ⟨Lc38, hQ38, l38, y38, z38⟩, st38⟩ := X29.virtualBack hx (y := (⟨"com/example/gatewarden/gatewarden/diameter/MessageHeader", "isRequest", "()Z"⟩ : MethodName)) (z := (⟨"com/example/gatewarden/gatewarden/diameter/MessageHeader", "isRequest", "()Z"⟩ : MethodName)) hown (mvT hZ (hw _ (List.mem_of_getElem? (i := 25) rfl))) (mvT hZ (hw _ (List.mem_of_getElem? (i := 26) rfl))) (notFace_of_selects (args := #[]) (mvT hZ (hw _ (List.mem_of_getElem? (i := 28) rfl)))) (mvT hZ (hw _ (List.mem_of_getElem? (i := 28) rfl))) (mvT hZ (hw _ (List.mem_of_getElem? (i := 27) rfl))) (by decide) (backOf (W := 0) (rm3 l Z a0 hw [] b27 f4 T29.heap n0 Z29 qp29_2) hZ (hw _ (List.mem_of_getElem? (i := 29) rfl)) (hw _ (List.mem_of_getElem? (i := 5) rfl)) (by decide) (by decide)) q38a q38c (g := (mkF m 151 #[.val (.int p0), .val (.int p1), .val (.int p2), .val (.int p3), .val (.int p4), .val (.int p5), .val (.int r), .val (.int p_), .val (.int e_), .val (.int t_), .val (.int f4), .val (.int ((p0 &&& (2147483647 : Int32)) % (4194299 : Int32))), .val (.int zl), .val (.int (p2 &&& (16777215 : Int32))), .val (.ref b27)] [(.ref b27)])) rfl (by rw [hml]; rfl) (Steps.refl _) (argsL := []) (rest := []) (lenOf pd0_1 rfl) rfl (by show 2 * 0 + _ ≤ _; exact Nat.le_of_eq rfl) (hb hby at_151) (fun _ _ => ⟨rfl, rfl, (by decide : 1 + 0 ≤ _), (by decide : 6 + 0 ≤ _)⟩)
  dsimp only [Pt.U, Pt.locs, Pt.cells, Pt.slots] at X38 l38 y38 z38 st38 hQ38
  subst l38 y38 z38
  obtain ⟨rfl, N38q, e38⟩ := hQ38
  have N38 := Fr.app N29 N38q
  have go38 := go37.tr (C := T38.setTop (mkF m 154 #[.val (.int p0), .val (.int p1), .val (.int p2), .val (.int p3), .val (.int p4), .val (.int p5), .val (.int r), .val (.int p_), .val (.int e_), .val (.int t_), .val (.int f4), .val (.int ((p0 &&& (2147483647 : Int32)) % (4194299 : Int32))), .val (.int zl), .val (.int (p2 &&& (16777215 : Int32))), .val (.ref b27)] [(.int (if (f4 &&& (128 : Int32)) = (0 : Int32) then (0 : Int32) else (1 : Int32)))])) st38
  have go40 := go38.step (C := T38.setTop (mkF m 164 #[.val (.int p0), .val (.int p1), .val (.int p2), .val (.int p3), .val (.int p4), .val (.int p5), .val (.int r), .val (.int p_), .val (.int e_), .val (.int t_), .val (.int f4), .val (.int ((p0 &&& (2147483647 : Int32)) % (4194299 : Int32))), .val (.int zl), .val (.int (p2 &&& (16777215 : Int32))), .val (.ref b27)] [(.int (1 : Int32))])) (fun t k => by
    show Steps p.tables e below (T38.setTop (mkF m 154 #[.val (.int p0), .val (.int p1), .val (.int p2), .val (.int p3), .val (.int p4), .val (.int p5), .val (.int r), .val (.int p_), .val (.int e_), .val (.int t_), .val (.int f4), .val (.int ((p0 &&& (2147483647 : Int32)) % (4194299 : Int32))), .val (.int zl), .val (.int (p2 &&& (16777215 : Int32))), .val (.ref b27)] [(.int (if (f4 &&& (128 : Int32)) = (0 : Int32) then (0 : Int32) else (1 : Int32)))])) _
    refine XS.iload X38.here hx rfl (hb hby at_154) rfl ?_
    show Steps p.tables e below (T38.setTop (mkF m 156 #[.val (.int p0), .val (.int p1), .val (.int p2), .val (.int p3), .val (.int p4), .val (.int p5), .val (.int r), .val (.int p_), .val (.int e_), .val (.int t_), .val (.int f4), .val (.int ((p0 &&& (2147483647 : Int32)) % (4194299 : Int32))), .val (.int zl), .val (.int (p2 &&& (16777215 : Int32))), .val (.ref b27)] [(.int r), (.int (if (f4 &&& (128 : Int32)) = (0 : Int32) then (0 : Int32) else (1 : Int32)))])) _
    refine XS.icmpNo X38.here hx rfl (hb hby at_156) rfl (teq ((own_fl (own_b hr) (own_b hp_) (own_b he_) (own_b ht_) hf1 hf2 hf3 hf4).2 : (if (f4 &&& (128 : Int32)) = (0 : Int32) then (0 : Int32) else (1 : Int32)) = r)).2 ?_
    show Steps p.tables e below (T38.setTop (mkF m 159 #[.val (.int p0), .val (.int p1), .val (.int p2), .val (.int p3), .val (.int p4), .val (.int p5), .val (.int r), .val (.int p_), .val (.int e_), .val (.int t_), .val (.int f4), .val (.int ((p0 &&& (2147483647 : Int32)) % (4194299 : Int32))), .val (.int zl), .val (.int (p2 &&& (16777215 : Int32))), .val (.ref b27)] [])) _
    refine XS.iconst X38.here hx rfl (hb hby at_159) ?_
    show Steps p.tables e below (T38.setTop (mkF m 160 #[.val (.int p0), .val (.int p1), .val (.int p2), .val (.int p3), .val (.int p4), .val (.int p5), .val (.int r), .val (.int p_), .val (.int e_), .val (.int t_), .val (.int f4), .val (.int ((p0 &&& (2147483647 : Int32)) % (4194299 : Int32))), .val (.int zl), .val (.int (p2 &&& (16777215 : Int32))), .val (.ref b27)] [(.int (1 : Int32))])) _
    refine XS.goto X38.here hx rfl (pc0 := 160) (pc' := 164) rfl (hb hby at_160) (by decide) (by decide) ?_
    exact k)
  obtain ⟨fs, hr, hrun, hended, hW, hsame⟩ := X38.leave (v := some (.int (1 : Int32))) (fun h => by rw [Bd.returns] at h; cases h)
  refine ⟨_, _, go40 _ ?_, hrun, hended, _, _, rfl, ?_, ⟨_, rfl⟩, hW, hsame.mono (by decide) (by decide)⟩
  · exact retN X38 hx (t := .boolean) Bd.returns (by simp) (hb hby at_164) hr
  · show Q_rm0 Z p0 p1 p2 p3 p4 p5 h0 n0 _ T38.heap _
    rw [e38]
    exact ⟨rfl, N38⟩
set_option maxRecDepth 65536 in
set_option maxHeartbeats 40000000 in
theorem comes_1 {Post : Tables → Env → Array Value → State → Outcome → State → Prop} (hpost : ∀ tb e args s v u, (limb_1_1.after args s (.returned v) u = true ∧ limb_1_2.after args s (.returned v) u = true ∧ True) → FrameEnd s (.returned v) u (Jvm.fieldLocs frame_1_writes args s ++ Jvm.arrayLocs frame_1_arrays args s ++ Jvm.staticLocs frame_1_statics s) 16 128 → Post tb e args s (.returned v) u) :
    ArmFor flags0 classFile x code maxLocals ret World_1 tables_1 room_1 Calls_1 rest_1 Pre_1 Post := by
  intro l hfl _ _ p e ha hc hk s m args below hf hA hF happ hP
  obtain ⟨hcalls, hrest, hpre⟩ := hP
  obtain ⟨-, -, -, hnamed, -, -, -, hat⟩ := (Spec.applies_iff hf).mp happ
  obtain ⟨hg, hn⟩ := and_e (Cond.before_iff.mp (show (Jvm.Cond.and given_1 narrow_1).before args s = true from hpre))
  obtain ⟨gg0, gr0⟩ := and_e hg
  obtain ⟨gg1, gr1⟩ := and_e gr0
  obtain ⟨gg2, gr2⟩ := and_e gr1
  obtain ⟨gg3, gr3⟩ := and_e gr2
  obtain ⟨gg4, gr4⟩ := and_e gr3
  obtain ⟨gg5, gr5⟩ := and_e gr4
  obtain ⟨w0, w1, w2, w3, w4, w5, rfl⟩ : ∃ w0 w1 w2 w3 w4 w5 : Value, args = #[w0, w1, w2, w3, w4, w5] := by
    have hs : args.size = 6 := by simpa [Cond.value, given_1] using gg0
    obtain ⟨L⟩ := args
    match L, hs with
    | [w0, w1, w2, w3, w4, w5], _ => exact ⟨w0, w1, w2, w3, w4, w5, rfl⟩
  have hw := fun d (hd : d ∈ tables_1) => atoms_spec (ws := Jvm.Cond.code x code maxLocals ret :: tables_1) hat d (List.mem_cons_of_mem _ hd)
  have hfit : Fit s := fun {y c} hc i hi => by
    obtain ⟨ha, rfl⟩ := Array.getElem?_eq_some_iff.mp hc
    have q := List.all_eq_true.mp ((Array.all_eq_true_iff_forall_mem.mp hF) _ (Array.getElem_mem ha)) i (List.mem_range.mpr hi)
    simpa [Array.getElem?_eq_getElem hi] using q
  obtain ⟨i0, ei0⟩ := is_v gg1
  obtain rfl : w0 = (.int i0) := Option.some.inj ei0
  obtain ⟨i1, ei1⟩ := is_v gg2
  obtain rfl : w1 = (.int i1) := Option.some.inj ei1
  obtain ⟨i2, ei2⟩ := is_v gg3
  obtain rfl : w2 = (.int i2) := Option.some.inj ei2
  obtain ⟨i3, ei3⟩ := is_v gg4
  obtain rfl : w3 = (.int i3) := Option.some.inj ei3
  obtain ⟨i4, ei4⟩ := is_v gg5
  obtain rfl : w4 = (.int i4) := Option.some.inj ei4
  obtain ⟨i5, ei5⟩ := is_v gr5
  obtain rfl : w5 = (.int i5) := Option.some.inj ei5
  obtain ⟨n, o, h1, h2, h3, _, L, rfl, ⟨rfl, N⟩, hq⟩ := rm0 l s _ hw tables_1 i0 i1 i2 i3 i4 i5  s.heap s.heap.size (Nat.le_refl _)  p e ha hc hk s m _ below hf ((Spec.applies_iff_loose hf).mp happ).1 ⟨rfl, State.Warmed39.refl s, rfl⟩ trivial
  refine ⟨n, _, h1, h2, h3, hpost _ _ _ _ _ _ ⟨Cond.after_iff.mpr rfl, Cond.after_iff.mpr (eq_i res_at (Term.int_eval (1)) rfl), trivial⟩ ⟨hq.1, hq.2.1, (hq.2.2.sift fun y hy => Or.inr (N y hy)).mono (by decide) (by decide)⟩⟩
theorem main_1_1 : Claimed_1_1 := comes_1 fun _ _ _ _ _ _ h hF => ⟨h.1, hF⟩
theorem main_1_2 : Claimed_1_2 := comes_1 fun _ _ _ _ _ _ h hF => ⟨h.2.1, hF⟩
end Jvm.Pilot.@@N@@
namespace Jvm.Pilot.@@N@@
open Jvm Jvm.ClassFile Sem Op Lib Jvm.Free Jvm.Stand Jvm.Pilot.@@N@@.Jvm.D
/-! MADE BY PROGRAM (witnessworld.py) out of the Statement's table words and the real class files: 7 classes; the members and pool entries that the words name. The judged class is class 1, her method 1. -/
namespace start1
open Jvm.ClassFile
def u (s : String) : CpInfo := .utf8 (stringToUtf16 s)
/-- a pool by its gaps: so many unusable entries, then the entry; so many at the end -/
def gap : Nat → List CpInfo → List CpInfo
  | 0, r => r
  | n + 1, r => .unusable :: gap n r
def poolList (es : List (Nat × CpInfo)) (last : Nat) : List CpInfo := es.foldr (fun e r => gap e.1 (e.2 :: r)) (gap last [])
def pool (es : List (Nat × CpInfo)) (last : Nat) : Array CpInfo := ⟨poolList es last⟩
def fileOf (pool : Array CpInfo) (this : Nat) (attrs : Array Attribute := #[]) (ms : Array MethodInfo := #[]) (fl : Nat := 33) (sup : Nat := 0) (ifs : Array Nat := #[]) (fds : Array FieldInfo := #[]) : ClassFile where
  minorVersion := 0
  majorVersion := 65
  constantPool := pool
  accessFlags := fl
  thisClass := this
  superClass := sup
  interfaces := ifs
  fields := fds
  methods := ms
  attributes := attrs
def plain (name : String) (sup : Option ClassId) : Class where
  name := name
  kind := .ordinary
  loader := none
  accessFlags := 33
  super := sup
  interfaces := #[]
  cf := none
  fields := #[]
  methods := #[]
  instanceTypes := #[]
  staticTypes := #[]
  resolved := #[]
  callSites := []
  init := .initialized
  statics := none
  mirror := none

def pool0 : Array CpInfo := pool [(5, u "<init>"), (0, u "()V"), (1, .class_ 10), (1, u "java/lang/Object")] 113

def k0c0 : Code := { maxStack := 0, maxLocals := 1, code := object_method_1_code, exceptionTable := #[], attributes := #[] }
def k0m0 : Method := { name := "<init>", desc := "()V", sig := { parameters := [], returnType := none }, accessFlags := 1, code := some k0c0 }
/-- java/lang/Object -/
def k0 : Class := { plain "java/lang/Object" none with
  accessFlags := 33
  interfaces := #[]
  cf := some (fileOf pool0 8 #[] #[{ accessFlags := 1, nameIndex := 5, descriptorIndex := 6, attributes := #[] }] 33 0 #[] #[])
  fields := #[]
  methods := #[k0m0]
  instanceTypes := #[]
  staticTypes := #[]
  resolved := Array.replicate 124 none
  statics := none }

def pool1 : Array CpInfo := pool [(2, .class_ 4), (1, u "java/lang/Object"), (0, u "<init>"), (0, u "()V"), (0, .class_ 8), (0, u "com/example/gatewarden/gatewarden/diameter/MessageHeader"), (0, .integer 2147483647), (0, .integer 4194299), (0, .integer 16777215), (0, .methodref 7 13), (0, .nameAndType 5 14), (0, u "(IIIIII)V"), (0, .methodref 7 16), (0, .nameAndType 17 18), (0, u "isRequest"), (0, u "()Z"), (0, .class_ 20), (0, u "com/example/gatewarden/gatewarden/diameter/MessageHeaderIsRequestPinLaw"), (2, u "law"), (0, u "(IIIIII)Z")] 3

def k1m0 : Method := { name := "<init>", desc := "()V", sig := { parameters := [], returnType := none }, accessFlags := 2, code := none }
def k1c1 : Code := { maxStack := 8, maxLocals := 15, code := code, exceptionTable := #[], attributes := #[] }
def k1m1 : Method := { name := "law", desc := "(IIIIII)Z", sig := { parameters := [.int, .int, .int, .int, .int, .int], returnType := some .boolean }, accessFlags := 9, code := some k1c1 }
/-- com/example/gatewarden/gatewarden/diameter/MessageHeaderIsRequestPinLaw -/
def k1 : Class := { plain "com/example/gatewarden/gatewarden/diameter/MessageHeaderIsRequestPinLaw" (some 0) with
  accessFlags := 49
  interfaces := #[]
  cf := some (fileOf pool1 19 #[] #[{ accessFlags := 2, nameIndex := 5, descriptorIndex := 6, attributes := #[] }, { accessFlags := 9, nameIndex := 23, descriptorIndex := 24, attributes := #[] }] 49 2 #[] #[])
  fields := #[]
  methods := #[k1m0, k1m1]
  instanceTypes := #[]
  staticTypes := #[]
  resolved := Array.replicate 28 none
  statics := none }

def pool2 : Array CpInfo := pool [(1, .class_ 2), (0, u "com/example/gatewarden/gatewarden/diameter/MessageHeader"), (0, .methodref 4 5), (0, .class_ 6), (0, .nameAndType 7 8), (0, u "java/lang/Object"), (0, u "<init>"), (0, u "()V"), (0, .integer 16777215), (23, .fieldref 1 34), (0, .nameAndType 35 36), (0, u "messageLength"), (0, u "I"), (0, .fieldref 1 38), (0, .nameAndType 39 36), (0, u "flags"), (0, .fieldref 1 41), (0, .nameAndType 42 36), (0, u "commandCode"), (0, .fieldref 1 44), (0, .nameAndType 45 36), (0, u "applicationId"), (0, .fieldref 1 47), (0, .nameAndType 48 36), (0, u "hopByHopId"), (0, .fieldref 1 50), (0, .nameAndType 51 36), (0, u "endToEndId"), (53, u "(IIIIII)V"), (4, u "LENGTH"), (2, u "VERSION"), (1, u "MAX_MESSAGE_LENGTH"), (0, u "FLAG_REQUEST"), (1, u "FLAG_PROXIABLE"), (1, u "FLAG_ERROR"), (1, u "FLAG_RETRANSMITTED"), (1, u "DEFINED_FLAGS"), (1, u "MAX_COMMAND_CODE"), (10, u "isRequest"), (0, u "()Z")] 11

def k2c0 : Code := { maxStack := 7, maxLocals := 7, code := prog_38_method_1_code, exceptionTable := #[], attributes := #[] }
def k2m0 : Method := { name := "<init>", desc := "(IIIIII)V", sig := { parameters := [.int, .int, .int, .int, .int, .int], returnType := none }, accessFlags := 1, code := some k2c0 }
def k2c1 : Code := { maxStack := 2, maxLocals := 1, code := prog_38_method_6_code, exceptionTable := #[], attributes := #[] }
def k2m1 : Method := { name := "isRequest", desc := "()Z", sig := { parameters := [], returnType := some .boolean }, accessFlags := 1, code := some k2c1 }
/-- com/example/gatewarden/gatewarden/diameter/MessageHeader -/
def k2 : Class := { plain "com/example/gatewarden/gatewarden/diameter/MessageHeader" (some 0) with
  accessFlags := 49
  interfaces := #[]
  cf := some (fileOf pool2 1 #[] #[{ accessFlags := 1, nameIndex := 7, descriptorIndex := 105, attributes := #[] }, { accessFlags := 1, nameIndex := 137, descriptorIndex := 138, attributes := #[] }] 49 4 #[] #[{ accessFlags := 25, nameIndex := 110, descriptorIndex := 36, attributes := #[] }, { accessFlags := 25, nameIndex := 113, descriptorIndex := 36, attributes := #[] }, { accessFlags := 25, nameIndex := 115, descriptorIndex := 36, attributes := #[] }, { accessFlags := 25, nameIndex := 116, descriptorIndex := 36, attributes := #[] }, { accessFlags := 25, nameIndex := 118, descriptorIndex := 36, attributes := #[] }, { accessFlags := 25, nameIndex := 120, descriptorIndex := 36, attributes := #[] }, { accessFlags := 25, nameIndex := 122, descriptorIndex := 36, attributes := #[] }, { accessFlags := 26, nameIndex := 124, descriptorIndex := 36, attributes := #[] }, { accessFlags := 26, nameIndex := 126, descriptorIndex := 36, attributes := #[] }, { accessFlags := 18, nameIndex := 35, descriptorIndex := 36, attributes := #[] }, { accessFlags := 18, nameIndex := 39, descriptorIndex := 36, attributes := #[] }, { accessFlags := 18, nameIndex := 42, descriptorIndex := 36, attributes := #[] }, { accessFlags := 18, nameIndex := 45, descriptorIndex := 36, attributes := #[] }, { accessFlags := 18, nameIndex := 48, descriptorIndex := 36, attributes := #[] }, { accessFlags := 18, nameIndex := 51, descriptorIndex := 36, attributes := #[] }])
  fields := #[{ name := "LENGTH", type := .int, accessFlags := 25, slot := 0, constantValue := 0 }, { name := "VERSION", type := .int, accessFlags := 25, slot := 1, constantValue := 0 }, { name := "MAX_MESSAGE_LENGTH", type := .int, accessFlags := 25, slot := 2, constantValue := 0 }, { name := "FLAG_REQUEST", type := .int, accessFlags := 25, slot := 3, constantValue := 0 }, { name := "FLAG_PROXIABLE", type := .int, accessFlags := 25, slot := 4, constantValue := 0 }, { name := "FLAG_ERROR", type := .int, accessFlags := 25, slot := 5, constantValue := 0 }, { name := "FLAG_RETRANSMITTED", type := .int, accessFlags := 25, slot := 6, constantValue := 0 }, { name := "DEFINED_FLAGS", type := .int, accessFlags := 26, slot := 7, constantValue := 0 }, { name := "MAX_COMMAND_CODE", type := .int, accessFlags := 26, slot := 8, constantValue := 0 }, { name := "messageLength", type := .int, accessFlags := 18, slot := 0, constantValue := 0 }, { name := "flags", type := .int, accessFlags := 18, slot := 1, constantValue := 0 }, { name := "commandCode", type := .int, accessFlags := 18, slot := 2, constantValue := 0 }, { name := "applicationId", type := .int, accessFlags := 18, slot := 3, constantValue := 0 }, { name := "hopByHopId", type := .int, accessFlags := 18, slot := 4, constantValue := 0 }, { name := "endToEndId", type := .int, accessFlags := 18, slot := 5, constantValue := 0 }]
  methods := #[k2m0, k2m1]
  instanceTypes := #[.int, .int, .int, .int, .int, .int]
  staticTypes := #[.int, .int, .int, .int, .int, .int, .int, .int, .int]
  resolved := Array.replicate 150 none
  statics := none }

def pool3 : Array CpInfo := pool [(1, u "java/lang/Cloneable"), (0, .class_ 1), (0, u "java/lang/Object"), (0, .class_ 3)] 3

/-- java/lang/Cloneable -/
def k3 : Class := { plain "java/lang/Cloneable" (some 0) with
  accessFlags := 1537
  interfaces := #[]
  cf := some (fileOf pool3 2 #[] #[] 1537 4 #[] #[])
  fields := #[]
  methods := #[]
  instanceTypes := #[]
  staticTypes := #[]
  resolved := Array.replicate 8 none
  statics := none }

def pool4 : Array CpInfo := pool [(1, u "java/io/Serializable"), (0, .class_ 1), (0, u "java/lang/Object"), (0, .class_ 3)] 3

/-- java/io/Serializable -/
def k4 : Class := { plain "java/io/Serializable" (some 0) with
  accessFlags := 1537
  interfaces := #[]
  cf := some (fileOf pool4 2 #[] #[] 1537 4 #[] #[])
  fields := #[]
  methods := #[]
  instanceTypes := #[]
  staticTypes := #[]
  resolved := Array.replicate 8 none
  statics := none }

/-- the primitive byte -/
def k5 : Class := { plain "byte" none with kind := .primitive 'B', accessFlags := 0x411 }
/-- [B -/
def k6 : Class := { plain "[B" (some 0) with kind := .array 5 .byte, interfaces := #[3, 4], accessFlags := 1041 }

def heap : Heap := #[]
def classes : Array Class := #[k0, k1, k2, k3, k4, k5, k6]
def interned : List (Array UInt16 × Addr) := []
def slotsUsed : Nat := 0
def theMethod : MethodId := ⟨1, 1⟩
def args0 : Array Value := #[.int 1, .int 2, .int 3, .int 4, .int 5, .int 6]
def aboutOver (below : List Frame) : State where
  vm := { classes := classes, interned := interned.toArray }
  heap := heap
  slotsUsed := slotsUsed
  threads := #[{ frames := .invoking theMethod args0 :: below }]
def below0 : List Frame := [.native { method := ⟨0, 0⟩, args := #[] }]
def about1 : State := aboutOver below0
def p0 : Program := .bare "" "" ""
def e0 : Env := launch0.env 0 0 0
theorem w_frames : about1.frames = Frame.invoking theMethod args0 :: below0 := rfl
set_option maxRecDepth 65536 in
theorem w_args : argsFit about1.vm theMethod args0 = true := by decide +kernel
set_option maxRecDepth 65536 in
theorem w_heap : heapFits about1 = true := by decide +kernel
set_option maxRecDepth 65536 in
theorem w_runnable : about1.curStatus? = some .runnable := by decide +kernel
set_option maxRecDepth 65536 in
theorem w_alone : about1.alone = true := by decide +kernel
set_option maxRecDepth 65536 in
theorem w_named : about1.methodNamed? x = some theMethod := by decide +kernel
set_option maxRecDepth 65536 in
theorem w_hears : about1.hears theMethod below0 = true := by decide +kernel
set_option maxRecDepth 65536 in
theorem w_ripe : about1.ripe theMethod args0 below0 = true := by decide +kernel
theorem w_running : about1.status = .running := rfl
set_option maxRecDepth 65536 in
theorem w_room : about1.hasRoom e0.platform room_1 = true :=
  launch0.hasRoom_least _ room_1 (by decide +kernel) (by decide +kernel) (by decide +kernel) (by decide +kernel) (by decide +kernel) (by decide +kernel)
theorem allAtoms_all (ts : List Jvm.Cond) (a : Array Jvm.Value) (st : Jvm.State) : (allAtoms ts).before a st = ts.all (fun c => c.before a st) := by
  induction ts with
  | nil => rfl
  | cons c t ih =>
    show (Jvm.Cond.and c (allAtoms t)).before a st = _
    rw [Jvm.Cond.before_and, ih, List.all_cons]
def words1 : List Jvm.Cond := Jvm.Cond.code x code maxLocals ret :: tables_1
/-- a 'code' word, met by the world's own term for the bytes: nothing is compared byte by byte -/
theorem code_word {y : MethodName} {bytes : ByteArray} {mx : Nat} {rt : Option FieldType} {a : Array Value} {s : State} {m : MethodId} {meth : Method} {c : Code} (h1 : s.methodNamed? y = some m) (h2 : s.vm.method? m = some meth) (h3 : meth.code = some c) (h4 : c.code = bytes)
    (h5 : (c.maxLocals == mx && c.exceptionTable.isEmpty && decide (c.maxStack ≤ mostOperands) && decide (meth.sig.returnType = rt) && !meth.locks && decide (parseMethodDescriptor y.desc = some meth.sig)) = true) : (Jvm.Cond.code y bytes mx rt).before a s = true := by
  simp only [Bool.and_eq_true, beq_iff_eq, Bool.not_eq_true', decide_eq_true_eq] at h5
  obtain ⟨⟨⟨⟨⟨g1, g2⟩, g3⟩, g4⟩, g5⟩, g6⟩ := h5
  simp [Cond.before, Cond.holds, Cond.value, h1, h2, h3, h4, g1, g2, g3, g4, g5, g6]
def isCode : Jvm.Cond → Bool
  | .code _ _ _ _ => true
  | _ => false
theorem all_split {L : List Jvm.Cond} {P : Jvm.Cond → Bool} (h1 : L.all (fun c => isCode c || P c) = true) (h2 : ∀ c ∈ L.filter isCode, P c = true) : L.all P = true := by
  refine List.all_eq_true.mpr fun c hc => ?_
  have h := List.all_eq_true.mp h1 c hc
  rcases Bool.eq_false_or_eq_true (isCode c) with hi | hi
  · exact h2 c (List.mem_filter.mpr ⟨hc, hi⟩)
  · simpa [hi] using h
set_option maxRecDepth 65536 in
theorem w_c0 : (Jvm.Cond.code x code maxLocals ret).before args0 about1 = true := code_word (m := ⟨1, 1⟩) (meth := k1m1) (c := k1c1) (by decide +kernel) rfl rfl rfl (by decide +kernel)
set_option maxRecDepth 65536 in
theorem w_c1 : (Jvm.Cond.code ({ cls := "com/example/gatewarden/gatewarden/diameter/MessageHeader", name := "<init>", desc := "(IIIIII)V" } : Jvm.MethodName) prog_38_method_1_code (7 : Nat) (Option.none : Option Jvm.ClassFile.FieldType)).before args0 about1 = true := code_word (m := ⟨2, 0⟩) (meth := k2m0) (c := k2c0) (by decide +kernel) rfl rfl rfl (by decide +kernel)
set_option maxRecDepth 65536 in
theorem w_c2 : (Jvm.Cond.code ({ cls := "java/lang/Object", name := "<init>", desc := "()V" } : Jvm.MethodName) object_method_1_code (1 : Nat) (Option.none : Option Jvm.ClassFile.FieldType)).before args0 about1 = true := code_word (m := ⟨0, 0⟩) (meth := k0m0) (c := k0c0) (by decide +kernel) rfl rfl rfl (by decide +kernel)
set_option maxRecDepth 65536 in
theorem w_c3 : (Jvm.Cond.code ({ cls := "com/example/gatewarden/gatewarden/diameter/MessageHeader", name := "isRequest", desc := "()Z" } : Jvm.MethodName) prog_38_method_6_code (1 : Nat) (Option.some Jvm.ClassFile.FieldType.boolean)).before args0 about1 = true := code_word (m := ⟨2, 1⟩) (meth := k2m1) (c := k2c1) (by decide +kernel) rfl rfl rfl (by decide +kernel)
def codes1 : List Jvm.Cond := [Jvm.Cond.code x code maxLocals ret, Jvm.Cond.code ({ cls := "com/example/gatewarden/gatewarden/diameter/MessageHeader", name := "<init>", desc := "(IIIIII)V" } : Jvm.MethodName) prog_38_method_1_code (7 : Nat) (Option.none : Option Jvm.ClassFile.FieldType), Jvm.Cond.code ({ cls := "java/lang/Object", name := "<init>", desc := "()V" } : Jvm.MethodName) object_method_1_code (1 : Nat) (Option.none : Option Jvm.ClassFile.FieldType), Jvm.Cond.code ({ cls := "com/example/gatewarden/gatewarden/diameter/MessageHeader", name := "isRequest", desc := "()Z" } : Jvm.MethodName) prog_38_method_6_code (1 : Nat) (Option.some Jvm.ClassFile.FieldType.boolean)]
set_option maxRecDepth 65536 in
theorem codes_eq : words1.filter isCode = codes1 := rfl
theorem w_codes : ∀ c ∈ words1.filter isCode, c.before args0 about1 = true := by
  rw [codes_eq]
  intro c hc
  simp only [codes1, List.mem_cons, List.not_mem_nil, or_false] at hc
  rcases hc with rfl | rfl | rfl | rfl
  · exact w_c0
  · exact w_c1
  · exact w_c2
  · exact w_c3
set_option maxRecDepth 65536 in
theorem w_t1 : (words1.take 24).all (fun c => isCode c || c.before args0 about1) = true := by decide +kernel
set_option maxRecDepth 65536 in
theorem w_t2 : (words1.drop 24).all (fun c => isCode c || c.before args0 about1) = true := by decide +kernel
theorem w_tables : (allAtoms (Jvm.Cond.code x code maxLocals ret :: tables_1)).before args0 about1 = true := by
  rw [allAtoms_all]
  show words1.all (fun c => c.before args0 about1) = true
  refine all_split ?_ w_codes
  rw [← List.take_append_drop 24 words1, List.all_append, w_t1, w_t2]
  rfl
set_option maxRecDepth 65536 in
theorem w_case : (Jvm.Cond.and given_1 narrow_1).before args0 about1 = true := by decide +kernel
theorem w_applies : (headSpec (Jvm.Cond.code x code maxLocals ret :: tables_1) room_1).applies x e0.platform about1 = true :=
  (Spec.applies_iff w_frames).mpr ⟨w_running, w_runnable, w_alone, w_named, w_hears, w_ripe, w_room, w_tables⟩
theorem atStart : AtStart classFile x code maxLocals ret World_1 tables_1 room_1 Calls_1 rest_1 Pre_1 launch0 p0 e0 about1 theMethod args0 below0 :=
  ⟨lists_1, trivial, launch0.admits_env _ _ _, launch0.least_env, fairChoices_fair.cas, fairChoices_fair.clock, w_frames, w_args, w_heap, w_applies, trivial, trivial, w_case⟩
end start1
theorem witness_1 : WitnessClaimed_1 := ⟨start1.p0, start1.e0, start1.about1, start1.theMethod, start1.args0, start1.below0, start1.atStart⟩
end Jvm.Pilot.@@N@@
