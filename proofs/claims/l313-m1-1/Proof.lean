import JvmDerived
import JvmDerived.Pilot.@@N@@Statement
import JvmDerived.Pilot.@@N@@Code
set_option linter.unusedVariables false
set_option linter.unusedSimpArgs false
namespace Jvm.Pilot.@@N@@
open Jvm Jvm.ClassFile Sem Op Lib Jvm.Free Jvm.Stand Jvm.LawKit Jvm.RoadKit Bundle Jvm.Pilot.@@N@@.Jvm.D
def own_usr (x y : Int32) : Int32 := (x.toUInt32 >>> (y &&& 31).toUInt32).toInt32
def own_usrL (x : Int64) (y : Int32) : Int64 := (x.toUInt64 >>> (y &&& 0x3f).toInt64.toUInt64).toInt64
/-- where the run came from, where it stands -/
def Go (p : Program) (e : Env) (below : List Frame) (A B : State) : Prop := ∀ t, Steps p.tables e below B t → Steps p.tables e below A t
theorem Go.step {p : Program} {e : Env} {below : List Frame} {A B C : State} (g : Go p e below A B) (h : ∀ t, Steps p.tables e below C t → Steps p.tables e below B t) : Go p e below A C := fun t k => g t (h t k)
theorem Go.tr {p : Program} {e : Env} {below : List Frame} {A B C : State} (g : Go p e below A B) (h : Steps p.tables e below B C) : Go p e below A C := fun t k => g t (h.trans k)
section Rets
variable {p : Program} {l : Launch} {e : Env} {R : Room} {s : State} {m : MethodId} {args : Array Value} {below : List Frame} {meth : Method} {c : Code} {T : State} {locs : List Loc} {cells slots : Nat}
theorem own_retI (X : Stand p l e R s m args below meth c T locs cells slots) (hx : p.tables.exec = Jvm.exec) {pc : Nat} {Ls : Array Slot} {z : Int32} {rest : List Value} (hret : meth.sig.returnType = some .int) (hd : decode c.code pc = .ok (.ireturn, 1)) {fs : List Frame}
    (hl : ∀ (f : JFrame) (acts : List Action), f.method = m → f.locked = none → f.entered = [] → (doReturn e (T.setTop f) acts (some (.int z))).1 = T.setFrames fs) : Steps p.tables e below (T.setTop (mkF m pc Ls (.int z :: rest))) (T.setFrames fs) :=
  retOut X hx (t := .int) hret rfl (Or.inl ⟨rfl, Or.inl rfl, z, rfl⟩) hd hl
theorem own_retL (X : Stand p l e R s m args below meth c T locs cells slots) (hx : p.tables.exec = Jvm.exec) {pc : Nat} {Ls : Array Slot} {z : Int64} {rest : List Value} (hret : meth.sig.returnType = some .long) (hd : decode c.code pc = .ok (.lreturn, 1)) {fs : List Frame}
    (hl : ∀ (f : JFrame) (acts : List Action), f.method = m → f.locked = none → f.entered = [] → (doReturn e (T.setTop f) acts (some (.long z))).1 = T.setFrames fs) : Steps p.tables e below (T.setTop (mkF m pc Ls (.long z :: rest))) (T.setFrames fs) :=
  retOut X hx (t := .long) hret rfl (Or.inr (Or.inl ⟨rfl, rfl, z, rfl⟩)) hd hl
theorem own_retA (X : Stand p l e R s m args below meth c T locs cells slots) (hx : p.tables.exec = Jvm.exec) {t : FieldType} {pc : Nat} {Ls : Array Slot} {z : Addr} {rest : List Value} (hret : meth.sig.returnType = some t) (ht : t.isReference = true) (hn : narrow t (.ref z) = .ref z) (hd : decode c.code pc = .ok (.areturn, 1)) {fs : List Frame}
    (hl : ∀ (f : JFrame) (acts : List Action), f.method = m → f.locked = none → f.entered = [] → (doReturn e (T.setTop f) acts (some (.ref z))).1 = T.setFrames fs) : Steps p.tables e below (T.setTop (mkF m pc Ls (.ref z :: rest))) (T.setFrames fs) :=
  retOut X hx hret hn (Or.inr (Or.inr (Or.inr (Or.inr ⟨rfl, ht, rfl⟩)))) hd hl
end Rets
def own_xs (z : Int64) (k : Int32) : Int64 := z ^^^ own_usrL z k
def own_xs2 (z : Int64) (k k2 : Int32) : Int64 := (z ^^^ own_usrL z k) ^^^ own_usrL z k2
theorem own_sh0 {w : Nat} (x : BitVec w) (n : Nat) (h : w ≤ n) : x >>> n = 0#w := by
  apply BitVec.eq_of_toNat_eq
  rw [BitVec.toNat_ushiftRight, BitVec.toNat_zero, Nat.shiftRight_eq_div_pow]
  exact Nat.div_eq_of_lt (Nat.lt_of_lt_of_le x.isLt (Nat.pow_le_pow_right (by decide) h))
theorem own_bv {w : Nat} (x : BitVec w) (s : Nat) (h : w ≤ s + s + s) : ((x ^^^ x >>> s) ^^^ (x ^^^ x >>> s) >>> s) ^^^ (x ^^^ x >>> s) >>> (s + s) = x := by
  rw [BitVec.ushiftRight_xor_distrib, BitVec.ushiftRight_xor_distrib, ← BitVec.shiftRight_add, ← BitVec.shiftRight_add, own_sh0 x (s + (s + s)) (by omega), BitVec.xor_zero]
  generalize x >>> s = a; generalize x >>> (s + s) = b
  rw [BitVec.xor_assoc x a, ← BitVec.xor_assoc a a b, BitVec.xor_self, BitVec.zero_xor, BitVec.xor_assoc x b b, BitVec.xor_self, BitVec.xor_zero]
theorem own_bv' {w : Nat} (x : BitVec w) (s : Nat) (h : w ≤ s + s + s) : ((x ^^^ x >>> s) ^^^ x >>> (s + s)) ^^^ ((x ^^^ x >>> s) ^^^ x >>> (s + s)) >>> s = x := by
  rw [BitVec.ushiftRight_xor_distrib, BitVec.ushiftRight_xor_distrib, ← BitVec.shiftRight_add, ← BitVec.shiftRight_add, own_sh0 x (s + s + s) (by omega), BitVec.xor_zero]
  generalize x >>> s = a; generalize x >>> (s + s) = b
  rw [BitVec.xor_assoc (x ^^^ a) b, ← BitVec.xor_assoc b a b, BitVec.xor_comm b a, BitVec.xor_assoc a b b, BitVec.xor_self, BitVec.xor_zero, BitVec.xor_assoc x a a, BitVec.xor_self, BitVec.xor_zero]
theorem own_bv_eq (z : Int64) (k : Int32) (n : Nat) (hk : ((k &&& 0x3f).toInt64.toUInt64.toBitVec % 64) = BitVec.ofNat 64 n) (hn : n < 64) : (own_usrL z k).toBitVec = z.toBitVec >>> n := by
  show z.toBitVec >>> ((k &&& 0x3f).toInt64.toUInt64.toBitVec % 64) = _
  rw [hk, BitVec.ushiftRight_eq', BitVec.toNat_ofNat, Nat.mod_eq_of_lt (by omega)]
theorem own_xs_xs2 (z : Int64) (k k2 : Int32) (n : Nat) (hk : ((k &&& 0x3f).toInt64.toUInt64.toBitVec % 64) = BitVec.ofNat 64 n) (hk2 : ((k2 &&& 0x3f).toInt64.toUInt64.toBitVec % 64) = BitVec.ofNat 64 (n + n)) (hn : n + n < 64) (h3 : 64 ≤ n + n + n) : own_xs2 (own_xs z k) k k2 = z := by
  apply Int64.toBitVec_inj.mp
  show (own_xs z k).toBitVec ^^^ (own_usrL (own_xs z k) k).toBitVec ^^^ (own_usrL (own_xs z k) k2).toBitVec = _
  rw [own_bv_eq _ k n hk (by omega), own_bv_eq _ k2 (n + n) hk2 hn]
  show (z.toBitVec ^^^ (own_usrL z k).toBitVec) ^^^ (z.toBitVec ^^^ (own_usrL z k).toBitVec) >>> n ^^^ (z.toBitVec ^^^ (own_usrL z k).toBitVec) >>> (n + n) = _
  rw [own_bv_eq _ k n hk (by omega)]
  exact own_bv _ n h3
theorem own_xs2_xs (z : Int64) (k k2 : Int32) (n : Nat) (hk : ((k &&& 0x3f).toInt64.toUInt64.toBitVec % 64) = BitVec.ofNat 64 n) (hk2 : ((k2 &&& 0x3f).toInt64.toUInt64.toBitVec % 64) = BitVec.ofNat 64 (n + n)) (hn : n + n < 64) (h3 : 64 ≤ n + n + n) : own_xs (own_xs2 z k k2) k = z := by
  apply Int64.toBitVec_inj.mp
  show (own_xs2 z k k2).toBitVec ^^^ (own_usrL (own_xs2 z k k2) k).toBitVec = _
  rw [own_bv_eq _ k n hk (by omega)]
  show (z.toBitVec ^^^ (own_usrL z k).toBitVec ^^^ (own_usrL z k2).toBitVec) ^^^ (z.toBitVec ^^^ (own_usrL z k).toBitVec ^^^ (own_usrL z k2).toBitVec) >>> n = _
  rw [own_bv_eq _ k n hk (by omega), own_bv_eq _ k2 (n + n) hk2 hn]
  exact own_bv' _ n h3
theorem own_mul (z a b : Int64) (h : a * b = 1) : z * a * b = z := by rw [Int64.mul_assoc, h, Int64.mul_one]
def own_mix (x : Int64) : Int64 := own_xs (own_xs (own_xs x (30 : Int32) * (-4658895280553007687 : Int64)) (27 : Int32) * (-7723592293110705685 : Int64)) (31 : Int32)
def own_unm (r : Int64) : Int64 := own_xs2 (own_xs2 (own_xs2 r (31 : Int32) (62 : Int32) * (3573116690164977347 : Int64)) (27 : Int32) (54 : Int32) * (-7575587736534282103 : Int64)) (30 : Int32) (60 : Int32)
theorem own_unm_mix (x : Int64) : own_unm (own_mix x) = x := by
  unfold own_unm own_mix
  rw [own_xs_xs2 _ 31 62 31 (by decide +kernel) (by decide +kernel) (by decide) (by decide), own_mul _ _ _ (by decide +kernel),
    own_xs_xs2 _ 27 54 27 (by decide +kernel) (by decide +kernel) (by decide) (by decide), own_mul _ _ _ (by decide +kernel),
    own_xs_xs2 _ 30 60 30 (by decide +kernel) (by decide +kernel) (by decide) (by decide)]
theorem own_mix_unm (x : Int64) : own_mix (own_unm x) = x := by
  unfold own_unm own_mix
  rw [own_xs2_xs _ 30 60 30 (by decide +kernel) (by decide +kernel) (by decide) (by decide), own_mul _ _ _ (by decide +kernel),
    own_xs2_xs _ 27 54 27 (by decide +kernel) (by decide +kernel) (by decide) (by decide), own_mul _ _ _ (by decide +kernel),
    own_xs2_xs _ 31 62 31 (by decide +kernel) (by decide +kernel) (by decide) (by decide)]
def own_nw (c i : Int64) : Int64 := i * ((2 : Int64) - c * i)
def own_inv (c : Int64) : Int64 := own_nw c (own_nw c (own_nw c (own_nw c (own_nw c c))))
theorem own_inv1 : own_inv (-7723592293110705685 : Int64) = (3573116690164977347 : Int64) := by decide +kernel
theorem own_inv2 : own_inv (-4658895280553007687 : Int64) = (-7575587736534282103 : Int64) := by decide +kernel
def own_unsh (y : Int64) (s : Int32) : Int64 := (y ^^^ own_usrL y s) ^^^ own_usrL y ((2 : Int32) * s)
def own_unmix (r : Int64) : Int64 := own_unsh (own_unsh (own_unsh r (31 : Int32) * own_inv (-7723592293110705685 : Int64)) (27 : Int32) * own_inv (-4658895280553007687 : Int64)) (30 : Int32)
theorem own_unmix_eq (r : Int64) : own_unmix r = own_unm r := by
  unfold own_unmix
  rw [own_inv1, own_inv2]
  rfl
theorem own_fw (x : Int64) : own_unmix (own_mix x) = x := by rw [own_unmix_eq, own_unm_mix]
theorem own_bw (x : Int64) : own_mix (own_unmix x) = x := by rw [own_unmix_eq, own_mix_unm]
theorem d4_0 : decode method_2_code 0 = .ok (.lload_n 0, 1) := by decide +kernel
theorem d4_1 : decode method_2_code 1 = .ok (.lstore_n 2, 1) := by decide +kernel
theorem d4_2 : decode method_2_code 2 = .ok (.lload_n 2, 1) := by decide +kernel
theorem d4_3 : decode method_2_code 3 = .ok (.ldc2_w 7, 3) := by decide +kernel
theorem d4_6 : decode method_2_code 6 = .ok (.lload_n 0, 1) := by decide +kernel
theorem d4_7 : decode method_2_code 7 = .ok (.lload_n 2, 1) := by decide +kernel
theorem d4_8 : decode method_2_code 8 = .ok (.lmul, 1) := by decide +kernel
theorem d4_9 : decode method_2_code 9 = .ok (.lsub, 1) := by decide +kernel
theorem d4_10 : decode method_2_code 10 = .ok (.lmul, 1) := by decide +kernel
theorem d4_11 : decode method_2_code 11 = .ok (.lstore_n 2, 1) := by decide +kernel
theorem d4_12 : decode method_2_code 12 = .ok (.lload_n 2, 1) := by decide +kernel
theorem d4_13 : decode method_2_code 13 = .ok (.ldc2_w 7, 3) := by decide +kernel
theorem d4_16 : decode method_2_code 16 = .ok (.lload_n 0, 1) := by decide +kernel
theorem d4_17 : decode method_2_code 17 = .ok (.lload_n 2, 1) := by decide +kernel
theorem d4_18 : decode method_2_code 18 = .ok (.lmul, 1) := by decide +kernel
theorem d4_19 : decode method_2_code 19 = .ok (.lsub, 1) := by decide +kernel
theorem d4_20 : decode method_2_code 20 = .ok (.lmul, 1) := by decide +kernel
theorem d4_21 : decode method_2_code 21 = .ok (.lstore_n 2, 1) := by decide +kernel
theorem d4_22 : decode method_2_code 22 = .ok (.lload_n 2, 1) := by decide +kernel
theorem d4_23 : decode method_2_code 23 = .ok (.ldc2_w 7, 3) := by decide +kernel
theorem d4_26 : decode method_2_code 26 = .ok (.lload_n 0, 1) := by decide +kernel
theorem d4_27 : decode method_2_code 27 = .ok (.lload_n 2, 1) := by decide +kernel
theorem d4_28 : decode method_2_code 28 = .ok (.lmul, 1) := by decide +kernel
theorem d4_29 : decode method_2_code 29 = .ok (.lsub, 1) := by decide +kernel
theorem d4_30 : decode method_2_code 30 = .ok (.lmul, 1) := by decide +kernel
theorem d4_31 : decode method_2_code 31 = .ok (.lstore_n 2, 1) := by decide +kernel
theorem d4_32 : decode method_2_code 32 = .ok (.lload_n 2, 1) := by decide +kernel
theorem d4_33 : decode method_2_code 33 = .ok (.ldc2_w 7, 3) := by decide +kernel
theorem d4_36 : decode method_2_code 36 = .ok (.lload_n 0, 1) := by decide +kernel
theorem d4_37 : decode method_2_code 37 = .ok (.lload_n 2, 1) := by decide +kernel
theorem d4_38 : decode method_2_code 38 = .ok (.lmul, 1) := by decide +kernel
theorem d4_39 : decode method_2_code 39 = .ok (.lsub, 1) := by decide +kernel
theorem d4_40 : decode method_2_code 40 = .ok (.lmul, 1) := by decide +kernel
theorem d4_41 : decode method_2_code 41 = .ok (.lstore_n 2, 1) := by decide +kernel
theorem d4_42 : decode method_2_code 42 = .ok (.lload_n 2, 1) := by decide +kernel
theorem d4_43 : decode method_2_code 43 = .ok (.ldc2_w 7, 3) := by decide +kernel
theorem d4_46 : decode method_2_code 46 = .ok (.lload_n 0, 1) := by decide +kernel
theorem d4_47 : decode method_2_code 47 = .ok (.lload_n 2, 1) := by decide +kernel
theorem d4_48 : decode method_2_code 48 = .ok (.lmul, 1) := by decide +kernel
theorem d4_49 : decode method_2_code 49 = .ok (.lsub, 1) := by decide +kernel
theorem d4_50 : decode method_2_code 50 = .ok (.lmul, 1) := by decide +kernel
theorem d4_51 : decode method_2_code 51 = .ok (.lstore_n 2, 1) := by decide +kernel
theorem d4_52 : decode method_2_code 52 = .ok (.lload_n 2, 1) := by decide +kernel
theorem d4_53 : decode method_2_code 53 = .ok (.lreturn, 1) := by decide +kernel
theorem pn_rm4 : plainName "com/example/equipoise/equipoise/SplitMixMixPinLaw" = true := by first | (simp [plainName, overriddenIn]; done) | decide +kernel
theorem ef_rm4 (m : MethodId) (q0 : Int64) : entryFrame m #[(.long q0)] 4 = mkF m 0 #[.val (.long q0), .second, .unset, .unset] [] := by first | (simp [entryFrame, mkF, argsToLocals, Value.category]; done) | rfl
def Q_rm4 (Z : State) (q0 : Int64) (h0 : Heap) (n0 : Nat) (v : Option Value) (h : Heap) (L : List Loc) : Prop := v = some (.long (own_inv q0)) ∧ Fr n0 L ∧ h = h0
set_option maxRecDepth 65536 in
set_option maxHeartbeats 40000000 in
theorem rm4 (l : Launch) (Z : State) (a0 : Array Value) (hw : ∀ d ∈ tables_1, d.before a0 Z = true) (ws : List Jvm.Cond) (q0 : Int64) (h0 : Heap) (n0 : Nat) (Z0 : n0 ≤ h0.size) :
    MetFree l (⟨"com/example/equipoise/equipoise/SplitMixMixPinLaw", "inverse", "(J)J"⟩ : MethodName) (head1 (Jvm.Cond.code (⟨"com/example/equipoise/equipoise/SplitMixMixPinLaw", "inverse", "(J)J"⟩ : MethodName) method_2_code 4 (some .long) :: ws) ({ frames := 0, cells := 0, slots := 0, locals := 0 } : Room)) (fun a U => a = #[(.long q0)] ∧ Z.Warmed39 U.vm ∧ U.heap = h0) (fun _ _ _ _ _ => True) (fun _ U o U' => ∃ v L, o = .returned v ∧ Q_rm4 Z q0 h0 n0 v U'.heap L ∧ FrameEnd U o U' L ({ frames := 0, cells := 0, slots := 0, locals := 0 } : Room).cells ({ frames := 0, cells := 0, slots := 0, locals := 0 } : Room).slots) := by
  refine MetFree.of_bodySF (plainFor_of_name pn_rm4) hisR ?_
  intro p e s m args below meth c s₁ Bd hml0 hP hK
  obtain ⟨rfl, hZ, hh⟩ := hP
  have hx := Bd.exec
  have hby := Bd.bytes
  have hml : c.maxLocals = 4 := hml0
  have hown : s.vm.findClass "com/example/equipoise/equipoise/SplitMixMixPinLaw" = some m.cls := findClass_of_methodNamed Bd.named
  have hnm := (name_of_methodNamed Bd.named Bd.method).1
  have X0 : Stand p l e ({ frames := 0, cells := 0, slots := 0, locals := 0 } : Room) s m #[(.long q0)] below meth c s₁ [] 0 0 := Stand.of_body Bd
  have e0 : s₁.heap = h0 := by rw [← hh, Bd.state]; rfl
  have N0 := Fr.nil n0
  have K0 := Keep.refl h0 []
  have go0 : Go p e below (s₁.setTop (entryFrame m #[(.long q0)] 4)) (s₁.setTop (mkF m 0 #[.val (.long q0), .second, .unset, .unset] [])) := fun t k => castTop (ef_rm4 m q0) k
  have go1 := go0.step (C := s₁.setTop (mkF m 11 #[.val (.long q0), .second, .val (.long q0), .second] [(.long (q0 * ((2 : Int64) - (q0 * q0))))])) (fun t k => by
    show Steps p.tables e below (s₁.setTop (mkF m 0 #[.val (.long q0), .second, .unset, .unset] [])) _
    refine XS.lloadN X0.here hx rfl (hb hby d4_0) rfl ?_
    show Steps p.tables e below (s₁.setTop (mkF m 1 #[.val (.long q0), .second, .unset, .unset] [(.long q0)])) _
    refine XS.lstoreN X0.here hx rfl (hb hby d4_1) rfl (l' := #[.val (.long q0), .second, .val (.long q0), .second]) rfl ?_
    show Steps p.tables e below (s₁.setTop (mkF m 2 #[.val (.long q0), .second, .val (.long q0), .second] [])) _
    refine XS.lloadN X0.here hx rfl (hb hby d4_2) rfl ?_
    show Steps p.tables e below (s₁.setTop (mkF m 3 #[.val (.long q0), .second, .val (.long q0), .second] [(.long q0)])) _
    refine X0.ldc2Long hx hown (mvT hZ (hw _ (List.mem_of_getElem? (i := 17) rfl))) (g := (mkF m 3 #[.val (.long q0), .second, .val (.long q0), .second] [(.long q0)])) rfl (hb hby d4_3) _ ?_
    show Steps p.tables e below (s₁.setTop (mkF m 6 #[.val (.long q0), .second, .val (.long q0), .second] [(.long (2 : Int64)), (.long q0)])) _
    refine XS.lloadN X0.here hx rfl (hb hby d4_6) rfl ?_
    show Steps p.tables e below (s₁.setTop (mkF m 7 #[.val (.long q0), .second, .val (.long q0), .second] [(.long q0), (.long (2 : Int64)), (.long q0)])) _
    refine XS.lloadN X0.here hx rfl (hb hby d4_7) rfl ?_
    show Steps p.tables e below (s₁.setTop (mkF m 8 #[.val (.long q0), .second, .val (.long q0), .second] [(.long q0), (.long q0), (.long (2 : Int64)), (.long q0)])) _
    refine XS.lmul X0.here hx rfl (hb hby d4_8) rfl ?_
    show Steps p.tables e below (s₁.setTop (mkF m 9 #[.val (.long q0), .second, .val (.long q0), .second] [(.long (q0 * q0)), (.long (2 : Int64)), (.long q0)])) _
    refine XS.lsub X0.here hx rfl (hb hby d4_9) rfl ?_
    show Steps p.tables e below (s₁.setTop (mkF m 10 #[.val (.long q0), .second, .val (.long q0), .second] [(.long ((2 : Int64) - (q0 * q0))), (.long q0)])) _
    refine XS.lmul X0.here hx rfl (hb hby d4_10) rfl ?_
    exact k)
  obtain ⟨z1, hz1⟩ : ∃ z : Int64, z = (q0 * ((2 : Int64) - (q0 * q0))) := ⟨_, rfl⟩
  rw [← hz1] at go1
  have go2 := go1.step (C := s₁.setTop (mkF m 21 #[.val (.long q0), .second, .val (.long z1), .second] [(.long (z1 * ((2 : Int64) - (q0 * z1))))])) (fun t k => by
    show Steps p.tables e below (s₁.setTop (mkF m 11 #[.val (.long q0), .second, .val (.long q0), .second] [(.long z1)])) _
    refine XS.lstoreN X0.here hx rfl (hb hby d4_11) rfl (l' := #[.val (.long q0), .second, .val (.long z1), .second]) rfl ?_
    show Steps p.tables e below (s₁.setTop (mkF m 12 #[.val (.long q0), .second, .val (.long z1), .second] [])) _
    refine XS.lloadN X0.here hx rfl (hb hby d4_12) rfl ?_
    show Steps p.tables e below (s₁.setTop (mkF m 13 #[.val (.long q0), .second, .val (.long z1), .second] [(.long z1)])) _
    refine X0.ldc2Long hx hown (mvT hZ (hw _ (List.mem_of_getElem? (i := 17) rfl))) (g := (mkF m 13 #[.val (.long q0), .second, .val (.long z1), .second] [(.long z1)])) rfl (hb hby d4_13) _ ?_
    show Steps p.tables e below (s₁.setTop (mkF m 16 #[.val (.long q0), .second, .val (.long z1), .second] [(.long (2 : Int64)), (.long z1)])) _
    refine XS.lloadN X0.here hx rfl (hb hby d4_16) rfl ?_
    show Steps p.tables e below (s₁.setTop (mkF m 17 #[.val (.long q0), .second, .val (.long z1), .second] [(.long q0), (.long (2 : Int64)), (.long z1)])) _
    refine XS.lloadN X0.here hx rfl (hb hby d4_17) rfl ?_
    show Steps p.tables e below (s₁.setTop (mkF m 18 #[.val (.long q0), .second, .val (.long z1), .second] [(.long z1), (.long q0), (.long (2 : Int64)), (.long z1)])) _
    refine XS.lmul X0.here hx rfl (hb hby d4_18) rfl ?_
    show Steps p.tables e below (s₁.setTop (mkF m 19 #[.val (.long q0), .second, .val (.long z1), .second] [(.long (q0 * z1)), (.long (2 : Int64)), (.long z1)])) _
    refine XS.lsub X0.here hx rfl (hb hby d4_19) rfl ?_
    show Steps p.tables e below (s₁.setTop (mkF m 20 #[.val (.long q0), .second, .val (.long z1), .second] [(.long ((2 : Int64) - (q0 * z1))), (.long z1)])) _
    refine XS.lmul X0.here hx rfl (hb hby d4_20) rfl ?_
    exact k)
  obtain ⟨z2, hz2⟩ : ∃ z : Int64, z = (z1 * ((2 : Int64) - (q0 * z1))) := ⟨_, rfl⟩
  rw [← hz2] at go2
  have go3 := go2.step (C := s₁.setTop (mkF m 31 #[.val (.long q0), .second, .val (.long z2), .second] [(.long (z2 * ((2 : Int64) - (q0 * z2))))])) (fun t k => by
    show Steps p.tables e below (s₁.setTop (mkF m 21 #[.val (.long q0), .second, .val (.long z1), .second] [(.long z2)])) _
    refine XS.lstoreN X0.here hx rfl (hb hby d4_21) rfl (l' := #[.val (.long q0), .second, .val (.long z2), .second]) rfl ?_
    show Steps p.tables e below (s₁.setTop (mkF m 22 #[.val (.long q0), .second, .val (.long z2), .second] [])) _
    refine XS.lloadN X0.here hx rfl (hb hby d4_22) rfl ?_
    show Steps p.tables e below (s₁.setTop (mkF m 23 #[.val (.long q0), .second, .val (.long z2), .second] [(.long z2)])) _
    refine X0.ldc2Long hx hown (mvT hZ (hw _ (List.mem_of_getElem? (i := 17) rfl))) (g := (mkF m 23 #[.val (.long q0), .second, .val (.long z2), .second] [(.long z2)])) rfl (hb hby d4_23) _ ?_
    show Steps p.tables e below (s₁.setTop (mkF m 26 #[.val (.long q0), .second, .val (.long z2), .second] [(.long (2 : Int64)), (.long z2)])) _
    refine XS.lloadN X0.here hx rfl (hb hby d4_26) rfl ?_
    show Steps p.tables e below (s₁.setTop (mkF m 27 #[.val (.long q0), .second, .val (.long z2), .second] [(.long q0), (.long (2 : Int64)), (.long z2)])) _
    refine XS.lloadN X0.here hx rfl (hb hby d4_27) rfl ?_
    show Steps p.tables e below (s₁.setTop (mkF m 28 #[.val (.long q0), .second, .val (.long z2), .second] [(.long z2), (.long q0), (.long (2 : Int64)), (.long z2)])) _
    refine XS.lmul X0.here hx rfl (hb hby d4_28) rfl ?_
    show Steps p.tables e below (s₁.setTop (mkF m 29 #[.val (.long q0), .second, .val (.long z2), .second] [(.long (q0 * z2)), (.long (2 : Int64)), (.long z2)])) _
    refine XS.lsub X0.here hx rfl (hb hby d4_29) rfl ?_
    show Steps p.tables e below (s₁.setTop (mkF m 30 #[.val (.long q0), .second, .val (.long z2), .second] [(.long ((2 : Int64) - (q0 * z2))), (.long z2)])) _
    refine XS.lmul X0.here hx rfl (hb hby d4_30) rfl ?_
    exact k)
  obtain ⟨z3, hz3⟩ : ∃ z : Int64, z = (z2 * ((2 : Int64) - (q0 * z2))) := ⟨_, rfl⟩
  rw [← hz3] at go3
  have go4 := go3.step (C := s₁.setTop (mkF m 41 #[.val (.long q0), .second, .val (.long z3), .second] [(.long (z3 * ((2 : Int64) - (q0 * z3))))])) (fun t k => by
    show Steps p.tables e below (s₁.setTop (mkF m 31 #[.val (.long q0), .second, .val (.long z2), .second] [(.long z3)])) _
    refine XS.lstoreN X0.here hx rfl (hb hby d4_31) rfl (l' := #[.val (.long q0), .second, .val (.long z3), .second]) rfl ?_
    show Steps p.tables e below (s₁.setTop (mkF m 32 #[.val (.long q0), .second, .val (.long z3), .second] [])) _
    refine XS.lloadN X0.here hx rfl (hb hby d4_32) rfl ?_
    show Steps p.tables e below (s₁.setTop (mkF m 33 #[.val (.long q0), .second, .val (.long z3), .second] [(.long z3)])) _
    refine X0.ldc2Long hx hown (mvT hZ (hw _ (List.mem_of_getElem? (i := 17) rfl))) (g := (mkF m 33 #[.val (.long q0), .second, .val (.long z3), .second] [(.long z3)])) rfl (hb hby d4_33) _ ?_
    show Steps p.tables e below (s₁.setTop (mkF m 36 #[.val (.long q0), .second, .val (.long z3), .second] [(.long (2 : Int64)), (.long z3)])) _
    refine XS.lloadN X0.here hx rfl (hb hby d4_36) rfl ?_
    show Steps p.tables e below (s₁.setTop (mkF m 37 #[.val (.long q0), .second, .val (.long z3), .second] [(.long q0), (.long (2 : Int64)), (.long z3)])) _
    refine XS.lloadN X0.here hx rfl (hb hby d4_37) rfl ?_
    show Steps p.tables e below (s₁.setTop (mkF m 38 #[.val (.long q0), .second, .val (.long z3), .second] [(.long z3), (.long q0), (.long (2 : Int64)), (.long z3)])) _
    refine XS.lmul X0.here hx rfl (hb hby d4_38) rfl ?_
    show Steps p.tables e below (s₁.setTop (mkF m 39 #[.val (.long q0), .second, .val (.long z3), .second] [(.long (q0 * z3)), (.long (2 : Int64)), (.long z3)])) _
    refine XS.lsub X0.here hx rfl (hb hby d4_39) rfl ?_
    show Steps p.tables e below (s₁.setTop (mkF m 40 #[.val (.long q0), .second, .val (.long z3), .second] [(.long ((2 : Int64) - (q0 * z3))), (.long z3)])) _
    refine XS.lmul X0.here hx rfl (hb hby d4_40) rfl ?_
    exact k)
  obtain ⟨z4, hz4⟩ : ∃ z : Int64, z = (z3 * ((2 : Int64) - (q0 * z3))) := ⟨_, rfl⟩
  rw [← hz4] at go4
  have go5 := go4.step (C := s₁.setTop (mkF m 51 #[.val (.long q0), .second, .val (.long z4), .second] [(.long (z4 * ((2 : Int64) - (q0 * z4))))])) (fun t k => by
    show Steps p.tables e below (s₁.setTop (mkF m 41 #[.val (.long q0), .second, .val (.long z3), .second] [(.long z4)])) _
    refine XS.lstoreN X0.here hx rfl (hb hby d4_41) rfl (l' := #[.val (.long q0), .second, .val (.long z4), .second]) rfl ?_
    show Steps p.tables e below (s₁.setTop (mkF m 42 #[.val (.long q0), .second, .val (.long z4), .second] [])) _
    refine XS.lloadN X0.here hx rfl (hb hby d4_42) rfl ?_
    show Steps p.tables e below (s₁.setTop (mkF m 43 #[.val (.long q0), .second, .val (.long z4), .second] [(.long z4)])) _
    refine X0.ldc2Long hx hown (mvT hZ (hw _ (List.mem_of_getElem? (i := 17) rfl))) (g := (mkF m 43 #[.val (.long q0), .second, .val (.long z4), .second] [(.long z4)])) rfl (hb hby d4_43) _ ?_
    show Steps p.tables e below (s₁.setTop (mkF m 46 #[.val (.long q0), .second, .val (.long z4), .second] [(.long (2 : Int64)), (.long z4)])) _
    refine XS.lloadN X0.here hx rfl (hb hby d4_46) rfl ?_
    show Steps p.tables e below (s₁.setTop (mkF m 47 #[.val (.long q0), .second, .val (.long z4), .second] [(.long q0), (.long (2 : Int64)), (.long z4)])) _
    refine XS.lloadN X0.here hx rfl (hb hby d4_47) rfl ?_
    show Steps p.tables e below (s₁.setTop (mkF m 48 #[.val (.long q0), .second, .val (.long z4), .second] [(.long z4), (.long q0), (.long (2 : Int64)), (.long z4)])) _
    refine XS.lmul X0.here hx rfl (hb hby d4_48) rfl ?_
    show Steps p.tables e below (s₁.setTop (mkF m 49 #[.val (.long q0), .second, .val (.long z4), .second] [(.long (q0 * z4)), (.long (2 : Int64)), (.long z4)])) _
    refine XS.lsub X0.here hx rfl (hb hby d4_49) rfl ?_
    show Steps p.tables e below (s₁.setTop (mkF m 50 #[.val (.long q0), .second, .val (.long z4), .second] [(.long ((2 : Int64) - (q0 * z4))), (.long z4)])) _
    refine XS.lmul X0.here hx rfl (hb hby d4_50) rfl ?_
    exact k)
  obtain ⟨z5, hz5⟩ : ∃ z : Int64, z = (z4 * ((2 : Int64) - (q0 * z4))) := ⟨_, rfl⟩
  rw [← hz5] at go5
  have go6 := go5.step (C := s₁.setTop (mkF m 53 #[.val (.long q0), .second, .val (.long z5), .second] [(.long z5)])) (fun t k => by
    show Steps p.tables e below (s₁.setTop (mkF m 51 #[.val (.long q0), .second, .val (.long z4), .second] [(.long z5)])) _
    refine XS.lstoreN X0.here hx rfl (hb hby d4_51) rfl (l' := #[.val (.long q0), .second, .val (.long z5), .second]) rfl ?_
    show Steps p.tables e below (s₁.setTop (mkF m 52 #[.val (.long q0), .second, .val (.long z5), .second] [])) _
    refine XS.lloadN X0.here hx rfl (hb hby d4_52) rfl ?_
    exact k)
  obtain ⟨fs, hr, hrun, hended, hW, hsame⟩ := X0.leave (v := some (.long z5)) (fun h => by rw [Bd.returns] at h; cases h)
  refine ⟨_, _, go6 _ ?_, hrun, hended, _, _, rfl, ?_, ⟨_, rfl⟩, hW, hsame.mono (by decide) (by decide)⟩
  · exact own_retL X0 hx Bd.returns (hb hby d4_53) hr
  · show Q_rm4 Z q0 h0 n0 _ s₁.heap _
    rw [e0]
    exact ⟨by subst hz5 hz4 hz3 hz2 hz1; rfl, N0, rfl⟩
theorem d3_0 : decode method_3_code 0 = .ok (.lload_n 0, 1) := by decide +kernel
theorem d3_1 : decode method_3_code 1 = .ok (.lload_n 0, 1) := by decide +kernel
theorem d3_2 : decode method_3_code 2 = .ok (.iload_n 2, 1) := by decide +kernel
theorem d3_3 : decode method_3_code 3 = .ok (.lushr, 1) := by decide +kernel
theorem d3_4 : decode method_3_code 4 = .ok (.lxor, 1) := by decide +kernel
theorem d3_5 : decode method_3_code 5 = .ok (.lload_n 0, 1) := by decide +kernel
theorem d3_6 : decode method_3_code 6 = .ok (.iconst 2, 1) := by decide +kernel
theorem d3_7 : decode method_3_code 7 = .ok (.iload_n 2, 1) := by decide +kernel
theorem d3_8 : decode method_3_code 8 = .ok (.imul, 1) := by decide +kernel
theorem d3_9 : decode method_3_code 9 = .ok (.lushr, 1) := by decide +kernel
theorem d3_10 : decode method_3_code 10 = .ok (.lxor, 1) := by decide +kernel
theorem d3_11 : decode method_3_code 11 = .ok (.lreturn, 1) := by decide +kernel
theorem pn_rm3 : plainName "com/example/equipoise/equipoise/SplitMixMixPinLaw" = true := by first | (simp [plainName, overriddenIn]; done) | decide +kernel
theorem ef_rm3 (m : MethodId) (q0 : Int64) (p1 : Int32) : entryFrame m #[(.long q0), (.int p1)] 3 = mkF m 0 #[.val (.long q0), .second, .val (.int p1)] [] := by first | (simp [entryFrame, mkF, argsToLocals, Value.category]; done) | rfl
def Q_rm3 (Z : State) (q0 : Int64) (p1 : Int32) (h0 : Heap) (n0 : Nat) (v : Option Value) (h : Heap) (L : List Loc) : Prop := v = some (.long (own_unsh q0 p1)) ∧ Fr n0 L ∧ h = h0
set_option maxRecDepth 65536 in
set_option maxHeartbeats 40000000 in
theorem rm3 (l : Launch) (Z : State) (a0 : Array Value) (hw : ∀ d ∈ tables_1, d.before a0 Z = true) (ws : List Jvm.Cond) (q0 : Int64) (p1 : Int32) (h0 : Heap) (n0 : Nat) (Z0 : n0 ≤ h0.size) :
    MetFree l (⟨"com/example/equipoise/equipoise/SplitMixMixPinLaw", "unshift", "(JI)J"⟩ : MethodName) (head1 (Jvm.Cond.code (⟨"com/example/equipoise/equipoise/SplitMixMixPinLaw", "unshift", "(JI)J"⟩ : MethodName) method_3_code 3 (some .long) :: ws) ({ frames := 0, cells := 0, slots := 0, locals := 0 } : Room)) (fun a U => a = #[(.long q0), (.int p1)] ∧ Z.Warmed39 U.vm ∧ U.heap = h0) (fun _ _ _ _ _ => True) (fun _ U o U' => ∃ v L, o = .returned v ∧ Q_rm3 Z q0 p1 h0 n0 v U'.heap L ∧ FrameEnd U o U' L ({ frames := 0, cells := 0, slots := 0, locals := 0 } : Room).cells ({ frames := 0, cells := 0, slots := 0, locals := 0 } : Room).slots) := by
  refine MetFree.of_bodySF (plainFor_of_name pn_rm3) hisR ?_
  intro p e s m args below meth c s₁ Bd hml0 hP hK
  obtain ⟨rfl, hZ, hh⟩ := hP
  have hx := Bd.exec
  have hby := Bd.bytes
  have hml : c.maxLocals = 3 := hml0
  have hown : s.vm.findClass "com/example/equipoise/equipoise/SplitMixMixPinLaw" = some m.cls := findClass_of_methodNamed Bd.named
  have hnm := (name_of_methodNamed Bd.named Bd.method).1
  have X0 : Stand p l e ({ frames := 0, cells := 0, slots := 0, locals := 0 } : Room) s m #[(.long q0), (.int p1)] below meth c s₁ [] 0 0 := Stand.of_body Bd
  have e0 : s₁.heap = h0 := by rw [← hh, Bd.state]; rfl
  have N0 := Fr.nil n0
  have K0 := Keep.refl h0 []
  have go0 : Go p e below (s₁.setTop (entryFrame m #[(.long q0), (.int p1)] 3)) (s₁.setTop (mkF m 0 #[.val (.long q0), .second, .val (.int p1)] [])) := fun t k => castTop (ef_rm3 m q0 p1) k
  have go1 := go0.step (C := s₁.setTop (mkF m 11 #[.val (.long q0), .second, .val (.int p1)] [(.long ((q0 ^^^ (own_usrL q0 p1)) ^^^ (own_usrL q0 ((2 : Int32) * p1))))])) (fun t k => by
    show Steps p.tables e below (s₁.setTop (mkF m 0 #[.val (.long q0), .second, .val (.int p1)] [])) _
    refine XS.lloadN X0.here hx rfl (hb hby d3_0) rfl ?_
    show Steps p.tables e below (s₁.setTop (mkF m 1 #[.val (.long q0), .second, .val (.int p1)] [(.long q0)])) _
    refine XS.lloadN X0.here hx rfl (hb hby d3_1) rfl ?_
    show Steps p.tables e below (s₁.setTop (mkF m 2 #[.val (.long q0), .second, .val (.int p1)] [(.long q0), (.long q0)])) _
    refine XS.iloadN X0.here hx rfl (hb hby d3_2) rfl ?_
    show Steps p.tables e below (s₁.setTop (mkF m 3 #[.val (.long q0), .second, .val (.int p1)] [(.int p1), (.long q0), (.long q0)])) _
    refine XS.lushr X0.here hx rfl (hb hby d3_3) rfl ?_
    show Steps p.tables e below (s₁.setTop (mkF m 4 #[.val (.long q0), .second, .val (.int p1)] [(.long (own_usrL q0 p1)), (.long q0)])) _
    refine XS.lxor X0.here hx rfl (hb hby d3_4) rfl ?_
    show Steps p.tables e below (s₁.setTop (mkF m 5 #[.val (.long q0), .second, .val (.int p1)] [(.long (q0 ^^^ (own_usrL q0 p1)))])) _
    refine XS.lloadN X0.here hx rfl (hb hby d3_5) rfl ?_
    show Steps p.tables e below (s₁.setTop (mkF m 6 #[.val (.long q0), .second, .val (.int p1)] [(.long q0), (.long (q0 ^^^ (own_usrL q0 p1)))])) _
    refine XS.iconst X0.here hx rfl (hb hby d3_6) ?_
    show Steps p.tables e below (s₁.setTop (mkF m 7 #[.val (.long q0), .second, .val (.int p1)] [(.int (2 : Int32)), (.long q0), (.long (q0 ^^^ (own_usrL q0 p1)))])) _
    refine XS.iloadN X0.here hx rfl (hb hby d3_7) rfl ?_
    show Steps p.tables e below (s₁.setTop (mkF m 8 #[.val (.long q0), .second, .val (.int p1)] [(.int p1), (.int (2 : Int32)), (.long q0), (.long (q0 ^^^ (own_usrL q0 p1)))])) _
    refine XS.imul X0.here hx rfl (hb hby d3_8) rfl ?_
    show Steps p.tables e below (s₁.setTop (mkF m 9 #[.val (.long q0), .second, .val (.int p1)] [(.int ((2 : Int32) * p1)), (.long q0), (.long (q0 ^^^ (own_usrL q0 p1)))])) _
    refine XS.lushr X0.here hx rfl (hb hby d3_9) rfl ?_
    show Steps p.tables e below (s₁.setTop (mkF m 10 #[.val (.long q0), .second, .val (.int p1)] [(.long (own_usrL q0 ((2 : Int32) * p1))), (.long (q0 ^^^ (own_usrL q0 p1)))])) _
    refine XS.lxor X0.here hx rfl (hb hby d3_10) rfl ?_
    exact k)
  obtain ⟨fs, hr, hrun, hended, hW, hsame⟩ := X0.leave (v := some (.long ((q0 ^^^ (own_usrL q0 p1)) ^^^ (own_usrL q0 ((2 : Int32) * p1))))) (fun h => by rw [Bd.returns] at h; cases h)
  refine ⟨_, _, go1 _ ?_, hrun, hended, _, _, rfl, ?_, ⟨_, rfl⟩, hW, hsame.mono (by decide) (by decide)⟩
  · exact own_retL X0 hx Bd.returns (hb hby d3_11) hr
  · show Q_rm3 Z q0 p1 h0 n0 _ s₁.heap _
    rw [e0]
    exact ⟨rfl, N0, rfl⟩
theorem d1_0 : decode prog_72_method_7_code 0 = .ok (.lload_n 0, 1) := by decide +kernel
theorem d1_1 : decode prog_72_method_7_code 1 = .ok (.lload_n 0, 1) := by decide +kernel
theorem d1_2 : decode prog_72_method_7_code 2 = .ok (.bipush 30, 2) := by decide +kernel
theorem d1_4 : decode prog_72_method_7_code 4 = .ok (.lushr, 1) := by decide +kernel
theorem d1_5 : decode prog_72_method_7_code 5 = .ok (.lxor, 1) := by decide +kernel
theorem d1_6 : decode prog_72_method_7_code 6 = .ok (.ldc2_w 36, 3) := by decide +kernel
theorem d1_9 : decode prog_72_method_7_code 9 = .ok (.lmul, 1) := by decide +kernel
theorem d1_10 : decode prog_72_method_7_code 10 = .ok (.lstore_n 0, 1) := by decide +kernel
theorem d1_11 : decode prog_72_method_7_code 11 = .ok (.lload_n 0, 1) := by decide +kernel
theorem d1_12 : decode prog_72_method_7_code 12 = .ok (.lload_n 0, 1) := by decide +kernel
theorem d1_13 : decode prog_72_method_7_code 13 = .ok (.bipush 27, 2) := by decide +kernel
theorem d1_15 : decode prog_72_method_7_code 15 = .ok (.lushr, 1) := by decide +kernel
theorem d1_16 : decode prog_72_method_7_code 16 = .ok (.lxor, 1) := by decide +kernel
theorem d1_17 : decode prog_72_method_7_code 17 = .ok (.ldc2_w 38, 3) := by decide +kernel
theorem d1_20 : decode prog_72_method_7_code 20 = .ok (.lmul, 1) := by decide +kernel
theorem d1_21 : decode prog_72_method_7_code 21 = .ok (.lstore_n 0, 1) := by decide +kernel
theorem d1_22 : decode prog_72_method_7_code 22 = .ok (.lload_n 0, 1) := by decide +kernel
theorem d1_23 : decode prog_72_method_7_code 23 = .ok (.lload_n 0, 1) := by decide +kernel
theorem d1_24 : decode prog_72_method_7_code 24 = .ok (.bipush 31, 2) := by decide +kernel
theorem d1_26 : decode prog_72_method_7_code 26 = .ok (.lushr, 1) := by decide +kernel
theorem d1_27 : decode prog_72_method_7_code 27 = .ok (.lxor, 1) := by decide +kernel
theorem d1_28 : decode prog_72_method_7_code 28 = .ok (.lreturn, 1) := by decide +kernel
theorem pn_rm1 : plainName "com/example/equipoise/equipoise/SplitMix" = true := by first | (simp [plainName, overriddenIn]; done) | decide +kernel
theorem ef_rm1 (m : MethodId) (q0 : Int64) : entryFrame m #[(.long q0)] 2 = mkF m 0 #[.val (.long q0), .second] [] := by first | (simp [entryFrame, mkF, argsToLocals, Value.category]; done) | rfl
def Q_rm1 (Z : State) (q0 : Int64) (h0 : Heap) (n0 : Nat) (v : Option Value) (h : Heap) (L : List Loc) : Prop := v = some (.long (own_mix q0)) ∧ Fr n0 L ∧ h = h0
set_option maxRecDepth 65536 in
set_option maxHeartbeats 40000000 in
theorem rm1 (l : Launch) (Z : State) (a0 : Array Value) (hw : ∀ d ∈ tables_1, d.before a0 Z = true) (ws : List Jvm.Cond) (q0 : Int64) (h0 : Heap) (n0 : Nat) (Z0 : n0 ≤ h0.size) :
    MetFree l (⟨"com/example/equipoise/equipoise/SplitMix", "mix", "(J)J"⟩ : MethodName) (head1 (Jvm.Cond.code (⟨"com/example/equipoise/equipoise/SplitMix", "mix", "(J)J"⟩ : MethodName) prog_72_method_7_code 2 (some .long) :: ws) ({ frames := 0, cells := 0, slots := 0, locals := 0 } : Room)) (fun a U => a = #[(.long q0)] ∧ Z.Warmed39 U.vm ∧ U.heap = h0) (fun _ _ _ _ _ => True) (fun _ U o U' => ∃ v L, o = .returned v ∧ Q_rm1 Z q0 h0 n0 v U'.heap L ∧ FrameEnd U o U' L ({ frames := 0, cells := 0, slots := 0, locals := 0 } : Room).cells ({ frames := 0, cells := 0, slots := 0, locals := 0 } : Room).slots) := by
  refine MetFree.of_bodySF (plainFor_of_name pn_rm1) hisR ?_
  intro p e s m args below meth c s₁ Bd hml0 hP hK
  obtain ⟨rfl, hZ, hh⟩ := hP
  have hx := Bd.exec
  have hby := Bd.bytes
  have hml : c.maxLocals = 2 := hml0
  have hown : s.vm.findClass "com/example/equipoise/equipoise/SplitMix" = some m.cls := findClass_of_methodNamed Bd.named
  have hnm := (name_of_methodNamed Bd.named Bd.method).1
  have X0 : Stand p l e ({ frames := 0, cells := 0, slots := 0, locals := 0 } : Room) s m #[(.long q0)] below meth c s₁ [] 0 0 := Stand.of_body Bd
  have e0 : s₁.heap = h0 := by rw [← hh, Bd.state]; rfl
  have N0 := Fr.nil n0
  have K0 := Keep.refl h0 []
  have go0 : Go p e below (s₁.setTop (entryFrame m #[(.long q0)] 2)) (s₁.setTop (mkF m 0 #[.val (.long q0), .second] [])) := fun t k => castTop (ef_rm1 m q0) k
  have go1 := go0.step (C := s₁.setTop (mkF m 10 #[.val (.long q0), .second] [(.long ((q0 ^^^ (own_usrL q0 (30 : Int32))) * (-4658895280553007687 : Int64)))])) (fun t k => by
    show Steps p.tables e below (s₁.setTop (mkF m 0 #[.val (.long q0), .second] [])) _
    refine XS.lloadN X0.here hx rfl (hb hby d1_0) rfl ?_
    show Steps p.tables e below (s₁.setTop (mkF m 1 #[.val (.long q0), .second] [(.long q0)])) _
    refine XS.lloadN X0.here hx rfl (hb hby d1_1) rfl ?_
    show Steps p.tables e below (s₁.setTop (mkF m 2 #[.val (.long q0), .second] [(.long q0), (.long q0)])) _
    refine XS.bipush X0.here hx rfl (hb hby d1_2) ?_
    show Steps p.tables e below (s₁.setTop (mkF m 4 #[.val (.long q0), .second] [(.int (30 : Int32)), (.long q0), (.long q0)])) _
    refine XS.lushr X0.here hx rfl (hb hby d1_4) rfl ?_
    show Steps p.tables e below (s₁.setTop (mkF m 5 #[.val (.long q0), .second] [(.long (own_usrL q0 (30 : Int32))), (.long q0)])) _
    refine XS.lxor X0.here hx rfl (hb hby d1_5) rfl ?_
    show Steps p.tables e below (s₁.setTop (mkF m 6 #[.val (.long q0), .second] [(.long (q0 ^^^ (own_usrL q0 (30 : Int32))))])) _
    refine X0.ldc2Long hx hown (mvT hZ (hw _ (List.mem_of_getElem? (i := 4) rfl))) (g := (mkF m 6 #[.val (.long q0), .second] [(.long (q0 ^^^ (own_usrL q0 (30 : Int32))))])) rfl (hb hby d1_6) _ ?_
    show Steps p.tables e below (s₁.setTop (mkF m 9 #[.val (.long q0), .second] [(.long (-4658895280553007687 : Int64)), (.long (q0 ^^^ (own_usrL q0 (30 : Int32))))])) _
    refine XS.lmul X0.here hx rfl (hb hby d1_9) rfl ?_
    exact k)
  obtain ⟨z1, hz1⟩ : ∃ z : Int64, z = ((q0 ^^^ (own_usrL q0 (30 : Int32))) * (-4658895280553007687 : Int64)) := ⟨_, rfl⟩
  rw [← hz1] at go1
  have go2 := go1.step (C := s₁.setTop (mkF m 21 #[.val (.long z1), .second] [(.long ((z1 ^^^ (own_usrL z1 (27 : Int32))) * (-7723592293110705685 : Int64)))])) (fun t k => by
    show Steps p.tables e below (s₁.setTop (mkF m 10 #[.val (.long q0), .second] [(.long z1)])) _
    refine XS.lstoreN X0.here hx rfl (hb hby d1_10) rfl (l' := #[.val (.long z1), .second]) rfl ?_
    show Steps p.tables e below (s₁.setTop (mkF m 11 #[.val (.long z1), .second] [])) _
    refine XS.lloadN X0.here hx rfl (hb hby d1_11) rfl ?_
    show Steps p.tables e below (s₁.setTop (mkF m 12 #[.val (.long z1), .second] [(.long z1)])) _
    refine XS.lloadN X0.here hx rfl (hb hby d1_12) rfl ?_
    show Steps p.tables e below (s₁.setTop (mkF m 13 #[.val (.long z1), .second] [(.long z1), (.long z1)])) _
    refine XS.bipush X0.here hx rfl (hb hby d1_13) ?_
    show Steps p.tables e below (s₁.setTop (mkF m 15 #[.val (.long z1), .second] [(.int (27 : Int32)), (.long z1), (.long z1)])) _
    refine XS.lushr X0.here hx rfl (hb hby d1_15) rfl ?_
    show Steps p.tables e below (s₁.setTop (mkF m 16 #[.val (.long z1), .second] [(.long (own_usrL z1 (27 : Int32))), (.long z1)])) _
    refine XS.lxor X0.here hx rfl (hb hby d1_16) rfl ?_
    show Steps p.tables e below (s₁.setTop (mkF m 17 #[.val (.long z1), .second] [(.long (z1 ^^^ (own_usrL z1 (27 : Int32))))])) _
    refine X0.ldc2Long hx hown (mvT hZ (hw _ (List.mem_of_getElem? (i := 5) rfl))) (g := (mkF m 17 #[.val (.long z1), .second] [(.long (z1 ^^^ (own_usrL z1 (27 : Int32))))])) rfl (hb hby d1_17) _ ?_
    show Steps p.tables e below (s₁.setTop (mkF m 20 #[.val (.long z1), .second] [(.long (-7723592293110705685 : Int64)), (.long (z1 ^^^ (own_usrL z1 (27 : Int32))))])) _
    refine XS.lmul X0.here hx rfl (hb hby d1_20) rfl ?_
    exact k)
  obtain ⟨z2, hz2⟩ : ∃ z : Int64, z = ((z1 ^^^ (own_usrL z1 (27 : Int32))) * (-7723592293110705685 : Int64)) := ⟨_, rfl⟩
  rw [← hz2] at go2
  have go3 := go2.step (C := s₁.setTop (mkF m 28 #[.val (.long z2), .second] [(.long (z2 ^^^ (own_usrL z2 (31 : Int32))))])) (fun t k => by
    show Steps p.tables e below (s₁.setTop (mkF m 21 #[.val (.long z1), .second] [(.long z2)])) _
    refine XS.lstoreN X0.here hx rfl (hb hby d1_21) rfl (l' := #[.val (.long z2), .second]) rfl ?_
    show Steps p.tables e below (s₁.setTop (mkF m 22 #[.val (.long z2), .second] [])) _
    refine XS.lloadN X0.here hx rfl (hb hby d1_22) rfl ?_
    show Steps p.tables e below (s₁.setTop (mkF m 23 #[.val (.long z2), .second] [(.long z2)])) _
    refine XS.lloadN X0.here hx rfl (hb hby d1_23) rfl ?_
    show Steps p.tables e below (s₁.setTop (mkF m 24 #[.val (.long z2), .second] [(.long z2), (.long z2)])) _
    refine XS.bipush X0.here hx rfl (hb hby d1_24) ?_
    show Steps p.tables e below (s₁.setTop (mkF m 26 #[.val (.long z2), .second] [(.int (31 : Int32)), (.long z2), (.long z2)])) _
    refine XS.lushr X0.here hx rfl (hb hby d1_26) rfl ?_
    show Steps p.tables e below (s₁.setTop (mkF m 27 #[.val (.long z2), .second] [(.long (own_usrL z2 (31 : Int32))), (.long z2)])) _
    refine XS.lxor X0.here hx rfl (hb hby d1_27) rfl ?_
    exact k)
  obtain ⟨fs, hr, hrun, hended, hW, hsame⟩ := X0.leave (v := some (.long (z2 ^^^ (own_usrL z2 (31 : Int32))))) (fun h => by rw [Bd.returns] at h; cases h)
  refine ⟨_, _, go3 _ ?_, hrun, hended, _, _, rfl, ?_, ⟨_, rfl⟩, hW, hsame.mono (by decide) (by decide)⟩
  · exact own_retL X0 hx Bd.returns (hb hby d1_28) hr
  · show Q_rm1 Z q0 h0 n0 _ s₁.heap _
    rw [e0]
    exact ⟨by subst hz2 hz1; rfl, N0, rfl⟩
theorem d2_0 : decode method_4_code 0 = .ok (.lload_n 0, 1) := by decide +kernel
theorem d2_1 : decode method_4_code 1 = .ok (.bipush 31, 2) := by decide +kernel
theorem d2_3 : decode method_4_code 3 = .ok (.invokestatic 9, 3) := by decide +kernel
theorem d2_6 : decode method_4_code 6 = .ok (.lstore_n 2, 1) := by decide +kernel
theorem d2_7 : decode method_4_code 7 = .ok (.lload_n 2, 1) := by decide +kernel
theorem d2_8 : decode method_4_code 8 = .ok (.ldc2_w 15, 3) := by decide +kernel
theorem d2_11 : decode method_4_code 11 = .ok (.invokestatic 17, 3) := by decide +kernel
theorem d2_14 : decode method_4_code 14 = .ok (.lmul, 1) := by decide +kernel
theorem d2_15 : decode method_4_code 15 = .ok (.lstore_n 2, 1) := by decide +kernel
theorem d2_16 : decode method_4_code 16 = .ok (.lload_n 2, 1) := by decide +kernel
theorem d2_17 : decode method_4_code 17 = .ok (.bipush 27, 2) := by decide +kernel
theorem d2_19 : decode method_4_code 19 = .ok (.invokestatic 9, 3) := by decide +kernel
theorem d2_22 : decode method_4_code 22 = .ok (.lstore_n 2, 1) := by decide +kernel
theorem d2_23 : decode method_4_code 23 = .ok (.lload_n 2, 1) := by decide +kernel
theorem d2_24 : decode method_4_code 24 = .ok (.ldc2_w 21, 3) := by decide +kernel
theorem d2_27 : decode method_4_code 27 = .ok (.invokestatic 17, 3) := by decide +kernel
theorem d2_30 : decode method_4_code 30 = .ok (.lmul, 1) := by decide +kernel
theorem d2_31 : decode method_4_code 31 = .ok (.lstore_n 2, 1) := by decide +kernel
theorem d2_32 : decode method_4_code 32 = .ok (.lload_n 2, 1) := by decide +kernel
theorem d2_33 : decode method_4_code 33 = .ok (.bipush 30, 2) := by decide +kernel
theorem d2_35 : decode method_4_code 35 = .ok (.invokestatic 9, 3) := by decide +kernel
theorem d2_38 : decode method_4_code 38 = .ok (.lreturn, 1) := by decide +kernel
theorem pn_rm2 : plainName "com/example/equipoise/equipoise/SplitMixMixPinLaw" = true := by first | (simp [plainName, overriddenIn]; done) | decide +kernel
theorem pd2_0 : parseMethodDescriptor "(JI)J" = some ⟨[.long, .int], some .long⟩ := by decide +kernel
theorem pd2_1 : parseMethodDescriptor "(J)J" = some ⟨[.long], some .long⟩ := by decide +kernel
theorem ef_rm2 (m : MethodId) (q0 : Int64) : entryFrame m #[(.long q0)] 4 = mkF m 0 #[.val (.long q0), .second, .unset, .unset] [] := by first | (simp [entryFrame, mkF, argsToLocals, Value.category]; done) | rfl
def Q_rm2 (Z : State) (q0 : Int64) (h0 : Heap) (n0 : Nat) (v : Option Value) (h : Heap) (L : List Loc) : Prop := v = some (.long (own_unmix q0)) ∧ Fr n0 L ∧ h = h0
set_option maxRecDepth 65536 in
set_option maxHeartbeats 40000000 in
theorem rm2 (l : Launch) (Z : State) (a0 : Array Value) (hw : ∀ d ∈ tables_1, d.before a0 Z = true) (ws : List Jvm.Cond) (q0 : Int64) (h0 : Heap) (n0 : Nat) (Z0 : n0 ≤ h0.size) :
    MetFree l (⟨"com/example/equipoise/equipoise/SplitMixMixPinLaw", "unmix", "(J)J"⟩ : MethodName) (head1 (Jvm.Cond.code (⟨"com/example/equipoise/equipoise/SplitMixMixPinLaw", "unmix", "(J)J"⟩ : MethodName) method_4_code 4 (some .long) :: ws) ({ frames := 1, cells := 0, slots := 0, locals := 17 } : Room)) (fun a U => a = #[(.long q0)] ∧ Z.Warmed39 U.vm ∧ U.heap = h0) (fun _ _ _ _ _ => True) (fun _ U o U' => ∃ v L, o = .returned v ∧ Q_rm2 Z q0 h0 n0 v U'.heap L ∧ FrameEnd U o U' L ({ frames := 1, cells := 0, slots := 0, locals := 17 } : Room).cells ({ frames := 1, cells := 0, slots := 0, locals := 17 } : Room).slots) := by
  refine MetFree.of_bodySF (plainFor_of_name pn_rm2) hisR ?_
  intro p e s m args below meth c s₁ Bd hml0 hP hK
  obtain ⟨rfl, hZ, hh⟩ := hP
  have hx := Bd.exec
  have hby := Bd.bytes
  have hml : c.maxLocals = 4 := hml0
  have hown : s.vm.findClass "com/example/equipoise/equipoise/SplitMixMixPinLaw" = some m.cls := findClass_of_methodNamed Bd.named
  have hnm := (name_of_methodNamed Bd.named Bd.method).1
  have X0 : Stand p l e ({ frames := 1, cells := 0, slots := 0, locals := 17 } : Room) s m #[(.long q0)] below meth c s₁ [] 0 0 := Stand.of_body Bd
  have e0 : s₁.heap = h0 := by rw [← hh, Bd.state]; rfl
  have N0 := Fr.nil n0
  have K0 := Keep.refl h0 []
  have go0 : Go p e below (s₁.setTop (entryFrame m #[(.long q0)] 4)) (s₁.setTop (mkF m 0 #[.val (.long q0), .second, .unset, .unset] [])) := fun t k => castTop (ef_rm2 m q0) k
  have go1 := go0.step (C := s₁.setTop (mkF m 3 #[.val (.long q0), .second, .unset, .unset] [(.int (31 : Int32)), (.long q0)])) (fun t k => by
    show Steps p.tables e below (s₁.setTop (mkF m 0 #[.val (.long q0), .second, .unset, .unset] [])) _
    refine XS.lloadN X0.here hx rfl (hb hby d2_0) rfl ?_
    show Steps p.tables e below (s₁.setTop (mkF m 1 #[.val (.long q0), .second, .unset, .unset] [(.long q0)])) _
    refine XS.bipush X0.here hx rfl (hb hby d2_1) ?_
    exact k)
  obtain ⟨_, _, ⟨T2, L2, k2, n2⟩, -, X2, ⟨Lc2, hQ2, l2, y2, z2⟩, st2⟩ := Jvm.LawKit.callS X0 hx (y := (⟨"com/example/equipoise/equipoise/SplitMixMixPinLaw", "unshift", "(JI)J"⟩ : MethodName)) hown (mvT hZ (hw _ (List.mem_of_getElem? (i := 10) rfl))) (mvT hZ (hw _ (List.mem_of_getElem? (i := 11) rfl))) (mvT hZ (hw _ (List.mem_of_getElem? (i := 8) rfl))) (mvT hZ (hw _ (List.mem_of_getElem? (i := 12) rfl))) (by decide) (backOf (W := 0) (rm3 l Z a0 hw [] q0 (31 : Int32) h0 n0 Z0 ) hZ (hw _ (List.mem_of_getElem? (i := 12) rfl)) (hw _ (List.mem_of_getElem? (i := 8) rfl)) (by decide) (by decide)) (g := (mkF m 3 #[.val (.long q0), .second, .unset, .unset] [(.int (31 : Int32)), (.long q0)])) rfl (by rw [hml]; rfl) (argsL := [(.long q0), (.int (31 : Int32))]) (rest := []) (lenOf pd2_0 rfl) rfl (by show 2 * 0 + _ ≤ _; exact Nat.le_of_eq rfl) (hb hby d2_3) (fun _ _ => ⟨rfl, e0, (by decide : 0 + 0 ≤ _), (by decide : 0 + 0 ≤ _)⟩)
  dsimp only [Pt.U, Pt.locs, Pt.cells, Pt.slots] at X2 l2 y2 z2 st2 hQ2
  subst l2 y2 z2
  obtain ⟨rfl, N2q, e2⟩ := hQ2
  have N2 := Fr.app N0 N2q
  have go2 := go1.step (C := T2.setTop (mkF m 6 #[.val (.long q0), .second, .unset, .unset] [(.long (own_unsh q0 (31 : Int32)))])) (fun t k => st2 t k)
  have go3 := go2.step (C := T2.setTop (mkF m 11 #[.val (.long q0), .second, .val (.long (own_unsh q0 (31 : Int32))), .second] [(.long (-7723592293110705685 : Int64)), (.long (own_unsh q0 (31 : Int32)))])) (fun t k => by
    show Steps p.tables e below (T2.setTop (mkF m 6 #[.val (.long q0), .second, .unset, .unset] [(.long (own_unsh q0 (31 : Int32)))])) _
    refine XS.lstoreN X2.here hx rfl (hb hby d2_6) rfl (l' := #[.val (.long q0), .second, .val (.long (own_unsh q0 (31 : Int32))), .second]) rfl ?_
    show Steps p.tables e below (T2.setTop (mkF m 7 #[.val (.long q0), .second, .val (.long (own_unsh q0 (31 : Int32))), .second] [])) _
    refine XS.lloadN X2.here hx rfl (hb hby d2_7) rfl ?_
    show Steps p.tables e below (T2.setTop (mkF m 8 #[.val (.long q0), .second, .val (.long (own_unsh q0 (31 : Int32))), .second] [(.long (own_unsh q0 (31 : Int32)))])) _
    refine X2.ldc2Long hx hown (mvT hZ (hw _ (List.mem_of_getElem? (i := 13) rfl))) (g := (mkF m 8 #[.val (.long q0), .second, .val (.long (own_unsh q0 (31 : Int32))), .second] [(.long (own_unsh q0 (31 : Int32)))])) rfl (hb hby d2_8) _ ?_
    exact k)
  obtain ⟨_, _, ⟨T4, L4, k4, n4⟩, -, X4, ⟨Lc4, hQ4, l4, y4, z4⟩, st4⟩ := Jvm.LawKit.callS X2 hx (y := (⟨"com/example/equipoise/equipoise/SplitMixMixPinLaw", "inverse", "(J)J"⟩ : MethodName)) hown (mvT hZ (hw _ (List.mem_of_getElem? (i := 14) rfl))) (mvT hZ (hw _ (List.mem_of_getElem? (i := 15) rfl))) (mvT hZ (hw _ (List.mem_of_getElem? (i := 8) rfl))) (mvT hZ (hw _ (List.mem_of_getElem? (i := 16) rfl))) (by decide) (backOf (W := 2) (rm4 l Z a0 hw [] (-7723592293110705685 : Int64) h0 n0 Z0 ) hZ (hw _ (List.mem_of_getElem? (i := 16) rfl)) (hw _ (List.mem_of_getElem? (i := 8) rfl)) (by decide) (by decide)) (g := (mkF m 11 #[.val (.long q0), .second, .val (.long (own_unsh q0 (31 : Int32))), .second] [(.long (-7723592293110705685 : Int64)), (.long (own_unsh q0 (31 : Int32)))])) rfl (by rw [hml]; rfl) (argsL := [(.long (-7723592293110705685 : Int64))]) (rest := [(.long (own_unsh q0 (31 : Int32)))]) (lenOf pd2_1 rfl) rfl (by show 2 * 0 + _ ≤ _; exact Nat.le_of_eq rfl) (hb hby d2_11) (fun _ _ => ⟨rfl, e2, (by decide : 0 + 0 ≤ _), (by decide : 0 + 0 ≤ _)⟩)
  dsimp only [Pt.U, Pt.locs, Pt.cells, Pt.slots] at X4 l4 y4 z4 st4 hQ4
  subst l4 y4 z4
  obtain ⟨rfl, N4q, e4⟩ := hQ4
  have N4 := Fr.app N2 N4q
  have go4 := go3.step (C := T4.setTop (mkF m 14 #[.val (.long q0), .second, .val (.long (own_unsh q0 (31 : Int32))), .second] [(.long (own_inv (-7723592293110705685 : Int64))), (.long (own_unsh q0 (31 : Int32)))])) (fun t k => st4 t k)
  have go5 := go4.step (C := T4.setTop (mkF m 19 #[.val (.long q0), .second, .val (.long ((own_unsh q0 (31 : Int32)) * (own_inv (-7723592293110705685 : Int64)))), .second] [(.int (27 : Int32)), (.long ((own_unsh q0 (31 : Int32)) * (own_inv (-7723592293110705685 : Int64))))])) (fun t k => by
    show Steps p.tables e below (T4.setTop (mkF m 14 #[.val (.long q0), .second, .val (.long (own_unsh q0 (31 : Int32))), .second] [(.long (own_inv (-7723592293110705685 : Int64))), (.long (own_unsh q0 (31 : Int32)))])) _
    refine XS.lmul X4.here hx rfl (hb hby d2_14) rfl ?_
    show Steps p.tables e below (T4.setTop (mkF m 15 #[.val (.long q0), .second, .val (.long (own_unsh q0 (31 : Int32))), .second] [(.long ((own_unsh q0 (31 : Int32)) * (own_inv (-7723592293110705685 : Int64))))])) _
    refine XS.lstoreN X4.here hx rfl (hb hby d2_15) rfl (l' := #[.val (.long q0), .second, .val (.long ((own_unsh q0 (31 : Int32)) * (own_inv (-7723592293110705685 : Int64)))), .second]) rfl ?_
    show Steps p.tables e below (T4.setTop (mkF m 16 #[.val (.long q0), .second, .val (.long ((own_unsh q0 (31 : Int32)) * (own_inv (-7723592293110705685 : Int64)))), .second] [])) _
    refine XS.lloadN X4.here hx rfl (hb hby d2_16) rfl ?_
    show Steps p.tables e below (T4.setTop (mkF m 17 #[.val (.long q0), .second, .val (.long ((own_unsh q0 (31 : Int32)) * (own_inv (-7723592293110705685 : Int64)))), .second] [(.long ((own_unsh q0 (31 : Int32)) * (own_inv (-7723592293110705685 : Int64))))])) _
    refine XS.bipush X4.here hx rfl (hb hby d2_17) ?_
    exact k)
  obtain ⟨_, _, ⟨T6, L6, k6, n6⟩, -, X6, ⟨Lc6, hQ6, l6, y6, z6⟩, st6⟩ := Jvm.LawKit.callS X4 hx (y := (⟨"com/example/equipoise/equipoise/SplitMixMixPinLaw", "unshift", "(JI)J"⟩ : MethodName)) hown (mvT hZ (hw _ (List.mem_of_getElem? (i := 10) rfl))) (mvT hZ (hw _ (List.mem_of_getElem? (i := 11) rfl))) (mvT hZ (hw _ (List.mem_of_getElem? (i := 8) rfl))) (mvT hZ (hw _ (List.mem_of_getElem? (i := 12) rfl))) (by decide) (backOf (W := 0) (rm3 l Z a0 hw [] ((own_unsh q0 (31 : Int32)) * (own_inv (-7723592293110705685 : Int64))) (27 : Int32) h0 n0 Z0 ) hZ (hw _ (List.mem_of_getElem? (i := 12) rfl)) (hw _ (List.mem_of_getElem? (i := 8) rfl)) (by decide) (by decide)) (g := (mkF m 19 #[.val (.long q0), .second, .val (.long ((own_unsh q0 (31 : Int32)) * (own_inv (-7723592293110705685 : Int64)))), .second] [(.int (27 : Int32)), (.long ((own_unsh q0 (31 : Int32)) * (own_inv (-7723592293110705685 : Int64))))])) rfl (by rw [hml]; rfl) (argsL := [(.long ((own_unsh q0 (31 : Int32)) * (own_inv (-7723592293110705685 : Int64)))), (.int (27 : Int32))]) (rest := []) (lenOf pd2_0 rfl) rfl (by show 2 * 0 + _ ≤ _; exact Nat.le_of_eq rfl) (hb hby d2_19) (fun _ _ => ⟨rfl, e4, (by decide : 0 + 0 ≤ _), (by decide : 0 + 0 ≤ _)⟩)
  dsimp only [Pt.U, Pt.locs, Pt.cells, Pt.slots] at X6 l6 y6 z6 st6 hQ6
  subst l6 y6 z6
  obtain ⟨rfl, N6q, e6⟩ := hQ6
  have N6 := Fr.app N4 N6q
  have go6 := go5.step (C := T6.setTop (mkF m 22 #[.val (.long q0), .second, .val (.long ((own_unsh q0 (31 : Int32)) * (own_inv (-7723592293110705685 : Int64)))), .second] [(.long (own_unsh ((own_unsh q0 (31 : Int32)) * (own_inv (-7723592293110705685 : Int64))) (27 : Int32)))])) (fun t k => st6 t k)
  have go7 := go6.step (C := T6.setTop (mkF m 27 #[.val (.long q0), .second, .val (.long (own_unsh ((own_unsh q0 (31 : Int32)) * (own_inv (-7723592293110705685 : Int64))) (27 : Int32))), .second] [(.long (-4658895280553007687 : Int64)), (.long (own_unsh ((own_unsh q0 (31 : Int32)) * (own_inv (-7723592293110705685 : Int64))) (27 : Int32)))])) (fun t k => by
    show Steps p.tables e below (T6.setTop (mkF m 22 #[.val (.long q0), .second, .val (.long ((own_unsh q0 (31 : Int32)) * (own_inv (-7723592293110705685 : Int64)))), .second] [(.long (own_unsh ((own_unsh q0 (31 : Int32)) * (own_inv (-7723592293110705685 : Int64))) (27 : Int32)))])) _
    refine XS.lstoreN X6.here hx rfl (hb hby d2_22) rfl (l' := #[.val (.long q0), .second, .val (.long (own_unsh ((own_unsh q0 (31 : Int32)) * (own_inv (-7723592293110705685 : Int64))) (27 : Int32))), .second]) rfl ?_
    show Steps p.tables e below (T6.setTop (mkF m 23 #[.val (.long q0), .second, .val (.long (own_unsh ((own_unsh q0 (31 : Int32)) * (own_inv (-7723592293110705685 : Int64))) (27 : Int32))), .second] [])) _
    refine XS.lloadN X6.here hx rfl (hb hby d2_23) rfl ?_
    show Steps p.tables e below (T6.setTop (mkF m 24 #[.val (.long q0), .second, .val (.long (own_unsh ((own_unsh q0 (31 : Int32)) * (own_inv (-7723592293110705685 : Int64))) (27 : Int32))), .second] [(.long (own_unsh ((own_unsh q0 (31 : Int32)) * (own_inv (-7723592293110705685 : Int64))) (27 : Int32)))])) _
    refine X6.ldc2Long hx hown (mvT hZ (hw _ (List.mem_of_getElem? (i := 18) rfl))) (g := (mkF m 24 #[.val (.long q0), .second, .val (.long (own_unsh ((own_unsh q0 (31 : Int32)) * (own_inv (-7723592293110705685 : Int64))) (27 : Int32))), .second] [(.long (own_unsh ((own_unsh q0 (31 : Int32)) * (own_inv (-7723592293110705685 : Int64))) (27 : Int32)))])) rfl (hb hby d2_24) _ ?_
    exact k)
  obtain ⟨_, _, ⟨T8, L8, k8, n8⟩, -, X8, ⟨Lc8, hQ8, l8, y8, z8⟩, st8⟩ := Jvm.LawKit.callS X6 hx (y := (⟨"com/example/equipoise/equipoise/SplitMixMixPinLaw", "inverse", "(J)J"⟩ : MethodName)) hown (mvT hZ (hw _ (List.mem_of_getElem? (i := 14) rfl))) (mvT hZ (hw _ (List.mem_of_getElem? (i := 15) rfl))) (mvT hZ (hw _ (List.mem_of_getElem? (i := 8) rfl))) (mvT hZ (hw _ (List.mem_of_getElem? (i := 16) rfl))) (by decide) (backOf (W := 2) (rm4 l Z a0 hw [] (-4658895280553007687 : Int64) h0 n0 Z0 ) hZ (hw _ (List.mem_of_getElem? (i := 16) rfl)) (hw _ (List.mem_of_getElem? (i := 8) rfl)) (by decide) (by decide)) (g := (mkF m 27 #[.val (.long q0), .second, .val (.long (own_unsh ((own_unsh q0 (31 : Int32)) * (own_inv (-7723592293110705685 : Int64))) (27 : Int32))), .second] [(.long (-4658895280553007687 : Int64)), (.long (own_unsh ((own_unsh q0 (31 : Int32)) * (own_inv (-7723592293110705685 : Int64))) (27 : Int32)))])) rfl (by rw [hml]; rfl) (argsL := [(.long (-4658895280553007687 : Int64))]) (rest := [(.long (own_unsh ((own_unsh q0 (31 : Int32)) * (own_inv (-7723592293110705685 : Int64))) (27 : Int32)))]) (lenOf pd2_1 rfl) rfl (by show 2 * 0 + _ ≤ _; exact Nat.le_of_eq rfl) (hb hby d2_27) (fun _ _ => ⟨rfl, e6, (by decide : 0 + 0 ≤ _), (by decide : 0 + 0 ≤ _)⟩)
  dsimp only [Pt.U, Pt.locs, Pt.cells, Pt.slots] at X8 l8 y8 z8 st8 hQ8
  subst l8 y8 z8
  obtain ⟨rfl, N8q, e8⟩ := hQ8
  have N8 := Fr.app N6 N8q
  have go8 := go7.step (C := T8.setTop (mkF m 30 #[.val (.long q0), .second, .val (.long (own_unsh ((own_unsh q0 (31 : Int32)) * (own_inv (-7723592293110705685 : Int64))) (27 : Int32))), .second] [(.long (own_inv (-4658895280553007687 : Int64))), (.long (own_unsh ((own_unsh q0 (31 : Int32)) * (own_inv (-7723592293110705685 : Int64))) (27 : Int32)))])) (fun t k => st8 t k)
  have go9 := go8.step (C := T8.setTop (mkF m 35 #[.val (.long q0), .second, .val (.long ((own_unsh ((own_unsh q0 (31 : Int32)) * (own_inv (-7723592293110705685 : Int64))) (27 : Int32)) * (own_inv (-4658895280553007687 : Int64)))), .second] [(.int (30 : Int32)), (.long ((own_unsh ((own_unsh q0 (31 : Int32)) * (own_inv (-7723592293110705685 : Int64))) (27 : Int32)) * (own_inv (-4658895280553007687 : Int64))))])) (fun t k => by
    show Steps p.tables e below (T8.setTop (mkF m 30 #[.val (.long q0), .second, .val (.long (own_unsh ((own_unsh q0 (31 : Int32)) * (own_inv (-7723592293110705685 : Int64))) (27 : Int32))), .second] [(.long (own_inv (-4658895280553007687 : Int64))), (.long (own_unsh ((own_unsh q0 (31 : Int32)) * (own_inv (-7723592293110705685 : Int64))) (27 : Int32)))])) _
    refine XS.lmul X8.here hx rfl (hb hby d2_30) rfl ?_
    show Steps p.tables e below (T8.setTop (mkF m 31 #[.val (.long q0), .second, .val (.long (own_unsh ((own_unsh q0 (31 : Int32)) * (own_inv (-7723592293110705685 : Int64))) (27 : Int32))), .second] [(.long ((own_unsh ((own_unsh q0 (31 : Int32)) * (own_inv (-7723592293110705685 : Int64))) (27 : Int32)) * (own_inv (-4658895280553007687 : Int64))))])) _
    refine XS.lstoreN X8.here hx rfl (hb hby d2_31) rfl (l' := #[.val (.long q0), .second, .val (.long ((own_unsh ((own_unsh q0 (31 : Int32)) * (own_inv (-7723592293110705685 : Int64))) (27 : Int32)) * (own_inv (-4658895280553007687 : Int64)))), .second]) rfl ?_
    show Steps p.tables e below (T8.setTop (mkF m 32 #[.val (.long q0), .second, .val (.long ((own_unsh ((own_unsh q0 (31 : Int32)) * (own_inv (-7723592293110705685 : Int64))) (27 : Int32)) * (own_inv (-4658895280553007687 : Int64)))), .second] [])) _
    refine XS.lloadN X8.here hx rfl (hb hby d2_32) rfl ?_
    show Steps p.tables e below (T8.setTop (mkF m 33 #[.val (.long q0), .second, .val (.long ((own_unsh ((own_unsh q0 (31 : Int32)) * (own_inv (-7723592293110705685 : Int64))) (27 : Int32)) * (own_inv (-4658895280553007687 : Int64)))), .second] [(.long ((own_unsh ((own_unsh q0 (31 : Int32)) * (own_inv (-7723592293110705685 : Int64))) (27 : Int32)) * (own_inv (-4658895280553007687 : Int64))))])) _
    refine XS.bipush X8.here hx rfl (hb hby d2_33) ?_
    exact k)
  obtain ⟨_, _, ⟨T10, L10, k10, n10⟩, -, X10, ⟨Lc10, hQ10, l10, y10, z10⟩, st10⟩ := Jvm.LawKit.callS X8 hx (y := (⟨"com/example/equipoise/equipoise/SplitMixMixPinLaw", "unshift", "(JI)J"⟩ : MethodName)) hown (mvT hZ (hw _ (List.mem_of_getElem? (i := 10) rfl))) (mvT hZ (hw _ (List.mem_of_getElem? (i := 11) rfl))) (mvT hZ (hw _ (List.mem_of_getElem? (i := 8) rfl))) (mvT hZ (hw _ (List.mem_of_getElem? (i := 12) rfl))) (by decide) (backOf (W := 0) (rm3 l Z a0 hw [] ((own_unsh ((own_unsh q0 (31 : Int32)) * (own_inv (-7723592293110705685 : Int64))) (27 : Int32)) * (own_inv (-4658895280553007687 : Int64))) (30 : Int32) h0 n0 Z0 ) hZ (hw _ (List.mem_of_getElem? (i := 12) rfl)) (hw _ (List.mem_of_getElem? (i := 8) rfl)) (by decide) (by decide)) (g := (mkF m 35 #[.val (.long q0), .second, .val (.long ((own_unsh ((own_unsh q0 (31 : Int32)) * (own_inv (-7723592293110705685 : Int64))) (27 : Int32)) * (own_inv (-4658895280553007687 : Int64)))), .second] [(.int (30 : Int32)), (.long ((own_unsh ((own_unsh q0 (31 : Int32)) * (own_inv (-7723592293110705685 : Int64))) (27 : Int32)) * (own_inv (-4658895280553007687 : Int64))))])) rfl (by rw [hml]; rfl) (argsL := [(.long ((own_unsh ((own_unsh q0 (31 : Int32)) * (own_inv (-7723592293110705685 : Int64))) (27 : Int32)) * (own_inv (-4658895280553007687 : Int64)))), (.int (30 : Int32))]) (rest := []) (lenOf pd2_0 rfl) rfl (by show 2 * 0 + _ ≤ _; exact Nat.le_of_eq rfl) (hb hby d2_35) (fun _ _ => ⟨rfl, e8, (by decide : 0 + 0 ≤ _), (by decide : 0 + 0 ≤ _)⟩)
  dsimp only [Pt.U, Pt.locs, Pt.cells, Pt.slots] at X10 l10 y10 z10 st10 hQ10
  subst l10 y10 z10
  obtain ⟨rfl, N10q, e10⟩ := hQ10
  have N10 := Fr.app N8 N10q
  have go10 := go9.step (C := T10.setTop (mkF m 38 #[.val (.long q0), .second, .val (.long ((own_unsh ((own_unsh q0 (31 : Int32)) * (own_inv (-7723592293110705685 : Int64))) (27 : Int32)) * (own_inv (-4658895280553007687 : Int64)))), .second] [(.long (own_unsh ((own_unsh ((own_unsh q0 (31 : Int32)) * (own_inv (-7723592293110705685 : Int64))) (27 : Int32)) * (own_inv (-4658895280553007687 : Int64))) (30 : Int32)))])) (fun t k => st10 t k)
  obtain ⟨fs, hr, hrun, hended, hW, hsame⟩ := X10.leave (v := some (.long (own_unsh ((own_unsh ((own_unsh q0 (31 : Int32)) * (own_inv (-7723592293110705685 : Int64))) (27 : Int32)) * (own_inv (-4658895280553007687 : Int64))) (30 : Int32)))) (fun h => by rw [Bd.returns] at h; cases h)
  refine ⟨_, _, go10 _ ?_, hrun, hended, _, _, rfl, ?_, ⟨_, rfl⟩, hW, hsame.mono (by decide) (by decide)⟩
  · exact own_retL X10 hx Bd.returns (hb hby d2_38) hr
  · show Q_rm2 Z q0 h0 n0 _ T10.heap _
    rw [e10]
    exact ⟨rfl, N10, rfl⟩
theorem pn_rm0 : plainName "com/example/equipoise/equipoise/SplitMixMixPinLaw" = true := by first | (simp [plainName, overriddenIn]; done) | decide +kernel
theorem pd0_0 : parseMethodDescriptor "(J)J" = some ⟨[.long], some .long⟩ := by decide +kernel
theorem ef_rm0 (m : MethodId) (q0 : Int64) : entryFrame m #[(.long q0)] maxLocals = mkF m 0 #[.val (.long q0), .second, .unset, .unset] [] := by first | (simp [entryFrame, mkF, argsToLocals, Value.category, maxLocals]; done) | rfl
def Q_rm0 (Z : State) (q0 : Int64) (h0 : Heap) (n0 : Nat) (v : Option Value) (h : Heap) (L : List Loc) : Prop := v = some (.int (1 : Int32)) ∧ Fr n0 L
set_option maxRecDepth 65536 in
set_option maxHeartbeats 40000000 in
theorem rm0 (l : Launch) (Z : State) (a0 : Array Value) (hw : ∀ d ∈ tables_1, d.before a0 Z = true) (ws : List Jvm.Cond) (q0 : Int64) (h0 : Heap) (n0 : Nat) (Z0 : n0 ≤ h0.size) :
    MetFree l x (head1 (Jvm.Cond.code x code maxLocals ret :: ws) room_1) (fun a U => a = #[(.long q0)] ∧ Z.Warmed39 U.vm ∧ U.heap = h0) (fun _ _ _ _ _ => True) (fun _ U o U' => ∃ v L, o = .returned v ∧ Q_rm0 Z q0 h0 n0 v U'.heap L ∧ FrameEnd U o U' L room_1.cells room_1.slots) := by
  refine MetFree.of_bodySF (plainFor_of_name pn_rm0) hisR ?_
  intro p e s m args below meth c s₁ Bd hml0 hP hK
  obtain ⟨rfl, hZ, hh⟩ := hP
  have hx := Bd.exec
  have hby := Bd.bytes
  have hml : c.maxLocals = 4 := hml0
  have hown : s.vm.findClass "com/example/equipoise/equipoise/SplitMixMixPinLaw" = some m.cls := findClass_of_methodNamed Bd.named
  have hnm := (name_of_methodNamed Bd.named Bd.method).1
  have X0 : Stand p l e room_1 s m #[(.long q0)] below meth c s₁ [] 0 0 := Stand.of_body Bd
  have e0 : s₁.heap = h0 := by rw [← hh, Bd.state]; rfl
  have N0 := Fr.nil n0
  have K0 := Keep.refl h0 []
  have go0 : Go p e below (s₁.setTop (entryFrame m #[(.long q0)] maxLocals)) (s₁.setTop (mkF m 0 #[.val (.long q0), .second, .unset, .unset] [])) := fun t k => castTop (ef_rm0 m q0) k
  have go1 := go0.step (C := s₁.setTop (mkF m 1 #[.val (.long q0), .second, .unset, .unset] [(.long q0)])) (fun t k => by
    show Steps p.tables e below (s₁.setTop (mkF m 0 #[.val (.long q0), .second, .unset, .unset] [])) _
    refine XS.lloadN X0.here hx rfl (hb hby at_0) rfl ?_
    exact k)
  obtain ⟨_, _, ⟨T2, L2, k2, n2⟩, -, X2, ⟨Lc2, hQ2, l2, y2, z2⟩, st2⟩ := Jvm.LawKit.callS X0 hx (y := (⟨"com/example/equipoise/equipoise/SplitMix", "mix", "(J)J"⟩ : MethodName)) hown (mvT hZ (hw _ (List.mem_of_getElem? (i := 0) rfl))) (mvT hZ (hw _ (List.mem_of_getElem? (i := 1) rfl))) (mvT hZ (hw _ (List.mem_of_getElem? (i := 2) rfl))) (mvT hZ (hw _ (List.mem_of_getElem? (i := 3) rfl))) (by decide) (backOf (W := 0) (rm1 l Z a0 hw [] q0 h0 n0 Z0 ) hZ (hw _ (List.mem_of_getElem? (i := 3) rfl)) (hw _ (List.mem_of_getElem? (i := 2) rfl)) (by decide) (by decide)) (g := (mkF m 1 #[.val (.long q0), .second, .unset, .unset] [(.long q0)])) rfl (by rw [hml]; rfl) (argsL := [(.long q0)]) (rest := []) (lenOf pd0_0 rfl) rfl (by show 2 * 0 + _ ≤ _; exact Nat.le_of_eq rfl) (hb hby at_1) (fun _ _ => ⟨rfl, e0, (by decide : 0 + 0 ≤ _), (by decide : 0 + 0 ≤ _)⟩)
  dsimp only [Pt.U, Pt.locs, Pt.cells, Pt.slots] at X2 l2 y2 z2 st2 hQ2
  subst l2 y2 z2
  obtain ⟨rfl, N2q, e2⟩ := hQ2
  have N2 := Fr.app N0 N2q
  have go2 := go1.step (C := T2.setTop (mkF m 4 #[.val (.long q0), .second, .unset, .unset] [(.long (own_mix q0))])) (fun t k => st2 t k)
  obtain ⟨_, _, ⟨T3, L3, k3, n3⟩, -, X3, ⟨Lc3, hQ3, l3, y3, z3⟩, st3⟩ := Jvm.LawKit.callS X2 hx (y := (⟨"com/example/equipoise/equipoise/SplitMixMixPinLaw", "unmix", "(J)J"⟩ : MethodName)) hown (mvT hZ (hw _ (List.mem_of_getElem? (i := 6) rfl))) (mvT hZ (hw _ (List.mem_of_getElem? (i := 7) rfl))) (mvT hZ (hw _ (List.mem_of_getElem? (i := 8) rfl))) (mvT hZ (hw _ (List.mem_of_getElem? (i := 9) rfl))) (by decide) (backOf (W := 0) (rm2 l Z a0 hw [] (own_mix q0) h0 n0 Z0 ) hZ (hw _ (List.mem_of_getElem? (i := 9) rfl)) (hw _ (List.mem_of_getElem? (i := 8) rfl)) (by decide) (by decide)) (g := (mkF m 4 #[.val (.long q0), .second, .unset, .unset] [(.long (own_mix q0))])) rfl (by rw [hml]; rfl) (argsL := [(.long (own_mix q0))]) (rest := []) (lenOf pd0_0 rfl) rfl (by show 2 * 0 + _ ≤ _; exact Nat.le_of_eq rfl) (hb hby at_4) (fun _ _ => ⟨rfl, e2, (by decide : 0 + 0 ≤ _), (by decide : 0 + 0 ≤ _)⟩)
  dsimp only [Pt.U, Pt.locs, Pt.cells, Pt.slots] at X3 l3 y3 z3 st3 hQ3
  subst l3 y3 z3
  obtain ⟨rfl, N3q, e3⟩ := hQ3
  have N3 := Fr.app N2 N3q
  have go3 := go2.step (C := T3.setTop (mkF m 7 #[.val (.long q0), .second, .unset, .unset] [(.long (own_unmix (own_mix q0)))])) (fun t k => st3 t k)
  have go5 := go3.step (C := T3.setTop (mkF m 19 #[.val (.long q0), .second, .val (.int (1 : Int32)), .unset] [(.long q0)])) (fun t k => by
    show Steps p.tables e below (T3.setTop (mkF m 7 #[.val (.long q0), .second, .unset, .unset] [(.long (own_unmix (own_mix q0)))])) _
    refine XS.lloadN X3.here hx rfl (hb hby at_7) rfl ?_
    show Steps p.tables e below (T3.setTop (mkF m 8 #[.val (.long q0), .second, .unset, .unset] [(.long q0), (.long (own_unmix (own_mix q0)))])) _
    refine XS.lcmp X3.here hx rfl (hb hby at_8) rfl ?_
    show Steps p.tables e below (T3.setTop (mkF m 9 #[.val (.long q0), .second, .unset, .unset] [(.int (lcmpW (own_unmix (own_mix q0)) q0))])) _
    refine XS.ifNo X3.here hx rfl (hb hby at_9) rfl ((if0 _ _).trans (teq ((lw_eq _ _).mpr (own_fw _ : (own_unmix (own_mix q0)) = q0))).2) ?_
    show Steps p.tables e below (T3.setTop (mkF m 12 #[.val (.long q0), .second, .unset, .unset] [])) _
    refine XS.iconst X3.here hx rfl (hb hby at_12) ?_
    show Steps p.tables e below (T3.setTop (mkF m 13 #[.val (.long q0), .second, .unset, .unset] [(.int (1 : Int32))])) _
    refine XS.goto X3.here hx rfl (pc0 := 13) (pc' := 17) rfl (hb hby at_13) (by decide) (by decide) ?_
    show Steps p.tables e below (T3.setTop (mkF m 17 #[.val (.long q0), .second, .unset, .unset] [(.int (1 : Int32))])) _
    refine XS.istoreN X3.here hx rfl (hb hby at_17) rfl (l' := #[.val (.long q0), .second, .val (.int (1 : Int32)), .unset]) rfl ?_
    show Steps p.tables e below (T3.setTop (mkF m 18 #[.val (.long q0), .second, .val (.int (1 : Int32)), .unset] [])) _
    refine XS.lloadN X3.here hx rfl (hb hby at_18) rfl ?_
    exact k)
  obtain ⟨_, _, ⟨T6, L6, k6, n6⟩, -, X6, ⟨Lc6, hQ6, l6, y6, z6⟩, st6⟩ := Jvm.LawKit.callS X3 hx (y := (⟨"com/example/equipoise/equipoise/SplitMixMixPinLaw", "unmix", "(J)J"⟩ : MethodName)) hown (mvT hZ (hw _ (List.mem_of_getElem? (i := 6) rfl))) (mvT hZ (hw _ (List.mem_of_getElem? (i := 7) rfl))) (mvT hZ (hw _ (List.mem_of_getElem? (i := 8) rfl))) (mvT hZ (hw _ (List.mem_of_getElem? (i := 9) rfl))) (by decide) (backOf (W := 0) (rm2 l Z a0 hw [] q0 h0 n0 Z0 ) hZ (hw _ (List.mem_of_getElem? (i := 9) rfl)) (hw _ (List.mem_of_getElem? (i := 8) rfl)) (by decide) (by decide)) (g := (mkF m 19 #[.val (.long q0), .second, .val (.int (1 : Int32)), .unset] [(.long q0)])) rfl (by rw [hml]; rfl) (argsL := [(.long q0)]) (rest := []) (lenOf pd0_0 rfl) rfl (by show 2 * 0 + _ ≤ _; exact Nat.le_of_eq rfl) (hb hby at_19) (fun _ _ => ⟨rfl, e3, (by decide : 0 + 0 ≤ _), (by decide : 0 + 0 ≤ _)⟩)
  dsimp only [Pt.U, Pt.locs, Pt.cells, Pt.slots] at X6 l6 y6 z6 st6 hQ6
  subst l6 y6 z6
  obtain ⟨rfl, N6q, e6⟩ := hQ6
  have N6 := Fr.app N3 N6q
  have go6 := go5.step (C := T6.setTop (mkF m 22 #[.val (.long q0), .second, .val (.int (1 : Int32)), .unset] [(.long (own_unmix q0))])) (fun t k => st6 t k)
  obtain ⟨_, _, ⟨T7, L7, k7, n7⟩, -, X7, ⟨Lc7, hQ7, l7, y7, z7⟩, st7⟩ := Jvm.LawKit.callS X6 hx (y := (⟨"com/example/equipoise/equipoise/SplitMix", "mix", "(J)J"⟩ : MethodName)) hown (mvT hZ (hw _ (List.mem_of_getElem? (i := 0) rfl))) (mvT hZ (hw _ (List.mem_of_getElem? (i := 1) rfl))) (mvT hZ (hw _ (List.mem_of_getElem? (i := 2) rfl))) (mvT hZ (hw _ (List.mem_of_getElem? (i := 3) rfl))) (by decide) (backOf (W := 0) (rm1 l Z a0 hw [] (own_unmix q0) h0 n0 Z0 ) hZ (hw _ (List.mem_of_getElem? (i := 3) rfl)) (hw _ (List.mem_of_getElem? (i := 2) rfl)) (by decide) (by decide)) (g := (mkF m 22 #[.val (.long q0), .second, .val (.int (1 : Int32)), .unset] [(.long (own_unmix q0))])) rfl (by rw [hml]; rfl) (argsL := [(.long (own_unmix q0))]) (rest := []) (lenOf pd0_0 rfl) rfl (by show 2 * 0 + _ ≤ _; exact Nat.le_of_eq rfl) (hb hby at_22) (fun _ _ => ⟨rfl, e6, (by decide : 0 + 0 ≤ _), (by decide : 0 + 0 ≤ _)⟩)
  dsimp only [Pt.U, Pt.locs, Pt.cells, Pt.slots] at X7 l7 y7 z7 st7 hQ7
  subst l7 y7 z7
  obtain ⟨rfl, N7q, e7⟩ := hQ7
  have N7 := Fr.app N6 N7q
  have go7 := go6.step (C := T7.setTop (mkF m 25 #[.val (.long q0), .second, .val (.int (1 : Int32)), .unset] [(.long (own_mix (own_unmix q0)))])) (fun t k => st7 t k)
  have go11 := go7.step (C := T7.setTop (mkF m 49 #[.val (.long q0), .second, .val (.int (1 : Int32)), .val (.int (1 : Int32))] [(.int (1 : Int32))])) (fun t k => by
    show Steps p.tables e below (T7.setTop (mkF m 25 #[.val (.long q0), .second, .val (.int (1 : Int32)), .unset] [(.long (own_mix (own_unmix q0)))])) _
    refine XS.lloadN X7.here hx rfl (hb hby at_25) rfl ?_
    show Steps p.tables e below (T7.setTop (mkF m 26 #[.val (.long q0), .second, .val (.int (1 : Int32)), .unset] [(.long q0), (.long (own_mix (own_unmix q0)))])) _
    refine XS.lcmp X7.here hx rfl (hb hby at_26) rfl ?_
    show Steps p.tables e below (T7.setTop (mkF m 27 #[.val (.long q0), .second, .val (.int (1 : Int32)), .unset] [(.int (lcmpW (own_mix (own_unmix q0)) q0))])) _
    refine XS.ifNo X7.here hx rfl (hb hby at_27) rfl ((if0 _ _).trans (teq ((lw_eq _ _).mpr (own_bw _ : (own_mix (own_unmix q0)) = q0))).2) ?_
    show Steps p.tables e below (T7.setTop (mkF m 30 #[.val (.long q0), .second, .val (.int (1 : Int32)), .unset] [])) _
    refine XS.iconst X7.here hx rfl (hb hby at_30) ?_
    show Steps p.tables e below (T7.setTop (mkF m 31 #[.val (.long q0), .second, .val (.int (1 : Int32)), .unset] [(.int (1 : Int32))])) _
    refine XS.goto X7.here hx rfl (pc0 := 31) (pc' := 35) rfl (hb hby at_31) (by decide) (by decide) ?_
    show Steps p.tables e below (T7.setTop (mkF m 35 #[.val (.long q0), .second, .val (.int (1 : Int32)), .unset] [(.int (1 : Int32))])) _
    refine XS.istoreN X7.here hx rfl (hb hby at_35) rfl (l' := #[.val (.long q0), .second, .val (.int (1 : Int32)), .val (.int (1 : Int32))]) rfl ?_
    show Steps p.tables e below (T7.setTop (mkF m 36 #[.val (.long q0), .second, .val (.int (1 : Int32)), .val (.int (1 : Int32))] [])) _
    refine XS.iloadN X7.here hx rfl (hb hby at_36) rfl ?_
    show Steps p.tables e below (T7.setTop (mkF m 37 #[.val (.long q0), .second, .val (.int (1 : Int32)), .val (.int (1 : Int32))] [(.int (1 : Int32))])) _
    refine XS.ifNo X7.here hx rfl (hb hby at_37) rfl ((if0 _ _).trans (feq ((by decide) : ¬ ((1 : Int32) = (0 : Int32)))).1) ?_
    show Steps p.tables e below (T7.setTop (mkF m 40 #[.val (.long q0), .second, .val (.int (1 : Int32)), .val (.int (1 : Int32))] [])) _
    refine XS.iloadN X7.here hx rfl (hb hby at_40) rfl ?_
    show Steps p.tables e below (T7.setTop (mkF m 41 #[.val (.long q0), .second, .val (.int (1 : Int32)), .val (.int (1 : Int32))] [(.int (1 : Int32))])) _
    refine XS.ifNo X7.here hx rfl (hb hby at_41) rfl ((if0 _ _).trans (feq ((by decide) : ¬ ((1 : Int32) = (0 : Int32)))).1) ?_
    show Steps p.tables e below (T7.setTop (mkF m 44 #[.val (.long q0), .second, .val (.int (1 : Int32)), .val (.int (1 : Int32))] [])) _
    refine XS.iconst X7.here hx rfl (hb hby at_44) ?_
    show Steps p.tables e below (T7.setTop (mkF m 45 #[.val (.long q0), .second, .val (.int (1 : Int32)), .val (.int (1 : Int32))] [(.int (1 : Int32))])) _
    refine XS.goto X7.here hx rfl (pc0 := 45) (pc' := 49) rfl (hb hby at_45) (by decide) (by decide) ?_
    exact k)
  obtain ⟨fs, hr, hrun, hended, hW, hsame⟩ := X7.leave (v := some (.int (1 : Int32))) (fun h => by rw [Bd.returns] at h; cases h)
  refine ⟨_, _, go11 _ ?_, hrun, hended, _, _, rfl, ?_, ⟨_, rfl⟩, hW, hsame.mono (by decide) (by decide)⟩
  · exact retN X7 hx (t := .boolean) Bd.returns (by simp) (hb hby at_49) hr
  · show Q_rm0 Z q0 h0 n0 _ T7.heap _
    rw [e7]
    exact ⟨rfl, N7⟩
set_option maxRecDepth 65536 in
set_option maxHeartbeats 40000000 in
theorem comes_1 {Post : Tables → Env → Array Value → State → Outcome → State → Prop} (hpost : ∀ tb e args s v u, (limb_1_1.after args s (.returned v) u = true ∧ limb_1_2.after args s (.returned v) u = true ∧ True) → FrameEnd s (.returned v) u (Jvm.fieldLocs frame_1_writes args s ++ Jvm.arrayLocs frame_1_arrays args s ++ Jvm.staticLocs frame_1_statics s) 0 0 → Post tb e args s (.returned v) u) :
    ArmFor flags0 classFile x code maxLocals ret World_1 tables_1 room_1 Calls_1 rest_1 Pre_1 Post := by
  intro l hfl _ _ p e ha hc hk s m args below hf hA hF happ hP
  obtain ⟨hcalls, hrest, hpre⟩ := hP
  obtain ⟨-, -, -, hnamed, -, -, -, hat⟩ := (Spec.applies_iff hf).mp happ
  obtain ⟨hg, hn⟩ := and_e (Cond.before_iff.mp (show (Jvm.Cond.and given_1 narrow_1).before args s = true from hpre))
  obtain ⟨gg0, gr0⟩ := and_e hg
  obtain ⟨w0, rfl⟩ : ∃ w0 : Value, args = #[w0] := by
    have hs : args.size = 1 := by simpa [Cond.value, given_1] using gg0
    obtain ⟨L⟩ := args
    match L, hs with
    | [w0], _ => exact ⟨w0, rfl⟩
  have hw := fun d (hd : d ∈ tables_1) => atoms_spec (ws := Jvm.Cond.code x code maxLocals ret :: tables_1) hat d (List.mem_cons_of_mem _ hd)
  have hfit : Fit s := fun {y c} hc i hi => by
    obtain ⟨ha, rfl⟩ := Array.getElem?_eq_some_iff.mp hc
    have q := List.all_eq_true.mp ((Array.all_eq_true_iff_forall_mem.mp hF) _ (Array.getElem_mem ha)) i (List.mem_range.mpr hi)
    simpa [Array.getElem?_eq_getElem hi] using q
  obtain ⟨i0, ei0⟩ := isL_v gr0
  obtain rfl : w0 = (.long i0) := Option.some.inj ei0
  obtain ⟨n, o, h1, h2, h3, _, L, rfl, ⟨rfl, N⟩, hq⟩ := rm0 l s _ hw tables_1 i0  s.heap s.heap.size (Nat.le_refl _)  p e ha hc hk s m _ below hf ((Spec.applies_iff_loose hf).mp happ).1 ⟨rfl, State.Warmed39.refl s, rfl⟩ trivial
  refine ⟨n, _, h1, h2, h3, hpost _ _ _ _ _ _ ⟨Cond.after_iff.mpr rfl, Cond.after_iff.mpr (eq_i res_at (Term.int_eval (1)) rfl), trivial⟩ ⟨hq.1, hq.2.1, (hq.2.2.sift fun y hy => Or.inr (N y hy)).mono (by decide) (by decide)⟩⟩
theorem main_1_1 : Claimed_1_1 := comes_1 fun _ _ _ _ _ _ h hF => ⟨h.1, hF⟩
theorem main_1_2 : Claimed_1_2 := comes_1 fun _ _ _ _ _ _ h hF => ⟨h.2.1, hF⟩
end Jvm.Pilot.@@N@@
namespace Jvm.Pilot.@@N@@
open Jvm Jvm.ClassFile Sem Op Lib Jvm.Free Jvm.Stand Jvm.Pilot.@@N@@.Jvm.D
/-! MADE BY PROGRAM (witnessworld.py) out of the Statement's table words and the real class files: 7 classes; the members and pool entries that the words name. The judged class is class 1, her method 4. -/
namespace start1
open Jvm.ClassFile
def u (s : String) : CpInfo := .utf8 (stringToUtf16 s)
/-- a pool by its gaps: so many unusable entries, then the entry; so many at the end -/
def gap : Nat → List CpInfo → List CpInfo
  | 0, r => r
  | n + 1, r => .unusable :: gap n r
def poolList (es : List (Nat × CpInfo)) (last : Nat) : List CpInfo := es.foldr (fun e r => gap e.1 (e.2 :: r)) (gap last [])
def pool (es : List (Nat × CpInfo)) (last : Nat) : Array CpInfo := ⟨poolList es last⟩
def fileOf (pool : Array CpInfo) (this : Nat) (attrs : Array Attribute := #[]) (ms : Array MethodInfo := #[]) (fl : Nat := 33) (sup : Nat := 0) (ifs : Array Nat := #[]) (fds : Array FieldInfo := #[]) : ClassFile where
  minorVersion := 0
  majorVersion := 65
  constantPool := pool
  accessFlags := fl
  thisClass := this
  superClass := sup
  interfaces := ifs
  fields := fds
  methods := ms
  attributes := attrs
def plain (name : String) (sup : Option ClassId) : Class where
  name := name
  kind := .ordinary
  loader := none
  accessFlags := 33
  super := sup
  interfaces := #[]
  cf := none
  fields := #[]
  methods := #[]
  instanceTypes := #[]
  staticTypes := #[]
  resolved := #[]
  callSites := []
  init := .initialized
  statics := none
  mirror := none

def pool0 : Array CpInfo := pool [(5, u "<init>"), (0, u "()V"), (1, .class_ 10), (1, u "java/lang/Object")] 113

def k0m0 : Method := { name := "<init>", desc := "()V", sig := { parameters := [], returnType := none }, accessFlags := 1, code := none }
/-- java/lang/Object -/
def k0 : Class := { plain "java/lang/Object" none with
  accessFlags := 33
  interfaces := #[]
  cf := some (fileOf pool0 8 #[] #[{ accessFlags := 1, nameIndex := 5, descriptorIndex := 6, attributes := #[] }] 33 0 #[] #[])
  fields := #[]
  methods := #[k0m0]
  instanceTypes := #[]
  staticTypes := #[]
  resolved := Array.replicate 124 none
  statics := none }

def pool1 : Array CpInfo := pool [(2, .class_ 4), (1, u "java/lang/Object"), (0, u "<init>"), (0, u "()V"), (0, .long 2), (1, .methodref 10 11), (0, .class_ 12), (0, .nameAndType 13 14), (0, u "com/example/equipoise/equipoise/SplitMixMixPinLaw"), (0, u "unshift"), (0, u "(JI)J"), (0, .long 10723151780598845931), (1, .methodref 10 18), (0, .nameAndType 19 20), (0, u "inverse"), (0, u "(J)J"), (0, .long 13787848793156543929), (1, .methodref 24 25), (0, .class_ 26), (0, .nameAndType 27 20), (0, u "com/example/equipoise/equipoise/SplitMix"), (0, u "mix"), (0, .methodref 10 29), (0, .nameAndType 30 20), (0, u "unmix"), (2, u "law"), (0, u "(J)Z")] 3

def k1m0 : Method := { name := "<init>", desc := "()V", sig := { parameters := [], returnType := none }, accessFlags := 2, code := none }
def k1c1 : Code := { maxStack := 8, maxLocals := 4, code := method_2_code, exceptionTable := #[], attributes := #[] }
def k1m1 : Method := { name := "inverse", desc := "(J)J", sig := { parameters := [.long], returnType := some .long }, accessFlags := 10, code := some k1c1 }
def k1c2 : Code := { maxStack := 6, maxLocals := 3, code := method_3_code, exceptionTable := #[], attributes := #[] }
def k1m2 : Method := { name := "unshift", desc := "(JI)J", sig := { parameters := [.long, .int], returnType := some .long }, accessFlags := 10, code := some k1c2 }
def k1c3 : Code := { maxStack := 4, maxLocals := 4, code := method_4_code, exceptionTable := #[], attributes := #[] }
def k1m3 : Method := { name := "unmix", desc := "(J)J", sig := { parameters := [.long], returnType := some .long }, accessFlags := 10, code := some k1c3 }
def k1c4 : Code := { maxStack := 4, maxLocals := 4, code := code, exceptionTable := #[], attributes := #[] }
def k1m4 : Method := { name := "law", desc := "(J)Z", sig := { parameters := [.long], returnType := some .boolean }, accessFlags := 9, code := some k1c4 }
/-- com/example/equipoise/equipoise/SplitMixMixPinLaw -/
def k1 : Class := { plain "com/example/equipoise/equipoise/SplitMixMixPinLaw" (some 0) with
  accessFlags := 49
  interfaces := #[]
  cf := some (fileOf pool1 10 #[] #[{ accessFlags := 2, nameIndex := 5, descriptorIndex := 6, attributes := #[] }, { accessFlags := 10, nameIndex := 19, descriptorIndex := 20, attributes := #[] }, { accessFlags := 10, nameIndex := 13, descriptorIndex := 14, attributes := #[] }, { accessFlags := 10, nameIndex := 30, descriptorIndex := 20, attributes := #[] }, { accessFlags := 9, nameIndex := 33, descriptorIndex := 34, attributes := #[] }] 49 2 #[] #[])
  fields := #[]
  methods := #[k1m0, k1m1, k1m2, k1m3, k1m4]
  instanceTypes := #[]
  staticTypes := #[]
  resolved := Array.replicate 38 none
  statics := none }

def pool2 : Array CpInfo := pool [(2, .class_ 4), (1, u "java/lang/Object"), (3, .class_ 10), (1, u "com/example/equipoise/equipoise/SplitMix"), (1, u "(J)J"), (6, u "counter"), (0, u "J"), (4, u "mix"), (10, .long 13787848793156543929), (1, .long 10723151780598845931), (1, u "GOLDEN_GAMMA"), (1, u "KEY_GAMMA")] 8

def k2c0 : Code := { maxStack := 5, maxLocals := 2, code := prog_72_method_7_code, exceptionTable := #[], attributes := #[] }
def k2m0 : Method := { name := "mix", desc := "(J)J", sig := { parameters := [.long], returnType := some .long }, accessFlags := 8, code := some k2c0 }
/-- com/example/equipoise/equipoise/SplitMix -/
def k2 : Class := { plain "com/example/equipoise/equipoise/SplitMix" (some 0) with
  accessFlags := 48
  interfaces := #[]
  cf := some (fileOf pool2 8 #[] #[{ accessFlags := 8, nameIndex := 25, descriptorIndex := 12, attributes := #[] }] 48 2 #[] #[{ accessFlags := 26, nameIndex := 40, descriptorIndex := 20, attributes := #[] }, { accessFlags := 26, nameIndex := 42, descriptorIndex := 20, attributes := #[] }, { accessFlags := 2, nameIndex := 19, descriptorIndex := 20, attributes := #[] }])
  fields := #[{ name := "GOLDEN_GAMMA", type := .long, accessFlags := 26, slot := 0, constantValue := 0 }, { name := "KEY_GAMMA", type := .long, accessFlags := 26, slot := 1, constantValue := 0 }, { name := "counter", type := .long, accessFlags := 2, slot := 0, constantValue := 0 }]
  methods := #[k2m0]
  instanceTypes := #[.long]
  staticTypes := #[.long, .long]
  resolved := Array.replicate 51 none
  statics := none }

def pool3 : Array CpInfo := pool [(1, u "java/lang/Cloneable"), (0, .class_ 1), (0, u "java/lang/Object"), (0, .class_ 3)] 3

/-- java/lang/Cloneable -/
def k3 : Class := { plain "java/lang/Cloneable" (some 0) with
  accessFlags := 1537
  interfaces := #[]
  cf := some (fileOf pool3 2 #[] #[] 1537 4 #[] #[])
  fields := #[]
  methods := #[]
  instanceTypes := #[]
  staticTypes := #[]
  resolved := Array.replicate 8 none
  statics := none }

def pool4 : Array CpInfo := pool [(1, u "java/io/Serializable"), (0, .class_ 1), (0, u "java/lang/Object"), (0, .class_ 3)] 3

/-- java/io/Serializable -/
def k4 : Class := { plain "java/io/Serializable" (some 0) with
  accessFlags := 1537
  interfaces := #[]
  cf := some (fileOf pool4 2 #[] #[] 1537 4 #[] #[])
  fields := #[]
  methods := #[]
  instanceTypes := #[]
  staticTypes := #[]
  resolved := Array.replicate 8 none
  statics := none }

/-- the primitive byte -/
def k5 : Class := { plain "byte" none with kind := .primitive 'B', accessFlags := 0x411 }
/-- [B -/
def k6 : Class := { plain "[B" (some 0) with kind := .array 5 .byte, interfaces := #[3, 4], accessFlags := 1041 }

def heap : Heap := #[]
def classes : Array Class := #[k0, k1, k2, k3, k4, k5, k6]
def interned : List (Array UInt16 × Addr) := []
def slotsUsed : Nat := 0
def theMethod : MethodId := ⟨1, 4⟩
def args0 : Array Value := #[.long 5]
def aboutOver (below : List Frame) : State where
  vm := { classes := classes, interned := interned.toArray }
  heap := heap
  slotsUsed := slotsUsed
  threads := #[{ frames := .invoking theMethod args0 :: below }]
def below0 : List Frame := [.native { method := ⟨0, 0⟩, args := #[] }]
def about1 : State := aboutOver below0
def p0 : Program := .bare "" "" ""
def e0 : Env := launch0.env 0 0 0
theorem w_frames : about1.frames = Frame.invoking theMethod args0 :: below0 := rfl
set_option maxRecDepth 65536 in
theorem w_args : argsFit about1.vm theMethod args0 = true := by decide +kernel
set_option maxRecDepth 65536 in
theorem w_heap : heapFits about1 = true := by decide +kernel
set_option maxRecDepth 65536 in
theorem w_runnable : about1.curStatus? = some .runnable := by decide +kernel
set_option maxRecDepth 65536 in
theorem w_alone : about1.alone = true := by decide +kernel
set_option maxRecDepth 65536 in
theorem w_named : about1.methodNamed? x = some theMethod := by decide +kernel
set_option maxRecDepth 65536 in
theorem w_hears : about1.hears theMethod below0 = true := by decide +kernel
set_option maxRecDepth 65536 in
theorem w_ripe : about1.ripe theMethod args0 below0 = true := by decide +kernel
theorem w_running : about1.status = .running := rfl
set_option maxRecDepth 65536 in
theorem w_room : about1.hasRoom e0.platform room_1 = true :=
  launch0.hasRoom_least _ room_1 (by decide +kernel) (by decide +kernel) (by decide +kernel) (by decide +kernel) (by decide +kernel) (by decide +kernel)
theorem allAtoms_all (ts : List Jvm.Cond) (a : Array Jvm.Value) (st : Jvm.State) : (allAtoms ts).before a st = ts.all (fun c => c.before a st) := by
  induction ts with
  | nil => rfl
  | cons c t ih =>
    show (Jvm.Cond.and c (allAtoms t)).before a st = _
    rw [Jvm.Cond.before_and, ih, List.all_cons]
def words1 : List Jvm.Cond := Jvm.Cond.code x code maxLocals ret :: tables_1
/-- a 'code' word, met by the world's own term for the bytes: nothing is compared byte by byte -/
theorem code_word {y : MethodName} {bytes : ByteArray} {mx : Nat} {rt : Option FieldType} {a : Array Value} {s : State} {m : MethodId} {meth : Method} {c : Code} (h1 : s.methodNamed? y = some m) (h2 : s.vm.method? m = some meth) (h3 : meth.code = some c) (h4 : c.code = bytes)
    (h5 : (c.maxLocals == mx && c.exceptionTable.isEmpty && decide (c.maxStack ≤ mostOperands) && decide (meth.sig.returnType = rt) && !meth.locks && decide (parseMethodDescriptor y.desc = some meth.sig)) = true) : (Jvm.Cond.code y bytes mx rt).before a s = true := by
  simp only [Bool.and_eq_true, beq_iff_eq, Bool.not_eq_true', decide_eq_true_eq] at h5
  obtain ⟨⟨⟨⟨⟨g1, g2⟩, g3⟩, g4⟩, g5⟩, g6⟩ := h5
  simp [Cond.before, Cond.holds, Cond.value, h1, h2, h3, h4, g1, g2, g3, g4, g5, g6]
def isCode : Jvm.Cond → Bool
  | .code _ _ _ _ => true
  | _ => false
theorem all_split {L : List Jvm.Cond} {P : Jvm.Cond → Bool} (h1 : L.all (fun c => isCode c || P c) = true) (h2 : ∀ c ∈ L.filter isCode, P c = true) : L.all P = true := by
  refine List.all_eq_true.mpr fun c hc => ?_
  have h := List.all_eq_true.mp h1 c hc
  rcases Bool.eq_false_or_eq_true (isCode c) with hi | hi
  · exact h2 c (List.mem_filter.mpr ⟨hc, hi⟩)
  · simpa [hi] using h
set_option maxRecDepth 65536 in
theorem w_c0 : (Jvm.Cond.code x code maxLocals ret).before args0 about1 = true := code_word (m := ⟨1, 4⟩) (meth := k1m4) (c := k1c4) (by decide +kernel) rfl rfl rfl (by decide +kernel)
set_option maxRecDepth 65536 in
theorem w_c1 : (Jvm.Cond.code ({ cls := "com/example/equipoise/equipoise/SplitMix", name := "mix", desc := "(J)J" } : Jvm.MethodName) prog_72_method_7_code (2 : Nat) (Option.some Jvm.ClassFile.FieldType.long)).before args0 about1 = true := code_word (m := ⟨2, 0⟩) (meth := k2m0) (c := k2c0) (by decide +kernel) rfl rfl rfl (by decide +kernel)
set_option maxRecDepth 65536 in
theorem w_c2 : (Jvm.Cond.code ({ cls := "com/example/equipoise/equipoise/SplitMixMixPinLaw", name := "unmix", desc := "(J)J" } : Jvm.MethodName) method_4_code (4 : Nat) (Option.some Jvm.ClassFile.FieldType.long)).before args0 about1 = true := code_word (m := ⟨1, 3⟩) (meth := k1m3) (c := k1c3) (by decide +kernel) rfl rfl rfl (by decide +kernel)
set_option maxRecDepth 65536 in
theorem w_c3 : (Jvm.Cond.code ({ cls := "com/example/equipoise/equipoise/SplitMixMixPinLaw", name := "unshift", desc := "(JI)J" } : Jvm.MethodName) method_3_code (3 : Nat) (Option.some Jvm.ClassFile.FieldType.long)).before args0 about1 = true := code_word (m := ⟨1, 2⟩) (meth := k1m2) (c := k1c2) (by decide +kernel) rfl rfl rfl (by decide +kernel)
set_option maxRecDepth 65536 in
theorem w_c4 : (Jvm.Cond.code ({ cls := "com/example/equipoise/equipoise/SplitMixMixPinLaw", name := "inverse", desc := "(J)J" } : Jvm.MethodName) method_2_code (4 : Nat) (Option.some Jvm.ClassFile.FieldType.long)).before args0 about1 = true := code_word (m := ⟨1, 1⟩) (meth := k1m1) (c := k1c1) (by decide +kernel) rfl rfl rfl (by decide +kernel)
def codes1 : List Jvm.Cond := [Jvm.Cond.code x code maxLocals ret, Jvm.Cond.code ({ cls := "com/example/equipoise/equipoise/SplitMix", name := "mix", desc := "(J)J" } : Jvm.MethodName) prog_72_method_7_code (2 : Nat) (Option.some Jvm.ClassFile.FieldType.long), Jvm.Cond.code ({ cls := "com/example/equipoise/equipoise/SplitMixMixPinLaw", name := "unmix", desc := "(J)J" } : Jvm.MethodName) method_4_code (4 : Nat) (Option.some Jvm.ClassFile.FieldType.long), Jvm.Cond.code ({ cls := "com/example/equipoise/equipoise/SplitMixMixPinLaw", name := "unshift", desc := "(JI)J" } : Jvm.MethodName) method_3_code (3 : Nat) (Option.some Jvm.ClassFile.FieldType.long), Jvm.Cond.code ({ cls := "com/example/equipoise/equipoise/SplitMixMixPinLaw", name := "inverse", desc := "(J)J" } : Jvm.MethodName) method_2_code (4 : Nat) (Option.some Jvm.ClassFile.FieldType.long)]
set_option maxRecDepth 65536 in
theorem codes_eq : words1.filter isCode = codes1 := rfl
theorem w_codes : ∀ c ∈ words1.filter isCode, c.before args0 about1 = true := by
  rw [codes_eq]
  intro c hc
  simp only [codes1, List.mem_cons, List.not_mem_nil, or_false] at hc
  rcases hc with rfl | rfl | rfl | rfl | rfl
  · exact w_c0
  · exact w_c1
  · exact w_c2
  · exact w_c3
  · exact w_c4
set_option maxRecDepth 65536 in
theorem w_t1 : words1.all (fun c => isCode c || c.before args0 about1) = true := by decide +kernel
theorem w_tables : (allAtoms (Jvm.Cond.code x code maxLocals ret :: tables_1)).before args0 about1 = true := by
  rw [allAtoms_all]
  show words1.all (fun c => c.before args0 about1) = true
  refine all_split ?_ w_codes
  rw [w_t1]
set_option maxRecDepth 65536 in
theorem w_case : (Jvm.Cond.and given_1 narrow_1).before args0 about1 = true := by decide +kernel
theorem w_applies : (headSpec (Jvm.Cond.code x code maxLocals ret :: tables_1) room_1).applies x e0.platform about1 = true :=
  (Spec.applies_iff w_frames).mpr ⟨w_running, w_runnable, w_alone, w_named, w_hears, w_ripe, w_room, w_tables⟩
theorem atStart : AtStart classFile x code maxLocals ret World_1 tables_1 room_1 Calls_1 rest_1 Pre_1 launch0 p0 e0 about1 theMethod args0 below0 :=
  ⟨lists_1, trivial, launch0.admits_env _ _ _, launch0.least_env, fairChoices_fair.cas, fairChoices_fair.clock, w_frames, w_args, w_heap, w_applies, trivial, trivial, w_case⟩
end start1
theorem witness_1 : WitnessClaimed_1 := ⟨start1.p0, start1.e0, start1.about1, start1.theMethod, start1.args0, start1.below0, start1.atStart⟩
end Jvm.Pilot.@@N@@
