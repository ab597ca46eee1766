import JvmDerived
import JvmDerived.Pilot.@@N@@Statement
import JvmDerived.Pilot.@@N@@Code
set_option linter.unusedVariables false
set_option linter.unusedSimpArgs false
namespace Jvm.Pilot.@@N@@
open Jvm Jvm.ClassFile Sem Op Lib Jvm.Free Jvm.Stand Jvm.LawKit Jvm.RoadKit Bundle Jvm.Pilot.@@N@@.Jvm.D
def own_usr (x y : Int32) : Int32 := (x.toUInt32 >>> (y &&& 31).toUInt32).toInt32
def own_usrL (x : Int64) (y : Int32) : Int64 := (x.toUInt64 >>> (y &&& 0x3f).toInt64.toUInt64).toInt64
/-- where the run came from, where it stands -/
def Go (p : Program) (e : Env) (below : List Frame) (A B : State) : Prop := ∀ t, Steps p.tables e below B t → Steps p.tables e below A t
theorem Go.step {p : Program} {e : Env} {below : List Frame} {A B C : State} (g : Go p e below A B) (h : ∀ t, Steps p.tables e below C t → Steps p.tables e below B t) : Go p e below A C := fun t k => g t (h t k)
theorem Go.tr {p : Program} {e : Env} {below : List Frame} {A B C : State} (g : Go p e below A B) (h : Steps p.tables e below B C) : Go p e below A C := fun t k => g t (h.trans k)
section Rets
variable {p : Program} {l : Launch} {e : Env} {R : Room} {s : State} {m : MethodId} {args : Array Value} {below : List Frame} {meth : Method} {c : Code} {T : State} {locs : List Loc} {cells slots : Nat}
theorem own_retI (X : Stand p l e R s m args below meth c T locs cells slots) (hx : p.tables.exec = Jvm.exec) {pc : Nat} {Ls : Array Slot} {z : Int32} {rest : List Value} (hret : meth.sig.returnType = some .int) (hd : decode c.code pc = .ok (.ireturn, 1)) {fs : List Frame}
    (hl : ∀ (f : JFrame) (acts : List Action), f.method = m → f.locked = none → f.entered = [] → (doReturn e (T.setTop f) acts (some (.int z))).1 = T.setFrames fs) : Steps p.tables e below (T.setTop (mkF m pc Ls (.int z :: rest))) (T.setFrames fs) :=
  retOut X hx (t := .int) hret rfl (Or.inl ⟨rfl, Or.inl rfl, z, rfl⟩) hd hl
theorem own_retL (X : Stand p l e R s m args below meth c T locs cells slots) (hx : p.tables.exec = Jvm.exec) {pc : Nat} {Ls : Array Slot} {z : Int64} {rest : List Value} (hret : meth.sig.returnType = some .long) (hd : decode c.code pc = .ok (.lreturn, 1)) {fs : List Frame}
    (hl : ∀ (f : JFrame) (acts : List Action), f.method = m → f.locked = none → f.entered = [] → (doReturn e (T.setTop f) acts (some (.long z))).1 = T.setFrames fs) : Steps p.tables e below (T.setTop (mkF m pc Ls (.long z :: rest))) (T.setFrames fs) :=
  retOut X hx (t := .long) hret rfl (Or.inr (Or.inl ⟨rfl, rfl, z, rfl⟩)) hd hl
theorem own_retA (X : Stand p l e R s m args below meth c T locs cells slots) (hx : p.tables.exec = Jvm.exec) {t : FieldType} {pc : Nat} {Ls : Array Slot} {z : Addr} {rest : List Value} (hret : meth.sig.returnType = some t) (ht : t.isReference = true) (hn : narrow t (.ref z) = .ref z) (hd : decode c.code pc = .ok (.areturn, 1)) {fs : List Frame}
    (hl : ∀ (f : JFrame) (acts : List Action), f.method = m → f.locked = none → f.entered = [] → (doReturn e (T.setTop f) acts (some (.ref z))).1 = T.setFrames fs) : Steps p.tables e below (T.setTop (mkF m pc Ls (.ref z :: rest))) (T.setFrames fs) :=
  retOut X hx hret hn (Or.inr (Or.inr (Or.inr (Or.inr ⟨rfl, ht, rfl⟩)))) hd hl
end Rets
def own_xs (z : Int32) (k : Int32) : Int32 := z ^^^ own_usr z k
def own_xs2 (z : Int32) (k k2 : Int32) : Int32 := (z ^^^ own_usr z k) ^^^ own_usr z k2
def own_nw (c i : Int32) : Int32 := i * ((2 : Int32) - c * i)
def own_inv (c : Int32) : Int32 := own_nw c (own_nw c (own_nw c (own_nw c c)))
def own_ava (x : Int32) : Int32 := own_xs (own_xs (own_xs x (16 : Int32) * (-2048144789 : Int32)) (13 : Int32) * (-1028477387 : Int32)) (16 : Int32)
def own_unm (x : Int32) : Int32 := own_xs (own_xs2 (own_xs x (16 : Int32) * own_inv (-1028477387 : Int32)) (13 : Int32) (26 : Int32) * own_inv (-2048144789 : Int32)) (16 : Int32)
theorem own_sh0 {w : Nat} (x : BitVec w) (n : Nat) (h : w ≤ n) : x >>> n = 0#w := by
  apply BitVec.eq_of_toNat_eq
  rw [BitVec.toNat_ushiftRight, BitVec.toNat_zero, Nat.shiftRight_eq_div_pow]
  exact Nat.div_eq_of_lt (Nat.lt_of_lt_of_le x.isLt (Nat.pow_le_pow_right (by decide) h))
theorem own_bv {w : Nat} (x : BitVec w) (s : Nat) (h : w ≤ s + s + s) : ((x ^^^ x >>> s) ^^^ (x ^^^ x >>> s) >>> s) ^^^ (x ^^^ x >>> s) >>> (s + s) = x := by
  rw [BitVec.ushiftRight_xor_distrib, BitVec.ushiftRight_xor_distrib, ← BitVec.shiftRight_add, ← BitVec.shiftRight_add, own_sh0 x (s + (s + s)) (by omega), BitVec.xor_zero]
  generalize x >>> s = a; generalize x >>> (s + s) = b
  rw [BitVec.xor_assoc x a, ← BitVec.xor_assoc a a b, BitVec.xor_self, BitVec.zero_xor, BitVec.xor_assoc x b b, BitVec.xor_self, BitVec.xor_zero]
theorem own_bv' {w : Nat} (x : BitVec w) (s : Nat) (h : w ≤ s + s + s) : ((x ^^^ x >>> s) ^^^ x >>> (s + s)) ^^^ ((x ^^^ x >>> s) ^^^ x >>> (s + s)) >>> s = x := by
  rw [BitVec.ushiftRight_xor_distrib, BitVec.ushiftRight_xor_distrib, ← BitVec.shiftRight_add, ← BitVec.shiftRight_add, own_sh0 x (s + s + s) (by omega), BitVec.xor_zero]
  generalize x >>> s = a; generalize x >>> (s + s) = b
  rw [BitVec.xor_assoc (x ^^^ a) b, ← BitVec.xor_assoc b a b, BitVec.xor_comm b a, BitVec.xor_assoc a b b, BitVec.xor_self, BitVec.xor_zero, BitVec.xor_assoc x a a, BitVec.xor_self, BitVec.xor_zero]
theorem own_bv1 {w : Nat} (x : BitVec w) (s : Nat) (h : w ≤ s + s) : (x ^^^ x >>> s) ^^^ (x ^^^ x >>> s) >>> s = x := by
  rw [BitVec.ushiftRight_xor_distrib, ← BitVec.shiftRight_add, own_sh0 x (s + s) (by omega), BitVec.xor_zero, BitVec.xor_assoc, BitVec.xor_self, BitVec.xor_zero]
theorem own_bv_eq (z : Int32) (k : Int32) (n : Nat) (hk : ((k &&& 31).toUInt32.toBitVec % 32) = BitVec.ofNat 32 n) (hn : n < 32) : (own_usr z k).toBitVec = z.toBitVec >>> n := by
  show z.toBitVec >>> ((k &&& 31).toUInt32.toBitVec % 32) = _
  rw [hk, BitVec.ushiftRight_eq', BitVec.toNat_ofNat, Nat.mod_eq_of_lt (by omega)]
theorem own_xs_xs (z : Int32) (k : Int32) (n : Nat) (hk : ((k &&& 31).toUInt32.toBitVec % 32) = BitVec.ofNat 32 n) (hn : n < 32) (h3 : 32 ≤ n + n) : own_xs (own_xs z k) k = z := by
  apply Int32.toBitVec_inj.mp
  show (own_xs z k).toBitVec ^^^ (own_usr (own_xs z k) k).toBitVec = _
  rw [own_bv_eq _ k n hk hn]
  show (z.toBitVec ^^^ (own_usr z k).toBitVec) ^^^ (z.toBitVec ^^^ (own_usr z k).toBitVec) >>> n = _
  rw [own_bv_eq _ k n hk hn]
  exact own_bv1 _ n h3
theorem own_xs_xs2 (z : Int32) (k k2 : Int32) (n : Nat) (hk : ((k &&& 31).toUInt32.toBitVec % 32) = BitVec.ofNat 32 n) (hk2 : ((k2 &&& 31).toUInt32.toBitVec % 32) = BitVec.ofNat 32 (n + n)) (hn : n + n < 32) (h3 : 32 ≤ n + n + n) : own_xs2 (own_xs z k) k k2 = z := by
  apply Int32.toBitVec_inj.mp
  show (own_xs z k).toBitVec ^^^ (own_usr (own_xs z k) k).toBitVec ^^^ (own_usr (own_xs z k) k2).toBitVec = _
  rw [own_bv_eq _ k n hk (by omega), own_bv_eq _ k2 (n + n) hk2 hn]
  show (z.toBitVec ^^^ (own_usr z k).toBitVec) ^^^ (z.toBitVec ^^^ (own_usr z k).toBitVec) >>> n ^^^ (z.toBitVec ^^^ (own_usr z k).toBitVec) >>> (n + n) = _
  rw [own_bv_eq _ k n hk (by omega)]
  exact own_bv _ n h3
theorem own_xs2_xs (z : Int32) (k k2 : Int32) (n : Nat) (hk : ((k &&& 31).toUInt32.toBitVec % 32) = BitVec.ofNat 32 n) (hk2 : ((k2 &&& 31).toUInt32.toBitVec % 32) = BitVec.ofNat 32 (n + n)) (hn : n + n < 32) (h3 : 32 ≤ n + n + n) : own_xs (own_xs2 z k k2) k = z := by
  apply Int32.toBitVec_inj.mp
  show (own_xs2 z k k2).toBitVec ^^^ (own_usr (own_xs2 z k k2) k).toBitVec = _
  rw [own_bv_eq _ k n hk (by omega)]
  show (z.toBitVec ^^^ (own_usr z k).toBitVec ^^^ (own_usr z k2).toBitVec) ^^^ (z.toBitVec ^^^ (own_usr z k).toBitVec ^^^ (own_usr z k2).toBitVec) >>> n = _
  rw [own_bv_eq _ k n hk (by omega), own_bv_eq _ k2 (n + n) hk2 hn]
  exact own_bv' _ n h3
theorem own_mul (z a b : Int32) (h : a * b = 1) : z * a * b = z := by rw [Int32.mul_assoc, h, Int32.mul_one]
theorem own_fw (x : Int32) : own_unm (own_ava x) = x := by
  unfold own_unm own_ava
  rw [own_xs_xs _ 16 16 (by decide +kernel) (by decide) (by decide), own_mul _ _ _ (by decide +kernel),
    own_xs_xs2 _ 13 26 13 (by decide +kernel) (by decide +kernel) (by decide) (by decide), own_mul _ _ _ (by decide +kernel),
    own_xs_xs _ 16 16 (by decide +kernel) (by decide) (by decide)]
theorem own_bw (x : Int32) : own_ava (own_unm x) = x := by
  unfold own_unm own_ava
  rw [own_xs_xs _ 16 16 (by decide +kernel) (by decide) (by decide), own_mul _ _ _ (by decide +kernel),
    own_xs2_xs _ 13 26 13 (by decide +kernel) (by decide +kernel) (by decide) (by decide), own_mul _ _ _ (by decide +kernel),
    own_xs_xs _ 16 16 (by decide +kernel) (by decide) (by decide)]
theorem d3_0 : decode method_2_code 0 = .ok (.iload_n 0, 1) := by decide +kernel
theorem d3_1 : decode method_2_code 1 = .ok (.istore_n 1, 1) := by decide +kernel
theorem d3_2 : decode method_2_code 2 = .ok (.iload_n 1, 1) := by decide +kernel
theorem d3_3 : decode method_2_code 3 = .ok (.iconst 2, 1) := by decide +kernel
theorem d3_4 : decode method_2_code 4 = .ok (.iload_n 0, 1) := by decide +kernel
theorem d3_5 : decode method_2_code 5 = .ok (.iload_n 1, 1) := by decide +kernel
theorem d3_6 : decode method_2_code 6 = .ok (.imul, 1) := by decide +kernel
theorem d3_7 : decode method_2_code 7 = .ok (.isub, 1) := by decide +kernel
theorem d3_8 : decode method_2_code 8 = .ok (.imul, 1) := by decide +kernel
theorem d3_9 : decode method_2_code 9 = .ok (.istore_n 1, 1) := by decide +kernel
theorem d3_10 : decode method_2_code 10 = .ok (.iload_n 1, 1) := by decide +kernel
theorem d3_11 : decode method_2_code 11 = .ok (.iconst 2, 1) := by decide +kernel
theorem d3_12 : decode method_2_code 12 = .ok (.iload_n 0, 1) := by decide +kernel
theorem d3_13 : decode method_2_code 13 = .ok (.iload_n 1, 1) := by decide +kernel
theorem d3_14 : decode method_2_code 14 = .ok (.imul, 1) := by decide +kernel
theorem d3_15 : decode method_2_code 15 = .ok (.isub, 1) := by decide +kernel
theorem d3_16 : decode method_2_code 16 = .ok (.imul, 1) := by decide +kernel
theorem d3_17 : decode method_2_code 17 = .ok (.istore_n 1, 1) := by decide +kernel
theorem d3_18 : decode method_2_code 18 = .ok (.iload_n 1, 1) := by decide +kernel
theorem d3_19 : decode method_2_code 19 = .ok (.iconst 2, 1) := by decide +kernel
theorem d3_20 : decode method_2_code 20 = .ok (.iload_n 0, 1) := by decide +kernel
theorem d3_21 : decode method_2_code 21 = .ok (.iload_n 1, 1) := by decide +kernel
theorem d3_22 : decode method_2_code 22 = .ok (.imul, 1) := by decide +kernel
theorem d3_23 : decode method_2_code 23 = .ok (.isub, 1) := by decide +kernel
theorem d3_24 : decode method_2_code 24 = .ok (.imul, 1) := by decide +kernel
theorem d3_25 : decode method_2_code 25 = .ok (.istore_n 1, 1) := by decide +kernel
theorem d3_26 : decode method_2_code 26 = .ok (.iload_n 1, 1) := by decide +kernel
theorem d3_27 : decode method_2_code 27 = .ok (.iconst 2, 1) := by decide +kernel
theorem d3_28 : decode method_2_code 28 = .ok (.iload_n 0, 1) := by decide +kernel
theorem d3_29 : decode method_2_code 29 = .ok (.iload_n 1, 1) := by decide +kernel
theorem d3_30 : decode method_2_code 30 = .ok (.imul, 1) := by decide +kernel
theorem d3_31 : decode method_2_code 31 = .ok (.isub, 1) := by decide +kernel
theorem d3_32 : decode method_2_code 32 = .ok (.imul, 1) := by decide +kernel
theorem d3_33 : decode method_2_code 33 = .ok (.istore_n 1, 1) := by decide +kernel
theorem d3_34 : decode method_2_code 34 = .ok (.iload_n 1, 1) := by decide +kernel
theorem d3_35 : decode method_2_code 35 = .ok (.ireturn, 1) := by decide +kernel
theorem pn_rm3 : plainName "com/example/gridwire/gridwire/service/PartitionerAvalanchePinLaw" = true := by first | (simp [plainName, overriddenIn]; done) | decide +kernel
theorem ef_rm3 (m : MethodId) (p0 : Int32) : entryFrame m #[(.int p0)] 2 = mkF m 0 #[.val (.int p0), .unset] [] := by first | (simp [entryFrame, mkF, argsToLocals, Value.category]; done) | rfl
def Q_rm3 (Z : State) (p0 : Int32) (h0 : Heap) (n0 : Nat) (v : Option Value) (h : Heap) (L : List Loc) : Prop := v = some (.int (own_inv p0)) ∧ Fr n0 L ∧ h = h0
set_option maxRecDepth 65536 in
set_option maxHeartbeats 40000000 in
theorem rm3 (l : Launch) (Z : State) (a0 : Array Value) (hw : ∀ d ∈ tables_1, d.before a0 Z = true) (ws : List Jvm.Cond) (p0 : Int32) (h0 : Heap) (n0 : Nat) (Z0 : n0 ≤ h0.size) :
    MetFree l (⟨"com/example/gridwire/gridwire/service/PartitionerAvalanchePinLaw", "inverse", "(I)I"⟩ : MethodName) (head1 (Jvm.Cond.code (⟨"com/example/gridwire/gridwire/service/PartitionerAvalanchePinLaw", "inverse", "(I)I"⟩ : MethodName) method_2_code 2 (some .int) :: ws) ({ frames := 0, cells := 0, slots := 0, locals := 0 } : Room)) (fun a U => a = #[(.int p0)] ∧ Z.Warmed39 U.vm ∧ U.heap = h0) (fun _ _ _ _ _ => True) (fun _ U o U' => ∃ v L, o = .returned v ∧ Q_rm3 Z p0 h0 n0 v U'.heap L ∧ FrameEnd U o U' L ({ frames := 0, cells := 0, slots := 0, locals := 0 } : Room).cells ({ frames := 0, cells := 0, slots := 0, locals := 0 } : Room).slots) := by
  refine MetFree.of_bodySF (plainFor_of_name pn_rm3) hisR ?_
  intro p e s m args below meth c s₁ Bd hml0 hP hK
  obtain ⟨rfl, hZ, hh⟩ := hP
  have hx := Bd.exec
  have hby := Bd.bytes
  have hml : c.maxLocals = 2 := hml0
  have hown : s.vm.findClass "com/example/gridwire/gridwire/service/PartitionerAvalanchePinLaw" = some m.cls := findClass_of_methodNamed Bd.named
  have hnm := (name_of_methodNamed Bd.named Bd.method).1
  have X0 : Stand p l e ({ frames := 0, cells := 0, slots := 0, locals := 0 } : Room) s m #[(.int p0)] below meth c s₁ [] 0 0 := Stand.of_body Bd
  have e0 : s₁.heap = h0 := by rw [← hh, Bd.state]; rfl
  have N0 := Fr.nil n0
  have K0 := Keep.refl h0 []
  have go0 : Go p e below (s₁.setTop (entryFrame m #[(.int p0)] 2)) (s₁.setTop (mkF m 0 #[.val (.int p0), .unset] [])) := fun t k => castTop (ef_rm3 m p0) k
  have go1 := go0.step (C := s₁.setTop (mkF m 9 #[.val (.int p0), .val (.int p0)] [(.int (p0 * ((2 : Int32) - (p0 * p0))))])) (fun t k => by
    show Steps p.tables e below (s₁.setTop (mkF m 0 #[.val (.int p0), .unset] [])) _
    refine XS.iloadN X0.here hx rfl (hb hby d3_0) rfl ?_
    show Steps p.tables e below (s₁.setTop (mkF m 1 #[.val (.int p0), .unset] [(.int p0)])) _
    refine XS.istoreN X0.here hx rfl (hb hby d3_1) rfl (l' := #[.val (.int p0), .val (.int p0)]) rfl ?_
    show Steps p.tables e below (s₁.setTop (mkF m 2 #[.val (.int p0), .val (.int p0)] [])) _
    refine XS.iloadN X0.here hx rfl (hb hby d3_2) rfl ?_
    show Steps p.tables e below (s₁.setTop (mkF m 3 #[.val (.int p0), .val (.int p0)] [(.int p0)])) _
    refine XS.iconst X0.here hx rfl (hb hby d3_3) ?_
    show Steps p.tables e below (s₁.setTop (mkF m 4 #[.val (.int p0), .val (.int p0)] [(.int (2 : Int32)), (.int p0)])) _
    refine XS.iloadN X0.here hx rfl (hb hby d3_4) rfl ?_
    show Steps p.tables e below (s₁.setTop (mkF m 5 #[.val (.int p0), .val (.int p0)] [(.int p0), (.int (2 : Int32)), (.int p0)])) _
    refine XS.iloadN X0.here hx rfl (hb hby d3_5) rfl ?_
    show Steps p.tables e below (s₁.setTop (mkF m 6 #[.val (.int p0), .val (.int p0)] [(.int p0), (.int p0), (.int (2 : Int32)), (.int p0)])) _
    refine XS.imul X0.here hx rfl (hb hby d3_6) rfl ?_
    show Steps p.tables e below (s₁.setTop (mkF m 7 #[.val (.int p0), .val (.int p0)] [(.int (p0 * p0)), (.int (2 : Int32)), (.int p0)])) _
    refine XS.isub X0.here hx rfl (hb hby d3_7) rfl ?_
    show Steps p.tables e below (s₁.setTop (mkF m 8 #[.val (.int p0), .val (.int p0)] [(.int ((2 : Int32) - (p0 * p0))), (.int p0)])) _
    refine XS.imul X0.here hx rfl (hb hby d3_8) rfl ?_
    exact k)
  obtain ⟨z1, hz1⟩ : ∃ z : Int32, z = (p0 * ((2 : Int32) - (p0 * p0))) := ⟨_, rfl⟩
  rw [← hz1] at go1
  have go2 := go1.step (C := s₁.setTop (mkF m 17 #[.val (.int p0), .val (.int z1)] [(.int (z1 * ((2 : Int32) - (p0 * z1))))])) (fun t k => by
    show Steps p.tables e below (s₁.setTop (mkF m 9 #[.val (.int p0), .val (.int p0)] [(.int z1)])) _
    refine XS.istoreN X0.here hx rfl (hb hby d3_9) rfl (l' := #[.val (.int p0), .val (.int z1)]) rfl ?_
    show Steps p.tables e below (s₁.setTop (mkF m 10 #[.val (.int p0), .val (.int z1)] [])) _
    refine XS.iloadN X0.here hx rfl (hb hby d3_10) rfl ?_
    show Steps p.tables e below (s₁.setTop (mkF m 11 #[.val (.int p0), .val (.int z1)] [(.int z1)])) _
    refine XS.iconst X0.here hx rfl (hb hby d3_11) ?_
    show Steps p.tables e below (s₁.setTop (mkF m 12 #[.val (.int p0), .val (.int z1)] [(.int (2 : Int32)), (.int z1)])) _
    refine XS.iloadN X0.here hx rfl (hb hby d3_12) rfl ?_
    show Steps p.tables e below (s₁.setTop (mkF m 13 #[.val (.int p0), .val (.int z1)] [(.int p0), (.int (2 : Int32)), (.int z1)])) _
    refine XS.iloadN X0.here hx rfl (hb hby d3_13) rfl ?_
    show Steps p.tables e below (s₁.setTop (mkF m 14 #[.val (.int p0), .val (.int z1)] [(.int z1), (.int p0), (.int (2 : Int32)), (.int z1)])) _
    refine XS.imul X0.here hx rfl (hb hby d3_14) rfl ?_
    show Steps p.tables e below (s₁.setTop (mkF m 15 #[.val (.int p0), .val (.int z1)] [(.int (p0 * z1)), (.int (2 : Int32)), (.int z1)])) _
    refine XS.isub X0.here hx rfl (hb hby d3_15) rfl ?_
    show Steps p.tables e below (s₁.setTop (mkF m 16 #[.val (.int p0), .val (.int z1)] [(.int ((2 : Int32) - (p0 * z1))), (.int z1)])) _
    refine XS.imul X0.here hx rfl (hb hby d3_16) rfl ?_
    exact k)
  obtain ⟨z2, hz2⟩ : ∃ z : Int32, z = (z1 * ((2 : Int32) - (p0 * z1))) := ⟨_, rfl⟩
  rw [← hz2] at go2
  have go3 := go2.step (C := s₁.setTop (mkF m 25 #[.val (.int p0), .val (.int z2)] [(.int (z2 * ((2 : Int32) - (p0 * z2))))])) (fun t k => by
    show Steps p.tables e below (s₁.setTop (mkF m 17 #[.val (.int p0), .val (.int z1)] [(.int z2)])) _
    refine XS.istoreN X0.here hx rfl (hb hby d3_17) rfl (l' := #[.val (.int p0), .val (.int z2)]) rfl ?_
    show Steps p.tables e below (s₁.setTop (mkF m 18 #[.val (.int p0), .val (.int z2)] [])) _
    refine XS.iloadN X0.here hx rfl (hb hby d3_18) rfl ?_
    show Steps p.tables e below (s₁.setTop (mkF m 19 #[.val (.int p0), .val (.int z2)] [(.int z2)])) _
    refine XS.iconst X0.here hx rfl (hb hby d3_19) ?_
    show Steps p.tables e below (s₁.setTop (mkF m 20 #[.val (.int p0), .val (.int z2)] [(.int (2 : Int32)), (.int z2)])) _
    refine XS.iloadN X0.here hx rfl (hb hby d3_20) rfl ?_
    show Steps p.tables e below (s₁.setTop (mkF m 21 #[.val (.int p0), .val (.int z2)] [(.int p0), (.int (2 : Int32)), (.int z2)])) _
    refine XS.iloadN X0.here hx rfl (hb hby d3_21) rfl ?_
    show Steps p.tables e below (s₁.setTop (mkF m 22 #[.val (.int p0), .val (.int z2)] [(.int z2), (.int p0), (.int (2 : Int32)), (.int z2)])) _
    refine XS.imul X0.here hx rfl (hb hby d3_22) rfl ?_
    show Steps p.tables e below (s₁.setTop (mkF m 23 #[.val (.int p0), .val (.int z2)] [(.int (p0 * z2)), (.int (2 : Int32)), (.int z2)])) _
    refine XS.isub X0.here hx rfl (hb hby d3_23) rfl ?_
    show Steps p.tables e below (s₁.setTop (mkF m 24 #[.val (.int p0), .val (.int z2)] [(.int ((2 : Int32) - (p0 * z2))), (.int z2)])) _
    refine XS.imul X0.here hx rfl (hb hby d3_24) rfl ?_
    exact k)
  obtain ⟨z3, hz3⟩ : ∃ z : Int32, z = (z2 * ((2 : Int32) - (p0 * z2))) := ⟨_, rfl⟩
  rw [← hz3] at go3
  have go4 := go3.step (C := s₁.setTop (mkF m 35 #[.val (.int p0), .val (.int (z3 * ((2 : Int32) - (p0 * z3))))] [(.int (z3 * ((2 : Int32) - (p0 * z3))))])) (fun t k => by
    show Steps p.tables e below (s₁.setTop (mkF m 25 #[.val (.int p0), .val (.int z2)] [(.int z3)])) _
    refine XS.istoreN X0.here hx rfl (hb hby d3_25) rfl (l' := #[.val (.int p0), .val (.int z3)]) rfl ?_
    show Steps p.tables e below (s₁.setTop (mkF m 26 #[.val (.int p0), .val (.int z3)] [])) _
    refine XS.iloadN X0.here hx rfl (hb hby d3_26) rfl ?_
    show Steps p.tables e below (s₁.setTop (mkF m 27 #[.val (.int p0), .val (.int z3)] [(.int z3)])) _
    refine XS.iconst X0.here hx rfl (hb hby d3_27) ?_
    show Steps p.tables e below (s₁.setTop (mkF m 28 #[.val (.int p0), .val (.int z3)] [(.int (2 : Int32)), (.int z3)])) _
    refine XS.iloadN X0.here hx rfl (hb hby d3_28) rfl ?_
    show Steps p.tables e below (s₁.setTop (mkF m 29 #[.val (.int p0), .val (.int z3)] [(.int p0), (.int (2 : Int32)), (.int z3)])) _
    refine XS.iloadN X0.here hx rfl (hb hby d3_29) rfl ?_
    show Steps p.tables e below (s₁.setTop (mkF m 30 #[.val (.int p0), .val (.int z3)] [(.int z3), (.int p0), (.int (2 : Int32)), (.int z3)])) _
    refine XS.imul X0.here hx rfl (hb hby d3_30) rfl ?_
    show Steps p.tables e below (s₁.setTop (mkF m 31 #[.val (.int p0), .val (.int z3)] [(.int (p0 * z3)), (.int (2 : Int32)), (.int z3)])) _
    refine XS.isub X0.here hx rfl (hb hby d3_31) rfl ?_
    show Steps p.tables e below (s₁.setTop (mkF m 32 #[.val (.int p0), .val (.int z3)] [(.int ((2 : Int32) - (p0 * z3))), (.int z3)])) _
    refine XS.imul X0.here hx rfl (hb hby d3_32) rfl ?_
    show Steps p.tables e below (s₁.setTop (mkF m 33 #[.val (.int p0), .val (.int z3)] [(.int (z3 * ((2 : Int32) - (p0 * z3))))])) _
    refine XS.istoreN X0.here hx rfl (hb hby d3_33) rfl (l' := #[.val (.int p0), .val (.int (z3 * ((2 : Int32) - (p0 * z3))))]) rfl ?_
    show Steps p.tables e below (s₁.setTop (mkF m 34 #[.val (.int p0), .val (.int (z3 * ((2 : Int32) - (p0 * z3))))] [])) _
    refine XS.iloadN X0.here hx rfl (hb hby d3_34) rfl ?_
    exact k)
  obtain ⟨fs, hr, hrun, hended, hW, hsame⟩ := X0.leave (v := some (.int (z3 * ((2 : Int32) - (p0 * z3))))) (fun h => by rw [Bd.returns] at h; cases h)
  refine ⟨_, _, go4 _ ?_, hrun, hended, _, _, rfl, ?_, ⟨_, rfl⟩, hW, hsame.mono (by decide) (by decide)⟩
  · exact own_retI X0 hx Bd.returns (hb hby d3_35) hr
  · show Q_rm3 Z p0 h0 n0 _ s₁.heap _
    rw [e0]
    exact ⟨by subst hz3 hz2 hz1; rfl, N0, rfl⟩
theorem d1_0 : decode prog_62_method_8_code 0 = .ok (.iload_n 0, 1) := by decide +kernel
theorem d1_1 : decode prog_62_method_8_code 1 = .ok (.istore_n 1, 1) := by decide +kernel
theorem d1_2 : decode prog_62_method_8_code 2 = .ok (.iload_n 1, 1) := by decide +kernel
theorem d1_3 : decode prog_62_method_8_code 3 = .ok (.iload_n 1, 1) := by decide +kernel
theorem d1_4 : decode prog_62_method_8_code 4 = .ok (.bipush 16, 2) := by decide +kernel
theorem d1_6 : decode prog_62_method_8_code 6 = .ok (.iushr, 1) := by decide +kernel
theorem d1_7 : decode prog_62_method_8_code 7 = .ok (.ixor, 1) := by decide +kernel
theorem d1_8 : decode prog_62_method_8_code 8 = .ok (.istore_n 1, 1) := by decide +kernel
theorem d1_9 : decode prog_62_method_8_code 9 = .ok (.iload_n 1, 1) := by decide +kernel
theorem d1_10 : decode prog_62_method_8_code 10 = .ok (.ldc 62, 2) := by decide +kernel
theorem d1_12 : decode prog_62_method_8_code 12 = .ok (.imul, 1) := by decide +kernel
theorem d1_13 : decode prog_62_method_8_code 13 = .ok (.istore_n 1, 1) := by decide +kernel
theorem d1_14 : decode prog_62_method_8_code 14 = .ok (.iload_n 1, 1) := by decide +kernel
theorem d1_15 : decode prog_62_method_8_code 15 = .ok (.iload_n 1, 1) := by decide +kernel
theorem d1_16 : decode prog_62_method_8_code 16 = .ok (.bipush 13, 2) := by decide +kernel
theorem d1_18 : decode prog_62_method_8_code 18 = .ok (.iushr, 1) := by decide +kernel
theorem d1_19 : decode prog_62_method_8_code 19 = .ok (.ixor, 1) := by decide +kernel
theorem d1_20 : decode prog_62_method_8_code 20 = .ok (.istore_n 1, 1) := by decide +kernel
theorem d1_21 : decode prog_62_method_8_code 21 = .ok (.iload_n 1, 1) := by decide +kernel
theorem d1_22 : decode prog_62_method_8_code 22 = .ok (.ldc 63, 2) := by decide +kernel
theorem d1_24 : decode prog_62_method_8_code 24 = .ok (.imul, 1) := by decide +kernel
theorem d1_25 : decode prog_62_method_8_code 25 = .ok (.istore_n 1, 1) := by decide +kernel
theorem d1_26 : decode prog_62_method_8_code 26 = .ok (.iload_n 1, 1) := by decide +kernel
theorem d1_27 : decode prog_62_method_8_code 27 = .ok (.iload_n 1, 1) := by decide +kernel
theorem d1_28 : decode prog_62_method_8_code 28 = .ok (.bipush 16, 2) := by decide +kernel
theorem d1_30 : decode prog_62_method_8_code 30 = .ok (.iushr, 1) := by decide +kernel
theorem d1_31 : decode prog_62_method_8_code 31 = .ok (.ixor, 1) := by decide +kernel
theorem d1_32 : decode prog_62_method_8_code 32 = .ok (.istore_n 1, 1) := by decide +kernel
theorem d1_33 : decode prog_62_method_8_code 33 = .ok (.iload_n 1, 1) := by decide +kernel
theorem d1_34 : decode prog_62_method_8_code 34 = .ok (.ireturn, 1) := by decide +kernel
theorem pn_rm1 : plainName "com/example/gridwire/gridwire/service/Partitioner" = true := by first | (simp [plainName, overriddenIn]; done) | decide +kernel
theorem ef_rm1 (m : MethodId) (p0 : Int32) : entryFrame m #[(.int p0)] 2 = mkF m 0 #[.val (.int p0), .unset] [] := by first | (simp [entryFrame, mkF, argsToLocals, Value.category]; done) | rfl
def Q_rm1 (Z : State) (p0 : Int32) (h0 : Heap) (n0 : Nat) (v : Option Value) (h : Heap) (L : List Loc) : Prop := v = some (.int (own_ava p0)) ∧ Fr n0 L ∧ h = h0
set_option maxRecDepth 65536 in
set_option maxHeartbeats 40000000 in
theorem rm1 (l : Launch) (Z : State) (a0 : Array Value) (hw : ∀ d ∈ tables_1, d.before a0 Z = true) (ws : List Jvm.Cond) (p0 : Int32) (h0 : Heap) (n0 : Nat) (Z0 : n0 ≤ h0.size) :
    MetFree l (⟨"com/example/gridwire/gridwire/service/Partitioner", "avalanche", "(I)I"⟩ : MethodName) (head1 (Jvm.Cond.code (⟨"com/example/gridwire/gridwire/service/Partitioner", "avalanche", "(I)I"⟩ : MethodName) prog_62_method_8_code 2 (some .int) :: ws) ({ frames := 0, cells := 0, slots := 0, locals := 0 } : Room)) (fun a U => a = #[(.int p0)] ∧ Z.Warmed39 U.vm ∧ U.heap = h0) (fun _ _ _ _ _ => True) (fun _ U o U' => ∃ v L, o = .returned v ∧ Q_rm1 Z p0 h0 n0 v U'.heap L ∧ FrameEnd U o U' L ({ frames := 0, cells := 0, slots := 0, locals := 0 } : Room).cells ({ frames := 0, cells := 0, slots := 0, locals := 0 } : Room).slots) := by
  refine MetFree.of_bodySF (plainFor_of_name pn_rm1) hisR ?_
  intro p e s m args below meth c s₁ Bd hml0 hP hK
  obtain ⟨rfl, hZ, hh⟩ := hP
  have hx := Bd.exec
  have hby := Bd.bytes
  have hml : c.maxLocals = 2 := hml0
  have hown : s.vm.findClass "com/example/gridwire/gridwire/service/Partitioner" = some m.cls := findClass_of_methodNamed Bd.named
  have hnm := (name_of_methodNamed Bd.named Bd.method).1
  have X0 : Stand p l e ({ frames := 0, cells := 0, slots := 0, locals := 0 } : Room) s m #[(.int p0)] below meth c s₁ [] 0 0 := Stand.of_body Bd
  have e0 : s₁.heap = h0 := by rw [← hh, Bd.state]; rfl
  have N0 := Fr.nil n0
  have K0 := Keep.refl h0 []
  have go0 : Go p e below (s₁.setTop (entryFrame m #[(.int p0)] 2)) (s₁.setTop (mkF m 0 #[.val (.int p0), .unset] [])) := fun t k => castTop (ef_rm1 m p0) k
  have go1 := go0.step (C := s₁.setTop (mkF m 13 #[.val (.int p0), .val (.int (p0 ^^^ (own_usr p0 (16 : Int32))))] [(.int ((p0 ^^^ (own_usr p0 (16 : Int32))) * (-2048144789 : Int32)))])) (fun t k => by
    show Steps p.tables e below (s₁.setTop (mkF m 0 #[.val (.int p0), .unset] [])) _
    refine XS.iloadN X0.here hx rfl (hb hby d1_0) rfl ?_
    show Steps p.tables e below (s₁.setTop (mkF m 1 #[.val (.int p0), .unset] [(.int p0)])) _
    refine XS.istoreN X0.here hx rfl (hb hby d1_1) rfl (l' := #[.val (.int p0), .val (.int p0)]) rfl ?_
    show Steps p.tables e below (s₁.setTop (mkF m 2 #[.val (.int p0), .val (.int p0)] [])) _
    refine XS.iloadN X0.here hx rfl (hb hby d1_2) rfl ?_
    show Steps p.tables e below (s₁.setTop (mkF m 3 #[.val (.int p0), .val (.int p0)] [(.int p0)])) _
    refine XS.iloadN X0.here hx rfl (hb hby d1_3) rfl ?_
    show Steps p.tables e below (s₁.setTop (mkF m 4 #[.val (.int p0), .val (.int p0)] [(.int p0), (.int p0)])) _
    refine XS.bipush X0.here hx rfl (hb hby d1_4) ?_
    show Steps p.tables e below (s₁.setTop (mkF m 6 #[.val (.int p0), .val (.int p0)] [(.int (16 : Int32)), (.int p0), (.int p0)])) _
    refine XS.iushr X0.here hx rfl (hb hby d1_6) rfl ?_
    show Steps p.tables e below (s₁.setTop (mkF m 7 #[.val (.int p0), .val (.int p0)] [(.int (own_usr p0 (16 : Int32))), (.int p0)])) _
    refine XS.ixor X0.here hx rfl (hb hby d1_7) rfl ?_
    show Steps p.tables e below (s₁.setTop (mkF m 8 #[.val (.int p0), .val (.int p0)] [(.int (p0 ^^^ (own_usr p0 (16 : Int32))))])) _
    refine XS.istoreN X0.here hx rfl (hb hby d1_8) rfl (l' := #[.val (.int p0), .val (.int (p0 ^^^ (own_usr p0 (16 : Int32))))]) rfl ?_
    show Steps p.tables e below (s₁.setTop (mkF m 9 #[.val (.int p0), .val (.int (p0 ^^^ (own_usr p0 (16 : Int32))))] [])) _
    refine XS.iloadN X0.here hx rfl (hb hby d1_9) rfl ?_
    show Steps p.tables e below (s₁.setTop (mkF m 10 #[.val (.int p0), .val (.int (p0 ^^^ (own_usr p0 (16 : Int32))))] [(.int (p0 ^^^ (own_usr p0 (16 : Int32))))])) _
    refine X0.ldcInt hx hown (mvT hZ (hw _ (List.mem_of_getElem? (i := 4) rfl))) (g := (mkF m 10 #[.val (.int p0), .val (.int (p0 ^^^ (own_usr p0 (16 : Int32))))] [(.int (p0 ^^^ (own_usr p0 (16 : Int32))))])) rfl (hb hby d1_10) _ ?_
    show Steps p.tables e below (s₁.setTop (mkF m 12 #[.val (.int p0), .val (.int (p0 ^^^ (own_usr p0 (16 : Int32))))] [(.int (-2048144789 : Int32)), (.int (p0 ^^^ (own_usr p0 (16 : Int32))))])) _
    refine XS.imul X0.here hx rfl (hb hby d1_12) rfl ?_
    exact k)
  obtain ⟨z1, hz1⟩ : ∃ z : Int32, z = ((p0 ^^^ (own_usr p0 (16 : Int32))) * (-2048144789 : Int32)) := ⟨_, rfl⟩
  rw [← hz1] at go1
  have go2 := go1.step (C := s₁.setTop (mkF m 25 #[.val (.int p0), .val (.int (z1 ^^^ (own_usr z1 (13 : Int32))))] [(.int ((z1 ^^^ (own_usr z1 (13 : Int32))) * (-1028477387 : Int32)))])) (fun t k => by
    show Steps p.tables e below (s₁.setTop (mkF m 13 #[.val (.int p0), .val (.int (p0 ^^^ (own_usr p0 (16 : Int32))))] [(.int z1)])) _
    refine XS.istoreN X0.here hx rfl (hb hby d1_13) rfl (l' := #[.val (.int p0), .val (.int z1)]) rfl ?_
    show Steps p.tables e below (s₁.setTop (mkF m 14 #[.val (.int p0), .val (.int z1)] [])) _
    refine XS.iloadN X0.here hx rfl (hb hby d1_14) rfl ?_
    show Steps p.tables e below (s₁.setTop (mkF m 15 #[.val (.int p0), .val (.int z1)] [(.int z1)])) _
    refine XS.iloadN X0.here hx rfl (hb hby d1_15) rfl ?_
    show Steps p.tables e below (s₁.setTop (mkF m 16 #[.val (.int p0), .val (.int z1)] [(.int z1), (.int z1)])) _
    refine XS.bipush X0.here hx rfl (hb hby d1_16) ?_
    show Steps p.tables e below (s₁.setTop (mkF m 18 #[.val (.int p0), .val (.int z1)] [(.int (13 : Int32)), (.int z1), (.int z1)])) _
    refine XS.iushr X0.here hx rfl (hb hby d1_18) rfl ?_
    show Steps p.tables e below (s₁.setTop (mkF m 19 #[.val (.int p0), .val (.int z1)] [(.int (own_usr z1 (13 : Int32))), (.int z1)])) _
    refine XS.ixor X0.here hx rfl (hb hby d1_19) rfl ?_
    show Steps p.tables e below (s₁.setTop (mkF m 20 #[.val (.int p0), .val (.int z1)] [(.int (z1 ^^^ (own_usr z1 (13 : Int32))))])) _
    refine XS.istoreN X0.here hx rfl (hb hby d1_20) rfl (l' := #[.val (.int p0), .val (.int (z1 ^^^ (own_usr z1 (13 : Int32))))]) rfl ?_
    show Steps p.tables e below (s₁.setTop (mkF m 21 #[.val (.int p0), .val (.int (z1 ^^^ (own_usr z1 (13 : Int32))))] [])) _
    refine XS.iloadN X0.here hx rfl (hb hby d1_21) rfl ?_
    show Steps p.tables e below (s₁.setTop (mkF m 22 #[.val (.int p0), .val (.int (z1 ^^^ (own_usr z1 (13 : Int32))))] [(.int (z1 ^^^ (own_usr z1 (13 : Int32))))])) _
    refine X0.ldcInt hx hown (mvT hZ (hw _ (List.mem_of_getElem? (i := 5) rfl))) (g := (mkF m 22 #[.val (.int p0), .val (.int (z1 ^^^ (own_usr z1 (13 : Int32))))] [(.int (z1 ^^^ (own_usr z1 (13 : Int32))))])) rfl (hb hby d1_22) _ ?_
    show Steps p.tables e below (s₁.setTop (mkF m 24 #[.val (.int p0), .val (.int (z1 ^^^ (own_usr z1 (13 : Int32))))] [(.int (-1028477387 : Int32)), (.int (z1 ^^^ (own_usr z1 (13 : Int32))))])) _
    refine XS.imul X0.here hx rfl (hb hby d1_24) rfl ?_
    exact k)
  obtain ⟨z2, hz2⟩ : ∃ z : Int32, z = ((z1 ^^^ (own_usr z1 (13 : Int32))) * (-1028477387 : Int32)) := ⟨_, rfl⟩
  rw [← hz2] at go2
  have go3 := go2.step (C := s₁.setTop (mkF m 34 #[.val (.int p0), .val (.int (z2 ^^^ (own_usr z2 (16 : Int32))))] [(.int (z2 ^^^ (own_usr z2 (16 : Int32))))])) (fun t k => by
    show Steps p.tables e below (s₁.setTop (mkF m 25 #[.val (.int p0), .val (.int (z1 ^^^ (own_usr z1 (13 : Int32))))] [(.int z2)])) _
    refine XS.istoreN X0.here hx rfl (hb hby d1_25) rfl (l' := #[.val (.int p0), .val (.int z2)]) rfl ?_
    show Steps p.tables e below (s₁.setTop (mkF m 26 #[.val (.int p0), .val (.int z2)] [])) _
    refine XS.iloadN X0.here hx rfl (hb hby d1_26) rfl ?_
    show Steps p.tables e below (s₁.setTop (mkF m 27 #[.val (.int p0), .val (.int z2)] [(.int z2)])) _
    refine XS.iloadN X0.here hx rfl (hb hby d1_27) rfl ?_
    show Steps p.tables e below (s₁.setTop (mkF m 28 #[.val (.int p0), .val (.int z2)] [(.int z2), (.int z2)])) _
    refine XS.bipush X0.here hx rfl (hb hby d1_28) ?_
    show Steps p.tables e below (s₁.setTop (mkF m 30 #[.val (.int p0), .val (.int z2)] [(.int (16 : Int32)), (.int z2), (.int z2)])) _
    refine XS.iushr X0.here hx rfl (hb hby d1_30) rfl ?_
    show Steps p.tables e below (s₁.setTop (mkF m 31 #[.val (.int p0), .val (.int z2)] [(.int (own_usr z2 (16 : Int32))), (.int z2)])) _
    refine XS.ixor X0.here hx rfl (hb hby d1_31) rfl ?_
    show Steps p.tables e below (s₁.setTop (mkF m 32 #[.val (.int p0), .val (.int z2)] [(.int (z2 ^^^ (own_usr z2 (16 : Int32))))])) _
    refine XS.istoreN X0.here hx rfl (hb hby d1_32) rfl (l' := #[.val (.int p0), .val (.int (z2 ^^^ (own_usr z2 (16 : Int32))))]) rfl ?_
    show Steps p.tables e below (s₁.setTop (mkF m 33 #[.val (.int p0), .val (.int (z2 ^^^ (own_usr z2 (16 : Int32))))] [])) _
    refine XS.iloadN X0.here hx rfl (hb hby d1_33) rfl ?_
    exact k)
  obtain ⟨fs, hr, hrun, hended, hW, hsame⟩ := X0.leave (v := some (.int (z2 ^^^ (own_usr z2 (16 : Int32))))) (fun h => by rw [Bd.returns] at h; cases h)
  refine ⟨_, _, go3 _ ?_, hrun, hended, _, _, rfl, ?_, ⟨_, rfl⟩, hW, hsame.mono (by decide) (by decide)⟩
  · exact own_retI X0 hx Bd.returns (hb hby d1_34) hr
  · show Q_rm1 Z p0 h0 n0 _ s₁.heap _
    rw [e0]
    exact ⟨by subst hz2 hz1; rfl, N0, rfl⟩
theorem d2_0 : decode method_3_code 0 = .ok (.iload_n 0, 1) := by decide +kernel
theorem d2_1 : decode method_3_code 1 = .ok (.iload_n 0, 1) := by decide +kernel
theorem d2_2 : decode method_3_code 2 = .ok (.bipush 16, 2) := by decide +kernel
theorem d2_4 : decode method_3_code 4 = .ok (.iushr, 1) := by decide +kernel
theorem d2_5 : decode method_3_code 5 = .ok (.ixor, 1) := by decide +kernel
theorem d2_6 : decode method_3_code 6 = .ok (.istore_n 1, 1) := by decide +kernel
theorem d2_7 : decode method_3_code 7 = .ok (.iload_n 1, 1) := by decide +kernel
theorem d2_8 : decode method_3_code 8 = .ok (.ldc 7, 2) := by decide +kernel
theorem d2_10 : decode method_3_code 10 = .ok (.invokestatic 8, 3) := by decide +kernel
theorem d2_13 : decode method_3_code 13 = .ok (.imul, 1) := by decide +kernel
theorem d2_14 : decode method_3_code 14 = .ok (.istore_n 1, 1) := by decide +kernel
theorem d2_15 : decode method_3_code 15 = .ok (.iload_n 1, 1) := by decide +kernel
theorem d2_16 : decode method_3_code 16 = .ok (.iload_n 1, 1) := by decide +kernel
theorem d2_17 : decode method_3_code 17 = .ok (.bipush 13, 2) := by decide +kernel
theorem d2_19 : decode method_3_code 19 = .ok (.iushr, 1) := by decide +kernel
theorem d2_20 : decode method_3_code 20 = .ok (.ixor, 1) := by decide +kernel
theorem d2_21 : decode method_3_code 21 = .ok (.iload_n 1, 1) := by decide +kernel
theorem d2_22 : decode method_3_code 22 = .ok (.bipush 26, 2) := by decide +kernel
theorem d2_24 : decode method_3_code 24 = .ok (.iushr, 1) := by decide +kernel
theorem d2_25 : decode method_3_code 25 = .ok (.ixor, 1) := by decide +kernel
theorem d2_26 : decode method_3_code 26 = .ok (.istore_n 1, 1) := by decide +kernel
theorem d2_27 : decode method_3_code 27 = .ok (.iload_n 1, 1) := by decide +kernel
theorem d2_28 : decode method_3_code 28 = .ok (.ldc 14, 2) := by decide +kernel
theorem d2_30 : decode method_3_code 30 = .ok (.invokestatic 8, 3) := by decide +kernel
theorem d2_33 : decode method_3_code 33 = .ok (.imul, 1) := by decide +kernel
theorem d2_34 : decode method_3_code 34 = .ok (.istore_n 1, 1) := by decide +kernel
theorem d2_35 : decode method_3_code 35 = .ok (.iload_n 1, 1) := by decide +kernel
theorem d2_36 : decode method_3_code 36 = .ok (.iload_n 1, 1) := by decide +kernel
theorem d2_37 : decode method_3_code 37 = .ok (.bipush 16, 2) := by decide +kernel
theorem d2_39 : decode method_3_code 39 = .ok (.iushr, 1) := by decide +kernel
theorem d2_40 : decode method_3_code 40 = .ok (.ixor, 1) := by decide +kernel
theorem d2_41 : decode method_3_code 41 = .ok (.istore_n 1, 1) := by decide +kernel
theorem d2_42 : decode method_3_code 42 = .ok (.iload_n 1, 1) := by decide +kernel
theorem d2_43 : decode method_3_code 43 = .ok (.ireturn, 1) := by decide +kernel
theorem pn_rm2 : plainName "com/example/gridwire/gridwire/service/PartitionerAvalanchePinLaw" = true := by first | (simp [plainName, overriddenIn]; done) | decide +kernel
theorem pd2_0 : parseMethodDescriptor "(I)I" = some ⟨[.int], some .int⟩ := by decide +kernel
theorem ef_rm2 (m : MethodId) (p0 : Int32) : entryFrame m #[(.int p0)] 2 = mkF m 0 #[.val (.int p0), .unset] [] := by first | (simp [entryFrame, mkF, argsToLocals, Value.category]; done) | rfl
def Q_rm2 (Z : State) (p0 : Int32) (h0 : Heap) (n0 : Nat) (v : Option Value) (h : Heap) (L : List Loc) : Prop := v = some (.int (own_unm p0)) ∧ Fr n0 L ∧ h = h0
set_option maxRecDepth 65536 in
set_option maxHeartbeats 40000000 in
theorem rm2 (l : Launch) (Z : State) (a0 : Array Value) (hw : ∀ d ∈ tables_1, d.before a0 Z = true) (ws : List Jvm.Cond) (p0 : Int32) (h0 : Heap) (n0 : Nat) (Z0 : n0 ≤ h0.size) :
    MetFree l (⟨"com/example/gridwire/gridwire/service/PartitionerAvalanchePinLaw", "unmix", "(I)I"⟩ : MethodName) (head1 (Jvm.Cond.code (⟨"com/example/gridwire/gridwire/service/PartitionerAvalanchePinLaw", "unmix", "(I)I"⟩ : MethodName) method_3_code 2 (some .int) :: ws) ({ frames := 1, cells := 0, slots := 0, locals := 14 } : Room)) (fun a U => a = #[(.int p0)] ∧ Z.Warmed39 U.vm ∧ U.heap = h0) (fun _ _ _ _ _ => True) (fun _ U o U' => ∃ v L, o = .returned v ∧ Q_rm2 Z p0 h0 n0 v U'.heap L ∧ FrameEnd U o U' L ({ frames := 1, cells := 0, slots := 0, locals := 14 } : Room).cells ({ frames := 1, cells := 0, slots := 0, locals := 14 } : Room).slots) := by
  refine MetFree.of_bodySF (plainFor_of_name pn_rm2) hisR ?_
  intro p e s m args below meth c s₁ Bd hml0 hP hK
  obtain ⟨rfl, hZ, hh⟩ := hP
  have hx := Bd.exec
  have hby := Bd.bytes
  have hml : c.maxLocals = 2 := hml0
  have hown : s.vm.findClass "com/example/gridwire/gridwire/service/PartitionerAvalanchePinLaw" = some m.cls := findClass_of_methodNamed Bd.named
  have hnm := (name_of_methodNamed Bd.named Bd.method).1
  have X0 : Stand p l e ({ frames := 1, cells := 0, slots := 0, locals := 14 } : Room) s m #[(.int p0)] below meth c s₁ [] 0 0 := Stand.of_body Bd
  have e0 : s₁.heap = h0 := by rw [← hh, Bd.state]; rfl
  have N0 := Fr.nil n0
  have K0 := Keep.refl h0 []
  have go0 : Go p e below (s₁.setTop (entryFrame m #[(.int p0)] 2)) (s₁.setTop (mkF m 0 #[.val (.int p0), .unset] [])) := fun t k => castTop (ef_rm2 m p0) k
  have go1 := go0.step (C := s₁.setTop (mkF m 10 #[.val (.int p0), .val (.int (p0 ^^^ (own_usr p0 (16 : Int32))))] [(.int (-1028477387 : Int32)), (.int (p0 ^^^ (own_usr p0 (16 : Int32))))])) (fun t k => by
    show Steps p.tables e below (s₁.setTop (mkF m 0 #[.val (.int p0), .unset] [])) _
    refine XS.iloadN X0.here hx rfl (hb hby d2_0) rfl ?_
    show Steps p.tables e below (s₁.setTop (mkF m 1 #[.val (.int p0), .unset] [(.int p0)])) _
    refine XS.iloadN X0.here hx rfl (hb hby d2_1) rfl ?_
    show Steps p.tables e below (s₁.setTop (mkF m 2 #[.val (.int p0), .unset] [(.int p0), (.int p0)])) _
    refine XS.bipush X0.here hx rfl (hb hby d2_2) ?_
    show Steps p.tables e below (s₁.setTop (mkF m 4 #[.val (.int p0), .unset] [(.int (16 : Int32)), (.int p0), (.int p0)])) _
    refine XS.iushr X0.here hx rfl (hb hby d2_4) rfl ?_
    show Steps p.tables e below (s₁.setTop (mkF m 5 #[.val (.int p0), .unset] [(.int (own_usr p0 (16 : Int32))), (.int p0)])) _
    refine XS.ixor X0.here hx rfl (hb hby d2_5) rfl ?_
    show Steps p.tables e below (s₁.setTop (mkF m 6 #[.val (.int p0), .unset] [(.int (p0 ^^^ (own_usr p0 (16 : Int32))))])) _
    refine XS.istoreN X0.here hx rfl (hb hby d2_6) rfl (l' := #[.val (.int p0), .val (.int (p0 ^^^ (own_usr p0 (16 : Int32))))]) rfl ?_
    show Steps p.tables e below (s₁.setTop (mkF m 7 #[.val (.int p0), .val (.int (p0 ^^^ (own_usr p0 (16 : Int32))))] [])) _
    refine XS.iloadN X0.here hx rfl (hb hby d2_7) rfl ?_
    show Steps p.tables e below (s₁.setTop (mkF m 8 #[.val (.int p0), .val (.int (p0 ^^^ (own_usr p0 (16 : Int32))))] [(.int (p0 ^^^ (own_usr p0 (16 : Int32))))])) _
    refine X0.ldcInt hx hown (mvT hZ (hw _ (List.mem_of_getElem? (i := 10) rfl))) (g := (mkF m 8 #[.val (.int p0), .val (.int (p0 ^^^ (own_usr p0 (16 : Int32))))] [(.int (p0 ^^^ (own_usr p0 (16 : Int32))))])) rfl (hb hby d2_8) _ ?_
    exact k)
  obtain ⟨_, _, ⟨T2, L2, k2, n2⟩, -, X2, ⟨Lc2, hQ2, l2, y2, z2⟩, st2⟩ := Jvm.LawKit.callS X0 hx (y := (⟨"com/example/gridwire/gridwire/service/PartitionerAvalanchePinLaw", "inverse", "(I)I"⟩ : MethodName)) hown (mvT hZ (hw _ (List.mem_of_getElem? (i := 11) rfl))) (mvT hZ (hw _ (List.mem_of_getElem? (i := 12) rfl))) (mvT hZ (hw _ (List.mem_of_getElem? (i := 8) rfl))) (mvT hZ (hw _ (List.mem_of_getElem? (i := 13) rfl))) (by decide) (backOf (W := 1) (rm3 l Z a0 hw [] (-1028477387 : Int32) h0 n0 Z0 ) hZ (hw _ (List.mem_of_getElem? (i := 13) rfl)) (hw _ (List.mem_of_getElem? (i := 8) rfl)) (by decide) (by decide)) (g := (mkF m 10 #[.val (.int p0), .val (.int (p0 ^^^ (own_usr p0 (16 : Int32))))] [(.int (-1028477387 : Int32)), (.int (p0 ^^^ (own_usr p0 (16 : Int32))))])) rfl (by rw [hml]; rfl) (argsL := [(.int (-1028477387 : Int32))]) (rest := [(.int (p0 ^^^ (own_usr p0 (16 : Int32))))]) (lenOf pd2_0 rfl) rfl (by show 2 * 0 + _ ≤ _; exact Nat.le_of_eq rfl) (hb hby d2_10) (fun _ _ => ⟨rfl, e0, (by decide : 0 + 0 ≤ _), (by decide : 0 + 0 ≤ _)⟩)
  dsimp only [Pt.U, Pt.locs, Pt.cells, Pt.slots] at X2 l2 y2 z2 st2 hQ2
  subst l2 y2 z2
  obtain ⟨rfl, N2q, e2⟩ := hQ2
  have N2 := Fr.app N0 N2q
  have go2 := go1.step (C := T2.setTop (mkF m 13 #[.val (.int p0), .val (.int (p0 ^^^ (own_usr p0 (16 : Int32))))] [(.int (own_inv (-1028477387 : Int32))), (.int (p0 ^^^ (own_usr p0 (16 : Int32))))])) (fun t k => st2 t k)
  have go3 := go2.step (C := T2.setTop (mkF m 14 #[.val (.int p0), .val (.int (p0 ^^^ (own_usr p0 (16 : Int32))))] [(.int ((p0 ^^^ (own_usr p0 (16 : Int32))) * (own_inv (-1028477387 : Int32))))])) (fun t k => by
    show Steps p.tables e below (T2.setTop (mkF m 13 #[.val (.int p0), .val (.int (p0 ^^^ (own_usr p0 (16 : Int32))))] [(.int (own_inv (-1028477387 : Int32))), (.int (p0 ^^^ (own_usr p0 (16 : Int32))))])) _
    refine XS.imul X2.here hx rfl (hb hby d2_13) rfl ?_
    exact k)
  obtain ⟨z1, hz1⟩ : ∃ z : Int32, z = ((p0 ^^^ (own_usr p0 (16 : Int32))) * (own_inv (-1028477387 : Int32))) := ⟨_, rfl⟩
  rw [← hz1] at go3
  have go4 := go3.step (C := T2.setTop (mkF m 26 #[.val (.int p0), .val (.int z1)] [(.int ((z1 ^^^ (own_usr z1 (13 : Int32))) ^^^ (own_usr z1 (26 : Int32))))])) (fun t k => by
    show Steps p.tables e below (T2.setTop (mkF m 14 #[.val (.int p0), .val (.int (p0 ^^^ (own_usr p0 (16 : Int32))))] [(.int z1)])) _
    refine XS.istoreN X2.here hx rfl (hb hby d2_14) rfl (l' := #[.val (.int p0), .val (.int z1)]) rfl ?_
    show Steps p.tables e below (T2.setTop (mkF m 15 #[.val (.int p0), .val (.int z1)] [])) _
    refine XS.iloadN X2.here hx rfl (hb hby d2_15) rfl ?_
    show Steps p.tables e below (T2.setTop (mkF m 16 #[.val (.int p0), .val (.int z1)] [(.int z1)])) _
    refine XS.iloadN X2.here hx rfl (hb hby d2_16) rfl ?_
    show Steps p.tables e below (T2.setTop (mkF m 17 #[.val (.int p0), .val (.int z1)] [(.int z1), (.int z1)])) _
    refine XS.bipush X2.here hx rfl (hb hby d2_17) ?_
    show Steps p.tables e below (T2.setTop (mkF m 19 #[.val (.int p0), .val (.int z1)] [(.int (13 : Int32)), (.int z1), (.int z1)])) _
    refine XS.iushr X2.here hx rfl (hb hby d2_19) rfl ?_
    show Steps p.tables e below (T2.setTop (mkF m 20 #[.val (.int p0), .val (.int z1)] [(.int (own_usr z1 (13 : Int32))), (.int z1)])) _
    refine XS.ixor X2.here hx rfl (hb hby d2_20) rfl ?_
    show Steps p.tables e below (T2.setTop (mkF m 21 #[.val (.int p0), .val (.int z1)] [(.int (z1 ^^^ (own_usr z1 (13 : Int32))))])) _
    refine XS.iloadN X2.here hx rfl (hb hby d2_21) rfl ?_
    show Steps p.tables e below (T2.setTop (mkF m 22 #[.val (.int p0), .val (.int z1)] [(.int z1), (.int (z1 ^^^ (own_usr z1 (13 : Int32))))])) _
    refine XS.bipush X2.here hx rfl (hb hby d2_22) ?_
    show Steps p.tables e below (T2.setTop (mkF m 24 #[.val (.int p0), .val (.int z1)] [(.int (26 : Int32)), (.int z1), (.int (z1 ^^^ (own_usr z1 (13 : Int32))))])) _
    refine XS.iushr X2.here hx rfl (hb hby d2_24) rfl ?_
    show Steps p.tables e below (T2.setTop (mkF m 25 #[.val (.int p0), .val (.int z1)] [(.int (own_usr z1 (26 : Int32))), (.int (z1 ^^^ (own_usr z1 (13 : Int32))))])) _
    refine XS.ixor X2.here hx rfl (hb hby d2_25) rfl ?_
    exact k)
  obtain ⟨z2, hz2⟩ : ∃ z : Int32, z = ((z1 ^^^ (own_usr z1 (13 : Int32))) ^^^ (own_usr z1 (26 : Int32))) := ⟨_, rfl⟩
  rw [← hz2] at go4
  have go5 := go4.step (C := T2.setTop (mkF m 30 #[.val (.int p0), .val (.int z2)] [(.int (-2048144789 : Int32)), (.int z2)])) (fun t k => by
    show Steps p.tables e below (T2.setTop (mkF m 26 #[.val (.int p0), .val (.int z1)] [(.int z2)])) _
    refine XS.istoreN X2.here hx rfl (hb hby d2_26) rfl (l' := #[.val (.int p0), .val (.int z2)]) rfl ?_
    show Steps p.tables e below (T2.setTop (mkF m 27 #[.val (.int p0), .val (.int z2)] [])) _
    refine XS.iloadN X2.here hx rfl (hb hby d2_27) rfl ?_
    show Steps p.tables e below (T2.setTop (mkF m 28 #[.val (.int p0), .val (.int z2)] [(.int z2)])) _
    refine X2.ldcInt hx hown (mvT hZ (hw _ (List.mem_of_getElem? (i := 14) rfl))) (g := (mkF m 28 #[.val (.int p0), .val (.int z2)] [(.int z2)])) rfl (hb hby d2_28) _ ?_
    exact k)
  obtain ⟨_, _, ⟨T6, L6, k6, n6⟩, -, X6, ⟨Lc6, hQ6, l6, y6, z6⟩, st6⟩ := Jvm.LawKit.callS X2 hx (y := (⟨"com/example/gridwire/gridwire/service/PartitionerAvalanchePinLaw", "inverse", "(I)I"⟩ : MethodName)) hown (mvT hZ (hw _ (List.mem_of_getElem? (i := 11) rfl))) (mvT hZ (hw _ (List.mem_of_getElem? (i := 12) rfl))) (mvT hZ (hw _ (List.mem_of_getElem? (i := 8) rfl))) (mvT hZ (hw _ (List.mem_of_getElem? (i := 13) rfl))) (by decide) (backOf (W := 1) (rm3 l Z a0 hw [] (-2048144789 : Int32) h0 n0 Z0 ) hZ (hw _ (List.mem_of_getElem? (i := 13) rfl)) (hw _ (List.mem_of_getElem? (i := 8) rfl)) (by decide) (by decide)) (g := (mkF m 30 #[.val (.int p0), .val (.int z2)] [(.int (-2048144789 : Int32)), (.int z2)])) rfl (by rw [hml]; rfl) (argsL := [(.int (-2048144789 : Int32))]) (rest := [(.int z2)]) (lenOf pd2_0 rfl) rfl (by show 2 * 0 + _ ≤ _; exact Nat.le_of_eq rfl) (hb hby d2_30) (fun _ _ => ⟨rfl, e2, (by decide : 0 + 0 ≤ _), (by decide : 0 + 0 ≤ _)⟩)
  dsimp only [Pt.U, Pt.locs, Pt.cells, Pt.slots] at X6 l6 y6 z6 st6 hQ6
  subst l6 y6 z6
  obtain ⟨rfl, N6q, e6⟩ := hQ6
  have N6 := Fr.app N2 N6q
  have go6 := go5.step (C := T6.setTop (mkF m 33 #[.val (.int p0), .val (.int z2)] [(.int (own_inv (-2048144789 : Int32))), (.int z2)])) (fun t k => st6 t k)
  have go7 := go6.step (C := T6.setTop (mkF m 34 #[.val (.int p0), .val (.int z2)] [(.int (z2 * (own_inv (-2048144789 : Int32))))])) (fun t k => by
    show Steps p.tables e below (T6.setTop (mkF m 33 #[.val (.int p0), .val (.int z2)] [(.int (own_inv (-2048144789 : Int32))), (.int z2)])) _
    refine XS.imul X6.here hx rfl (hb hby d2_33) rfl ?_
    exact k)
  obtain ⟨z3, hz3⟩ : ∃ z : Int32, z = (z2 * (own_inv (-2048144789 : Int32))) := ⟨_, rfl⟩
  rw [← hz3] at go7
  have go8 := go7.step (C := T6.setTop (mkF m 43 #[.val (.int p0), .val (.int (z3 ^^^ (own_usr z3 (16 : Int32))))] [(.int (z3 ^^^ (own_usr z3 (16 : Int32))))])) (fun t k => by
    show Steps p.tables e below (T6.setTop (mkF m 34 #[.val (.int p0), .val (.int z2)] [(.int z3)])) _
    refine XS.istoreN X6.here hx rfl (hb hby d2_34) rfl (l' := #[.val (.int p0), .val (.int z3)]) rfl ?_
    show Steps p.tables e below (T6.setTop (mkF m 35 #[.val (.int p0), .val (.int z3)] [])) _
    refine XS.iloadN X6.here hx rfl (hb hby d2_35) rfl ?_
    show Steps p.tables e below (T6.setTop (mkF m 36 #[.val (.int p0), .val (.int z3)] [(.int z3)])) _
    refine XS.iloadN X6.here hx rfl (hb hby d2_36) rfl ?_
    show Steps p.tables e below (T6.setTop (mkF m 37 #[.val (.int p0), .val (.int z3)] [(.int z3), (.int z3)])) _
    refine XS.bipush X6.here hx rfl (hb hby d2_37) ?_
    show Steps p.tables e below (T6.setTop (mkF m 39 #[.val (.int p0), .val (.int z3)] [(.int (16 : Int32)), (.int z3), (.int z3)])) _
    refine XS.iushr X6.here hx rfl (hb hby d2_39) rfl ?_
    show Steps p.tables e below (T6.setTop (mkF m 40 #[.val (.int p0), .val (.int z3)] [(.int (own_usr z3 (16 : Int32))), (.int z3)])) _
    refine XS.ixor X6.here hx rfl (hb hby d2_40) rfl ?_
    show Steps p.tables e below (T6.setTop (mkF m 41 #[.val (.int p0), .val (.int z3)] [(.int (z3 ^^^ (own_usr z3 (16 : Int32))))])) _
    refine XS.istoreN X6.here hx rfl (hb hby d2_41) rfl (l' := #[.val (.int p0), .val (.int (z3 ^^^ (own_usr z3 (16 : Int32))))]) rfl ?_
    show Steps p.tables e below (T6.setTop (mkF m 42 #[.val (.int p0), .val (.int (z3 ^^^ (own_usr z3 (16 : Int32))))] [])) _
    refine XS.iloadN X6.here hx rfl (hb hby d2_42) rfl ?_
    exact k)
  obtain ⟨fs, hr, hrun, hended, hW, hsame⟩ := X6.leave (v := some (.int (z3 ^^^ (own_usr z3 (16 : Int32))))) (fun h => by rw [Bd.returns] at h; cases h)
  refine ⟨_, _, go8 _ ?_, hrun, hended, _, _, rfl, ?_, ⟨_, rfl⟩, hW, hsame.mono (by decide) (by decide)⟩
  · exact own_retI X6 hx Bd.returns (hb hby d2_43) hr
  · show Q_rm2 Z p0 h0 n0 _ T6.heap _
    rw [e6]
    exact ⟨by subst hz3 hz2 hz1; rfl, N6, rfl⟩
theorem pn_rm0 : plainName "com/example/gridwire/gridwire/service/PartitionerAvalanchePinLaw" = true := by first | (simp [plainName, overriddenIn]; done) | decide +kernel
theorem pd0_0 : parseMethodDescriptor "(I)I" = some ⟨[.int], some .int⟩ := by decide +kernel
theorem ef_rm0 (m : MethodId) (p0 : Int32) (p1 : Int32) : entryFrame m #[(.int p0), (.int p1)] maxLocals = mkF m 0 #[.val (.int p0), .val (.int p1), .unset, .unset] [] := by first | (simp [entryFrame, mkF, argsToLocals, Value.category, maxLocals]; done) | rfl
def Q_rm0 (Z : State) (p0 : Int32) (p1 : Int32) (h0 : Heap) (n0 : Nat) (v : Option Value) (h : Heap) (L : List Loc) : Prop := v = some (.int (1 : Int32)) ∧ Fr n0 L
set_option maxRecDepth 65536 in
set_option maxHeartbeats 40000000 in
theorem rm0 (l : Launch) (Z : State) (a0 : Array Value) (hw : ∀ d ∈ tables_1, d.before a0 Z = true) (ws : List Jvm.Cond) (p0 : Int32) (p1 : Int32) (h0 : Heap) (n0 : Nat) (Z0 : n0 ≤ h0.size) :
    MetFree l x (head1 (Jvm.Cond.code x code maxLocals ret :: ws) room_1) (fun a U => a = #[(.int p0), (.int p1)] ∧ Z.Warmed39 U.vm ∧ U.heap = h0) (fun _ _ _ _ _ => True) (fun _ U o U' => ∃ v L, o = .returned v ∧ Q_rm0 Z p0 p1 h0 n0 v U'.heap L ∧ FrameEnd U o U' L room_1.cells room_1.slots) := by
  refine MetFree.of_bodySF (plainFor_of_name pn_rm0) hisR ?_
  intro p e s m args below meth c s₁ Bd hml0 hP hK
  obtain ⟨rfl, hZ, hh⟩ := hP
  have hx := Bd.exec
  have hby := Bd.bytes
  have hml : c.maxLocals = 4 := hml0
  have hown : s.vm.findClass "com/example/gridwire/gridwire/service/PartitionerAvalanchePinLaw" = some m.cls := findClass_of_methodNamed Bd.named
  have hnm := (name_of_methodNamed Bd.named Bd.method).1
  have X0 : Stand p l e room_1 s m #[(.int p0), (.int p1)] below meth c s₁ [] 0 0 := Stand.of_body Bd
  have e0 : s₁.heap = h0 := by rw [← hh, Bd.state]; rfl
  have N0 := Fr.nil n0
  have K0 := Keep.refl h0 []
  have go0 : Go p e below (s₁.setTop (entryFrame m #[(.int p0), (.int p1)] maxLocals)) (s₁.setTop (mkF m 0 #[.val (.int p0), .val (.int p1), .unset, .unset] [])) := fun t k => castTop (ef_rm0 m p0 p1) k
  have go1 := go0.step (C := s₁.setTop (mkF m 1 #[.val (.int p0), .val (.int p1), .unset, .unset] [(.int p0)])) (fun t k => by
    show Steps p.tables e below (s₁.setTop (mkF m 0 #[.val (.int p0), .val (.int p1), .unset, .unset] [])) _
    refine XS.iloadN X0.here hx rfl (hb hby at_0) rfl ?_
    exact k)
  obtain ⟨_, _, ⟨T2, L2, k2, n2⟩, -, X2, ⟨Lc2, hQ2, l2, y2, z2⟩, st2⟩ := Jvm.LawKit.callS X0 hx (y := (⟨"com/example/gridwire/gridwire/service/Partitioner", "avalanche", "(I)I"⟩ : MethodName)) hown (mvT hZ (hw _ (List.mem_of_getElem? (i := 0) rfl))) (mvT hZ (hw _ (List.mem_of_getElem? (i := 1) rfl))) (mvT hZ (hw _ (List.mem_of_getElem? (i := 2) rfl))) (mvT hZ (hw _ (List.mem_of_getElem? (i := 3) rfl))) (by decide) (backOf (W := 0) (rm1 l Z a0 hw [] p0 h0 n0 Z0 ) hZ (hw _ (List.mem_of_getElem? (i := 3) rfl)) (hw _ (List.mem_of_getElem? (i := 2) rfl)) (by decide) (by decide)) (g := (mkF m 1 #[.val (.int p0), .val (.int p1), .unset, .unset] [(.int p0)])) rfl (by rw [hml]; rfl) (argsL := [(.int p0)]) (rest := []) (lenOf pd0_0 rfl) rfl (by show 2 * 0 + _ ≤ _; exact Nat.le_of_eq rfl) (hb hby at_1) (fun _ _ => ⟨rfl, e0, (by decide : 0 + 0 ≤ _), (by decide : 0 + 0 ≤ _)⟩)
  dsimp only [Pt.U, Pt.locs, Pt.cells, Pt.slots] at X2 l2 y2 z2 st2 hQ2
  subst l2 y2 z2
  obtain ⟨rfl, N2q, e2⟩ := hQ2
  have N2 := Fr.app N0 N2q
  have go2 := go1.step (C := T2.setTop (mkF m 4 #[.val (.int p0), .val (.int p1), .unset, .unset] [(.int (own_ava p0))])) (fun t k => st2 t k)
  obtain ⟨_, _, ⟨T3, L3, k3, n3⟩, -, X3, ⟨Lc3, hQ3, l3, y3, z3⟩, st3⟩ := Jvm.LawKit.callS X2 hx (y := (⟨"com/example/gridwire/gridwire/service/PartitionerAvalanchePinLaw", "unmix", "(I)I"⟩ : MethodName)) hown (mvT hZ (hw _ (List.mem_of_getElem? (i := 6) rfl))) (mvT hZ (hw _ (List.mem_of_getElem? (i := 7) rfl))) (mvT hZ (hw _ (List.mem_of_getElem? (i := 8) rfl))) (mvT hZ (hw _ (List.mem_of_getElem? (i := 9) rfl))) (by decide) (backOf (W := 0) (rm2 l Z a0 hw [] (own_ava p0) h0 n0 Z0 ) hZ (hw _ (List.mem_of_getElem? (i := 9) rfl)) (hw _ (List.mem_of_getElem? (i := 8) rfl)) (by decide) (by decide)) (g := (mkF m 4 #[.val (.int p0), .val (.int p1), .unset, .unset] [(.int (own_ava p0))])) rfl (by rw [hml]; rfl) (argsL := [(.int (own_ava p0))]) (rest := []) (lenOf pd0_0 rfl) rfl (by show 2 * 0 + _ ≤ _; exact Nat.le_of_eq rfl) (hb hby at_4) (fun _ _ => ⟨rfl, e2, (by decide : 0 + 0 ≤ _), (by decide : 0 + 0 ≤ _)⟩)
  dsimp only [Pt.U, Pt.locs, Pt.cells, Pt.slots] at X3 l3 y3 z3 st3 hQ3
  subst l3 y3 z3
  obtain ⟨rfl, N3q, e3⟩ := hQ3
  have N3 := Fr.app N2 N3q
  have go3 := go2.step (C := T3.setTop (mkF m 7 #[.val (.int p0), .val (.int p1), .unset, .unset] [(.int (own_unm (own_ava p0)))])) (fun t k => st3 t k)
  have go5 := go3.step (C := T3.setTop (mkF m 18 #[.val (.int p0), .val (.int p1), .val (.int (1 : Int32)), .unset] [(.int p1)])) (fun t k => by
    show Steps p.tables e below (T3.setTop (mkF m 7 #[.val (.int p0), .val (.int p1), .unset, .unset] [(.int (own_unm (own_ava p0)))])) _
    refine XS.iloadN X3.here hx rfl (hb hby at_7) rfl ?_
    show Steps p.tables e below (T3.setTop (mkF m 8 #[.val (.int p0), .val (.int p1), .unset, .unset] [(.int p0), (.int (own_unm (own_ava p0)))])) _
    refine XS.icmpNo X3.here hx rfl (hb hby at_8) rfl (teq (own_fw _ : (own_unm (own_ava p0)) = p0)).2 ?_
    show Steps p.tables e below (T3.setTop (mkF m 11 #[.val (.int p0), .val (.int p1), .unset, .unset] [])) _
    refine XS.iconst X3.here hx rfl (hb hby at_11) ?_
    show Steps p.tables e below (T3.setTop (mkF m 12 #[.val (.int p0), .val (.int p1), .unset, .unset] [(.int (1 : Int32))])) _
    refine XS.goto X3.here hx rfl (pc0 := 12) (pc' := 16) rfl (hb hby at_12) (by decide) (by decide) ?_
    show Steps p.tables e below (T3.setTop (mkF m 16 #[.val (.int p0), .val (.int p1), .unset, .unset] [(.int (1 : Int32))])) _
    refine XS.istoreN X3.here hx rfl (hb hby at_16) rfl (l' := #[.val (.int p0), .val (.int p1), .val (.int (1 : Int32)), .unset]) rfl ?_
    show Steps p.tables e below (T3.setTop (mkF m 17 #[.val (.int p0), .val (.int p1), .val (.int (1 : Int32)), .unset] [])) _
    refine XS.iloadN X3.here hx rfl (hb hby at_17) rfl ?_
    exact k)
  obtain ⟨_, _, ⟨T6, L6, k6, n6⟩, -, X6, ⟨Lc6, hQ6, l6, y6, z6⟩, st6⟩ := Jvm.LawKit.callS X3 hx (y := (⟨"com/example/gridwire/gridwire/service/PartitionerAvalanchePinLaw", "unmix", "(I)I"⟩ : MethodName)) hown (mvT hZ (hw _ (List.mem_of_getElem? (i := 6) rfl))) (mvT hZ (hw _ (List.mem_of_getElem? (i := 7) rfl))) (mvT hZ (hw _ (List.mem_of_getElem? (i := 8) rfl))) (mvT hZ (hw _ (List.mem_of_getElem? (i := 9) rfl))) (by decide) (backOf (W := 0) (rm2 l Z a0 hw [] p1 h0 n0 Z0 ) hZ (hw _ (List.mem_of_getElem? (i := 9) rfl)) (hw _ (List.mem_of_getElem? (i := 8) rfl)) (by decide) (by decide)) (g := (mkF m 18 #[.val (.int p0), .val (.int p1), .val (.int (1 : Int32)), .unset] [(.int p1)])) rfl (by rw [hml]; rfl) (argsL := [(.int p1)]) (rest := []) (lenOf pd0_0 rfl) rfl (by show 2 * 0 + _ ≤ _; exact Nat.le_of_eq rfl) (hb hby at_18) (fun _ _ => ⟨rfl, e3, (by decide : 0 + 0 ≤ _), (by decide : 0 + 0 ≤ _)⟩)
  dsimp only [Pt.U, Pt.locs, Pt.cells, Pt.slots] at X6 l6 y6 z6 st6 hQ6
  subst l6 y6 z6
  obtain ⟨rfl, N6q, e6⟩ := hQ6
  have N6 := Fr.app N3 N6q
  have go6 := go5.step (C := T6.setTop (mkF m 21 #[.val (.int p0), .val (.int p1), .val (.int (1 : Int32)), .unset] [(.int (own_unm p1))])) (fun t k => st6 t k)
  obtain ⟨_, _, ⟨T7, L7, k7, n7⟩, -, X7, ⟨Lc7, hQ7, l7, y7, z7⟩, st7⟩ := Jvm.LawKit.callS X6 hx (y := (⟨"com/example/gridwire/gridwire/service/Partitioner", "avalanche", "(I)I"⟩ : MethodName)) hown (mvT hZ (hw _ (List.mem_of_getElem? (i := 0) rfl))) (mvT hZ (hw _ (List.mem_of_getElem? (i := 1) rfl))) (mvT hZ (hw _ (List.mem_of_getElem? (i := 2) rfl))) (mvT hZ (hw _ (List.mem_of_getElem? (i := 3) rfl))) (by decide) (backOf (W := 0) (rm1 l Z a0 hw [] (own_unm p1) h0 n0 Z0 ) hZ (hw _ (List.mem_of_getElem? (i := 3) rfl)) (hw _ (List.mem_of_getElem? (i := 2) rfl)) (by decide) (by decide)) (g := (mkF m 21 #[.val (.int p0), .val (.int p1), .val (.int (1 : Int32)), .unset] [(.int (own_unm p1))])) rfl (by rw [hml]; rfl) (argsL := [(.int (own_unm p1))]) (rest := []) (lenOf pd0_0 rfl) rfl (by show 2 * 0 + _ ≤ _; exact Nat.le_of_eq rfl) (hb hby at_21) (fun _ _ => ⟨rfl, e6, (by decide : 0 + 0 ≤ _), (by decide : 0 + 0 ≤ _)⟩)
  dsimp only [Pt.U, Pt.locs, Pt.cells, Pt.slots] at X7 l7 y7 z7 st7 hQ7
  subst l7 y7 z7
  obtain ⟨rfl, N7q, e7⟩ := hQ7
  have N7 := Fr.app N6 N7q
  have go7 := go6.step (C := T7.setTop (mkF m 24 #[.val (.int p0), .val (.int p1), .val (.int (1 : Int32)), .unset] [(.int (own_ava (own_unm p1)))])) (fun t k => st7 t k)
  have go11 := go7.step (C := T7.setTop (mkF m 47 #[.val (.int p0), .val (.int p1), .val (.int (1 : Int32)), .val (.int (1 : Int32))] [(.int (1 : Int32))])) (fun t k => by
    show Steps p.tables e below (T7.setTop (mkF m 24 #[.val (.int p0), .val (.int p1), .val (.int (1 : Int32)), .unset] [(.int (own_ava (own_unm p1)))])) _
    refine XS.iloadN X7.here hx rfl (hb hby at_24) rfl ?_
    show Steps p.tables e below (T7.setTop (mkF m 25 #[.val (.int p0), .val (.int p1), .val (.int (1 : Int32)), .unset] [(.int p1), (.int (own_ava (own_unm p1)))])) _
    refine XS.icmpNo X7.here hx rfl (hb hby at_25) rfl (teq (own_bw _ : (own_ava (own_unm p1)) = p1)).2 ?_
    show Steps p.tables e below (T7.setTop (mkF m 28 #[.val (.int p0), .val (.int p1), .val (.int (1 : Int32)), .unset] [])) _
    refine XS.iconst X7.here hx rfl (hb hby at_28) ?_
    show Steps p.tables e below (T7.setTop (mkF m 29 #[.val (.int p0), .val (.int p1), .val (.int (1 : Int32)), .unset] [(.int (1 : Int32))])) _
    refine XS.goto X7.here hx rfl (pc0 := 29) (pc' := 33) rfl (hb hby at_29) (by decide) (by decide) ?_
    show Steps p.tables e below (T7.setTop (mkF m 33 #[.val (.int p0), .val (.int p1), .val (.int (1 : Int32)), .unset] [(.int (1 : Int32))])) _
    refine XS.istoreN X7.here hx rfl (hb hby at_33) rfl (l' := #[.val (.int p0), .val (.int p1), .val (.int (1 : Int32)), .val (.int (1 : Int32))]) rfl ?_
    show Steps p.tables e below (T7.setTop (mkF m 34 #[.val (.int p0), .val (.int p1), .val (.int (1 : Int32)), .val (.int (1 : Int32))] [])) _
    refine XS.iloadN X7.here hx rfl (hb hby at_34) rfl ?_
    show Steps p.tables e below (T7.setTop (mkF m 35 #[.val (.int p0), .val (.int p1), .val (.int (1 : Int32)), .val (.int (1 : Int32))] [(.int (1 : Int32))])) _
    refine XS.ifNo X7.here hx rfl (hb hby at_35) rfl ((if0 _ _).trans (feq ((by decide) : ¬ ((1 : Int32) = (0 : Int32)))).1) ?_
    show Steps p.tables e below (T7.setTop (mkF m 38 #[.val (.int p0), .val (.int p1), .val (.int (1 : Int32)), .val (.int (1 : Int32))] [])) _
    refine XS.iloadN X7.here hx rfl (hb hby at_38) rfl ?_
    show Steps p.tables e below (T7.setTop (mkF m 39 #[.val (.int p0), .val (.int p1), .val (.int (1 : Int32)), .val (.int (1 : Int32))] [(.int (1 : Int32))])) _
    refine XS.ifNo X7.here hx rfl (hb hby at_39) rfl ((if0 _ _).trans (feq ((by decide) : ¬ ((1 : Int32) = (0 : Int32)))).1) ?_
    show Steps p.tables e below (T7.setTop (mkF m 42 #[.val (.int p0), .val (.int p1), .val (.int (1 : Int32)), .val (.int (1 : Int32))] [])) _
    refine XS.iconst X7.here hx rfl (hb hby at_42) ?_
    show Steps p.tables e below (T7.setTop (mkF m 43 #[.val (.int p0), .val (.int p1), .val (.int (1 : Int32)), .val (.int (1 : Int32))] [(.int (1 : Int32))])) _
    refine XS.goto X7.here hx rfl (pc0 := 43) (pc' := 47) rfl (hb hby at_43) (by decide) (by decide) ?_
    exact k)
  obtain ⟨fs, hr, hrun, hended, hW, hsame⟩ := X7.leave (v := some (.int (1 : Int32))) (fun h => by rw [Bd.returns] at h; cases h)
  refine ⟨_, _, go11 _ ?_, hrun, hended, _, _, rfl, ?_, ⟨_, rfl⟩, hW, hsame.mono (by decide) (by decide)⟩
  · exact retN X7 hx (t := .boolean) Bd.returns (by simp) (hb hby at_47) hr
  · show Q_rm0 Z p0 p1 h0 n0 _ T7.heap _
    rw [e7]
    exact ⟨rfl, N7⟩
set_option maxRecDepth 65536 in
set_option maxHeartbeats 40000000 in
theorem comes_1 {Post : Tables → Env → Array Value → State → Outcome → State → Prop} (hpost : ∀ tb e args s v u, (limb_1_1.after args s (.returned v) u = true ∧ limb_1_2.after args s (.returned v) u = true ∧ True) → FrameEnd s (.returned v) u (Jvm.fieldLocs frame_1_writes args s ++ Jvm.arrayLocs frame_1_arrays args s ++ Jvm.staticLocs frame_1_statics s) 0 0 → Post tb e args s (.returned v) u) :
    ArmFor flags0 classFile x code maxLocals ret World_1 tables_1 room_1 Calls_1 rest_1 Pre_1 Post := by
  intro l hfl _ _ p e ha hc hk s m args below hf hA hF happ hP
  obtain ⟨hcalls, hrest, hpre⟩ := hP
  obtain ⟨-, -, -, hnamed, -, -, -, hat⟩ := (Spec.applies_iff hf).mp happ
  obtain ⟨hg, hn⟩ := and_e (Cond.before_iff.mp (show (Jvm.Cond.and given_1 narrow_1).before args s = true from hpre))
  obtain ⟨gg0, gr0⟩ := and_e hg
  obtain ⟨gg1, gr1⟩ := and_e gr0
  obtain ⟨w0, w1, rfl⟩ : ∃ w0 w1 : Value, args = #[w0, w1] := by
    have hs : args.size = 2 := by simpa [Cond.value, given_1] using gg0
    obtain ⟨L⟩ := args
    match L, hs with
    | [w0, w1], _ => exact ⟨w0, w1, rfl⟩
  have hw := fun d (hd : d ∈ tables_1) => atoms_spec (ws := Jvm.Cond.code x code maxLocals ret :: tables_1) hat d (List.mem_cons_of_mem _ hd)
  have hfit : Fit s := fun {y c} hc i hi => by
    obtain ⟨ha, rfl⟩ := Array.getElem?_eq_some_iff.mp hc
    have q := List.all_eq_true.mp ((Array.all_eq_true_iff_forall_mem.mp hF) _ (Array.getElem_mem ha)) i (List.mem_range.mpr hi)
    simpa [Array.getElem?_eq_getElem hi] using q
  obtain ⟨i0, ei0⟩ := is_v gg1
  obtain rfl : w0 = (.int i0) := Option.some.inj ei0
  obtain ⟨i1, ei1⟩ := is_v gr1
  obtain rfl : w1 = (.int i1) := Option.some.inj ei1
  obtain ⟨n, o, h1, h2, h3, _, L, rfl, ⟨rfl, N⟩, hq⟩ := rm0 l s _ hw tables_1 i0 i1  s.heap s.heap.size (Nat.le_refl _)  p e ha hc hk s m _ below hf ((Spec.applies_iff_loose hf).mp happ).1 ⟨rfl, State.Warmed39.refl s, rfl⟩ trivial
  refine ⟨n, _, h1, h2, h3, hpost _ _ _ _ _ _ ⟨Cond.after_iff.mpr rfl, Cond.after_iff.mpr (eq_i res_at (Term.int_eval (1)) rfl), trivial⟩ ⟨hq.1, hq.2.1, (hq.2.2.sift fun y hy => Or.inr (N y hy)).mono (by decide) (by decide)⟩⟩
theorem main_1_1 : Claimed_1_1 := comes_1 fun _ _ _ _ _ _ h hF => ⟨h.1, hF⟩
theorem main_1_2 : Claimed_1_2 := comes_1 fun _ _ _ _ _ _ h hF => ⟨h.2.1, hF⟩
end Jvm.Pilot.@@N@@
namespace Jvm.Pilot.@@N@@
open Jvm Jvm.ClassFile Sem Op Lib Jvm.Free Jvm.Stand Jvm.Pilot.@@N@@.Jvm.D
/-! MADE BY PROGRAM (witnessworld.py) out of the Statement's table words and the real class files: 7 classes; the members and pool entries that the words name. The judged class is class 1, her method 3. -/
namespace start1
open Jvm.ClassFile
def u (s : String) : CpInfo := .utf8 (stringToUtf16 s)
/-- a pool by its gaps: so many unusable entries, then the entry; so many at the end -/
def gap : Nat → List CpInfo → List CpInfo
  | 0, r => r
  | n + 1, r => .unusable :: gap n r
def poolList (es : List (Nat × CpInfo)) (last : Nat) : List CpInfo := es.foldr (fun e r => gap e.1 (e.2 :: r)) (gap last [])
def pool (es : List (Nat × CpInfo)) (last : Nat) : Array CpInfo := ⟨poolList es last⟩
def fileOf (pool : Array CpInfo) (this : Nat) (attrs : Array Attribute := #[]) (ms : Array MethodInfo := #[]) (fl : Nat := 33) (sup : Nat := 0) (ifs : Array Nat := #[]) (fds : Array FieldInfo := #[]) : ClassFile where
  minorVersion := 0
  majorVersion := 65
  constantPool := pool
  accessFlags := fl
  thisClass := this
  superClass := sup
  interfaces := ifs
  fields := fds
  methods := ms
  attributes := attrs
def plain (name : String) (sup : Option ClassId) : Class where
  name := name
  kind := .ordinary
  loader := none
  accessFlags := 33
  super := sup
  interfaces := #[]
  cf := none
  fields := #[]
  methods := #[]
  instanceTypes := #[]
  staticTypes := #[]
  resolved := #[]
  callSites := []
  init := .initialized
  statics := none
  mirror := none

def pool0 : Array CpInfo := pool [(5, u "<init>"), (0, u "()V"), (1, .class_ 10), (1, u "java/lang/Object")] 113

def k0m0 : Method := { name := "<init>", desc := "()V", sig := { parameters := [], returnType := none }, accessFlags := 1, code := none }
/-- java/lang/Object -/
def k0 : Class := { plain "java/lang/Object" none with
  accessFlags := 33
  interfaces := #[]
  cf := some (fileOf pool0 8 #[] #[{ accessFlags := 1, nameIndex := 5, descriptorIndex := 6, attributes := #[] }] 33 0 #[] #[])
  fields := #[]
  methods := #[k0m0]
  instanceTypes := #[]
  staticTypes := #[]
  resolved := Array.replicate 124 none
  statics := none }

def pool1 : Array CpInfo := pool [(2, .class_ 4), (1, u "java/lang/Object"), (0, u "<init>"), (0, u "()V"), (0, .integer 3266489909), (0, .methodref 9 10), (0, .class_ 11), (0, .nameAndType 12 13), (0, u "com/example/gridwire/gridwire/service/PartitionerAvalanchePinLaw"), (0, u "inverse"), (0, u "(I)I"), (0, .integer 2246822507), (0, .methodref 16 17), (0, .class_ 18), (0, .nameAndType 19 13), (0, u "com/example/gridwire/gridwire/service/Partitioner"), (0, u "avalanche"), (0, .methodref 9 21), (0, .nameAndType 22 13), (0, u "unmix"), (2, u "law"), (0, u "(II)Z")] 3

def k1m0 : Method := { name := "<init>", desc := "()V", sig := { parameters := [], returnType := none }, accessFlags := 2, code := none }
def k1c1 : Code := { maxStack := 4, maxLocals := 2, code := method_2_code, exceptionTable := #[], attributes := #[] }
def k1m1 : Method := { name := "inverse", desc := "(I)I", sig := { parameters := [.int], returnType := some .int }, accessFlags := 10, code := some k1c1 }
def k1c2 : Code := { maxStack := 3, maxLocals := 2, code := method_3_code, exceptionTable := #[], attributes := #[] }
def k1m2 : Method := { name := "unmix", desc := "(I)I", sig := { parameters := [.int], returnType := some .int }, accessFlags := 10, code := some k1c2 }
def k1c3 : Code := { maxStack := 2, maxLocals := 4, code := code, exceptionTable := #[], attributes := #[] }
def k1m3 : Method := { name := "law", desc := "(II)Z", sig := { parameters := [.int, .int], returnType := some .boolean }, accessFlags := 9, code := some k1c3 }
/-- com/example/gridwire/gridwire/service/PartitionerAvalanchePinLaw -/
def k1 : Class := { plain "com/example/gridwire/gridwire/service/PartitionerAvalanchePinLaw" (some 0) with
  accessFlags := 49
  interfaces := #[]
  cf := some (fileOf pool1 9 #[] #[{ accessFlags := 2, nameIndex := 5, descriptorIndex := 6, attributes := #[] }, { accessFlags := 10, nameIndex := 12, descriptorIndex := 13, attributes := #[] }, { accessFlags := 10, nameIndex := 22, descriptorIndex := 13, attributes := #[] }, { accessFlags := 9, nameIndex := 25, descriptorIndex := 26, attributes := #[] }] 49 2 #[] #[])
  fields := #[]
  methods := #[k1m0, k1m1, k1m2, k1m3]
  instanceTypes := #[]
  staticTypes := #[]
  resolved := Array.replicate 30 none
  statics := none }

def pool2 : Array CpInfo := pool [(4, .class_ 6), (1, u "java/lang/Object"), (0, u "<init>"), (0, u "()V"), (2, .class_ 12), (0, u "com/example/gridwire/gridwire/service/Partitioner"), (7, u "(I)I"), (12, .class_ 34), (0, u "com/example/gridwire/gridwire/service/Partitioner$SegmentHashState"), (26, u "avalanche"), (0, .integer 2246822507), (0, .integer 3266489909), (2, u "SEED"), (0, u "I"), (1, u "DATA_HEADER_LENGTH"), (1, u "C1"), (0, u "C2"), (0, u "SEGMENT_SEED"), (1, u "SEGMENT_SIZE")] 10

def k2m0 : Method := { name := "<init>", desc := "()V", sig := { parameters := [], returnType := none }, accessFlags := 2, code := none }
def k2c1 : Code := { maxStack := 3, maxLocals := 2, code := prog_62_method_8_code, exceptionTable := #[], attributes := #[] }
def k2m1 : Method := { name := "avalanche", desc := "(I)I", sig := { parameters := [.int], returnType := some .int }, accessFlags := 8, code := some k2c1 }
/-- com/example/gridwire/gridwire/service/Partitioner -/
def k2 : Class := { plain "com/example/gridwire/gridwire/service/Partitioner" (some 0) with
  accessFlags := 33
  interfaces := #[]
  cf := some (fileOf pool2 11 #[.nestMembers #[33]] #[{ accessFlags := 2, nameIndex := 7, descriptorIndex := 8, attributes := #[] }, { accessFlags := 8, nameIndex := 61, descriptorIndex := 20, attributes := #[] }] 33 4 #[] #[{ accessFlags := 26, nameIndex := 66, descriptorIndex := 67, attributes := #[] }, { accessFlags := 26, nameIndex := 69, descriptorIndex := 67, attributes := #[] }, { accessFlags := 26, nameIndex := 71, descriptorIndex := 67, attributes := #[] }, { accessFlags := 26, nameIndex := 72, descriptorIndex := 67, attributes := #[] }, { accessFlags := 26, nameIndex := 73, descriptorIndex := 67, attributes := #[] }, { accessFlags := 26, nameIndex := 75, descriptorIndex := 67, attributes := #[] }])
  fields := #[{ name := "SEED", type := .int, accessFlags := 26, slot := 0, constantValue := 0 }, { name := "DATA_HEADER_LENGTH", type := .int, accessFlags := 26, slot := 1, constantValue := 0 }, { name := "C1", type := .int, accessFlags := 26, slot := 2, constantValue := 0 }, { name := "C2", type := .int, accessFlags := 26, slot := 3, constantValue := 0 }, { name := "SEGMENT_SEED", type := .int, accessFlags := 26, slot := 4, constantValue := 0 }, { name := "SEGMENT_SIZE", type := .int, accessFlags := 26, slot := 5, constantValue := 0 }]
  methods := #[k2m0, k2m1]
  instanceTypes := #[]
  staticTypes := #[.int, .int, .int, .int, .int, .int]
  resolved := Array.replicate 86 none
  statics := none }

def pool3 : Array CpInfo := pool [(1, u "java/lang/Cloneable"), (0, .class_ 1), (0, u "java/lang/Object"), (0, .class_ 3)] 3

/-- java/lang/Cloneable -/
def k3 : Class := { plain "java/lang/Cloneable" (some 0) with
  accessFlags := 1537
  interfaces := #[]
  cf := some (fileOf pool3 2 #[] #[] 1537 4 #[] #[])
  fields := #[]
  methods := #[]
  instanceTypes := #[]
  staticTypes := #[]
  resolved := Array.replicate 8 none
  statics := none }

def pool4 : Array CpInfo := pool [(1, u "java/io/Serializable"), (0, .class_ 1), (0, u "java/lang/Object"), (0, .class_ 3)] 3

/-- java/io/Serializable -/
def k4 : Class := { plain "java/io/Serializable" (some 0) with
  accessFlags := 1537
  interfaces := #[]
  cf := some (fileOf pool4 2 #[] #[] 1537 4 #[] #[])
  fields := #[]
  methods := #[]
  instanceTypes := #[]
  staticTypes := #[]
  resolved := Array.replicate 8 none
  statics := none }

/-- the primitive byte -/
def k5 : Class := { plain "byte" none with kind := .primitive 'B', accessFlags := 0x411 }
/-- [B -/
def k6 : Class := { plain "[B" (some 0) with kind := .array 5 .byte, interfaces := #[3, 4], accessFlags := 1041 }

def heap : Heap := #[]
def classes : Array Class := #[k0, k1, k2, k3, k4, k5, k6]
def interned : List (Array UInt16 × Addr) := []
def slotsUsed : Nat := 0
def theMethod : MethodId := ⟨1, 3⟩
def args0 : Array Value := #[.int 5, .int 7]
def aboutOver (below : List Frame) : State where
  vm := { classes := classes, interned := interned.toArray }
  heap := heap
  slotsUsed := slotsUsed
  threads := #[{ frames := .invoking theMethod args0 :: below }]
def below0 : List Frame := [.native { method := ⟨0, 0⟩, args := #[] }]
def about1 : State := aboutOver below0
def p0 : Program := .bare "" "" ""
def e0 : Env := launch0.env 0 0 0
theorem w_frames : about1.frames = Frame.invoking theMethod args0 :: below0 := rfl
set_option maxRecDepth 65536 in
theorem w_args : argsFit about1.vm theMethod args0 = true := by decide +kernel
set_option maxRecDepth 65536 in
theorem w_heap : heapFits about1 = true := by decide +kernel
set_option maxRecDepth 65536 in
theorem w_runnable : about1.curStatus? = some .runnable := by decide +kernel
set_option maxRecDepth 65536 in
theorem w_alone : about1.alone = true := by decide +kernel
set_option maxRecDepth 65536 in
theorem w_named : about1.methodNamed? x = some theMethod := by decide +kernel
set_option maxRecDepth 65536 in
theorem w_hears : about1.hears theMethod below0 = true := by decide +kernel
set_option maxRecDepth 65536 in
theorem w_ripe : about1.ripe theMethod args0 below0 = true := by decide +kernel
theorem w_running : about1.status = .running := rfl
set_option maxRecDepth 65536 in
theorem w_room : about1.hasRoom e0.platform room_1 = true :=
  launch0.hasRoom_least _ room_1 (by decide +kernel) (by decide +kernel) (by decide +kernel) (by decide +kernel) (by decide +kernel) (by decide +kernel)
theorem allAtoms_all (ts : List Jvm.Cond) (a : Array Jvm.Value) (st : Jvm.State) : (allAtoms ts).before a st = ts.all (fun c => c.before a st) := by
  induction ts with
  | nil => rfl
  | cons c t ih =>
    show (Jvm.Cond.and c (allAtoms t)).before a st = _
    rw [Jvm.Cond.before_and, ih, List.all_cons]
def words1 : List Jvm.Cond := Jvm.Cond.code x code maxLocals ret :: tables_1
/-- a 'code' word, met by the world's own term for the bytes: nothing is compared byte by byte -/
theorem code_word {y : MethodName} {bytes : ByteArray} {mx : Nat} {rt : Option FieldType} {a : Array Value} {s : State} {m : MethodId} {meth : Method} {c : Code} (h1 : s.methodNamed? y = some m) (h2 : s.vm.method? m = some meth) (h3 : meth.code = some c) (h4 : c.code = bytes)
    (h5 : (c.maxLocals == mx && c.exceptionTable.isEmpty && decide (c.maxStack ≤ mostOperands) && decide (meth.sig.returnType = rt) && !meth.locks && decide (parseMethodDescriptor y.desc = some meth.sig)) = true) : (Jvm.Cond.code y bytes mx rt).before a s = true := by
  simp only [Bool.and_eq_true, beq_iff_eq, Bool.not_eq_true', decide_eq_true_eq] at h5
  obtain ⟨⟨⟨⟨⟨g1, g2⟩, g3⟩, g4⟩, g5⟩, g6⟩ := h5
  simp [Cond.before, Cond.holds, Cond.value, h1, h2, h3, h4, g1, g2, g3, g4, g5, g6]
def isCode : Jvm.Cond → Bool
  | .code _ _ _ _ => true
  | _ => false
theorem all_split {L : List Jvm.Cond} {P : Jvm.Cond → Bool} (h1 : L.all (fun c => isCode c || P c) = true) (h2 : ∀ c ∈ L.filter isCode, P c = true) : L.all P = true := by
  refine List.all_eq_true.mpr fun c hc => ?_
  have h := List.all_eq_true.mp h1 c hc
  rcases Bool.eq_false_or_eq_true (isCode c) with hi | hi
  · exact h2 c (List.mem_filter.mpr ⟨hc, hi⟩)
  · simpa [hi] using h
set_option maxRecDepth 65536 in
theorem w_c0 : (Jvm.Cond.code x code maxLocals ret).before args0 about1 = true := code_word (m := ⟨1, 3⟩) (meth := k1m3) (c := k1c3) (by decide +kernel) rfl rfl rfl (by decide +kernel)
set_option maxRecDepth 65536 in
theorem w_c1 : (Jvm.Cond.code ({ cls := "com/example/gridwire/gridwire/service/Partitioner", name := "avalanche", desc := "(I)I" } : Jvm.MethodName) prog_62_method_8_code (2 : Nat) (Option.some Jvm.ClassFile.FieldType.int)).before args0 about1 = true := code_word (m := ⟨2, 1⟩) (meth := k2m1) (c := k2c1) (by decide +kernel) rfl rfl rfl (by decide +kernel)
set_option maxRecDepth 65536 in
theorem w_c2 : (Jvm.Cond.code ({ cls := "com/example/gridwire/gridwire/service/PartitionerAvalanchePinLaw", name := "unmix", desc := "(I)I" } : Jvm.MethodName) method_3_code (2 : Nat) (Option.some Jvm.ClassFile.FieldType.int)).before args0 about1 = true := code_word (m := ⟨1, 2⟩) (meth := k1m2) (c := k1c2) (by decide +kernel) rfl rfl rfl (by decide +kernel)
set_option maxRecDepth 65536 in
theorem w_c3 : (Jvm.Cond.code ({ cls := "com/example/gridwire/gridwire/service/PartitionerAvalanchePinLaw", name := "inverse", desc := "(I)I" } : Jvm.MethodName) method_2_code (2 : Nat) (Option.some Jvm.ClassFile.FieldType.int)).before args0 about1 = true := code_word (m := ⟨1, 1⟩) (meth := k1m1) (c := k1c1) (by decide +kernel) rfl rfl rfl (by decide +kernel)
def codes1 : List Jvm.Cond := [Jvm.Cond.code x code maxLocals ret, Jvm.Cond.code ({ cls := "com/example/gridwire/gridwire/service/Partitioner", name := "avalanche", desc := "(I)I" } : Jvm.MethodName) prog_62_method_8_code (2 : Nat) (Option.some Jvm.ClassFile.FieldType.int), Jvm.Cond.code ({ cls := "com/example/gridwire/gridwire/service/PartitionerAvalanchePinLaw", name := "unmix", desc := "(I)I" } : Jvm.MethodName) method_3_code (2 : Nat) (Option.some Jvm.ClassFile.FieldType.int), Jvm.Cond.code ({ cls := "com/example/gridwire/gridwire/service/PartitionerAvalanchePinLaw", name := "inverse", desc := "(I)I" } : Jvm.MethodName) method_2_code (2 : Nat) (Option.some Jvm.ClassFile.FieldType.int)]
set_option maxRecDepth 65536 in
theorem codes_eq : words1.filter isCode = codes1 := rfl
theorem w_codes : ∀ c ∈ words1.filter isCode, c.before args0 about1 = true := by
  rw [codes_eq]
  intro c hc
  simp only [codes1, List.mem_cons, List.not_mem_nil, or_false] at hc
  rcases hc with rfl | rfl | rfl | rfl
  · exact w_c0
  · exact w_c1
  · exact w_c2
  · exact w_c3
set_option maxRecDepth 65536 in
theorem w_t1 : words1.all (fun c => isCode c || c.before args0 about1) = true := by decide +kernel
theorem w_tables : (allAtoms (Jvm.Cond.code x code maxLocals ret :: tables_1)).before args0 about1 = true := by
  rw [allAtoms_all]
  show words1.all (fun c => c.before args0 about1) = true
  refine all_split ?_ w_codes
  rw [w_t1]
set_option maxRecDepth 65536 in
theorem w_case : (Jvm.Cond.and given_1 narrow_1).before args0 about1 = true := by decide +kernel
theorem w_applies : (headSpec (Jvm.Cond.code x code maxLocals ret :: tables_1) room_1).applies x e0.platform about1 = true :=
  (Spec.applies_iff w_frames).mpr ⟨w_running, w_runnable, w_alone, w_named, w_hears, w_ripe, w_room, w_tables⟩
theorem atStart : AtStart classFile x code maxLocals ret World_1 tables_1 room_1 Calls_1 rest_1 Pre_1 launch0 p0 e0 about1 theMethod args0 below0 :=
  ⟨lists_1, trivial, launch0.admits_env _ _ _, launch0.least_env, fairChoices_fair.cas, fairChoices_fair.clock, w_frames, w_args, w_heap, w_applies, trivial, trivial, w_case⟩
end start1
theorem witness_1 : WitnessClaimed_1 := ⟨start1.p0, start1.e0, start1.about1, start1.theMethod, start1.args0, start1.below0, start1.atStart⟩
end Jvm.Pilot.@@N@@
